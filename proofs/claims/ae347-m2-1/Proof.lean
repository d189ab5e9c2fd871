import JvmDerived
import JvmDerived.Pilot.@@N@@Statement
import JvmDerived.Pilot.@@N@@Code
set_option linter.unusedVariables false
set_option linter.unusedSimpArgs false
namespace Jvm.RoadKit
open Sem ClassFile Op Lib Jvm.Stand Jvm.Free Jvm.LawKit
section New
variable {p : Program} {l : Launch} {e : Env} {R : Room} {s : State} {m : MethodId} {args : Array Value} {below : List Frame} {meth : Method} {c : Code} {T : State} {locs : List Loc} {cells slots : Nat}
theorem retI (X : Stand p l e R s m args below meth c T locs cells slots) (hx : p.tables.exec = Jvm.exec) {pc : Nat} {Ls : Array Slot} {z : Int32} {rest : List Value} (hret : meth.sig.returnType = some .int) (hd : decode c.code pc = .ok (.ireturn, 1)) {fs : List Frame}
    (hl : ∀ (f : JFrame) (acts : List Action), f.method = m → f.locked = none → f.entered = [] → (doReturn e (T.setTop f) acts (some (.int z))).1 = T.setFrames fs) : Steps p.tables e below (T.setTop (mkF m pc Ls (.int z :: rest))) (T.setFrames fs) := by
  have hm' : T.vm.method? m = some meth := X.method'
  have hn : narrow .int (.int z) = .int z := rfl
  show Steps p.tables e below (T.setTop { method := m, pc := pc, locals := Ls, stack := _ :: rest, locked := none }) _
  jvm_step X.here [X.here.top, hx, hd, hm', hret, hn]
  first | (intro acts; rw [hl _ acts rfl rfl rfl]) | rw [hl _ _ rfl rfl rfl]
  exact Steps.refl _
abbrev vI (x : Int32) : Slot := .val (.int x)
abbrev vJ (x : Int64) : Slot := .val (.long x)
abbrev vR (x : Addr) : Slot := .val (.ref x)
abbrev iI (x : Int32) : Value := .int x
abbrev iJ (x : Int64) : Value := .long x
abbrev iR (x : Addr) : Value := .ref x
/-- from one frame to another over the same heap -/
def own_Mid (X : Stand p l e R s m args below meth c T locs cells slots) (h : Heap) (F F' : JFrame) : Prop :=
  ∃ T', Stand p l e R s m args below meth c T' locs cells slots ∧ T'.heap = h ∧ ∀ t, Steps p.tables e below (T'.setTop F') t → Steps p.tables e below (T.setTop F) t
/-- a private method is its own choice: its class is made by 'new' -/
theorem own_selPriv {s : State} {args : Array Value} {y : MethodName} {n : Nat} (hi : (Cond.instantiable y.cls n).before args s = true) (hpriv : s.PrivateAt y) (hinst : (Cond.instanceMethod y).before args s = true) (hy : y.cls ≠ "java/lang/invoke/MethodHandle" ∧ y.cls ≠ "java/lang/invoke/VarHandle") : (Cond.selects y.cls y y).before args s = true := by
  obtain ⟨c, k, h1, h2, -, h4, -, -⟩ := Cond.instantiable_spec hi
  exact Stand.selects_self_of_private h1 h2 (Bool.or_eq_false_iff.mp h4).1 hpriv hinst hy
end New
end Jvm.RoadKit
namespace Jvm.Pilot.@@N@@
open Jvm Jvm.ClassFile Sem Op Lib Jvm.Free Jvm.Stand Jvm.LawKit Jvm.RoadKit Bundle Jvm.Pilot.@@N@@.Jvm.D
theorem pd_0 : parseMethodDescriptor "()V" = some ⟨[], none⟩ := by decide +kernel
theorem pd_1 : parseMethodDescriptor "(Ljava/lang/String;JLjava/lang/String;Lcom/example/threefold/threefold/protocol/ActivationStatus;JILjava/lang/String;Lcom/example/threefold/threefold/protocol/ActivationCode;Lcom/example/threefold/threefold/store/Device;J)V" = some ⟨[(.object "java/lang/String"), .long, (.object "java/lang/String"), (.object "com/example/threefold/threefold/protocol/ActivationStatus"), .long, .int, (.object "java/lang/String"), (.object "com/example/threefold/threefold/protocol/ActivationCode"), (.object "com/example/threefold/threefold/store/Device"), .long], none⟩ := by decide +kernel
theorem pd_2 : parseMethodDescriptor "(Lcom/example/threefold/threefold/protocol/ActivationStatus;ILjava/lang/String;)Lcom/example/threefold/threefold/store/Activation;" = some ⟨[(.object "com/example/threefold/threefold/protocol/ActivationStatus"), .int, (.object "java/lang/String")], some (.object "com/example/threefold/threefold/store/Activation")⟩ := by decide +kernel
theorem pd_3 : parseMethodDescriptor "([CI[BII)I" = some ⟨[(.array .char), .int, (.array .byte), .int, .int], some .int⟩ := by decide +kernel
theorem pd_4 : parseMethodDescriptor "([CII)[B" = some ⟨[(.array .char), .int, .int], some (.array .byte)⟩ := by decide +kernel
theorem pd_5 : parseMethodDescriptor "([BI)B" = some ⟨[(.array .byte), .int], some .byte⟩ := by decide +kernel
theorem pd_6 : parseMethodDescriptor "([CIILjava/lang/Void;)V" = some ⟨[(.array .char), .int, .int, (.object "java/lang/Void")], none⟩ := by decide +kernel
theorem pd_7 : parseMethodDescriptor "(I)Lcom/example/threefold/threefold/protocol/ActivationStatus;" = some ⟨[.int], some (.object "com/example/threefold/threefold/protocol/ActivationStatus")⟩ := by decide +kernel
theorem pd_8 : parseMethodDescriptor "([B[B[BLjava/lang/String;Ljava/lang/String;)V" = some ⟨[(.array .byte), (.array .byte), (.array .byte), (.object "java/lang/String"), (.object "java/lang/String")], none⟩ := by decide +kernel
theorem pd_9 : parseMethodDescriptor "([C)V" = some ⟨[(.array .char)], none⟩ := by decide +kernel
theorem pd_10 : parseMethodDescriptor "()Z" = some ⟨[], some .boolean⟩ := by decide +kernel
theorem pd_11 : parseMethodDescriptor "(JI)Lcom/example/threefold/threefold/store/Activation;" = some ⟨[.long, .int], some (.object "com/example/threefold/threefold/store/Activation")⟩ := by decide +kernel
theorem pd_12 : parseMethodDescriptor "()Lcom/example/threefold/threefold/store/Activation;" = some ⟨[], some (.object "com/example/threefold/threefold/store/Activation")⟩ := by decide +kernel
theorem pd_13 : parseMethodDescriptor "(Ljava/lang/String;)Lcom/example/threefold/threefold/store/Activation;" = some ⟨[(.object "java/lang/String")], some (.object "com/example/threefold/threefold/store/Activation")⟩ := by decide +kernel
theorem pd_14 : parseMethodDescriptor "(Lcom/example/threefold/threefold/store/Device;)Lcom/example/threefold/threefold/store/Activation;" = some ⟨[(.object "com/example/threefold/threefold/store/Device")], some (.object "com/example/threefold/threefold/store/Activation")⟩ := by decide +kernel

theorem own_rem (x y : Int32) (d : Int) (hy : y.toInt = d) (hd : 0 < d) : 0 ≤ ((x &&& 2147483647) % y).toInt ∧ ((x &&& 2147483647) % y).toInt < d := by
  have h0 : 0 ≤ (x &&& 2147483647).toInt := (c_and x 2147483647 (by decide)).1
  rw [(c_irem (x &&& 2147483647) y d hy).1 h0]
  exact ⟨Int.emod_nonneg _ (by omega), Int.emod_lt_of_pos _ hd⟩

theorem own_small5 (v : Int32) (h0 : 0 ≤ v.toInt) (h1 : v.toInt < 5) : v = 0 ∨ v = 1 ∨ v = 2 ∨ v = 3 ∨ v = 4 := by
  have h : v.toInt = 0 ∨ v.toInt = 1 ∨ v.toInt = 2 ∨ v.toInt = 3 ∨ v.toInt = 4 := by omega
  rcases h with h | h | h | h | h
  · exact Or.inl (Int32.toInt_inj.mp (h.trans (by decide)))
  · exact Or.inr (Or.inl (Int32.toInt_inj.mp (h.trans (by decide))))
  · exact Or.inr (Or.inr (Or.inl (Int32.toInt_inj.mp (h.trans (by decide)))))
  · exact Or.inr (Or.inr (Or.inr (Or.inl (Int32.toInt_inj.mp (h.trans (by decide))))))
  · exact Or.inr (Or.inr (Or.inr (Or.inr ((Int32.toInt_inj.mp (h.trans (by decide)))))))

theorem own_small6 (v : Int32) (h0 : 0 ≤ v.toInt) (h1 : v.toInt < 6) : v = 0 ∨ v = 1 ∨ v = 2 ∨ v = 3 ∨ v = 4 ∨ v = 5 := by
  have h : v.toInt = 0 ∨ v.toInt = 1 ∨ v.toInt = 2 ∨ v.toInt = 3 ∨ v.toInt = 4 ∨ v.toInt = 5 := by omega
  rcases h with h | h | h | h | h | h
  · exact Or.inl (Int32.toInt_inj.mp (h.trans (by decide)))
  · exact Or.inr (Or.inl (Int32.toInt_inj.mp (h.trans (by decide))))
  · exact Or.inr (Or.inr (Or.inl (Int32.toInt_inj.mp (h.trans (by decide)))))
  · exact Or.inr (Or.inr (Or.inr (Or.inl (Int32.toInt_inj.mp (h.trans (by decide))))))
  · exact Or.inr (Or.inr (Or.inr (Or.inr (Or.inl (Int32.toInt_inj.mp (h.trans (by decide)))))))
  · exact Or.inr (Or.inr (Or.inr (Or.inr (Or.inr ((Int32.toInt_inj.mp (h.trans (by decide))))))))

theorem own_small2 (v : Int32) (h0 : 0 ≤ v.toInt) (h1 : v.toInt < 2) : v = 0 ∨ v = 1 := by
  have h : v.toInt = 0 ∨ v.toInt = 1 := by omega
  rcases h with h | h
  · exact Or.inl (Int32.toInt_inj.mp (h.trans (by decide)))
  · exact Or.inr ((Int32.toInt_inj.mp (h.trans (by decide))))

theorem d9_0 : decode jdk_30_method_1_code 0 = .ok (.aload_n 0, 1) := by decide +kernel
theorem d9_1 : decode jdk_30_method_1_code 1 = .ok (.invokespecial 1, 3) := by decide +kernel
theorem d9_4 : decode jdk_30_method_1_code 4 = .ok (.return_, 1) := by decide +kernel
theorem pn_0 : plainName "java/lang/Record" = true := by first | (simp [plainName, overriddenIn]; done) | decide +kernel
theorem ef_9 (m : MethodId) (x0 : Addr) : entryFrame m #[(.ref x0)] 1 = mkF m 0 #[.val (.ref x0)] [] := by first | (simp [entryFrame, mkF, argsToLocals, Value.category]; done) | rfl
def Q9 (Z : State) (a1 : Addr) (h0 : Heap) (v : Option Value) (h : Heap) (L : List Loc) : Prop := v = none ∧ L = [] ∧ h = h0
set_option maxRecDepth 65536 in
set_option maxHeartbeats 40000000 in
theorem rm9 (l : Launch) (Z : State) (a0 : Array Value) (hw : ∀ d ∈ tables_1, d.before a0 Z = true) (ws : List Jvm.Cond) (a1 : Addr) (h0 : Heap) :
    MetFree l (⟨"java/lang/Record", "<init>", "()V"⟩ : MethodName) (head1 (Jvm.Cond.code (⟨"java/lang/Record", "<init>", "()V"⟩ : MethodName) jdk_30_method_1_code 1 none :: ws) ({ frames := 1, cells := 0, slots := 0, locals := 12 } : Room)) (fun a U => a = #[(.ref a1)] ∧ Z.Warmed39 U.vm ∧ U.heap = h0) (fun _ _ _ _ _ => True) (fun _ U o U' => ∃ v L, o = .returned v ∧ Q9 Z a1 h0 v U'.heap L ∧ FrameEnd U o U' L ({ frames := 1, cells := 0, slots := 0, locals := 12 } : Room).cells ({ frames := 1, cells := 0, slots := 0, locals := 12 } : Room).slots) := by
  refine MetFree.of_bodySF (plainFor_of_name pn_0) hisR ?_
  intro p e s m args below meth c s₁ Bd hml0 hP hK
  obtain ⟨rfl, hZ, hh⟩ := hP
  have hx := Bd.exec
  have hby := Bd.bytes
  have hml : c.maxLocals = 1 := hml0
  have hown : s.vm.findClass "java/lang/Record" = some m.cls := findClass_of_methodNamed Bd.named
  have hnm := (name_of_methodNamed Bd.named Bd.method).1
  have X0 : Stand p l e ({ frames := 1, cells := 0, slots := 0, locals := 12 } : Room) s m #[(.ref a1)] below meth c s₁ [] 0 0 := Stand.of_body Bd
  have e0 : s₁.heap = h0 := by rw [← hh, Bd.state]; rfl
  have pre0 : ∀ t, Steps p.tables e below (s₁.setTop (mkF m 0 #[.val (.ref a1)] [])) t → Steps p.tables e below (s₁.setTop (entryFrame m #[(.ref a1)] 1)) t := fun t k => castTop (ef_9 m a1) k
  obtain ⟨T1, X1, e1, st1⟩ := initO X0 hx hZ hown (hw _ (List.mem_of_getElem? (i := 49) rfl)) (hw _ (List.mem_of_getElem? (i := 23) rfl)) (hw _ (List.mem_of_getElem? (i := 24) rfl)) e0 (g := (mkF m 1 #[vR a1] [iR a1])) rfl (by rw [hml]; rfl) rfl (hb hby d9_1) (by decide) (W := 0) (by show 2 * 0 + _ ≤ _; exact Nat.le_of_eq rfl) (by decide)
  obtain ⟨fs, hr, hrun, hended, hW, hsame⟩ := X1.leave (v := none) (fun _ => rfl)
  refine ⟨_, _, pre0 _ ?_, hrun, hended, _, _, rfl, ?_, ⟨_, rfl⟩, hW, hsame.mono (by decide) (by decide)⟩
  · show Steps _ _ _ (s₁.setTop (mkF m 0 #[vR a1] [])) _
    refine XS.aloadN X0.here hx rfl (hb hby d9_0) rfl rfl ?_
    show Steps _ _ _ (s₁.setTop (mkF m 1 #[vR a1] [iR a1])) _
    refine st1 _ ?_
    show Steps _ _ _ (T1.setTop (mkF m 4 #[vR a1] [])) _
    exact X1.returnOut hx Bd.returns (hb hby d9_4) hr
  · show Q9 Z a1 h0 _ T1.heap _
    rw [e1]
    exact ⟨rfl, rfl, rfl⟩
def own_pick (k : Int32) (s_CREATED s_OTP_USED s_ACTIVE s_BLOCKED s_REMOVED : Addr) : Addr := if k = 0 then s_CREATED else if k = 1 then s_OTP_USED else if k = 2 then s_ACTIVE else if k = 3 then s_BLOCKED else s_REMOVED
theorem d1_0 : decode method_2_code 0 = .ok (.iload_n 0, 1) := by decide +kernel
theorem d1_1 : decode method_2_code 1 = .ok (.ifCond .ne 7, 3) := by decide +kernel
theorem d1_4 : decode method_2_code 4 = .ok (.getstatic 7, 3) := by decide +kernel
theorem d1_7 : decode method_2_code 7 = .ok (.areturn, 1) := by decide +kernel
theorem pn_1 : plainName "com/example/threefold/threefold/store/ActivationHasKeysPinLaw" = true := by first | (simp [plainName, overriddenIn]; done) | decide +kernel
theorem ef_1_0 (m : MethodId)  : entryFrame m #[(.int (0 : Int32))] 1 = mkF m 0 #[.val (.int (0 : Int32))] [] := by first | (simp [entryFrame, mkF, argsToLocals, Value.category]; done) | rfl
def Q1_0 (Z : State) (s_CREATED : Addr) (s_OTP_USED : Addr) (s_ACTIVE : Addr) (s_BLOCKED : Addr) (s_REMOVED : Addr) (h0 : Heap) (v : Option Value) (h : Heap) (L : List Loc) : Prop := v = some (.ref (own_pick (0 : Int32) s_CREATED s_OTP_USED s_ACTIVE s_BLOCKED s_REMOVED)) ∧ L = [] ∧ h = h0
set_option maxRecDepth 65536 in
set_option maxHeartbeats 40000000 in
theorem rm1_0 (l : Launch) (Z : State) (a0 : Array Value) (hw : ∀ d ∈ tables_1, d.before a0 Z = true) (ws : List Jvm.Cond) (s_CREATED : Addr) (s_OTP_USED : Addr) (s_ACTIVE : Addr) (s_BLOCKED : Addr) (s_REMOVED : Addr) (h0 : Heap) (n0 : Nat) (O0 : Old Z n0 h0) (S_CREATED : Sta Z Z.heap "com/example/threefold/threefold/protocol/ActivationStatus" "CREATED" "Lcom/example/threefold/threefold/protocol/ActivationStatus;" (.ref s_CREATED)) (S_OTP_USED : Sta Z Z.heap "com/example/threefold/threefold/protocol/ActivationStatus" "OTP_USED" "Lcom/example/threefold/threefold/protocol/ActivationStatus;" (.ref s_OTP_USED)) (S_ACTIVE : Sta Z Z.heap "com/example/threefold/threefold/protocol/ActivationStatus" "ACTIVE" "Lcom/example/threefold/threefold/protocol/ActivationStatus;" (.ref s_ACTIVE)) (S_BLOCKED : Sta Z Z.heap "com/example/threefold/threefold/protocol/ActivationStatus" "BLOCKED" "Lcom/example/threefold/threefold/protocol/ActivationStatus;" (.ref s_BLOCKED)) (S_REMOVED : Sta Z Z.heap "com/example/threefold/threefold/protocol/ActivationStatus" "REMOVED" "Lcom/example/threefold/threefold/protocol/ActivationStatus;" (.ref s_REMOVED)) :
    MetFree l (⟨"com/example/threefold/threefold/store/ActivationHasKeysPinLaw", "pick", "(I)Lcom/example/threefold/threefold/protocol/ActivationStatus;"⟩ : MethodName) (head1 (Jvm.Cond.code (⟨"com/example/threefold/threefold/store/ActivationHasKeysPinLaw", "pick", "(I)Lcom/example/threefold/threefold/protocol/ActivationStatus;"⟩ : MethodName) method_2_code 1 (some (.object "com/example/threefold/threefold/protocol/ActivationStatus")) :: ws) ({ frames := 0, cells := 0, slots := 0, locals := 0 } : Room)) (fun a U => a = #[(.int (0 : Int32))] ∧ Z.Warmed39 U.vm ∧ U.heap = h0) (fun _ _ _ _ _ => True) (fun _ U o U' => ∃ v L, o = .returned v ∧ Q1_0 Z s_CREATED s_OTP_USED s_ACTIVE s_BLOCKED s_REMOVED h0 v U'.heap L ∧ FrameEnd U o U' L ({ frames := 0, cells := 0, slots := 0, locals := 0 } : Room).cells ({ frames := 0, cells := 0, slots := 0, locals := 0 } : Room).slots) := by
  refine MetFree.of_bodySF (plainFor_of_name pn_1) hisR ?_
  intro p e s m args below meth c s₁ Bd hml0 hP hK
  obtain ⟨rfl, hZ, hh⟩ := hP
  have hx := Bd.exec
  have hby := Bd.bytes
  have hml : c.maxLocals = 1 := hml0
  have hown : s.vm.findClass "com/example/threefold/threefold/store/ActivationHasKeysPinLaw" = some m.cls := findClass_of_methodNamed Bd.named
  have hnm := (name_of_methodNamed Bd.named Bd.method).1
  have X0 : Stand p l e ({ frames := 0, cells := 0, slots := 0, locals := 0 } : Room) s m #[(.int (0 : Int32))] below meth c s₁ [] 0 0 := Stand.of_body Bd
  have e0 : s₁.heap = h0 := by rw [← hh, Bd.state]; rfl
  have pre0 : ∀ t, Steps p.tables e below (s₁.setTop (mkF m 0 #[.val (.int (0 : Int32))] [])) t → Steps p.tables e below (s₁.setTop (entryFrame m #[(.int (0 : Int32))] 1)) t := fun t k => castTop (ef_1_0 m ) k
  obtain ⟨T1, X1, e1, st1⟩ := getS2 X0 hx hZ hown (host := "") (Or.inl (hw _ (List.mem_of_getElem? (i := 5) rfl))) Via.refl e0 (S_CREATED.ext O0.2) (g := (mkF m 4 #[vI 0] [])) rfl (hb hby d1_4)
  obtain ⟨fs, hr, hrun, hended, hW, hsame⟩ := X1.leave (v := some (.ref s_CREATED)) (fun h => by rw [Bd.returns] at h; cases h)
  refine ⟨_, _, pre0 _ ?_, hrun, hended, _, _, rfl, ?_, ⟨_, rfl⟩, hW, hsame.mono (by decide) (by decide)⟩
  · show Steps _ _ _ (s₁.setTop (mkF m 0 #[vI 0] [])) _
    refine XS.iloadN X0.here hx rfl (hb hby d1_0) rfl ?_
    show Steps _ _ _ (s₁.setTop (mkF m 1 #[vI 0] [iI 0])) _
    refine XS.ifNo X0.here hx rfl (hb hby d1_1) rfl ((if0 _ _).trans (teq (by decide : (0 : Int32) = (0 : Int32))).2) ?_
    show Steps _ _ _ (s₁.setTop (mkF m 4 #[vI 0] [])) _
    refine st1 _ ?_
    show Steps _ _ _ (T1.setTop (mkF m 7 #[vI 0] [iR s_CREATED])) _
    jvm_step X1.here [X1.here.top, hx, (hb hby d1_7), X1.method', Bd.returns, Value.isRef, FieldType.isReference]
    first | (intro acts; rw [hr _ acts rfl rfl rfl]) | rw [hr _ _ rfl rfl rfl]
    exact Steps.refl _
  · show Q1_0 Z s_CREATED s_OTP_USED s_ACTIVE s_BLOCKED s_REMOVED h0 _ T1.heap _
    rw [e1]
    exact ⟨rfl, rfl, rfl⟩

theorem d1_8 : decode method_2_code 8 = .ok (.iload_n 0, 1) := by decide +kernel
theorem d1_9 : decode method_2_code 9 = .ok (.iconst 1, 1) := by decide +kernel
theorem d1_10 : decode method_2_code 10 = .ok (.if_icmp .ne 7, 3) := by decide +kernel
theorem d1_13 : decode method_2_code 13 = .ok (.getstatic 13, 3) := by decide +kernel
theorem d1_16 : decode method_2_code 16 = .ok (.areturn, 1) := by decide +kernel
theorem ef_1_1 (m : MethodId)  : entryFrame m #[(.int (1 : Int32))] 1 = mkF m 0 #[.val (.int (1 : Int32))] [] := by first | (simp [entryFrame, mkF, argsToLocals, Value.category]; done) | rfl
def Q1_1 (Z : State) (s_CREATED : Addr) (s_OTP_USED : Addr) (s_ACTIVE : Addr) (s_BLOCKED : Addr) (s_REMOVED : Addr) (h0 : Heap) (v : Option Value) (h : Heap) (L : List Loc) : Prop := v = some (.ref (own_pick (1 : Int32) s_CREATED s_OTP_USED s_ACTIVE s_BLOCKED s_REMOVED)) ∧ L = [] ∧ h = h0
set_option maxRecDepth 65536 in
set_option maxHeartbeats 40000000 in
theorem rm1_1 (l : Launch) (Z : State) (a0 : Array Value) (hw : ∀ d ∈ tables_1, d.before a0 Z = true) (ws : List Jvm.Cond) (s_CREATED : Addr) (s_OTP_USED : Addr) (s_ACTIVE : Addr) (s_BLOCKED : Addr) (s_REMOVED : Addr) (h0 : Heap) (n0 : Nat) (O0 : Old Z n0 h0) (S_CREATED : Sta Z Z.heap "com/example/threefold/threefold/protocol/ActivationStatus" "CREATED" "Lcom/example/threefold/threefold/protocol/ActivationStatus;" (.ref s_CREATED)) (S_OTP_USED : Sta Z Z.heap "com/example/threefold/threefold/protocol/ActivationStatus" "OTP_USED" "Lcom/example/threefold/threefold/protocol/ActivationStatus;" (.ref s_OTP_USED)) (S_ACTIVE : Sta Z Z.heap "com/example/threefold/threefold/protocol/ActivationStatus" "ACTIVE" "Lcom/example/threefold/threefold/protocol/ActivationStatus;" (.ref s_ACTIVE)) (S_BLOCKED : Sta Z Z.heap "com/example/threefold/threefold/protocol/ActivationStatus" "BLOCKED" "Lcom/example/threefold/threefold/protocol/ActivationStatus;" (.ref s_BLOCKED)) (S_REMOVED : Sta Z Z.heap "com/example/threefold/threefold/protocol/ActivationStatus" "REMOVED" "Lcom/example/threefold/threefold/protocol/ActivationStatus;" (.ref s_REMOVED)) :
    MetFree l (⟨"com/example/threefold/threefold/store/ActivationHasKeysPinLaw", "pick", "(I)Lcom/example/threefold/threefold/protocol/ActivationStatus;"⟩ : MethodName) (head1 (Jvm.Cond.code (⟨"com/example/threefold/threefold/store/ActivationHasKeysPinLaw", "pick", "(I)Lcom/example/threefold/threefold/protocol/ActivationStatus;"⟩ : MethodName) method_2_code 1 (some (.object "com/example/threefold/threefold/protocol/ActivationStatus")) :: ws) ({ frames := 0, cells := 0, slots := 0, locals := 0 } : Room)) (fun a U => a = #[(.int (1 : Int32))] ∧ Z.Warmed39 U.vm ∧ U.heap = h0) (fun _ _ _ _ _ => True) (fun _ U o U' => ∃ v L, o = .returned v ∧ Q1_1 Z s_CREATED s_OTP_USED s_ACTIVE s_BLOCKED s_REMOVED h0 v U'.heap L ∧ FrameEnd U o U' L ({ frames := 0, cells := 0, slots := 0, locals := 0 } : Room).cells ({ frames := 0, cells := 0, slots := 0, locals := 0 } : Room).slots) := by
  refine MetFree.of_bodySF (plainFor_of_name pn_1) hisR ?_
  intro p e s m args below meth c s₁ Bd hml0 hP hK
  obtain ⟨rfl, hZ, hh⟩ := hP
  have hx := Bd.exec
  have hby := Bd.bytes
  have hml : c.maxLocals = 1 := hml0
  have hown : s.vm.findClass "com/example/threefold/threefold/store/ActivationHasKeysPinLaw" = some m.cls := findClass_of_methodNamed Bd.named
  have hnm := (name_of_methodNamed Bd.named Bd.method).1
  have X0 : Stand p l e ({ frames := 0, cells := 0, slots := 0, locals := 0 } : Room) s m #[(.int (1 : Int32))] below meth c s₁ [] 0 0 := Stand.of_body Bd
  have e0 : s₁.heap = h0 := by rw [← hh, Bd.state]; rfl
  have pre0 : ∀ t, Steps p.tables e below (s₁.setTop (mkF m 0 #[.val (.int (1 : Int32))] [])) t → Steps p.tables e below (s₁.setTop (entryFrame m #[(.int (1 : Int32))] 1)) t := fun t k => castTop (ef_1_1 m ) k
  obtain ⟨T1, X1, e1, st1⟩ := getS2 X0 hx hZ hown (host := "") (Or.inl (hw _ (List.mem_of_getElem? (i := 112) rfl))) Via.refl e0 (S_OTP_USED.ext O0.2) (g := (mkF m 13 #[vI 1] [])) rfl (hb hby d1_13)
  obtain ⟨fs, hr, hrun, hended, hW, hsame⟩ := X1.leave (v := some (.ref s_OTP_USED)) (fun h => by rw [Bd.returns] at h; cases h)
  refine ⟨_, _, pre0 _ ?_, hrun, hended, _, _, rfl, ?_, ⟨_, rfl⟩, hW, hsame.mono (by decide) (by decide)⟩
  · show Steps _ _ _ (s₁.setTop (mkF m 0 #[vI 1] [])) _
    refine XS.iloadN X0.here hx rfl (hb hby d1_0) rfl ?_
    show Steps _ _ _ (s₁.setTop (mkF m 1 #[vI 1] [iI 1])) _
    refine XS.ifYes X0.here hx rfl (pc0 := 1) (pc' := 8) rfl (hb hby d1_1) rfl ((if0 _ _).trans (feq (by decide : ¬ ((1 : Int32) = (0 : Int32)))).2) (by decide) (by decide) ?_
    show Steps _ _ _ (s₁.setTop (mkF m 8 #[vI 1] [])) _
    refine XS.iloadN X0.here hx rfl (hb hby d1_8) rfl ?_
    show Steps _ _ _ (s₁.setTop (mkF m 9 #[vI 1] [iI 1])) _
    refine XS.iconst X0.here hx rfl (hb hby d1_9) ?_
    show Steps _ _ _ (s₁.setTop (mkF m 10 #[vI 1] [iI 1, iI 1])) _
    refine XS.icmpNo X0.here hx rfl (hb hby d1_10) rfl (teq (by decide : (1 : Int32) = (1 : Int32))).2 ?_
    show Steps _ _ _ (s₁.setTop (mkF m 13 #[vI 1] [])) _
    refine st1 _ ?_
    show Steps _ _ _ (T1.setTop (mkF m 16 #[vI 1] [iR s_OTP_USED])) _
    jvm_step X1.here [X1.here.top, hx, (hb hby d1_16), X1.method', Bd.returns, Value.isRef, FieldType.isReference]
    first | (intro acts; rw [hr _ acts rfl rfl rfl]) | rw [hr _ _ rfl rfl rfl]
    exact Steps.refl _
  · show Q1_1 Z s_CREATED s_OTP_USED s_ACTIVE s_BLOCKED s_REMOVED h0 _ T1.heap _
    rw [e1]
    exact ⟨rfl, rfl, rfl⟩

theorem d1_17 : decode method_2_code 17 = .ok (.iload_n 0, 1) := by decide +kernel
theorem d1_18 : decode method_2_code 18 = .ok (.iconst 2, 1) := by decide +kernel
theorem d1_19 : decode method_2_code 19 = .ok (.if_icmp .ne 7, 3) := by decide +kernel
theorem d1_22 : decode method_2_code 22 = .ok (.getstatic 16, 3) := by decide +kernel
theorem d1_25 : decode method_2_code 25 = .ok (.areturn, 1) := by decide +kernel
theorem ef_1_2 (m : MethodId)  : entryFrame m #[(.int (2 : Int32))] 1 = mkF m 0 #[.val (.int (2 : Int32))] [] := by first | (simp [entryFrame, mkF, argsToLocals, Value.category]; done) | rfl
def Q1_2 (Z : State) (s_CREATED : Addr) (s_OTP_USED : Addr) (s_ACTIVE : Addr) (s_BLOCKED : Addr) (s_REMOVED : Addr) (h0 : Heap) (v : Option Value) (h : Heap) (L : List Loc) : Prop := v = some (.ref (own_pick (2 : Int32) s_CREATED s_OTP_USED s_ACTIVE s_BLOCKED s_REMOVED)) ∧ L = [] ∧ h = h0
set_option maxRecDepth 65536 in
set_option maxHeartbeats 40000000 in
theorem rm1_2 (l : Launch) (Z : State) (a0 : Array Value) (hw : ∀ d ∈ tables_1, d.before a0 Z = true) (ws : List Jvm.Cond) (s_CREATED : Addr) (s_OTP_USED : Addr) (s_ACTIVE : Addr) (s_BLOCKED : Addr) (s_REMOVED : Addr) (h0 : Heap) (n0 : Nat) (O0 : Old Z n0 h0) (S_CREATED : Sta Z Z.heap "com/example/threefold/threefold/protocol/ActivationStatus" "CREATED" "Lcom/example/threefold/threefold/protocol/ActivationStatus;" (.ref s_CREATED)) (S_OTP_USED : Sta Z Z.heap "com/example/threefold/threefold/protocol/ActivationStatus" "OTP_USED" "Lcom/example/threefold/threefold/protocol/ActivationStatus;" (.ref s_OTP_USED)) (S_ACTIVE : Sta Z Z.heap "com/example/threefold/threefold/protocol/ActivationStatus" "ACTIVE" "Lcom/example/threefold/threefold/protocol/ActivationStatus;" (.ref s_ACTIVE)) (S_BLOCKED : Sta Z Z.heap "com/example/threefold/threefold/protocol/ActivationStatus" "BLOCKED" "Lcom/example/threefold/threefold/protocol/ActivationStatus;" (.ref s_BLOCKED)) (S_REMOVED : Sta Z Z.heap "com/example/threefold/threefold/protocol/ActivationStatus" "REMOVED" "Lcom/example/threefold/threefold/protocol/ActivationStatus;" (.ref s_REMOVED)) :
    MetFree l (⟨"com/example/threefold/threefold/store/ActivationHasKeysPinLaw", "pick", "(I)Lcom/example/threefold/threefold/protocol/ActivationStatus;"⟩ : MethodName) (head1 (Jvm.Cond.code (⟨"com/example/threefold/threefold/store/ActivationHasKeysPinLaw", "pick", "(I)Lcom/example/threefold/threefold/protocol/ActivationStatus;"⟩ : MethodName) method_2_code 1 (some (.object "com/example/threefold/threefold/protocol/ActivationStatus")) :: ws) ({ frames := 0, cells := 0, slots := 0, locals := 0 } : Room)) (fun a U => a = #[(.int (2 : Int32))] ∧ Z.Warmed39 U.vm ∧ U.heap = h0) (fun _ _ _ _ _ => True) (fun _ U o U' => ∃ v L, o = .returned v ∧ Q1_2 Z s_CREATED s_OTP_USED s_ACTIVE s_BLOCKED s_REMOVED h0 v U'.heap L ∧ FrameEnd U o U' L ({ frames := 0, cells := 0, slots := 0, locals := 0 } : Room).cells ({ frames := 0, cells := 0, slots := 0, locals := 0 } : Room).slots) := by
  refine MetFree.of_bodySF (plainFor_of_name pn_1) hisR ?_
  intro p e s m args below meth c s₁ Bd hml0 hP hK
  obtain ⟨rfl, hZ, hh⟩ := hP
  have hx := Bd.exec
  have hby := Bd.bytes
  have hml : c.maxLocals = 1 := hml0
  have hown : s.vm.findClass "com/example/threefold/threefold/store/ActivationHasKeysPinLaw" = some m.cls := findClass_of_methodNamed Bd.named
  have hnm := (name_of_methodNamed Bd.named Bd.method).1
  have X0 : Stand p l e ({ frames := 0, cells := 0, slots := 0, locals := 0 } : Room) s m #[(.int (2 : Int32))] below meth c s₁ [] 0 0 := Stand.of_body Bd
  have e0 : s₁.heap = h0 := by rw [← hh, Bd.state]; rfl
  have pre0 : ∀ t, Steps p.tables e below (s₁.setTop (mkF m 0 #[.val (.int (2 : Int32))] [])) t → Steps p.tables e below (s₁.setTop (entryFrame m #[(.int (2 : Int32))] 1)) t := fun t k => castTop (ef_1_2 m ) k
  obtain ⟨T1, X1, e1, st1⟩ := getS2 X0 hx hZ hown (host := "") (Or.inl (hw _ (List.mem_of_getElem? (i := 82) rfl))) Via.refl e0 (S_ACTIVE.ext O0.2) (g := (mkF m 22 #[vI 2] [])) rfl (hb hby d1_22)
  obtain ⟨fs, hr, hrun, hended, hW, hsame⟩ := X1.leave (v := some (.ref s_ACTIVE)) (fun h => by rw [Bd.returns] at h; cases h)
  refine ⟨_, _, pre0 _ ?_, hrun, hended, _, _, rfl, ?_, ⟨_, rfl⟩, hW, hsame.mono (by decide) (by decide)⟩
  · show Steps _ _ _ (s₁.setTop (mkF m 0 #[vI 2] [])) _
    refine XS.iloadN X0.here hx rfl (hb hby d1_0) rfl ?_
    show Steps _ _ _ (s₁.setTop (mkF m 1 #[vI 2] [iI 2])) _
    refine XS.ifYes X0.here hx rfl (pc0 := 1) (pc' := 8) rfl (hb hby d1_1) rfl ((if0 _ _).trans (feq (by decide : ¬ ((2 : Int32) = (0 : Int32)))).2) (by decide) (by decide) ?_
    show Steps _ _ _ (s₁.setTop (mkF m 8 #[vI 2] [])) _
    refine XS.iloadN X0.here hx rfl (hb hby d1_8) rfl ?_
    show Steps _ _ _ (s₁.setTop (mkF m 9 #[vI 2] [iI 2])) _
    refine XS.iconst X0.here hx rfl (hb hby d1_9) ?_
    show Steps _ _ _ (s₁.setTop (mkF m 10 #[vI 2] [iI 1, iI 2])) _
    refine XS.icmpYes X0.here hx rfl (pc0 := 10) (pc' := 17) rfl (hb hby d1_10) rfl (feq (by decide : ¬ ((2 : Int32) = (1 : Int32)))).2 (by decide) (by decide) ?_
    show Steps _ _ _ (s₁.setTop (mkF m 17 #[vI 2] [])) _
    refine XS.iloadN X0.here hx rfl (hb hby d1_17) rfl ?_
    show Steps _ _ _ (s₁.setTop (mkF m 18 #[vI 2] [iI 2])) _
    refine XS.iconst X0.here hx rfl (hb hby d1_18) ?_
    show Steps _ _ _ (s₁.setTop (mkF m 19 #[vI 2] [iI 2, iI 2])) _
    refine XS.icmpNo X0.here hx rfl (hb hby d1_19) rfl (teq (by decide : (2 : Int32) = (2 : Int32))).2 ?_
    show Steps _ _ _ (s₁.setTop (mkF m 22 #[vI 2] [])) _
    refine st1 _ ?_
    show Steps _ _ _ (T1.setTop (mkF m 25 #[vI 2] [iR s_ACTIVE])) _
    jvm_step X1.here [X1.here.top, hx, (hb hby d1_25), X1.method', Bd.returns, Value.isRef, FieldType.isReference]
    first | (intro acts; rw [hr _ acts rfl rfl rfl]) | rw [hr _ _ rfl rfl rfl]
    exact Steps.refl _
  · show Q1_2 Z s_CREATED s_OTP_USED s_ACTIVE s_BLOCKED s_REMOVED h0 _ T1.heap _
    rw [e1]
    exact ⟨rfl, rfl, rfl⟩

theorem d1_26 : decode method_2_code 26 = .ok (.iload_n 0, 1) := by decide +kernel
theorem d1_27 : decode method_2_code 27 = .ok (.iconst 3, 1) := by decide +kernel
theorem d1_28 : decode method_2_code 28 = .ok (.if_icmp .ne 7, 3) := by decide +kernel
theorem d1_31 : decode method_2_code 31 = .ok (.getstatic 19, 3) := by decide +kernel
theorem d1_34 : decode method_2_code 34 = .ok (.areturn, 1) := by decide +kernel
theorem ef_1_3 (m : MethodId)  : entryFrame m #[(.int (3 : Int32))] 1 = mkF m 0 #[.val (.int (3 : Int32))] [] := by first | (simp [entryFrame, mkF, argsToLocals, Value.category]; done) | rfl
def Q1_3 (Z : State) (s_CREATED : Addr) (s_OTP_USED : Addr) (s_ACTIVE : Addr) (s_BLOCKED : Addr) (s_REMOVED : Addr) (h0 : Heap) (v : Option Value) (h : Heap) (L : List Loc) : Prop := v = some (.ref (own_pick (3 : Int32) s_CREATED s_OTP_USED s_ACTIVE s_BLOCKED s_REMOVED)) ∧ L = [] ∧ h = h0
set_option maxRecDepth 65536 in
set_option maxHeartbeats 40000000 in
theorem rm1_3 (l : Launch) (Z : State) (a0 : Array Value) (hw : ∀ d ∈ tables_1, d.before a0 Z = true) (ws : List Jvm.Cond) (s_CREATED : Addr) (s_OTP_USED : Addr) (s_ACTIVE : Addr) (s_BLOCKED : Addr) (s_REMOVED : Addr) (h0 : Heap) (n0 : Nat) (O0 : Old Z n0 h0) (S_CREATED : Sta Z Z.heap "com/example/threefold/threefold/protocol/ActivationStatus" "CREATED" "Lcom/example/threefold/threefold/protocol/ActivationStatus;" (.ref s_CREATED)) (S_OTP_USED : Sta Z Z.heap "com/example/threefold/threefold/protocol/ActivationStatus" "OTP_USED" "Lcom/example/threefold/threefold/protocol/ActivationStatus;" (.ref s_OTP_USED)) (S_ACTIVE : Sta Z Z.heap "com/example/threefold/threefold/protocol/ActivationStatus" "ACTIVE" "Lcom/example/threefold/threefold/protocol/ActivationStatus;" (.ref s_ACTIVE)) (S_BLOCKED : Sta Z Z.heap "com/example/threefold/threefold/protocol/ActivationStatus" "BLOCKED" "Lcom/example/threefold/threefold/protocol/ActivationStatus;" (.ref s_BLOCKED)) (S_REMOVED : Sta Z Z.heap "com/example/threefold/threefold/protocol/ActivationStatus" "REMOVED" "Lcom/example/threefold/threefold/protocol/ActivationStatus;" (.ref s_REMOVED)) :
    MetFree l (⟨"com/example/threefold/threefold/store/ActivationHasKeysPinLaw", "pick", "(I)Lcom/example/threefold/threefold/protocol/ActivationStatus;"⟩ : MethodName) (head1 (Jvm.Cond.code (⟨"com/example/threefold/threefold/store/ActivationHasKeysPinLaw", "pick", "(I)Lcom/example/threefold/threefold/protocol/ActivationStatus;"⟩ : MethodName) method_2_code 1 (some (.object "com/example/threefold/threefold/protocol/ActivationStatus")) :: ws) ({ frames := 0, cells := 0, slots := 0, locals := 0 } : Room)) (fun a U => a = #[(.int (3 : Int32))] ∧ Z.Warmed39 U.vm ∧ U.heap = h0) (fun _ _ _ _ _ => True) (fun _ U o U' => ∃ v L, o = .returned v ∧ Q1_3 Z s_CREATED s_OTP_USED s_ACTIVE s_BLOCKED s_REMOVED h0 v U'.heap L ∧ FrameEnd U o U' L ({ frames := 0, cells := 0, slots := 0, locals := 0 } : Room).cells ({ frames := 0, cells := 0, slots := 0, locals := 0 } : Room).slots) := by
  refine MetFree.of_bodySF (plainFor_of_name pn_1) hisR ?_
  intro p e s m args below meth c s₁ Bd hml0 hP hK
  obtain ⟨rfl, hZ, hh⟩ := hP
  have hx := Bd.exec
  have hby := Bd.bytes
  have hml : c.maxLocals = 1 := hml0
  have hown : s.vm.findClass "com/example/threefold/threefold/store/ActivationHasKeysPinLaw" = some m.cls := findClass_of_methodNamed Bd.named
  have hnm := (name_of_methodNamed Bd.named Bd.method).1
  have X0 : Stand p l e ({ frames := 0, cells := 0, slots := 0, locals := 0 } : Room) s m #[(.int (3 : Int32))] below meth c s₁ [] 0 0 := Stand.of_body Bd
  have e0 : s₁.heap = h0 := by rw [← hh, Bd.state]; rfl
  have pre0 : ∀ t, Steps p.tables e below (s₁.setTop (mkF m 0 #[.val (.int (3 : Int32))] [])) t → Steps p.tables e below (s₁.setTop (entryFrame m #[(.int (3 : Int32))] 1)) t := fun t k => castTop (ef_1_3 m ) k
  obtain ⟨T1, X1, e1, st1⟩ := getS2 X0 hx hZ hown (host := "") (Or.inl (hw _ (List.mem_of_getElem? (i := 126) rfl))) Via.refl e0 (S_BLOCKED.ext O0.2) (g := (mkF m 31 #[vI 3] [])) rfl (hb hby d1_31)
  obtain ⟨fs, hr, hrun, hended, hW, hsame⟩ := X1.leave (v := some (.ref s_BLOCKED)) (fun h => by rw [Bd.returns] at h; cases h)
  refine ⟨_, _, pre0 _ ?_, hrun, hended, _, _, rfl, ?_, ⟨_, rfl⟩, hW, hsame.mono (by decide) (by decide)⟩
  · show Steps _ _ _ (s₁.setTop (mkF m 0 #[vI 3] [])) _
    refine XS.iloadN X0.here hx rfl (hb hby d1_0) rfl ?_
    show Steps _ _ _ (s₁.setTop (mkF m 1 #[vI 3] [iI 3])) _
    refine XS.ifYes X0.here hx rfl (pc0 := 1) (pc' := 8) rfl (hb hby d1_1) rfl ((if0 _ _).trans (feq (by decide : ¬ ((3 : Int32) = (0 : Int32)))).2) (by decide) (by decide) ?_
    show Steps _ _ _ (s₁.setTop (mkF m 8 #[vI 3] [])) _
    refine XS.iloadN X0.here hx rfl (hb hby d1_8) rfl ?_
    show Steps _ _ _ (s₁.setTop (mkF m 9 #[vI 3] [iI 3])) _
    refine XS.iconst X0.here hx rfl (hb hby d1_9) ?_
    show Steps _ _ _ (s₁.setTop (mkF m 10 #[vI 3] [iI 1, iI 3])) _
    refine XS.icmpYes X0.here hx rfl (pc0 := 10) (pc' := 17) rfl (hb hby d1_10) rfl (feq (by decide : ¬ ((3 : Int32) = (1 : Int32)))).2 (by decide) (by decide) ?_
    show Steps _ _ _ (s₁.setTop (mkF m 17 #[vI 3] [])) _
    refine XS.iloadN X0.here hx rfl (hb hby d1_17) rfl ?_
    show Steps _ _ _ (s₁.setTop (mkF m 18 #[vI 3] [iI 3])) _
    refine XS.iconst X0.here hx rfl (hb hby d1_18) ?_
    show Steps _ _ _ (s₁.setTop (mkF m 19 #[vI 3] [iI 2, iI 3])) _
    refine XS.icmpYes X0.here hx rfl (pc0 := 19) (pc' := 26) rfl (hb hby d1_19) rfl (feq (by decide : ¬ ((3 : Int32) = (2 : Int32)))).2 (by decide) (by decide) ?_
    show Steps _ _ _ (s₁.setTop (mkF m 26 #[vI 3] [])) _
    refine XS.iloadN X0.here hx rfl (hb hby d1_26) rfl ?_
    show Steps _ _ _ (s₁.setTop (mkF m 27 #[vI 3] [iI 3])) _
    refine XS.iconst X0.here hx rfl (hb hby d1_27) ?_
    show Steps _ _ _ (s₁.setTop (mkF m 28 #[vI 3] [iI 3, iI 3])) _
    refine XS.icmpNo X0.here hx rfl (hb hby d1_28) rfl (teq (by decide : (3 : Int32) = (3 : Int32))).2 ?_
    show Steps _ _ _ (s₁.setTop (mkF m 31 #[vI 3] [])) _
    refine st1 _ ?_
    show Steps _ _ _ (T1.setTop (mkF m 34 #[vI 3] [iR s_BLOCKED])) _
    jvm_step X1.here [X1.here.top, hx, (hb hby d1_34), X1.method', Bd.returns, Value.isRef, FieldType.isReference]
    first | (intro acts; rw [hr _ acts rfl rfl rfl]) | rw [hr _ _ rfl rfl rfl]
    exact Steps.refl _
  · show Q1_3 Z s_CREATED s_OTP_USED s_ACTIVE s_BLOCKED s_REMOVED h0 _ T1.heap _
    rw [e1]
    exact ⟨rfl, rfl, rfl⟩

theorem d1_35 : decode method_2_code 35 = .ok (.getstatic 22, 3) := by decide +kernel
theorem d1_38 : decode method_2_code 38 = .ok (.areturn, 1) := by decide +kernel
theorem ef_1_4 (m : MethodId)  : entryFrame m #[(.int (4 : Int32))] 1 = mkF m 0 #[.val (.int (4 : Int32))] [] := by first | (simp [entryFrame, mkF, argsToLocals, Value.category]; done) | rfl
def Q1_4 (Z : State) (s_CREATED : Addr) (s_OTP_USED : Addr) (s_ACTIVE : Addr) (s_BLOCKED : Addr) (s_REMOVED : Addr) (h0 : Heap) (v : Option Value) (h : Heap) (L : List Loc) : Prop := v = some (.ref (own_pick (4 : Int32) s_CREATED s_OTP_USED s_ACTIVE s_BLOCKED s_REMOVED)) ∧ L = [] ∧ h = h0
set_option maxRecDepth 65536 in
set_option maxHeartbeats 40000000 in
theorem rm1_4 (l : Launch) (Z : State) (a0 : Array Value) (hw : ∀ d ∈ tables_1, d.before a0 Z = true) (ws : List Jvm.Cond) (s_CREATED : Addr) (s_OTP_USED : Addr) (s_ACTIVE : Addr) (s_BLOCKED : Addr) (s_REMOVED : Addr) (h0 : Heap) (n0 : Nat) (O0 : Old Z n0 h0) (S_CREATED : Sta Z Z.heap "com/example/threefold/threefold/protocol/ActivationStatus" "CREATED" "Lcom/example/threefold/threefold/protocol/ActivationStatus;" (.ref s_CREATED)) (S_OTP_USED : Sta Z Z.heap "com/example/threefold/threefold/protocol/ActivationStatus" "OTP_USED" "Lcom/example/threefold/threefold/protocol/ActivationStatus;" (.ref s_OTP_USED)) (S_ACTIVE : Sta Z Z.heap "com/example/threefold/threefold/protocol/ActivationStatus" "ACTIVE" "Lcom/example/threefold/threefold/protocol/ActivationStatus;" (.ref s_ACTIVE)) (S_BLOCKED : Sta Z Z.heap "com/example/threefold/threefold/protocol/ActivationStatus" "BLOCKED" "Lcom/example/threefold/threefold/protocol/ActivationStatus;" (.ref s_BLOCKED)) (S_REMOVED : Sta Z Z.heap "com/example/threefold/threefold/protocol/ActivationStatus" "REMOVED" "Lcom/example/threefold/threefold/protocol/ActivationStatus;" (.ref s_REMOVED)) :
    MetFree l (⟨"com/example/threefold/threefold/store/ActivationHasKeysPinLaw", "pick", "(I)Lcom/example/threefold/threefold/protocol/ActivationStatus;"⟩ : MethodName) (head1 (Jvm.Cond.code (⟨"com/example/threefold/threefold/store/ActivationHasKeysPinLaw", "pick", "(I)Lcom/example/threefold/threefold/protocol/ActivationStatus;"⟩ : MethodName) method_2_code 1 (some (.object "com/example/threefold/threefold/protocol/ActivationStatus")) :: ws) ({ frames := 0, cells := 0, slots := 0, locals := 0 } : Room)) (fun a U => a = #[(.int (4 : Int32))] ∧ Z.Warmed39 U.vm ∧ U.heap = h0) (fun _ _ _ _ _ => True) (fun _ U o U' => ∃ v L, o = .returned v ∧ Q1_4 Z s_CREATED s_OTP_USED s_ACTIVE s_BLOCKED s_REMOVED h0 v U'.heap L ∧ FrameEnd U o U' L ({ frames := 0, cells := 0, slots := 0, locals := 0 } : Room).cells ({ frames := 0, cells := 0, slots := 0, locals := 0 } : Room).slots) := by
  refine MetFree.of_bodySF (plainFor_of_name pn_1) hisR ?_
  intro p e s m args below meth c s₁ Bd hml0 hP hK
  obtain ⟨rfl, hZ, hh⟩ := hP
  have hx := Bd.exec
  have hby := Bd.bytes
  have hml : c.maxLocals = 1 := hml0
  have hown : s.vm.findClass "com/example/threefold/threefold/store/ActivationHasKeysPinLaw" = some m.cls := findClass_of_methodNamed Bd.named
  have hnm := (name_of_methodNamed Bd.named Bd.method).1
  have X0 : Stand p l e ({ frames := 0, cells := 0, slots := 0, locals := 0 } : Room) s m #[(.int (4 : Int32))] below meth c s₁ [] 0 0 := Stand.of_body Bd
  have e0 : s₁.heap = h0 := by rw [← hh, Bd.state]; rfl
  have pre0 : ∀ t, Steps p.tables e below (s₁.setTop (mkF m 0 #[.val (.int (4 : Int32))] [])) t → Steps p.tables e below (s₁.setTop (entryFrame m #[(.int (4 : Int32))] 1)) t := fun t k => castTop (ef_1_4 m ) k
  obtain ⟨T1, X1, e1, st1⟩ := getS2 X0 hx hZ hown (host := "") (Or.inl (hw _ (List.mem_of_getElem? (i := 133) rfl))) Via.refl e0 (S_REMOVED.ext O0.2) (g := (mkF m 35 #[vI 4] [])) rfl (hb hby d1_35)
  obtain ⟨fs, hr, hrun, hended, hW, hsame⟩ := X1.leave (v := some (.ref s_REMOVED)) (fun h => by rw [Bd.returns] at h; cases h)
  refine ⟨_, _, pre0 _ ?_, hrun, hended, _, _, rfl, ?_, ⟨_, rfl⟩, hW, hsame.mono (by decide) (by decide)⟩
  · show Steps _ _ _ (s₁.setTop (mkF m 0 #[vI 4] [])) _
    refine XS.iloadN X0.here hx rfl (hb hby d1_0) rfl ?_
    show Steps _ _ _ (s₁.setTop (mkF m 1 #[vI 4] [iI 4])) _
    refine XS.ifYes X0.here hx rfl (pc0 := 1) (pc' := 8) rfl (hb hby d1_1) rfl ((if0 _ _).trans (feq (by decide : ¬ ((4 : Int32) = (0 : Int32)))).2) (by decide) (by decide) ?_
    show Steps _ _ _ (s₁.setTop (mkF m 8 #[vI 4] [])) _
    refine XS.iloadN X0.here hx rfl (hb hby d1_8) rfl ?_
    show Steps _ _ _ (s₁.setTop (mkF m 9 #[vI 4] [iI 4])) _
    refine XS.iconst X0.here hx rfl (hb hby d1_9) ?_
    show Steps _ _ _ (s₁.setTop (mkF m 10 #[vI 4] [iI 1, iI 4])) _
    refine XS.icmpYes X0.here hx rfl (pc0 := 10) (pc' := 17) rfl (hb hby d1_10) rfl (feq (by decide : ¬ ((4 : Int32) = (1 : Int32)))).2 (by decide) (by decide) ?_
    show Steps _ _ _ (s₁.setTop (mkF m 17 #[vI 4] [])) _
    refine XS.iloadN X0.here hx rfl (hb hby d1_17) rfl ?_
    show Steps _ _ _ (s₁.setTop (mkF m 18 #[vI 4] [iI 4])) _
    refine XS.iconst X0.here hx rfl (hb hby d1_18) ?_
    show Steps _ _ _ (s₁.setTop (mkF m 19 #[vI 4] [iI 2, iI 4])) _
    refine XS.icmpYes X0.here hx rfl (pc0 := 19) (pc' := 26) rfl (hb hby d1_19) rfl (feq (by decide : ¬ ((4 : Int32) = (2 : Int32)))).2 (by decide) (by decide) ?_
    show Steps _ _ _ (s₁.setTop (mkF m 26 #[vI 4] [])) _
    refine XS.iloadN X0.here hx rfl (hb hby d1_26) rfl ?_
    show Steps _ _ _ (s₁.setTop (mkF m 27 #[vI 4] [iI 4])) _
    refine XS.iconst X0.here hx rfl (hb hby d1_27) ?_
    show Steps _ _ _ (s₁.setTop (mkF m 28 #[vI 4] [iI 3, iI 4])) _
    refine XS.icmpYes X0.here hx rfl (pc0 := 28) (pc' := 35) rfl (hb hby d1_28) rfl (feq (by decide : ¬ ((4 : Int32) = (3 : Int32)))).2 (by decide) (by decide) ?_
    show Steps _ _ _ (s₁.setTop (mkF m 35 #[vI 4] [])) _
    refine st1 _ ?_
    show Steps _ _ _ (T1.setTop (mkF m 38 #[vI 4] [iR s_REMOVED])) _
    jvm_step X1.here [X1.here.top, hx, (hb hby d1_38), X1.method', Bd.returns, Value.isRef, FieldType.isReference]
    first | (intro acts; rw [hr _ acts rfl rfl rfl]) | rw [hr _ _ rfl rfl rfl]
    exact Steps.refl _
  · show Q1_4 Z s_CREATED s_OTP_USED s_ACTIVE s_BLOCKED s_REMOVED h0 _ T1.heap _
    rw [e1]
    exact ⟨rfl, rfl, rfl⟩
def Q1 (Z : State) (p1 : Int32) (s_CREATED : Addr) (s_OTP_USED : Addr) (s_ACTIVE : Addr) (s_BLOCKED : Addr) (s_REMOVED : Addr) (h0 : Heap) (v : Option Value) (h : Heap) (L : List Loc) : Prop := v = some (.ref (own_pick p1 s_CREATED s_OTP_USED s_ACTIVE s_BLOCKED s_REMOVED)) ∧ L = [] ∧ h = h0
set_option maxRecDepth 65536 in
set_option maxHeartbeats 40000000 in
theorem rm1 (l : Launch) (Z : State) (a0 : Array Value) (hw : ∀ d ∈ tables_1, d.before a0 Z = true) (ws : List Jvm.Cond) (p1 : Int32) (s_CREATED : Addr) (s_OTP_USED : Addr) (s_ACTIVE : Addr) (s_BLOCKED : Addr) (s_REMOVED : Addr) (h0 : Heap) (n0 : Nat) (O0 : Old Z n0 h0) (S_CREATED : Sta Z Z.heap "com/example/threefold/threefold/protocol/ActivationStatus" "CREATED" "Lcom/example/threefold/threefold/protocol/ActivationStatus;" (.ref s_CREATED)) (S_OTP_USED : Sta Z Z.heap "com/example/threefold/threefold/protocol/ActivationStatus" "OTP_USED" "Lcom/example/threefold/threefold/protocol/ActivationStatus;" (.ref s_OTP_USED)) (S_ACTIVE : Sta Z Z.heap "com/example/threefold/threefold/protocol/ActivationStatus" "ACTIVE" "Lcom/example/threefold/threefold/protocol/ActivationStatus;" (.ref s_ACTIVE)) (S_BLOCKED : Sta Z Z.heap "com/example/threefold/threefold/protocol/ActivationStatus" "BLOCKED" "Lcom/example/threefold/threefold/protocol/ActivationStatus;" (.ref s_BLOCKED)) (S_REMOVED : Sta Z Z.heap "com/example/threefold/threefold/protocol/ActivationStatus" "REMOVED" "Lcom/example/threefold/threefold/protocol/ActivationStatus;" (.ref s_REMOVED)) (qk : p1 = 0 ∨ p1 = 1 ∨ p1 = 2 ∨ p1 = 3 ∨ p1 = 4) :
    MetFree l (⟨"com/example/threefold/threefold/store/ActivationHasKeysPinLaw", "pick", "(I)Lcom/example/threefold/threefold/protocol/ActivationStatus;"⟩ : MethodName) (head1 (Jvm.Cond.code (⟨"com/example/threefold/threefold/store/ActivationHasKeysPinLaw", "pick", "(I)Lcom/example/threefold/threefold/protocol/ActivationStatus;"⟩ : MethodName) method_2_code 1 (some (.object "com/example/threefold/threefold/protocol/ActivationStatus")) :: ws) ({ frames := 0, cells := 0, slots := 0, locals := 0 } : Room)) (fun a U => a = #[(.int p1)] ∧ Z.Warmed39 U.vm ∧ U.heap = h0) (fun _ _ _ _ _ => True) (fun _ U o U' => ∃ v L, o = .returned v ∧ Q1 Z p1 s_CREATED s_OTP_USED s_ACTIVE s_BLOCKED s_REMOVED h0 v U'.heap L ∧ FrameEnd U o U' L ({ frames := 0, cells := 0, slots := 0, locals := 0 } : Room).cells ({ frames := 0, cells := 0, slots := 0, locals := 0 } : Room).slots) := by
  rcases qk with rfl | rfl | rfl | rfl | rfl
  · exact rm1_0 l Z a0 hw ws s_CREATED s_OTP_USED s_ACTIVE s_BLOCKED s_REMOVED h0 n0 O0 S_CREATED S_OTP_USED S_ACTIVE S_BLOCKED S_REMOVED
  · exact rm1_1 l Z a0 hw ws s_CREATED s_OTP_USED s_ACTIVE s_BLOCKED s_REMOVED h0 n0 O0 S_CREATED S_OTP_USED S_ACTIVE S_BLOCKED S_REMOVED
  · exact rm1_2 l Z a0 hw ws s_CREATED s_OTP_USED s_ACTIVE s_BLOCKED s_REMOVED h0 n0 O0 S_CREATED S_OTP_USED S_ACTIVE S_BLOCKED S_REMOVED
  · exact rm1_3 l Z a0 hw ws s_CREATED s_OTP_USED s_ACTIVE s_BLOCKED s_REMOVED h0 n0 O0 S_CREATED S_OTP_USED S_ACTIVE S_BLOCKED S_REMOVED
  · exact rm1_4 l Z a0 hw ws s_CREATED s_OTP_USED s_ACTIVE s_BLOCKED s_REMOVED h0 n0 O0 S_CREATED S_OTP_USED S_ACTIVE S_BLOCKED S_REMOVED
theorem d12_0 : decode prog_40_method_1_code 0 = .ok (.aload_n 0, 1) := by decide +kernel
theorem d12_1 : decode prog_40_method_1_code 1 = .ok (.invokespecial 1, 3) := by decide +kernel
theorem d12_4 : decode prog_40_method_1_code 4 = .ok (.aload_n 0, 1) := by decide +kernel
theorem d12_5 : decode prog_40_method_1_code 5 = .ok (.aload_n 1, 1) := by decide +kernel
theorem d12_6 : decode prog_40_method_1_code 6 = .ok (.putfield 7, 3) := by decide +kernel
theorem d12_9 : decode prog_40_method_1_code 9 = .ok (.aload_n 0, 1) := by decide +kernel
theorem d12_10 : decode prog_40_method_1_code 10 = .ok (.aload_n 2, 1) := by decide +kernel
theorem d12_11 : decode prog_40_method_1_code 11 = .ok (.putfield 13, 3) := by decide +kernel
theorem d12_14 : decode prog_40_method_1_code 14 = .ok (.aload_n 0, 1) := by decide +kernel
theorem d12_15 : decode prog_40_method_1_code 15 = .ok (.aload_n 3, 1) := by decide +kernel
theorem d12_16 : decode prog_40_method_1_code 16 = .ok (.putfield 16, 3) := by decide +kernel
theorem d12_19 : decode prog_40_method_1_code 19 = .ok (.aload_n 0, 1) := by decide +kernel
theorem d12_20 : decode prog_40_method_1_code 20 = .ok (.aload 4, 2) := by decide +kernel
theorem d12_22 : decode prog_40_method_1_code 22 = .ok (.putfield 19, 3) := by decide +kernel
theorem d12_25 : decode prog_40_method_1_code 25 = .ok (.aload_n 0, 1) := by decide +kernel
theorem d12_26 : decode prog_40_method_1_code 26 = .ok (.aload 5, 2) := by decide +kernel
theorem d12_28 : decode prog_40_method_1_code 28 = .ok (.putfield 23, 3) := by decide +kernel
theorem d12_31 : decode prog_40_method_1_code 31 = .ok (.return_, 1) := by decide +kernel
theorem pn_2 : plainName "com/example/threefold/threefold/store/Device" = true := by first | (simp [plainName, overriddenIn]; done) | decide +kernel
theorem ef_12 (m : MethodId) (x0 : Addr) (x1 : Addr) (x2 : Addr) : entryFrame m #[(.ref x0), (.ref x1), (.ref x2), .null, .null, .null] 6 = mkF m 0 #[.val (.ref x0), .val (.ref x1), .val (.ref x2), .val .null, .val .null, .val .null] [] := by first | (simp [entryFrame, mkF, argsToLocals, Value.category]; done) | rfl
def Q12 (Z : State) (a1 : Addr) (a2 : Addr) (a3 : Addr) (h0 : Heap) (n0 : Nat) (v : Option Value) (h : Heap) (L : List Loc) : Prop := v = none ∧ Fr n0 L ∧ Keep h0 h [a1] ∧ Exa Z h a1 "com/example/threefold/threefold/store/Device"
set_option maxRecDepth 65536 in
set_option maxHeartbeats 40000000 in
theorem rm12 (l : Launch) (Z : State) (a0 : Array Value) (hw : ∀ d ∈ tables_1, d.before a0 Z = true) (ws : List Jvm.Cond) (a1 : Addr) (a2 : Addr) (a3 : Addr) (h0 : Heap) (n0 : Nat) (Z0 : n0 ≤ h0.size) (E_a1 : Exa Z h0 a1 "com/example/threefold/threefold/store/Device") (g_a1 : n0 ≤ a1) (F_serverPrivateKey : Fld Z h0 a1 "com/example/threefold/threefold/store/Device" "serverPrivateKey" "[B" .null) (F_devicePublicKey : Fld Z h0 a1 "com/example/threefold/threefold/store/Device" "devicePublicKey" "[B" .null) (F_masterSecret : Fld Z h0 a1 "com/example/threefold/threefold/store/Device" "masterSecret" "[B" .null) (F_activationName : Fld Z h0 a1 "com/example/threefold/threefold/store/Device" "activationName" "Ljava/lang/String;" .null) (F_extras : Fld Z h0 a1 "com/example/threefold/threefold/store/Device" "extras" "Ljava/lang/String;" .null) :
    MetFree l (⟨"com/example/threefold/threefold/store/Device", "<init>", "([B[B[BLjava/lang/String;Ljava/lang/String;)V"⟩ : MethodName) (head1 (Jvm.Cond.code (⟨"com/example/threefold/threefold/store/Device", "<init>", "([B[B[BLjava/lang/String;Ljava/lang/String;)V"⟩ : MethodName) prog_40_method_1_code 6 none :: ws) ({ frames := 2, cells := 0, slots := 0, locals := 24 } : Room)) (fun a U => a = #[(.ref a1), (.ref a2), (.ref a3), .null, .null, .null] ∧ Z.Warmed39 U.vm ∧ U.heap = h0) (fun _ _ _ _ _ => True) (fun _ U o U' => ∃ v L, o = .returned v ∧ Q12 Z a1 a2 a3 h0 n0 v U'.heap L ∧ FrameEnd U o U' L ({ frames := 2, cells := 0, slots := 0, locals := 24 } : Room).cells ({ frames := 2, cells := 0, slots := 0, locals := 24 } : Room).slots) := by
  refine MetFree.of_bodySF (plainFor_of_name pn_2) hisR ?_
  intro p e s m args below meth c s₁ Bd hml0 hP hK
  obtain ⟨rfl, hZ, hh⟩ := hP
  have hx := Bd.exec
  have hby := Bd.bytes
  have hml : c.maxLocals = 6 := hml0
  have hown : s.vm.findClass "com/example/threefold/threefold/store/Device" = some m.cls := findClass_of_methodNamed Bd.named
  have hnm := (name_of_methodNamed Bd.named Bd.method).1
  have X0 : Stand p l e ({ frames := 2, cells := 0, slots := 0, locals := 24 } : Room) s m #[(.ref a1), (.ref a2), (.ref a3), .null, .null, .null] below meth c s₁ [] 0 0 := Stand.of_body Bd
  have e0 : s₁.heap = h0 := by rw [← hh, Bd.state]; rfl
  have N0 := Fr.nil n0
  have K0 := Keep.refl h0 [a1]
  have pre0 : ∀ t, Steps p.tables e below (s₁.setTop (mkF m 0 #[.val (.ref a1), .val (.ref a2), .val (.ref a3), .val .null, .val .null, .val .null] [])) t → Steps p.tables e below (s₁.setTop (entryFrame m #[(.ref a1), (.ref a2), (.ref a3), .null, .null, .null] 6)) t := fun t k => castTop (ef_12 m a1 a2 a3) k
  obtain ⟨_, _, ⟨T1, L1, k1, n1⟩, -, X1, ⟨Lc1, hQ1, l1, y1, z1⟩, st1⟩ := X0.specialBack hx (y := (⟨"java/lang/Record", "<init>", "()V"⟩ : MethodName)) rfl hown (mvT hZ (hw _ (List.mem_of_getElem? (i := 90) rfl))) (mvT hZ (hw _ (List.mem_of_getElem? (i := 45) rfl))) (mvT hZ (hw _ (List.mem_of_getElem? (i := 48) rfl))) (by decide) (backOf (W := 0) (rm9 l Z a0 hw [] a1 h0 ) hZ (hw _ (List.mem_of_getElem? (i := 48) rfl)) (hw _ (List.mem_of_getElem? (i := 47) rfl)) (by decide) (by decide)) (g := (mkF m 1 #[vR a1, vR a2, vR a3, .val .null, .val .null, .val .null] [iR a1])) rfl (by rw [hml]; rfl) (Steps.refl _) (a := a1) (argsL := []) (rest := []) (lenOf pd_0 rfl) rfl (by show 2 * 0 + _ ≤ _; exact Nat.le_of_eq rfl) (hb hby d12_1) (fun _ _ => ⟨rfl, e0, (by decide : 0 + 0 ≤ _), (by decide : 0 + 0 ≤ _)⟩)
  dsimp only [Pt.U, Pt.locs, Pt.cells, Pt.slots] at X1 l1 y1 z1 st1 hQ1
  subst l1 y1 z1
  obtain ⟨rfl, rfl, e1⟩ := hQ1
  try rw [List.append_nil] at X1
  obtain ⟨T2, h2, X2, e2, W2, st2⟩ := putF X1 hx hZ hown (host := "") (Or.inl (hw _ (List.mem_of_getElem? (i := 91) rfl))) Via.refl e1 F_serverPrivateKey E_a1 (Or.inr ⟨(hw _ (List.mem_of_getElem? (i := 92) rfl)), rfl, hnm⟩) (hw _ (List.mem_of_getElem? (i := 85) rfl)) (ty := (.array .byte)) (by decide) rfl rfl (g := (mkF m 6 #[vR a1, vR a2, vR a3, .val .null, .val .null, .val .null] [iR a2, iR a1])) rfl rfl (hb hby d12_6)
  have Fw2 := F_serverPrivateKey.same W2
  have K2 : Keep h0 h2 [a1] := K0.wr W2 (Or.inl (List.mem_of_getElem? (i := 0) rfl))
  have N2 := Fr.snoc X2 N0 g_a1
  have fk3 := (F_devicePublicKey.other W2 (Or.inr (slot_ne (Or.inr (hw _ (List.mem_of_getElem? (i := 94) rfl))) (Or.inr (hw _ (List.mem_of_getElem? (i := 92) rfl))) (by decide) (t := (.array .byte)) (t' := (.array .byte)) (by decide) (by decide))))
  have fk4 := (E_a1.wr W2)
  obtain ⟨T5, h5, X5, e5, W5, st5⟩ := putF X2 hx hZ hown (host := "") (Or.inl (hw _ (List.mem_of_getElem? (i := 93) rfl))) Via.refl e2 fk3 fk4 (Or.inr ⟨(hw _ (List.mem_of_getElem? (i := 94) rfl)), rfl, hnm⟩) (hw _ (List.mem_of_getElem? (i := 85) rfl)) (ty := (.array .byte)) (by decide) rfl rfl (g := (mkF m 11 #[vR a1, vR a2, vR a3, .val .null, .val .null, .val .null] [iR a3, iR a1])) rfl rfl (hb hby d12_11)
  have Fw5 := fk3.same W5
  have K5 : Keep h0 h5 [a1] := K2.wr W5 (Or.inl (List.mem_of_getElem? (i := 0) rfl))
  have N5 := Fr.snoc X5 N2 g_a1
  have fk6 := ((F_masterSecret.other W2 (Or.inr (slot_ne (Or.inr (hw _ (List.mem_of_getElem? (i := 96) rfl))) (Or.inr (hw _ (List.mem_of_getElem? (i := 92) rfl))) (by decide) (t := (.array .byte)) (t' := (.array .byte)) (by decide) (by decide)))).other W5 (Or.inr (slot_ne (Or.inr (hw _ (List.mem_of_getElem? (i := 96) rfl))) (Or.inr (hw _ (List.mem_of_getElem? (i := 94) rfl))) (by decide) (t := (.array .byte)) (t' := (.array .byte)) (by decide) (by decide))))
  have fk7 := (fk4.wr W5)
  obtain ⟨T8, h8, X8, e8, W8, st8⟩ := putF X5 hx hZ hown (host := "") (Or.inl (hw _ (List.mem_of_getElem? (i := 95) rfl))) Via.refl e5 fk6 fk7 (Or.inr ⟨(hw _ (List.mem_of_getElem? (i := 96) rfl)), rfl, hnm⟩) (hw _ (List.mem_of_getElem? (i := 85) rfl)) (ty := (.array .byte)) (by decide) rfl rfl (g := (mkF m 16 #[vR a1, vR a2, vR a3, .val .null, .val .null, .val .null] [.null, iR a1])) rfl rfl (hb hby d12_16)
  have Fw8 := fk6.same W8
  have K8 : Keep h0 h8 [a1] := K5.wr W8 (Or.inl (List.mem_of_getElem? (i := 0) rfl))
  have N8 := Fr.snoc X8 N5 g_a1
  have fk9 := (((F_activationName.other W2 (Or.inr (slot_ne (Or.inr (hw _ (List.mem_of_getElem? (i := 98) rfl))) (Or.inr (hw _ (List.mem_of_getElem? (i := 92) rfl))) (by decide) (t := (.object "java/lang/String")) (t' := (.array .byte)) (by decide) (by decide)))).other W5 (Or.inr (slot_ne (Or.inr (hw _ (List.mem_of_getElem? (i := 98) rfl))) (Or.inr (hw _ (List.mem_of_getElem? (i := 94) rfl))) (by decide) (t := (.object "java/lang/String")) (t' := (.array .byte)) (by decide) (by decide)))).other W8 (Or.inr (slot_ne (Or.inr (hw _ (List.mem_of_getElem? (i := 98) rfl))) (Or.inr (hw _ (List.mem_of_getElem? (i := 96) rfl))) (by decide) (t := (.object "java/lang/String")) (t' := (.array .byte)) (by decide) (by decide))))
  have fk10 := (fk7.wr W8)
  obtain ⟨T11, h11, X11, e11, W11, st11⟩ := putF X8 hx hZ hown (host := "") (Or.inl (hw _ (List.mem_of_getElem? (i := 97) rfl))) Via.refl e8 fk9 fk10 (Or.inr ⟨(hw _ (List.mem_of_getElem? (i := 98) rfl)), rfl, hnm⟩) (hw _ (List.mem_of_getElem? (i := 85) rfl)) (ty := (.object "java/lang/String")) (by decide) rfl rfl (g := (mkF m 22 #[vR a1, vR a2, vR a3, .val .null, .val .null, .val .null] [.null, iR a1])) rfl rfl (hb hby d12_22)
  have Fw11 := fk9.same W11
  have K11 : Keep h0 h11 [a1] := K8.wr W11 (Or.inl (List.mem_of_getElem? (i := 0) rfl))
  have N11 := Fr.snoc X11 N8 g_a1
  have fk12 := ((((F_extras.other W2 (Or.inr (slot_ne (Or.inr (hw _ (List.mem_of_getElem? (i := 100) rfl))) (Or.inr (hw _ (List.mem_of_getElem? (i := 92) rfl))) (by decide) (t := (.object "java/lang/String")) (t' := (.array .byte)) (by decide) (by decide)))).other W5 (Or.inr (slot_ne (Or.inr (hw _ (List.mem_of_getElem? (i := 100) rfl))) (Or.inr (hw _ (List.mem_of_getElem? (i := 94) rfl))) (by decide) (t := (.object "java/lang/String")) (t' := (.array .byte)) (by decide) (by decide)))).other W8 (Or.inr (slot_ne (Or.inr (hw _ (List.mem_of_getElem? (i := 100) rfl))) (Or.inr (hw _ (List.mem_of_getElem? (i := 96) rfl))) (by decide) (t := (.object "java/lang/String")) (t' := (.array .byte)) (by decide) (by decide)))).other W11 (Or.inr (slot_ne (Or.inr (hw _ (List.mem_of_getElem? (i := 100) rfl))) (Or.inr (hw _ (List.mem_of_getElem? (i := 98) rfl))) (by decide) (t := (.object "java/lang/String")) (t' := (.object "java/lang/String")) (by decide) (by decide))))
  have fk13 := (fk10.wr W11)
  obtain ⟨T14, h14, X14, e14, W14, st14⟩ := putF X11 hx hZ hown (host := "") (Or.inl (hw _ (List.mem_of_getElem? (i := 99) rfl))) Via.refl e11 fk12 fk13 (Or.inr ⟨(hw _ (List.mem_of_getElem? (i := 100) rfl)), rfl, hnm⟩) (hw _ (List.mem_of_getElem? (i := 85) rfl)) (ty := (.object "java/lang/String")) (by decide) rfl rfl (g := (mkF m 28 #[vR a1, vR a2, vR a3, .val .null, .val .null, .val .null] [.null, iR a1])) rfl rfl (hb hby d12_28)
  have Fw14 := fk12.same W14
  have K14 : Keep h0 h14 [a1] := K11.wr W14 (Or.inl (List.mem_of_getElem? (i := 0) rfl))
  have N14 := Fr.snoc X14 N11 g_a1
  obtain ⟨fs, hr, hrun, hended, hW, hsame⟩ := X14.leave (v := none) (fun _ => rfl)
  have fk15 := (fk13.wr W14)
  refine ⟨_, _, pre0 _ ?_, hrun, hended, _, _, rfl, ?_, ⟨_, rfl⟩, hW, hsame.mono (by decide) (by decide)⟩
  · show Steps _ _ _ (s₁.setTop (mkF m 0 #[vR a1, vR a2, vR a3, .val .null, .val .null, .val .null] [])) _
    refine XS.aloadN X0.here hx rfl (hb hby d12_0) rfl rfl ?_
    show Steps _ _ _ (s₁.setTop (mkF m 1 #[vR a1, vR a2, vR a3, .val .null, .val .null, .val .null] [iR a1])) _
    refine st1.trans ?_
    show Steps _ _ _ (T1.setTop (mkF m 4 #[vR a1, vR a2, vR a3, .val .null, .val .null, .val .null] [])) _
    refine XS.aloadN X1.here hx rfl (hb hby d12_4) rfl rfl ?_
    show Steps _ _ _ (T1.setTop (mkF m 5 #[vR a1, vR a2, vR a3, .val .null, .val .null, .val .null] [iR a1])) _
    refine XS.aloadN X1.here hx rfl (hb hby d12_5) rfl rfl ?_
    show Steps _ _ _ (T1.setTop (mkF m 6 #[vR a1, vR a2, vR a3, .val .null, .val .null, .val .null] [iR a2, iR a1])) _
    refine st2 _ ?_
    show Steps _ _ _ (T2.setTop (mkF m 9 #[vR a1, vR a2, vR a3, .val .null, .val .null, .val .null] [])) _
    refine XS.aloadN X2.here hx rfl (hb hby d12_9) rfl rfl ?_
    show Steps _ _ _ (T2.setTop (mkF m 10 #[vR a1, vR a2, vR a3, .val .null, .val .null, .val .null] [iR a1])) _
    refine XS.aloadN X2.here hx rfl (hb hby d12_10) rfl rfl ?_
    show Steps _ _ _ (T2.setTop (mkF m 11 #[vR a1, vR a2, vR a3, .val .null, .val .null, .val .null] [iR a3, iR a1])) _
    refine st5 _ ?_
    show Steps _ _ _ (T5.setTop (mkF m 14 #[vR a1, vR a2, vR a3, .val .null, .val .null, .val .null] [])) _
    refine XS.aloadN X5.here hx rfl (hb hby d12_14) rfl rfl ?_
    show Steps _ _ _ (T5.setTop (mkF m 15 #[vR a1, vR a2, vR a3, .val .null, .val .null, .val .null] [iR a1])) _
    refine XS.aloadN X5.here hx rfl (hb hby d12_15) rfl rfl ?_
    show Steps _ _ _ (T5.setTop (mkF m 16 #[vR a1, vR a2, vR a3, .val .null, .val .null, .val .null] [.null, iR a1])) _
    refine st8 _ ?_
    show Steps _ _ _ (T8.setTop (mkF m 19 #[vR a1, vR a2, vR a3, .val .null, .val .null, .val .null] [])) _
    refine XS.aloadN X8.here hx rfl (hb hby d12_19) rfl rfl ?_
    show Steps _ _ _ (T8.setTop (mkF m 20 #[vR a1, vR a2, vR a3, .val .null, .val .null, .val .null] [iR a1])) _
    refine XS.aload X8.here hx rfl (hb hby d12_20) rfl rfl ?_
    show Steps _ _ _ (T8.setTop (mkF m 22 #[vR a1, vR a2, vR a3, .val .null, .val .null, .val .null] [.null, iR a1])) _
    refine st11 _ ?_
    show Steps _ _ _ (T11.setTop (mkF m 25 #[vR a1, vR a2, vR a3, .val .null, .val .null, .val .null] [])) _
    refine XS.aloadN X11.here hx rfl (hb hby d12_25) rfl rfl ?_
    show Steps _ _ _ (T11.setTop (mkF m 26 #[vR a1, vR a2, vR a3, .val .null, .val .null, .val .null] [iR a1])) _
    refine XS.aload X11.here hx rfl (hb hby d12_26) rfl rfl ?_
    show Steps _ _ _ (T11.setTop (mkF m 28 #[vR a1, vR a2, vR a3, .val .null, .val .null, .val .null] [.null, iR a1])) _
    refine st14 _ ?_
    show Steps _ _ _ (T14.setTop (mkF m 31 #[vR a1, vR a2, vR a3, .val .null, .val .null, .val .null] [])) _
    exact X14.returnOut hx Bd.returns (hb hby d12_31) hr
  · show Q12 Z a1 a2 a3 h0 n0 _ T14.heap _
    rw [e14]
    exact ⟨rfl, N14, K14, fk15⟩
theorem d8_0 : decode prog_37_method_1_code 0 = .ok (.aload_n 0, 1) := by decide +kernel
theorem d8_1 : decode prog_37_method_1_code 1 = .ok (.invokespecial 1, 3) := by decide +kernel
theorem d8_4 : decode prog_37_method_1_code 4 = .ok (.aload_n 0, 1) := by decide +kernel
theorem d8_5 : decode prog_37_method_1_code 5 = .ok (.aload_n 1, 1) := by decide +kernel
theorem d8_6 : decode prog_37_method_1_code 6 = .ok (.putfield 7, 3) := by decide +kernel
theorem d8_9 : decode prog_37_method_1_code 9 = .ok (.aload_n 0, 1) := by decide +kernel
theorem d8_10 : decode prog_37_method_1_code 10 = .ok (.lload_n 2, 1) := by decide +kernel
theorem d8_11 : decode prog_37_method_1_code 11 = .ok (.putfield 13, 3) := by decide +kernel
theorem d8_14 : decode prog_37_method_1_code 14 = .ok (.aload_n 0, 1) := by decide +kernel
theorem d8_15 : decode prog_37_method_1_code 15 = .ok (.aload 4, 2) := by decide +kernel
theorem d8_17 : decode prog_37_method_1_code 17 = .ok (.putfield 17, 3) := by decide +kernel
theorem d8_20 : decode prog_37_method_1_code 20 = .ok (.aload_n 0, 1) := by decide +kernel
theorem d8_21 : decode prog_37_method_1_code 21 = .ok (.aload 5, 2) := by decide +kernel
theorem d8_23 : decode prog_37_method_1_code 23 = .ok (.putfield 20, 3) := by decide +kernel
theorem d8_26 : decode prog_37_method_1_code 26 = .ok (.aload_n 0, 1) := by decide +kernel
theorem d8_27 : decode prog_37_method_1_code 27 = .ok (.lload 6, 2) := by decide +kernel
theorem d8_29 : decode prog_37_method_1_code 29 = .ok (.putfield 24, 3) := by decide +kernel
theorem d8_32 : decode prog_37_method_1_code 32 = .ok (.aload_n 0, 1) := by decide +kernel
theorem d8_33 : decode prog_37_method_1_code 33 = .ok (.iload 8, 2) := by decide +kernel
theorem d8_35 : decode prog_37_method_1_code 35 = .ok (.putfield 27, 3) := by decide +kernel
theorem d8_38 : decode prog_37_method_1_code 38 = .ok (.aload_n 0, 1) := by decide +kernel
theorem d8_39 : decode prog_37_method_1_code 39 = .ok (.aload 9, 2) := by decide +kernel
theorem d8_41 : decode prog_37_method_1_code 41 = .ok (.putfield 31, 3) := by decide +kernel
theorem d8_44 : decode prog_37_method_1_code 44 = .ok (.aload_n 0, 1) := by decide +kernel
theorem d8_45 : decode prog_37_method_1_code 45 = .ok (.aload 10, 2) := by decide +kernel
theorem d8_47 : decode prog_37_method_1_code 47 = .ok (.putfield 34, 3) := by decide +kernel
theorem d8_50 : decode prog_37_method_1_code 50 = .ok (.aload_n 0, 1) := by decide +kernel
theorem d8_51 : decode prog_37_method_1_code 51 = .ok (.aload 11, 2) := by decide +kernel
theorem d8_53 : decode prog_37_method_1_code 53 = .ok (.putfield 38, 3) := by decide +kernel
theorem d8_56 : decode prog_37_method_1_code 56 = .ok (.aload_n 0, 1) := by decide +kernel
theorem d8_57 : decode prog_37_method_1_code 57 = .ok (.lload 12, 2) := by decide +kernel
theorem d8_59 : decode prog_37_method_1_code 59 = .ok (.putfield 42, 3) := by decide +kernel
theorem d8_62 : decode prog_37_method_1_code 62 = .ok (.return_, 1) := by decide +kernel
theorem pn_3 : plainName "com/example/threefold/threefold/store/Activation" = true := by first | (simp [plainName, overriddenIn]; done) | decide +kernel
theorem ef_8_nn (m : MethodId) (x0 : Addr) (x1 : Addr) (x2 : Int64) (x4 : Addr) (x5 : Int64) (x6 : Int32) (x10 : Int64) : entryFrame m #[(.ref x0), (.ref x1), (.long x2), .null, (.ref x4), (.long x5), (.int x6), .null, .null, .null, (.long x10)] 14 = mkF m 0 #[.val (.ref x0), .val (.ref x1), .val (.long x2), .second, .val .null, .val (.ref x4), .val (.long x5), .second, .val (.int x6), .val .null, .val .null, .val .null, .val (.long x10), .second] [] := by first | (simp [entryFrame, mkF, argsToLocals, Value.category]; done) | rfl
def Q8_nn (Z : State) (a1 : Addr) (a2 : Addr) (q3 : Int64) (a5 : Addr) (q6 : Int64) (p7 : Int32) (q11 : Int64) (h0 : Heap) (n0 : Nat) (v : Option Value) (h : Heap) (L : List Loc) : Prop := v = none ∧ Fr n0 L ∧ Keep h0 h [a1] ∧ Exa Z h a1 "com/example/threefold/threefold/store/Activation" ∧ Fld Z h a1 "com/example/threefold/threefold/store/Activation" "activationId" "Ljava/lang/String;" (.ref a2) ∧ Fld Z h a1 "com/example/threefold/threefold/store/Activation" "applicationId" "J" (.long q3) ∧ Fld Z h a1 "com/example/threefold/threefold/store/Activation" "userId" "Ljava/lang/String;" .null ∧ Fld Z h a1 "com/example/threefold/threefold/store/Activation" "status" "Lcom/example/threefold/threefold/protocol/ActivationStatus;" (.ref a5) ∧ Fld Z h a1 "com/example/threefold/threefold/store/Activation" "counter" "J" (.long q6) ∧ Fld Z h a1 "com/example/threefold/threefold/store/Activation" "failedAttempts" "I" (.int p7) ∧ Fld Z h a1 "com/example/threefold/threefold/store/Activation" "blockedReason" "Ljava/lang/String;" .null ∧ Fld Z h a1 "com/example/threefold/threefold/store/Activation" "code" "Lcom/example/threefold/threefold/protocol/ActivationCode;" .null ∧ Fld Z h a1 "com/example/threefold/threefold/store/Activation" "device" "Lcom/example/threefold/threefold/store/Device;" .null ∧ Fld Z h a1 "com/example/threefold/threefold/store/Activation" "createdAt" "J" (.long q11)
set_option maxRecDepth 65536 in
set_option maxHeartbeats 40000000 in
theorem rm8_nn (l : Launch) (Z : State) (a0 : Array Value) (hw : ∀ d ∈ tables_1, d.before a0 Z = true) (ws : List Jvm.Cond) (a1 : Addr) (a2 : Addr) (q3 : Int64) (a5 : Addr) (q6 : Int64) (p7 : Int32) (q11 : Int64) (h0 : Heap) (n0 : Nat) (Z0 : n0 ≤ h0.size) (E_a1 : Exa Z h0 a1 "com/example/threefold/threefold/store/Activation") (g_a1 : n0 ≤ a1) (F_activationId : Fld Z h0 a1 "com/example/threefold/threefold/store/Activation" "activationId" "Ljava/lang/String;" .null) (F_applicationId : Fld Z h0 a1 "com/example/threefold/threefold/store/Activation" "applicationId" "J" (.long (0 : Int64))) (F_userId : Fld Z h0 a1 "com/example/threefold/threefold/store/Activation" "userId" "Ljava/lang/String;" .null) (F_status : Fld Z h0 a1 "com/example/threefold/threefold/store/Activation" "status" "Lcom/example/threefold/threefold/protocol/ActivationStatus;" .null) (F_counter : Fld Z h0 a1 "com/example/threefold/threefold/store/Activation" "counter" "J" (.long (0 : Int64))) (F_failedAttempts : Fld Z h0 a1 "com/example/threefold/threefold/store/Activation" "failedAttempts" "I" (.int (0 : Int32))) (F_blockedReason : Fld Z h0 a1 "com/example/threefold/threefold/store/Activation" "blockedReason" "Ljava/lang/String;" .null) (F_code : Fld Z h0 a1 "com/example/threefold/threefold/store/Activation" "code" "Lcom/example/threefold/threefold/protocol/ActivationCode;" .null) (F_device : Fld Z h0 a1 "com/example/threefold/threefold/store/Activation" "device" "Lcom/example/threefold/threefold/store/Device;" .null) (F_createdAt : Fld Z h0 a1 "com/example/threefold/threefold/store/Activation" "createdAt" "J" (.long (0 : Int64))) :
    MetFree l (⟨"com/example/threefold/threefold/store/Activation", "<init>", "(Ljava/lang/String;JLjava/lang/String;Lcom/example/threefold/threefold/protocol/ActivationStatus;JILjava/lang/String;Lcom/example/threefold/threefold/protocol/ActivationCode;Lcom/example/threefold/threefold/store/Device;J)V"⟩ : MethodName) (head1 (Jvm.Cond.code (⟨"com/example/threefold/threefold/store/Activation", "<init>", "(Ljava/lang/String;JLjava/lang/String;Lcom/example/threefold/threefold/protocol/ActivationStatus;JILjava/lang/String;Lcom/example/threefold/threefold/protocol/ActivationCode;Lcom/example/threefold/threefold/store/Device;J)V"⟩ : MethodName) prog_37_method_1_code 14 none :: ws) ({ frames := 2, cells := 0, slots := 0, locals := 24 } : Room)) (fun a U => a = #[(.ref a1), (.ref a2), (.long q3), .null, (.ref a5), (.long q6), (.int p7), .null, .null, .null, (.long q11)] ∧ Z.Warmed39 U.vm ∧ U.heap = h0) (fun _ _ _ _ _ => True) (fun _ U o U' => ∃ v L, o = .returned v ∧ Q8_nn Z a1 a2 q3 a5 q6 p7 q11 h0 n0 v U'.heap L ∧ FrameEnd U o U' L ({ frames := 2, cells := 0, slots := 0, locals := 24 } : Room).cells ({ frames := 2, cells := 0, slots := 0, locals := 24 } : Room).slots) := by
  refine MetFree.of_bodySF (plainFor_of_name pn_3) hisR ?_
  intro p e s m args below meth c s₁ Bd hml0 hP hK
  obtain ⟨rfl, hZ, hh⟩ := hP
  have hx := Bd.exec
  have hby := Bd.bytes
  have hml : c.maxLocals = 14 := hml0
  have hown : s.vm.findClass "com/example/threefold/threefold/store/Activation" = some m.cls := findClass_of_methodNamed Bd.named
  have hnm := (name_of_methodNamed Bd.named Bd.method).1
  have X0 : Stand p l e ({ frames := 2, cells := 0, slots := 0, locals := 24 } : Room) s m #[(.ref a1), (.ref a2), (.long q3), .null, (.ref a5), (.long q6), (.int p7), .null, .null, .null, (.long q11)] below meth c s₁ [] 0 0 := Stand.of_body Bd
  have e0 : s₁.heap = h0 := by rw [← hh, Bd.state]; rfl
  have N0 := Fr.nil n0
  have K0 := Keep.refl h0 [a1]
  have pre0 : ∀ t, Steps p.tables e below (s₁.setTop (mkF m 0 #[.val (.ref a1), .val (.ref a2), .val (.long q3), .second, .val .null, .val (.ref a5), .val (.long q6), .second, .val (.int p7), .val .null, .val .null, .val .null, .val (.long q11), .second] [])) t → Steps p.tables e below (s₁.setTop (entryFrame m #[(.ref a1), (.ref a2), (.long q3), .null, (.ref a5), (.long q6), (.int p7), .null, .null, .null, (.long q11)] 14)) t := fun t k => castTop (ef_8_nn m a1 a2 q3 a5 q6 p7 q11) k
  obtain ⟨_, _, ⟨T1, L1, k1, n1⟩, -, X1, ⟨Lc1, hQ1, l1, y1, z1⟩, st1⟩ := X0.specialBack hx (y := (⟨"java/lang/Record", "<init>", "()V"⟩ : MethodName)) rfl hown (mvT hZ (hw _ (List.mem_of_getElem? (i := 44) rfl))) (mvT hZ (hw _ (List.mem_of_getElem? (i := 45) rfl))) (mvT hZ (hw _ (List.mem_of_getElem? (i := 48) rfl))) (by decide) (backOf (W := 0) (rm9 l Z a0 hw [] a1 h0 ) hZ (hw _ (List.mem_of_getElem? (i := 48) rfl)) (hw _ (List.mem_of_getElem? (i := 47) rfl)) (by decide) (by decide)) (g := (mkF m 1 #[vR a1, vR a2, vJ q3, .second, .val .null, vR a5, vJ q6, .second, vI p7, .val .null, .val .null, .val .null, vJ q11, .second] [iR a1])) rfl (by rw [hml]; rfl) (Steps.refl _) (a := a1) (argsL := []) (rest := []) (lenOf pd_0 rfl) rfl (by show 2 * 0 + _ ≤ _; exact Nat.le_of_eq rfl) (hb hby d8_1) (fun _ _ => ⟨rfl, e0, (by decide : 0 + 0 ≤ _), (by decide : 0 + 0 ≤ _)⟩)
  dsimp only [Pt.U, Pt.locs, Pt.cells, Pt.slots] at X1 l1 y1 z1 st1 hQ1
  subst l1 y1 z1
  obtain ⟨rfl, rfl, e1⟩ := hQ1
  try rw [List.append_nil] at X1
  obtain ⟨T2, h2, X2, e2, W2, st2⟩ := putF X1 hx hZ hown (host := "") (Or.inl (hw _ (List.mem_of_getElem? (i := 50) rfl))) Via.refl e1 F_activationId E_a1 (Or.inr ⟨(hw _ (List.mem_of_getElem? (i := 51) rfl)), rfl, hnm⟩) (hw _ (List.mem_of_getElem? (i := 10) rfl)) (ty := (.object "java/lang/String")) (by decide) rfl rfl (g := (mkF m 6 #[vR a1, vR a2, vJ q3, .second, .val .null, vR a5, vJ q6, .second, vI p7, .val .null, .val .null, .val .null, vJ q11, .second] [iR a2, iR a1])) rfl rfl (hb hby d8_6)
  have Fw2 := F_activationId.same W2
  have K2 : Keep h0 h2 [a1] := K0.wr W2 (Or.inl (List.mem_of_getElem? (i := 0) rfl))
  have N2 := Fr.snoc X2 N0 g_a1
  have fk3 := (F_applicationId.other W2 (Or.inr (slot_ne (Or.inr (hw _ (List.mem_of_getElem? (i := 53) rfl))) (Or.inr (hw _ (List.mem_of_getElem? (i := 51) rfl))) (by decide) (t := .long) (t' := (.object "java/lang/String")) (by decide) (by decide))))
  have fk4 := (E_a1.wr W2)
  obtain ⟨T5, h5, X5, e5, W5, st5⟩ := putF X2 hx hZ hown (host := "") (Or.inl (hw _ (List.mem_of_getElem? (i := 52) rfl))) Via.refl e2 fk3 fk4 (Or.inr ⟨(hw _ (List.mem_of_getElem? (i := 53) rfl)), rfl, hnm⟩) (hw _ (List.mem_of_getElem? (i := 10) rfl)) (ty := .long) (by decide) rfl rfl (g := (mkF m 11 #[vR a1, vR a2, vJ q3, .second, .val .null, vR a5, vJ q6, .second, vI p7, .val .null, .val .null, .val .null, vJ q11, .second] [iJ q3, iR a1])) rfl rfl (hb hby d8_11)
  have Fw5 := fk3.same W5
  have K5 : Keep h0 h5 [a1] := K2.wr W5 (Or.inl (List.mem_of_getElem? (i := 0) rfl))
  have N5 := Fr.snoc X5 N2 g_a1
  have fk6 := ((F_userId.other W2 (Or.inr (slot_ne (Or.inr (hw _ (List.mem_of_getElem? (i := 55) rfl))) (Or.inr (hw _ (List.mem_of_getElem? (i := 51) rfl))) (by decide) (t := (.object "java/lang/String")) (t' := (.object "java/lang/String")) (by decide) (by decide)))).other W5 (Or.inr (slot_ne (Or.inr (hw _ (List.mem_of_getElem? (i := 55) rfl))) (Or.inr (hw _ (List.mem_of_getElem? (i := 53) rfl))) (by decide) (t := (.object "java/lang/String")) (t' := .long) (by decide) (by decide))))
  have fk7 := (fk4.wr W5)
  obtain ⟨T8, h8, X8, e8, W8, st8⟩ := putF X5 hx hZ hown (host := "") (Or.inl (hw _ (List.mem_of_getElem? (i := 54) rfl))) Via.refl e5 fk6 fk7 (Or.inr ⟨(hw _ (List.mem_of_getElem? (i := 55) rfl)), rfl, hnm⟩) (hw _ (List.mem_of_getElem? (i := 10) rfl)) (ty := (.object "java/lang/String")) (by decide) rfl rfl (g := (mkF m 17 #[vR a1, vR a2, vJ q3, .second, .val .null, vR a5, vJ q6, .second, vI p7, .val .null, .val .null, .val .null, vJ q11, .second] [.null, iR a1])) rfl rfl (hb hby d8_17)
  have Fw8 := fk6.same W8
  have K8 : Keep h0 h8 [a1] := K5.wr W8 (Or.inl (List.mem_of_getElem? (i := 0) rfl))
  have N8 := Fr.snoc X8 N5 g_a1
  have fk9 := (((F_status.other W2 (Or.inr (slot_ne (Or.inr (hw _ (List.mem_of_getElem? (i := 57) rfl))) (Or.inr (hw _ (List.mem_of_getElem? (i := 51) rfl))) (by decide) (t := (.object "com/example/threefold/threefold/protocol/ActivationStatus")) (t' := (.object "java/lang/String")) (by decide) (by decide)))).other W5 (Or.inr (slot_ne (Or.inr (hw _ (List.mem_of_getElem? (i := 57) rfl))) (Or.inr (hw _ (List.mem_of_getElem? (i := 53) rfl))) (by decide) (t := (.object "com/example/threefold/threefold/protocol/ActivationStatus")) (t' := .long) (by decide) (by decide)))).other W8 (Or.inr (slot_ne (Or.inr (hw _ (List.mem_of_getElem? (i := 57) rfl))) (Or.inr (hw _ (List.mem_of_getElem? (i := 55) rfl))) (by decide) (t := (.object "com/example/threefold/threefold/protocol/ActivationStatus")) (t' := (.object "java/lang/String")) (by decide) (by decide))))
  have fk10 := (fk7.wr W8)
  obtain ⟨T11, h11, X11, e11, W11, st11⟩ := putF X8 hx hZ hown (host := "") (Or.inl (hw _ (List.mem_of_getElem? (i := 56) rfl))) Via.refl e8 fk9 fk10 (Or.inr ⟨(hw _ (List.mem_of_getElem? (i := 57) rfl)), rfl, hnm⟩) (hw _ (List.mem_of_getElem? (i := 10) rfl)) (ty := (.object "com/example/threefold/threefold/protocol/ActivationStatus")) (by decide) rfl rfl (g := (mkF m 23 #[vR a1, vR a2, vJ q3, .second, .val .null, vR a5, vJ q6, .second, vI p7, .val .null, .val .null, .val .null, vJ q11, .second] [iR a5, iR a1])) rfl rfl (hb hby d8_23)
  have Fw11 := fk9.same W11
  have K11 : Keep h0 h11 [a1] := K8.wr W11 (Or.inl (List.mem_of_getElem? (i := 0) rfl))
  have N11 := Fr.snoc X11 N8 g_a1
  have fk12 := ((((F_counter.other W2 (Or.inr (slot_ne (Or.inr (hw _ (List.mem_of_getElem? (i := 59) rfl))) (Or.inr (hw _ (List.mem_of_getElem? (i := 51) rfl))) (by decide) (t := .long) (t' := (.object "java/lang/String")) (by decide) (by decide)))).other W5 (Or.inr (slot_ne (Or.inr (hw _ (List.mem_of_getElem? (i := 59) rfl))) (Or.inr (hw _ (List.mem_of_getElem? (i := 53) rfl))) (by decide) (t := .long) (t' := .long) (by decide) (by decide)))).other W8 (Or.inr (slot_ne (Or.inr (hw _ (List.mem_of_getElem? (i := 59) rfl))) (Or.inr (hw _ (List.mem_of_getElem? (i := 55) rfl))) (by decide) (t := .long) (t' := (.object "java/lang/String")) (by decide) (by decide)))).other W11 (Or.inr (slot_ne (Or.inr (hw _ (List.mem_of_getElem? (i := 59) rfl))) (Or.inr (hw _ (List.mem_of_getElem? (i := 57) rfl))) (by decide) (t := .long) (t' := (.object "com/example/threefold/threefold/protocol/ActivationStatus")) (by decide) (by decide))))
  have fk13 := (fk10.wr W11)
  obtain ⟨T14, h14, X14, e14, W14, st14⟩ := putF X11 hx hZ hown (host := "") (Or.inl (hw _ (List.mem_of_getElem? (i := 58) rfl))) Via.refl e11 fk12 fk13 (Or.inr ⟨(hw _ (List.mem_of_getElem? (i := 59) rfl)), rfl, hnm⟩) (hw _ (List.mem_of_getElem? (i := 10) rfl)) (ty := .long) (by decide) rfl rfl (g := (mkF m 29 #[vR a1, vR a2, vJ q3, .second, .val .null, vR a5, vJ q6, .second, vI p7, .val .null, .val .null, .val .null, vJ q11, .second] [iJ q6, iR a1])) rfl rfl (hb hby d8_29)
  have Fw14 := fk12.same W14
  have K14 : Keep h0 h14 [a1] := K11.wr W14 (Or.inl (List.mem_of_getElem? (i := 0) rfl))
  have N14 := Fr.snoc X14 N11 g_a1
  have fk15 := (((((F_failedAttempts.other W2 (Or.inr (slot_ne (Or.inr (hw _ (List.mem_of_getElem? (i := 61) rfl))) (Or.inr (hw _ (List.mem_of_getElem? (i := 51) rfl))) (by decide) (t := .int) (t' := (.object "java/lang/String")) (by decide) (by decide)))).other W5 (Or.inr (slot_ne (Or.inr (hw _ (List.mem_of_getElem? (i := 61) rfl))) (Or.inr (hw _ (List.mem_of_getElem? (i := 53) rfl))) (by decide) (t := .int) (t' := .long) (by decide) (by decide)))).other W8 (Or.inr (slot_ne (Or.inr (hw _ (List.mem_of_getElem? (i := 61) rfl))) (Or.inr (hw _ (List.mem_of_getElem? (i := 55) rfl))) (by decide) (t := .int) (t' := (.object "java/lang/String")) (by decide) (by decide)))).other W11 (Or.inr (slot_ne (Or.inr (hw _ (List.mem_of_getElem? (i := 61) rfl))) (Or.inr (hw _ (List.mem_of_getElem? (i := 57) rfl))) (by decide) (t := .int) (t' := (.object "com/example/threefold/threefold/protocol/ActivationStatus")) (by decide) (by decide)))).other W14 (Or.inr (slot_ne (Or.inr (hw _ (List.mem_of_getElem? (i := 61) rfl))) (Or.inr (hw _ (List.mem_of_getElem? (i := 59) rfl))) (by decide) (t := .int) (t' := .long) (by decide) (by decide))))
  have fk16 := (fk13.wr W14)
  obtain ⟨T17, h17, X17, e17, W17, st17⟩ := putF X14 hx hZ hown (host := "") (Or.inl (hw _ (List.mem_of_getElem? (i := 60) rfl))) Via.refl e14 fk15 fk16 (Or.inr ⟨(hw _ (List.mem_of_getElem? (i := 61) rfl)), rfl, hnm⟩) (hw _ (List.mem_of_getElem? (i := 10) rfl)) (ty := .int) (by decide) rfl rfl (g := (mkF m 35 #[vR a1, vR a2, vJ q3, .second, .val .null, vR a5, vJ q6, .second, vI p7, .val .null, .val .null, .val .null, vJ q11, .second] [iI p7, iR a1])) rfl rfl (hb hby d8_35)
  have Fw17 := fk15.same W17
  have K17 : Keep h0 h17 [a1] := K14.wr W17 (Or.inl (List.mem_of_getElem? (i := 0) rfl))
  have N17 := Fr.snoc X17 N14 g_a1
  have fk18 := ((((((F_blockedReason.other W2 (Or.inr (slot_ne (Or.inr (hw _ (List.mem_of_getElem? (i := 63) rfl))) (Or.inr (hw _ (List.mem_of_getElem? (i := 51) rfl))) (by decide) (t := (.object "java/lang/String")) (t' := (.object "java/lang/String")) (by decide) (by decide)))).other W5 (Or.inr (slot_ne (Or.inr (hw _ (List.mem_of_getElem? (i := 63) rfl))) (Or.inr (hw _ (List.mem_of_getElem? (i := 53) rfl))) (by decide) (t := (.object "java/lang/String")) (t' := .long) (by decide) (by decide)))).other W8 (Or.inr (slot_ne (Or.inr (hw _ (List.mem_of_getElem? (i := 63) rfl))) (Or.inr (hw _ (List.mem_of_getElem? (i := 55) rfl))) (by decide) (t := (.object "java/lang/String")) (t' := (.object "java/lang/String")) (by decide) (by decide)))).other W11 (Or.inr (slot_ne (Or.inr (hw _ (List.mem_of_getElem? (i := 63) rfl))) (Or.inr (hw _ (List.mem_of_getElem? (i := 57) rfl))) (by decide) (t := (.object "java/lang/String")) (t' := (.object "com/example/threefold/threefold/protocol/ActivationStatus")) (by decide) (by decide)))).other W14 (Or.inr (slot_ne (Or.inr (hw _ (List.mem_of_getElem? (i := 63) rfl))) (Or.inr (hw _ (List.mem_of_getElem? (i := 59) rfl))) (by decide) (t := (.object "java/lang/String")) (t' := .long) (by decide) (by decide)))).other W17 (Or.inr (slot_ne (Or.inr (hw _ (List.mem_of_getElem? (i := 63) rfl))) (Or.inr (hw _ (List.mem_of_getElem? (i := 61) rfl))) (by decide) (t := (.object "java/lang/String")) (t' := .int) (by decide) (by decide))))
  have fk19 := (fk16.wr W17)
  obtain ⟨T20, h20, X20, e20, W20, st20⟩ := putF X17 hx hZ hown (host := "") (Or.inl (hw _ (List.mem_of_getElem? (i := 62) rfl))) Via.refl e17 fk18 fk19 (Or.inr ⟨(hw _ (List.mem_of_getElem? (i := 63) rfl)), rfl, hnm⟩) (hw _ (List.mem_of_getElem? (i := 10) rfl)) (ty := (.object "java/lang/String")) (by decide) rfl rfl (g := (mkF m 41 #[vR a1, vR a2, vJ q3, .second, .val .null, vR a5, vJ q6, .second, vI p7, .val .null, .val .null, .val .null, vJ q11, .second] [.null, iR a1])) rfl rfl (hb hby d8_41)
  have Fw20 := fk18.same W20
  have K20 : Keep h0 h20 [a1] := K17.wr W20 (Or.inl (List.mem_of_getElem? (i := 0) rfl))
  have N20 := Fr.snoc X20 N17 g_a1
  have fk21 := (((((((F_code.other W2 (Or.inr (slot_ne (Or.inr (hw _ (List.mem_of_getElem? (i := 65) rfl))) (Or.inr (hw _ (List.mem_of_getElem? (i := 51) rfl))) (by decide) (t := (.object "com/example/threefold/threefold/protocol/ActivationCode")) (t' := (.object "java/lang/String")) (by decide) (by decide)))).other W5 (Or.inr (slot_ne (Or.inr (hw _ (List.mem_of_getElem? (i := 65) rfl))) (Or.inr (hw _ (List.mem_of_getElem? (i := 53) rfl))) (by decide) (t := (.object "com/example/threefold/threefold/protocol/ActivationCode")) (t' := .long) (by decide) (by decide)))).other W8 (Or.inr (slot_ne (Or.inr (hw _ (List.mem_of_getElem? (i := 65) rfl))) (Or.inr (hw _ (List.mem_of_getElem? (i := 55) rfl))) (by decide) (t := (.object "com/example/threefold/threefold/protocol/ActivationCode")) (t' := (.object "java/lang/String")) (by decide) (by decide)))).other W11 (Or.inr (slot_ne (Or.inr (hw _ (List.mem_of_getElem? (i := 65) rfl))) (Or.inr (hw _ (List.mem_of_getElem? (i := 57) rfl))) (by decide) (t := (.object "com/example/threefold/threefold/protocol/ActivationCode")) (t' := (.object "com/example/threefold/threefold/protocol/ActivationStatus")) (by decide) (by decide)))).other W14 (Or.inr (slot_ne (Or.inr (hw _ (List.mem_of_getElem? (i := 65) rfl))) (Or.inr (hw _ (List.mem_of_getElem? (i := 59) rfl))) (by decide) (t := (.object "com/example/threefold/threefold/protocol/ActivationCode")) (t' := .long) (by decide) (by decide)))).other W17 (Or.inr (slot_ne (Or.inr (hw _ (List.mem_of_getElem? (i := 65) rfl))) (Or.inr (hw _ (List.mem_of_getElem? (i := 61) rfl))) (by decide) (t := (.object "com/example/threefold/threefold/protocol/ActivationCode")) (t' := .int) (by decide) (by decide)))).other W20 (Or.inr (slot_ne (Or.inr (hw _ (List.mem_of_getElem? (i := 65) rfl))) (Or.inr (hw _ (List.mem_of_getElem? (i := 63) rfl))) (by decide) (t := (.object "com/example/threefold/threefold/protocol/ActivationCode")) (t' := (.object "java/lang/String")) (by decide) (by decide))))
  have fk22 := (fk19.wr W20)
  obtain ⟨T23, h23, X23, e23, W23, st23⟩ := putF X20 hx hZ hown (host := "") (Or.inl (hw _ (List.mem_of_getElem? (i := 64) rfl))) Via.refl e20 fk21 fk22 (Or.inr ⟨(hw _ (List.mem_of_getElem? (i := 65) rfl)), rfl, hnm⟩) (hw _ (List.mem_of_getElem? (i := 10) rfl)) (ty := (.object "com/example/threefold/threefold/protocol/ActivationCode")) (by decide) rfl rfl (g := (mkF m 47 #[vR a1, vR a2, vJ q3, .second, .val .null, vR a5, vJ q6, .second, vI p7, .val .null, .val .null, .val .null, vJ q11, .second] [.null, iR a1])) rfl rfl (hb hby d8_47)
  have Fw23 := fk21.same W23
  have K23 : Keep h0 h23 [a1] := K20.wr W23 (Or.inl (List.mem_of_getElem? (i := 0) rfl))
  have N23 := Fr.snoc X23 N20 g_a1
  have fk24 := ((((((((F_device.other W2 (Or.inr (slot_ne (Or.inr (hw _ (List.mem_of_getElem? (i := 67) rfl))) (Or.inr (hw _ (List.mem_of_getElem? (i := 51) rfl))) (by decide) (t := (.object "com/example/threefold/threefold/store/Device")) (t' := (.object "java/lang/String")) (by decide) (by decide)))).other W5 (Or.inr (slot_ne (Or.inr (hw _ (List.mem_of_getElem? (i := 67) rfl))) (Or.inr (hw _ (List.mem_of_getElem? (i := 53) rfl))) (by decide) (t := (.object "com/example/threefold/threefold/store/Device")) (t' := .long) (by decide) (by decide)))).other W8 (Or.inr (slot_ne (Or.inr (hw _ (List.mem_of_getElem? (i := 67) rfl))) (Or.inr (hw _ (List.mem_of_getElem? (i := 55) rfl))) (by decide) (t := (.object "com/example/threefold/threefold/store/Device")) (t' := (.object "java/lang/String")) (by decide) (by decide)))).other W11 (Or.inr (slot_ne (Or.inr (hw _ (List.mem_of_getElem? (i := 67) rfl))) (Or.inr (hw _ (List.mem_of_getElem? (i := 57) rfl))) (by decide) (t := (.object "com/example/threefold/threefold/store/Device")) (t' := (.object "com/example/threefold/threefold/protocol/ActivationStatus")) (by decide) (by decide)))).other W14 (Or.inr (slot_ne (Or.inr (hw _ (List.mem_of_getElem? (i := 67) rfl))) (Or.inr (hw _ (List.mem_of_getElem? (i := 59) rfl))) (by decide) (t := (.object "com/example/threefold/threefold/store/Device")) (t' := .long) (by decide) (by decide)))).other W17 (Or.inr (slot_ne (Or.inr (hw _ (List.mem_of_getElem? (i := 67) rfl))) (Or.inr (hw _ (List.mem_of_getElem? (i := 61) rfl))) (by decide) (t := (.object "com/example/threefold/threefold/store/Device")) (t' := .int) (by decide) (by decide)))).other W20 (Or.inr (slot_ne (Or.inr (hw _ (List.mem_of_getElem? (i := 67) rfl))) (Or.inr (hw _ (List.mem_of_getElem? (i := 63) rfl))) (by decide) (t := (.object "com/example/threefold/threefold/store/Device")) (t' := (.object "java/lang/String")) (by decide) (by decide)))).other W23 (Or.inr (slot_ne (Or.inr (hw _ (List.mem_of_getElem? (i := 67) rfl))) (Or.inr (hw _ (List.mem_of_getElem? (i := 65) rfl))) (by decide) (t := (.object "com/example/threefold/threefold/store/Device")) (t' := (.object "com/example/threefold/threefold/protocol/ActivationCode")) (by decide) (by decide))))
  have fk25 := (fk22.wr W23)
  obtain ⟨T26, h26, X26, e26, W26, st26⟩ := putF X23 hx hZ hown (host := "") (Or.inl (hw _ (List.mem_of_getElem? (i := 66) rfl))) Via.refl e23 fk24 fk25 (Or.inr ⟨(hw _ (List.mem_of_getElem? (i := 67) rfl)), rfl, hnm⟩) (hw _ (List.mem_of_getElem? (i := 10) rfl)) (ty := (.object "com/example/threefold/threefold/store/Device")) (by decide) rfl rfl (g := (mkF m 53 #[vR a1, vR a2, vJ q3, .second, .val .null, vR a5, vJ q6, .second, vI p7, .val .null, .val .null, .val .null, vJ q11, .second] [.null, iR a1])) rfl rfl (hb hby d8_53)
  have Fw26 := fk24.same W26
  have K26 : Keep h0 h26 [a1] := K23.wr W26 (Or.inl (List.mem_of_getElem? (i := 0) rfl))
  have N26 := Fr.snoc X26 N23 g_a1
  have fk27 := (((((((((F_createdAt.other W2 (Or.inr (slot_ne (Or.inr (hw _ (List.mem_of_getElem? (i := 69) rfl))) (Or.inr (hw _ (List.mem_of_getElem? (i := 51) rfl))) (by decide) (t := .long) (t' := (.object "java/lang/String")) (by decide) (by decide)))).other W5 (Or.inr (slot_ne (Or.inr (hw _ (List.mem_of_getElem? (i := 69) rfl))) (Or.inr (hw _ (List.mem_of_getElem? (i := 53) rfl))) (by decide) (t := .long) (t' := .long) (by decide) (by decide)))).other W8 (Or.inr (slot_ne (Or.inr (hw _ (List.mem_of_getElem? (i := 69) rfl))) (Or.inr (hw _ (List.mem_of_getElem? (i := 55) rfl))) (by decide) (t := .long) (t' := (.object "java/lang/String")) (by decide) (by decide)))).other W11 (Or.inr (slot_ne (Or.inr (hw _ (List.mem_of_getElem? (i := 69) rfl))) (Or.inr (hw _ (List.mem_of_getElem? (i := 57) rfl))) (by decide) (t := .long) (t' := (.object "com/example/threefold/threefold/protocol/ActivationStatus")) (by decide) (by decide)))).other W14 (Or.inr (slot_ne (Or.inr (hw _ (List.mem_of_getElem? (i := 69) rfl))) (Or.inr (hw _ (List.mem_of_getElem? (i := 59) rfl))) (by decide) (t := .long) (t' := .long) (by decide) (by decide)))).other W17 (Or.inr (slot_ne (Or.inr (hw _ (List.mem_of_getElem? (i := 69) rfl))) (Or.inr (hw _ (List.mem_of_getElem? (i := 61) rfl))) (by decide) (t := .long) (t' := .int) (by decide) (by decide)))).other W20 (Or.inr (slot_ne (Or.inr (hw _ (List.mem_of_getElem? (i := 69) rfl))) (Or.inr (hw _ (List.mem_of_getElem? (i := 63) rfl))) (by decide) (t := .long) (t' := (.object "java/lang/String")) (by decide) (by decide)))).other W23 (Or.inr (slot_ne (Or.inr (hw _ (List.mem_of_getElem? (i := 69) rfl))) (Or.inr (hw _ (List.mem_of_getElem? (i := 65) rfl))) (by decide) (t := .long) (t' := (.object "com/example/threefold/threefold/protocol/ActivationCode")) (by decide) (by decide)))).other W26 (Or.inr (slot_ne (Or.inr (hw _ (List.mem_of_getElem? (i := 69) rfl))) (Or.inr (hw _ (List.mem_of_getElem? (i := 67) rfl))) (by decide) (t := .long) (t' := (.object "com/example/threefold/threefold/store/Device")) (by decide) (by decide))))
  have fk28 := (fk25.wr W26)
  obtain ⟨T29, h29, X29, e29, W29, st29⟩ := putF X26 hx hZ hown (host := "") (Or.inl (hw _ (List.mem_of_getElem? (i := 68) rfl))) Via.refl e26 fk27 fk28 (Or.inr ⟨(hw _ (List.mem_of_getElem? (i := 69) rfl)), rfl, hnm⟩) (hw _ (List.mem_of_getElem? (i := 10) rfl)) (ty := .long) (by decide) rfl rfl (g := (mkF m 59 #[vR a1, vR a2, vJ q3, .second, .val .null, vR a5, vJ q6, .second, vI p7, .val .null, .val .null, .val .null, vJ q11, .second] [iJ q11, iR a1])) rfl rfl (hb hby d8_59)
  have Fw29 := fk27.same W29
  have K29 : Keep h0 h29 [a1] := K26.wr W29 (Or.inl (List.mem_of_getElem? (i := 0) rfl))
  have N29 := Fr.snoc X29 N26 g_a1
  obtain ⟨fs, hr, hrun, hended, hW, hsame⟩ := X29.leave (v := none) (fun _ => rfl)
  have fk30 := (fk28.wr W29)
  have fk31 := (((((((((Fw2.other W5 (Or.inr (slot_ne (Or.inr (hw _ (List.mem_of_getElem? (i := 51) rfl))) (Or.inr (hw _ (List.mem_of_getElem? (i := 53) rfl))) (by decide) (t := (.object "java/lang/String")) (t' := .long) (by decide) (by decide)))).other W8 (Or.inr (slot_ne (Or.inr (hw _ (List.mem_of_getElem? (i := 51) rfl))) (Or.inr (hw _ (List.mem_of_getElem? (i := 55) rfl))) (by decide) (t := (.object "java/lang/String")) (t' := (.object "java/lang/String")) (by decide) (by decide)))).other W11 (Or.inr (slot_ne (Or.inr (hw _ (List.mem_of_getElem? (i := 51) rfl))) (Or.inr (hw _ (List.mem_of_getElem? (i := 57) rfl))) (by decide) (t := (.object "java/lang/String")) (t' := (.object "com/example/threefold/threefold/protocol/ActivationStatus")) (by decide) (by decide)))).other W14 (Or.inr (slot_ne (Or.inr (hw _ (List.mem_of_getElem? (i := 51) rfl))) (Or.inr (hw _ (List.mem_of_getElem? (i := 59) rfl))) (by decide) (t := (.object "java/lang/String")) (t' := .long) (by decide) (by decide)))).other W17 (Or.inr (slot_ne (Or.inr (hw _ (List.mem_of_getElem? (i := 51) rfl))) (Or.inr (hw _ (List.mem_of_getElem? (i := 61) rfl))) (by decide) (t := (.object "java/lang/String")) (t' := .int) (by decide) (by decide)))).other W20 (Or.inr (slot_ne (Or.inr (hw _ (List.mem_of_getElem? (i := 51) rfl))) (Or.inr (hw _ (List.mem_of_getElem? (i := 63) rfl))) (by decide) (t := (.object "java/lang/String")) (t' := (.object "java/lang/String")) (by decide) (by decide)))).other W23 (Or.inr (slot_ne (Or.inr (hw _ (List.mem_of_getElem? (i := 51) rfl))) (Or.inr (hw _ (List.mem_of_getElem? (i := 65) rfl))) (by decide) (t := (.object "java/lang/String")) (t' := (.object "com/example/threefold/threefold/protocol/ActivationCode")) (by decide) (by decide)))).other W26 (Or.inr (slot_ne (Or.inr (hw _ (List.mem_of_getElem? (i := 51) rfl))) (Or.inr (hw _ (List.mem_of_getElem? (i := 67) rfl))) (by decide) (t := (.object "java/lang/String")) (t' := (.object "com/example/threefold/threefold/store/Device")) (by decide) (by decide)))).other W29 (Or.inr (slot_ne (Or.inr (hw _ (List.mem_of_getElem? (i := 51) rfl))) (Or.inr (hw _ (List.mem_of_getElem? (i := 69) rfl))) (by decide) (t := (.object "java/lang/String")) (t' := .long) (by decide) (by decide))))
  have fk32 := ((((((((Fw5.other W8 (Or.inr (slot_ne (Or.inr (hw _ (List.mem_of_getElem? (i := 53) rfl))) (Or.inr (hw _ (List.mem_of_getElem? (i := 55) rfl))) (by decide) (t := .long) (t' := (.object "java/lang/String")) (by decide) (by decide)))).other W11 (Or.inr (slot_ne (Or.inr (hw _ (List.mem_of_getElem? (i := 53) rfl))) (Or.inr (hw _ (List.mem_of_getElem? (i := 57) rfl))) (by decide) (t := .long) (t' := (.object "com/example/threefold/threefold/protocol/ActivationStatus")) (by decide) (by decide)))).other W14 (Or.inr (slot_ne (Or.inr (hw _ (List.mem_of_getElem? (i := 53) rfl))) (Or.inr (hw _ (List.mem_of_getElem? (i := 59) rfl))) (by decide) (t := .long) (t' := .long) (by decide) (by decide)))).other W17 (Or.inr (slot_ne (Or.inr (hw _ (List.mem_of_getElem? (i := 53) rfl))) (Or.inr (hw _ (List.mem_of_getElem? (i := 61) rfl))) (by decide) (t := .long) (t' := .int) (by decide) (by decide)))).other W20 (Or.inr (slot_ne (Or.inr (hw _ (List.mem_of_getElem? (i := 53) rfl))) (Or.inr (hw _ (List.mem_of_getElem? (i := 63) rfl))) (by decide) (t := .long) (t' := (.object "java/lang/String")) (by decide) (by decide)))).other W23 (Or.inr (slot_ne (Or.inr (hw _ (List.mem_of_getElem? (i := 53) rfl))) (Or.inr (hw _ (List.mem_of_getElem? (i := 65) rfl))) (by decide) (t := .long) (t' := (.object "com/example/threefold/threefold/protocol/ActivationCode")) (by decide) (by decide)))).other W26 (Or.inr (slot_ne (Or.inr (hw _ (List.mem_of_getElem? (i := 53) rfl))) (Or.inr (hw _ (List.mem_of_getElem? (i := 67) rfl))) (by decide) (t := .long) (t' := (.object "com/example/threefold/threefold/store/Device")) (by decide) (by decide)))).other W29 (Or.inr (slot_ne (Or.inr (hw _ (List.mem_of_getElem? (i := 53) rfl))) (Or.inr (hw _ (List.mem_of_getElem? (i := 69) rfl))) (by decide) (t := .long) (t' := .long) (by decide) (by decide))))
  have fk33 := (((((((Fw8.other W11 (Or.inr (slot_ne (Or.inr (hw _ (List.mem_of_getElem? (i := 55) rfl))) (Or.inr (hw _ (List.mem_of_getElem? (i := 57) rfl))) (by decide) (t := (.object "java/lang/String")) (t' := (.object "com/example/threefold/threefold/protocol/ActivationStatus")) (by decide) (by decide)))).other W14 (Or.inr (slot_ne (Or.inr (hw _ (List.mem_of_getElem? (i := 55) rfl))) (Or.inr (hw _ (List.mem_of_getElem? (i := 59) rfl))) (by decide) (t := (.object "java/lang/String")) (t' := .long) (by decide) (by decide)))).other W17 (Or.inr (slot_ne (Or.inr (hw _ (List.mem_of_getElem? (i := 55) rfl))) (Or.inr (hw _ (List.mem_of_getElem? (i := 61) rfl))) (by decide) (t := (.object "java/lang/String")) (t' := .int) (by decide) (by decide)))).other W20 (Or.inr (slot_ne (Or.inr (hw _ (List.mem_of_getElem? (i := 55) rfl))) (Or.inr (hw _ (List.mem_of_getElem? (i := 63) rfl))) (by decide) (t := (.object "java/lang/String")) (t' := (.object "java/lang/String")) (by decide) (by decide)))).other W23 (Or.inr (slot_ne (Or.inr (hw _ (List.mem_of_getElem? (i := 55) rfl))) (Or.inr (hw _ (List.mem_of_getElem? (i := 65) rfl))) (by decide) (t := (.object "java/lang/String")) (t' := (.object "com/example/threefold/threefold/protocol/ActivationCode")) (by decide) (by decide)))).other W26 (Or.inr (slot_ne (Or.inr (hw _ (List.mem_of_getElem? (i := 55) rfl))) (Or.inr (hw _ (List.mem_of_getElem? (i := 67) rfl))) (by decide) (t := (.object "java/lang/String")) (t' := (.object "com/example/threefold/threefold/store/Device")) (by decide) (by decide)))).other W29 (Or.inr (slot_ne (Or.inr (hw _ (List.mem_of_getElem? (i := 55) rfl))) (Or.inr (hw _ (List.mem_of_getElem? (i := 69) rfl))) (by decide) (t := (.object "java/lang/String")) (t' := .long) (by decide) (by decide))))
  have fk34 := ((((((Fw11.other W14 (Or.inr (slot_ne (Or.inr (hw _ (List.mem_of_getElem? (i := 57) rfl))) (Or.inr (hw _ (List.mem_of_getElem? (i := 59) rfl))) (by decide) (t := (.object "com/example/threefold/threefold/protocol/ActivationStatus")) (t' := .long) (by decide) (by decide)))).other W17 (Or.inr (slot_ne (Or.inr (hw _ (List.mem_of_getElem? (i := 57) rfl))) (Or.inr (hw _ (List.mem_of_getElem? (i := 61) rfl))) (by decide) (t := (.object "com/example/threefold/threefold/protocol/ActivationStatus")) (t' := .int) (by decide) (by decide)))).other W20 (Or.inr (slot_ne (Or.inr (hw _ (List.mem_of_getElem? (i := 57) rfl))) (Or.inr (hw _ (List.mem_of_getElem? (i := 63) rfl))) (by decide) (t := (.object "com/example/threefold/threefold/protocol/ActivationStatus")) (t' := (.object "java/lang/String")) (by decide) (by decide)))).other W23 (Or.inr (slot_ne (Or.inr (hw _ (List.mem_of_getElem? (i := 57) rfl))) (Or.inr (hw _ (List.mem_of_getElem? (i := 65) rfl))) (by decide) (t := (.object "com/example/threefold/threefold/protocol/ActivationStatus")) (t' := (.object "com/example/threefold/threefold/protocol/ActivationCode")) (by decide) (by decide)))).other W26 (Or.inr (slot_ne (Or.inr (hw _ (List.mem_of_getElem? (i := 57) rfl))) (Or.inr (hw _ (List.mem_of_getElem? (i := 67) rfl))) (by decide) (t := (.object "com/example/threefold/threefold/protocol/ActivationStatus")) (t' := (.object "com/example/threefold/threefold/store/Device")) (by decide) (by decide)))).other W29 (Or.inr (slot_ne (Or.inr (hw _ (List.mem_of_getElem? (i := 57) rfl))) (Or.inr (hw _ (List.mem_of_getElem? (i := 69) rfl))) (by decide) (t := (.object "com/example/threefold/threefold/protocol/ActivationStatus")) (t' := .long) (by decide) (by decide))))
  have fk35 := (((((Fw14.other W17 (Or.inr (slot_ne (Or.inr (hw _ (List.mem_of_getElem? (i := 59) rfl))) (Or.inr (hw _ (List.mem_of_getElem? (i := 61) rfl))) (by decide) (t := .long) (t' := .int) (by decide) (by decide)))).other W20 (Or.inr (slot_ne (Or.inr (hw _ (List.mem_of_getElem? (i := 59) rfl))) (Or.inr (hw _ (List.mem_of_getElem? (i := 63) rfl))) (by decide) (t := .long) (t' := (.object "java/lang/String")) (by decide) (by decide)))).other W23 (Or.inr (slot_ne (Or.inr (hw _ (List.mem_of_getElem? (i := 59) rfl))) (Or.inr (hw _ (List.mem_of_getElem? (i := 65) rfl))) (by decide) (t := .long) (t' := (.object "com/example/threefold/threefold/protocol/ActivationCode")) (by decide) (by decide)))).other W26 (Or.inr (slot_ne (Or.inr (hw _ (List.mem_of_getElem? (i := 59) rfl))) (Or.inr (hw _ (List.mem_of_getElem? (i := 67) rfl))) (by decide) (t := .long) (t' := (.object "com/example/threefold/threefold/store/Device")) (by decide) (by decide)))).other W29 (Or.inr (slot_ne (Or.inr (hw _ (List.mem_of_getElem? (i := 59) rfl))) (Or.inr (hw _ (List.mem_of_getElem? (i := 69) rfl))) (by decide) (t := .long) (t' := .long) (by decide) (by decide))))
  have fk36 := ((((Fw17.other W20 (Or.inr (slot_ne (Or.inr (hw _ (List.mem_of_getElem? (i := 61) rfl))) (Or.inr (hw _ (List.mem_of_getElem? (i := 63) rfl))) (by decide) (t := .int) (t' := (.object "java/lang/String")) (by decide) (by decide)))).other W23 (Or.inr (slot_ne (Or.inr (hw _ (List.mem_of_getElem? (i := 61) rfl))) (Or.inr (hw _ (List.mem_of_getElem? (i := 65) rfl))) (by decide) (t := .int) (t' := (.object "com/example/threefold/threefold/protocol/ActivationCode")) (by decide) (by decide)))).other W26 (Or.inr (slot_ne (Or.inr (hw _ (List.mem_of_getElem? (i := 61) rfl))) (Or.inr (hw _ (List.mem_of_getElem? (i := 67) rfl))) (by decide) (t := .int) (t' := (.object "com/example/threefold/threefold/store/Device")) (by decide) (by decide)))).other W29 (Or.inr (slot_ne (Or.inr (hw _ (List.mem_of_getElem? (i := 61) rfl))) (Or.inr (hw _ (List.mem_of_getElem? (i := 69) rfl))) (by decide) (t := .int) (t' := .long) (by decide) (by decide))))
  have fk37 := (((Fw20.other W23 (Or.inr (slot_ne (Or.inr (hw _ (List.mem_of_getElem? (i := 63) rfl))) (Or.inr (hw _ (List.mem_of_getElem? (i := 65) rfl))) (by decide) (t := (.object "java/lang/String")) (t' := (.object "com/example/threefold/threefold/protocol/ActivationCode")) (by decide) (by decide)))).other W26 (Or.inr (slot_ne (Or.inr (hw _ (List.mem_of_getElem? (i := 63) rfl))) (Or.inr (hw _ (List.mem_of_getElem? (i := 67) rfl))) (by decide) (t := (.object "java/lang/String")) (t' := (.object "com/example/threefold/threefold/store/Device")) (by decide) (by decide)))).other W29 (Or.inr (slot_ne (Or.inr (hw _ (List.mem_of_getElem? (i := 63) rfl))) (Or.inr (hw _ (List.mem_of_getElem? (i := 69) rfl))) (by decide) (t := (.object "java/lang/String")) (t' := .long) (by decide) (by decide))))
  have fk38 := ((Fw23.other W26 (Or.inr (slot_ne (Or.inr (hw _ (List.mem_of_getElem? (i := 65) rfl))) (Or.inr (hw _ (List.mem_of_getElem? (i := 67) rfl))) (by decide) (t := (.object "com/example/threefold/threefold/protocol/ActivationCode")) (t' := (.object "com/example/threefold/threefold/store/Device")) (by decide) (by decide)))).other W29 (Or.inr (slot_ne (Or.inr (hw _ (List.mem_of_getElem? (i := 65) rfl))) (Or.inr (hw _ (List.mem_of_getElem? (i := 69) rfl))) (by decide) (t := (.object "com/example/threefold/threefold/protocol/ActivationCode")) (t' := .long) (by decide) (by decide))))
  have fk39 := (Fw26.other W29 (Or.inr (slot_ne (Or.inr (hw _ (List.mem_of_getElem? (i := 67) rfl))) (Or.inr (hw _ (List.mem_of_getElem? (i := 69) rfl))) (by decide) (t := (.object "com/example/threefold/threefold/store/Device")) (t' := .long) (by decide) (by decide))))
  refine ⟨_, _, pre0 _ ?_, hrun, hended, _, _, rfl, ?_, ⟨_, rfl⟩, hW, hsame.mono (by decide) (by decide)⟩
  · show Steps _ _ _ (s₁.setTop (mkF m 0 #[vR a1, vR a2, vJ q3, .second, .val .null, vR a5, vJ q6, .second, vI p7, .val .null, .val .null, .val .null, vJ q11, .second] [])) _
    refine XS.aloadN X0.here hx rfl (hb hby d8_0) rfl rfl ?_
    show Steps _ _ _ (s₁.setTop (mkF m 1 #[vR a1, vR a2, vJ q3, .second, .val .null, vR a5, vJ q6, .second, vI p7, .val .null, .val .null, .val .null, vJ q11, .second] [iR a1])) _
    refine st1.trans ?_
    show Steps _ _ _ (T1.setTop (mkF m 4 #[vR a1, vR a2, vJ q3, .second, .val .null, vR a5, vJ q6, .second, vI p7, .val .null, .val .null, .val .null, vJ q11, .second] [])) _
    refine XS.aloadN X1.here hx rfl (hb hby d8_4) rfl rfl ?_
    show Steps _ _ _ (T1.setTop (mkF m 5 #[vR a1, vR a2, vJ q3, .second, .val .null, vR a5, vJ q6, .second, vI p7, .val .null, .val .null, .val .null, vJ q11, .second] [iR a1])) _
    refine XS.aloadN X1.here hx rfl (hb hby d8_5) rfl rfl ?_
    show Steps _ _ _ (T1.setTop (mkF m 6 #[vR a1, vR a2, vJ q3, .second, .val .null, vR a5, vJ q6, .second, vI p7, .val .null, .val .null, .val .null, vJ q11, .second] [iR a2, iR a1])) _
    refine st2 _ ?_
    show Steps _ _ _ (T2.setTop (mkF m 9 #[vR a1, vR a2, vJ q3, .second, .val .null, vR a5, vJ q6, .second, vI p7, .val .null, .val .null, .val .null, vJ q11, .second] [])) _
    refine XS.aloadN X2.here hx rfl (hb hby d8_9) rfl rfl ?_
    show Steps _ _ _ (T2.setTop (mkF m 10 #[vR a1, vR a2, vJ q3, .second, .val .null, vR a5, vJ q6, .second, vI p7, .val .null, .val .null, .val .null, vJ q11, .second] [iR a1])) _
    refine XS.lloadN X2.here hx rfl (hb hby d8_10) rfl ?_
    show Steps _ _ _ (T2.setTop (mkF m 11 #[vR a1, vR a2, vJ q3, .second, .val .null, vR a5, vJ q6, .second, vI p7, .val .null, .val .null, .val .null, vJ q11, .second] [iJ q3, iR a1])) _
    refine st5 _ ?_
    show Steps _ _ _ (T5.setTop (mkF m 14 #[vR a1, vR a2, vJ q3, .second, .val .null, vR a5, vJ q6, .second, vI p7, .val .null, .val .null, .val .null, vJ q11, .second] [])) _
    refine XS.aloadN X5.here hx rfl (hb hby d8_14) rfl rfl ?_
    show Steps _ _ _ (T5.setTop (mkF m 15 #[vR a1, vR a2, vJ q3, .second, .val .null, vR a5, vJ q6, .second, vI p7, .val .null, .val .null, .val .null, vJ q11, .second] [iR a1])) _
    refine XS.aload X5.here hx rfl (hb hby d8_15) rfl rfl ?_
    show Steps _ _ _ (T5.setTop (mkF m 17 #[vR a1, vR a2, vJ q3, .second, .val .null, vR a5, vJ q6, .second, vI p7, .val .null, .val .null, .val .null, vJ q11, .second] [.null, iR a1])) _
    refine st8 _ ?_
    show Steps _ _ _ (T8.setTop (mkF m 20 #[vR a1, vR a2, vJ q3, .second, .val .null, vR a5, vJ q6, .second, vI p7, .val .null, .val .null, .val .null, vJ q11, .second] [])) _
    refine XS.aloadN X8.here hx rfl (hb hby d8_20) rfl rfl ?_
    show Steps _ _ _ (T8.setTop (mkF m 21 #[vR a1, vR a2, vJ q3, .second, .val .null, vR a5, vJ q6, .second, vI p7, .val .null, .val .null, .val .null, vJ q11, .second] [iR a1])) _
    refine XS.aload X8.here hx rfl (hb hby d8_21) rfl rfl ?_
    show Steps _ _ _ (T8.setTop (mkF m 23 #[vR a1, vR a2, vJ q3, .second, .val .null, vR a5, vJ q6, .second, vI p7, .val .null, .val .null, .val .null, vJ q11, .second] [iR a5, iR a1])) _
    refine st11 _ ?_
    show Steps _ _ _ (T11.setTop (mkF m 26 #[vR a1, vR a2, vJ q3, .second, .val .null, vR a5, vJ q6, .second, vI p7, .val .null, .val .null, .val .null, vJ q11, .second] [])) _
    refine XS.aloadN X11.here hx rfl (hb hby d8_26) rfl rfl ?_
    show Steps _ _ _ (T11.setTop (mkF m 27 #[vR a1, vR a2, vJ q3, .second, .val .null, vR a5, vJ q6, .second, vI p7, .val .null, .val .null, .val .null, vJ q11, .second] [iR a1])) _
    refine XS.lload X11.here hx rfl (hb hby d8_27) rfl ?_
    show Steps _ _ _ (T11.setTop (mkF m 29 #[vR a1, vR a2, vJ q3, .second, .val .null, vR a5, vJ q6, .second, vI p7, .val .null, .val .null, .val .null, vJ q11, .second] [iJ q6, iR a1])) _
    refine st14 _ ?_
    show Steps _ _ _ (T14.setTop (mkF m 32 #[vR a1, vR a2, vJ q3, .second, .val .null, vR a5, vJ q6, .second, vI p7, .val .null, .val .null, .val .null, vJ q11, .second] [])) _
    refine XS.aloadN X14.here hx rfl (hb hby d8_32) rfl rfl ?_
    show Steps _ _ _ (T14.setTop (mkF m 33 #[vR a1, vR a2, vJ q3, .second, .val .null, vR a5, vJ q6, .second, vI p7, .val .null, .val .null, .val .null, vJ q11, .second] [iR a1])) _
    refine XS.iload X14.here hx rfl (hb hby d8_33) rfl ?_
    show Steps _ _ _ (T14.setTop (mkF m 35 #[vR a1, vR a2, vJ q3, .second, .val .null, vR a5, vJ q6, .second, vI p7, .val .null, .val .null, .val .null, vJ q11, .second] [iI p7, iR a1])) _
    refine st17 _ ?_
    show Steps _ _ _ (T17.setTop (mkF m 38 #[vR a1, vR a2, vJ q3, .second, .val .null, vR a5, vJ q6, .second, vI p7, .val .null, .val .null, .val .null, vJ q11, .second] [])) _
    refine XS.aloadN X17.here hx rfl (hb hby d8_38) rfl rfl ?_
    show Steps _ _ _ (T17.setTop (mkF m 39 #[vR a1, vR a2, vJ q3, .second, .val .null, vR a5, vJ q6, .second, vI p7, .val .null, .val .null, .val .null, vJ q11, .second] [iR a1])) _
    refine XS.aload X17.here hx rfl (hb hby d8_39) rfl rfl ?_
    show Steps _ _ _ (T17.setTop (mkF m 41 #[vR a1, vR a2, vJ q3, .second, .val .null, vR a5, vJ q6, .second, vI p7, .val .null, .val .null, .val .null, vJ q11, .second] [.null, iR a1])) _
    refine st20 _ ?_
    show Steps _ _ _ (T20.setTop (mkF m 44 #[vR a1, vR a2, vJ q3, .second, .val .null, vR a5, vJ q6, .second, vI p7, .val .null, .val .null, .val .null, vJ q11, .second] [])) _
    refine XS.aloadN X20.here hx rfl (hb hby d8_44) rfl rfl ?_
    show Steps _ _ _ (T20.setTop (mkF m 45 #[vR a1, vR a2, vJ q3, .second, .val .null, vR a5, vJ q6, .second, vI p7, .val .null, .val .null, .val .null, vJ q11, .second] [iR a1])) _
    refine XS.aload X20.here hx rfl (hb hby d8_45) rfl rfl ?_
    show Steps _ _ _ (T20.setTop (mkF m 47 #[vR a1, vR a2, vJ q3, .second, .val .null, vR a5, vJ q6, .second, vI p7, .val .null, .val .null, .val .null, vJ q11, .second] [.null, iR a1])) _
    refine st23 _ ?_
    show Steps _ _ _ (T23.setTop (mkF m 50 #[vR a1, vR a2, vJ q3, .second, .val .null, vR a5, vJ q6, .second, vI p7, .val .null, .val .null, .val .null, vJ q11, .second] [])) _
    refine XS.aloadN X23.here hx rfl (hb hby d8_50) rfl rfl ?_
    show Steps _ _ _ (T23.setTop (mkF m 51 #[vR a1, vR a2, vJ q3, .second, .val .null, vR a5, vJ q6, .second, vI p7, .val .null, .val .null, .val .null, vJ q11, .second] [iR a1])) _
    refine XS.aload X23.here hx rfl (hb hby d8_51) rfl rfl ?_
    show Steps _ _ _ (T23.setTop (mkF m 53 #[vR a1, vR a2, vJ q3, .second, .val .null, vR a5, vJ q6, .second, vI p7, .val .null, .val .null, .val .null, vJ q11, .second] [.null, iR a1])) _
    refine st26 _ ?_
    show Steps _ _ _ (T26.setTop (mkF m 56 #[vR a1, vR a2, vJ q3, .second, .val .null, vR a5, vJ q6, .second, vI p7, .val .null, .val .null, .val .null, vJ q11, .second] [])) _
    refine XS.aloadN X26.here hx rfl (hb hby d8_56) rfl rfl ?_
    show Steps _ _ _ (T26.setTop (mkF m 57 #[vR a1, vR a2, vJ q3, .second, .val .null, vR a5, vJ q6, .second, vI p7, .val .null, .val .null, .val .null, vJ q11, .second] [iR a1])) _
    refine XS.lload X26.here hx rfl (hb hby d8_57) rfl ?_
    show Steps _ _ _ (T26.setTop (mkF m 59 #[vR a1, vR a2, vJ q3, .second, .val .null, vR a5, vJ q6, .second, vI p7, .val .null, .val .null, .val .null, vJ q11, .second] [iJ q11, iR a1])) _
    refine st29 _ ?_
    show Steps _ _ _ (T29.setTop (mkF m 62 #[vR a1, vR a2, vJ q3, .second, .val .null, vR a5, vJ q6, .second, vI p7, .val .null, .val .null, .val .null, vJ q11, .second] [])) _
    exact X29.returnOut hx Bd.returns (hb hby d8_62) hr
  · show Q8_nn Z a1 a2 q3 a5 q6 p7 q11 h0 n0 _ T29.heap _
    rw [e29]
    exact ⟨rfl, N29, K29, fk30, fk31, fk32, fk33, fk34, fk35, fk36, fk37, fk38, fk39, Fw29⟩
theorem ef_8_nr (m : MethodId) (x0 : Addr) (x1 : Addr) (x2 : Int64) (x4 : Addr) (x5 : Int64) (x6 : Int32) (x9 : Addr) (x10 : Int64) : entryFrame m #[(.ref x0), (.ref x1), (.long x2), .null, (.ref x4), (.long x5), (.int x6), .null, .null, (.ref x9), (.long x10)] 14 = mkF m 0 #[.val (.ref x0), .val (.ref x1), .val (.long x2), .second, .val .null, .val (.ref x4), .val (.long x5), .second, .val (.int x6), .val .null, .val .null, .val (.ref x9), .val (.long x10), .second] [] := by first | (simp [entryFrame, mkF, argsToLocals, Value.category]; done) | rfl
def Q8_nr (Z : State) (a1 : Addr) (a2 : Addr) (q3 : Int64) (a5 : Addr) (q6 : Int64) (p7 : Int32) (a10 : Addr) (q11 : Int64) (h0 : Heap) (n0 : Nat) (v : Option Value) (h : Heap) (L : List Loc) : Prop := v = none ∧ Fr n0 L ∧ Keep h0 h [a1] ∧ Exa Z h a1 "com/example/threefold/threefold/store/Activation" ∧ Fld Z h a1 "com/example/threefold/threefold/store/Activation" "activationId" "Ljava/lang/String;" (.ref a2) ∧ Fld Z h a1 "com/example/threefold/threefold/store/Activation" "applicationId" "J" (.long q3) ∧ Fld Z h a1 "com/example/threefold/threefold/store/Activation" "userId" "Ljava/lang/String;" .null ∧ Fld Z h a1 "com/example/threefold/threefold/store/Activation" "status" "Lcom/example/threefold/threefold/protocol/ActivationStatus;" (.ref a5) ∧ Fld Z h a1 "com/example/threefold/threefold/store/Activation" "counter" "J" (.long q6) ∧ Fld Z h a1 "com/example/threefold/threefold/store/Activation" "failedAttempts" "I" (.int p7) ∧ Fld Z h a1 "com/example/threefold/threefold/store/Activation" "blockedReason" "Ljava/lang/String;" .null ∧ Fld Z h a1 "com/example/threefold/threefold/store/Activation" "code" "Lcom/example/threefold/threefold/protocol/ActivationCode;" .null ∧ Fld Z h a1 "com/example/threefold/threefold/store/Activation" "device" "Lcom/example/threefold/threefold/store/Device;" (.ref a10) ∧ Fld Z h a1 "com/example/threefold/threefold/store/Activation" "createdAt" "J" (.long q11)
set_option maxRecDepth 65536 in
set_option maxHeartbeats 40000000 in
theorem rm8_nr (l : Launch) (Z : State) (a0 : Array Value) (hw : ∀ d ∈ tables_1, d.before a0 Z = true) (ws : List Jvm.Cond) (a1 : Addr) (a2 : Addr) (q3 : Int64) (a5 : Addr) (q6 : Int64) (p7 : Int32) (a10 : Addr) (q11 : Int64) (h0 : Heap) (n0 : Nat) (Z0 : n0 ≤ h0.size) (E_a1 : Exa Z h0 a1 "com/example/threefold/threefold/store/Activation") (g_a1 : n0 ≤ a1) (F_activationId : Fld Z h0 a1 "com/example/threefold/threefold/store/Activation" "activationId" "Ljava/lang/String;" .null) (F_applicationId : Fld Z h0 a1 "com/example/threefold/threefold/store/Activation" "applicationId" "J" (.long (0 : Int64))) (F_userId : Fld Z h0 a1 "com/example/threefold/threefold/store/Activation" "userId" "Ljava/lang/String;" .null) (F_status : Fld Z h0 a1 "com/example/threefold/threefold/store/Activation" "status" "Lcom/example/threefold/threefold/protocol/ActivationStatus;" .null) (F_counter : Fld Z h0 a1 "com/example/threefold/threefold/store/Activation" "counter" "J" (.long (0 : Int64))) (F_failedAttempts : Fld Z h0 a1 "com/example/threefold/threefold/store/Activation" "failedAttempts" "I" (.int (0 : Int32))) (F_blockedReason : Fld Z h0 a1 "com/example/threefold/threefold/store/Activation" "blockedReason" "Ljava/lang/String;" .null) (F_code : Fld Z h0 a1 "com/example/threefold/threefold/store/Activation" "code" "Lcom/example/threefold/threefold/protocol/ActivationCode;" .null) (F_device : Fld Z h0 a1 "com/example/threefold/threefold/store/Activation" "device" "Lcom/example/threefold/threefold/store/Device;" .null) (F_createdAt : Fld Z h0 a1 "com/example/threefold/threefold/store/Activation" "createdAt" "J" (.long (0 : Int64))) :
    MetFree l (⟨"com/example/threefold/threefold/store/Activation", "<init>", "(Ljava/lang/String;JLjava/lang/String;Lcom/example/threefold/threefold/protocol/ActivationStatus;JILjava/lang/String;Lcom/example/threefold/threefold/protocol/ActivationCode;Lcom/example/threefold/threefold/store/Device;J)V"⟩ : MethodName) (head1 (Jvm.Cond.code (⟨"com/example/threefold/threefold/store/Activation", "<init>", "(Ljava/lang/String;JLjava/lang/String;Lcom/example/threefold/threefold/protocol/ActivationStatus;JILjava/lang/String;Lcom/example/threefold/threefold/protocol/ActivationCode;Lcom/example/threefold/threefold/store/Device;J)V"⟩ : MethodName) prog_37_method_1_code 14 none :: ws) ({ frames := 2, cells := 0, slots := 0, locals := 24 } : Room)) (fun a U => a = #[(.ref a1), (.ref a2), (.long q3), .null, (.ref a5), (.long q6), (.int p7), .null, .null, (.ref a10), (.long q11)] ∧ Z.Warmed39 U.vm ∧ U.heap = h0) (fun _ _ _ _ _ => True) (fun _ U o U' => ∃ v L, o = .returned v ∧ Q8_nr Z a1 a2 q3 a5 q6 p7 a10 q11 h0 n0 v U'.heap L ∧ FrameEnd U o U' L ({ frames := 2, cells := 0, slots := 0, locals := 24 } : Room).cells ({ frames := 2, cells := 0, slots := 0, locals := 24 } : Room).slots) := by
  refine MetFree.of_bodySF (plainFor_of_name pn_3) hisR ?_
  intro p e s m args below meth c s₁ Bd hml0 hP hK
  obtain ⟨rfl, hZ, hh⟩ := hP
  have hx := Bd.exec
  have hby := Bd.bytes
  have hml : c.maxLocals = 14 := hml0
  have hown : s.vm.findClass "com/example/threefold/threefold/store/Activation" = some m.cls := findClass_of_methodNamed Bd.named
  have hnm := (name_of_methodNamed Bd.named Bd.method).1
  have X0 : Stand p l e ({ frames := 2, cells := 0, slots := 0, locals := 24 } : Room) s m #[(.ref a1), (.ref a2), (.long q3), .null, (.ref a5), (.long q6), (.int p7), .null, .null, (.ref a10), (.long q11)] below meth c s₁ [] 0 0 := Stand.of_body Bd
  have e0 : s₁.heap = h0 := by rw [← hh, Bd.state]; rfl
  have N0 := Fr.nil n0
  have K0 := Keep.refl h0 [a1]
  have pre0 : ∀ t, Steps p.tables e below (s₁.setTop (mkF m 0 #[.val (.ref a1), .val (.ref a2), .val (.long q3), .second, .val .null, .val (.ref a5), .val (.long q6), .second, .val (.int p7), .val .null, .val .null, .val (.ref a10), .val (.long q11), .second] [])) t → Steps p.tables e below (s₁.setTop (entryFrame m #[(.ref a1), (.ref a2), (.long q3), .null, (.ref a5), (.long q6), (.int p7), .null, .null, (.ref a10), (.long q11)] 14)) t := fun t k => castTop (ef_8_nr m a1 a2 q3 a5 q6 p7 a10 q11) k
  obtain ⟨_, _, ⟨T1, L1, k1, n1⟩, -, X1, ⟨Lc1, hQ1, l1, y1, z1⟩, st1⟩ := X0.specialBack hx (y := (⟨"java/lang/Record", "<init>", "()V"⟩ : MethodName)) rfl hown (mvT hZ (hw _ (List.mem_of_getElem? (i := 44) rfl))) (mvT hZ (hw _ (List.mem_of_getElem? (i := 45) rfl))) (mvT hZ (hw _ (List.mem_of_getElem? (i := 48) rfl))) (by decide) (backOf (W := 0) (rm9 l Z a0 hw [] a1 h0 ) hZ (hw _ (List.mem_of_getElem? (i := 48) rfl)) (hw _ (List.mem_of_getElem? (i := 47) rfl)) (by decide) (by decide)) (g := (mkF m 1 #[vR a1, vR a2, vJ q3, .second, .val .null, vR a5, vJ q6, .second, vI p7, .val .null, .val .null, vR a10, vJ q11, .second] [iR a1])) rfl (by rw [hml]; rfl) (Steps.refl _) (a := a1) (argsL := []) (rest := []) (lenOf pd_0 rfl) rfl (by show 2 * 0 + _ ≤ _; exact Nat.le_of_eq rfl) (hb hby d8_1) (fun _ _ => ⟨rfl, e0, (by decide : 0 + 0 ≤ _), (by decide : 0 + 0 ≤ _)⟩)
  dsimp only [Pt.U, Pt.locs, Pt.cells, Pt.slots] at X1 l1 y1 z1 st1 hQ1
  subst l1 y1 z1
  obtain ⟨rfl, rfl, e1⟩ := hQ1
  try rw [List.append_nil] at X1
  obtain ⟨T2, h2, X2, e2, W2, st2⟩ := putF X1 hx hZ hown (host := "") (Or.inl (hw _ (List.mem_of_getElem? (i := 50) rfl))) Via.refl e1 F_activationId E_a1 (Or.inr ⟨(hw _ (List.mem_of_getElem? (i := 51) rfl)), rfl, hnm⟩) (hw _ (List.mem_of_getElem? (i := 10) rfl)) (ty := (.object "java/lang/String")) (by decide) rfl rfl (g := (mkF m 6 #[vR a1, vR a2, vJ q3, .second, .val .null, vR a5, vJ q6, .second, vI p7, .val .null, .val .null, vR a10, vJ q11, .second] [iR a2, iR a1])) rfl rfl (hb hby d8_6)
  have Fw2 := F_activationId.same W2
  have K2 : Keep h0 h2 [a1] := K0.wr W2 (Or.inl (List.mem_of_getElem? (i := 0) rfl))
  have N2 := Fr.snoc X2 N0 g_a1
  have fk3 := (F_applicationId.other W2 (Or.inr (slot_ne (Or.inr (hw _ (List.mem_of_getElem? (i := 53) rfl))) (Or.inr (hw _ (List.mem_of_getElem? (i := 51) rfl))) (by decide) (t := .long) (t' := (.object "java/lang/String")) (by decide) (by decide))))
  have fk4 := (E_a1.wr W2)
  obtain ⟨T5, h5, X5, e5, W5, st5⟩ := putF X2 hx hZ hown (host := "") (Or.inl (hw _ (List.mem_of_getElem? (i := 52) rfl))) Via.refl e2 fk3 fk4 (Or.inr ⟨(hw _ (List.mem_of_getElem? (i := 53) rfl)), rfl, hnm⟩) (hw _ (List.mem_of_getElem? (i := 10) rfl)) (ty := .long) (by decide) rfl rfl (g := (mkF m 11 #[vR a1, vR a2, vJ q3, .second, .val .null, vR a5, vJ q6, .second, vI p7, .val .null, .val .null, vR a10, vJ q11, .second] [iJ q3, iR a1])) rfl rfl (hb hby d8_11)
  have Fw5 := fk3.same W5
  have K5 : Keep h0 h5 [a1] := K2.wr W5 (Or.inl (List.mem_of_getElem? (i := 0) rfl))
  have N5 := Fr.snoc X5 N2 g_a1
  have fk6 := ((F_userId.other W2 (Or.inr (slot_ne (Or.inr (hw _ (List.mem_of_getElem? (i := 55) rfl))) (Or.inr (hw _ (List.mem_of_getElem? (i := 51) rfl))) (by decide) (t := (.object "java/lang/String")) (t' := (.object "java/lang/String")) (by decide) (by decide)))).other W5 (Or.inr (slot_ne (Or.inr (hw _ (List.mem_of_getElem? (i := 55) rfl))) (Or.inr (hw _ (List.mem_of_getElem? (i := 53) rfl))) (by decide) (t := (.object "java/lang/String")) (t' := .long) (by decide) (by decide))))
  have fk7 := (fk4.wr W5)
  obtain ⟨T8, h8, X8, e8, W8, st8⟩ := putF X5 hx hZ hown (host := "") (Or.inl (hw _ (List.mem_of_getElem? (i := 54) rfl))) Via.refl e5 fk6 fk7 (Or.inr ⟨(hw _ (List.mem_of_getElem? (i := 55) rfl)), rfl, hnm⟩) (hw _ (List.mem_of_getElem? (i := 10) rfl)) (ty := (.object "java/lang/String")) (by decide) rfl rfl (g := (mkF m 17 #[vR a1, vR a2, vJ q3, .second, .val .null, vR a5, vJ q6, .second, vI p7, .val .null, .val .null, vR a10, vJ q11, .second] [.null, iR a1])) rfl rfl (hb hby d8_17)
  have Fw8 := fk6.same W8
  have K8 : Keep h0 h8 [a1] := K5.wr W8 (Or.inl (List.mem_of_getElem? (i := 0) rfl))
  have N8 := Fr.snoc X8 N5 g_a1
  have fk9 := (((F_status.other W2 (Or.inr (slot_ne (Or.inr (hw _ (List.mem_of_getElem? (i := 57) rfl))) (Or.inr (hw _ (List.mem_of_getElem? (i := 51) rfl))) (by decide) (t := (.object "com/example/threefold/threefold/protocol/ActivationStatus")) (t' := (.object "java/lang/String")) (by decide) (by decide)))).other W5 (Or.inr (slot_ne (Or.inr (hw _ (List.mem_of_getElem? (i := 57) rfl))) (Or.inr (hw _ (List.mem_of_getElem? (i := 53) rfl))) (by decide) (t := (.object "com/example/threefold/threefold/protocol/ActivationStatus")) (t' := .long) (by decide) (by decide)))).other W8 (Or.inr (slot_ne (Or.inr (hw _ (List.mem_of_getElem? (i := 57) rfl))) (Or.inr (hw _ (List.mem_of_getElem? (i := 55) rfl))) (by decide) (t := (.object "com/example/threefold/threefold/protocol/ActivationStatus")) (t' := (.object "java/lang/String")) (by decide) (by decide))))
  have fk10 := (fk7.wr W8)
  obtain ⟨T11, h11, X11, e11, W11, st11⟩ := putF X8 hx hZ hown (host := "") (Or.inl (hw _ (List.mem_of_getElem? (i := 56) rfl))) Via.refl e8 fk9 fk10 (Or.inr ⟨(hw _ (List.mem_of_getElem? (i := 57) rfl)), rfl, hnm⟩) (hw _ (List.mem_of_getElem? (i := 10) rfl)) (ty := (.object "com/example/threefold/threefold/protocol/ActivationStatus")) (by decide) rfl rfl (g := (mkF m 23 #[vR a1, vR a2, vJ q3, .second, .val .null, vR a5, vJ q6, .second, vI p7, .val .null, .val .null, vR a10, vJ q11, .second] [iR a5, iR a1])) rfl rfl (hb hby d8_23)
  have Fw11 := fk9.same W11
  have K11 : Keep h0 h11 [a1] := K8.wr W11 (Or.inl (List.mem_of_getElem? (i := 0) rfl))
  have N11 := Fr.snoc X11 N8 g_a1
  have fk12 := ((((F_counter.other W2 (Or.inr (slot_ne (Or.inr (hw _ (List.mem_of_getElem? (i := 59) rfl))) (Or.inr (hw _ (List.mem_of_getElem? (i := 51) rfl))) (by decide) (t := .long) (t' := (.object "java/lang/String")) (by decide) (by decide)))).other W5 (Or.inr (slot_ne (Or.inr (hw _ (List.mem_of_getElem? (i := 59) rfl))) (Or.inr (hw _ (List.mem_of_getElem? (i := 53) rfl))) (by decide) (t := .long) (t' := .long) (by decide) (by decide)))).other W8 (Or.inr (slot_ne (Or.inr (hw _ (List.mem_of_getElem? (i := 59) rfl))) (Or.inr (hw _ (List.mem_of_getElem? (i := 55) rfl))) (by decide) (t := .long) (t' := (.object "java/lang/String")) (by decide) (by decide)))).other W11 (Or.inr (slot_ne (Or.inr (hw _ (List.mem_of_getElem? (i := 59) rfl))) (Or.inr (hw _ (List.mem_of_getElem? (i := 57) rfl))) (by decide) (t := .long) (t' := (.object "com/example/threefold/threefold/protocol/ActivationStatus")) (by decide) (by decide))))
  have fk13 := (fk10.wr W11)
  obtain ⟨T14, h14, X14, e14, W14, st14⟩ := putF X11 hx hZ hown (host := "") (Or.inl (hw _ (List.mem_of_getElem? (i := 58) rfl))) Via.refl e11 fk12 fk13 (Or.inr ⟨(hw _ (List.mem_of_getElem? (i := 59) rfl)), rfl, hnm⟩) (hw _ (List.mem_of_getElem? (i := 10) rfl)) (ty := .long) (by decide) rfl rfl (g := (mkF m 29 #[vR a1, vR a2, vJ q3, .second, .val .null, vR a5, vJ q6, .second, vI p7, .val .null, .val .null, vR a10, vJ q11, .second] [iJ q6, iR a1])) rfl rfl (hb hby d8_29)
  have Fw14 := fk12.same W14
  have K14 : Keep h0 h14 [a1] := K11.wr W14 (Or.inl (List.mem_of_getElem? (i := 0) rfl))
  have N14 := Fr.snoc X14 N11 g_a1
  have fk15 := (((((F_failedAttempts.other W2 (Or.inr (slot_ne (Or.inr (hw _ (List.mem_of_getElem? (i := 61) rfl))) (Or.inr (hw _ (List.mem_of_getElem? (i := 51) rfl))) (by decide) (t := .int) (t' := (.object "java/lang/String")) (by decide) (by decide)))).other W5 (Or.inr (slot_ne (Or.inr (hw _ (List.mem_of_getElem? (i := 61) rfl))) (Or.inr (hw _ (List.mem_of_getElem? (i := 53) rfl))) (by decide) (t := .int) (t' := .long) (by decide) (by decide)))).other W8 (Or.inr (slot_ne (Or.inr (hw _ (List.mem_of_getElem? (i := 61) rfl))) (Or.inr (hw _ (List.mem_of_getElem? (i := 55) rfl))) (by decide) (t := .int) (t' := (.object "java/lang/String")) (by decide) (by decide)))).other W11 (Or.inr (slot_ne (Or.inr (hw _ (List.mem_of_getElem? (i := 61) rfl))) (Or.inr (hw _ (List.mem_of_getElem? (i := 57) rfl))) (by decide) (t := .int) (t' := (.object "com/example/threefold/threefold/protocol/ActivationStatus")) (by decide) (by decide)))).other W14 (Or.inr (slot_ne (Or.inr (hw _ (List.mem_of_getElem? (i := 61) rfl))) (Or.inr (hw _ (List.mem_of_getElem? (i := 59) rfl))) (by decide) (t := .int) (t' := .long) (by decide) (by decide))))
  have fk16 := (fk13.wr W14)
  obtain ⟨T17, h17, X17, e17, W17, st17⟩ := putF X14 hx hZ hown (host := "") (Or.inl (hw _ (List.mem_of_getElem? (i := 60) rfl))) Via.refl e14 fk15 fk16 (Or.inr ⟨(hw _ (List.mem_of_getElem? (i := 61) rfl)), rfl, hnm⟩) (hw _ (List.mem_of_getElem? (i := 10) rfl)) (ty := .int) (by decide) rfl rfl (g := (mkF m 35 #[vR a1, vR a2, vJ q3, .second, .val .null, vR a5, vJ q6, .second, vI p7, .val .null, .val .null, vR a10, vJ q11, .second] [iI p7, iR a1])) rfl rfl (hb hby d8_35)
  have Fw17 := fk15.same W17
  have K17 : Keep h0 h17 [a1] := K14.wr W17 (Or.inl (List.mem_of_getElem? (i := 0) rfl))
  have N17 := Fr.snoc X17 N14 g_a1
  have fk18 := ((((((F_blockedReason.other W2 (Or.inr (slot_ne (Or.inr (hw _ (List.mem_of_getElem? (i := 63) rfl))) (Or.inr (hw _ (List.mem_of_getElem? (i := 51) rfl))) (by decide) (t := (.object "java/lang/String")) (t' := (.object "java/lang/String")) (by decide) (by decide)))).other W5 (Or.inr (slot_ne (Or.inr (hw _ (List.mem_of_getElem? (i := 63) rfl))) (Or.inr (hw _ (List.mem_of_getElem? (i := 53) rfl))) (by decide) (t := (.object "java/lang/String")) (t' := .long) (by decide) (by decide)))).other W8 (Or.inr (slot_ne (Or.inr (hw _ (List.mem_of_getElem? (i := 63) rfl))) (Or.inr (hw _ (List.mem_of_getElem? (i := 55) rfl))) (by decide) (t := (.object "java/lang/String")) (t' := (.object "java/lang/String")) (by decide) (by decide)))).other W11 (Or.inr (slot_ne (Or.inr (hw _ (List.mem_of_getElem? (i := 63) rfl))) (Or.inr (hw _ (List.mem_of_getElem? (i := 57) rfl))) (by decide) (t := (.object "java/lang/String")) (t' := (.object "com/example/threefold/threefold/protocol/ActivationStatus")) (by decide) (by decide)))).other W14 (Or.inr (slot_ne (Or.inr (hw _ (List.mem_of_getElem? (i := 63) rfl))) (Or.inr (hw _ (List.mem_of_getElem? (i := 59) rfl))) (by decide) (t := (.object "java/lang/String")) (t' := .long) (by decide) (by decide)))).other W17 (Or.inr (slot_ne (Or.inr (hw _ (List.mem_of_getElem? (i := 63) rfl))) (Or.inr (hw _ (List.mem_of_getElem? (i := 61) rfl))) (by decide) (t := (.object "java/lang/String")) (t' := .int) (by decide) (by decide))))
  have fk19 := (fk16.wr W17)
  obtain ⟨T20, h20, X20, e20, W20, st20⟩ := putF X17 hx hZ hown (host := "") (Or.inl (hw _ (List.mem_of_getElem? (i := 62) rfl))) Via.refl e17 fk18 fk19 (Or.inr ⟨(hw _ (List.mem_of_getElem? (i := 63) rfl)), rfl, hnm⟩) (hw _ (List.mem_of_getElem? (i := 10) rfl)) (ty := (.object "java/lang/String")) (by decide) rfl rfl (g := (mkF m 41 #[vR a1, vR a2, vJ q3, .second, .val .null, vR a5, vJ q6, .second, vI p7, .val .null, .val .null, vR a10, vJ q11, .second] [.null, iR a1])) rfl rfl (hb hby d8_41)
  have Fw20 := fk18.same W20
  have K20 : Keep h0 h20 [a1] := K17.wr W20 (Or.inl (List.mem_of_getElem? (i := 0) rfl))
  have N20 := Fr.snoc X20 N17 g_a1
  have fk21 := (((((((F_code.other W2 (Or.inr (slot_ne (Or.inr (hw _ (List.mem_of_getElem? (i := 65) rfl))) (Or.inr (hw _ (List.mem_of_getElem? (i := 51) rfl))) (by decide) (t := (.object "com/example/threefold/threefold/protocol/ActivationCode")) (t' := (.object "java/lang/String")) (by decide) (by decide)))).other W5 (Or.inr (slot_ne (Or.inr (hw _ (List.mem_of_getElem? (i := 65) rfl))) (Or.inr (hw _ (List.mem_of_getElem? (i := 53) rfl))) (by decide) (t := (.object "com/example/threefold/threefold/protocol/ActivationCode")) (t' := .long) (by decide) (by decide)))).other W8 (Or.inr (slot_ne (Or.inr (hw _ (List.mem_of_getElem? (i := 65) rfl))) (Or.inr (hw _ (List.mem_of_getElem? (i := 55) rfl))) (by decide) (t := (.object "com/example/threefold/threefold/protocol/ActivationCode")) (t' := (.object "java/lang/String")) (by decide) (by decide)))).other W11 (Or.inr (slot_ne (Or.inr (hw _ (List.mem_of_getElem? (i := 65) rfl))) (Or.inr (hw _ (List.mem_of_getElem? (i := 57) rfl))) (by decide) (t := (.object "com/example/threefold/threefold/protocol/ActivationCode")) (t' := (.object "com/example/threefold/threefold/protocol/ActivationStatus")) (by decide) (by decide)))).other W14 (Or.inr (slot_ne (Or.inr (hw _ (List.mem_of_getElem? (i := 65) rfl))) (Or.inr (hw _ (List.mem_of_getElem? (i := 59) rfl))) (by decide) (t := (.object "com/example/threefold/threefold/protocol/ActivationCode")) (t' := .long) (by decide) (by decide)))).other W17 (Or.inr (slot_ne (Or.inr (hw _ (List.mem_of_getElem? (i := 65) rfl))) (Or.inr (hw _ (List.mem_of_getElem? (i := 61) rfl))) (by decide) (t := (.object "com/example/threefold/threefold/protocol/ActivationCode")) (t' := .int) (by decide) (by decide)))).other W20 (Or.inr (slot_ne (Or.inr (hw _ (List.mem_of_getElem? (i := 65) rfl))) (Or.inr (hw _ (List.mem_of_getElem? (i := 63) rfl))) (by decide) (t := (.object "com/example/threefold/threefold/protocol/ActivationCode")) (t' := (.object "java/lang/String")) (by decide) (by decide))))
  have fk22 := (fk19.wr W20)
  obtain ⟨T23, h23, X23, e23, W23, st23⟩ := putF X20 hx hZ hown (host := "") (Or.inl (hw _ (List.mem_of_getElem? (i := 64) rfl))) Via.refl e20 fk21 fk22 (Or.inr ⟨(hw _ (List.mem_of_getElem? (i := 65) rfl)), rfl, hnm⟩) (hw _ (List.mem_of_getElem? (i := 10) rfl)) (ty := (.object "com/example/threefold/threefold/protocol/ActivationCode")) (by decide) rfl rfl (g := (mkF m 47 #[vR a1, vR a2, vJ q3, .second, .val .null, vR a5, vJ q6, .second, vI p7, .val .null, .val .null, vR a10, vJ q11, .second] [.null, iR a1])) rfl rfl (hb hby d8_47)
  have Fw23 := fk21.same W23
  have K23 : Keep h0 h23 [a1] := K20.wr W23 (Or.inl (List.mem_of_getElem? (i := 0) rfl))
  have N23 := Fr.snoc X23 N20 g_a1
  have fk24 := ((((((((F_device.other W2 (Or.inr (slot_ne (Or.inr (hw _ (List.mem_of_getElem? (i := 67) rfl))) (Or.inr (hw _ (List.mem_of_getElem? (i := 51) rfl))) (by decide) (t := (.object "com/example/threefold/threefold/store/Device")) (t' := (.object "java/lang/String")) (by decide) (by decide)))).other W5 (Or.inr (slot_ne (Or.inr (hw _ (List.mem_of_getElem? (i := 67) rfl))) (Or.inr (hw _ (List.mem_of_getElem? (i := 53) rfl))) (by decide) (t := (.object "com/example/threefold/threefold/store/Device")) (t' := .long) (by decide) (by decide)))).other W8 (Or.inr (slot_ne (Or.inr (hw _ (List.mem_of_getElem? (i := 67) rfl))) (Or.inr (hw _ (List.mem_of_getElem? (i := 55) rfl))) (by decide) (t := (.object "com/example/threefold/threefold/store/Device")) (t' := (.object "java/lang/String")) (by decide) (by decide)))).other W11 (Or.inr (slot_ne (Or.inr (hw _ (List.mem_of_getElem? (i := 67) rfl))) (Or.inr (hw _ (List.mem_of_getElem? (i := 57) rfl))) (by decide) (t := (.object "com/example/threefold/threefold/store/Device")) (t' := (.object "com/example/threefold/threefold/protocol/ActivationStatus")) (by decide) (by decide)))).other W14 (Or.inr (slot_ne (Or.inr (hw _ (List.mem_of_getElem? (i := 67) rfl))) (Or.inr (hw _ (List.mem_of_getElem? (i := 59) rfl))) (by decide) (t := (.object "com/example/threefold/threefold/store/Device")) (t' := .long) (by decide) (by decide)))).other W17 (Or.inr (slot_ne (Or.inr (hw _ (List.mem_of_getElem? (i := 67) rfl))) (Or.inr (hw _ (List.mem_of_getElem? (i := 61) rfl))) (by decide) (t := (.object "com/example/threefold/threefold/store/Device")) (t' := .int) (by decide) (by decide)))).other W20 (Or.inr (slot_ne (Or.inr (hw _ (List.mem_of_getElem? (i := 67) rfl))) (Or.inr (hw _ (List.mem_of_getElem? (i := 63) rfl))) (by decide) (t := (.object "com/example/threefold/threefold/store/Device")) (t' := (.object "java/lang/String")) (by decide) (by decide)))).other W23 (Or.inr (slot_ne (Or.inr (hw _ (List.mem_of_getElem? (i := 67) rfl))) (Or.inr (hw _ (List.mem_of_getElem? (i := 65) rfl))) (by decide) (t := (.object "com/example/threefold/threefold/store/Device")) (t' := (.object "com/example/threefold/threefold/protocol/ActivationCode")) (by decide) (by decide))))
  have fk25 := (fk22.wr W23)
  obtain ⟨T26, h26, X26, e26, W26, st26⟩ := putF X23 hx hZ hown (host := "") (Or.inl (hw _ (List.mem_of_getElem? (i := 66) rfl))) Via.refl e23 fk24 fk25 (Or.inr ⟨(hw _ (List.mem_of_getElem? (i := 67) rfl)), rfl, hnm⟩) (hw _ (List.mem_of_getElem? (i := 10) rfl)) (ty := (.object "com/example/threefold/threefold/store/Device")) (by decide) rfl rfl (g := (mkF m 53 #[vR a1, vR a2, vJ q3, .second, .val .null, vR a5, vJ q6, .second, vI p7, .val .null, .val .null, vR a10, vJ q11, .second] [iR a10, iR a1])) rfl rfl (hb hby d8_53)
  have Fw26 := fk24.same W26
  have K26 : Keep h0 h26 [a1] := K23.wr W26 (Or.inl (List.mem_of_getElem? (i := 0) rfl))
  have N26 := Fr.snoc X26 N23 g_a1
  have fk27 := (((((((((F_createdAt.other W2 (Or.inr (slot_ne (Or.inr (hw _ (List.mem_of_getElem? (i := 69) rfl))) (Or.inr (hw _ (List.mem_of_getElem? (i := 51) rfl))) (by decide) (t := .long) (t' := (.object "java/lang/String")) (by decide) (by decide)))).other W5 (Or.inr (slot_ne (Or.inr (hw _ (List.mem_of_getElem? (i := 69) rfl))) (Or.inr (hw _ (List.mem_of_getElem? (i := 53) rfl))) (by decide) (t := .long) (t' := .long) (by decide) (by decide)))).other W8 (Or.inr (slot_ne (Or.inr (hw _ (List.mem_of_getElem? (i := 69) rfl))) (Or.inr (hw _ (List.mem_of_getElem? (i := 55) rfl))) (by decide) (t := .long) (t' := (.object "java/lang/String")) (by decide) (by decide)))).other W11 (Or.inr (slot_ne (Or.inr (hw _ (List.mem_of_getElem? (i := 69) rfl))) (Or.inr (hw _ (List.mem_of_getElem? (i := 57) rfl))) (by decide) (t := .long) (t' := (.object "com/example/threefold/threefold/protocol/ActivationStatus")) (by decide) (by decide)))).other W14 (Or.inr (slot_ne (Or.inr (hw _ (List.mem_of_getElem? (i := 69) rfl))) (Or.inr (hw _ (List.mem_of_getElem? (i := 59) rfl))) (by decide) (t := .long) (t' := .long) (by decide) (by decide)))).other W17 (Or.inr (slot_ne (Or.inr (hw _ (List.mem_of_getElem? (i := 69) rfl))) (Or.inr (hw _ (List.mem_of_getElem? (i := 61) rfl))) (by decide) (t := .long) (t' := .int) (by decide) (by decide)))).other W20 (Or.inr (slot_ne (Or.inr (hw _ (List.mem_of_getElem? (i := 69) rfl))) (Or.inr (hw _ (List.mem_of_getElem? (i := 63) rfl))) (by decide) (t := .long) (t' := (.object "java/lang/String")) (by decide) (by decide)))).other W23 (Or.inr (slot_ne (Or.inr (hw _ (List.mem_of_getElem? (i := 69) rfl))) (Or.inr (hw _ (List.mem_of_getElem? (i := 65) rfl))) (by decide) (t := .long) (t' := (.object "com/example/threefold/threefold/protocol/ActivationCode")) (by decide) (by decide)))).other W26 (Or.inr (slot_ne (Or.inr (hw _ (List.mem_of_getElem? (i := 69) rfl))) (Or.inr (hw _ (List.mem_of_getElem? (i := 67) rfl))) (by decide) (t := .long) (t' := (.object "com/example/threefold/threefold/store/Device")) (by decide) (by decide))))
  have fk28 := (fk25.wr W26)
  obtain ⟨T29, h29, X29, e29, W29, st29⟩ := putF X26 hx hZ hown (host := "") (Or.inl (hw _ (List.mem_of_getElem? (i := 68) rfl))) Via.refl e26 fk27 fk28 (Or.inr ⟨(hw _ (List.mem_of_getElem? (i := 69) rfl)), rfl, hnm⟩) (hw _ (List.mem_of_getElem? (i := 10) rfl)) (ty := .long) (by decide) rfl rfl (g := (mkF m 59 #[vR a1, vR a2, vJ q3, .second, .val .null, vR a5, vJ q6, .second, vI p7, .val .null, .val .null, vR a10, vJ q11, .second] [iJ q11, iR a1])) rfl rfl (hb hby d8_59)
  have Fw29 := fk27.same W29
  have K29 : Keep h0 h29 [a1] := K26.wr W29 (Or.inl (List.mem_of_getElem? (i := 0) rfl))
  have N29 := Fr.snoc X29 N26 g_a1
  obtain ⟨fs, hr, hrun, hended, hW, hsame⟩ := X29.leave (v := none) (fun _ => rfl)
  have fk30 := (fk28.wr W29)
  have fk31 := (((((((((Fw2.other W5 (Or.inr (slot_ne (Or.inr (hw _ (List.mem_of_getElem? (i := 51) rfl))) (Or.inr (hw _ (List.mem_of_getElem? (i := 53) rfl))) (by decide) (t := (.object "java/lang/String")) (t' := .long) (by decide) (by decide)))).other W8 (Or.inr (slot_ne (Or.inr (hw _ (List.mem_of_getElem? (i := 51) rfl))) (Or.inr (hw _ (List.mem_of_getElem? (i := 55) rfl))) (by decide) (t := (.object "java/lang/String")) (t' := (.object "java/lang/String")) (by decide) (by decide)))).other W11 (Or.inr (slot_ne (Or.inr (hw _ (List.mem_of_getElem? (i := 51) rfl))) (Or.inr (hw _ (List.mem_of_getElem? (i := 57) rfl))) (by decide) (t := (.object "java/lang/String")) (t' := (.object "com/example/threefold/threefold/protocol/ActivationStatus")) (by decide) (by decide)))).other W14 (Or.inr (slot_ne (Or.inr (hw _ (List.mem_of_getElem? (i := 51) rfl))) (Or.inr (hw _ (List.mem_of_getElem? (i := 59) rfl))) (by decide) (t := (.object "java/lang/String")) (t' := .long) (by decide) (by decide)))).other W17 (Or.inr (slot_ne (Or.inr (hw _ (List.mem_of_getElem? (i := 51) rfl))) (Or.inr (hw _ (List.mem_of_getElem? (i := 61) rfl))) (by decide) (t := (.object "java/lang/String")) (t' := .int) (by decide) (by decide)))).other W20 (Or.inr (slot_ne (Or.inr (hw _ (List.mem_of_getElem? (i := 51) rfl))) (Or.inr (hw _ (List.mem_of_getElem? (i := 63) rfl))) (by decide) (t := (.object "java/lang/String")) (t' := (.object "java/lang/String")) (by decide) (by decide)))).other W23 (Or.inr (slot_ne (Or.inr (hw _ (List.mem_of_getElem? (i := 51) rfl))) (Or.inr (hw _ (List.mem_of_getElem? (i := 65) rfl))) (by decide) (t := (.object "java/lang/String")) (t' := (.object "com/example/threefold/threefold/protocol/ActivationCode")) (by decide) (by decide)))).other W26 (Or.inr (slot_ne (Or.inr (hw _ (List.mem_of_getElem? (i := 51) rfl))) (Or.inr (hw _ (List.mem_of_getElem? (i := 67) rfl))) (by decide) (t := (.object "java/lang/String")) (t' := (.object "com/example/threefold/threefold/store/Device")) (by decide) (by decide)))).other W29 (Or.inr (slot_ne (Or.inr (hw _ (List.mem_of_getElem? (i := 51) rfl))) (Or.inr (hw _ (List.mem_of_getElem? (i := 69) rfl))) (by decide) (t := (.object "java/lang/String")) (t' := .long) (by decide) (by decide))))
  have fk32 := ((((((((Fw5.other W8 (Or.inr (slot_ne (Or.inr (hw _ (List.mem_of_getElem? (i := 53) rfl))) (Or.inr (hw _ (List.mem_of_getElem? (i := 55) rfl))) (by decide) (t := .long) (t' := (.object "java/lang/String")) (by decide) (by decide)))).other W11 (Or.inr (slot_ne (Or.inr (hw _ (List.mem_of_getElem? (i := 53) rfl))) (Or.inr (hw _ (List.mem_of_getElem? (i := 57) rfl))) (by decide) (t := .long) (t' := (.object "com/example/threefold/threefold/protocol/ActivationStatus")) (by decide) (by decide)))).other W14 (Or.inr (slot_ne (Or.inr (hw _ (List.mem_of_getElem? (i := 53) rfl))) (Or.inr (hw _ (List.mem_of_getElem? (i := 59) rfl))) (by decide) (t := .long) (t' := .long) (by decide) (by decide)))).other W17 (Or.inr (slot_ne (Or.inr (hw _ (List.mem_of_getElem? (i := 53) rfl))) (Or.inr (hw _ (List.mem_of_getElem? (i := 61) rfl))) (by decide) (t := .long) (t' := .int) (by decide) (by decide)))).other W20 (Or.inr (slot_ne (Or.inr (hw _ (List.mem_of_getElem? (i := 53) rfl))) (Or.inr (hw _ (List.mem_of_getElem? (i := 63) rfl))) (by decide) (t := .long) (t' := (.object "java/lang/String")) (by decide) (by decide)))).other W23 (Or.inr (slot_ne (Or.inr (hw _ (List.mem_of_getElem? (i := 53) rfl))) (Or.inr (hw _ (List.mem_of_getElem? (i := 65) rfl))) (by decide) (t := .long) (t' := (.object "com/example/threefold/threefold/protocol/ActivationCode")) (by decide) (by decide)))).other W26 (Or.inr (slot_ne (Or.inr (hw _ (List.mem_of_getElem? (i := 53) rfl))) (Or.inr (hw _ (List.mem_of_getElem? (i := 67) rfl))) (by decide) (t := .long) (t' := (.object "com/example/threefold/threefold/store/Device")) (by decide) (by decide)))).other W29 (Or.inr (slot_ne (Or.inr (hw _ (List.mem_of_getElem? (i := 53) rfl))) (Or.inr (hw _ (List.mem_of_getElem? (i := 69) rfl))) (by decide) (t := .long) (t' := .long) (by decide) (by decide))))
  have fk33 := (((((((Fw8.other W11 (Or.inr (slot_ne (Or.inr (hw _ (List.mem_of_getElem? (i := 55) rfl))) (Or.inr (hw _ (List.mem_of_getElem? (i := 57) rfl))) (by decide) (t := (.object "java/lang/String")) (t' := (.object "com/example/threefold/threefold/protocol/ActivationStatus")) (by decide) (by decide)))).other W14 (Or.inr (slot_ne (Or.inr (hw _ (List.mem_of_getElem? (i := 55) rfl))) (Or.inr (hw _ (List.mem_of_getElem? (i := 59) rfl))) (by decide) (t := (.object "java/lang/String")) (t' := .long) (by decide) (by decide)))).other W17 (Or.inr (slot_ne (Or.inr (hw _ (List.mem_of_getElem? (i := 55) rfl))) (Or.inr (hw _ (List.mem_of_getElem? (i := 61) rfl))) (by decide) (t := (.object "java/lang/String")) (t' := .int) (by decide) (by decide)))).other W20 (Or.inr (slot_ne (Or.inr (hw _ (List.mem_of_getElem? (i := 55) rfl))) (Or.inr (hw _ (List.mem_of_getElem? (i := 63) rfl))) (by decide) (t := (.object "java/lang/String")) (t' := (.object "java/lang/String")) (by decide) (by decide)))).other W23 (Or.inr (slot_ne (Or.inr (hw _ (List.mem_of_getElem? (i := 55) rfl))) (Or.inr (hw _ (List.mem_of_getElem? (i := 65) rfl))) (by decide) (t := (.object "java/lang/String")) (t' := (.object "com/example/threefold/threefold/protocol/ActivationCode")) (by decide) (by decide)))).other W26 (Or.inr (slot_ne (Or.inr (hw _ (List.mem_of_getElem? (i := 55) rfl))) (Or.inr (hw _ (List.mem_of_getElem? (i := 67) rfl))) (by decide) (t := (.object "java/lang/String")) (t' := (.object "com/example/threefold/threefold/store/Device")) (by decide) (by decide)))).other W29 (Or.inr (slot_ne (Or.inr (hw _ (List.mem_of_getElem? (i := 55) rfl))) (Or.inr (hw _ (List.mem_of_getElem? (i := 69) rfl))) (by decide) (t := (.object "java/lang/String")) (t' := .long) (by decide) (by decide))))
  have fk34 := ((((((Fw11.other W14 (Or.inr (slot_ne (Or.inr (hw _ (List.mem_of_getElem? (i := 57) rfl))) (Or.inr (hw _ (List.mem_of_getElem? (i := 59) rfl))) (by decide) (t := (.object "com/example/threefold/threefold/protocol/ActivationStatus")) (t' := .long) (by decide) (by decide)))).other W17 (Or.inr (slot_ne (Or.inr (hw _ (List.mem_of_getElem? (i := 57) rfl))) (Or.inr (hw _ (List.mem_of_getElem? (i := 61) rfl))) (by decide) (t := (.object "com/example/threefold/threefold/protocol/ActivationStatus")) (t' := .int) (by decide) (by decide)))).other W20 (Or.inr (slot_ne (Or.inr (hw _ (List.mem_of_getElem? (i := 57) rfl))) (Or.inr (hw _ (List.mem_of_getElem? (i := 63) rfl))) (by decide) (t := (.object "com/example/threefold/threefold/protocol/ActivationStatus")) (t' := (.object "java/lang/String")) (by decide) (by decide)))).other W23 (Or.inr (slot_ne (Or.inr (hw _ (List.mem_of_getElem? (i := 57) rfl))) (Or.inr (hw _ (List.mem_of_getElem? (i := 65) rfl))) (by decide) (t := (.object "com/example/threefold/threefold/protocol/ActivationStatus")) (t' := (.object "com/example/threefold/threefold/protocol/ActivationCode")) (by decide) (by decide)))).other W26 (Or.inr (slot_ne (Or.inr (hw _ (List.mem_of_getElem? (i := 57) rfl))) (Or.inr (hw _ (List.mem_of_getElem? (i := 67) rfl))) (by decide) (t := (.object "com/example/threefold/threefold/protocol/ActivationStatus")) (t' := (.object "com/example/threefold/threefold/store/Device")) (by decide) (by decide)))).other W29 (Or.inr (slot_ne (Or.inr (hw _ (List.mem_of_getElem? (i := 57) rfl))) (Or.inr (hw _ (List.mem_of_getElem? (i := 69) rfl))) (by decide) (t := (.object "com/example/threefold/threefold/protocol/ActivationStatus")) (t' := .long) (by decide) (by decide))))
  have fk35 := (((((Fw14.other W17 (Or.inr (slot_ne (Or.inr (hw _ (List.mem_of_getElem? (i := 59) rfl))) (Or.inr (hw _ (List.mem_of_getElem? (i := 61) rfl))) (by decide) (t := .long) (t' := .int) (by decide) (by decide)))).other W20 (Or.inr (slot_ne (Or.inr (hw _ (List.mem_of_getElem? (i := 59) rfl))) (Or.inr (hw _ (List.mem_of_getElem? (i := 63) rfl))) (by decide) (t := .long) (t' := (.object "java/lang/String")) (by decide) (by decide)))).other W23 (Or.inr (slot_ne (Or.inr (hw _ (List.mem_of_getElem? (i := 59) rfl))) (Or.inr (hw _ (List.mem_of_getElem? (i := 65) rfl))) (by decide) (t := .long) (t' := (.object "com/example/threefold/threefold/protocol/ActivationCode")) (by decide) (by decide)))).other W26 (Or.inr (slot_ne (Or.inr (hw _ (List.mem_of_getElem? (i := 59) rfl))) (Or.inr (hw _ (List.mem_of_getElem? (i := 67) rfl))) (by decide) (t := .long) (t' := (.object "com/example/threefold/threefold/store/Device")) (by decide) (by decide)))).other W29 (Or.inr (slot_ne (Or.inr (hw _ (List.mem_of_getElem? (i := 59) rfl))) (Or.inr (hw _ (List.mem_of_getElem? (i := 69) rfl))) (by decide) (t := .long) (t' := .long) (by decide) (by decide))))
  have fk36 := ((((Fw17.other W20 (Or.inr (slot_ne (Or.inr (hw _ (List.mem_of_getElem? (i := 61) rfl))) (Or.inr (hw _ (List.mem_of_getElem? (i := 63) rfl))) (by decide) (t := .int) (t' := (.object "java/lang/String")) (by decide) (by decide)))).other W23 (Or.inr (slot_ne (Or.inr (hw _ (List.mem_of_getElem? (i := 61) rfl))) (Or.inr (hw _ (List.mem_of_getElem? (i := 65) rfl))) (by decide) (t := .int) (t' := (.object "com/example/threefold/threefold/protocol/ActivationCode")) (by decide) (by decide)))).other W26 (Or.inr (slot_ne (Or.inr (hw _ (List.mem_of_getElem? (i := 61) rfl))) (Or.inr (hw _ (List.mem_of_getElem? (i := 67) rfl))) (by decide) (t := .int) (t' := (.object "com/example/threefold/threefold/store/Device")) (by decide) (by decide)))).other W29 (Or.inr (slot_ne (Or.inr (hw _ (List.mem_of_getElem? (i := 61) rfl))) (Or.inr (hw _ (List.mem_of_getElem? (i := 69) rfl))) (by decide) (t := .int) (t' := .long) (by decide) (by decide))))
  have fk37 := (((Fw20.other W23 (Or.inr (slot_ne (Or.inr (hw _ (List.mem_of_getElem? (i := 63) rfl))) (Or.inr (hw _ (List.mem_of_getElem? (i := 65) rfl))) (by decide) (t := (.object "java/lang/String")) (t' := (.object "com/example/threefold/threefold/protocol/ActivationCode")) (by decide) (by decide)))).other W26 (Or.inr (slot_ne (Or.inr (hw _ (List.mem_of_getElem? (i := 63) rfl))) (Or.inr (hw _ (List.mem_of_getElem? (i := 67) rfl))) (by decide) (t := (.object "java/lang/String")) (t' := (.object "com/example/threefold/threefold/store/Device")) (by decide) (by decide)))).other W29 (Or.inr (slot_ne (Or.inr (hw _ (List.mem_of_getElem? (i := 63) rfl))) (Or.inr (hw _ (List.mem_of_getElem? (i := 69) rfl))) (by decide) (t := (.object "java/lang/String")) (t' := .long) (by decide) (by decide))))
  have fk38 := ((Fw23.other W26 (Or.inr (slot_ne (Or.inr (hw _ (List.mem_of_getElem? (i := 65) rfl))) (Or.inr (hw _ (List.mem_of_getElem? (i := 67) rfl))) (by decide) (t := (.object "com/example/threefold/threefold/protocol/ActivationCode")) (t' := (.object "com/example/threefold/threefold/store/Device")) (by decide) (by decide)))).other W29 (Or.inr (slot_ne (Or.inr (hw _ (List.mem_of_getElem? (i := 65) rfl))) (Or.inr (hw _ (List.mem_of_getElem? (i := 69) rfl))) (by decide) (t := (.object "com/example/threefold/threefold/protocol/ActivationCode")) (t' := .long) (by decide) (by decide))))
  have fk39 := (Fw26.other W29 (Or.inr (slot_ne (Or.inr (hw _ (List.mem_of_getElem? (i := 67) rfl))) (Or.inr (hw _ (List.mem_of_getElem? (i := 69) rfl))) (by decide) (t := (.object "com/example/threefold/threefold/store/Device")) (t' := .long) (by decide) (by decide))))
  refine ⟨_, _, pre0 _ ?_, hrun, hended, _, _, rfl, ?_, ⟨_, rfl⟩, hW, hsame.mono (by decide) (by decide)⟩
  · show Steps _ _ _ (s₁.setTop (mkF m 0 #[vR a1, vR a2, vJ q3, .second, .val .null, vR a5, vJ q6, .second, vI p7, .val .null, .val .null, vR a10, vJ q11, .second] [])) _
    refine XS.aloadN X0.here hx rfl (hb hby d8_0) rfl rfl ?_
    show Steps _ _ _ (s₁.setTop (mkF m 1 #[vR a1, vR a2, vJ q3, .second, .val .null, vR a5, vJ q6, .second, vI p7, .val .null, .val .null, vR a10, vJ q11, .second] [iR a1])) _
    refine st1.trans ?_
    show Steps _ _ _ (T1.setTop (mkF m 4 #[vR a1, vR a2, vJ q3, .second, .val .null, vR a5, vJ q6, .second, vI p7, .val .null, .val .null, vR a10, vJ q11, .second] [])) _
    refine XS.aloadN X1.here hx rfl (hb hby d8_4) rfl rfl ?_
    show Steps _ _ _ (T1.setTop (mkF m 5 #[vR a1, vR a2, vJ q3, .second, .val .null, vR a5, vJ q6, .second, vI p7, .val .null, .val .null, vR a10, vJ q11, .second] [iR a1])) _
    refine XS.aloadN X1.here hx rfl (hb hby d8_5) rfl rfl ?_
    show Steps _ _ _ (T1.setTop (mkF m 6 #[vR a1, vR a2, vJ q3, .second, .val .null, vR a5, vJ q6, .second, vI p7, .val .null, .val .null, vR a10, vJ q11, .second] [iR a2, iR a1])) _
    refine st2 _ ?_
    show Steps _ _ _ (T2.setTop (mkF m 9 #[vR a1, vR a2, vJ q3, .second, .val .null, vR a5, vJ q6, .second, vI p7, .val .null, .val .null, vR a10, vJ q11, .second] [])) _
    refine XS.aloadN X2.here hx rfl (hb hby d8_9) rfl rfl ?_
    show Steps _ _ _ (T2.setTop (mkF m 10 #[vR a1, vR a2, vJ q3, .second, .val .null, vR a5, vJ q6, .second, vI p7, .val .null, .val .null, vR a10, vJ q11, .second] [iR a1])) _
    refine XS.lloadN X2.here hx rfl (hb hby d8_10) rfl ?_
    show Steps _ _ _ (T2.setTop (mkF m 11 #[vR a1, vR a2, vJ q3, .second, .val .null, vR a5, vJ q6, .second, vI p7, .val .null, .val .null, vR a10, vJ q11, .second] [iJ q3, iR a1])) _
    refine st5 _ ?_
    show Steps _ _ _ (T5.setTop (mkF m 14 #[vR a1, vR a2, vJ q3, .second, .val .null, vR a5, vJ q6, .second, vI p7, .val .null, .val .null, vR a10, vJ q11, .second] [])) _
    refine XS.aloadN X5.here hx rfl (hb hby d8_14) rfl rfl ?_
    show Steps _ _ _ (T5.setTop (mkF m 15 #[vR a1, vR a2, vJ q3, .second, .val .null, vR a5, vJ q6, .second, vI p7, .val .null, .val .null, vR a10, vJ q11, .second] [iR a1])) _
    refine XS.aload X5.here hx rfl (hb hby d8_15) rfl rfl ?_
    show Steps _ _ _ (T5.setTop (mkF m 17 #[vR a1, vR a2, vJ q3, .second, .val .null, vR a5, vJ q6, .second, vI p7, .val .null, .val .null, vR a10, vJ q11, .second] [.null, iR a1])) _
    refine st8 _ ?_
    show Steps _ _ _ (T8.setTop (mkF m 20 #[vR a1, vR a2, vJ q3, .second, .val .null, vR a5, vJ q6, .second, vI p7, .val .null, .val .null, vR a10, vJ q11, .second] [])) _
    refine XS.aloadN X8.here hx rfl (hb hby d8_20) rfl rfl ?_
    show Steps _ _ _ (T8.setTop (mkF m 21 #[vR a1, vR a2, vJ q3, .second, .val .null, vR a5, vJ q6, .second, vI p7, .val .null, .val .null, vR a10, vJ q11, .second] [iR a1])) _
    refine XS.aload X8.here hx rfl (hb hby d8_21) rfl rfl ?_
    show Steps _ _ _ (T8.setTop (mkF m 23 #[vR a1, vR a2, vJ q3, .second, .val .null, vR a5, vJ q6, .second, vI p7, .val .null, .val .null, vR a10, vJ q11, .second] [iR a5, iR a1])) _
    refine st11 _ ?_
    show Steps _ _ _ (T11.setTop (mkF m 26 #[vR a1, vR a2, vJ q3, .second, .val .null, vR a5, vJ q6, .second, vI p7, .val .null, .val .null, vR a10, vJ q11, .second] [])) _
    refine XS.aloadN X11.here hx rfl (hb hby d8_26) rfl rfl ?_
    show Steps _ _ _ (T11.setTop (mkF m 27 #[vR a1, vR a2, vJ q3, .second, .val .null, vR a5, vJ q6, .second, vI p7, .val .null, .val .null, vR a10, vJ q11, .second] [iR a1])) _
    refine XS.lload X11.here hx rfl (hb hby d8_27) rfl ?_
    show Steps _ _ _ (T11.setTop (mkF m 29 #[vR a1, vR a2, vJ q3, .second, .val .null, vR a5, vJ q6, .second, vI p7, .val .null, .val .null, vR a10, vJ q11, .second] [iJ q6, iR a1])) _
    refine st14 _ ?_
    show Steps _ _ _ (T14.setTop (mkF m 32 #[vR a1, vR a2, vJ q3, .second, .val .null, vR a5, vJ q6, .second, vI p7, .val .null, .val .null, vR a10, vJ q11, .second] [])) _
    refine XS.aloadN X14.here hx rfl (hb hby d8_32) rfl rfl ?_
    show Steps _ _ _ (T14.setTop (mkF m 33 #[vR a1, vR a2, vJ q3, .second, .val .null, vR a5, vJ q6, .second, vI p7, .val .null, .val .null, vR a10, vJ q11, .second] [iR a1])) _
    refine XS.iload X14.here hx rfl (hb hby d8_33) rfl ?_
    show Steps _ _ _ (T14.setTop (mkF m 35 #[vR a1, vR a2, vJ q3, .second, .val .null, vR a5, vJ q6, .second, vI p7, .val .null, .val .null, vR a10, vJ q11, .second] [iI p7, iR a1])) _
    refine st17 _ ?_
    show Steps _ _ _ (T17.setTop (mkF m 38 #[vR a1, vR a2, vJ q3, .second, .val .null, vR a5, vJ q6, .second, vI p7, .val .null, .val .null, vR a10, vJ q11, .second] [])) _
    refine XS.aloadN X17.here hx rfl (hb hby d8_38) rfl rfl ?_
    show Steps _ _ _ (T17.setTop (mkF m 39 #[vR a1, vR a2, vJ q3, .second, .val .null, vR a5, vJ q6, .second, vI p7, .val .null, .val .null, vR a10, vJ q11, .second] [iR a1])) _
    refine XS.aload X17.here hx rfl (hb hby d8_39) rfl rfl ?_
    show Steps _ _ _ (T17.setTop (mkF m 41 #[vR a1, vR a2, vJ q3, .second, .val .null, vR a5, vJ q6, .second, vI p7, .val .null, .val .null, vR a10, vJ q11, .second] [.null, iR a1])) _
    refine st20 _ ?_
    show Steps _ _ _ (T20.setTop (mkF m 44 #[vR a1, vR a2, vJ q3, .second, .val .null, vR a5, vJ q6, .second, vI p7, .val .null, .val .null, vR a10, vJ q11, .second] [])) _
    refine XS.aloadN X20.here hx rfl (hb hby d8_44) rfl rfl ?_
    show Steps _ _ _ (T20.setTop (mkF m 45 #[vR a1, vR a2, vJ q3, .second, .val .null, vR a5, vJ q6, .second, vI p7, .val .null, .val .null, vR a10, vJ q11, .second] [iR a1])) _
    refine XS.aload X20.here hx rfl (hb hby d8_45) rfl rfl ?_
    show Steps _ _ _ (T20.setTop (mkF m 47 #[vR a1, vR a2, vJ q3, .second, .val .null, vR a5, vJ q6, .second, vI p7, .val .null, .val .null, vR a10, vJ q11, .second] [.null, iR a1])) _
    refine st23 _ ?_
    show Steps _ _ _ (T23.setTop (mkF m 50 #[vR a1, vR a2, vJ q3, .second, .val .null, vR a5, vJ q6, .second, vI p7, .val .null, .val .null, vR a10, vJ q11, .second] [])) _
    refine XS.aloadN X23.here hx rfl (hb hby d8_50) rfl rfl ?_
    show Steps _ _ _ (T23.setTop (mkF m 51 #[vR a1, vR a2, vJ q3, .second, .val .null, vR a5, vJ q6, .second, vI p7, .val .null, .val .null, vR a10, vJ q11, .second] [iR a1])) _
    refine XS.aload X23.here hx rfl (hb hby d8_51) rfl rfl ?_
    show Steps _ _ _ (T23.setTop (mkF m 53 #[vR a1, vR a2, vJ q3, .second, .val .null, vR a5, vJ q6, .second, vI p7, .val .null, .val .null, vR a10, vJ q11, .second] [iR a10, iR a1])) _
    refine st26 _ ?_
    show Steps _ _ _ (T26.setTop (mkF m 56 #[vR a1, vR a2, vJ q3, .second, .val .null, vR a5, vJ q6, .second, vI p7, .val .null, .val .null, vR a10, vJ q11, .second] [])) _
    refine XS.aloadN X26.here hx rfl (hb hby d8_56) rfl rfl ?_
    show Steps _ _ _ (T26.setTop (mkF m 57 #[vR a1, vR a2, vJ q3, .second, .val .null, vR a5, vJ q6, .second, vI p7, .val .null, .val .null, vR a10, vJ q11, .second] [iR a1])) _
    refine XS.lload X26.here hx rfl (hb hby d8_57) rfl ?_
    show Steps _ _ _ (T26.setTop (mkF m 59 #[vR a1, vR a2, vJ q3, .second, .val .null, vR a5, vJ q6, .second, vI p7, .val .null, .val .null, vR a10, vJ q11, .second] [iJ q11, iR a1])) _
    refine st29 _ ?_
    show Steps _ _ _ (T29.setTop (mkF m 62 #[vR a1, vR a2, vJ q3, .second, .val .null, vR a5, vJ q6, .second, vI p7, .val .null, .val .null, vR a10, vJ q11, .second] [])) _
    exact X29.returnOut hx Bd.returns (hb hby d8_62) hr
  · show Q8_nr Z a1 a2 q3 a5 q6 p7 a10 q11 h0 n0 _ T29.heap _
    rw [e29]
    exact ⟨rfl, N29, K29, fk30, fk31, fk32, fk33, fk34, fk35, fk36, fk37, fk38, fk39, Fw29⟩
theorem ef_8_rn (m : MethodId) (x0 : Addr) (x1 : Addr) (x2 : Int64) (x4 : Addr) (x5 : Int64) (x6 : Int32) (x7 : Addr) (x10 : Int64) : entryFrame m #[(.ref x0), (.ref x1), (.long x2), .null, (.ref x4), (.long x5), (.int x6), (.ref x7), .null, .null, (.long x10)] 14 = mkF m 0 #[.val (.ref x0), .val (.ref x1), .val (.long x2), .second, .val .null, .val (.ref x4), .val (.long x5), .second, .val (.int x6), .val (.ref x7), .val .null, .val .null, .val (.long x10), .second] [] := by first | (simp [entryFrame, mkF, argsToLocals, Value.category]; done) | rfl
def Q8_rn (Z : State) (a1 : Addr) (a2 : Addr) (q3 : Int64) (a5 : Addr) (q6 : Int64) (p7 : Int32) (a8 : Addr) (q11 : Int64) (h0 : Heap) (n0 : Nat) (v : Option Value) (h : Heap) (L : List Loc) : Prop := v = none ∧ Fr n0 L ∧ Keep h0 h [a1] ∧ Exa Z h a1 "com/example/threefold/threefold/store/Activation" ∧ Fld Z h a1 "com/example/threefold/threefold/store/Activation" "activationId" "Ljava/lang/String;" (.ref a2) ∧ Fld Z h a1 "com/example/threefold/threefold/store/Activation" "applicationId" "J" (.long q3) ∧ Fld Z h a1 "com/example/threefold/threefold/store/Activation" "userId" "Ljava/lang/String;" .null ∧ Fld Z h a1 "com/example/threefold/threefold/store/Activation" "status" "Lcom/example/threefold/threefold/protocol/ActivationStatus;" (.ref a5) ∧ Fld Z h a1 "com/example/threefold/threefold/store/Activation" "counter" "J" (.long q6) ∧ Fld Z h a1 "com/example/threefold/threefold/store/Activation" "failedAttempts" "I" (.int p7) ∧ Fld Z h a1 "com/example/threefold/threefold/store/Activation" "blockedReason" "Ljava/lang/String;" (.ref a8) ∧ Fld Z h a1 "com/example/threefold/threefold/store/Activation" "code" "Lcom/example/threefold/threefold/protocol/ActivationCode;" .null ∧ Fld Z h a1 "com/example/threefold/threefold/store/Activation" "device" "Lcom/example/threefold/threefold/store/Device;" .null ∧ Fld Z h a1 "com/example/threefold/threefold/store/Activation" "createdAt" "J" (.long q11)
set_option maxRecDepth 65536 in
set_option maxHeartbeats 40000000 in
theorem rm8_rn (l : Launch) (Z : State) (a0 : Array Value) (hw : ∀ d ∈ tables_1, d.before a0 Z = true) (ws : List Jvm.Cond) (a1 : Addr) (a2 : Addr) (q3 : Int64) (a5 : Addr) (q6 : Int64) (p7 : Int32) (a8 : Addr) (q11 : Int64) (h0 : Heap) (n0 : Nat) (Z0 : n0 ≤ h0.size) (E_a1 : Exa Z h0 a1 "com/example/threefold/threefold/store/Activation") (g_a1 : n0 ≤ a1) (F_activationId : Fld Z h0 a1 "com/example/threefold/threefold/store/Activation" "activationId" "Ljava/lang/String;" .null) (F_applicationId : Fld Z h0 a1 "com/example/threefold/threefold/store/Activation" "applicationId" "J" (.long (0 : Int64))) (F_userId : Fld Z h0 a1 "com/example/threefold/threefold/store/Activation" "userId" "Ljava/lang/String;" .null) (F_status : Fld Z h0 a1 "com/example/threefold/threefold/store/Activation" "status" "Lcom/example/threefold/threefold/protocol/ActivationStatus;" .null) (F_counter : Fld Z h0 a1 "com/example/threefold/threefold/store/Activation" "counter" "J" (.long (0 : Int64))) (F_failedAttempts : Fld Z h0 a1 "com/example/threefold/threefold/store/Activation" "failedAttempts" "I" (.int (0 : Int32))) (F_blockedReason : Fld Z h0 a1 "com/example/threefold/threefold/store/Activation" "blockedReason" "Ljava/lang/String;" .null) (F_code : Fld Z h0 a1 "com/example/threefold/threefold/store/Activation" "code" "Lcom/example/threefold/threefold/protocol/ActivationCode;" .null) (F_device : Fld Z h0 a1 "com/example/threefold/threefold/store/Activation" "device" "Lcom/example/threefold/threefold/store/Device;" .null) (F_createdAt : Fld Z h0 a1 "com/example/threefold/threefold/store/Activation" "createdAt" "J" (.long (0 : Int64))) :
    MetFree l (⟨"com/example/threefold/threefold/store/Activation", "<init>", "(Ljava/lang/String;JLjava/lang/String;Lcom/example/threefold/threefold/protocol/ActivationStatus;JILjava/lang/String;Lcom/example/threefold/threefold/protocol/ActivationCode;Lcom/example/threefold/threefold/store/Device;J)V"⟩ : MethodName) (head1 (Jvm.Cond.code (⟨"com/example/threefold/threefold/store/Activation", "<init>", "(Ljava/lang/String;JLjava/lang/String;Lcom/example/threefold/threefold/protocol/ActivationStatus;JILjava/lang/String;Lcom/example/threefold/threefold/protocol/ActivationCode;Lcom/example/threefold/threefold/store/Device;J)V"⟩ : MethodName) prog_37_method_1_code 14 none :: ws) ({ frames := 2, cells := 0, slots := 0, locals := 24 } : Room)) (fun a U => a = #[(.ref a1), (.ref a2), (.long q3), .null, (.ref a5), (.long q6), (.int p7), (.ref a8), .null, .null, (.long q11)] ∧ Z.Warmed39 U.vm ∧ U.heap = h0) (fun _ _ _ _ _ => True) (fun _ U o U' => ∃ v L, o = .returned v ∧ Q8_rn Z a1 a2 q3 a5 q6 p7 a8 q11 h0 n0 v U'.heap L ∧ FrameEnd U o U' L ({ frames := 2, cells := 0, slots := 0, locals := 24 } : Room).cells ({ frames := 2, cells := 0, slots := 0, locals := 24 } : Room).slots) := by
  refine MetFree.of_bodySF (plainFor_of_name pn_3) hisR ?_
  intro p e s m args below meth c s₁ Bd hml0 hP hK
  obtain ⟨rfl, hZ, hh⟩ := hP
  have hx := Bd.exec
  have hby := Bd.bytes
  have hml : c.maxLocals = 14 := hml0
  have hown : s.vm.findClass "com/example/threefold/threefold/store/Activation" = some m.cls := findClass_of_methodNamed Bd.named
  have hnm := (name_of_methodNamed Bd.named Bd.method).1
  have X0 : Stand p l e ({ frames := 2, cells := 0, slots := 0, locals := 24 } : Room) s m #[(.ref a1), (.ref a2), (.long q3), .null, (.ref a5), (.long q6), (.int p7), (.ref a8), .null, .null, (.long q11)] below meth c s₁ [] 0 0 := Stand.of_body Bd
  have e0 : s₁.heap = h0 := by rw [← hh, Bd.state]; rfl
  have N0 := Fr.nil n0
  have K0 := Keep.refl h0 [a1]
  have pre0 : ∀ t, Steps p.tables e below (s₁.setTop (mkF m 0 #[.val (.ref a1), .val (.ref a2), .val (.long q3), .second, .val .null, .val (.ref a5), .val (.long q6), .second, .val (.int p7), .val (.ref a8), .val .null, .val .null, .val (.long q11), .second] [])) t → Steps p.tables e below (s₁.setTop (entryFrame m #[(.ref a1), (.ref a2), (.long q3), .null, (.ref a5), (.long q6), (.int p7), (.ref a8), .null, .null, (.long q11)] 14)) t := fun t k => castTop (ef_8_rn m a1 a2 q3 a5 q6 p7 a8 q11) k
  obtain ⟨_, _, ⟨T1, L1, k1, n1⟩, -, X1, ⟨Lc1, hQ1, l1, y1, z1⟩, st1⟩ := X0.specialBack hx (y := (⟨"java/lang/Record", "<init>", "()V"⟩ : MethodName)) rfl hown (mvT hZ (hw _ (List.mem_of_getElem? (i := 44) rfl))) (mvT hZ (hw _ (List.mem_of_getElem? (i := 45) rfl))) (mvT hZ (hw _ (List.mem_of_getElem? (i := 48) rfl))) (by decide) (backOf (W := 0) (rm9 l Z a0 hw [] a1 h0 ) hZ (hw _ (List.mem_of_getElem? (i := 48) rfl)) (hw _ (List.mem_of_getElem? (i := 47) rfl)) (by decide) (by decide)) (g := (mkF m 1 #[vR a1, vR a2, vJ q3, .second, .val .null, vR a5, vJ q6, .second, vI p7, vR a8, .val .null, .val .null, vJ q11, .second] [iR a1])) rfl (by rw [hml]; rfl) (Steps.refl _) (a := a1) (argsL := []) (rest := []) (lenOf pd_0 rfl) rfl (by show 2 * 0 + _ ≤ _; exact Nat.le_of_eq rfl) (hb hby d8_1) (fun _ _ => ⟨rfl, e0, (by decide : 0 + 0 ≤ _), (by decide : 0 + 0 ≤ _)⟩)
  dsimp only [Pt.U, Pt.locs, Pt.cells, Pt.slots] at X1 l1 y1 z1 st1 hQ1
  subst l1 y1 z1
  obtain ⟨rfl, rfl, e1⟩ := hQ1
  try rw [List.append_nil] at X1
  obtain ⟨T2, h2, X2, e2, W2, st2⟩ := putF X1 hx hZ hown (host := "") (Or.inl (hw _ (List.mem_of_getElem? (i := 50) rfl))) Via.refl e1 F_activationId E_a1 (Or.inr ⟨(hw _ (List.mem_of_getElem? (i := 51) rfl)), rfl, hnm⟩) (hw _ (List.mem_of_getElem? (i := 10) rfl)) (ty := (.object "java/lang/String")) (by decide) rfl rfl (g := (mkF m 6 #[vR a1, vR a2, vJ q3, .second, .val .null, vR a5, vJ q6, .second, vI p7, vR a8, .val .null, .val .null, vJ q11, .second] [iR a2, iR a1])) rfl rfl (hb hby d8_6)
  have Fw2 := F_activationId.same W2
  have K2 : Keep h0 h2 [a1] := K0.wr W2 (Or.inl (List.mem_of_getElem? (i := 0) rfl))
  have N2 := Fr.snoc X2 N0 g_a1
  have fk3 := (F_applicationId.other W2 (Or.inr (slot_ne (Or.inr (hw _ (List.mem_of_getElem? (i := 53) rfl))) (Or.inr (hw _ (List.mem_of_getElem? (i := 51) rfl))) (by decide) (t := .long) (t' := (.object "java/lang/String")) (by decide) (by decide))))
  have fk4 := (E_a1.wr W2)
  obtain ⟨T5, h5, X5, e5, W5, st5⟩ := putF X2 hx hZ hown (host := "") (Or.inl (hw _ (List.mem_of_getElem? (i := 52) rfl))) Via.refl e2 fk3 fk4 (Or.inr ⟨(hw _ (List.mem_of_getElem? (i := 53) rfl)), rfl, hnm⟩) (hw _ (List.mem_of_getElem? (i := 10) rfl)) (ty := .long) (by decide) rfl rfl (g := (mkF m 11 #[vR a1, vR a2, vJ q3, .second, .val .null, vR a5, vJ q6, .second, vI p7, vR a8, .val .null, .val .null, vJ q11, .second] [iJ q3, iR a1])) rfl rfl (hb hby d8_11)
  have Fw5 := fk3.same W5
  have K5 : Keep h0 h5 [a1] := K2.wr W5 (Or.inl (List.mem_of_getElem? (i := 0) rfl))
  have N5 := Fr.snoc X5 N2 g_a1
  have fk6 := ((F_userId.other W2 (Or.inr (slot_ne (Or.inr (hw _ (List.mem_of_getElem? (i := 55) rfl))) (Or.inr (hw _ (List.mem_of_getElem? (i := 51) rfl))) (by decide) (t := (.object "java/lang/String")) (t' := (.object "java/lang/String")) (by decide) (by decide)))).other W5 (Or.inr (slot_ne (Or.inr (hw _ (List.mem_of_getElem? (i := 55) rfl))) (Or.inr (hw _ (List.mem_of_getElem? (i := 53) rfl))) (by decide) (t := (.object "java/lang/String")) (t' := .long) (by decide) (by decide))))
  have fk7 := (fk4.wr W5)
  obtain ⟨T8, h8, X8, e8, W8, st8⟩ := putF X5 hx hZ hown (host := "") (Or.inl (hw _ (List.mem_of_getElem? (i := 54) rfl))) Via.refl e5 fk6 fk7 (Or.inr ⟨(hw _ (List.mem_of_getElem? (i := 55) rfl)), rfl, hnm⟩) (hw _ (List.mem_of_getElem? (i := 10) rfl)) (ty := (.object "java/lang/String")) (by decide) rfl rfl (g := (mkF m 17 #[vR a1, vR a2, vJ q3, .second, .val .null, vR a5, vJ q6, .second, vI p7, vR a8, .val .null, .val .null, vJ q11, .second] [.null, iR a1])) rfl rfl (hb hby d8_17)
  have Fw8 := fk6.same W8
  have K8 : Keep h0 h8 [a1] := K5.wr W8 (Or.inl (List.mem_of_getElem? (i := 0) rfl))
  have N8 := Fr.snoc X8 N5 g_a1
  have fk9 := (((F_status.other W2 (Or.inr (slot_ne (Or.inr (hw _ (List.mem_of_getElem? (i := 57) rfl))) (Or.inr (hw _ (List.mem_of_getElem? (i := 51) rfl))) (by decide) (t := (.object "com/example/threefold/threefold/protocol/ActivationStatus")) (t' := (.object "java/lang/String")) (by decide) (by decide)))).other W5 (Or.inr (slot_ne (Or.inr (hw _ (List.mem_of_getElem? (i := 57) rfl))) (Or.inr (hw _ (List.mem_of_getElem? (i := 53) rfl))) (by decide) (t := (.object "com/example/threefold/threefold/protocol/ActivationStatus")) (t' := .long) (by decide) (by decide)))).other W8 (Or.inr (slot_ne (Or.inr (hw _ (List.mem_of_getElem? (i := 57) rfl))) (Or.inr (hw _ (List.mem_of_getElem? (i := 55) rfl))) (by decide) (t := (.object "com/example/threefold/threefold/protocol/ActivationStatus")) (t' := (.object "java/lang/String")) (by decide) (by decide))))
  have fk10 := (fk7.wr W8)
  obtain ⟨T11, h11, X11, e11, W11, st11⟩ := putF X8 hx hZ hown (host := "") (Or.inl (hw _ (List.mem_of_getElem? (i := 56) rfl))) Via.refl e8 fk9 fk10 (Or.inr ⟨(hw _ (List.mem_of_getElem? (i := 57) rfl)), rfl, hnm⟩) (hw _ (List.mem_of_getElem? (i := 10) rfl)) (ty := (.object "com/example/threefold/threefold/protocol/ActivationStatus")) (by decide) rfl rfl (g := (mkF m 23 #[vR a1, vR a2, vJ q3, .second, .val .null, vR a5, vJ q6, .second, vI p7, vR a8, .val .null, .val .null, vJ q11, .second] [iR a5, iR a1])) rfl rfl (hb hby d8_23)
  have Fw11 := fk9.same W11
  have K11 : Keep h0 h11 [a1] := K8.wr W11 (Or.inl (List.mem_of_getElem? (i := 0) rfl))
  have N11 := Fr.snoc X11 N8 g_a1
  have fk12 := ((((F_counter.other W2 (Or.inr (slot_ne (Or.inr (hw _ (List.mem_of_getElem? (i := 59) rfl))) (Or.inr (hw _ (List.mem_of_getElem? (i := 51) rfl))) (by decide) (t := .long) (t' := (.object "java/lang/String")) (by decide) (by decide)))).other W5 (Or.inr (slot_ne (Or.inr (hw _ (List.mem_of_getElem? (i := 59) rfl))) (Or.inr (hw _ (List.mem_of_getElem? (i := 53) rfl))) (by decide) (t := .long) (t' := .long) (by decide) (by decide)))).other W8 (Or.inr (slot_ne (Or.inr (hw _ (List.mem_of_getElem? (i := 59) rfl))) (Or.inr (hw _ (List.mem_of_getElem? (i := 55) rfl))) (by decide) (t := .long) (t' := (.object "java/lang/String")) (by decide) (by decide)))).other W11 (Or.inr (slot_ne (Or.inr (hw _ (List.mem_of_getElem? (i := 59) rfl))) (Or.inr (hw _ (List.mem_of_getElem? (i := 57) rfl))) (by decide) (t := .long) (t' := (.object "com/example/threefold/threefold/protocol/ActivationStatus")) (by decide) (by decide))))
  have fk13 := (fk10.wr W11)
  obtain ⟨T14, h14, X14, e14, W14, st14⟩ := putF X11 hx hZ hown (host := "") (Or.inl (hw _ (List.mem_of_getElem? (i := 58) rfl))) Via.refl e11 fk12 fk13 (Or.inr ⟨(hw _ (List.mem_of_getElem? (i := 59) rfl)), rfl, hnm⟩) (hw _ (List.mem_of_getElem? (i := 10) rfl)) (ty := .long) (by decide) rfl rfl (g := (mkF m 29 #[vR a1, vR a2, vJ q3, .second, .val .null, vR a5, vJ q6, .second, vI p7, vR a8, .val .null, .val .null, vJ q11, .second] [iJ q6, iR a1])) rfl rfl (hb hby d8_29)
  have Fw14 := fk12.same W14
  have K14 : Keep h0 h14 [a1] := K11.wr W14 (Or.inl (List.mem_of_getElem? (i := 0) rfl))
  have N14 := Fr.snoc X14 N11 g_a1
  have fk15 := (((((F_failedAttempts.other W2 (Or.inr (slot_ne (Or.inr (hw _ (List.mem_of_getElem? (i := 61) rfl))) (Or.inr (hw _ (List.mem_of_getElem? (i := 51) rfl))) (by decide) (t := .int) (t' := (.object "java/lang/String")) (by decide) (by decide)))).other W5 (Or.inr (slot_ne (Or.inr (hw _ (List.mem_of_getElem? (i := 61) rfl))) (Or.inr (hw _ (List.mem_of_getElem? (i := 53) rfl))) (by decide) (t := .int) (t' := .long) (by decide) (by decide)))).other W8 (Or.inr (slot_ne (Or.inr (hw _ (List.mem_of_getElem? (i := 61) rfl))) (Or.inr (hw _ (List.mem_of_getElem? (i := 55) rfl))) (by decide) (t := .int) (t' := (.object "java/lang/String")) (by decide) (by decide)))).other W11 (Or.inr (slot_ne (Or.inr (hw _ (List.mem_of_getElem? (i := 61) rfl))) (Or.inr (hw _ (List.mem_of_getElem? (i := 57) rfl))) (by decide) (t := .int) (t' := (.object "com/example/threefold/threefold/protocol/ActivationStatus")) (by decide) (by decide)))).other W14 (Or.inr (slot_ne (Or.inr (hw _ (List.mem_of_getElem? (i := 61) rfl))) (Or.inr (hw _ (List.mem_of_getElem? (i := 59) rfl))) (by decide) (t := .int) (t' := .long) (by decide) (by decide))))
  have fk16 := (fk13.wr W14)
  obtain ⟨T17, h17, X17, e17, W17, st17⟩ := putF X14 hx hZ hown (host := "") (Or.inl (hw _ (List.mem_of_getElem? (i := 60) rfl))) Via.refl e14 fk15 fk16 (Or.inr ⟨(hw _ (List.mem_of_getElem? (i := 61) rfl)), rfl, hnm⟩) (hw _ (List.mem_of_getElem? (i := 10) rfl)) (ty := .int) (by decide) rfl rfl (g := (mkF m 35 #[vR a1, vR a2, vJ q3, .second, .val .null, vR a5, vJ q6, .second, vI p7, vR a8, .val .null, .val .null, vJ q11, .second] [iI p7, iR a1])) rfl rfl (hb hby d8_35)
  have Fw17 := fk15.same W17
  have K17 : Keep h0 h17 [a1] := K14.wr W17 (Or.inl (List.mem_of_getElem? (i := 0) rfl))
  have N17 := Fr.snoc X17 N14 g_a1
  have fk18 := ((((((F_blockedReason.other W2 (Or.inr (slot_ne (Or.inr (hw _ (List.mem_of_getElem? (i := 63) rfl))) (Or.inr (hw _ (List.mem_of_getElem? (i := 51) rfl))) (by decide) (t := (.object "java/lang/String")) (t' := (.object "java/lang/String")) (by decide) (by decide)))).other W5 (Or.inr (slot_ne (Or.inr (hw _ (List.mem_of_getElem? (i := 63) rfl))) (Or.inr (hw _ (List.mem_of_getElem? (i := 53) rfl))) (by decide) (t := (.object "java/lang/String")) (t' := .long) (by decide) (by decide)))).other W8 (Or.inr (slot_ne (Or.inr (hw _ (List.mem_of_getElem? (i := 63) rfl))) (Or.inr (hw _ (List.mem_of_getElem? (i := 55) rfl))) (by decide) (t := (.object "java/lang/String")) (t' := (.object "java/lang/String")) (by decide) (by decide)))).other W11 (Or.inr (slot_ne (Or.inr (hw _ (List.mem_of_getElem? (i := 63) rfl))) (Or.inr (hw _ (List.mem_of_getElem? (i := 57) rfl))) (by decide) (t := (.object "java/lang/String")) (t' := (.object "com/example/threefold/threefold/protocol/ActivationStatus")) (by decide) (by decide)))).other W14 (Or.inr (slot_ne (Or.inr (hw _ (List.mem_of_getElem? (i := 63) rfl))) (Or.inr (hw _ (List.mem_of_getElem? (i := 59) rfl))) (by decide) (t := (.object "java/lang/String")) (t' := .long) (by decide) (by decide)))).other W17 (Or.inr (slot_ne (Or.inr (hw _ (List.mem_of_getElem? (i := 63) rfl))) (Or.inr (hw _ (List.mem_of_getElem? (i := 61) rfl))) (by decide) (t := (.object "java/lang/String")) (t' := .int) (by decide) (by decide))))
  have fk19 := (fk16.wr W17)
  obtain ⟨T20, h20, X20, e20, W20, st20⟩ := putF X17 hx hZ hown (host := "") (Or.inl (hw _ (List.mem_of_getElem? (i := 62) rfl))) Via.refl e17 fk18 fk19 (Or.inr ⟨(hw _ (List.mem_of_getElem? (i := 63) rfl)), rfl, hnm⟩) (hw _ (List.mem_of_getElem? (i := 10) rfl)) (ty := (.object "java/lang/String")) (by decide) rfl rfl (g := (mkF m 41 #[vR a1, vR a2, vJ q3, .second, .val .null, vR a5, vJ q6, .second, vI p7, vR a8, .val .null, .val .null, vJ q11, .second] [iR a8, iR a1])) rfl rfl (hb hby d8_41)
  have Fw20 := fk18.same W20
  have K20 : Keep h0 h20 [a1] := K17.wr W20 (Or.inl (List.mem_of_getElem? (i := 0) rfl))
  have N20 := Fr.snoc X20 N17 g_a1
  have fk21 := (((((((F_code.other W2 (Or.inr (slot_ne (Or.inr (hw _ (List.mem_of_getElem? (i := 65) rfl))) (Or.inr (hw _ (List.mem_of_getElem? (i := 51) rfl))) (by decide) (t := (.object "com/example/threefold/threefold/protocol/ActivationCode")) (t' := (.object "java/lang/String")) (by decide) (by decide)))).other W5 (Or.inr (slot_ne (Or.inr (hw _ (List.mem_of_getElem? (i := 65) rfl))) (Or.inr (hw _ (List.mem_of_getElem? (i := 53) rfl))) (by decide) (t := (.object "com/example/threefold/threefold/protocol/ActivationCode")) (t' := .long) (by decide) (by decide)))).other W8 (Or.inr (slot_ne (Or.inr (hw _ (List.mem_of_getElem? (i := 65) rfl))) (Or.inr (hw _ (List.mem_of_getElem? (i := 55) rfl))) (by decide) (t := (.object "com/example/threefold/threefold/protocol/ActivationCode")) (t' := (.object "java/lang/String")) (by decide) (by decide)))).other W11 (Or.inr (slot_ne (Or.inr (hw _ (List.mem_of_getElem? (i := 65) rfl))) (Or.inr (hw _ (List.mem_of_getElem? (i := 57) rfl))) (by decide) (t := (.object "com/example/threefold/threefold/protocol/ActivationCode")) (t' := (.object "com/example/threefold/threefold/protocol/ActivationStatus")) (by decide) (by decide)))).other W14 (Or.inr (slot_ne (Or.inr (hw _ (List.mem_of_getElem? (i := 65) rfl))) (Or.inr (hw _ (List.mem_of_getElem? (i := 59) rfl))) (by decide) (t := (.object "com/example/threefold/threefold/protocol/ActivationCode")) (t' := .long) (by decide) (by decide)))).other W17 (Or.inr (slot_ne (Or.inr (hw _ (List.mem_of_getElem? (i := 65) rfl))) (Or.inr (hw _ (List.mem_of_getElem? (i := 61) rfl))) (by decide) (t := (.object "com/example/threefold/threefold/protocol/ActivationCode")) (t' := .int) (by decide) (by decide)))).other W20 (Or.inr (slot_ne (Or.inr (hw _ (List.mem_of_getElem? (i := 65) rfl))) (Or.inr (hw _ (List.mem_of_getElem? (i := 63) rfl))) (by decide) (t := (.object "com/example/threefold/threefold/protocol/ActivationCode")) (t' := (.object "java/lang/String")) (by decide) (by decide))))
  have fk22 := (fk19.wr W20)
  obtain ⟨T23, h23, X23, e23, W23, st23⟩ := putF X20 hx hZ hown (host := "") (Or.inl (hw _ (List.mem_of_getElem? (i := 64) rfl))) Via.refl e20 fk21 fk22 (Or.inr ⟨(hw _ (List.mem_of_getElem? (i := 65) rfl)), rfl, hnm⟩) (hw _ (List.mem_of_getElem? (i := 10) rfl)) (ty := (.object "com/example/threefold/threefold/protocol/ActivationCode")) (by decide) rfl rfl (g := (mkF m 47 #[vR a1, vR a2, vJ q3, .second, .val .null, vR a5, vJ q6, .second, vI p7, vR a8, .val .null, .val .null, vJ q11, .second] [.null, iR a1])) rfl rfl (hb hby d8_47)
  have Fw23 := fk21.same W23
  have K23 : Keep h0 h23 [a1] := K20.wr W23 (Or.inl (List.mem_of_getElem? (i := 0) rfl))
  have N23 := Fr.snoc X23 N20 g_a1
  have fk24 := ((((((((F_device.other W2 (Or.inr (slot_ne (Or.inr (hw _ (List.mem_of_getElem? (i := 67) rfl))) (Or.inr (hw _ (List.mem_of_getElem? (i := 51) rfl))) (by decide) (t := (.object "com/example/threefold/threefold/store/Device")) (t' := (.object "java/lang/String")) (by decide) (by decide)))).other W5 (Or.inr (slot_ne (Or.inr (hw _ (List.mem_of_getElem? (i := 67) rfl))) (Or.inr (hw _ (List.mem_of_getElem? (i := 53) rfl))) (by decide) (t := (.object "com/example/threefold/threefold/store/Device")) (t' := .long) (by decide) (by decide)))).other W8 (Or.inr (slot_ne (Or.inr (hw _ (List.mem_of_getElem? (i := 67) rfl))) (Or.inr (hw _ (List.mem_of_getElem? (i := 55) rfl))) (by decide) (t := (.object "com/example/threefold/threefold/store/Device")) (t' := (.object "java/lang/String")) (by decide) (by decide)))).other W11 (Or.inr (slot_ne (Or.inr (hw _ (List.mem_of_getElem? (i := 67) rfl))) (Or.inr (hw _ (List.mem_of_getElem? (i := 57) rfl))) (by decide) (t := (.object "com/example/threefold/threefold/store/Device")) (t' := (.object "com/example/threefold/threefold/protocol/ActivationStatus")) (by decide) (by decide)))).other W14 (Or.inr (slot_ne (Or.inr (hw _ (List.mem_of_getElem? (i := 67) rfl))) (Or.inr (hw _ (List.mem_of_getElem? (i := 59) rfl))) (by decide) (t := (.object "com/example/threefold/threefold/store/Device")) (t' := .long) (by decide) (by decide)))).other W17 (Or.inr (slot_ne (Or.inr (hw _ (List.mem_of_getElem? (i := 67) rfl))) (Or.inr (hw _ (List.mem_of_getElem? (i := 61) rfl))) (by decide) (t := (.object "com/example/threefold/threefold/store/Device")) (t' := .int) (by decide) (by decide)))).other W20 (Or.inr (slot_ne (Or.inr (hw _ (List.mem_of_getElem? (i := 67) rfl))) (Or.inr (hw _ (List.mem_of_getElem? (i := 63) rfl))) (by decide) (t := (.object "com/example/threefold/threefold/store/Device")) (t' := (.object "java/lang/String")) (by decide) (by decide)))).other W23 (Or.inr (slot_ne (Or.inr (hw _ (List.mem_of_getElem? (i := 67) rfl))) (Or.inr (hw _ (List.mem_of_getElem? (i := 65) rfl))) (by decide) (t := (.object "com/example/threefold/threefold/store/Device")) (t' := (.object "com/example/threefold/threefold/protocol/ActivationCode")) (by decide) (by decide))))
  have fk25 := (fk22.wr W23)
  obtain ⟨T26, h26, X26, e26, W26, st26⟩ := putF X23 hx hZ hown (host := "") (Or.inl (hw _ (List.mem_of_getElem? (i := 66) rfl))) Via.refl e23 fk24 fk25 (Or.inr ⟨(hw _ (List.mem_of_getElem? (i := 67) rfl)), rfl, hnm⟩) (hw _ (List.mem_of_getElem? (i := 10) rfl)) (ty := (.object "com/example/threefold/threefold/store/Device")) (by decide) rfl rfl (g := (mkF m 53 #[vR a1, vR a2, vJ q3, .second, .val .null, vR a5, vJ q6, .second, vI p7, vR a8, .val .null, .val .null, vJ q11, .second] [.null, iR a1])) rfl rfl (hb hby d8_53)
  have Fw26 := fk24.same W26
  have K26 : Keep h0 h26 [a1] := K23.wr W26 (Or.inl (List.mem_of_getElem? (i := 0) rfl))
  have N26 := Fr.snoc X26 N23 g_a1
  have fk27 := (((((((((F_createdAt.other W2 (Or.inr (slot_ne (Or.inr (hw _ (List.mem_of_getElem? (i := 69) rfl))) (Or.inr (hw _ (List.mem_of_getElem? (i := 51) rfl))) (by decide) (t := .long) (t' := (.object "java/lang/String")) (by decide) (by decide)))).other W5 (Or.inr (slot_ne (Or.inr (hw _ (List.mem_of_getElem? (i := 69) rfl))) (Or.inr (hw _ (List.mem_of_getElem? (i := 53) rfl))) (by decide) (t := .long) (t' := .long) (by decide) (by decide)))).other W8 (Or.inr (slot_ne (Or.inr (hw _ (List.mem_of_getElem? (i := 69) rfl))) (Or.inr (hw _ (List.mem_of_getElem? (i := 55) rfl))) (by decide) (t := .long) (t' := (.object "java/lang/String")) (by decide) (by decide)))).other W11 (Or.inr (slot_ne (Or.inr (hw _ (List.mem_of_getElem? (i := 69) rfl))) (Or.inr (hw _ (List.mem_of_getElem? (i := 57) rfl))) (by decide) (t := .long) (t' := (.object "com/example/threefold/threefold/protocol/ActivationStatus")) (by decide) (by decide)))).other W14 (Or.inr (slot_ne (Or.inr (hw _ (List.mem_of_getElem? (i := 69) rfl))) (Or.inr (hw _ (List.mem_of_getElem? (i := 59) rfl))) (by decide) (t := .long) (t' := .long) (by decide) (by decide)))).other W17 (Or.inr (slot_ne (Or.inr (hw _ (List.mem_of_getElem? (i := 69) rfl))) (Or.inr (hw _ (List.mem_of_getElem? (i := 61) rfl))) (by decide) (t := .long) (t' := .int) (by decide) (by decide)))).other W20 (Or.inr (slot_ne (Or.inr (hw _ (List.mem_of_getElem? (i := 69) rfl))) (Or.inr (hw _ (List.mem_of_getElem? (i := 63) rfl))) (by decide) (t := .long) (t' := (.object "java/lang/String")) (by decide) (by decide)))).other W23 (Or.inr (slot_ne (Or.inr (hw _ (List.mem_of_getElem? (i := 69) rfl))) (Or.inr (hw _ (List.mem_of_getElem? (i := 65) rfl))) (by decide) (t := .long) (t' := (.object "com/example/threefold/threefold/protocol/ActivationCode")) (by decide) (by decide)))).other W26 (Or.inr (slot_ne (Or.inr (hw _ (List.mem_of_getElem? (i := 69) rfl))) (Or.inr (hw _ (List.mem_of_getElem? (i := 67) rfl))) (by decide) (t := .long) (t' := (.object "com/example/threefold/threefold/store/Device")) (by decide) (by decide))))
  have fk28 := (fk25.wr W26)
  obtain ⟨T29, h29, X29, e29, W29, st29⟩ := putF X26 hx hZ hown (host := "") (Or.inl (hw _ (List.mem_of_getElem? (i := 68) rfl))) Via.refl e26 fk27 fk28 (Or.inr ⟨(hw _ (List.mem_of_getElem? (i := 69) rfl)), rfl, hnm⟩) (hw _ (List.mem_of_getElem? (i := 10) rfl)) (ty := .long) (by decide) rfl rfl (g := (mkF m 59 #[vR a1, vR a2, vJ q3, .second, .val .null, vR a5, vJ q6, .second, vI p7, vR a8, .val .null, .val .null, vJ q11, .second] [iJ q11, iR a1])) rfl rfl (hb hby d8_59)
  have Fw29 := fk27.same W29
  have K29 : Keep h0 h29 [a1] := K26.wr W29 (Or.inl (List.mem_of_getElem? (i := 0) rfl))
  have N29 := Fr.snoc X29 N26 g_a1
  obtain ⟨fs, hr, hrun, hended, hW, hsame⟩ := X29.leave (v := none) (fun _ => rfl)
  have fk30 := (fk28.wr W29)
  have fk31 := (((((((((Fw2.other W5 (Or.inr (slot_ne (Or.inr (hw _ (List.mem_of_getElem? (i := 51) rfl))) (Or.inr (hw _ (List.mem_of_getElem? (i := 53) rfl))) (by decide) (t := (.object "java/lang/String")) (t' := .long) (by decide) (by decide)))).other W8 (Or.inr (slot_ne (Or.inr (hw _ (List.mem_of_getElem? (i := 51) rfl))) (Or.inr (hw _ (List.mem_of_getElem? (i := 55) rfl))) (by decide) (t := (.object "java/lang/String")) (t' := (.object "java/lang/String")) (by decide) (by decide)))).other W11 (Or.inr (slot_ne (Or.inr (hw _ (List.mem_of_getElem? (i := 51) rfl))) (Or.inr (hw _ (List.mem_of_getElem? (i := 57) rfl))) (by decide) (t := (.object "java/lang/String")) (t' := (.object "com/example/threefold/threefold/protocol/ActivationStatus")) (by decide) (by decide)))).other W14 (Or.inr (slot_ne (Or.inr (hw _ (List.mem_of_getElem? (i := 51) rfl))) (Or.inr (hw _ (List.mem_of_getElem? (i := 59) rfl))) (by decide) (t := (.object "java/lang/String")) (t' := .long) (by decide) (by decide)))).other W17 (Or.inr (slot_ne (Or.inr (hw _ (List.mem_of_getElem? (i := 51) rfl))) (Or.inr (hw _ (List.mem_of_getElem? (i := 61) rfl))) (by decide) (t := (.object "java/lang/String")) (t' := .int) (by decide) (by decide)))).other W20 (Or.inr (slot_ne (Or.inr (hw _ (List.mem_of_getElem? (i := 51) rfl))) (Or.inr (hw _ (List.mem_of_getElem? (i := 63) rfl))) (by decide) (t := (.object "java/lang/String")) (t' := (.object "java/lang/String")) (by decide) (by decide)))).other W23 (Or.inr (slot_ne (Or.inr (hw _ (List.mem_of_getElem? (i := 51) rfl))) (Or.inr (hw _ (List.mem_of_getElem? (i := 65) rfl))) (by decide) (t := (.object "java/lang/String")) (t' := (.object "com/example/threefold/threefold/protocol/ActivationCode")) (by decide) (by decide)))).other W26 (Or.inr (slot_ne (Or.inr (hw _ (List.mem_of_getElem? (i := 51) rfl))) (Or.inr (hw _ (List.mem_of_getElem? (i := 67) rfl))) (by decide) (t := (.object "java/lang/String")) (t' := (.object "com/example/threefold/threefold/store/Device")) (by decide) (by decide)))).other W29 (Or.inr (slot_ne (Or.inr (hw _ (List.mem_of_getElem? (i := 51) rfl))) (Or.inr (hw _ (List.mem_of_getElem? (i := 69) rfl))) (by decide) (t := (.object "java/lang/String")) (t' := .long) (by decide) (by decide))))
  have fk32 := ((((((((Fw5.other W8 (Or.inr (slot_ne (Or.inr (hw _ (List.mem_of_getElem? (i := 53) rfl))) (Or.inr (hw _ (List.mem_of_getElem? (i := 55) rfl))) (by decide) (t := .long) (t' := (.object "java/lang/String")) (by decide) (by decide)))).other W11 (Or.inr (slot_ne (Or.inr (hw _ (List.mem_of_getElem? (i := 53) rfl))) (Or.inr (hw _ (List.mem_of_getElem? (i := 57) rfl))) (by decide) (t := .long) (t' := (.object "com/example/threefold/threefold/protocol/ActivationStatus")) (by decide) (by decide)))).other W14 (Or.inr (slot_ne (Or.inr (hw _ (List.mem_of_getElem? (i := 53) rfl))) (Or.inr (hw _ (List.mem_of_getElem? (i := 59) rfl))) (by decide) (t := .long) (t' := .long) (by decide) (by decide)))).other W17 (Or.inr (slot_ne (Or.inr (hw _ (List.mem_of_getElem? (i := 53) rfl))) (Or.inr (hw _ (List.mem_of_getElem? (i := 61) rfl))) (by decide) (t := .long) (t' := .int) (by decide) (by decide)))).other W20 (Or.inr (slot_ne (Or.inr (hw _ (List.mem_of_getElem? (i := 53) rfl))) (Or.inr (hw _ (List.mem_of_getElem? (i := 63) rfl))) (by decide) (t := .long) (t' := (.object "java/lang/String")) (by decide) (by decide)))).other W23 (Or.inr (slot_ne (Or.inr (hw _ (List.mem_of_getElem? (i := 53) rfl))) (Or.inr (hw _ (List.mem_of_getElem? (i := 65) rfl))) (by decide) (t := .long) (t' := (.object "com/example/threefold/threefold/protocol/ActivationCode")) (by decide) (by decide)))).other W26 (Or.inr (slot_ne (Or.inr (hw _ (List.mem_of_getElem? (i := 53) rfl))) (Or.inr (hw _ (List.mem_of_getElem? (i := 67) rfl))) (by decide) (t := .long) (t' := (.object "com/example/threefold/threefold/store/Device")) (by decide) (by decide)))).other W29 (Or.inr (slot_ne (Or.inr (hw _ (List.mem_of_getElem? (i := 53) rfl))) (Or.inr (hw _ (List.mem_of_getElem? (i := 69) rfl))) (by decide) (t := .long) (t' := .long) (by decide) (by decide))))
  have fk33 := (((((((Fw8.other W11 (Or.inr (slot_ne (Or.inr (hw _ (List.mem_of_getElem? (i := 55) rfl))) (Or.inr (hw _ (List.mem_of_getElem? (i := 57) rfl))) (by decide) (t := (.object "java/lang/String")) (t' := (.object "com/example/threefold/threefold/protocol/ActivationStatus")) (by decide) (by decide)))).other W14 (Or.inr (slot_ne (Or.inr (hw _ (List.mem_of_getElem? (i := 55) rfl))) (Or.inr (hw _ (List.mem_of_getElem? (i := 59) rfl))) (by decide) (t := (.object "java/lang/String")) (t' := .long) (by decide) (by decide)))).other W17 (Or.inr (slot_ne (Or.inr (hw _ (List.mem_of_getElem? (i := 55) rfl))) (Or.inr (hw _ (List.mem_of_getElem? (i := 61) rfl))) (by decide) (t := (.object "java/lang/String")) (t' := .int) (by decide) (by decide)))).other W20 (Or.inr (slot_ne (Or.inr (hw _ (List.mem_of_getElem? (i := 55) rfl))) (Or.inr (hw _ (List.mem_of_getElem? (i := 63) rfl))) (by decide) (t := (.object "java/lang/String")) (t' := (.object "java/lang/String")) (by decide) (by decide)))).other W23 (Or.inr (slot_ne (Or.inr (hw _ (List.mem_of_getElem? (i := 55) rfl))) (Or.inr (hw _ (List.mem_of_getElem? (i := 65) rfl))) (by decide) (t := (.object "java/lang/String")) (t' := (.object "com/example/threefold/threefold/protocol/ActivationCode")) (by decide) (by decide)))).other W26 (Or.inr (slot_ne (Or.inr (hw _ (List.mem_of_getElem? (i := 55) rfl))) (Or.inr (hw _ (List.mem_of_getElem? (i := 67) rfl))) (by decide) (t := (.object "java/lang/String")) (t' := (.object "com/example/threefold/threefold/store/Device")) (by decide) (by decide)))).other W29 (Or.inr (slot_ne (Or.inr (hw _ (List.mem_of_getElem? (i := 55) rfl))) (Or.inr (hw _ (List.mem_of_getElem? (i := 69) rfl))) (by decide) (t := (.object "java/lang/String")) (t' := .long) (by decide) (by decide))))
  have fk34 := ((((((Fw11.other W14 (Or.inr (slot_ne (Or.inr (hw _ (List.mem_of_getElem? (i := 57) rfl))) (Or.inr (hw _ (List.mem_of_getElem? (i := 59) rfl))) (by decide) (t := (.object "com/example/threefold/threefold/protocol/ActivationStatus")) (t' := .long) (by decide) (by decide)))).other W17 (Or.inr (slot_ne (Or.inr (hw _ (List.mem_of_getElem? (i := 57) rfl))) (Or.inr (hw _ (List.mem_of_getElem? (i := 61) rfl))) (by decide) (t := (.object "com/example/threefold/threefold/protocol/ActivationStatus")) (t' := .int) (by decide) (by decide)))).other W20 (Or.inr (slot_ne (Or.inr (hw _ (List.mem_of_getElem? (i := 57) rfl))) (Or.inr (hw _ (List.mem_of_getElem? (i := 63) rfl))) (by decide) (t := (.object "com/example/threefold/threefold/protocol/ActivationStatus")) (t' := (.object "java/lang/String")) (by decide) (by decide)))).other W23 (Or.inr (slot_ne (Or.inr (hw _ (List.mem_of_getElem? (i := 57) rfl))) (Or.inr (hw _ (List.mem_of_getElem? (i := 65) rfl))) (by decide) (t := (.object "com/example/threefold/threefold/protocol/ActivationStatus")) (t' := (.object "com/example/threefold/threefold/protocol/ActivationCode")) (by decide) (by decide)))).other W26 (Or.inr (slot_ne (Or.inr (hw _ (List.mem_of_getElem? (i := 57) rfl))) (Or.inr (hw _ (List.mem_of_getElem? (i := 67) rfl))) (by decide) (t := (.object "com/example/threefold/threefold/protocol/ActivationStatus")) (t' := (.object "com/example/threefold/threefold/store/Device")) (by decide) (by decide)))).other W29 (Or.inr (slot_ne (Or.inr (hw _ (List.mem_of_getElem? (i := 57) rfl))) (Or.inr (hw _ (List.mem_of_getElem? (i := 69) rfl))) (by decide) (t := (.object "com/example/threefold/threefold/protocol/ActivationStatus")) (t' := .long) (by decide) (by decide))))
  have fk35 := (((((Fw14.other W17 (Or.inr (slot_ne (Or.inr (hw _ (List.mem_of_getElem? (i := 59) rfl))) (Or.inr (hw _ (List.mem_of_getElem? (i := 61) rfl))) (by decide) (t := .long) (t' := .int) (by decide) (by decide)))).other W20 (Or.inr (slot_ne (Or.inr (hw _ (List.mem_of_getElem? (i := 59) rfl))) (Or.inr (hw _ (List.mem_of_getElem? (i := 63) rfl))) (by decide) (t := .long) (t' := (.object "java/lang/String")) (by decide) (by decide)))).other W23 (Or.inr (slot_ne (Or.inr (hw _ (List.mem_of_getElem? (i := 59) rfl))) (Or.inr (hw _ (List.mem_of_getElem? (i := 65) rfl))) (by decide) (t := .long) (t' := (.object "com/example/threefold/threefold/protocol/ActivationCode")) (by decide) (by decide)))).other W26 (Or.inr (slot_ne (Or.inr (hw _ (List.mem_of_getElem? (i := 59) rfl))) (Or.inr (hw _ (List.mem_of_getElem? (i := 67) rfl))) (by decide) (t := .long) (t' := (.object "com/example/threefold/threefold/store/Device")) (by decide) (by decide)))).other W29 (Or.inr (slot_ne (Or.inr (hw _ (List.mem_of_getElem? (i := 59) rfl))) (Or.inr (hw _ (List.mem_of_getElem? (i := 69) rfl))) (by decide) (t := .long) (t' := .long) (by decide) (by decide))))
  have fk36 := ((((Fw17.other W20 (Or.inr (slot_ne (Or.inr (hw _ (List.mem_of_getElem? (i := 61) rfl))) (Or.inr (hw _ (List.mem_of_getElem? (i := 63) rfl))) (by decide) (t := .int) (t' := (.object "java/lang/String")) (by decide) (by decide)))).other W23 (Or.inr (slot_ne (Or.inr (hw _ (List.mem_of_getElem? (i := 61) rfl))) (Or.inr (hw _ (List.mem_of_getElem? (i := 65) rfl))) (by decide) (t := .int) (t' := (.object "com/example/threefold/threefold/protocol/ActivationCode")) (by decide) (by decide)))).other W26 (Or.inr (slot_ne (Or.inr (hw _ (List.mem_of_getElem? (i := 61) rfl))) (Or.inr (hw _ (List.mem_of_getElem? (i := 67) rfl))) (by decide) (t := .int) (t' := (.object "com/example/threefold/threefold/store/Device")) (by decide) (by decide)))).other W29 (Or.inr (slot_ne (Or.inr (hw _ (List.mem_of_getElem? (i := 61) rfl))) (Or.inr (hw _ (List.mem_of_getElem? (i := 69) rfl))) (by decide) (t := .int) (t' := .long) (by decide) (by decide))))
  have fk37 := (((Fw20.other W23 (Or.inr (slot_ne (Or.inr (hw _ (List.mem_of_getElem? (i := 63) rfl))) (Or.inr (hw _ (List.mem_of_getElem? (i := 65) rfl))) (by decide) (t := (.object "java/lang/String")) (t' := (.object "com/example/threefold/threefold/protocol/ActivationCode")) (by decide) (by decide)))).other W26 (Or.inr (slot_ne (Or.inr (hw _ (List.mem_of_getElem? (i := 63) rfl))) (Or.inr (hw _ (List.mem_of_getElem? (i := 67) rfl))) (by decide) (t := (.object "java/lang/String")) (t' := (.object "com/example/threefold/threefold/store/Device")) (by decide) (by decide)))).other W29 (Or.inr (slot_ne (Or.inr (hw _ (List.mem_of_getElem? (i := 63) rfl))) (Or.inr (hw _ (List.mem_of_getElem? (i := 69) rfl))) (by decide) (t := (.object "java/lang/String")) (t' := .long) (by decide) (by decide))))
  have fk38 := ((Fw23.other W26 (Or.inr (slot_ne (Or.inr (hw _ (List.mem_of_getElem? (i := 65) rfl))) (Or.inr (hw _ (List.mem_of_getElem? (i := 67) rfl))) (by decide) (t := (.object "com/example/threefold/threefold/protocol/ActivationCode")) (t' := (.object "com/example/threefold/threefold/store/Device")) (by decide) (by decide)))).other W29 (Or.inr (slot_ne (Or.inr (hw _ (List.mem_of_getElem? (i := 65) rfl))) (Or.inr (hw _ (List.mem_of_getElem? (i := 69) rfl))) (by decide) (t := (.object "com/example/threefold/threefold/protocol/ActivationCode")) (t' := .long) (by decide) (by decide))))
  have fk39 := (Fw26.other W29 (Or.inr (slot_ne (Or.inr (hw _ (List.mem_of_getElem? (i := 67) rfl))) (Or.inr (hw _ (List.mem_of_getElem? (i := 69) rfl))) (by decide) (t := (.object "com/example/threefold/threefold/store/Device")) (t' := .long) (by decide) (by decide))))
  refine ⟨_, _, pre0 _ ?_, hrun, hended, _, _, rfl, ?_, ⟨_, rfl⟩, hW, hsame.mono (by decide) (by decide)⟩
  · show Steps _ _ _ (s₁.setTop (mkF m 0 #[vR a1, vR a2, vJ q3, .second, .val .null, vR a5, vJ q6, .second, vI p7, vR a8, .val .null, .val .null, vJ q11, .second] [])) _
    refine XS.aloadN X0.here hx rfl (hb hby d8_0) rfl rfl ?_
    show Steps _ _ _ (s₁.setTop (mkF m 1 #[vR a1, vR a2, vJ q3, .second, .val .null, vR a5, vJ q6, .second, vI p7, vR a8, .val .null, .val .null, vJ q11, .second] [iR a1])) _
    refine st1.trans ?_
    show Steps _ _ _ (T1.setTop (mkF m 4 #[vR a1, vR a2, vJ q3, .second, .val .null, vR a5, vJ q6, .second, vI p7, vR a8, .val .null, .val .null, vJ q11, .second] [])) _
    refine XS.aloadN X1.here hx rfl (hb hby d8_4) rfl rfl ?_
    show Steps _ _ _ (T1.setTop (mkF m 5 #[vR a1, vR a2, vJ q3, .second, .val .null, vR a5, vJ q6, .second, vI p7, vR a8, .val .null, .val .null, vJ q11, .second] [iR a1])) _
    refine XS.aloadN X1.here hx rfl (hb hby d8_5) rfl rfl ?_
    show Steps _ _ _ (T1.setTop (mkF m 6 #[vR a1, vR a2, vJ q3, .second, .val .null, vR a5, vJ q6, .second, vI p7, vR a8, .val .null, .val .null, vJ q11, .second] [iR a2, iR a1])) _
    refine st2 _ ?_
    show Steps _ _ _ (T2.setTop (mkF m 9 #[vR a1, vR a2, vJ q3, .second, .val .null, vR a5, vJ q6, .second, vI p7, vR a8, .val .null, .val .null, vJ q11, .second] [])) _
    refine XS.aloadN X2.here hx rfl (hb hby d8_9) rfl rfl ?_
    show Steps _ _ _ (T2.setTop (mkF m 10 #[vR a1, vR a2, vJ q3, .second, .val .null, vR a5, vJ q6, .second, vI p7, vR a8, .val .null, .val .null, vJ q11, .second] [iR a1])) _
    refine XS.lloadN X2.here hx rfl (hb hby d8_10) rfl ?_
    show Steps _ _ _ (T2.setTop (mkF m 11 #[vR a1, vR a2, vJ q3, .second, .val .null, vR a5, vJ q6, .second, vI p7, vR a8, .val .null, .val .null, vJ q11, .second] [iJ q3, iR a1])) _
    refine st5 _ ?_
    show Steps _ _ _ (T5.setTop (mkF m 14 #[vR a1, vR a2, vJ q3, .second, .val .null, vR a5, vJ q6, .second, vI p7, vR a8, .val .null, .val .null, vJ q11, .second] [])) _
    refine XS.aloadN X5.here hx rfl (hb hby d8_14) rfl rfl ?_
    show Steps _ _ _ (T5.setTop (mkF m 15 #[vR a1, vR a2, vJ q3, .second, .val .null, vR a5, vJ q6, .second, vI p7, vR a8, .val .null, .val .null, vJ q11, .second] [iR a1])) _
    refine XS.aload X5.here hx rfl (hb hby d8_15) rfl rfl ?_
    show Steps _ _ _ (T5.setTop (mkF m 17 #[vR a1, vR a2, vJ q3, .second, .val .null, vR a5, vJ q6, .second, vI p7, vR a8, .val .null, .val .null, vJ q11, .second] [.null, iR a1])) _
    refine st8 _ ?_
    show Steps _ _ _ (T8.setTop (mkF m 20 #[vR a1, vR a2, vJ q3, .second, .val .null, vR a5, vJ q6, .second, vI p7, vR a8, .val .null, .val .null, vJ q11, .second] [])) _
    refine XS.aloadN X8.here hx rfl (hb hby d8_20) rfl rfl ?_
    show Steps _ _ _ (T8.setTop (mkF m 21 #[vR a1, vR a2, vJ q3, .second, .val .null, vR a5, vJ q6, .second, vI p7, vR a8, .val .null, .val .null, vJ q11, .second] [iR a1])) _
    refine XS.aload X8.here hx rfl (hb hby d8_21) rfl rfl ?_
    show Steps _ _ _ (T8.setTop (mkF m 23 #[vR a1, vR a2, vJ q3, .second, .val .null, vR a5, vJ q6, .second, vI p7, vR a8, .val .null, .val .null, vJ q11, .second] [iR a5, iR a1])) _
    refine st11 _ ?_
    show Steps _ _ _ (T11.setTop (mkF m 26 #[vR a1, vR a2, vJ q3, .second, .val .null, vR a5, vJ q6, .second, vI p7, vR a8, .val .null, .val .null, vJ q11, .second] [])) _
    refine XS.aloadN X11.here hx rfl (hb hby d8_26) rfl rfl ?_
    show Steps _ _ _ (T11.setTop (mkF m 27 #[vR a1, vR a2, vJ q3, .second, .val .null, vR a5, vJ q6, .second, vI p7, vR a8, .val .null, .val .null, vJ q11, .second] [iR a1])) _
    refine XS.lload X11.here hx rfl (hb hby d8_27) rfl ?_
    show Steps _ _ _ (T11.setTop (mkF m 29 #[vR a1, vR a2, vJ q3, .second, .val .null, vR a5, vJ q6, .second, vI p7, vR a8, .val .null, .val .null, vJ q11, .second] [iJ q6, iR a1])) _
    refine st14 _ ?_
    show Steps _ _ _ (T14.setTop (mkF m 32 #[vR a1, vR a2, vJ q3, .second, .val .null, vR a5, vJ q6, .second, vI p7, vR a8, .val .null, .val .null, vJ q11, .second] [])) _
    refine XS.aloadN X14.here hx rfl (hb hby d8_32) rfl rfl ?_
    show Steps _ _ _ (T14.setTop (mkF m 33 #[vR a1, vR a2, vJ q3, .second, .val .null, vR a5, vJ q6, .second, vI p7, vR a8, .val .null, .val .null, vJ q11, .second] [iR a1])) _
    refine XS.iload X14.here hx rfl (hb hby d8_33) rfl ?_
    show Steps _ _ _ (T14.setTop (mkF m 35 #[vR a1, vR a2, vJ q3, .second, .val .null, vR a5, vJ q6, .second, vI p7, vR a8, .val .null, .val .null, vJ q11, .second] [iI p7, iR a1])) _
    refine st17 _ ?_
    show Steps _ _ _ (T17.setTop (mkF m 38 #[vR a1, vR a2, vJ q3, .second, .val .null, vR a5, vJ q6, .second, vI p7, vR a8, .val .null, .val .null, vJ q11, .second] [])) _
    refine XS.aloadN X17.here hx rfl (hb hby d8_38) rfl rfl ?_
    show Steps _ _ _ (T17.setTop (mkF m 39 #[vR a1, vR a2, vJ q3, .second, .val .null, vR a5, vJ q6, .second, vI p7, vR a8, .val .null, .val .null, vJ q11, .second] [iR a1])) _
    refine XS.aload X17.here hx rfl (hb hby d8_39) rfl rfl ?_
    show Steps _ _ _ (T17.setTop (mkF m 41 #[vR a1, vR a2, vJ q3, .second, .val .null, vR a5, vJ q6, .second, vI p7, vR a8, .val .null, .val .null, vJ q11, .second] [iR a8, iR a1])) _
    refine st20 _ ?_
    show Steps _ _ _ (T20.setTop (mkF m 44 #[vR a1, vR a2, vJ q3, .second, .val .null, vR a5, vJ q6, .second, vI p7, vR a8, .val .null, .val .null, vJ q11, .second] [])) _
    refine XS.aloadN X20.here hx rfl (hb hby d8_44) rfl rfl ?_
    show Steps _ _ _ (T20.setTop (mkF m 45 #[vR a1, vR a2, vJ q3, .second, .val .null, vR a5, vJ q6, .second, vI p7, vR a8, .val .null, .val .null, vJ q11, .second] [iR a1])) _
    refine XS.aload X20.here hx rfl (hb hby d8_45) rfl rfl ?_
    show Steps _ _ _ (T20.setTop (mkF m 47 #[vR a1, vR a2, vJ q3, .second, .val .null, vR a5, vJ q6, .second, vI p7, vR a8, .val .null, .val .null, vJ q11, .second] [.null, iR a1])) _
    refine st23 _ ?_
    show Steps _ _ _ (T23.setTop (mkF m 50 #[vR a1, vR a2, vJ q3, .second, .val .null, vR a5, vJ q6, .second, vI p7, vR a8, .val .null, .val .null, vJ q11, .second] [])) _
    refine XS.aloadN X23.here hx rfl (hb hby d8_50) rfl rfl ?_
    show Steps _ _ _ (T23.setTop (mkF m 51 #[vR a1, vR a2, vJ q3, .second, .val .null, vR a5, vJ q6, .second, vI p7, vR a8, .val .null, .val .null, vJ q11, .second] [iR a1])) _
    refine XS.aload X23.here hx rfl (hb hby d8_51) rfl rfl ?_
    show Steps _ _ _ (T23.setTop (mkF m 53 #[vR a1, vR a2, vJ q3, .second, .val .null, vR a5, vJ q6, .second, vI p7, vR a8, .val .null, .val .null, vJ q11, .second] [.null, iR a1])) _
    refine st26 _ ?_
    show Steps _ _ _ (T26.setTop (mkF m 56 #[vR a1, vR a2, vJ q3, .second, .val .null, vR a5, vJ q6, .second, vI p7, vR a8, .val .null, .val .null, vJ q11, .second] [])) _
    refine XS.aloadN X26.here hx rfl (hb hby d8_56) rfl rfl ?_
    show Steps _ _ _ (T26.setTop (mkF m 57 #[vR a1, vR a2, vJ q3, .second, .val .null, vR a5, vJ q6, .second, vI p7, vR a8, .val .null, .val .null, vJ q11, .second] [iR a1])) _
    refine XS.lload X26.here hx rfl (hb hby d8_57) rfl ?_
    show Steps _ _ _ (T26.setTop (mkF m 59 #[vR a1, vR a2, vJ q3, .second, .val .null, vR a5, vJ q6, .second, vI p7, vR a8, .val .null, .val .null, vJ q11, .second] [iJ q11, iR a1])) _
    refine st29 _ ?_
    show Steps _ _ _ (T29.setTop (mkF m 62 #[vR a1, vR a2, vJ q3, .second, .val .null, vR a5, vJ q6, .second, vI p7, vR a8, .val .null, .val .null, vJ q11, .second] [])) _
    exact X29.returnOut hx Bd.returns (hb hby d8_62) hr
  · show Q8_rn Z a1 a2 q3 a5 q6 p7 a8 q11 h0 n0 _ T29.heap _
    rw [e29]
    exact ⟨rfl, N29, K29, fk30, fk31, fk32, fk33, fk34, fk35, fk36, fk37, fk38, fk39, Fw29⟩
theorem ef_8_rr (m : MethodId) (x0 : Addr) (x1 : Addr) (x2 : Int64) (x4 : Addr) (x5 : Int64) (x6 : Int32) (x7 : Addr) (x9 : Addr) (x10 : Int64) : entryFrame m #[(.ref x0), (.ref x1), (.long x2), .null, (.ref x4), (.long x5), (.int x6), (.ref x7), .null, (.ref x9), (.long x10)] 14 = mkF m 0 #[.val (.ref x0), .val (.ref x1), .val (.long x2), .second, .val .null, .val (.ref x4), .val (.long x5), .second, .val (.int x6), .val (.ref x7), .val .null, .val (.ref x9), .val (.long x10), .second] [] := by first | (simp [entryFrame, mkF, argsToLocals, Value.category]; done) | rfl
def Q8_rr (Z : State) (a1 : Addr) (a2 : Addr) (q3 : Int64) (a5 : Addr) (q6 : Int64) (p7 : Int32) (a8 : Addr) (a10 : Addr) (q11 : Int64) (h0 : Heap) (n0 : Nat) (v : Option Value) (h : Heap) (L : List Loc) : Prop := v = none ∧ Fr n0 L ∧ Keep h0 h [a1] ∧ Exa Z h a1 "com/example/threefold/threefold/store/Activation" ∧ Fld Z h a1 "com/example/threefold/threefold/store/Activation" "activationId" "Ljava/lang/String;" (.ref a2) ∧ Fld Z h a1 "com/example/threefold/threefold/store/Activation" "applicationId" "J" (.long q3) ∧ Fld Z h a1 "com/example/threefold/threefold/store/Activation" "userId" "Ljava/lang/String;" .null ∧ Fld Z h a1 "com/example/threefold/threefold/store/Activation" "status" "Lcom/example/threefold/threefold/protocol/ActivationStatus;" (.ref a5) ∧ Fld Z h a1 "com/example/threefold/threefold/store/Activation" "counter" "J" (.long q6) ∧ Fld Z h a1 "com/example/threefold/threefold/store/Activation" "failedAttempts" "I" (.int p7) ∧ Fld Z h a1 "com/example/threefold/threefold/store/Activation" "blockedReason" "Ljava/lang/String;" (.ref a8) ∧ Fld Z h a1 "com/example/threefold/threefold/store/Activation" "code" "Lcom/example/threefold/threefold/protocol/ActivationCode;" .null ∧ Fld Z h a1 "com/example/threefold/threefold/store/Activation" "device" "Lcom/example/threefold/threefold/store/Device;" (.ref a10) ∧ Fld Z h a1 "com/example/threefold/threefold/store/Activation" "createdAt" "J" (.long q11)
set_option maxRecDepth 65536 in
set_option maxHeartbeats 40000000 in
theorem rm8_rr (l : Launch) (Z : State) (a0 : Array Value) (hw : ∀ d ∈ tables_1, d.before a0 Z = true) (ws : List Jvm.Cond) (a1 : Addr) (a2 : Addr) (q3 : Int64) (a5 : Addr) (q6 : Int64) (p7 : Int32) (a8 : Addr) (a10 : Addr) (q11 : Int64) (h0 : Heap) (n0 : Nat) (Z0 : n0 ≤ h0.size) (E_a1 : Exa Z h0 a1 "com/example/threefold/threefold/store/Activation") (g_a1 : n0 ≤ a1) (F_activationId : Fld Z h0 a1 "com/example/threefold/threefold/store/Activation" "activationId" "Ljava/lang/String;" .null) (F_applicationId : Fld Z h0 a1 "com/example/threefold/threefold/store/Activation" "applicationId" "J" (.long (0 : Int64))) (F_userId : Fld Z h0 a1 "com/example/threefold/threefold/store/Activation" "userId" "Ljava/lang/String;" .null) (F_status : Fld Z h0 a1 "com/example/threefold/threefold/store/Activation" "status" "Lcom/example/threefold/threefold/protocol/ActivationStatus;" .null) (F_counter : Fld Z h0 a1 "com/example/threefold/threefold/store/Activation" "counter" "J" (.long (0 : Int64))) (F_failedAttempts : Fld Z h0 a1 "com/example/threefold/threefold/store/Activation" "failedAttempts" "I" (.int (0 : Int32))) (F_blockedReason : Fld Z h0 a1 "com/example/threefold/threefold/store/Activation" "blockedReason" "Ljava/lang/String;" .null) (F_code : Fld Z h0 a1 "com/example/threefold/threefold/store/Activation" "code" "Lcom/example/threefold/threefold/protocol/ActivationCode;" .null) (F_device : Fld Z h0 a1 "com/example/threefold/threefold/store/Activation" "device" "Lcom/example/threefold/threefold/store/Device;" .null) (F_createdAt : Fld Z h0 a1 "com/example/threefold/threefold/store/Activation" "createdAt" "J" (.long (0 : Int64))) :
    MetFree l (⟨"com/example/threefold/threefold/store/Activation", "<init>", "(Ljava/lang/String;JLjava/lang/String;Lcom/example/threefold/threefold/protocol/ActivationStatus;JILjava/lang/String;Lcom/example/threefold/threefold/protocol/ActivationCode;Lcom/example/threefold/threefold/store/Device;J)V"⟩ : MethodName) (head1 (Jvm.Cond.code (⟨"com/example/threefold/threefold/store/Activation", "<init>", "(Ljava/lang/String;JLjava/lang/String;Lcom/example/threefold/threefold/protocol/ActivationStatus;JILjava/lang/String;Lcom/example/threefold/threefold/protocol/ActivationCode;Lcom/example/threefold/threefold/store/Device;J)V"⟩ : MethodName) prog_37_method_1_code 14 none :: ws) ({ frames := 2, cells := 0, slots := 0, locals := 24 } : Room)) (fun a U => a = #[(.ref a1), (.ref a2), (.long q3), .null, (.ref a5), (.long q6), (.int p7), (.ref a8), .null, (.ref a10), (.long q11)] ∧ Z.Warmed39 U.vm ∧ U.heap = h0) (fun _ _ _ _ _ => True) (fun _ U o U' => ∃ v L, o = .returned v ∧ Q8_rr Z a1 a2 q3 a5 q6 p7 a8 a10 q11 h0 n0 v U'.heap L ∧ FrameEnd U o U' L ({ frames := 2, cells := 0, slots := 0, locals := 24 } : Room).cells ({ frames := 2, cells := 0, slots := 0, locals := 24 } : Room).slots) := by
  refine MetFree.of_bodySF (plainFor_of_name pn_3) hisR ?_
  intro p e s m args below meth c s₁ Bd hml0 hP hK
  obtain ⟨rfl, hZ, hh⟩ := hP
  have hx := Bd.exec
  have hby := Bd.bytes
  have hml : c.maxLocals = 14 := hml0
  have hown : s.vm.findClass "com/example/threefold/threefold/store/Activation" = some m.cls := findClass_of_methodNamed Bd.named
  have hnm := (name_of_methodNamed Bd.named Bd.method).1
  have X0 : Stand p l e ({ frames := 2, cells := 0, slots := 0, locals := 24 } : Room) s m #[(.ref a1), (.ref a2), (.long q3), .null, (.ref a5), (.long q6), (.int p7), (.ref a8), .null, (.ref a10), (.long q11)] below meth c s₁ [] 0 0 := Stand.of_body Bd
  have e0 : s₁.heap = h0 := by rw [← hh, Bd.state]; rfl
  have N0 := Fr.nil n0
  have K0 := Keep.refl h0 [a1]
  have pre0 : ∀ t, Steps p.tables e below (s₁.setTop (mkF m 0 #[.val (.ref a1), .val (.ref a2), .val (.long q3), .second, .val .null, .val (.ref a5), .val (.long q6), .second, .val (.int p7), .val (.ref a8), .val .null, .val (.ref a10), .val (.long q11), .second] [])) t → Steps p.tables e below (s₁.setTop (entryFrame m #[(.ref a1), (.ref a2), (.long q3), .null, (.ref a5), (.long q6), (.int p7), (.ref a8), .null, (.ref a10), (.long q11)] 14)) t := fun t k => castTop (ef_8_rr m a1 a2 q3 a5 q6 p7 a8 a10 q11) k
  obtain ⟨_, _, ⟨T1, L1, k1, n1⟩, -, X1, ⟨Lc1, hQ1, l1, y1, z1⟩, st1⟩ := X0.specialBack hx (y := (⟨"java/lang/Record", "<init>", "()V"⟩ : MethodName)) rfl hown (mvT hZ (hw _ (List.mem_of_getElem? (i := 44) rfl))) (mvT hZ (hw _ (List.mem_of_getElem? (i := 45) rfl))) (mvT hZ (hw _ (List.mem_of_getElem? (i := 48) rfl))) (by decide) (backOf (W := 0) (rm9 l Z a0 hw [] a1 h0 ) hZ (hw _ (List.mem_of_getElem? (i := 48) rfl)) (hw _ (List.mem_of_getElem? (i := 47) rfl)) (by decide) (by decide)) (g := (mkF m 1 #[vR a1, vR a2, vJ q3, .second, .val .null, vR a5, vJ q6, .second, vI p7, vR a8, .val .null, vR a10, vJ q11, .second] [iR a1])) rfl (by rw [hml]; rfl) (Steps.refl _) (a := a1) (argsL := []) (rest := []) (lenOf pd_0 rfl) rfl (by show 2 * 0 + _ ≤ _; exact Nat.le_of_eq rfl) (hb hby d8_1) (fun _ _ => ⟨rfl, e0, (by decide : 0 + 0 ≤ _), (by decide : 0 + 0 ≤ _)⟩)
  dsimp only [Pt.U, Pt.locs, Pt.cells, Pt.slots] at X1 l1 y1 z1 st1 hQ1
  subst l1 y1 z1
  obtain ⟨rfl, rfl, e1⟩ := hQ1
  try rw [List.append_nil] at X1
  obtain ⟨T2, h2, X2, e2, W2, st2⟩ := putF X1 hx hZ hown (host := "") (Or.inl (hw _ (List.mem_of_getElem? (i := 50) rfl))) Via.refl e1 F_activationId E_a1 (Or.inr ⟨(hw _ (List.mem_of_getElem? (i := 51) rfl)), rfl, hnm⟩) (hw _ (List.mem_of_getElem? (i := 10) rfl)) (ty := (.object "java/lang/String")) (by decide) rfl rfl (g := (mkF m 6 #[vR a1, vR a2, vJ q3, .second, .val .null, vR a5, vJ q6, .second, vI p7, vR a8, .val .null, vR a10, vJ q11, .second] [iR a2, iR a1])) rfl rfl (hb hby d8_6)
  have Fw2 := F_activationId.same W2
  have K2 : Keep h0 h2 [a1] := K0.wr W2 (Or.inl (List.mem_of_getElem? (i := 0) rfl))
  have N2 := Fr.snoc X2 N0 g_a1
  have fk3 := (F_applicationId.other W2 (Or.inr (slot_ne (Or.inr (hw _ (List.mem_of_getElem? (i := 53) rfl))) (Or.inr (hw _ (List.mem_of_getElem? (i := 51) rfl))) (by decide) (t := .long) (t' := (.object "java/lang/String")) (by decide) (by decide))))
  have fk4 := (E_a1.wr W2)
  obtain ⟨T5, h5, X5, e5, W5, st5⟩ := putF X2 hx hZ hown (host := "") (Or.inl (hw _ (List.mem_of_getElem? (i := 52) rfl))) Via.refl e2 fk3 fk4 (Or.inr ⟨(hw _ (List.mem_of_getElem? (i := 53) rfl)), rfl, hnm⟩) (hw _ (List.mem_of_getElem? (i := 10) rfl)) (ty := .long) (by decide) rfl rfl (g := (mkF m 11 #[vR a1, vR a2, vJ q3, .second, .val .null, vR a5, vJ q6, .second, vI p7, vR a8, .val .null, vR a10, vJ q11, .second] [iJ q3, iR a1])) rfl rfl (hb hby d8_11)
  have Fw5 := fk3.same W5
  have K5 : Keep h0 h5 [a1] := K2.wr W5 (Or.inl (List.mem_of_getElem? (i := 0) rfl))
  have N5 := Fr.snoc X5 N2 g_a1
  have fk6 := ((F_userId.other W2 (Or.inr (slot_ne (Or.inr (hw _ (List.mem_of_getElem? (i := 55) rfl))) (Or.inr (hw _ (List.mem_of_getElem? (i := 51) rfl))) (by decide) (t := (.object "java/lang/String")) (t' := (.object "java/lang/String")) (by decide) (by decide)))).other W5 (Or.inr (slot_ne (Or.inr (hw _ (List.mem_of_getElem? (i := 55) rfl))) (Or.inr (hw _ (List.mem_of_getElem? (i := 53) rfl))) (by decide) (t := (.object "java/lang/String")) (t' := .long) (by decide) (by decide))))
  have fk7 := (fk4.wr W5)
  obtain ⟨T8, h8, X8, e8, W8, st8⟩ := putF X5 hx hZ hown (host := "") (Or.inl (hw _ (List.mem_of_getElem? (i := 54) rfl))) Via.refl e5 fk6 fk7 (Or.inr ⟨(hw _ (List.mem_of_getElem? (i := 55) rfl)), rfl, hnm⟩) (hw _ (List.mem_of_getElem? (i := 10) rfl)) (ty := (.object "java/lang/String")) (by decide) rfl rfl (g := (mkF m 17 #[vR a1, vR a2, vJ q3, .second, .val .null, vR a5, vJ q6, .second, vI p7, vR a8, .val .null, vR a10, vJ q11, .second] [.null, iR a1])) rfl rfl (hb hby d8_17)
  have Fw8 := fk6.same W8
  have K8 : Keep h0 h8 [a1] := K5.wr W8 (Or.inl (List.mem_of_getElem? (i := 0) rfl))
  have N8 := Fr.snoc X8 N5 g_a1
  have fk9 := (((F_status.other W2 (Or.inr (slot_ne (Or.inr (hw _ (List.mem_of_getElem? (i := 57) rfl))) (Or.inr (hw _ (List.mem_of_getElem? (i := 51) rfl))) (by decide) (t := (.object "com/example/threefold/threefold/protocol/ActivationStatus")) (t' := (.object "java/lang/String")) (by decide) (by decide)))).other W5 (Or.inr (slot_ne (Or.inr (hw _ (List.mem_of_getElem? (i := 57) rfl))) (Or.inr (hw _ (List.mem_of_getElem? (i := 53) rfl))) (by decide) (t := (.object "com/example/threefold/threefold/protocol/ActivationStatus")) (t' := .long) (by decide) (by decide)))).other W8 (Or.inr (slot_ne (Or.inr (hw _ (List.mem_of_getElem? (i := 57) rfl))) (Or.inr (hw _ (List.mem_of_getElem? (i := 55) rfl))) (by decide) (t := (.object "com/example/threefold/threefold/protocol/ActivationStatus")) (t' := (.object "java/lang/String")) (by decide) (by decide))))
  have fk10 := (fk7.wr W8)
  obtain ⟨T11, h11, X11, e11, W11, st11⟩ := putF X8 hx hZ hown (host := "") (Or.inl (hw _ (List.mem_of_getElem? (i := 56) rfl))) Via.refl e8 fk9 fk10 (Or.inr ⟨(hw _ (List.mem_of_getElem? (i := 57) rfl)), rfl, hnm⟩) (hw _ (List.mem_of_getElem? (i := 10) rfl)) (ty := (.object "com/example/threefold/threefold/protocol/ActivationStatus")) (by decide) rfl rfl (g := (mkF m 23 #[vR a1, vR a2, vJ q3, .second, .val .null, vR a5, vJ q6, .second, vI p7, vR a8, .val .null, vR a10, vJ q11, .second] [iR a5, iR a1])) rfl rfl (hb hby d8_23)
  have Fw11 := fk9.same W11
  have K11 : Keep h0 h11 [a1] := K8.wr W11 (Or.inl (List.mem_of_getElem? (i := 0) rfl))
  have N11 := Fr.snoc X11 N8 g_a1
  have fk12 := ((((F_counter.other W2 (Or.inr (slot_ne (Or.inr (hw _ (List.mem_of_getElem? (i := 59) rfl))) (Or.inr (hw _ (List.mem_of_getElem? (i := 51) rfl))) (by decide) (t := .long) (t' := (.object "java/lang/String")) (by decide) (by decide)))).other W5 (Or.inr (slot_ne (Or.inr (hw _ (List.mem_of_getElem? (i := 59) rfl))) (Or.inr (hw _ (List.mem_of_getElem? (i := 53) rfl))) (by decide) (t := .long) (t' := .long) (by decide) (by decide)))).other W8 (Or.inr (slot_ne (Or.inr (hw _ (List.mem_of_getElem? (i := 59) rfl))) (Or.inr (hw _ (List.mem_of_getElem? (i := 55) rfl))) (by decide) (t := .long) (t' := (.object "java/lang/String")) (by decide) (by decide)))).other W11 (Or.inr (slot_ne (Or.inr (hw _ (List.mem_of_getElem? (i := 59) rfl))) (Or.inr (hw _ (List.mem_of_getElem? (i := 57) rfl))) (by decide) (t := .long) (t' := (.object "com/example/threefold/threefold/protocol/ActivationStatus")) (by decide) (by decide))))
  have fk13 := (fk10.wr W11)
  obtain ⟨T14, h14, X14, e14, W14, st14⟩ := putF X11 hx hZ hown (host := "") (Or.inl (hw _ (List.mem_of_getElem? (i := 58) rfl))) Via.refl e11 fk12 fk13 (Or.inr ⟨(hw _ (List.mem_of_getElem? (i := 59) rfl)), rfl, hnm⟩) (hw _ (List.mem_of_getElem? (i := 10) rfl)) (ty := .long) (by decide) rfl rfl (g := (mkF m 29 #[vR a1, vR a2, vJ q3, .second, .val .null, vR a5, vJ q6, .second, vI p7, vR a8, .val .null, vR a10, vJ q11, .second] [iJ q6, iR a1])) rfl rfl (hb hby d8_29)
  have Fw14 := fk12.same W14
  have K14 : Keep h0 h14 [a1] := K11.wr W14 (Or.inl (List.mem_of_getElem? (i := 0) rfl))
  have N14 := Fr.snoc X14 N11 g_a1
  have fk15 := (((((F_failedAttempts.other W2 (Or.inr (slot_ne (Or.inr (hw _ (List.mem_of_getElem? (i := 61) rfl))) (Or.inr (hw _ (List.mem_of_getElem? (i := 51) rfl))) (by decide) (t := .int) (t' := (.object "java/lang/String")) (by decide) (by decide)))).other W5 (Or.inr (slot_ne (Or.inr (hw _ (List.mem_of_getElem? (i := 61) rfl))) (Or.inr (hw _ (List.mem_of_getElem? (i := 53) rfl))) (by decide) (t := .int) (t' := .long) (by decide) (by decide)))).other W8 (Or.inr (slot_ne (Or.inr (hw _ (List.mem_of_getElem? (i := 61) rfl))) (Or.inr (hw _ (List.mem_of_getElem? (i := 55) rfl))) (by decide) (t := .int) (t' := (.object "java/lang/String")) (by decide) (by decide)))).other W11 (Or.inr (slot_ne (Or.inr (hw _ (List.mem_of_getElem? (i := 61) rfl))) (Or.inr (hw _ (List.mem_of_getElem? (i := 57) rfl))) (by decide) (t := .int) (t' := (.object "com/example/threefold/threefold/protocol/ActivationStatus")) (by decide) (by decide)))).other W14 (Or.inr (slot_ne (Or.inr (hw _ (List.mem_of_getElem? (i := 61) rfl))) (Or.inr (hw _ (List.mem_of_getElem? (i := 59) rfl))) (by decide) (t := .int) (t' := .long) (by decide) (by decide))))
  have fk16 := (fk13.wr W14)
  obtain ⟨T17, h17, X17, e17, W17, st17⟩ := putF X14 hx hZ hown (host := "") (Or.inl (hw _ (List.mem_of_getElem? (i := 60) rfl))) Via.refl e14 fk15 fk16 (Or.inr ⟨(hw _ (List.mem_of_getElem? (i := 61) rfl)), rfl, hnm⟩) (hw _ (List.mem_of_getElem? (i := 10) rfl)) (ty := .int) (by decide) rfl rfl (g := (mkF m 35 #[vR a1, vR a2, vJ q3, .second, .val .null, vR a5, vJ q6, .second, vI p7, vR a8, .val .null, vR a10, vJ q11, .second] [iI p7, iR a1])) rfl rfl (hb hby d8_35)
  have Fw17 := fk15.same W17
  have K17 : Keep h0 h17 [a1] := K14.wr W17 (Or.inl (List.mem_of_getElem? (i := 0) rfl))
  have N17 := Fr.snoc X17 N14 g_a1
  have fk18 := ((((((F_blockedReason.other W2 (Or.inr (slot_ne (Or.inr (hw _ (List.mem_of_getElem? (i := 63) rfl))) (Or.inr (hw _ (List.mem_of_getElem? (i := 51) rfl))) (by decide) (t := (.object "java/lang/String")) (t' := (.object "java/lang/String")) (by decide) (by decide)))).other W5 (Or.inr (slot_ne (Or.inr (hw _ (List.mem_of_getElem? (i := 63) rfl))) (Or.inr (hw _ (List.mem_of_getElem? (i := 53) rfl))) (by decide) (t := (.object "java/lang/String")) (t' := .long) (by decide) (by decide)))).other W8 (Or.inr (slot_ne (Or.inr (hw _ (List.mem_of_getElem? (i := 63) rfl))) (Or.inr (hw _ (List.mem_of_getElem? (i := 55) rfl))) (by decide) (t := (.object "java/lang/String")) (t' := (.object "java/lang/String")) (by decide) (by decide)))).other W11 (Or.inr (slot_ne (Or.inr (hw _ (List.mem_of_getElem? (i := 63) rfl))) (Or.inr (hw _ (List.mem_of_getElem? (i := 57) rfl))) (by decide) (t := (.object "java/lang/String")) (t' := (.object "com/example/threefold/threefold/protocol/ActivationStatus")) (by decide) (by decide)))).other W14 (Or.inr (slot_ne (Or.inr (hw _ (List.mem_of_getElem? (i := 63) rfl))) (Or.inr (hw _ (List.mem_of_getElem? (i := 59) rfl))) (by decide) (t := (.object "java/lang/String")) (t' := .long) (by decide) (by decide)))).other W17 (Or.inr (slot_ne (Or.inr (hw _ (List.mem_of_getElem? (i := 63) rfl))) (Or.inr (hw _ (List.mem_of_getElem? (i := 61) rfl))) (by decide) (t := (.object "java/lang/String")) (t' := .int) (by decide) (by decide))))
  have fk19 := (fk16.wr W17)
  obtain ⟨T20, h20, X20, e20, W20, st20⟩ := putF X17 hx hZ hown (host := "") (Or.inl (hw _ (List.mem_of_getElem? (i := 62) rfl))) Via.refl e17 fk18 fk19 (Or.inr ⟨(hw _ (List.mem_of_getElem? (i := 63) rfl)), rfl, hnm⟩) (hw _ (List.mem_of_getElem? (i := 10) rfl)) (ty := (.object "java/lang/String")) (by decide) rfl rfl (g := (mkF m 41 #[vR a1, vR a2, vJ q3, .second, .val .null, vR a5, vJ q6, .second, vI p7, vR a8, .val .null, vR a10, vJ q11, .second] [iR a8, iR a1])) rfl rfl (hb hby d8_41)
  have Fw20 := fk18.same W20
  have K20 : Keep h0 h20 [a1] := K17.wr W20 (Or.inl (List.mem_of_getElem? (i := 0) rfl))
  have N20 := Fr.snoc X20 N17 g_a1
  have fk21 := (((((((F_code.other W2 (Or.inr (slot_ne (Or.inr (hw _ (List.mem_of_getElem? (i := 65) rfl))) (Or.inr (hw _ (List.mem_of_getElem? (i := 51) rfl))) (by decide) (t := (.object "com/example/threefold/threefold/protocol/ActivationCode")) (t' := (.object "java/lang/String")) (by decide) (by decide)))).other W5 (Or.inr (slot_ne (Or.inr (hw _ (List.mem_of_getElem? (i := 65) rfl))) (Or.inr (hw _ (List.mem_of_getElem? (i := 53) rfl))) (by decide) (t := (.object "com/example/threefold/threefold/protocol/ActivationCode")) (t' := .long) (by decide) (by decide)))).other W8 (Or.inr (slot_ne (Or.inr (hw _ (List.mem_of_getElem? (i := 65) rfl))) (Or.inr (hw _ (List.mem_of_getElem? (i := 55) rfl))) (by decide) (t := (.object "com/example/threefold/threefold/protocol/ActivationCode")) (t' := (.object "java/lang/String")) (by decide) (by decide)))).other W11 (Or.inr (slot_ne (Or.inr (hw _ (List.mem_of_getElem? (i := 65) rfl))) (Or.inr (hw _ (List.mem_of_getElem? (i := 57) rfl))) (by decide) (t := (.object "com/example/threefold/threefold/protocol/ActivationCode")) (t' := (.object "com/example/threefold/threefold/protocol/ActivationStatus")) (by decide) (by decide)))).other W14 (Or.inr (slot_ne (Or.inr (hw _ (List.mem_of_getElem? (i := 65) rfl))) (Or.inr (hw _ (List.mem_of_getElem? (i := 59) rfl))) (by decide) (t := (.object "com/example/threefold/threefold/protocol/ActivationCode")) (t' := .long) (by decide) (by decide)))).other W17 (Or.inr (slot_ne (Or.inr (hw _ (List.mem_of_getElem? (i := 65) rfl))) (Or.inr (hw _ (List.mem_of_getElem? (i := 61) rfl))) (by decide) (t := (.object "com/example/threefold/threefold/protocol/ActivationCode")) (t' := .int) (by decide) (by decide)))).other W20 (Or.inr (slot_ne (Or.inr (hw _ (List.mem_of_getElem? (i := 65) rfl))) (Or.inr (hw _ (List.mem_of_getElem? (i := 63) rfl))) (by decide) (t := (.object "com/example/threefold/threefold/protocol/ActivationCode")) (t' := (.object "java/lang/String")) (by decide) (by decide))))
  have fk22 := (fk19.wr W20)
  obtain ⟨T23, h23, X23, e23, W23, st23⟩ := putF X20 hx hZ hown (host := "") (Or.inl (hw _ (List.mem_of_getElem? (i := 64) rfl))) Via.refl e20 fk21 fk22 (Or.inr ⟨(hw _ (List.mem_of_getElem? (i := 65) rfl)), rfl, hnm⟩) (hw _ (List.mem_of_getElem? (i := 10) rfl)) (ty := (.object "com/example/threefold/threefold/protocol/ActivationCode")) (by decide) rfl rfl (g := (mkF m 47 #[vR a1, vR a2, vJ q3, .second, .val .null, vR a5, vJ q6, .second, vI p7, vR a8, .val .null, vR a10, vJ q11, .second] [.null, iR a1])) rfl rfl (hb hby d8_47)
  have Fw23 := fk21.same W23
  have K23 : Keep h0 h23 [a1] := K20.wr W23 (Or.inl (List.mem_of_getElem? (i := 0) rfl))
  have N23 := Fr.snoc X23 N20 g_a1
  have fk24 := ((((((((F_device.other W2 (Or.inr (slot_ne (Or.inr (hw _ (List.mem_of_getElem? (i := 67) rfl))) (Or.inr (hw _ (List.mem_of_getElem? (i := 51) rfl))) (by decide) (t := (.object "com/example/threefold/threefold/store/Device")) (t' := (.object "java/lang/String")) (by decide) (by decide)))).other W5 (Or.inr (slot_ne (Or.inr (hw _ (List.mem_of_getElem? (i := 67) rfl))) (Or.inr (hw _ (List.mem_of_getElem? (i := 53) rfl))) (by decide) (t := (.object "com/example/threefold/threefold/store/Device")) (t' := .long) (by decide) (by decide)))).other W8 (Or.inr (slot_ne (Or.inr (hw _ (List.mem_of_getElem? (i := 67) rfl))) (Or.inr (hw _ (List.mem_of_getElem? (i := 55) rfl))) (by decide) (t := (.object "com/example/threefold/threefold/store/Device")) (t' := (.object "java/lang/String")) (by decide) (by decide)))).other W11 (Or.inr (slot_ne (Or.inr (hw _ (List.mem_of_getElem? (i := 67) rfl))) (Or.inr (hw _ (List.mem_of_getElem? (i := 57) rfl))) (by decide) (t := (.object "com/example/threefold/threefold/store/Device")) (t' := (.object "com/example/threefold/threefold/protocol/ActivationStatus")) (by decide) (by decide)))).other W14 (Or.inr (slot_ne (Or.inr (hw _ (List.mem_of_getElem? (i := 67) rfl))) (Or.inr (hw _ (List.mem_of_getElem? (i := 59) rfl))) (by decide) (t := (.object "com/example/threefold/threefold/store/Device")) (t' := .long) (by decide) (by decide)))).other W17 (Or.inr (slot_ne (Or.inr (hw _ (List.mem_of_getElem? (i := 67) rfl))) (Or.inr (hw _ (List.mem_of_getElem? (i := 61) rfl))) (by decide) (t := (.object "com/example/threefold/threefold/store/Device")) (t' := .int) (by decide) (by decide)))).other W20 (Or.inr (slot_ne (Or.inr (hw _ (List.mem_of_getElem? (i := 67) rfl))) (Or.inr (hw _ (List.mem_of_getElem? (i := 63) rfl))) (by decide) (t := (.object "com/example/threefold/threefold/store/Device")) (t' := (.object "java/lang/String")) (by decide) (by decide)))).other W23 (Or.inr (slot_ne (Or.inr (hw _ (List.mem_of_getElem? (i := 67) rfl))) (Or.inr (hw _ (List.mem_of_getElem? (i := 65) rfl))) (by decide) (t := (.object "com/example/threefold/threefold/store/Device")) (t' := (.object "com/example/threefold/threefold/protocol/ActivationCode")) (by decide) (by decide))))
  have fk25 := (fk22.wr W23)
  obtain ⟨T26, h26, X26, e26, W26, st26⟩ := putF X23 hx hZ hown (host := "") (Or.inl (hw _ (List.mem_of_getElem? (i := 66) rfl))) Via.refl e23 fk24 fk25 (Or.inr ⟨(hw _ (List.mem_of_getElem? (i := 67) rfl)), rfl, hnm⟩) (hw _ (List.mem_of_getElem? (i := 10) rfl)) (ty := (.object "com/example/threefold/threefold/store/Device")) (by decide) rfl rfl (g := (mkF m 53 #[vR a1, vR a2, vJ q3, .second, .val .null, vR a5, vJ q6, .second, vI p7, vR a8, .val .null, vR a10, vJ q11, .second] [iR a10, iR a1])) rfl rfl (hb hby d8_53)
  have Fw26 := fk24.same W26
  have K26 : Keep h0 h26 [a1] := K23.wr W26 (Or.inl (List.mem_of_getElem? (i := 0) rfl))
  have N26 := Fr.snoc X26 N23 g_a1
  have fk27 := (((((((((F_createdAt.other W2 (Or.inr (slot_ne (Or.inr (hw _ (List.mem_of_getElem? (i := 69) rfl))) (Or.inr (hw _ (List.mem_of_getElem? (i := 51) rfl))) (by decide) (t := .long) (t' := (.object "java/lang/String")) (by decide) (by decide)))).other W5 (Or.inr (slot_ne (Or.inr (hw _ (List.mem_of_getElem? (i := 69) rfl))) (Or.inr (hw _ (List.mem_of_getElem? (i := 53) rfl))) (by decide) (t := .long) (t' := .long) (by decide) (by decide)))).other W8 (Or.inr (slot_ne (Or.inr (hw _ (List.mem_of_getElem? (i := 69) rfl))) (Or.inr (hw _ (List.mem_of_getElem? (i := 55) rfl))) (by decide) (t := .long) (t' := (.object "java/lang/String")) (by decide) (by decide)))).other W11 (Or.inr (slot_ne (Or.inr (hw _ (List.mem_of_getElem? (i := 69) rfl))) (Or.inr (hw _ (List.mem_of_getElem? (i := 57) rfl))) (by decide) (t := .long) (t' := (.object "com/example/threefold/threefold/protocol/ActivationStatus")) (by decide) (by decide)))).other W14 (Or.inr (slot_ne (Or.inr (hw _ (List.mem_of_getElem? (i := 69) rfl))) (Or.inr (hw _ (List.mem_of_getElem? (i := 59) rfl))) (by decide) (t := .long) (t' := .long) (by decide) (by decide)))).other W17 (Or.inr (slot_ne (Or.inr (hw _ (List.mem_of_getElem? (i := 69) rfl))) (Or.inr (hw _ (List.mem_of_getElem? (i := 61) rfl))) (by decide) (t := .long) (t' := .int) (by decide) (by decide)))).other W20 (Or.inr (slot_ne (Or.inr (hw _ (List.mem_of_getElem? (i := 69) rfl))) (Or.inr (hw _ (List.mem_of_getElem? (i := 63) rfl))) (by decide) (t := .long) (t' := (.object "java/lang/String")) (by decide) (by decide)))).other W23 (Or.inr (slot_ne (Or.inr (hw _ (List.mem_of_getElem? (i := 69) rfl))) (Or.inr (hw _ (List.mem_of_getElem? (i := 65) rfl))) (by decide) (t := .long) (t' := (.object "com/example/threefold/threefold/protocol/ActivationCode")) (by decide) (by decide)))).other W26 (Or.inr (slot_ne (Or.inr (hw _ (List.mem_of_getElem? (i := 69) rfl))) (Or.inr (hw _ (List.mem_of_getElem? (i := 67) rfl))) (by decide) (t := .long) (t' := (.object "com/example/threefold/threefold/store/Device")) (by decide) (by decide))))
  have fk28 := (fk25.wr W26)
  obtain ⟨T29, h29, X29, e29, W29, st29⟩ := putF X26 hx hZ hown (host := "") (Or.inl (hw _ (List.mem_of_getElem? (i := 68) rfl))) Via.refl e26 fk27 fk28 (Or.inr ⟨(hw _ (List.mem_of_getElem? (i := 69) rfl)), rfl, hnm⟩) (hw _ (List.mem_of_getElem? (i := 10) rfl)) (ty := .long) (by decide) rfl rfl (g := (mkF m 59 #[vR a1, vR a2, vJ q3, .second, .val .null, vR a5, vJ q6, .second, vI p7, vR a8, .val .null, vR a10, vJ q11, .second] [iJ q11, iR a1])) rfl rfl (hb hby d8_59)
  have Fw29 := fk27.same W29
  have K29 : Keep h0 h29 [a1] := K26.wr W29 (Or.inl (List.mem_of_getElem? (i := 0) rfl))
  have N29 := Fr.snoc X29 N26 g_a1
  obtain ⟨fs, hr, hrun, hended, hW, hsame⟩ := X29.leave (v := none) (fun _ => rfl)
  have fk30 := (fk28.wr W29)
  have fk31 := (((((((((Fw2.other W5 (Or.inr (slot_ne (Or.inr (hw _ (List.mem_of_getElem? (i := 51) rfl))) (Or.inr (hw _ (List.mem_of_getElem? (i := 53) rfl))) (by decide) (t := (.object "java/lang/String")) (t' := .long) (by decide) (by decide)))).other W8 (Or.inr (slot_ne (Or.inr (hw _ (List.mem_of_getElem? (i := 51) rfl))) (Or.inr (hw _ (List.mem_of_getElem? (i := 55) rfl))) (by decide) (t := (.object "java/lang/String")) (t' := (.object "java/lang/String")) (by decide) (by decide)))).other W11 (Or.inr (slot_ne (Or.inr (hw _ (List.mem_of_getElem? (i := 51) rfl))) (Or.inr (hw _ (List.mem_of_getElem? (i := 57) rfl))) (by decide) (t := (.object "java/lang/String")) (t' := (.object "com/example/threefold/threefold/protocol/ActivationStatus")) (by decide) (by decide)))).other W14 (Or.inr (slot_ne (Or.inr (hw _ (List.mem_of_getElem? (i := 51) rfl))) (Or.inr (hw _ (List.mem_of_getElem? (i := 59) rfl))) (by decide) (t := (.object "java/lang/String")) (t' := .long) (by decide) (by decide)))).other W17 (Or.inr (slot_ne (Or.inr (hw _ (List.mem_of_getElem? (i := 51) rfl))) (Or.inr (hw _ (List.mem_of_getElem? (i := 61) rfl))) (by decide) (t := (.object "java/lang/String")) (t' := .int) (by decide) (by decide)))).other W20 (Or.inr (slot_ne (Or.inr (hw _ (List.mem_of_getElem? (i := 51) rfl))) (Or.inr (hw _ (List.mem_of_getElem? (i := 63) rfl))) (by decide) (t := (.object "java/lang/String")) (t' := (.object "java/lang/String")) (by decide) (by decide)))).other W23 (Or.inr (slot_ne (Or.inr (hw _ (List.mem_of_getElem? (i := 51) rfl))) (Or.inr (hw _ (List.mem_of_getElem? (i := 65) rfl))) (by decide) (t := (.object "java/lang/String")) (t' := (.object "com/example/threefold/threefold/protocol/ActivationCode")) (by decide) (by decide)))).other W26 (Or.inr (slot_ne (Or.inr (hw _ (List.mem_of_getElem? (i := 51) rfl))) (Or.inr (hw _ (List.mem_of_getElem? (i := 67) rfl))) (by decide) (t := (.object "java/lang/String")) (t' := (.object "com/example/threefold/threefold/store/Device")) (by decide) (by decide)))).other W29 (Or.inr (slot_ne (Or.inr (hw _ (List.mem_of_getElem? (i := 51) rfl))) (Or.inr (hw _ (List.mem_of_getElem? (i := 69) rfl))) (by decide) (t := (.object "java/lang/String")) (t' := .long) (by decide) (by decide))))
  have fk32 := ((((((((Fw5.other W8 (Or.inr (slot_ne (Or.inr (hw _ (List.mem_of_getElem? (i := 53) rfl))) (Or.inr (hw _ (List.mem_of_getElem? (i := 55) rfl))) (by decide) (t := .long) (t' := (.object "java/lang/String")) (by decide) (by decide)))).other W11 (Or.inr (slot_ne (Or.inr (hw _ (List.mem_of_getElem? (i := 53) rfl))) (Or.inr (hw _ (List.mem_of_getElem? (i := 57) rfl))) (by decide) (t := .long) (t' := (.object "com/example/threefold/threefold/protocol/ActivationStatus")) (by decide) (by decide)))).other W14 (Or.inr (slot_ne (Or.inr (hw _ (List.mem_of_getElem? (i := 53) rfl))) (Or.inr (hw _ (List.mem_of_getElem? (i := 59) rfl))) (by decide) (t := .long) (t' := .long) (by decide) (by decide)))).other W17 (Or.inr (slot_ne (Or.inr (hw _ (List.mem_of_getElem? (i := 53) rfl))) (Or.inr (hw _ (List.mem_of_getElem? (i := 61) rfl))) (by decide) (t := .long) (t' := .int) (by decide) (by decide)))).other W20 (Or.inr (slot_ne (Or.inr (hw _ (List.mem_of_getElem? (i := 53) rfl))) (Or.inr (hw _ (List.mem_of_getElem? (i := 63) rfl))) (by decide) (t := .long) (t' := (.object "java/lang/String")) (by decide) (by decide)))).other W23 (Or.inr (slot_ne (Or.inr (hw _ (List.mem_of_getElem? (i := 53) rfl))) (Or.inr (hw _ (List.mem_of_getElem? (i := 65) rfl))) (by decide) (t := .long) (t' := (.object "com/example/threefold/threefold/protocol/ActivationCode")) (by decide) (by decide)))).other W26 (Or.inr (slot_ne (Or.inr (hw _ (List.mem_of_getElem? (i := 53) rfl))) (Or.inr (hw _ (List.mem_of_getElem? (i := 67) rfl))) (by decide) (t := .long) (t' := (.object "com/example/threefold/threefold/store/Device")) (by decide) (by decide)))).other W29 (Or.inr (slot_ne (Or.inr (hw _ (List.mem_of_getElem? (i := 53) rfl))) (Or.inr (hw _ (List.mem_of_getElem? (i := 69) rfl))) (by decide) (t := .long) (t' := .long) (by decide) (by decide))))
  have fk33 := (((((((Fw8.other W11 (Or.inr (slot_ne (Or.inr (hw _ (List.mem_of_getElem? (i := 55) rfl))) (Or.inr (hw _ (List.mem_of_getElem? (i := 57) rfl))) (by decide) (t := (.object "java/lang/String")) (t' := (.object "com/example/threefold/threefold/protocol/ActivationStatus")) (by decide) (by decide)))).other W14 (Or.inr (slot_ne (Or.inr (hw _ (List.mem_of_getElem? (i := 55) rfl))) (Or.inr (hw _ (List.mem_of_getElem? (i := 59) rfl))) (by decide) (t := (.object "java/lang/String")) (t' := .long) (by decide) (by decide)))).other W17 (Or.inr (slot_ne (Or.inr (hw _ (List.mem_of_getElem? (i := 55) rfl))) (Or.inr (hw _ (List.mem_of_getElem? (i := 61) rfl))) (by decide) (t := (.object "java/lang/String")) (t' := .int) (by decide) (by decide)))).other W20 (Or.inr (slot_ne (Or.inr (hw _ (List.mem_of_getElem? (i := 55) rfl))) (Or.inr (hw _ (List.mem_of_getElem? (i := 63) rfl))) (by decide) (t := (.object "java/lang/String")) (t' := (.object "java/lang/String")) (by decide) (by decide)))).other W23 (Or.inr (slot_ne (Or.inr (hw _ (List.mem_of_getElem? (i := 55) rfl))) (Or.inr (hw _ (List.mem_of_getElem? (i := 65) rfl))) (by decide) (t := (.object "java/lang/String")) (t' := (.object "com/example/threefold/threefold/protocol/ActivationCode")) (by decide) (by decide)))).other W26 (Or.inr (slot_ne (Or.inr (hw _ (List.mem_of_getElem? (i := 55) rfl))) (Or.inr (hw _ (List.mem_of_getElem? (i := 67) rfl))) (by decide) (t := (.object "java/lang/String")) (t' := (.object "com/example/threefold/threefold/store/Device")) (by decide) (by decide)))).other W29 (Or.inr (slot_ne (Or.inr (hw _ (List.mem_of_getElem? (i := 55) rfl))) (Or.inr (hw _ (List.mem_of_getElem? (i := 69) rfl))) (by decide) (t := (.object "java/lang/String")) (t' := .long) (by decide) (by decide))))
  have fk34 := ((((((Fw11.other W14 (Or.inr (slot_ne (Or.inr (hw _ (List.mem_of_getElem? (i := 57) rfl))) (Or.inr (hw _ (List.mem_of_getElem? (i := 59) rfl))) (by decide) (t := (.object "com/example/threefold/threefold/protocol/ActivationStatus")) (t' := .long) (by decide) (by decide)))).other W17 (Or.inr (slot_ne (Or.inr (hw _ (List.mem_of_getElem? (i := 57) rfl))) (Or.inr (hw _ (List.mem_of_getElem? (i := 61) rfl))) (by decide) (t := (.object "com/example/threefold/threefold/protocol/ActivationStatus")) (t' := .int) (by decide) (by decide)))).other W20 (Or.inr (slot_ne (Or.inr (hw _ (List.mem_of_getElem? (i := 57) rfl))) (Or.inr (hw _ (List.mem_of_getElem? (i := 63) rfl))) (by decide) (t := (.object "com/example/threefold/threefold/protocol/ActivationStatus")) (t' := (.object "java/lang/String")) (by decide) (by decide)))).other W23 (Or.inr (slot_ne (Or.inr (hw _ (List.mem_of_getElem? (i := 57) rfl))) (Or.inr (hw _ (List.mem_of_getElem? (i := 65) rfl))) (by decide) (t := (.object "com/example/threefold/threefold/protocol/ActivationStatus")) (t' := (.object "com/example/threefold/threefold/protocol/ActivationCode")) (by decide) (by decide)))).other W26 (Or.inr (slot_ne (Or.inr (hw _ (List.mem_of_getElem? (i := 57) rfl))) (Or.inr (hw _ (List.mem_of_getElem? (i := 67) rfl))) (by decide) (t := (.object "com/example/threefold/threefold/protocol/ActivationStatus")) (t' := (.object "com/example/threefold/threefold/store/Device")) (by decide) (by decide)))).other W29 (Or.inr (slot_ne (Or.inr (hw _ (List.mem_of_getElem? (i := 57) rfl))) (Or.inr (hw _ (List.mem_of_getElem? (i := 69) rfl))) (by decide) (t := (.object "com/example/threefold/threefold/protocol/ActivationStatus")) (t' := .long) (by decide) (by decide))))
  have fk35 := (((((Fw14.other W17 (Or.inr (slot_ne (Or.inr (hw _ (List.mem_of_getElem? (i := 59) rfl))) (Or.inr (hw _ (List.mem_of_getElem? (i := 61) rfl))) (by decide) (t := .long) (t' := .int) (by decide) (by decide)))).other W20 (Or.inr (slot_ne (Or.inr (hw _ (List.mem_of_getElem? (i := 59) rfl))) (Or.inr (hw _ (List.mem_of_getElem? (i := 63) rfl))) (by decide) (t := .long) (t' := (.object "java/lang/String")) (by decide) (by decide)))).other W23 (Or.inr (slot_ne (Or.inr (hw _ (List.mem_of_getElem? (i := 59) rfl))) (Or.inr (hw _ (List.mem_of_getElem? (i := 65) rfl))) (by decide) (t := .long) (t' := (.object "com/example/threefold/threefold/protocol/ActivationCode")) (by decide) (by decide)))).other W26 (Or.inr (slot_ne (Or.inr (hw _ (List.mem_of_getElem? (i := 59) rfl))) (Or.inr (hw _ (List.mem_of_getElem? (i := 67) rfl))) (by decide) (t := .long) (t' := (.object "com/example/threefold/threefold/store/Device")) (by decide) (by decide)))).other W29 (Or.inr (slot_ne (Or.inr (hw _ (List.mem_of_getElem? (i := 59) rfl))) (Or.inr (hw _ (List.mem_of_getElem? (i := 69) rfl))) (by decide) (t := .long) (t' := .long) (by decide) (by decide))))
  have fk36 := ((((Fw17.other W20 (Or.inr (slot_ne (Or.inr (hw _ (List.mem_of_getElem? (i := 61) rfl))) (Or.inr (hw _ (List.mem_of_getElem? (i := 63) rfl))) (by decide) (t := .int) (t' := (.object "java/lang/String")) (by decide) (by decide)))).other W23 (Or.inr (slot_ne (Or.inr (hw _ (List.mem_of_getElem? (i := 61) rfl))) (Or.inr (hw _ (List.mem_of_getElem? (i := 65) rfl))) (by decide) (t := .int) (t' := (.object "com/example/threefold/threefold/protocol/ActivationCode")) (by decide) (by decide)))).other W26 (Or.inr (slot_ne (Or.inr (hw _ (List.mem_of_getElem? (i := 61) rfl))) (Or.inr (hw _ (List.mem_of_getElem? (i := 67) rfl))) (by decide) (t := .int) (t' := (.object "com/example/threefold/threefold/store/Device")) (by decide) (by decide)))).other W29 (Or.inr (slot_ne (Or.inr (hw _ (List.mem_of_getElem? (i := 61) rfl))) (Or.inr (hw _ (List.mem_of_getElem? (i := 69) rfl))) (by decide) (t := .int) (t' := .long) (by decide) (by decide))))
  have fk37 := (((Fw20.other W23 (Or.inr (slot_ne (Or.inr (hw _ (List.mem_of_getElem? (i := 63) rfl))) (Or.inr (hw _ (List.mem_of_getElem? (i := 65) rfl))) (by decide) (t := (.object "java/lang/String")) (t' := (.object "com/example/threefold/threefold/protocol/ActivationCode")) (by decide) (by decide)))).other W26 (Or.inr (slot_ne (Or.inr (hw _ (List.mem_of_getElem? (i := 63) rfl))) (Or.inr (hw _ (List.mem_of_getElem? (i := 67) rfl))) (by decide) (t := (.object "java/lang/String")) (t' := (.object "com/example/threefold/threefold/store/Device")) (by decide) (by decide)))).other W29 (Or.inr (slot_ne (Or.inr (hw _ (List.mem_of_getElem? (i := 63) rfl))) (Or.inr (hw _ (List.mem_of_getElem? (i := 69) rfl))) (by decide) (t := (.object "java/lang/String")) (t' := .long) (by decide) (by decide))))
  have fk38 := ((Fw23.other W26 (Or.inr (slot_ne (Or.inr (hw _ (List.mem_of_getElem? (i := 65) rfl))) (Or.inr (hw _ (List.mem_of_getElem? (i := 67) rfl))) (by decide) (t := (.object "com/example/threefold/threefold/protocol/ActivationCode")) (t' := (.object "com/example/threefold/threefold/store/Device")) (by decide) (by decide)))).other W29 (Or.inr (slot_ne (Or.inr (hw _ (List.mem_of_getElem? (i := 65) rfl))) (Or.inr (hw _ (List.mem_of_getElem? (i := 69) rfl))) (by decide) (t := (.object "com/example/threefold/threefold/protocol/ActivationCode")) (t' := .long) (by decide) (by decide))))
  have fk39 := (Fw26.other W29 (Or.inr (slot_ne (Or.inr (hw _ (List.mem_of_getElem? (i := 67) rfl))) (Or.inr (hw _ (List.mem_of_getElem? (i := 69) rfl))) (by decide) (t := (.object "com/example/threefold/threefold/store/Device")) (t' := .long) (by decide) (by decide))))
  refine ⟨_, _, pre0 _ ?_, hrun, hended, _, _, rfl, ?_, ⟨_, rfl⟩, hW, hsame.mono (by decide) (by decide)⟩
  · show Steps _ _ _ (s₁.setTop (mkF m 0 #[vR a1, vR a2, vJ q3, .second, .val .null, vR a5, vJ q6, .second, vI p7, vR a8, .val .null, vR a10, vJ q11, .second] [])) _
    refine XS.aloadN X0.here hx rfl (hb hby d8_0) rfl rfl ?_
    show Steps _ _ _ (s₁.setTop (mkF m 1 #[vR a1, vR a2, vJ q3, .second, .val .null, vR a5, vJ q6, .second, vI p7, vR a8, .val .null, vR a10, vJ q11, .second] [iR a1])) _
    refine st1.trans ?_
    show Steps _ _ _ (T1.setTop (mkF m 4 #[vR a1, vR a2, vJ q3, .second, .val .null, vR a5, vJ q6, .second, vI p7, vR a8, .val .null, vR a10, vJ q11, .second] [])) _
    refine XS.aloadN X1.here hx rfl (hb hby d8_4) rfl rfl ?_
    show Steps _ _ _ (T1.setTop (mkF m 5 #[vR a1, vR a2, vJ q3, .second, .val .null, vR a5, vJ q6, .second, vI p7, vR a8, .val .null, vR a10, vJ q11, .second] [iR a1])) _
    refine XS.aloadN X1.here hx rfl (hb hby d8_5) rfl rfl ?_
    show Steps _ _ _ (T1.setTop (mkF m 6 #[vR a1, vR a2, vJ q3, .second, .val .null, vR a5, vJ q6, .second, vI p7, vR a8, .val .null, vR a10, vJ q11, .second] [iR a2, iR a1])) _
    refine st2 _ ?_
    show Steps _ _ _ (T2.setTop (mkF m 9 #[vR a1, vR a2, vJ q3, .second, .val .null, vR a5, vJ q6, .second, vI p7, vR a8, .val .null, vR a10, vJ q11, .second] [])) _
    refine XS.aloadN X2.here hx rfl (hb hby d8_9) rfl rfl ?_
    show Steps _ _ _ (T2.setTop (mkF m 10 #[vR a1, vR a2, vJ q3, .second, .val .null, vR a5, vJ q6, .second, vI p7, vR a8, .val .null, vR a10, vJ q11, .second] [iR a1])) _
    refine XS.lloadN X2.here hx rfl (hb hby d8_10) rfl ?_
    show Steps _ _ _ (T2.setTop (mkF m 11 #[vR a1, vR a2, vJ q3, .second, .val .null, vR a5, vJ q6, .second, vI p7, vR a8, .val .null, vR a10, vJ q11, .second] [iJ q3, iR a1])) _
    refine st5 _ ?_
    show Steps _ _ _ (T5.setTop (mkF m 14 #[vR a1, vR a2, vJ q3, .second, .val .null, vR a5, vJ q6, .second, vI p7, vR a8, .val .null, vR a10, vJ q11, .second] [])) _
    refine XS.aloadN X5.here hx rfl (hb hby d8_14) rfl rfl ?_
    show Steps _ _ _ (T5.setTop (mkF m 15 #[vR a1, vR a2, vJ q3, .second, .val .null, vR a5, vJ q6, .second, vI p7, vR a8, .val .null, vR a10, vJ q11, .second] [iR a1])) _
    refine XS.aload X5.here hx rfl (hb hby d8_15) rfl rfl ?_
    show Steps _ _ _ (T5.setTop (mkF m 17 #[vR a1, vR a2, vJ q3, .second, .val .null, vR a5, vJ q6, .second, vI p7, vR a8, .val .null, vR a10, vJ q11, .second] [.null, iR a1])) _
    refine st8 _ ?_
    show Steps _ _ _ (T8.setTop (mkF m 20 #[vR a1, vR a2, vJ q3, .second, .val .null, vR a5, vJ q6, .second, vI p7, vR a8, .val .null, vR a10, vJ q11, .second] [])) _
    refine XS.aloadN X8.here hx rfl (hb hby d8_20) rfl rfl ?_
    show Steps _ _ _ (T8.setTop (mkF m 21 #[vR a1, vR a2, vJ q3, .second, .val .null, vR a5, vJ q6, .second, vI p7, vR a8, .val .null, vR a10, vJ q11, .second] [iR a1])) _
    refine XS.aload X8.here hx rfl (hb hby d8_21) rfl rfl ?_
    show Steps _ _ _ (T8.setTop (mkF m 23 #[vR a1, vR a2, vJ q3, .second, .val .null, vR a5, vJ q6, .second, vI p7, vR a8, .val .null, vR a10, vJ q11, .second] [iR a5, iR a1])) _
    refine st11 _ ?_
    show Steps _ _ _ (T11.setTop (mkF m 26 #[vR a1, vR a2, vJ q3, .second, .val .null, vR a5, vJ q6, .second, vI p7, vR a8, .val .null, vR a10, vJ q11, .second] [])) _
    refine XS.aloadN X11.here hx rfl (hb hby d8_26) rfl rfl ?_
    show Steps _ _ _ (T11.setTop (mkF m 27 #[vR a1, vR a2, vJ q3, .second, .val .null, vR a5, vJ q6, .second, vI p7, vR a8, .val .null, vR a10, vJ q11, .second] [iR a1])) _
    refine XS.lload X11.here hx rfl (hb hby d8_27) rfl ?_
    show Steps _ _ _ (T11.setTop (mkF m 29 #[vR a1, vR a2, vJ q3, .second, .val .null, vR a5, vJ q6, .second, vI p7, vR a8, .val .null, vR a10, vJ q11, .second] [iJ q6, iR a1])) _
    refine st14 _ ?_
    show Steps _ _ _ (T14.setTop (mkF m 32 #[vR a1, vR a2, vJ q3, .second, .val .null, vR a5, vJ q6, .second, vI p7, vR a8, .val .null, vR a10, vJ q11, .second] [])) _
    refine XS.aloadN X14.here hx rfl (hb hby d8_32) rfl rfl ?_
    show Steps _ _ _ (T14.setTop (mkF m 33 #[vR a1, vR a2, vJ q3, .second, .val .null, vR a5, vJ q6, .second, vI p7, vR a8, .val .null, vR a10, vJ q11, .second] [iR a1])) _
    refine XS.iload X14.here hx rfl (hb hby d8_33) rfl ?_
    show Steps _ _ _ (T14.setTop (mkF m 35 #[vR a1, vR a2, vJ q3, .second, .val .null, vR a5, vJ q6, .second, vI p7, vR a8, .val .null, vR a10, vJ q11, .second] [iI p7, iR a1])) _
    refine st17 _ ?_
    show Steps _ _ _ (T17.setTop (mkF m 38 #[vR a1, vR a2, vJ q3, .second, .val .null, vR a5, vJ q6, .second, vI p7, vR a8, .val .null, vR a10, vJ q11, .second] [])) _
    refine XS.aloadN X17.here hx rfl (hb hby d8_38) rfl rfl ?_
    show Steps _ _ _ (T17.setTop (mkF m 39 #[vR a1, vR a2, vJ q3, .second, .val .null, vR a5, vJ q6, .second, vI p7, vR a8, .val .null, vR a10, vJ q11, .second] [iR a1])) _
    refine XS.aload X17.here hx rfl (hb hby d8_39) rfl rfl ?_
    show Steps _ _ _ (T17.setTop (mkF m 41 #[vR a1, vR a2, vJ q3, .second, .val .null, vR a5, vJ q6, .second, vI p7, vR a8, .val .null, vR a10, vJ q11, .second] [iR a8, iR a1])) _
    refine st20 _ ?_
    show Steps _ _ _ (T20.setTop (mkF m 44 #[vR a1, vR a2, vJ q3, .second, .val .null, vR a5, vJ q6, .second, vI p7, vR a8, .val .null, vR a10, vJ q11, .second] [])) _
    refine XS.aloadN X20.here hx rfl (hb hby d8_44) rfl rfl ?_
    show Steps _ _ _ (T20.setTop (mkF m 45 #[vR a1, vR a2, vJ q3, .second, .val .null, vR a5, vJ q6, .second, vI p7, vR a8, .val .null, vR a10, vJ q11, .second] [iR a1])) _
    refine XS.aload X20.here hx rfl (hb hby d8_45) rfl rfl ?_
    show Steps _ _ _ (T20.setTop (mkF m 47 #[vR a1, vR a2, vJ q3, .second, .val .null, vR a5, vJ q6, .second, vI p7, vR a8, .val .null, vR a10, vJ q11, .second] [.null, iR a1])) _
    refine st23 _ ?_
    show Steps _ _ _ (T23.setTop (mkF m 50 #[vR a1, vR a2, vJ q3, .second, .val .null, vR a5, vJ q6, .second, vI p7, vR a8, .val .null, vR a10, vJ q11, .second] [])) _
    refine XS.aloadN X23.here hx rfl (hb hby d8_50) rfl rfl ?_
    show Steps _ _ _ (T23.setTop (mkF m 51 #[vR a1, vR a2, vJ q3, .second, .val .null, vR a5, vJ q6, .second, vI p7, vR a8, .val .null, vR a10, vJ q11, .second] [iR a1])) _
    refine XS.aload X23.here hx rfl (hb hby d8_51) rfl rfl ?_
    show Steps _ _ _ (T23.setTop (mkF m 53 #[vR a1, vR a2, vJ q3, .second, .val .null, vR a5, vJ q6, .second, vI p7, vR a8, .val .null, vR a10, vJ q11, .second] [iR a10, iR a1])) _
    refine st26 _ ?_
    show Steps _ _ _ (T26.setTop (mkF m 56 #[vR a1, vR a2, vJ q3, .second, .val .null, vR a5, vJ q6, .second, vI p7, vR a8, .val .null, vR a10, vJ q11, .second] [])) _
    refine XS.aloadN X26.here hx rfl (hb hby d8_56) rfl rfl ?_
    show Steps _ _ _ (T26.setTop (mkF m 57 #[vR a1, vR a2, vJ q3, .second, .val .null, vR a5, vJ q6, .second, vI p7, vR a8, .val .null, vR a10, vJ q11, .second] [iR a1])) _
    refine XS.lload X26.here hx rfl (hb hby d8_57) rfl ?_
    show Steps _ _ _ (T26.setTop (mkF m 59 #[vR a1, vR a2, vJ q3, .second, .val .null, vR a5, vJ q6, .second, vI p7, vR a8, .val .null, vR a10, vJ q11, .second] [iJ q11, iR a1])) _
    refine st29 _ ?_
    show Steps _ _ _ (T29.setTop (mkF m 62 #[vR a1, vR a2, vJ q3, .second, .val .null, vR a5, vJ q6, .second, vI p7, vR a8, .val .null, vR a10, vJ q11, .second] [])) _
    exact X29.returnOut hx Bd.returns (hb hby d8_62) hr
  · show Q8_rr Z a1 a2 q3 a5 q6 p7 a8 a10 q11 h0 n0 _ T29.heap _
    rw [e29]
    exact ⟨rfl, N29, K29, fk30, fk31, fk32, fk33, fk34, fk35, fk36, fk37, fk38, fk39, Fw29⟩
theorem d10_0 : decode prog_37_method_9_code 0 = .ok (.aload_n 0, 1) := by decide +kernel
theorem d10_1 : decode prog_37_method_9_code 1 = .ok (.getfield 38, 3) := by decide +kernel
theorem d10_4 : decode prog_37_method_9_code 4 = .ok (.ifnull 7, 3) := by decide +kernel
theorem d10_11 : decode prog_37_method_9_code 11 = .ok (.iconst 0, 1) := by decide +kernel
theorem d10_12 : decode prog_37_method_9_code 12 = .ok (.ireturn, 1) := by decide +kernel
theorem ef_10_n (m : MethodId) (x0 : Addr) : entryFrame m #[(.ref x0)] 1 = mkF m 0 #[.val (.ref x0)] [] := by first | (simp [entryFrame, mkF, argsToLocals, Value.category]; done) | rfl
def Q10_n (Z : State) (a1 : Addr) (h0 : Heap) (v : Option Value) (h : Heap) (L : List Loc) : Prop := v = some (.int (0 : Int32)) ∧ L = [] ∧ h = h0
set_option maxRecDepth 65536 in
set_option maxHeartbeats 40000000 in
theorem rm10_n (l : Launch) (Z : State) (a0 : Array Value) (hw : ∀ d ∈ tables_1, d.before a0 Z = true) (ws : List Jvm.Cond) (a1 : Addr) (h0 : Heap) (F_device : Fld Z h0 a1 "com/example/threefold/threefold/store/Activation" "device" "Lcom/example/threefold/threefold/store/Device;" .null) :
    MetFree l (⟨"com/example/threefold/threefold/store/Activation", "hasKeys", "()Z"⟩ : MethodName) (head1 (Jvm.Cond.code (⟨"com/example/threefold/threefold/store/Activation", "hasKeys", "()Z"⟩ : MethodName) prog_37_method_9_code 1 (some .boolean) :: ws) ({ frames := 0, cells := 0, slots := 0, locals := 0 } : Room)) (fun a U => a = #[(.ref a1)] ∧ Z.Warmed39 U.vm ∧ U.heap = h0) (fun _ _ _ _ _ => True) (fun _ U o U' => ∃ v L, o = .returned v ∧ Q10_n Z a1 h0 v U'.heap L ∧ FrameEnd U o U' L ({ frames := 0, cells := 0, slots := 0, locals := 0 } : Room).cells ({ frames := 0, cells := 0, slots := 0, locals := 0 } : Room).slots) := by
  refine MetFree.of_bodySF (plainFor_of_name pn_3) hisR ?_
  intro p e s m args below meth c s₁ Bd hml0 hP hK
  obtain ⟨rfl, hZ, hh⟩ := hP
  have hx := Bd.exec
  have hby := Bd.bytes
  have hml : c.maxLocals = 1 := hml0
  have hown : s.vm.findClass "com/example/threefold/threefold/store/Activation" = some m.cls := findClass_of_methodNamed Bd.named
  have hnm := (name_of_methodNamed Bd.named Bd.method).1
  have X0 : Stand p l e ({ frames := 0, cells := 0, slots := 0, locals := 0 } : Room) s m #[(.ref a1)] below meth c s₁ [] 0 0 := Stand.of_body Bd
  have e0 : s₁.heap = h0 := by rw [← hh, Bd.state]; rfl
  have pre0 : ∀ t, Steps p.tables e below (s₁.setTop (mkF m 0 #[.val (.ref a1)] [])) t → Steps p.tables e below (s₁.setTop (entryFrame m #[(.ref a1)] 1)) t := fun t k => castTop (ef_10_n m a1) k
  obtain ⟨T1, X1, e1, st1⟩ := getF X0 hx hZ hown (host := "") (Or.inl (hw _ (List.mem_of_getElem? (i := 66) rfl))) Via.refl e0 F_device (g := (mkF m 1 #[vR a1] [iR a1])) rfl rfl (hb hby d10_1)
  obtain ⟨fs, hr, hrun, hended, hW, hsame⟩ := X1.leave (v := some (.int (0 : Int32))) (fun h => by rw [Bd.returns] at h; cases h)
  refine ⟨_, _, pre0 _ ?_, hrun, hended, _, _, rfl, ?_, ⟨_, rfl⟩, hW, hsame.mono (by decide) (by decide)⟩
  · show Steps _ _ _ (s₁.setTop (mkF m 0 #[vR a1] [])) _
    refine XS.aloadN X0.here hx rfl (hb hby d10_0) rfl rfl ?_
    show Steps _ _ _ (s₁.setTop (mkF m 1 #[vR a1] [iR a1])) _
    refine st1 _ ?_
    show Steps _ _ _ (T1.setTop (mkF m 4 #[vR a1] [.null])) _
    refine XS.ifnullYes X1.here hx rfl (pc0 := 4) (pc' := 11) rfl (hb hby d10_4) rfl (by decide) (by decide) ?_
    show Steps _ _ _ (T1.setTop (mkF m 11 #[vR a1] [])) _
    refine XS.iconst X1.here hx rfl (hb hby d10_11) ?_
    show Steps _ _ _ (T1.setTop (mkF m 12 #[vR a1] [iI 0])) _
    exact retN X1 hx (t := .boolean) Bd.returns (by simp) (hb hby d10_12) hr
  · show Q10_n Z a1 h0 _ T1.heap _
    rw [e1]
    exact ⟨rfl, rfl, rfl⟩
theorem d11_0 : decode prog_37_method_2_code 0 = .ok (.new 8, 3) := by decide +kernel
theorem d11_3 : decode prog_37_method_2_code 3 = .ok (.dup, 1) := by decide +kernel
theorem d11_4 : decode prog_37_method_2_code 4 = .ok (.aload_n 0, 1) := by decide +kernel
theorem d11_5 : decode prog_37_method_2_code 5 = .ok (.getfield 7, 3) := by decide +kernel
theorem d11_8 : decode prog_37_method_2_code 8 = .ok (.aload_n 0, 1) := by decide +kernel
theorem d11_9 : decode prog_37_method_2_code 9 = .ok (.getfield 13, 3) := by decide +kernel
theorem d11_12 : decode prog_37_method_2_code 12 = .ok (.aload_n 0, 1) := by decide +kernel
theorem d11_13 : decode prog_37_method_2_code 13 = .ok (.getfield 17, 3) := by decide +kernel
theorem d11_16 : decode prog_37_method_2_code 16 = .ok (.aload_n 0, 1) := by decide +kernel
theorem d11_17 : decode prog_37_method_2_code 17 = .ok (.getfield 20, 3) := by decide +kernel
theorem d11_20 : decode prog_37_method_2_code 20 = .ok (.lload_n 1, 1) := by decide +kernel
theorem d11_21 : decode prog_37_method_2_code 21 = .ok (.iload_n 3, 1) := by decide +kernel
theorem d11_22 : decode prog_37_method_2_code 22 = .ok (.aload_n 0, 1) := by decide +kernel
theorem d11_23 : decode prog_37_method_2_code 23 = .ok (.getfield 31, 3) := by decide +kernel
theorem d11_26 : decode prog_37_method_2_code 26 = .ok (.aload_n 0, 1) := by decide +kernel
theorem d11_27 : decode prog_37_method_2_code 27 = .ok (.getfield 34, 3) := by decide +kernel
theorem d11_30 : decode prog_37_method_2_code 30 = .ok (.aload_n 0, 1) := by decide +kernel
theorem d11_31 : decode prog_37_method_2_code 31 = .ok (.getfield 38, 3) := by decide +kernel
theorem d11_34 : decode prog_37_method_2_code 34 = .ok (.aload_n 0, 1) := by decide +kernel
theorem d11_35 : decode prog_37_method_2_code 35 = .ok (.getfield 42, 3) := by decide +kernel
theorem d11_38 : decode prog_37_method_2_code 38 = .ok (.invokespecial 45, 3) := by decide +kernel
theorem d11_41 : decode prog_37_method_2_code 41 = .ok (.areturn, 1) := by decide +kernel
theorem ef_11_n (m : MethodId) (x0 : Addr) (x1 : Int64) (x2 : Int32) : entryFrame m #[(.ref x0), (.long x1), (.int x2)] 4 = mkF m 0 #[.val (.ref x0), .val (.long x1), .second, .val (.int x2)] [] := by first | (simp [entryFrame, mkF, argsToLocals, Value.category]; done) | rfl
def Q11_n (Z : State) (a1 : Addr) (q2 : Int64) (p3 : Int32) (fid fst : Addr) (fap fco fcr : Int64) (ffa : Int32) (h0 : Heap) (n0 : Nat) (v : Option Value) (h : Heap) (L : List Loc) : Prop := ∃ (o : Addr), v = some (.ref o) ∧ Fr n0 L ∧ Keep h0 h [] ∧ Exa Z h o "com/example/threefold/threefold/store/Activation" ∧ Fld Z h o "com/example/threefold/threefold/store/Activation" "device" "Lcom/example/threefold/threefold/store/Device;" .null
set_option maxRecDepth 65536 in
set_option maxHeartbeats 40000000 in
theorem rm11_n (l : Launch) (Z : State) (a0 : Array Value) (hw : ∀ d ∈ tables_1, d.before a0 Z = true) (ws : List Jvm.Cond) (a1 : Addr) (q2 : Int64) (p3 : Int32) (fid fst : Addr) (fap fco fcr : Int64) (ffa : Int32) (h0 : Heap) (n0 : Nat) (Z0 : n0 ≤ h0.size) (E_a1 : Exa Z h0 a1 "com/example/threefold/threefold/store/Activation") (F_activationId : Fld Z h0 a1 "com/example/threefold/threefold/store/Activation" "activationId" "Ljava/lang/String;" (.ref fid)) (F_applicationId : Fld Z h0 a1 "com/example/threefold/threefold/store/Activation" "applicationId" "J" (.long fap)) (F_userId : Fld Z h0 a1 "com/example/threefold/threefold/store/Activation" "userId" "Ljava/lang/String;" .null) (F_status : Fld Z h0 a1 "com/example/threefold/threefold/store/Activation" "status" "Lcom/example/threefold/threefold/protocol/ActivationStatus;" (.ref fst)) (F_counter : Fld Z h0 a1 "com/example/threefold/threefold/store/Activation" "counter" "J" (.long fco)) (F_failedAttempts : Fld Z h0 a1 "com/example/threefold/threefold/store/Activation" "failedAttempts" "I" (.int ffa)) (F_blockedReason : Fld Z h0 a1 "com/example/threefold/threefold/store/Activation" "blockedReason" "Ljava/lang/String;" .null) (F_code : Fld Z h0 a1 "com/example/threefold/threefold/store/Activation" "code" "Lcom/example/threefold/threefold/protocol/ActivationCode;" .null) (F_device : Fld Z h0 a1 "com/example/threefold/threefold/store/Activation" "device" "Lcom/example/threefold/threefold/store/Device;" .null) (F_createdAt : Fld Z h0 a1 "com/example/threefold/threefold/store/Activation" "createdAt" "J" (.long fcr)) :
    MetFree l (⟨"com/example/threefold/threefold/store/Activation", "withCounters", "(JI)Lcom/example/threefold/threefold/store/Activation;"⟩ : MethodName) (head1 (Jvm.Cond.code (⟨"com/example/threefold/threefold/store/Activation", "withCounters", "(JI)Lcom/example/threefold/threefold/store/Activation;"⟩ : MethodName) prog_37_method_2_code 4 (some (.object "com/example/threefold/threefold/store/Activation")) :: ws) ({ frames := 3, cells := 1, slots := 10, locals := 50 } : Room)) (fun a U => a = #[(.ref a1), (.long q2), (.int p3)] ∧ Z.Warmed39 U.vm ∧ U.heap = h0) (fun _ _ _ _ _ => True) (fun _ U o U' => ∃ v L, o = .returned v ∧ Q11_n Z a1 q2 p3 fid fst fap fco fcr ffa h0 n0 v U'.heap L ∧ FrameEnd U o U' L ({ frames := 3, cells := 1, slots := 10, locals := 50 } : Room).cells ({ frames := 3, cells := 1, slots := 10, locals := 50 } : Room).slots) := by
  refine MetFree.of_bodySF (plainFor_of_name pn_3) hisR ?_
  intro p e s m args below meth c s₁ Bd hml0 hP hK
  obtain ⟨rfl, hZ, hh⟩ := hP
  have hx := Bd.exec
  have hby := Bd.bytes
  have hml : c.maxLocals = 4 := hml0
  have hown : s.vm.findClass "com/example/threefold/threefold/store/Activation" = some m.cls := findClass_of_methodNamed Bd.named
  have hnm := (name_of_methodNamed Bd.named Bd.method).1
  have X0 : Stand p l e ({ frames := 3, cells := 1, slots := 10, locals := 50 } : Room) s m #[(.ref a1), (.long q2), (.int p3)] below meth c s₁ [] 0 0 := Stand.of_body Bd
  have e0 : s₁.heap = h0 := by rw [← hh, Bd.state]; rfl
  have N0 := Fr.nil n0
  have K0 := Keep.refl h0 []
  have pre0 : ∀ t, Steps p.tables e below (s₁.setTop (mkF m 0 #[.val (.ref a1), .val (.long q2), .second, .val (.int p3)] [])) t → Steps p.tables e below (s₁.setTop (entryFrame m #[(.ref a1), (.long q2), (.int p3)] 4)) t := fun t k => castTop (ef_11_n m a1 q2 p3) k
  obtain ⟨T1, h1, X1, e1, E1, A1, D1, -, st1⟩ := newO X0 hx hZ hown (hw _ (List.mem_of_getElem? (i := 80) rfl)) (hw _ (List.mem_of_getElem? (i := 10) rfl)) (hw _ (List.mem_of_getElem? (i := 11) rfl)) e0 (g := (mkF m 0 #[vR a1, vJ q2, .second, vI p3] [])) rfl (hb hby d11_0) (by decide) (by decide)
  obtain ⟨b1, g1⟩ : ∃ z, z = h0.size := ⟨_, rfl⟩
  rw [← g1] at A1 D1 st1
  have ne_a1_b1 : a1 ≠ b1 := Nat.ne_of_lt (Nat.lt_of_lt_of_le E_a1.lt (Nat.le_of_eq g1.symm))
  have sz_b1 : h0.size ≤ b1 := Nat.le_trans K0.1 (Nat.le_of_eq g1.symm)
  have g_b1 : n0 ≤ b1 := Nat.le_trans Z0 sz_b1
  have K1 : Keep h0 h1 [] := K0.ext E1
  have F_activationId_b1 : Fld Z h1 b1 "com/example/threefold/threefold/store/Activation" "activationId" "Ljava/lang/String;" .null := D1 (Or.inr (hw _ (List.mem_of_getElem? (i := 51) rfl))) (ty := (.object "java/lang/String")) (by decide)
  have F_applicationId_b1 : Fld Z h1 b1 "com/example/threefold/threefold/store/Activation" "applicationId" "J" (.long (0 : Int64)) := D1 (Or.inr (hw _ (List.mem_of_getElem? (i := 53) rfl))) (ty := .long) (by decide)
  have F_userId_b1 : Fld Z h1 b1 "com/example/threefold/threefold/store/Activation" "userId" "Ljava/lang/String;" .null := D1 (Or.inr (hw _ (List.mem_of_getElem? (i := 55) rfl))) (ty := (.object "java/lang/String")) (by decide)
  have F_status_b1 : Fld Z h1 b1 "com/example/threefold/threefold/store/Activation" "status" "Lcom/example/threefold/threefold/protocol/ActivationStatus;" .null := D1 (Or.inr (hw _ (List.mem_of_getElem? (i := 57) rfl))) (ty := (.object "com/example/threefold/threefold/protocol/ActivationStatus")) (by decide)
  have F_counter_b1 : Fld Z h1 b1 "com/example/threefold/threefold/store/Activation" "counter" "J" (.long (0 : Int64)) := D1 (Or.inr (hw _ (List.mem_of_getElem? (i := 59) rfl))) (ty := .long) (by decide)
  have F_failedAttempts_b1 : Fld Z h1 b1 "com/example/threefold/threefold/store/Activation" "failedAttempts" "I" (.int (0 : Int32)) := D1 (Or.inr (hw _ (List.mem_of_getElem? (i := 61) rfl))) (ty := .int) (by decide)
  have F_blockedReason_b1 : Fld Z h1 b1 "com/example/threefold/threefold/store/Activation" "blockedReason" "Ljava/lang/String;" .null := D1 (Or.inr (hw _ (List.mem_of_getElem? (i := 63) rfl))) (ty := (.object "java/lang/String")) (by decide)
  have F_code_b1 : Fld Z h1 b1 "com/example/threefold/threefold/store/Activation" "code" "Lcom/example/threefold/threefold/protocol/ActivationCode;" .null := D1 (Or.inr (hw _ (List.mem_of_getElem? (i := 65) rfl))) (ty := (.object "com/example/threefold/threefold/protocol/ActivationCode")) (by decide)
  have F_device_b1 : Fld Z h1 b1 "com/example/threefold/threefold/store/Activation" "device" "Lcom/example/threefold/threefold/store/Device;" .null := D1 (Or.inr (hw _ (List.mem_of_getElem? (i := 67) rfl))) (ty := (.object "com/example/threefold/threefold/store/Device")) (by decide)
  have F_createdAt_b1 : Fld Z h1 b1 "com/example/threefold/threefold/store/Activation" "createdAt" "J" (.long (0 : Int64)) := D1 (Or.inr (hw _ (List.mem_of_getElem? (i := 69) rfl))) (ty := .long) (by decide)
  have fk2 := (F_activationId.ext E1)
  obtain ⟨T3, X3, e3, st3⟩ := getF X1 hx hZ hown (host := "") (Or.inl (hw _ (List.mem_of_getElem? (i := 50) rfl))) Via.refl e1 fk2 (g := (mkF m 5 #[vR a1, vJ q2, .second, vI p3] [iR a1, iR b1, iR b1])) rfl rfl (hb hby d11_5)
  have fk4 := (F_applicationId.ext E1)
  obtain ⟨T5, X5, e5, st5⟩ := getF X3 hx hZ hown (host := "") (Or.inl (hw _ (List.mem_of_getElem? (i := 52) rfl))) Via.refl e3 fk4 (g := (mkF m 9 #[vR a1, vJ q2, .second, vI p3] [iR a1, iR fid, iR b1, iR b1])) rfl rfl (hb hby d11_9)
  have fk6 := (F_userId.ext E1)
  obtain ⟨T7, X7, e7, st7⟩ := getF X5 hx hZ hown (host := "") (Or.inl (hw _ (List.mem_of_getElem? (i := 54) rfl))) Via.refl e5 fk6 (g := (mkF m 13 #[vR a1, vJ q2, .second, vI p3] [iR a1, iJ fap, iR fid, iR b1, iR b1])) rfl rfl (hb hby d11_13)
  have fk8 := (F_status.ext E1)
  obtain ⟨T9, X9, e9, st9⟩ := getF X7 hx hZ hown (host := "") (Or.inl (hw _ (List.mem_of_getElem? (i := 56) rfl))) Via.refl e7 fk8 (g := (mkF m 17 #[vR a1, vJ q2, .second, vI p3] [iR a1, .null, iJ fap, iR fid, iR b1, iR b1])) rfl rfl (hb hby d11_17)
  have fk10 := (F_blockedReason.ext E1)
  obtain ⟨T11, X11, e11, st11⟩ := getF X9 hx hZ hown (host := "") (Or.inl (hw _ (List.mem_of_getElem? (i := 62) rfl))) Via.refl e9 fk10 (g := (mkF m 23 #[vR a1, vJ q2, .second, vI p3] [iR a1, iI p3, iJ q2, iR fst, .null, iJ fap, iR fid, iR b1, iR b1])) rfl rfl (hb hby d11_23)
  have fk12 := (F_code.ext E1)
  obtain ⟨T13, X13, e13, st13⟩ := getF X11 hx hZ hown (host := "") (Or.inl (hw _ (List.mem_of_getElem? (i := 64) rfl))) Via.refl e11 fk12 (g := (mkF m 27 #[vR a1, vJ q2, .second, vI p3] [iR a1, .null, iI p3, iJ q2, iR fst, .null, iJ fap, iR fid, iR b1, iR b1])) rfl rfl (hb hby d11_27)
  have fk14 := (F_device.ext E1)
  obtain ⟨T15, X15, e15, st15⟩ := getF X13 hx hZ hown (host := "") (Or.inl (hw _ (List.mem_of_getElem? (i := 66) rfl))) Via.refl e13 fk14 (g := (mkF m 31 #[vR a1, vJ q2, .second, vI p3] [iR a1, .null, .null, iI p3, iJ q2, iR fst, .null, iJ fap, iR fid, iR b1, iR b1])) rfl rfl (hb hby d11_31)
  have fk16 := (F_createdAt.ext E1)
  obtain ⟨T17, X17, e17, st17⟩ := getF X15 hx hZ hown (host := "") (Or.inl (hw _ (List.mem_of_getElem? (i := 68) rfl))) Via.refl e15 fk16 (g := (mkF m 35 #[vR a1, vJ q2, .second, vI p3] [iR a1, .null, .null, .null, iI p3, iJ q2, iR fst, .null, iJ fap, iR fid, iR b1, iR b1])) rfl rfl (hb hby d11_35)
  obtain ⟨_, _, ⟨T18, L18, k18, n18⟩, -, X18, ⟨Lc18, hQ18, l18, y18, z18⟩, st18⟩ := X17.specialBack hx (y := (⟨"com/example/threefold/threefold/store/Activation", "<init>", "(Ljava/lang/String;JLjava/lang/String;Lcom/example/threefold/threefold/protocol/ActivationStatus;JILjava/lang/String;Lcom/example/threefold/threefold/protocol/ActivationCode;Lcom/example/threefold/threefold/store/Device;J)V"⟩ : MethodName)) rfl hown (mvT hZ (hw _ (List.mem_of_getElem? (i := 81) rfl))) (mvT hZ (hw _ (List.mem_of_getElem? (i := 42) rfl))) (mvT hZ (hw _ (List.mem_of_getElem? (i := 43) rfl))) (by decide) (backOf (W := 1) (rm8_nn l Z a0 hw [] b1 fid fap fst q2 p3 fcr h1 n0 (Nat.le_trans Z0 K1.1) A1 g_b1 F_activationId_b1 F_applicationId_b1 F_userId_b1 F_status_b1 F_counter_b1 F_failedAttempts_b1 F_blockedReason_b1 F_code_b1 F_device_b1 F_createdAt_b1) hZ (hw _ (List.mem_of_getElem? (i := 43) rfl)) (hw _ (List.mem_of_getElem? (i := 11) rfl)) (by decide) (by decide)) (g := (mkF m 38 #[vR a1, vJ q2, .second, vI p3] [iJ fcr, .null, .null, .null, iI p3, iJ q2, iR fst, .null, iJ fap, iR fid, iR b1, iR b1])) rfl (by rw [hml]; rfl) (Steps.refl _) (a := b1) (argsL := [(.ref fid), (.long fap), .null, (.ref fst), (.long q2), (.int p3), .null, .null, .null, (.long fcr)]) (rest := [(.ref b1)]) (lenOf pd_1 rfl) rfl (by show 2 * 0 + _ ≤ _; exact Nat.le_of_eq rfl) (hb hby d11_38) (fun _ _ => ⟨rfl, e17, (by decide : 1 + 0 ≤ _), (by decide : 10 + 0 ≤ _)⟩)
  dsimp only [Pt.U, Pt.locs, Pt.cells, Pt.slots] at X18 l18 y18 z18 st18 hQ18
  subst l18 y18 z18
  obtain ⟨rfl, N18q, K18q, E18q, F18_activationId, F18_applicationId, F18_userId, F18_status, F18_counter, F18_failedAttempts, F18_blockedReason, F18_code, F18_device, F18_createdAt⟩ := hQ18
  have N18 := Fr.app N0 N18q
  have K18 : Keep h0 T18.heap [] := Keep.trans K1 K18q (allS (Or.inr sz_b1) all0)
  obtain ⟨fs, hr, hrun, hended, hW, hsame⟩ := X18.leave (v := some (.ref b1)) (fun h => by rw [Bd.returns] at h; cases h)
  refine ⟨_, _, pre0 _ ?_, hrun, hended, _, _, rfl, ?_, ⟨_, rfl⟩, hW, hsame.mono (by decide) (by decide)⟩
  · show Steps _ _ _ (s₁.setTop (mkF m 0 #[vR a1, vJ q2, .second, vI p3] [])) _
    refine st1 _ ?_
    show Steps _ _ _ (T1.setTop (mkF m 3 #[vR a1, vJ q2, .second, vI p3] [iR b1])) _
    refine XS.dup X1.here hx rfl (hb hby d11_3) rfl rfl ?_
    show Steps _ _ _ (T1.setTop (mkF m 4 #[vR a1, vJ q2, .second, vI p3] [iR b1, iR b1])) _
    refine XS.aloadN X1.here hx rfl (hb hby d11_4) rfl rfl ?_
    show Steps _ _ _ (T1.setTop (mkF m 5 #[vR a1, vJ q2, .second, vI p3] [iR a1, iR b1, iR b1])) _
    refine st3 _ ?_
    show Steps _ _ _ (T3.setTop (mkF m 8 #[vR a1, vJ q2, .second, vI p3] [iR fid, iR b1, iR b1])) _
    refine XS.aloadN X3.here hx rfl (hb hby d11_8) rfl rfl ?_
    show Steps _ _ _ (T3.setTop (mkF m 9 #[vR a1, vJ q2, .second, vI p3] [iR a1, iR fid, iR b1, iR b1])) _
    refine st5 _ ?_
    show Steps _ _ _ (T5.setTop (mkF m 12 #[vR a1, vJ q2, .second, vI p3] [iJ fap, iR fid, iR b1, iR b1])) _
    refine XS.aloadN X5.here hx rfl (hb hby d11_12) rfl rfl ?_
    show Steps _ _ _ (T5.setTop (mkF m 13 #[vR a1, vJ q2, .second, vI p3] [iR a1, iJ fap, iR fid, iR b1, iR b1])) _
    refine st7 _ ?_
    show Steps _ _ _ (T7.setTop (mkF m 16 #[vR a1, vJ q2, .second, vI p3] [.null, iJ fap, iR fid, iR b1, iR b1])) _
    refine XS.aloadN X7.here hx rfl (hb hby d11_16) rfl rfl ?_
    show Steps _ _ _ (T7.setTop (mkF m 17 #[vR a1, vJ q2, .second, vI p3] [iR a1, .null, iJ fap, iR fid, iR b1, iR b1])) _
    refine st9 _ ?_
    show Steps _ _ _ (T9.setTop (mkF m 20 #[vR a1, vJ q2, .second, vI p3] [iR fst, .null, iJ fap, iR fid, iR b1, iR b1])) _
    refine XS.lloadN X9.here hx rfl (hb hby d11_20) rfl ?_
    show Steps _ _ _ (T9.setTop (mkF m 21 #[vR a1, vJ q2, .second, vI p3] [iJ q2, iR fst, .null, iJ fap, iR fid, iR b1, iR b1])) _
    refine XS.iloadN X9.here hx rfl (hb hby d11_21) rfl ?_
    show Steps _ _ _ (T9.setTop (mkF m 22 #[vR a1, vJ q2, .second, vI p3] [iI p3, iJ q2, iR fst, .null, iJ fap, iR fid, iR b1, iR b1])) _
    refine XS.aloadN X9.here hx rfl (hb hby d11_22) rfl rfl ?_
    show Steps _ _ _ (T9.setTop (mkF m 23 #[vR a1, vJ q2, .second, vI p3] [iR a1, iI p3, iJ q2, iR fst, .null, iJ fap, iR fid, iR b1, iR b1])) _
    refine st11 _ ?_
    show Steps _ _ _ (T11.setTop (mkF m 26 #[vR a1, vJ q2, .second, vI p3] [.null, iI p3, iJ q2, iR fst, .null, iJ fap, iR fid, iR b1, iR b1])) _
    refine XS.aloadN X11.here hx rfl (hb hby d11_26) rfl rfl ?_
    show Steps _ _ _ (T11.setTop (mkF m 27 #[vR a1, vJ q2, .second, vI p3] [iR a1, .null, iI p3, iJ q2, iR fst, .null, iJ fap, iR fid, iR b1, iR b1])) _
    refine st13 _ ?_
    show Steps _ _ _ (T13.setTop (mkF m 30 #[vR a1, vJ q2, .second, vI p3] [.null, .null, iI p3, iJ q2, iR fst, .null, iJ fap, iR fid, iR b1, iR b1])) _
    refine XS.aloadN X13.here hx rfl (hb hby d11_30) rfl rfl ?_
    show Steps _ _ _ (T13.setTop (mkF m 31 #[vR a1, vJ q2, .second, vI p3] [iR a1, .null, .null, iI p3, iJ q2, iR fst, .null, iJ fap, iR fid, iR b1, iR b1])) _
    refine st15 _ ?_
    show Steps _ _ _ (T15.setTop (mkF m 34 #[vR a1, vJ q2, .second, vI p3] [.null, .null, .null, iI p3, iJ q2, iR fst, .null, iJ fap, iR fid, iR b1, iR b1])) _
    refine XS.aloadN X15.here hx rfl (hb hby d11_34) rfl rfl ?_
    show Steps _ _ _ (T15.setTop (mkF m 35 #[vR a1, vJ q2, .second, vI p3] [iR a1, .null, .null, .null, iI p3, iJ q2, iR fst, .null, iJ fap, iR fid, iR b1, iR b1])) _
    refine st17 _ ?_
    show Steps _ _ _ (T17.setTop (mkF m 38 #[vR a1, vJ q2, .second, vI p3] [iJ fcr, .null, .null, .null, iI p3, iJ q2, iR fst, .null, iJ fap, iR fid, iR b1, iR b1])) _
    refine st18.trans ?_
    show Steps _ _ _ (T18.setTop (mkF m 41 #[vR a1, vJ q2, .second, vI p3] [iR b1])) _
    jvm_step X18.here [X18.here.top, hx, (hb hby d11_41), X18.method', Bd.returns, Value.isRef, FieldType.isReference]
    first | (intro acts; rw [hr _ acts rfl rfl rfl]) | rw [hr _ _ rfl rfl rfl]
    exact Steps.refl _
  · show Q11_n Z a1 q2 p3 fid fst fap fco fcr ffa h0 n0 _ T18.heap _
    exact ⟨_, rfl, N18, K18, E18q, F18_device⟩
theorem d14_0 : decode prog_37_method_15_code 0 = .ok (.new 8, 3) := by decide +kernel
theorem d14_3 : decode prog_37_method_15_code 3 = .ok (.dup, 1) := by decide +kernel
theorem d14_4 : decode prog_37_method_15_code 4 = .ok (.aload_n 0, 1) := by decide +kernel
theorem d14_5 : decode prog_37_method_15_code 5 = .ok (.getfield 7, 3) := by decide +kernel
theorem d14_8 : decode prog_37_method_15_code 8 = .ok (.aload_n 0, 1) := by decide +kernel
theorem d14_9 : decode prog_37_method_15_code 9 = .ok (.getfield 13, 3) := by decide +kernel
theorem d14_12 : decode prog_37_method_15_code 12 = .ok (.aload_n 0, 1) := by decide +kernel
theorem d14_13 : decode prog_37_method_15_code 13 = .ok (.getfield 17, 3) := by decide +kernel
theorem d14_16 : decode prog_37_method_15_code 16 = .ok (.aload_n 1, 1) := by decide +kernel
theorem d14_17 : decode prog_37_method_15_code 17 = .ok (.aload_n 0, 1) := by decide +kernel
theorem d14_18 : decode prog_37_method_15_code 18 = .ok (.getfield 24, 3) := by decide +kernel
theorem d14_21 : decode prog_37_method_15_code 21 = .ok (.iload_n 2, 1) := by decide +kernel
theorem d14_22 : decode prog_37_method_15_code 22 = .ok (.aload_n 3, 1) := by decide +kernel
theorem d14_23 : decode prog_37_method_15_code 23 = .ok (.aload_n 0, 1) := by decide +kernel
theorem d14_24 : decode prog_37_method_15_code 24 = .ok (.getfield 34, 3) := by decide +kernel
theorem d14_27 : decode prog_37_method_15_code 27 = .ok (.aload_n 0, 1) := by decide +kernel
theorem d14_28 : decode prog_37_method_15_code 28 = .ok (.getfield 38, 3) := by decide +kernel
theorem d14_31 : decode prog_37_method_15_code 31 = .ok (.aload_n 0, 1) := by decide +kernel
theorem d14_32 : decode prog_37_method_15_code 32 = .ok (.getfield 42, 3) := by decide +kernel
theorem d14_35 : decode prog_37_method_15_code 35 = .ok (.invokespecial 45, 3) := by decide +kernel
theorem d14_38 : decode prog_37_method_15_code 38 = .ok (.areturn, 1) := by decide +kernel
theorem ef_14_nn (m : MethodId) (x0 : Addr) (x1 : Addr) (x2 : Int32) : entryFrame m #[(.ref x0), (.ref x1), (.int x2), .null] 4 = mkF m 0 #[.val (.ref x0), .val (.ref x1), .val (.int x2), .val .null] [] := by first | (simp [entryFrame, mkF, argsToLocals, Value.category]; done) | rfl
def Q14_nn (Z : State) (a1 : Addr) (a2 : Addr) (p3 : Int32) (fid fst : Addr) (fap fco fcr : Int64) (ffa : Int32) (h0 : Heap) (n0 : Nat) (v : Option Value) (h : Heap) (L : List Loc) : Prop := ∃ (o : Addr), v = some (.ref o) ∧ Fr n0 L ∧ Keep h0 h [] ∧ Exa Z h o "com/example/threefold/threefold/store/Activation" ∧ Fld Z h o "com/example/threefold/threefold/store/Activation" "device" "Lcom/example/threefold/threefold/store/Device;" .null
set_option maxRecDepth 65536 in
set_option maxHeartbeats 40000000 in
theorem rm14_nn (l : Launch) (Z : State) (a0 : Array Value) (hw : ∀ d ∈ tables_1, d.before a0 Z = true) (ws : List Jvm.Cond) (a1 : Addr) (a2 : Addr) (p3 : Int32) (fid fst : Addr) (fap fco fcr : Int64) (ffa : Int32) (h0 : Heap) (n0 : Nat) (Z0 : n0 ≤ h0.size) (E_a1 : Exa Z h0 a1 "com/example/threefold/threefold/store/Activation") (F_activationId : Fld Z h0 a1 "com/example/threefold/threefold/store/Activation" "activationId" "Ljava/lang/String;" (.ref fid)) (F_applicationId : Fld Z h0 a1 "com/example/threefold/threefold/store/Activation" "applicationId" "J" (.long fap)) (F_userId : Fld Z h0 a1 "com/example/threefold/threefold/store/Activation" "userId" "Ljava/lang/String;" .null) (F_status : Fld Z h0 a1 "com/example/threefold/threefold/store/Activation" "status" "Lcom/example/threefold/threefold/protocol/ActivationStatus;" (.ref fst)) (F_counter : Fld Z h0 a1 "com/example/threefold/threefold/store/Activation" "counter" "J" (.long fco)) (F_failedAttempts : Fld Z h0 a1 "com/example/threefold/threefold/store/Activation" "failedAttempts" "I" (.int ffa)) (F_blockedReason : Fld Z h0 a1 "com/example/threefold/threefold/store/Activation" "blockedReason" "Ljava/lang/String;" .null) (F_code : Fld Z h0 a1 "com/example/threefold/threefold/store/Activation" "code" "Lcom/example/threefold/threefold/protocol/ActivationCode;" .null) (F_device : Fld Z h0 a1 "com/example/threefold/threefold/store/Activation" "device" "Lcom/example/threefold/threefold/store/Device;" .null) (F_createdAt : Fld Z h0 a1 "com/example/threefold/threefold/store/Activation" "createdAt" "J" (.long fcr)) :
    MetFree l (⟨"com/example/threefold/threefold/store/Activation", "withState", "(Lcom/example/threefold/threefold/protocol/ActivationStatus;ILjava/lang/String;)Lcom/example/threefold/threefold/store/Activation;"⟩ : MethodName) (head1 (Jvm.Cond.code (⟨"com/example/threefold/threefold/store/Activation", "withState", "(Lcom/example/threefold/threefold/protocol/ActivationStatus;ILjava/lang/String;)Lcom/example/threefold/threefold/store/Activation;"⟩ : MethodName) prog_37_method_15_code 4 (some (.object "com/example/threefold/threefold/store/Activation")) :: ws) ({ frames := 3, cells := 1, slots := 10, locals := 50 } : Room)) (fun a U => a = #[(.ref a1), (.ref a2), (.int p3), .null] ∧ Z.Warmed39 U.vm ∧ U.heap = h0) (fun _ _ _ _ _ => True) (fun _ U o U' => ∃ v L, o = .returned v ∧ Q14_nn Z a1 a2 p3 fid fst fap fco fcr ffa h0 n0 v U'.heap L ∧ FrameEnd U o U' L ({ frames := 3, cells := 1, slots := 10, locals := 50 } : Room).cells ({ frames := 3, cells := 1, slots := 10, locals := 50 } : Room).slots) := by
  refine MetFree.of_bodySF (plainFor_of_name pn_3) hisR ?_
  intro p e s m args below meth c s₁ Bd hml0 hP hK
  obtain ⟨rfl, hZ, hh⟩ := hP
  have hx := Bd.exec
  have hby := Bd.bytes
  have hml : c.maxLocals = 4 := hml0
  have hown : s.vm.findClass "com/example/threefold/threefold/store/Activation" = some m.cls := findClass_of_methodNamed Bd.named
  have hnm := (name_of_methodNamed Bd.named Bd.method).1
  have X0 : Stand p l e ({ frames := 3, cells := 1, slots := 10, locals := 50 } : Room) s m #[(.ref a1), (.ref a2), (.int p3), .null] below meth c s₁ [] 0 0 := Stand.of_body Bd
  have e0 : s₁.heap = h0 := by rw [← hh, Bd.state]; rfl
  have N0 := Fr.nil n0
  have K0 := Keep.refl h0 []
  have pre0 : ∀ t, Steps p.tables e below (s₁.setTop (mkF m 0 #[.val (.ref a1), .val (.ref a2), .val (.int p3), .val .null] [])) t → Steps p.tables e below (s₁.setTop (entryFrame m #[(.ref a1), (.ref a2), (.int p3), .null] 4)) t := fun t k => castTop (ef_14_nn m a1 a2 p3) k
  obtain ⟨T1, h1, X1, e1, E1, A1, D1, -, st1⟩ := newO X0 hx hZ hown (hw _ (List.mem_of_getElem? (i := 80) rfl)) (hw _ (List.mem_of_getElem? (i := 10) rfl)) (hw _ (List.mem_of_getElem? (i := 11) rfl)) e0 (g := (mkF m 0 #[vR a1, vR a2, vI p3, .val .null] [])) rfl (hb hby d14_0) (by decide) (by decide)
  obtain ⟨b1, g1⟩ : ∃ z, z = h0.size := ⟨_, rfl⟩
  rw [← g1] at A1 D1 st1
  have ne_a1_b1 : a1 ≠ b1 := Nat.ne_of_lt (Nat.lt_of_lt_of_le E_a1.lt (Nat.le_of_eq g1.symm))
  have sz_b1 : h0.size ≤ b1 := Nat.le_trans K0.1 (Nat.le_of_eq g1.symm)
  have g_b1 : n0 ≤ b1 := Nat.le_trans Z0 sz_b1
  have K1 : Keep h0 h1 [] := K0.ext E1
  have F_activationId_b1 : Fld Z h1 b1 "com/example/threefold/threefold/store/Activation" "activationId" "Ljava/lang/String;" .null := D1 (Or.inr (hw _ (List.mem_of_getElem? (i := 51) rfl))) (ty := (.object "java/lang/String")) (by decide)
  have F_applicationId_b1 : Fld Z h1 b1 "com/example/threefold/threefold/store/Activation" "applicationId" "J" (.long (0 : Int64)) := D1 (Or.inr (hw _ (List.mem_of_getElem? (i := 53) rfl))) (ty := .long) (by decide)
  have F_userId_b1 : Fld Z h1 b1 "com/example/threefold/threefold/store/Activation" "userId" "Ljava/lang/String;" .null := D1 (Or.inr (hw _ (List.mem_of_getElem? (i := 55) rfl))) (ty := (.object "java/lang/String")) (by decide)
  have F_status_b1 : Fld Z h1 b1 "com/example/threefold/threefold/store/Activation" "status" "Lcom/example/threefold/threefold/protocol/ActivationStatus;" .null := D1 (Or.inr (hw _ (List.mem_of_getElem? (i := 57) rfl))) (ty := (.object "com/example/threefold/threefold/protocol/ActivationStatus")) (by decide)
  have F_counter_b1 : Fld Z h1 b1 "com/example/threefold/threefold/store/Activation" "counter" "J" (.long (0 : Int64)) := D1 (Or.inr (hw _ (List.mem_of_getElem? (i := 59) rfl))) (ty := .long) (by decide)
  have F_failedAttempts_b1 : Fld Z h1 b1 "com/example/threefold/threefold/store/Activation" "failedAttempts" "I" (.int (0 : Int32)) := D1 (Or.inr (hw _ (List.mem_of_getElem? (i := 61) rfl))) (ty := .int) (by decide)
  have F_blockedReason_b1 : Fld Z h1 b1 "com/example/threefold/threefold/store/Activation" "blockedReason" "Ljava/lang/String;" .null := D1 (Or.inr (hw _ (List.mem_of_getElem? (i := 63) rfl))) (ty := (.object "java/lang/String")) (by decide)
  have F_code_b1 : Fld Z h1 b1 "com/example/threefold/threefold/store/Activation" "code" "Lcom/example/threefold/threefold/protocol/ActivationCode;" .null := D1 (Or.inr (hw _ (List.mem_of_getElem? (i := 65) rfl))) (ty := (.object "com/example/threefold/threefold/protocol/ActivationCode")) (by decide)
  have F_device_b1 : Fld Z h1 b1 "com/example/threefold/threefold/store/Activation" "device" "Lcom/example/threefold/threefold/store/Device;" .null := D1 (Or.inr (hw _ (List.mem_of_getElem? (i := 67) rfl))) (ty := (.object "com/example/threefold/threefold/store/Device")) (by decide)
  have F_createdAt_b1 : Fld Z h1 b1 "com/example/threefold/threefold/store/Activation" "createdAt" "J" (.long (0 : Int64)) := D1 (Or.inr (hw _ (List.mem_of_getElem? (i := 69) rfl))) (ty := .long) (by decide)
  have fk2 := (F_activationId.ext E1)
  obtain ⟨T3, X3, e3, st3⟩ := getF X1 hx hZ hown (host := "") (Or.inl (hw _ (List.mem_of_getElem? (i := 50) rfl))) Via.refl e1 fk2 (g := (mkF m 5 #[vR a1, vR a2, vI p3, .val .null] [iR a1, iR b1, iR b1])) rfl rfl (hb hby d14_5)
  have fk4 := (F_applicationId.ext E1)
  obtain ⟨T5, X5, e5, st5⟩ := getF X3 hx hZ hown (host := "") (Or.inl (hw _ (List.mem_of_getElem? (i := 52) rfl))) Via.refl e3 fk4 (g := (mkF m 9 #[vR a1, vR a2, vI p3, .val .null] [iR a1, iR fid, iR b1, iR b1])) rfl rfl (hb hby d14_9)
  have fk6 := (F_userId.ext E1)
  obtain ⟨T7, X7, e7, st7⟩ := getF X5 hx hZ hown (host := "") (Or.inl (hw _ (List.mem_of_getElem? (i := 54) rfl))) Via.refl e5 fk6 (g := (mkF m 13 #[vR a1, vR a2, vI p3, .val .null] [iR a1, iJ fap, iR fid, iR b1, iR b1])) rfl rfl (hb hby d14_13)
  have fk8 := (F_counter.ext E1)
  obtain ⟨T9, X9, e9, st9⟩ := getF X7 hx hZ hown (host := "") (Or.inl (hw _ (List.mem_of_getElem? (i := 58) rfl))) Via.refl e7 fk8 (g := (mkF m 18 #[vR a1, vR a2, vI p3, .val .null] [iR a1, iR a2, .null, iJ fap, iR fid, iR b1, iR b1])) rfl rfl (hb hby d14_18)
  have fk10 := (F_code.ext E1)
  obtain ⟨T11, X11, e11, st11⟩ := getF X9 hx hZ hown (host := "") (Or.inl (hw _ (List.mem_of_getElem? (i := 64) rfl))) Via.refl e9 fk10 (g := (mkF m 24 #[vR a1, vR a2, vI p3, .val .null] [iR a1, .null, iI p3, iJ fco, iR a2, .null, iJ fap, iR fid, iR b1, iR b1])) rfl rfl (hb hby d14_24)
  have fk12 := (F_device.ext E1)
  obtain ⟨T13, X13, e13, st13⟩ := getF X11 hx hZ hown (host := "") (Or.inl (hw _ (List.mem_of_getElem? (i := 66) rfl))) Via.refl e11 fk12 (g := (mkF m 28 #[vR a1, vR a2, vI p3, .val .null] [iR a1, .null, .null, iI p3, iJ fco, iR a2, .null, iJ fap, iR fid, iR b1, iR b1])) rfl rfl (hb hby d14_28)
  have fk14 := (F_createdAt.ext E1)
  obtain ⟨T15, X15, e15, st15⟩ := getF X13 hx hZ hown (host := "") (Or.inl (hw _ (List.mem_of_getElem? (i := 68) rfl))) Via.refl e13 fk14 (g := (mkF m 32 #[vR a1, vR a2, vI p3, .val .null] [iR a1, .null, .null, .null, iI p3, iJ fco, iR a2, .null, iJ fap, iR fid, iR b1, iR b1])) rfl rfl (hb hby d14_32)
  obtain ⟨_, _, ⟨T16, L16, k16, n16⟩, -, X16, ⟨Lc16, hQ16, l16, y16, z16⟩, st16⟩ := X15.specialBack hx (y := (⟨"com/example/threefold/threefold/store/Activation", "<init>", "(Ljava/lang/String;JLjava/lang/String;Lcom/example/threefold/threefold/protocol/ActivationStatus;JILjava/lang/String;Lcom/example/threefold/threefold/protocol/ActivationCode;Lcom/example/threefold/threefold/store/Device;J)V"⟩ : MethodName)) rfl hown (mvT hZ (hw _ (List.mem_of_getElem? (i := 81) rfl))) (mvT hZ (hw _ (List.mem_of_getElem? (i := 42) rfl))) (mvT hZ (hw _ (List.mem_of_getElem? (i := 43) rfl))) (by decide) (backOf (W := 1) (rm8_nn l Z a0 hw [] b1 fid fap a2 fco p3 fcr h1 n0 (Nat.le_trans Z0 K1.1) A1 g_b1 F_activationId_b1 F_applicationId_b1 F_userId_b1 F_status_b1 F_counter_b1 F_failedAttempts_b1 F_blockedReason_b1 F_code_b1 F_device_b1 F_createdAt_b1) hZ (hw _ (List.mem_of_getElem? (i := 43) rfl)) (hw _ (List.mem_of_getElem? (i := 11) rfl)) (by decide) (by decide)) (g := (mkF m 35 #[vR a1, vR a2, vI p3, .val .null] [iJ fcr, .null, .null, .null, iI p3, iJ fco, iR a2, .null, iJ fap, iR fid, iR b1, iR b1])) rfl (by rw [hml]; rfl) (Steps.refl _) (a := b1) (argsL := [(.ref fid), (.long fap), .null, (.ref a2), (.long fco), (.int p3), .null, .null, .null, (.long fcr)]) (rest := [(.ref b1)]) (lenOf pd_1 rfl) rfl (by show 2 * 0 + _ ≤ _; exact Nat.le_of_eq rfl) (hb hby d14_35) (fun _ _ => ⟨rfl, e15, (by decide : 1 + 0 ≤ _), (by decide : 10 + 0 ≤ _)⟩)
  dsimp only [Pt.U, Pt.locs, Pt.cells, Pt.slots] at X16 l16 y16 z16 st16 hQ16
  subst l16 y16 z16
  obtain ⟨rfl, N16q, K16q, E16q, F16_activationId, F16_applicationId, F16_userId, F16_status, F16_counter, F16_failedAttempts, F16_blockedReason, F16_code, F16_device, F16_createdAt⟩ := hQ16
  have N16 := Fr.app N0 N16q
  have K16 : Keep h0 T16.heap [] := Keep.trans K1 K16q (allS (Or.inr sz_b1) all0)
  obtain ⟨fs, hr, hrun, hended, hW, hsame⟩ := X16.leave (v := some (.ref b1)) (fun h => by rw [Bd.returns] at h; cases h)
  refine ⟨_, _, pre0 _ ?_, hrun, hended, _, _, rfl, ?_, ⟨_, rfl⟩, hW, hsame.mono (by decide) (by decide)⟩
  · show Steps _ _ _ (s₁.setTop (mkF m 0 #[vR a1, vR a2, vI p3, .val .null] [])) _
    refine st1 _ ?_
    show Steps _ _ _ (T1.setTop (mkF m 3 #[vR a1, vR a2, vI p3, .val .null] [iR b1])) _
    refine XS.dup X1.here hx rfl (hb hby d14_3) rfl rfl ?_
    show Steps _ _ _ (T1.setTop (mkF m 4 #[vR a1, vR a2, vI p3, .val .null] [iR b1, iR b1])) _
    refine XS.aloadN X1.here hx rfl (hb hby d14_4) rfl rfl ?_
    show Steps _ _ _ (T1.setTop (mkF m 5 #[vR a1, vR a2, vI p3, .val .null] [iR a1, iR b1, iR b1])) _
    refine st3 _ ?_
    show Steps _ _ _ (T3.setTop (mkF m 8 #[vR a1, vR a2, vI p3, .val .null] [iR fid, iR b1, iR b1])) _
    refine XS.aloadN X3.here hx rfl (hb hby d14_8) rfl rfl ?_
    show Steps _ _ _ (T3.setTop (mkF m 9 #[vR a1, vR a2, vI p3, .val .null] [iR a1, iR fid, iR b1, iR b1])) _
    refine st5 _ ?_
    show Steps _ _ _ (T5.setTop (mkF m 12 #[vR a1, vR a2, vI p3, .val .null] [iJ fap, iR fid, iR b1, iR b1])) _
    refine XS.aloadN X5.here hx rfl (hb hby d14_12) rfl rfl ?_
    show Steps _ _ _ (T5.setTop (mkF m 13 #[vR a1, vR a2, vI p3, .val .null] [iR a1, iJ fap, iR fid, iR b1, iR b1])) _
    refine st7 _ ?_
    show Steps _ _ _ (T7.setTop (mkF m 16 #[vR a1, vR a2, vI p3, .val .null] [.null, iJ fap, iR fid, iR b1, iR b1])) _
    refine XS.aloadN X7.here hx rfl (hb hby d14_16) rfl rfl ?_
    show Steps _ _ _ (T7.setTop (mkF m 17 #[vR a1, vR a2, vI p3, .val .null] [iR a2, .null, iJ fap, iR fid, iR b1, iR b1])) _
    refine XS.aloadN X7.here hx rfl (hb hby d14_17) rfl rfl ?_
    show Steps _ _ _ (T7.setTop (mkF m 18 #[vR a1, vR a2, vI p3, .val .null] [iR a1, iR a2, .null, iJ fap, iR fid, iR b1, iR b1])) _
    refine st9 _ ?_
    show Steps _ _ _ (T9.setTop (mkF m 21 #[vR a1, vR a2, vI p3, .val .null] [iJ fco, iR a2, .null, iJ fap, iR fid, iR b1, iR b1])) _
    refine XS.iloadN X9.here hx rfl (hb hby d14_21) rfl ?_
    show Steps _ _ _ (T9.setTop (mkF m 22 #[vR a1, vR a2, vI p3, .val .null] [iI p3, iJ fco, iR a2, .null, iJ fap, iR fid, iR b1, iR b1])) _
    refine XS.aloadN X9.here hx rfl (hb hby d14_22) rfl rfl ?_
    show Steps _ _ _ (T9.setTop (mkF m 23 #[vR a1, vR a2, vI p3, .val .null] [.null, iI p3, iJ fco, iR a2, .null, iJ fap, iR fid, iR b1, iR b1])) _
    refine XS.aloadN X9.here hx rfl (hb hby d14_23) rfl rfl ?_
    show Steps _ _ _ (T9.setTop (mkF m 24 #[vR a1, vR a2, vI p3, .val .null] [iR a1, .null, iI p3, iJ fco, iR a2, .null, iJ fap, iR fid, iR b1, iR b1])) _
    refine st11 _ ?_
    show Steps _ _ _ (T11.setTop (mkF m 27 #[vR a1, vR a2, vI p3, .val .null] [.null, .null, iI p3, iJ fco, iR a2, .null, iJ fap, iR fid, iR b1, iR b1])) _
    refine XS.aloadN X11.here hx rfl (hb hby d14_27) rfl rfl ?_
    show Steps _ _ _ (T11.setTop (mkF m 28 #[vR a1, vR a2, vI p3, .val .null] [iR a1, .null, .null, iI p3, iJ fco, iR a2, .null, iJ fap, iR fid, iR b1, iR b1])) _
    refine st13 _ ?_
    show Steps _ _ _ (T13.setTop (mkF m 31 #[vR a1, vR a2, vI p3, .val .null] [.null, .null, .null, iI p3, iJ fco, iR a2, .null, iJ fap, iR fid, iR b1, iR b1])) _
    refine XS.aloadN X13.here hx rfl (hb hby d14_31) rfl rfl ?_
    show Steps _ _ _ (T13.setTop (mkF m 32 #[vR a1, vR a2, vI p3, .val .null] [iR a1, .null, .null, .null, iI p3, iJ fco, iR a2, .null, iJ fap, iR fid, iR b1, iR b1])) _
    refine st15 _ ?_
    show Steps _ _ _ (T15.setTop (mkF m 35 #[vR a1, vR a2, vI p3, .val .null] [iJ fcr, .null, .null, .null, iI p3, iJ fco, iR a2, .null, iJ fap, iR fid, iR b1, iR b1])) _
    refine st16.trans ?_
    show Steps _ _ _ (T16.setTop (mkF m 38 #[vR a1, vR a2, vI p3, .val .null] [iR b1])) _
    jvm_step X16.here [X16.here.top, hx, (hb hby d14_38), X16.method', Bd.returns, Value.isRef, FieldType.isReference]
    first | (intro acts; rw [hr _ acts rfl rfl rfl]) | rw [hr _ _ rfl rfl rfl]
    exact Steps.refl _
  · show Q14_nn Z a1 a2 p3 fid fst fap fco fcr ffa h0 n0 _ T16.heap _
    exact ⟨_, rfl, N16, K16, E16q, F16_device⟩
theorem ef_14_rn (m : MethodId) (x0 : Addr) (x1 : Addr) (x2 : Int32) (x3 : Addr) : entryFrame m #[(.ref x0), (.ref x1), (.int x2), (.ref x3)] 4 = mkF m 0 #[.val (.ref x0), .val (.ref x1), .val (.int x2), .val (.ref x3)] [] := by first | (simp [entryFrame, mkF, argsToLocals, Value.category]; done) | rfl
def Q14_rn (Z : State) (a1 : Addr) (a2 : Addr) (p3 : Int32) (a4 : Addr) (fid fst : Addr) (fap fco fcr : Int64) (ffa : Int32) (h0 : Heap) (n0 : Nat) (v : Option Value) (h : Heap) (L : List Loc) : Prop := ∃ (o : Addr), v = some (.ref o) ∧ Fr n0 L ∧ Keep h0 h [] ∧ Exa Z h o "com/example/threefold/threefold/store/Activation" ∧ Fld Z h o "com/example/threefold/threefold/store/Activation" "device" "Lcom/example/threefold/threefold/store/Device;" .null
set_option maxRecDepth 65536 in
set_option maxHeartbeats 40000000 in
theorem rm14_rn (l : Launch) (Z : State) (a0 : Array Value) (hw : ∀ d ∈ tables_1, d.before a0 Z = true) (ws : List Jvm.Cond) (a1 : Addr) (a2 : Addr) (p3 : Int32) (a4 : Addr) (fid fst : Addr) (fap fco fcr : Int64) (ffa : Int32) (h0 : Heap) (n0 : Nat) (Z0 : n0 ≤ h0.size) (E_a1 : Exa Z h0 a1 "com/example/threefold/threefold/store/Activation") (F_activationId : Fld Z h0 a1 "com/example/threefold/threefold/store/Activation" "activationId" "Ljava/lang/String;" (.ref fid)) (F_applicationId : Fld Z h0 a1 "com/example/threefold/threefold/store/Activation" "applicationId" "J" (.long fap)) (F_userId : Fld Z h0 a1 "com/example/threefold/threefold/store/Activation" "userId" "Ljava/lang/String;" .null) (F_status : Fld Z h0 a1 "com/example/threefold/threefold/store/Activation" "status" "Lcom/example/threefold/threefold/protocol/ActivationStatus;" (.ref fst)) (F_counter : Fld Z h0 a1 "com/example/threefold/threefold/store/Activation" "counter" "J" (.long fco)) (F_failedAttempts : Fld Z h0 a1 "com/example/threefold/threefold/store/Activation" "failedAttempts" "I" (.int ffa)) (F_blockedReason : Fld Z h0 a1 "com/example/threefold/threefold/store/Activation" "blockedReason" "Ljava/lang/String;" .null) (F_code : Fld Z h0 a1 "com/example/threefold/threefold/store/Activation" "code" "Lcom/example/threefold/threefold/protocol/ActivationCode;" .null) (F_device : Fld Z h0 a1 "com/example/threefold/threefold/store/Activation" "device" "Lcom/example/threefold/threefold/store/Device;" .null) (F_createdAt : Fld Z h0 a1 "com/example/threefold/threefold/store/Activation" "createdAt" "J" (.long fcr)) :
    MetFree l (⟨"com/example/threefold/threefold/store/Activation", "withState", "(Lcom/example/threefold/threefold/protocol/ActivationStatus;ILjava/lang/String;)Lcom/example/threefold/threefold/store/Activation;"⟩ : MethodName) (head1 (Jvm.Cond.code (⟨"com/example/threefold/threefold/store/Activation", "withState", "(Lcom/example/threefold/threefold/protocol/ActivationStatus;ILjava/lang/String;)Lcom/example/threefold/threefold/store/Activation;"⟩ : MethodName) prog_37_method_15_code 4 (some (.object "com/example/threefold/threefold/store/Activation")) :: ws) ({ frames := 3, cells := 1, slots := 10, locals := 50 } : Room)) (fun a U => a = #[(.ref a1), (.ref a2), (.int p3), (.ref a4)] ∧ Z.Warmed39 U.vm ∧ U.heap = h0) (fun _ _ _ _ _ => True) (fun _ U o U' => ∃ v L, o = .returned v ∧ Q14_rn Z a1 a2 p3 a4 fid fst fap fco fcr ffa h0 n0 v U'.heap L ∧ FrameEnd U o U' L ({ frames := 3, cells := 1, slots := 10, locals := 50 } : Room).cells ({ frames := 3, cells := 1, slots := 10, locals := 50 } : Room).slots) := by
  refine MetFree.of_bodySF (plainFor_of_name pn_3) hisR ?_
  intro p e s m args below meth c s₁ Bd hml0 hP hK
  obtain ⟨rfl, hZ, hh⟩ := hP
  have hx := Bd.exec
  have hby := Bd.bytes
  have hml : c.maxLocals = 4 := hml0
  have hown : s.vm.findClass "com/example/threefold/threefold/store/Activation" = some m.cls := findClass_of_methodNamed Bd.named
  have hnm := (name_of_methodNamed Bd.named Bd.method).1
  have X0 : Stand p l e ({ frames := 3, cells := 1, slots := 10, locals := 50 } : Room) s m #[(.ref a1), (.ref a2), (.int p3), (.ref a4)] below meth c s₁ [] 0 0 := Stand.of_body Bd
  have e0 : s₁.heap = h0 := by rw [← hh, Bd.state]; rfl
  have N0 := Fr.nil n0
  have K0 := Keep.refl h0 []
  have pre0 : ∀ t, Steps p.tables e below (s₁.setTop (mkF m 0 #[.val (.ref a1), .val (.ref a2), .val (.int p3), .val (.ref a4)] [])) t → Steps p.tables e below (s₁.setTop (entryFrame m #[(.ref a1), (.ref a2), (.int p3), (.ref a4)] 4)) t := fun t k => castTop (ef_14_rn m a1 a2 p3 a4) k
  obtain ⟨T1, h1, X1, e1, E1, A1, D1, -, st1⟩ := newO X0 hx hZ hown (hw _ (List.mem_of_getElem? (i := 80) rfl)) (hw _ (List.mem_of_getElem? (i := 10) rfl)) (hw _ (List.mem_of_getElem? (i := 11) rfl)) e0 (g := (mkF m 0 #[vR a1, vR a2, vI p3, vR a4] [])) rfl (hb hby d14_0) (by decide) (by decide)
  obtain ⟨b1, g1⟩ : ∃ z, z = h0.size := ⟨_, rfl⟩
  rw [← g1] at A1 D1 st1
  have ne_a1_b1 : a1 ≠ b1 := Nat.ne_of_lt (Nat.lt_of_lt_of_le E_a1.lt (Nat.le_of_eq g1.symm))
  have sz_b1 : h0.size ≤ b1 := Nat.le_trans K0.1 (Nat.le_of_eq g1.symm)
  have g_b1 : n0 ≤ b1 := Nat.le_trans Z0 sz_b1
  have K1 : Keep h0 h1 [] := K0.ext E1
  have F_activationId_b1 : Fld Z h1 b1 "com/example/threefold/threefold/store/Activation" "activationId" "Ljava/lang/String;" .null := D1 (Or.inr (hw _ (List.mem_of_getElem? (i := 51) rfl))) (ty := (.object "java/lang/String")) (by decide)
  have F_applicationId_b1 : Fld Z h1 b1 "com/example/threefold/threefold/store/Activation" "applicationId" "J" (.long (0 : Int64)) := D1 (Or.inr (hw _ (List.mem_of_getElem? (i := 53) rfl))) (ty := .long) (by decide)
  have F_userId_b1 : Fld Z h1 b1 "com/example/threefold/threefold/store/Activation" "userId" "Ljava/lang/String;" .null := D1 (Or.inr (hw _ (List.mem_of_getElem? (i := 55) rfl))) (ty := (.object "java/lang/String")) (by decide)
  have F_status_b1 : Fld Z h1 b1 "com/example/threefold/threefold/store/Activation" "status" "Lcom/example/threefold/threefold/protocol/ActivationStatus;" .null := D1 (Or.inr (hw _ (List.mem_of_getElem? (i := 57) rfl))) (ty := (.object "com/example/threefold/threefold/protocol/ActivationStatus")) (by decide)
  have F_counter_b1 : Fld Z h1 b1 "com/example/threefold/threefold/store/Activation" "counter" "J" (.long (0 : Int64)) := D1 (Or.inr (hw _ (List.mem_of_getElem? (i := 59) rfl))) (ty := .long) (by decide)
  have F_failedAttempts_b1 : Fld Z h1 b1 "com/example/threefold/threefold/store/Activation" "failedAttempts" "I" (.int (0 : Int32)) := D1 (Or.inr (hw _ (List.mem_of_getElem? (i := 61) rfl))) (ty := .int) (by decide)
  have F_blockedReason_b1 : Fld Z h1 b1 "com/example/threefold/threefold/store/Activation" "blockedReason" "Ljava/lang/String;" .null := D1 (Or.inr (hw _ (List.mem_of_getElem? (i := 63) rfl))) (ty := (.object "java/lang/String")) (by decide)
  have F_code_b1 : Fld Z h1 b1 "com/example/threefold/threefold/store/Activation" "code" "Lcom/example/threefold/threefold/protocol/ActivationCode;" .null := D1 (Or.inr (hw _ (List.mem_of_getElem? (i := 65) rfl))) (ty := (.object "com/example/threefold/threefold/protocol/ActivationCode")) (by decide)
  have F_device_b1 : Fld Z h1 b1 "com/example/threefold/threefold/store/Activation" "device" "Lcom/example/threefold/threefold/store/Device;" .null := D1 (Or.inr (hw _ (List.mem_of_getElem? (i := 67) rfl))) (ty := (.object "com/example/threefold/threefold/store/Device")) (by decide)
  have F_createdAt_b1 : Fld Z h1 b1 "com/example/threefold/threefold/store/Activation" "createdAt" "J" (.long (0 : Int64)) := D1 (Or.inr (hw _ (List.mem_of_getElem? (i := 69) rfl))) (ty := .long) (by decide)
  have fk2 := (F_activationId.ext E1)
  obtain ⟨T3, X3, e3, st3⟩ := getF X1 hx hZ hown (host := "") (Or.inl (hw _ (List.mem_of_getElem? (i := 50) rfl))) Via.refl e1 fk2 (g := (mkF m 5 #[vR a1, vR a2, vI p3, vR a4] [iR a1, iR b1, iR b1])) rfl rfl (hb hby d14_5)
  have fk4 := (F_applicationId.ext E1)
  obtain ⟨T5, X5, e5, st5⟩ := getF X3 hx hZ hown (host := "") (Or.inl (hw _ (List.mem_of_getElem? (i := 52) rfl))) Via.refl e3 fk4 (g := (mkF m 9 #[vR a1, vR a2, vI p3, vR a4] [iR a1, iR fid, iR b1, iR b1])) rfl rfl (hb hby d14_9)
  have fk6 := (F_userId.ext E1)
  obtain ⟨T7, X7, e7, st7⟩ := getF X5 hx hZ hown (host := "") (Or.inl (hw _ (List.mem_of_getElem? (i := 54) rfl))) Via.refl e5 fk6 (g := (mkF m 13 #[vR a1, vR a2, vI p3, vR a4] [iR a1, iJ fap, iR fid, iR b1, iR b1])) rfl rfl (hb hby d14_13)
  have fk8 := (F_counter.ext E1)
  obtain ⟨T9, X9, e9, st9⟩ := getF X7 hx hZ hown (host := "") (Or.inl (hw _ (List.mem_of_getElem? (i := 58) rfl))) Via.refl e7 fk8 (g := (mkF m 18 #[vR a1, vR a2, vI p3, vR a4] [iR a1, iR a2, .null, iJ fap, iR fid, iR b1, iR b1])) rfl rfl (hb hby d14_18)
  have fk10 := (F_code.ext E1)
  obtain ⟨T11, X11, e11, st11⟩ := getF X9 hx hZ hown (host := "") (Or.inl (hw _ (List.mem_of_getElem? (i := 64) rfl))) Via.refl e9 fk10 (g := (mkF m 24 #[vR a1, vR a2, vI p3, vR a4] [iR a1, iR a4, iI p3, iJ fco, iR a2, .null, iJ fap, iR fid, iR b1, iR b1])) rfl rfl (hb hby d14_24)
  have fk12 := (F_device.ext E1)
  obtain ⟨T13, X13, e13, st13⟩ := getF X11 hx hZ hown (host := "") (Or.inl (hw _ (List.mem_of_getElem? (i := 66) rfl))) Via.refl e11 fk12 (g := (mkF m 28 #[vR a1, vR a2, vI p3, vR a4] [iR a1, .null, iR a4, iI p3, iJ fco, iR a2, .null, iJ fap, iR fid, iR b1, iR b1])) rfl rfl (hb hby d14_28)
  have fk14 := (F_createdAt.ext E1)
  obtain ⟨T15, X15, e15, st15⟩ := getF X13 hx hZ hown (host := "") (Or.inl (hw _ (List.mem_of_getElem? (i := 68) rfl))) Via.refl e13 fk14 (g := (mkF m 32 #[vR a1, vR a2, vI p3, vR a4] [iR a1, .null, .null, iR a4, iI p3, iJ fco, iR a2, .null, iJ fap, iR fid, iR b1, iR b1])) rfl rfl (hb hby d14_32)
  obtain ⟨_, _, ⟨T16, L16, k16, n16⟩, -, X16, ⟨Lc16, hQ16, l16, y16, z16⟩, st16⟩ := X15.specialBack hx (y := (⟨"com/example/threefold/threefold/store/Activation", "<init>", "(Ljava/lang/String;JLjava/lang/String;Lcom/example/threefold/threefold/protocol/ActivationStatus;JILjava/lang/String;Lcom/example/threefold/threefold/protocol/ActivationCode;Lcom/example/threefold/threefold/store/Device;J)V"⟩ : MethodName)) rfl hown (mvT hZ (hw _ (List.mem_of_getElem? (i := 81) rfl))) (mvT hZ (hw _ (List.mem_of_getElem? (i := 42) rfl))) (mvT hZ (hw _ (List.mem_of_getElem? (i := 43) rfl))) (by decide) (backOf (W := 1) (rm8_rn l Z a0 hw [] b1 fid fap a2 fco p3 a4 fcr h1 n0 (Nat.le_trans Z0 K1.1) A1 g_b1 F_activationId_b1 F_applicationId_b1 F_userId_b1 F_status_b1 F_counter_b1 F_failedAttempts_b1 F_blockedReason_b1 F_code_b1 F_device_b1 F_createdAt_b1) hZ (hw _ (List.mem_of_getElem? (i := 43) rfl)) (hw _ (List.mem_of_getElem? (i := 11) rfl)) (by decide) (by decide)) (g := (mkF m 35 #[vR a1, vR a2, vI p3, vR a4] [iJ fcr, .null, .null, iR a4, iI p3, iJ fco, iR a2, .null, iJ fap, iR fid, iR b1, iR b1])) rfl (by rw [hml]; rfl) (Steps.refl _) (a := b1) (argsL := [(.ref fid), (.long fap), .null, (.ref a2), (.long fco), (.int p3), (.ref a4), .null, .null, (.long fcr)]) (rest := [(.ref b1)]) (lenOf pd_1 rfl) rfl (by show 2 * 0 + _ ≤ _; exact Nat.le_of_eq rfl) (hb hby d14_35) (fun _ _ => ⟨rfl, e15, (by decide : 1 + 0 ≤ _), (by decide : 10 + 0 ≤ _)⟩)
  dsimp only [Pt.U, Pt.locs, Pt.cells, Pt.slots] at X16 l16 y16 z16 st16 hQ16
  subst l16 y16 z16
  obtain ⟨rfl, N16q, K16q, E16q, F16_activationId, F16_applicationId, F16_userId, F16_status, F16_counter, F16_failedAttempts, F16_blockedReason, F16_code, F16_device, F16_createdAt⟩ := hQ16
  have N16 := Fr.app N0 N16q
  have K16 : Keep h0 T16.heap [] := Keep.trans K1 K16q (allS (Or.inr sz_b1) all0)
  obtain ⟨fs, hr, hrun, hended, hW, hsame⟩ := X16.leave (v := some (.ref b1)) (fun h => by rw [Bd.returns] at h; cases h)
  refine ⟨_, _, pre0 _ ?_, hrun, hended, _, _, rfl, ?_, ⟨_, rfl⟩, hW, hsame.mono (by decide) (by decide)⟩
  · show Steps _ _ _ (s₁.setTop (mkF m 0 #[vR a1, vR a2, vI p3, vR a4] [])) _
    refine st1 _ ?_
    show Steps _ _ _ (T1.setTop (mkF m 3 #[vR a1, vR a2, vI p3, vR a4] [iR b1])) _
    refine XS.dup X1.here hx rfl (hb hby d14_3) rfl rfl ?_
    show Steps _ _ _ (T1.setTop (mkF m 4 #[vR a1, vR a2, vI p3, vR a4] [iR b1, iR b1])) _
    refine XS.aloadN X1.here hx rfl (hb hby d14_4) rfl rfl ?_
    show Steps _ _ _ (T1.setTop (mkF m 5 #[vR a1, vR a2, vI p3, vR a4] [iR a1, iR b1, iR b1])) _
    refine st3 _ ?_
    show Steps _ _ _ (T3.setTop (mkF m 8 #[vR a1, vR a2, vI p3, vR a4] [iR fid, iR b1, iR b1])) _
    refine XS.aloadN X3.here hx rfl (hb hby d14_8) rfl rfl ?_
    show Steps _ _ _ (T3.setTop (mkF m 9 #[vR a1, vR a2, vI p3, vR a4] [iR a1, iR fid, iR b1, iR b1])) _
    refine st5 _ ?_
    show Steps _ _ _ (T5.setTop (mkF m 12 #[vR a1, vR a2, vI p3, vR a4] [iJ fap, iR fid, iR b1, iR b1])) _
    refine XS.aloadN X5.here hx rfl (hb hby d14_12) rfl rfl ?_
    show Steps _ _ _ (T5.setTop (mkF m 13 #[vR a1, vR a2, vI p3, vR a4] [iR a1, iJ fap, iR fid, iR b1, iR b1])) _
    refine st7 _ ?_
    show Steps _ _ _ (T7.setTop (mkF m 16 #[vR a1, vR a2, vI p3, vR a4] [.null, iJ fap, iR fid, iR b1, iR b1])) _
    refine XS.aloadN X7.here hx rfl (hb hby d14_16) rfl rfl ?_
    show Steps _ _ _ (T7.setTop (mkF m 17 #[vR a1, vR a2, vI p3, vR a4] [iR a2, .null, iJ fap, iR fid, iR b1, iR b1])) _
    refine XS.aloadN X7.here hx rfl (hb hby d14_17) rfl rfl ?_
    show Steps _ _ _ (T7.setTop (mkF m 18 #[vR a1, vR a2, vI p3, vR a4] [iR a1, iR a2, .null, iJ fap, iR fid, iR b1, iR b1])) _
    refine st9 _ ?_
    show Steps _ _ _ (T9.setTop (mkF m 21 #[vR a1, vR a2, vI p3, vR a4] [iJ fco, iR a2, .null, iJ fap, iR fid, iR b1, iR b1])) _
    refine XS.iloadN X9.here hx rfl (hb hby d14_21) rfl ?_
    show Steps _ _ _ (T9.setTop (mkF m 22 #[vR a1, vR a2, vI p3, vR a4] [iI p3, iJ fco, iR a2, .null, iJ fap, iR fid, iR b1, iR b1])) _
    refine XS.aloadN X9.here hx rfl (hb hby d14_22) rfl rfl ?_
    show Steps _ _ _ (T9.setTop (mkF m 23 #[vR a1, vR a2, vI p3, vR a4] [iR a4, iI p3, iJ fco, iR a2, .null, iJ fap, iR fid, iR b1, iR b1])) _
    refine XS.aloadN X9.here hx rfl (hb hby d14_23) rfl rfl ?_
    show Steps _ _ _ (T9.setTop (mkF m 24 #[vR a1, vR a2, vI p3, vR a4] [iR a1, iR a4, iI p3, iJ fco, iR a2, .null, iJ fap, iR fid, iR b1, iR b1])) _
    refine st11 _ ?_
    show Steps _ _ _ (T11.setTop (mkF m 27 #[vR a1, vR a2, vI p3, vR a4] [.null, iR a4, iI p3, iJ fco, iR a2, .null, iJ fap, iR fid, iR b1, iR b1])) _
    refine XS.aloadN X11.here hx rfl (hb hby d14_27) rfl rfl ?_
    show Steps _ _ _ (T11.setTop (mkF m 28 #[vR a1, vR a2, vI p3, vR a4] [iR a1, .null, iR a4, iI p3, iJ fco, iR a2, .null, iJ fap, iR fid, iR b1, iR b1])) _
    refine st13 _ ?_
    show Steps _ _ _ (T13.setTop (mkF m 31 #[vR a1, vR a2, vI p3, vR a4] [.null, .null, iR a4, iI p3, iJ fco, iR a2, .null, iJ fap, iR fid, iR b1, iR b1])) _
    refine XS.aloadN X13.here hx rfl (hb hby d14_31) rfl rfl ?_
    show Steps _ _ _ (T13.setTop (mkF m 32 #[vR a1, vR a2, vI p3, vR a4] [iR a1, .null, .null, iR a4, iI p3, iJ fco, iR a2, .null, iJ fap, iR fid, iR b1, iR b1])) _
    refine st15 _ ?_
    show Steps _ _ _ (T15.setTop (mkF m 35 #[vR a1, vR a2, vI p3, vR a4] [iJ fcr, .null, .null, iR a4, iI p3, iJ fco, iR a2, .null, iJ fap, iR fid, iR b1, iR b1])) _
    refine st16.trans ?_
    show Steps _ _ _ (T16.setTop (mkF m 38 #[vR a1, vR a2, vI p3, vR a4] [iR b1])) _
    jvm_step X16.here [X16.here.top, hx, (hb hby d14_38), X16.method', Bd.returns, Value.isRef, FieldType.isReference]
    first | (intro acts; rw [hr _ acts rfl rfl rfl]) | rw [hr _ _ rfl rfl rfl]
    exact Steps.refl _
  · show Q14_rn Z a1 a2 p3 a4 fid fst fap fco fcr ffa h0 n0 _ T16.heap _
    exact ⟨_, rfl, N16, K16, E16q, F16_device⟩
theorem d13_0 : decode prog_37_method_7_code 0 = .ok (.aload_n 0, 1) := by decide +kernel
theorem d13_1 : decode prog_37_method_7_code 1 = .ok (.getstatic 63, 3) := by decide +kernel
theorem d13_4 : decode prog_37_method_7_code 4 = .ok (.aload_n 0, 1) := by decide +kernel
theorem d13_5 : decode prog_37_method_7_code 5 = .ok (.getfield 27, 3) := by decide +kernel
theorem d13_8 : decode prog_37_method_7_code 8 = .ok (.aconst_null, 1) := by decide +kernel
theorem d13_9 : decode prog_37_method_7_code 9 = .ok (.invokevirtual 56, 3) := by decide +kernel
theorem d13_12 : decode prog_37_method_7_code 12 = .ok (.areturn, 1) := by decide +kernel
theorem ef_13_n (m : MethodId) (x0 : Addr) : entryFrame m #[(.ref x0)] 1 = mkF m 0 #[.val (.ref x0)] [] := by first | (simp [entryFrame, mkF, argsToLocals, Value.category]; done) | rfl
def Q13_n (Z : State) (a1 : Addr) (fid fst : Addr) (fap fco fcr : Int64) (ffa : Int32) (s_CREATED : Addr) (s_OTP_USED : Addr) (s_ACTIVE : Addr) (s_BLOCKED : Addr) (s_REMOVED : Addr) (h0 : Heap) (n0 : Nat) (v : Option Value) (h : Heap) (L : List Loc) : Prop := ∃ (o : Addr), v = some (.ref o) ∧ Fr n0 L ∧ Keep h0 h [] ∧ Exa Z h o "com/example/threefold/threefold/store/Activation" ∧ Fld Z h o "com/example/threefold/threefold/store/Activation" "device" "Lcom/example/threefold/threefold/store/Device;" .null
set_option maxRecDepth 65536 in
set_option maxHeartbeats 40000000 in
theorem rm13_n (l : Launch) (Z : State) (a0 : Array Value) (hw : ∀ d ∈ tables_1, d.before a0 Z = true) (ws : List Jvm.Cond) (a1 : Addr) (fid fst : Addr) (fap fco fcr : Int64) (ffa : Int32) (s_CREATED : Addr) (s_OTP_USED : Addr) (s_ACTIVE : Addr) (s_BLOCKED : Addr) (s_REMOVED : Addr) (h0 : Heap) (n0 : Nat) (Z0 : n0 ≤ h0.size) (O0 : Old Z n0 h0) (E_a1 : Exa Z h0 a1 "com/example/threefold/threefold/store/Activation") (F_activationId : Fld Z h0 a1 "com/example/threefold/threefold/store/Activation" "activationId" "Ljava/lang/String;" (.ref fid)) (F_applicationId : Fld Z h0 a1 "com/example/threefold/threefold/store/Activation" "applicationId" "J" (.long fap)) (F_userId : Fld Z h0 a1 "com/example/threefold/threefold/store/Activation" "userId" "Ljava/lang/String;" .null) (F_status : Fld Z h0 a1 "com/example/threefold/threefold/store/Activation" "status" "Lcom/example/threefold/threefold/protocol/ActivationStatus;" (.ref fst)) (F_counter : Fld Z h0 a1 "com/example/threefold/threefold/store/Activation" "counter" "J" (.long fco)) (F_failedAttempts : Fld Z h0 a1 "com/example/threefold/threefold/store/Activation" "failedAttempts" "I" (.int ffa)) (F_blockedReason : Fld Z h0 a1 "com/example/threefold/threefold/store/Activation" "blockedReason" "Ljava/lang/String;" .null) (F_code : Fld Z h0 a1 "com/example/threefold/threefold/store/Activation" "code" "Lcom/example/threefold/threefold/protocol/ActivationCode;" .null) (F_device : Fld Z h0 a1 "com/example/threefold/threefold/store/Activation" "device" "Lcom/example/threefold/threefold/store/Device;" .null) (F_createdAt : Fld Z h0 a1 "com/example/threefold/threefold/store/Activation" "createdAt" "J" (.long fcr)) (S_CREATED : Sta Z Z.heap "com/example/threefold/threefold/protocol/ActivationStatus" "CREATED" "Lcom/example/threefold/threefold/protocol/ActivationStatus;" (.ref s_CREATED)) (S_OTP_USED : Sta Z Z.heap "com/example/threefold/threefold/protocol/ActivationStatus" "OTP_USED" "Lcom/example/threefold/threefold/protocol/ActivationStatus;" (.ref s_OTP_USED)) (S_ACTIVE : Sta Z Z.heap "com/example/threefold/threefold/protocol/ActivationStatus" "ACTIVE" "Lcom/example/threefold/threefold/protocol/ActivationStatus;" (.ref s_ACTIVE)) (S_BLOCKED : Sta Z Z.heap "com/example/threefold/threefold/protocol/ActivationStatus" "BLOCKED" "Lcom/example/threefold/threefold/protocol/ActivationStatus;" (.ref s_BLOCKED)) (S_REMOVED : Sta Z Z.heap "com/example/threefold/threefold/protocol/ActivationStatus" "REMOVED" "Lcom/example/threefold/threefold/protocol/ActivationStatus;" (.ref s_REMOVED)) :
    MetFree l (⟨"com/example/threefold/threefold/store/Activation", "removed", "()Lcom/example/threefold/threefold/store/Activation;"⟩ : MethodName) (head1 (Jvm.Cond.code (⟨"com/example/threefold/threefold/store/Activation", "removed", "()Lcom/example/threefold/threefold/store/Activation;"⟩ : MethodName) prog_37_method_7_code 1 (some (.object "com/example/threefold/threefold/store/Activation")) :: ws) ({ frames := 4, cells := 1, slots := 10, locals := 65 } : Room)) (fun a U => a = #[(.ref a1)] ∧ Z.Warmed39 U.vm ∧ U.heap = h0) (fun _ _ _ _ _ => True) (fun _ U o U' => ∃ v L, o = .returned v ∧ Q13_n Z a1 fid fst fap fco fcr ffa s_CREATED s_OTP_USED s_ACTIVE s_BLOCKED s_REMOVED h0 n0 v U'.heap L ∧ FrameEnd U o U' L ({ frames := 4, cells := 1, slots := 10, locals := 65 } : Room).cells ({ frames := 4, cells := 1, slots := 10, locals := 65 } : Room).slots) := by
  refine MetFree.of_bodySF (plainFor_of_name pn_3) hisR ?_
  intro p e s m args below meth c s₁ Bd hml0 hP hK
  obtain ⟨rfl, hZ, hh⟩ := hP
  have hx := Bd.exec
  have hby := Bd.bytes
  have hml : c.maxLocals = 1 := hml0
  have hown : s.vm.findClass "com/example/threefold/threefold/store/Activation" = some m.cls := findClass_of_methodNamed Bd.named
  have hnm := (name_of_methodNamed Bd.named Bd.method).1
  have X0 : Stand p l e ({ frames := 4, cells := 1, slots := 10, locals := 65 } : Room) s m #[(.ref a1)] below meth c s₁ [] 0 0 := Stand.of_body Bd
  have e0 : s₁.heap = h0 := by rw [← hh, Bd.state]; rfl
  have N0 := Fr.nil n0
  have K0 := Keep.refl h0 []
  have pre0 : ∀ t, Steps p.tables e below (s₁.setTop (mkF m 0 #[.val (.ref a1)] [])) t → Steps p.tables e below (s₁.setTop (entryFrame m #[(.ref a1)] 1)) t := fun t k => castTop (ef_13_n m a1) k
  obtain ⟨T1, X1, e1, st1⟩ := getS2 X0 hx hZ hown (host := "") (Or.inl (hw _ (List.mem_of_getElem? (i := 106) rfl))) Via.refl e0 (S_REMOVED.ext O0.2) (g := (mkF m 1 #[vR a1] [iR a1])) rfl (hb hby d13_1)
  obtain ⟨T2, X2, e2, st2⟩ := getF X1 hx hZ hown (host := "") (Or.inl (hw _ (List.mem_of_getElem? (i := 60) rfl))) Via.refl e1 F_failedAttempts (g := (mkF m 5 #[vR a1] [iR a1, iR s_REMOVED, iR a1])) rfl rfl (hb hby d13_5)
  obtain ⟨cq3, q3, q3'⟩ := E_a1.cell
  obtain ⟨_, _, ⟨T3, L3, k3, n3⟩, -, X3, ⟨Lc3, hQ3, l3, y3, z3⟩, st3⟩ := X2.privateBack hx (y := (⟨"com/example/threefold/threefold/store/Activation", "withState", "(Lcom/example/threefold/threefold/protocol/ActivationStatus;ILjava/lang/String;)Lcom/example/threefold/threefold/store/Activation;"⟩ : MethodName)) hown (mvT hZ (hw _ (List.mem_of_getElem? (i := 108) rfl))) (mvT hZ (hw _ (List.mem_of_getElem? (i := 109) rfl))) (own_selPriv (mvT hZ (hw _ (List.mem_of_getElem? (i := 10) rfl))) (Cond.privateMethod_at (mvP hZ (hw _ (List.mem_of_getElem? (i := 110) rfl)) (args := #[]))) (mvT hZ (hw _ (List.mem_of_getElem? (i := 109) rfl))) (by decide)) (Cond.privateMethod_at (mvP hZ (hw _ (List.mem_of_getElem? (i := 110) rfl)) (args := #[]))) (mvT hZ (hw _ (List.mem_of_getElem? (i := 111) rfl))) (by decide) (backOf (W := 0) (rm14_nn l Z a0 hw [] a1 s_REMOVED ffa fid fst fap fco fcr ffa h0 n0 (Nat.le_trans Z0 K0.1) E_a1 F_activationId F_applicationId F_userId F_status F_counter F_failedAttempts F_blockedReason F_code F_device F_createdAt) hZ (hw _ (List.mem_of_getElem? (i := 111) rfl)) (hw _ (List.mem_of_getElem? (i := 11) rfl)) (by decide) (by decide)) (g := (mkF m 9 #[vR a1] [.null, iI ffa, iR s_REMOVED, iR a1])) rfl (by rw [hml]; rfl) (Steps.refl _) (a := a1) (by rw [e2]; exact q3) q3' (argsL := [(.ref s_REMOVED), (.int ffa), .null]) (rest := []) (lenOf pd_2 rfl) rfl (by show 2 * 0 + _ ≤ _; exact Nat.le_of_eq rfl) (hb hby d13_9) (fun _ _ => ⟨rfl, e2, (by decide : 0 + 1 ≤ _), (by decide : 0 + 10 ≤ _)⟩)
  dsimp only [Pt.U, Pt.locs, Pt.cells, Pt.slots] at X3 l3 y3 z3 st3 hQ3
  subst l3 y3 z3
  obtain ⟨o3, rfl, N3q, K3q, E3q, F3q⟩ := hQ3
  have N3 := Fr.app N0 N3q
  have K3 : Keep h0 T3.heap [] := Keep.trans K0 K3q all0
  obtain ⟨fs, hr, hrun, hended, hW, hsame⟩ := X3.leave (v := some (.ref o3)) (fun h => by rw [Bd.returns] at h; cases h)
  refine ⟨_, _, pre0 _ ?_, hrun, hended, _, _, rfl, ?_, ⟨_, rfl⟩, hW, hsame.mono (by decide) (by decide)⟩
  · show Steps _ _ _ (s₁.setTop (mkF m 0 #[vR a1] [])) _
    refine XS.aloadN X0.here hx rfl (hb hby d13_0) rfl rfl ?_
    show Steps _ _ _ (s₁.setTop (mkF m 1 #[vR a1] [iR a1])) _
    refine st1 _ ?_
    show Steps _ _ _ (T1.setTop (mkF m 4 #[vR a1] [iR s_REMOVED, iR a1])) _
    refine XS.aloadN X1.here hx rfl (hb hby d13_4) rfl rfl ?_
    show Steps _ _ _ (T1.setTop (mkF m 5 #[vR a1] [iR a1, iR s_REMOVED, iR a1])) _
    refine st2 _ ?_
    show Steps _ _ _ (T2.setTop (mkF m 8 #[vR a1] [iI ffa, iR s_REMOVED, iR a1])) _
    refine XS.aconstNull X2.here hx rfl (hb hby d13_8) ?_
    show Steps _ _ _ (T2.setTop (mkF m 9 #[vR a1] [.null, iI ffa, iR s_REMOVED, iR a1])) _
    refine st3.trans ?_
    show Steps _ _ _ (T3.setTop (mkF m 12 #[vR a1] [iR o3])) _
    jvm_step X3.here [X3.here.top, hx, (hb hby d13_12), X3.method', Bd.returns, Value.isRef, FieldType.isReference]
    first | (intro acts; rw [hr _ acts rfl rfl rfl]) | rw [hr _ _ rfl rfl rfl]
    exact Steps.refl _
  · show Q13_n Z a1 fid fst fap fco fcr ffa s_CREATED s_OTP_USED s_ACTIVE s_BLOCKED s_REMOVED h0 n0 _ T3.heap _
    exact ⟨_, rfl, N3, K3, E3q, F3q⟩
theorem d15_0 : decode prog_37_method_6_code 0 = .ok (.aload_n 0, 1) := by decide +kernel
theorem d15_1 : decode prog_37_method_6_code 1 = .ok (.getstatic 53, 3) := by decide +kernel
theorem d15_4 : decode prog_37_method_6_code 4 = .ok (.iconst 0, 1) := by decide +kernel
theorem d15_5 : decode prog_37_method_6_code 5 = .ok (.aconst_null, 1) := by decide +kernel
theorem d15_6 : decode prog_37_method_6_code 6 = .ok (.invokevirtual 56, 3) := by decide +kernel
theorem d15_9 : decode prog_37_method_6_code 9 = .ok (.areturn, 1) := by decide +kernel
theorem ef_15_n (m : MethodId) (x0 : Addr) : entryFrame m #[(.ref x0)] 1 = mkF m 0 #[.val (.ref x0)] [] := by first | (simp [entryFrame, mkF, argsToLocals, Value.category]; done) | rfl
def Q15_n (Z : State) (a1 : Addr) (fid fst : Addr) (fap fco fcr : Int64) (ffa : Int32) (s_CREATED : Addr) (s_OTP_USED : Addr) (s_ACTIVE : Addr) (s_BLOCKED : Addr) (s_REMOVED : Addr) (h0 : Heap) (n0 : Nat) (v : Option Value) (h : Heap) (L : List Loc) : Prop := ∃ (o : Addr), v = some (.ref o) ∧ Fr n0 L ∧ Keep h0 h [] ∧ Exa Z h o "com/example/threefold/threefold/store/Activation" ∧ Fld Z h o "com/example/threefold/threefold/store/Activation" "device" "Lcom/example/threefold/threefold/store/Device;" .null
set_option maxRecDepth 65536 in
set_option maxHeartbeats 40000000 in
theorem rm15_n (l : Launch) (Z : State) (a0 : Array Value) (hw : ∀ d ∈ tables_1, d.before a0 Z = true) (ws : List Jvm.Cond) (a1 : Addr) (fid fst : Addr) (fap fco fcr : Int64) (ffa : Int32) (s_CREATED : Addr) (s_OTP_USED : Addr) (s_ACTIVE : Addr) (s_BLOCKED : Addr) (s_REMOVED : Addr) (h0 : Heap) (n0 : Nat) (Z0 : n0 ≤ h0.size) (O0 : Old Z n0 h0) (E_a1 : Exa Z h0 a1 "com/example/threefold/threefold/store/Activation") (F_activationId : Fld Z h0 a1 "com/example/threefold/threefold/store/Activation" "activationId" "Ljava/lang/String;" (.ref fid)) (F_applicationId : Fld Z h0 a1 "com/example/threefold/threefold/store/Activation" "applicationId" "J" (.long fap)) (F_userId : Fld Z h0 a1 "com/example/threefold/threefold/store/Activation" "userId" "Ljava/lang/String;" .null) (F_status : Fld Z h0 a1 "com/example/threefold/threefold/store/Activation" "status" "Lcom/example/threefold/threefold/protocol/ActivationStatus;" (.ref fst)) (F_counter : Fld Z h0 a1 "com/example/threefold/threefold/store/Activation" "counter" "J" (.long fco)) (F_failedAttempts : Fld Z h0 a1 "com/example/threefold/threefold/store/Activation" "failedAttempts" "I" (.int ffa)) (F_blockedReason : Fld Z h0 a1 "com/example/threefold/threefold/store/Activation" "blockedReason" "Ljava/lang/String;" .null) (F_code : Fld Z h0 a1 "com/example/threefold/threefold/store/Activation" "code" "Lcom/example/threefold/threefold/protocol/ActivationCode;" .null) (F_device : Fld Z h0 a1 "com/example/threefold/threefold/store/Activation" "device" "Lcom/example/threefold/threefold/store/Device;" .null) (F_createdAt : Fld Z h0 a1 "com/example/threefold/threefold/store/Activation" "createdAt" "J" (.long fcr)) (S_CREATED : Sta Z Z.heap "com/example/threefold/threefold/protocol/ActivationStatus" "CREATED" "Lcom/example/threefold/threefold/protocol/ActivationStatus;" (.ref s_CREATED)) (S_OTP_USED : Sta Z Z.heap "com/example/threefold/threefold/protocol/ActivationStatus" "OTP_USED" "Lcom/example/threefold/threefold/protocol/ActivationStatus;" (.ref s_OTP_USED)) (S_ACTIVE : Sta Z Z.heap "com/example/threefold/threefold/protocol/ActivationStatus" "ACTIVE" "Lcom/example/threefold/threefold/protocol/ActivationStatus;" (.ref s_ACTIVE)) (S_BLOCKED : Sta Z Z.heap "com/example/threefold/threefold/protocol/ActivationStatus" "BLOCKED" "Lcom/example/threefold/threefold/protocol/ActivationStatus;" (.ref s_BLOCKED)) (S_REMOVED : Sta Z Z.heap "com/example/threefold/threefold/protocol/ActivationStatus" "REMOVED" "Lcom/example/threefold/threefold/protocol/ActivationStatus;" (.ref s_REMOVED)) :
    MetFree l (⟨"com/example/threefold/threefold/store/Activation", "unblocked", "()Lcom/example/threefold/threefold/store/Activation;"⟩ : MethodName) (head1 (Jvm.Cond.code (⟨"com/example/threefold/threefold/store/Activation", "unblocked", "()Lcom/example/threefold/threefold/store/Activation;"⟩ : MethodName) prog_37_method_6_code 1 (some (.object "com/example/threefold/threefold/store/Activation")) :: ws) ({ frames := 4, cells := 1, slots := 10, locals := 65 } : Room)) (fun a U => a = #[(.ref a1)] ∧ Z.Warmed39 U.vm ∧ U.heap = h0) (fun _ _ _ _ _ => True) (fun _ U o U' => ∃ v L, o = .returned v ∧ Q15_n Z a1 fid fst fap fco fcr ffa s_CREATED s_OTP_USED s_ACTIVE s_BLOCKED s_REMOVED h0 n0 v U'.heap L ∧ FrameEnd U o U' L ({ frames := 4, cells := 1, slots := 10, locals := 65 } : Room).cells ({ frames := 4, cells := 1, slots := 10, locals := 65 } : Room).slots) := by
  refine MetFree.of_bodySF (plainFor_of_name pn_3) hisR ?_
  intro p e s m args below meth c s₁ Bd hml0 hP hK
  obtain ⟨rfl, hZ, hh⟩ := hP
  have hx := Bd.exec
  have hby := Bd.bytes
  have hml : c.maxLocals = 1 := hml0
  have hown : s.vm.findClass "com/example/threefold/threefold/store/Activation" = some m.cls := findClass_of_methodNamed Bd.named
  have hnm := (name_of_methodNamed Bd.named Bd.method).1
  have X0 : Stand p l e ({ frames := 4, cells := 1, slots := 10, locals := 65 } : Room) s m #[(.ref a1)] below meth c s₁ [] 0 0 := Stand.of_body Bd
  have e0 : s₁.heap = h0 := by rw [← hh, Bd.state]; rfl
  have N0 := Fr.nil n0
  have K0 := Keep.refl h0 []
  have pre0 : ∀ t, Steps p.tables e below (s₁.setTop (mkF m 0 #[.val (.ref a1)] [])) t → Steps p.tables e below (s₁.setTop (entryFrame m #[(.ref a1)] 1)) t := fun t k => castTop (ef_15_n m a1) k
  obtain ⟨T1, X1, e1, st1⟩ := getS2 X0 hx hZ hown (host := "") (Or.inl (hw _ (List.mem_of_getElem? (i := 119) rfl))) Via.refl e0 (S_ACTIVE.ext O0.2) (g := (mkF m 1 #[vR a1] [iR a1])) rfl (hb hby d15_1)
  obtain ⟨cq2, q2, q2'⟩ := E_a1.cell
  obtain ⟨_, _, ⟨T2, L2, k2, n2⟩, -, X2, ⟨Lc2, hQ2, l2, y2, z2⟩, st2⟩ := X1.privateBack hx (y := (⟨"com/example/threefold/threefold/store/Activation", "withState", "(Lcom/example/threefold/threefold/protocol/ActivationStatus;ILjava/lang/String;)Lcom/example/threefold/threefold/store/Activation;"⟩ : MethodName)) hown (mvT hZ (hw _ (List.mem_of_getElem? (i := 108) rfl))) (mvT hZ (hw _ (List.mem_of_getElem? (i := 109) rfl))) (own_selPriv (mvT hZ (hw _ (List.mem_of_getElem? (i := 10) rfl))) (Cond.privateMethod_at (mvP hZ (hw _ (List.mem_of_getElem? (i := 110) rfl)) (args := #[]))) (mvT hZ (hw _ (List.mem_of_getElem? (i := 109) rfl))) (by decide)) (Cond.privateMethod_at (mvP hZ (hw _ (List.mem_of_getElem? (i := 110) rfl)) (args := #[]))) (mvT hZ (hw _ (List.mem_of_getElem? (i := 111) rfl))) (by decide) (backOf (W := 0) (rm14_nn l Z a0 hw [] a1 s_ACTIVE (0 : Int32) fid fst fap fco fcr ffa h0 n0 (Nat.le_trans Z0 K0.1) E_a1 F_activationId F_applicationId F_userId F_status F_counter F_failedAttempts F_blockedReason F_code F_device F_createdAt) hZ (hw _ (List.mem_of_getElem? (i := 111) rfl)) (hw _ (List.mem_of_getElem? (i := 11) rfl)) (by decide) (by decide)) (g := (mkF m 6 #[vR a1] [.null, iI 0, iR s_ACTIVE, iR a1])) rfl (by rw [hml]; rfl) (Steps.refl _) (a := a1) (by rw [e1]; exact q2) q2' (argsL := [(.ref s_ACTIVE), (.int (0 : Int32)), .null]) (rest := []) (lenOf pd_2 rfl) rfl (by show 2 * 0 + _ ≤ _; exact Nat.le_of_eq rfl) (hb hby d15_6) (fun _ _ => ⟨rfl, e1, (by decide : 0 + 1 ≤ _), (by decide : 0 + 10 ≤ _)⟩)
  dsimp only [Pt.U, Pt.locs, Pt.cells, Pt.slots] at X2 l2 y2 z2 st2 hQ2
  subst l2 y2 z2
  obtain ⟨o2, rfl, N2q, K2q, E2q, F2q⟩ := hQ2
  have N2 := Fr.app N0 N2q
  have K2 : Keep h0 T2.heap [] := Keep.trans K0 K2q all0
  obtain ⟨fs, hr, hrun, hended, hW, hsame⟩ := X2.leave (v := some (.ref o2)) (fun h => by rw [Bd.returns] at h; cases h)
  refine ⟨_, _, pre0 _ ?_, hrun, hended, _, _, rfl, ?_, ⟨_, rfl⟩, hW, hsame.mono (by decide) (by decide)⟩
  · show Steps _ _ _ (s₁.setTop (mkF m 0 #[vR a1] [])) _
    refine XS.aloadN X0.here hx rfl (hb hby d15_0) rfl rfl ?_
    show Steps _ _ _ (s₁.setTop (mkF m 1 #[vR a1] [iR a1])) _
    refine st1 _ ?_
    show Steps _ _ _ (T1.setTop (mkF m 4 #[vR a1] [iR s_ACTIVE, iR a1])) _
    refine XS.iconst X1.here hx rfl (hb hby d15_4) ?_
    show Steps _ _ _ (T1.setTop (mkF m 5 #[vR a1] [iI 0, iR s_ACTIVE, iR a1])) _
    refine XS.aconstNull X1.here hx rfl (hb hby d15_5) ?_
    show Steps _ _ _ (T1.setTop (mkF m 6 #[vR a1] [.null, iI 0, iR s_ACTIVE, iR a1])) _
    refine st2.trans ?_
    show Steps _ _ _ (T2.setTop (mkF m 9 #[vR a1] [iR o2])) _
    jvm_step X2.here [X2.here.top, hx, (hb hby d15_9), X2.method', Bd.returns, Value.isRef, FieldType.isReference]
    first | (intro acts; rw [hr _ acts rfl rfl rfl]) | rw [hr _ _ rfl rfl rfl]
    exact Steps.refl _
  · show Q15_n Z a1 fid fst fap fco fcr ffa s_CREATED s_OTP_USED s_ACTIVE s_BLOCKED s_REMOVED h0 n0 _ T2.heap _
    exact ⟨_, rfl, N2, K2, E2q, F2q⟩
theorem d17_0 : decode prog_37_method_4_code 0 = .ok (.aload_n 0, 1) := by decide +kernel
theorem d17_1 : decode prog_37_method_4_code 1 = .ok (.getstatic 53, 3) := by decide +kernel
theorem d17_4 : decode prog_37_method_4_code 4 = .ok (.aload_n 0, 1) := by decide +kernel
theorem d17_5 : decode prog_37_method_4_code 5 = .ok (.getfield 27, 3) := by decide +kernel
theorem d17_8 : decode prog_37_method_4_code 8 = .ok (.aconst_null, 1) := by decide +kernel
theorem d17_9 : decode prog_37_method_4_code 9 = .ok (.invokevirtual 56, 3) := by decide +kernel
theorem d17_12 : decode prog_37_method_4_code 12 = .ok (.areturn, 1) := by decide +kernel
theorem ef_17_n (m : MethodId) (x0 : Addr) : entryFrame m #[(.ref x0)] 1 = mkF m 0 #[.val (.ref x0)] [] := by first | (simp [entryFrame, mkF, argsToLocals, Value.category]; done) | rfl
def Q17_n (Z : State) (a1 : Addr) (fid fst : Addr) (fap fco fcr : Int64) (ffa : Int32) (s_CREATED : Addr) (s_OTP_USED : Addr) (s_ACTIVE : Addr) (s_BLOCKED : Addr) (s_REMOVED : Addr) (h0 : Heap) (n0 : Nat) (v : Option Value) (h : Heap) (L : List Loc) : Prop := ∃ (o : Addr), v = some (.ref o) ∧ Fr n0 L ∧ Keep h0 h [] ∧ Exa Z h o "com/example/threefold/threefold/store/Activation" ∧ Fld Z h o "com/example/threefold/threefold/store/Activation" "device" "Lcom/example/threefold/threefold/store/Device;" .null
set_option maxRecDepth 65536 in
set_option maxHeartbeats 40000000 in
theorem rm17_n (l : Launch) (Z : State) (a0 : Array Value) (hw : ∀ d ∈ tables_1, d.before a0 Z = true) (ws : List Jvm.Cond) (a1 : Addr) (fid fst : Addr) (fap fco fcr : Int64) (ffa : Int32) (s_CREATED : Addr) (s_OTP_USED : Addr) (s_ACTIVE : Addr) (s_BLOCKED : Addr) (s_REMOVED : Addr) (h0 : Heap) (n0 : Nat) (Z0 : n0 ≤ h0.size) (O0 : Old Z n0 h0) (E_a1 : Exa Z h0 a1 "com/example/threefold/threefold/store/Activation") (F_activationId : Fld Z h0 a1 "com/example/threefold/threefold/store/Activation" "activationId" "Ljava/lang/String;" (.ref fid)) (F_applicationId : Fld Z h0 a1 "com/example/threefold/threefold/store/Activation" "applicationId" "J" (.long fap)) (F_userId : Fld Z h0 a1 "com/example/threefold/threefold/store/Activation" "userId" "Ljava/lang/String;" .null) (F_status : Fld Z h0 a1 "com/example/threefold/threefold/store/Activation" "status" "Lcom/example/threefold/threefold/protocol/ActivationStatus;" (.ref fst)) (F_counter : Fld Z h0 a1 "com/example/threefold/threefold/store/Activation" "counter" "J" (.long fco)) (F_failedAttempts : Fld Z h0 a1 "com/example/threefold/threefold/store/Activation" "failedAttempts" "I" (.int ffa)) (F_blockedReason : Fld Z h0 a1 "com/example/threefold/threefold/store/Activation" "blockedReason" "Ljava/lang/String;" .null) (F_code : Fld Z h0 a1 "com/example/threefold/threefold/store/Activation" "code" "Lcom/example/threefold/threefold/protocol/ActivationCode;" .null) (F_device : Fld Z h0 a1 "com/example/threefold/threefold/store/Activation" "device" "Lcom/example/threefold/threefold/store/Device;" .null) (F_createdAt : Fld Z h0 a1 "com/example/threefold/threefold/store/Activation" "createdAt" "J" (.long fcr)) (S_CREATED : Sta Z Z.heap "com/example/threefold/threefold/protocol/ActivationStatus" "CREATED" "Lcom/example/threefold/threefold/protocol/ActivationStatus;" (.ref s_CREATED)) (S_OTP_USED : Sta Z Z.heap "com/example/threefold/threefold/protocol/ActivationStatus" "OTP_USED" "Lcom/example/threefold/threefold/protocol/ActivationStatus;" (.ref s_OTP_USED)) (S_ACTIVE : Sta Z Z.heap "com/example/threefold/threefold/protocol/ActivationStatus" "ACTIVE" "Lcom/example/threefold/threefold/protocol/ActivationStatus;" (.ref s_ACTIVE)) (S_BLOCKED : Sta Z Z.heap "com/example/threefold/threefold/protocol/ActivationStatus" "BLOCKED" "Lcom/example/threefold/threefold/protocol/ActivationStatus;" (.ref s_BLOCKED)) (S_REMOVED : Sta Z Z.heap "com/example/threefold/threefold/protocol/ActivationStatus" "REMOVED" "Lcom/example/threefold/threefold/protocol/ActivationStatus;" (.ref s_REMOVED)) :
    MetFree l (⟨"com/example/threefold/threefold/store/Activation", "committed", "()Lcom/example/threefold/threefold/store/Activation;"⟩ : MethodName) (head1 (Jvm.Cond.code (⟨"com/example/threefold/threefold/store/Activation", "committed", "()Lcom/example/threefold/threefold/store/Activation;"⟩ : MethodName) prog_37_method_4_code 1 (some (.object "com/example/threefold/threefold/store/Activation")) :: ws) ({ frames := 4, cells := 1, slots := 10, locals := 65 } : Room)) (fun a U => a = #[(.ref a1)] ∧ Z.Warmed39 U.vm ∧ U.heap = h0) (fun _ _ _ _ _ => True) (fun _ U o U' => ∃ v L, o = .returned v ∧ Q17_n Z a1 fid fst fap fco fcr ffa s_CREATED s_OTP_USED s_ACTIVE s_BLOCKED s_REMOVED h0 n0 v U'.heap L ∧ FrameEnd U o U' L ({ frames := 4, cells := 1, slots := 10, locals := 65 } : Room).cells ({ frames := 4, cells := 1, slots := 10, locals := 65 } : Room).slots) := by
  refine MetFree.of_bodySF (plainFor_of_name pn_3) hisR ?_
  intro p e s m args below meth c s₁ Bd hml0 hP hK
  obtain ⟨rfl, hZ, hh⟩ := hP
  have hx := Bd.exec
  have hby := Bd.bytes
  have hml : c.maxLocals = 1 := hml0
  have hown : s.vm.findClass "com/example/threefold/threefold/store/Activation" = some m.cls := findClass_of_methodNamed Bd.named
  have hnm := (name_of_methodNamed Bd.named Bd.method).1
  have X0 : Stand p l e ({ frames := 4, cells := 1, slots := 10, locals := 65 } : Room) s m #[(.ref a1)] below meth c s₁ [] 0 0 := Stand.of_body Bd
  have e0 : s₁.heap = h0 := by rw [← hh, Bd.state]; rfl
  have N0 := Fr.nil n0
  have K0 := Keep.refl h0 []
  have pre0 : ∀ t, Steps p.tables e below (s₁.setTop (mkF m 0 #[.val (.ref a1)] [])) t → Steps p.tables e below (s₁.setTop (entryFrame m #[(.ref a1)] 1)) t := fun t k => castTop (ef_17_n m a1) k
  obtain ⟨T1, X1, e1, st1⟩ := getS2 X0 hx hZ hown (host := "") (Or.inl (hw _ (List.mem_of_getElem? (i := 119) rfl))) Via.refl e0 (S_ACTIVE.ext O0.2) (g := (mkF m 1 #[vR a1] [iR a1])) rfl (hb hby d17_1)
  obtain ⟨T2, X2, e2, st2⟩ := getF X1 hx hZ hown (host := "") (Or.inl (hw _ (List.mem_of_getElem? (i := 60) rfl))) Via.refl e1 F_failedAttempts (g := (mkF m 5 #[vR a1] [iR a1, iR s_ACTIVE, iR a1])) rfl rfl (hb hby d17_5)
  obtain ⟨cq3, q3, q3'⟩ := E_a1.cell
  obtain ⟨_, _, ⟨T3, L3, k3, n3⟩, -, X3, ⟨Lc3, hQ3, l3, y3, z3⟩, st3⟩ := X2.privateBack hx (y := (⟨"com/example/threefold/threefold/store/Activation", "withState", "(Lcom/example/threefold/threefold/protocol/ActivationStatus;ILjava/lang/String;)Lcom/example/threefold/threefold/store/Activation;"⟩ : MethodName)) hown (mvT hZ (hw _ (List.mem_of_getElem? (i := 108) rfl))) (mvT hZ (hw _ (List.mem_of_getElem? (i := 109) rfl))) (own_selPriv (mvT hZ (hw _ (List.mem_of_getElem? (i := 10) rfl))) (Cond.privateMethod_at (mvP hZ (hw _ (List.mem_of_getElem? (i := 110) rfl)) (args := #[]))) (mvT hZ (hw _ (List.mem_of_getElem? (i := 109) rfl))) (by decide)) (Cond.privateMethod_at (mvP hZ (hw _ (List.mem_of_getElem? (i := 110) rfl)) (args := #[]))) (mvT hZ (hw _ (List.mem_of_getElem? (i := 111) rfl))) (by decide) (backOf (W := 0) (rm14_nn l Z a0 hw [] a1 s_ACTIVE ffa fid fst fap fco fcr ffa h0 n0 (Nat.le_trans Z0 K0.1) E_a1 F_activationId F_applicationId F_userId F_status F_counter F_failedAttempts F_blockedReason F_code F_device F_createdAt) hZ (hw _ (List.mem_of_getElem? (i := 111) rfl)) (hw _ (List.mem_of_getElem? (i := 11) rfl)) (by decide) (by decide)) (g := (mkF m 9 #[vR a1] [.null, iI ffa, iR s_ACTIVE, iR a1])) rfl (by rw [hml]; rfl) (Steps.refl _) (a := a1) (by rw [e2]; exact q3) q3' (argsL := [(.ref s_ACTIVE), (.int ffa), .null]) (rest := []) (lenOf pd_2 rfl) rfl (by show 2 * 0 + _ ≤ _; exact Nat.le_of_eq rfl) (hb hby d17_9) (fun _ _ => ⟨rfl, e2, (by decide : 0 + 1 ≤ _), (by decide : 0 + 10 ≤ _)⟩)
  dsimp only [Pt.U, Pt.locs, Pt.cells, Pt.slots] at X3 l3 y3 z3 st3 hQ3
  subst l3 y3 z3
  obtain ⟨o3, rfl, N3q, K3q, E3q, F3q⟩ := hQ3
  have N3 := Fr.app N0 N3q
  have K3 : Keep h0 T3.heap [] := Keep.trans K0 K3q all0
  obtain ⟨fs, hr, hrun, hended, hW, hsame⟩ := X3.leave (v := some (.ref o3)) (fun h => by rw [Bd.returns] at h; cases h)
  refine ⟨_, _, pre0 _ ?_, hrun, hended, _, _, rfl, ?_, ⟨_, rfl⟩, hW, hsame.mono (by decide) (by decide)⟩
  · show Steps _ _ _ (s₁.setTop (mkF m 0 #[vR a1] [])) _
    refine XS.aloadN X0.here hx rfl (hb hby d17_0) rfl rfl ?_
    show Steps _ _ _ (s₁.setTop (mkF m 1 #[vR a1] [iR a1])) _
    refine st1 _ ?_
    show Steps _ _ _ (T1.setTop (mkF m 4 #[vR a1] [iR s_ACTIVE, iR a1])) _
    refine XS.aloadN X1.here hx rfl (hb hby d17_4) rfl rfl ?_
    show Steps _ _ _ (T1.setTop (mkF m 5 #[vR a1] [iR a1, iR s_ACTIVE, iR a1])) _
    refine st2 _ ?_
    show Steps _ _ _ (T2.setTop (mkF m 8 #[vR a1] [iI ffa, iR s_ACTIVE, iR a1])) _
    refine XS.aconstNull X2.here hx rfl (hb hby d17_8) ?_
    show Steps _ _ _ (T2.setTop (mkF m 9 #[vR a1] [.null, iI ffa, iR s_ACTIVE, iR a1])) _
    refine st3.trans ?_
    show Steps _ _ _ (T3.setTop (mkF m 12 #[vR a1] [iR o3])) _
    jvm_step X3.here [X3.here.top, hx, (hb hby d17_12), X3.method', Bd.returns, Value.isRef, FieldType.isReference]
    first | (intro acts; rw [hr _ acts rfl rfl rfl]) | rw [hr _ _ rfl rfl rfl]
    exact Steps.refl _
  · show Q17_n Z a1 fid fst fap fco fcr ffa s_CREATED s_OTP_USED s_ACTIVE s_BLOCKED s_REMOVED h0 n0 _ T3.heap _
    exact ⟨_, rfl, N3, K3, E3q, F3q⟩
theorem d18_0 : decode prog_37_method_5_code 0 = .ok (.aload_n 0, 1) := by decide +kernel
theorem d18_1 : decode prog_37_method_5_code 1 = .ok (.getstatic 60, 3) := by decide +kernel
theorem d18_4 : decode prog_37_method_5_code 4 = .ok (.aload_n 0, 1) := by decide +kernel
theorem d18_5 : decode prog_37_method_5_code 5 = .ok (.getfield 27, 3) := by decide +kernel
theorem d18_8 : decode prog_37_method_5_code 8 = .ok (.aload_n 1, 1) := by decide +kernel
theorem d18_9 : decode prog_37_method_5_code 9 = .ok (.invokevirtual 56, 3) := by decide +kernel
theorem d18_12 : decode prog_37_method_5_code 12 = .ok (.areturn, 1) := by decide +kernel
theorem ef_18_n (m : MethodId) (x0 : Addr) (x1 : Addr) : entryFrame m #[(.ref x0), (.ref x1)] 2 = mkF m 0 #[.val (.ref x0), .val (.ref x1)] [] := by first | (simp [entryFrame, mkF, argsToLocals, Value.category]; done) | rfl
def Q18_n (Z : State) (a1 : Addr) (a2 : Addr) (fid fst : Addr) (fap fco fcr : Int64) (ffa : Int32) (s_CREATED : Addr) (s_OTP_USED : Addr) (s_ACTIVE : Addr) (s_BLOCKED : Addr) (s_REMOVED : Addr) (h0 : Heap) (n0 : Nat) (v : Option Value) (h : Heap) (L : List Loc) : Prop := ∃ (o : Addr), v = some (.ref o) ∧ Fr n0 L ∧ Keep h0 h [] ∧ Exa Z h o "com/example/threefold/threefold/store/Activation" ∧ Fld Z h o "com/example/threefold/threefold/store/Activation" "device" "Lcom/example/threefold/threefold/store/Device;" .null
set_option maxRecDepth 65536 in
set_option maxHeartbeats 40000000 in
theorem rm18_n (l : Launch) (Z : State) (a0 : Array Value) (hw : ∀ d ∈ tables_1, d.before a0 Z = true) (ws : List Jvm.Cond) (a1 : Addr) (a2 : Addr) (fid fst : Addr) (fap fco fcr : Int64) (ffa : Int32) (s_CREATED : Addr) (s_OTP_USED : Addr) (s_ACTIVE : Addr) (s_BLOCKED : Addr) (s_REMOVED : Addr) (h0 : Heap) (n0 : Nat) (Z0 : n0 ≤ h0.size) (O0 : Old Z n0 h0) (E_a1 : Exa Z h0 a1 "com/example/threefold/threefold/store/Activation") (F_activationId : Fld Z h0 a1 "com/example/threefold/threefold/store/Activation" "activationId" "Ljava/lang/String;" (.ref fid)) (F_applicationId : Fld Z h0 a1 "com/example/threefold/threefold/store/Activation" "applicationId" "J" (.long fap)) (F_userId : Fld Z h0 a1 "com/example/threefold/threefold/store/Activation" "userId" "Ljava/lang/String;" .null) (F_status : Fld Z h0 a1 "com/example/threefold/threefold/store/Activation" "status" "Lcom/example/threefold/threefold/protocol/ActivationStatus;" (.ref fst)) (F_counter : Fld Z h0 a1 "com/example/threefold/threefold/store/Activation" "counter" "J" (.long fco)) (F_failedAttempts : Fld Z h0 a1 "com/example/threefold/threefold/store/Activation" "failedAttempts" "I" (.int ffa)) (F_blockedReason : Fld Z h0 a1 "com/example/threefold/threefold/store/Activation" "blockedReason" "Ljava/lang/String;" .null) (F_code : Fld Z h0 a1 "com/example/threefold/threefold/store/Activation" "code" "Lcom/example/threefold/threefold/protocol/ActivationCode;" .null) (F_device : Fld Z h0 a1 "com/example/threefold/threefold/store/Activation" "device" "Lcom/example/threefold/threefold/store/Device;" .null) (F_createdAt : Fld Z h0 a1 "com/example/threefold/threefold/store/Activation" "createdAt" "J" (.long fcr)) (S_CREATED : Sta Z Z.heap "com/example/threefold/threefold/protocol/ActivationStatus" "CREATED" "Lcom/example/threefold/threefold/protocol/ActivationStatus;" (.ref s_CREATED)) (S_OTP_USED : Sta Z Z.heap "com/example/threefold/threefold/protocol/ActivationStatus" "OTP_USED" "Lcom/example/threefold/threefold/protocol/ActivationStatus;" (.ref s_OTP_USED)) (S_ACTIVE : Sta Z Z.heap "com/example/threefold/threefold/protocol/ActivationStatus" "ACTIVE" "Lcom/example/threefold/threefold/protocol/ActivationStatus;" (.ref s_ACTIVE)) (S_BLOCKED : Sta Z Z.heap "com/example/threefold/threefold/protocol/ActivationStatus" "BLOCKED" "Lcom/example/threefold/threefold/protocol/ActivationStatus;" (.ref s_BLOCKED)) (S_REMOVED : Sta Z Z.heap "com/example/threefold/threefold/protocol/ActivationStatus" "REMOVED" "Lcom/example/threefold/threefold/protocol/ActivationStatus;" (.ref s_REMOVED)) :
    MetFree l (⟨"com/example/threefold/threefold/store/Activation", "blocked", "(Ljava/lang/String;)Lcom/example/threefold/threefold/store/Activation;"⟩ : MethodName) (head1 (Jvm.Cond.code (⟨"com/example/threefold/threefold/store/Activation", "blocked", "(Ljava/lang/String;)Lcom/example/threefold/threefold/store/Activation;"⟩ : MethodName) prog_37_method_5_code 2 (some (.object "com/example/threefold/threefold/store/Activation")) :: ws) ({ frames := 4, cells := 1, slots := 10, locals := 65 } : Room)) (fun a U => a = #[(.ref a1), (.ref a2)] ∧ Z.Warmed39 U.vm ∧ U.heap = h0) (fun _ _ _ _ _ => True) (fun _ U o U' => ∃ v L, o = .returned v ∧ Q18_n Z a1 a2 fid fst fap fco fcr ffa s_CREATED s_OTP_USED s_ACTIVE s_BLOCKED s_REMOVED h0 n0 v U'.heap L ∧ FrameEnd U o U' L ({ frames := 4, cells := 1, slots := 10, locals := 65 } : Room).cells ({ frames := 4, cells := 1, slots := 10, locals := 65 } : Room).slots) := by
  refine MetFree.of_bodySF (plainFor_of_name pn_3) hisR ?_
  intro p e s m args below meth c s₁ Bd hml0 hP hK
  obtain ⟨rfl, hZ, hh⟩ := hP
  have hx := Bd.exec
  have hby := Bd.bytes
  have hml : c.maxLocals = 2 := hml0
  have hown : s.vm.findClass "com/example/threefold/threefold/store/Activation" = some m.cls := findClass_of_methodNamed Bd.named
  have hnm := (name_of_methodNamed Bd.named Bd.method).1
  have X0 : Stand p l e ({ frames := 4, cells := 1, slots := 10, locals := 65 } : Room) s m #[(.ref a1), (.ref a2)] below meth c s₁ [] 0 0 := Stand.of_body Bd
  have e0 : s₁.heap = h0 := by rw [← hh, Bd.state]; rfl
  have N0 := Fr.nil n0
  have K0 := Keep.refl h0 []
  have pre0 : ∀ t, Steps p.tables e below (s₁.setTop (mkF m 0 #[.val (.ref a1), .val (.ref a2)] [])) t → Steps p.tables e below (s₁.setTop (entryFrame m #[(.ref a1), (.ref a2)] 2)) t := fun t k => castTop (ef_18_n m a1 a2) k
  obtain ⟨T1, X1, e1, st1⟩ := getS2 X0 hx hZ hown (host := "") (Or.inl (hw _ (List.mem_of_getElem? (i := 142) rfl))) Via.refl e0 (S_BLOCKED.ext O0.2) (g := (mkF m 1 #[vR a1, vR a2] [iR a1])) rfl (hb hby d18_1)
  obtain ⟨T2, X2, e2, st2⟩ := getF X1 hx hZ hown (host := "") (Or.inl (hw _ (List.mem_of_getElem? (i := 60) rfl))) Via.refl e1 F_failedAttempts (g := (mkF m 5 #[vR a1, vR a2] [iR a1, iR s_BLOCKED, iR a1])) rfl rfl (hb hby d18_5)
  obtain ⟨cq3, q3, q3'⟩ := E_a1.cell
  obtain ⟨_, _, ⟨T3, L3, k3, n3⟩, -, X3, ⟨Lc3, hQ3, l3, y3, z3⟩, st3⟩ := X2.privateBack hx (y := (⟨"com/example/threefold/threefold/store/Activation", "withState", "(Lcom/example/threefold/threefold/protocol/ActivationStatus;ILjava/lang/String;)Lcom/example/threefold/threefold/store/Activation;"⟩ : MethodName)) hown (mvT hZ (hw _ (List.mem_of_getElem? (i := 108) rfl))) (mvT hZ (hw _ (List.mem_of_getElem? (i := 109) rfl))) (own_selPriv (mvT hZ (hw _ (List.mem_of_getElem? (i := 10) rfl))) (Cond.privateMethod_at (mvP hZ (hw _ (List.mem_of_getElem? (i := 110) rfl)) (args := #[]))) (mvT hZ (hw _ (List.mem_of_getElem? (i := 109) rfl))) (by decide)) (Cond.privateMethod_at (mvP hZ (hw _ (List.mem_of_getElem? (i := 110) rfl)) (args := #[]))) (mvT hZ (hw _ (List.mem_of_getElem? (i := 111) rfl))) (by decide) (backOf (W := 0) (rm14_rn l Z a0 hw [] a1 s_BLOCKED ffa a2 fid fst fap fco fcr ffa h0 n0 (Nat.le_trans Z0 K0.1) E_a1 F_activationId F_applicationId F_userId F_status F_counter F_failedAttempts F_blockedReason F_code F_device F_createdAt) hZ (hw _ (List.mem_of_getElem? (i := 111) rfl)) (hw _ (List.mem_of_getElem? (i := 11) rfl)) (by decide) (by decide)) (g := (mkF m 9 #[vR a1, vR a2] [iR a2, iI ffa, iR s_BLOCKED, iR a1])) rfl (by rw [hml]; rfl) (Steps.refl _) (a := a1) (by rw [e2]; exact q3) q3' (argsL := [(.ref s_BLOCKED), (.int ffa), (.ref a2)]) (rest := []) (lenOf pd_2 rfl) rfl (by show 2 * 0 + _ ≤ _; exact Nat.le_of_eq rfl) (hb hby d18_9) (fun _ _ => ⟨rfl, e2, (by decide : 0 + 1 ≤ _), (by decide : 0 + 10 ≤ _)⟩)
  dsimp only [Pt.U, Pt.locs, Pt.cells, Pt.slots] at X3 l3 y3 z3 st3 hQ3
  subst l3 y3 z3
  obtain ⟨o3, rfl, N3q, K3q, E3q, F3q⟩ := hQ3
  have N3 := Fr.app N0 N3q
  have K3 : Keep h0 T3.heap [] := Keep.trans K0 K3q all0
  obtain ⟨fs, hr, hrun, hended, hW, hsame⟩ := X3.leave (v := some (.ref o3)) (fun h => by rw [Bd.returns] at h; cases h)
  refine ⟨_, _, pre0 _ ?_, hrun, hended, _, _, rfl, ?_, ⟨_, rfl⟩, hW, hsame.mono (by decide) (by decide)⟩
  · show Steps _ _ _ (s₁.setTop (mkF m 0 #[vR a1, vR a2] [])) _
    refine XS.aloadN X0.here hx rfl (hb hby d18_0) rfl rfl ?_
    show Steps _ _ _ (s₁.setTop (mkF m 1 #[vR a1, vR a2] [iR a1])) _
    refine st1 _ ?_
    show Steps _ _ _ (T1.setTop (mkF m 4 #[vR a1, vR a2] [iR s_BLOCKED, iR a1])) _
    refine XS.aloadN X1.here hx rfl (hb hby d18_4) rfl rfl ?_
    show Steps _ _ _ (T1.setTop (mkF m 5 #[vR a1, vR a2] [iR a1, iR s_BLOCKED, iR a1])) _
    refine st2 _ ?_
    show Steps _ _ _ (T2.setTop (mkF m 8 #[vR a1, vR a2] [iI ffa, iR s_BLOCKED, iR a1])) _
    refine XS.aloadN X2.here hx rfl (hb hby d18_8) rfl rfl ?_
    show Steps _ _ _ (T2.setTop (mkF m 9 #[vR a1, vR a2] [iR a2, iI ffa, iR s_BLOCKED, iR a1])) _
    refine st3.trans ?_
    show Steps _ _ _ (T3.setTop (mkF m 12 #[vR a1, vR a2] [iR o3])) _
    jvm_step X3.here [X3.here.top, hx, (hb hby d18_12), X3.method', Bd.returns, Value.isRef, FieldType.isReference]
    first | (intro acts; rw [hr _ acts rfl rfl rfl]) | rw [hr _ _ rfl rfl rfl]
    exact Steps.refl _
  · show Q18_n Z a1 a2 fid fst fap fco fcr ffa s_CREATED s_OTP_USED s_ACTIVE s_BLOCKED s_REMOVED h0 n0 _ T3.heap _
    exact ⟨_, rfl, N3, K3, E3q, F3q⟩
theorem d10_7 : decode prog_37_method_9_code 7 = .ok (.iconst 1, 1) := by decide +kernel
theorem d10_8 : decode prog_37_method_9_code 8 = .ok (.goto 4, 3) := by decide +kernel
theorem ef_10_r (m : MethodId) (x0 : Addr) : entryFrame m #[(.ref x0)] 1 = mkF m 0 #[.val (.ref x0)] [] := by first | (simp [entryFrame, mkF, argsToLocals, Value.category]; done) | rfl
def Q10_r (Z : State) (a1 : Addr) (fdv : Addr) (h0 : Heap) (v : Option Value) (h : Heap) (L : List Loc) : Prop := v = some (.int (1 : Int32)) ∧ L = [] ∧ h = h0
set_option maxRecDepth 65536 in
set_option maxHeartbeats 40000000 in
theorem rm10_r (l : Launch) (Z : State) (a0 : Array Value) (hw : ∀ d ∈ tables_1, d.before a0 Z = true) (ws : List Jvm.Cond) (a1 : Addr) (fdv : Addr) (h0 : Heap) (F_device : Fld Z h0 a1 "com/example/threefold/threefold/store/Activation" "device" "Lcom/example/threefold/threefold/store/Device;" (.ref fdv)) :
    MetFree l (⟨"com/example/threefold/threefold/store/Activation", "hasKeys", "()Z"⟩ : MethodName) (head1 (Jvm.Cond.code (⟨"com/example/threefold/threefold/store/Activation", "hasKeys", "()Z"⟩ : MethodName) prog_37_method_9_code 1 (some .boolean) :: ws) ({ frames := 0, cells := 0, slots := 0, locals := 0 } : Room)) (fun a U => a = #[(.ref a1)] ∧ Z.Warmed39 U.vm ∧ U.heap = h0) (fun _ _ _ _ _ => True) (fun _ U o U' => ∃ v L, o = .returned v ∧ Q10_r Z a1 fdv h0 v U'.heap L ∧ FrameEnd U o U' L ({ frames := 0, cells := 0, slots := 0, locals := 0 } : Room).cells ({ frames := 0, cells := 0, slots := 0, locals := 0 } : Room).slots) := by
  refine MetFree.of_bodySF (plainFor_of_name pn_3) hisR ?_
  intro p e s m args below meth c s₁ Bd hml0 hP hK
  obtain ⟨rfl, hZ, hh⟩ := hP
  have hx := Bd.exec
  have hby := Bd.bytes
  have hml : c.maxLocals = 1 := hml0
  have hown : s.vm.findClass "com/example/threefold/threefold/store/Activation" = some m.cls := findClass_of_methodNamed Bd.named
  have hnm := (name_of_methodNamed Bd.named Bd.method).1
  have X0 : Stand p l e ({ frames := 0, cells := 0, slots := 0, locals := 0 } : Room) s m #[(.ref a1)] below meth c s₁ [] 0 0 := Stand.of_body Bd
  have e0 : s₁.heap = h0 := by rw [← hh, Bd.state]; rfl
  have pre0 : ∀ t, Steps p.tables e below (s₁.setTop (mkF m 0 #[.val (.ref a1)] [])) t → Steps p.tables e below (s₁.setTop (entryFrame m #[(.ref a1)] 1)) t := fun t k => castTop (ef_10_r m a1) k
  obtain ⟨T1, X1, e1, st1⟩ := getF X0 hx hZ hown (host := "") (Or.inl (hw _ (List.mem_of_getElem? (i := 66) rfl))) Via.refl e0 F_device (g := (mkF m 1 #[vR a1] [iR a1])) rfl rfl (hb hby d10_1)
  obtain ⟨fs, hr, hrun, hended, hW, hsame⟩ := X1.leave (v := some (.int (1 : Int32))) (fun h => by rw [Bd.returns] at h; cases h)
  refine ⟨_, _, pre0 _ ?_, hrun, hended, _, _, rfl, ?_, ⟨_, rfl⟩, hW, hsame.mono (by decide) (by decide)⟩
  · show Steps _ _ _ (s₁.setTop (mkF m 0 #[vR a1] [])) _
    refine XS.aloadN X0.here hx rfl (hb hby d10_0) rfl rfl ?_
    show Steps _ _ _ (s₁.setTop (mkF m 1 #[vR a1] [iR a1])) _
    refine st1 _ ?_
    show Steps _ _ _ (T1.setTop (mkF m 4 #[vR a1] [iR fdv])) _
    refine XS.ifnullNo X1.here hx rfl (hb hby d10_4) rfl ?_
    show Steps _ _ _ (T1.setTop (mkF m 7 #[vR a1] [])) _
    refine XS.iconst X1.here hx rfl (hb hby d10_7) ?_
    show Steps _ _ _ (T1.setTop (mkF m 8 #[vR a1] [iI 1])) _
    refine XS.goto X1.here hx rfl (pc0 := 8) (pc' := 12) rfl (hb hby d10_8) (by decide) (by decide) ?_
    show Steps _ _ _ (T1.setTop (mkF m 12 #[vR a1] [iI 1])) _
    exact retN X1 hx (t := .boolean) Bd.returns (by simp) (hb hby d10_12) hr
  · show Q10_r Z a1 fdv h0 _ T1.heap _
    rw [e1]
    exact ⟨rfl, rfl, rfl⟩
theorem ef_11_r (m : MethodId) (x0 : Addr) (x1 : Int64) (x2 : Int32) : entryFrame m #[(.ref x0), (.long x1), (.int x2)] 4 = mkF m 0 #[.val (.ref x0), .val (.long x1), .second, .val (.int x2)] [] := by first | (simp [entryFrame, mkF, argsToLocals, Value.category]; done) | rfl
def Q11_r (Z : State) (a1 : Addr) (q2 : Int64) (p3 : Int32) (fid fst : Addr) (fap fco fcr : Int64) (ffa : Int32) (fdv : Addr) (h0 : Heap) (n0 : Nat) (v : Option Value) (h : Heap) (L : List Loc) : Prop := ∃ (o : Addr), v = some (.ref o) ∧ Fr n0 L ∧ Keep h0 h [] ∧ Exa Z h o "com/example/threefold/threefold/store/Activation" ∧ Fld Z h o "com/example/threefold/threefold/store/Activation" "device" "Lcom/example/threefold/threefold/store/Device;" (.ref fdv)
set_option maxRecDepth 65536 in
set_option maxHeartbeats 40000000 in
theorem rm11_r (l : Launch) (Z : State) (a0 : Array Value) (hw : ∀ d ∈ tables_1, d.before a0 Z = true) (ws : List Jvm.Cond) (a1 : Addr) (q2 : Int64) (p3 : Int32) (fid fst : Addr) (fap fco fcr : Int64) (ffa : Int32) (fdv : Addr) (h0 : Heap) (n0 : Nat) (Z0 : n0 ≤ h0.size) (E_a1 : Exa Z h0 a1 "com/example/threefold/threefold/store/Activation") (F_activationId : Fld Z h0 a1 "com/example/threefold/threefold/store/Activation" "activationId" "Ljava/lang/String;" (.ref fid)) (F_applicationId : Fld Z h0 a1 "com/example/threefold/threefold/store/Activation" "applicationId" "J" (.long fap)) (F_userId : Fld Z h0 a1 "com/example/threefold/threefold/store/Activation" "userId" "Ljava/lang/String;" .null) (F_status : Fld Z h0 a1 "com/example/threefold/threefold/store/Activation" "status" "Lcom/example/threefold/threefold/protocol/ActivationStatus;" (.ref fst)) (F_counter : Fld Z h0 a1 "com/example/threefold/threefold/store/Activation" "counter" "J" (.long fco)) (F_failedAttempts : Fld Z h0 a1 "com/example/threefold/threefold/store/Activation" "failedAttempts" "I" (.int ffa)) (F_blockedReason : Fld Z h0 a1 "com/example/threefold/threefold/store/Activation" "blockedReason" "Ljava/lang/String;" .null) (F_code : Fld Z h0 a1 "com/example/threefold/threefold/store/Activation" "code" "Lcom/example/threefold/threefold/protocol/ActivationCode;" .null) (F_device : Fld Z h0 a1 "com/example/threefold/threefold/store/Activation" "device" "Lcom/example/threefold/threefold/store/Device;" (.ref fdv)) (F_createdAt : Fld Z h0 a1 "com/example/threefold/threefold/store/Activation" "createdAt" "J" (.long fcr)) :
    MetFree l (⟨"com/example/threefold/threefold/store/Activation", "withCounters", "(JI)Lcom/example/threefold/threefold/store/Activation;"⟩ : MethodName) (head1 (Jvm.Cond.code (⟨"com/example/threefold/threefold/store/Activation", "withCounters", "(JI)Lcom/example/threefold/threefold/store/Activation;"⟩ : MethodName) prog_37_method_2_code 4 (some (.object "com/example/threefold/threefold/store/Activation")) :: ws) ({ frames := 3, cells := 1, slots := 10, locals := 50 } : Room)) (fun a U => a = #[(.ref a1), (.long q2), (.int p3)] ∧ Z.Warmed39 U.vm ∧ U.heap = h0) (fun _ _ _ _ _ => True) (fun _ U o U' => ∃ v L, o = .returned v ∧ Q11_r Z a1 q2 p3 fid fst fap fco fcr ffa fdv h0 n0 v U'.heap L ∧ FrameEnd U o U' L ({ frames := 3, cells := 1, slots := 10, locals := 50 } : Room).cells ({ frames := 3, cells := 1, slots := 10, locals := 50 } : Room).slots) := by
  refine MetFree.of_bodySF (plainFor_of_name pn_3) hisR ?_
  intro p e s m args below meth c s₁ Bd hml0 hP hK
  obtain ⟨rfl, hZ, hh⟩ := hP
  have hx := Bd.exec
  have hby := Bd.bytes
  have hml : c.maxLocals = 4 := hml0
  have hown : s.vm.findClass "com/example/threefold/threefold/store/Activation" = some m.cls := findClass_of_methodNamed Bd.named
  have hnm := (name_of_methodNamed Bd.named Bd.method).1
  have X0 : Stand p l e ({ frames := 3, cells := 1, slots := 10, locals := 50 } : Room) s m #[(.ref a1), (.long q2), (.int p3)] below meth c s₁ [] 0 0 := Stand.of_body Bd
  have e0 : s₁.heap = h0 := by rw [← hh, Bd.state]; rfl
  have N0 := Fr.nil n0
  have K0 := Keep.refl h0 []
  have pre0 : ∀ t, Steps p.tables e below (s₁.setTop (mkF m 0 #[.val (.ref a1), .val (.long q2), .second, .val (.int p3)] [])) t → Steps p.tables e below (s₁.setTop (entryFrame m #[(.ref a1), (.long q2), (.int p3)] 4)) t := fun t k => castTop (ef_11_r m a1 q2 p3) k
  obtain ⟨T1, h1, X1, e1, E1, A1, D1, -, st1⟩ := newO X0 hx hZ hown (hw _ (List.mem_of_getElem? (i := 80) rfl)) (hw _ (List.mem_of_getElem? (i := 10) rfl)) (hw _ (List.mem_of_getElem? (i := 11) rfl)) e0 (g := (mkF m 0 #[vR a1, vJ q2, .second, vI p3] [])) rfl (hb hby d11_0) (by decide) (by decide)
  obtain ⟨b1, g1⟩ : ∃ z, z = h0.size := ⟨_, rfl⟩
  rw [← g1] at A1 D1 st1
  have ne_a1_b1 : a1 ≠ b1 := Nat.ne_of_lt (Nat.lt_of_lt_of_le E_a1.lt (Nat.le_of_eq g1.symm))
  have sz_b1 : h0.size ≤ b1 := Nat.le_trans K0.1 (Nat.le_of_eq g1.symm)
  have g_b1 : n0 ≤ b1 := Nat.le_trans Z0 sz_b1
  have K1 : Keep h0 h1 [] := K0.ext E1
  have F_activationId_b1 : Fld Z h1 b1 "com/example/threefold/threefold/store/Activation" "activationId" "Ljava/lang/String;" .null := D1 (Or.inr (hw _ (List.mem_of_getElem? (i := 51) rfl))) (ty := (.object "java/lang/String")) (by decide)
  have F_applicationId_b1 : Fld Z h1 b1 "com/example/threefold/threefold/store/Activation" "applicationId" "J" (.long (0 : Int64)) := D1 (Or.inr (hw _ (List.mem_of_getElem? (i := 53) rfl))) (ty := .long) (by decide)
  have F_userId_b1 : Fld Z h1 b1 "com/example/threefold/threefold/store/Activation" "userId" "Ljava/lang/String;" .null := D1 (Or.inr (hw _ (List.mem_of_getElem? (i := 55) rfl))) (ty := (.object "java/lang/String")) (by decide)
  have F_status_b1 : Fld Z h1 b1 "com/example/threefold/threefold/store/Activation" "status" "Lcom/example/threefold/threefold/protocol/ActivationStatus;" .null := D1 (Or.inr (hw _ (List.mem_of_getElem? (i := 57) rfl))) (ty := (.object "com/example/threefold/threefold/protocol/ActivationStatus")) (by decide)
  have F_counter_b1 : Fld Z h1 b1 "com/example/threefold/threefold/store/Activation" "counter" "J" (.long (0 : Int64)) := D1 (Or.inr (hw _ (List.mem_of_getElem? (i := 59) rfl))) (ty := .long) (by decide)
  have F_failedAttempts_b1 : Fld Z h1 b1 "com/example/threefold/threefold/store/Activation" "failedAttempts" "I" (.int (0 : Int32)) := D1 (Or.inr (hw _ (List.mem_of_getElem? (i := 61) rfl))) (ty := .int) (by decide)
  have F_blockedReason_b1 : Fld Z h1 b1 "com/example/threefold/threefold/store/Activation" "blockedReason" "Ljava/lang/String;" .null := D1 (Or.inr (hw _ (List.mem_of_getElem? (i := 63) rfl))) (ty := (.object "java/lang/String")) (by decide)
  have F_code_b1 : Fld Z h1 b1 "com/example/threefold/threefold/store/Activation" "code" "Lcom/example/threefold/threefold/protocol/ActivationCode;" .null := D1 (Or.inr (hw _ (List.mem_of_getElem? (i := 65) rfl))) (ty := (.object "com/example/threefold/threefold/protocol/ActivationCode")) (by decide)
  have F_device_b1 : Fld Z h1 b1 "com/example/threefold/threefold/store/Activation" "device" "Lcom/example/threefold/threefold/store/Device;" .null := D1 (Or.inr (hw _ (List.mem_of_getElem? (i := 67) rfl))) (ty := (.object "com/example/threefold/threefold/store/Device")) (by decide)
  have F_createdAt_b1 : Fld Z h1 b1 "com/example/threefold/threefold/store/Activation" "createdAt" "J" (.long (0 : Int64)) := D1 (Or.inr (hw _ (List.mem_of_getElem? (i := 69) rfl))) (ty := .long) (by decide)
  have fk2 := (F_activationId.ext E1)
  obtain ⟨T3, X3, e3, st3⟩ := getF X1 hx hZ hown (host := "") (Or.inl (hw _ (List.mem_of_getElem? (i := 50) rfl))) Via.refl e1 fk2 (g := (mkF m 5 #[vR a1, vJ q2, .second, vI p3] [iR a1, iR b1, iR b1])) rfl rfl (hb hby d11_5)
  have fk4 := (F_applicationId.ext E1)
  obtain ⟨T5, X5, e5, st5⟩ := getF X3 hx hZ hown (host := "") (Or.inl (hw _ (List.mem_of_getElem? (i := 52) rfl))) Via.refl e3 fk4 (g := (mkF m 9 #[vR a1, vJ q2, .second, vI p3] [iR a1, iR fid, iR b1, iR b1])) rfl rfl (hb hby d11_9)
  have fk6 := (F_userId.ext E1)
  obtain ⟨T7, X7, e7, st7⟩ := getF X5 hx hZ hown (host := "") (Or.inl (hw _ (List.mem_of_getElem? (i := 54) rfl))) Via.refl e5 fk6 (g := (mkF m 13 #[vR a1, vJ q2, .second, vI p3] [iR a1, iJ fap, iR fid, iR b1, iR b1])) rfl rfl (hb hby d11_13)
  have fk8 := (F_status.ext E1)
  obtain ⟨T9, X9, e9, st9⟩ := getF X7 hx hZ hown (host := "") (Or.inl (hw _ (List.mem_of_getElem? (i := 56) rfl))) Via.refl e7 fk8 (g := (mkF m 17 #[vR a1, vJ q2, .second, vI p3] [iR a1, .null, iJ fap, iR fid, iR b1, iR b1])) rfl rfl (hb hby d11_17)
  have fk10 := (F_blockedReason.ext E1)
  obtain ⟨T11, X11, e11, st11⟩ := getF X9 hx hZ hown (host := "") (Or.inl (hw _ (List.mem_of_getElem? (i := 62) rfl))) Via.refl e9 fk10 (g := (mkF m 23 #[vR a1, vJ q2, .second, vI p3] [iR a1, iI p3, iJ q2, iR fst, .null, iJ fap, iR fid, iR b1, iR b1])) rfl rfl (hb hby d11_23)
  have fk12 := (F_code.ext E1)
  obtain ⟨T13, X13, e13, st13⟩ := getF X11 hx hZ hown (host := "") (Or.inl (hw _ (List.mem_of_getElem? (i := 64) rfl))) Via.refl e11 fk12 (g := (mkF m 27 #[vR a1, vJ q2, .second, vI p3] [iR a1, .null, iI p3, iJ q2, iR fst, .null, iJ fap, iR fid, iR b1, iR b1])) rfl rfl (hb hby d11_27)
  have fk14 := (F_device.ext E1)
  obtain ⟨T15, X15, e15, st15⟩ := getF X13 hx hZ hown (host := "") (Or.inl (hw _ (List.mem_of_getElem? (i := 66) rfl))) Via.refl e13 fk14 (g := (mkF m 31 #[vR a1, vJ q2, .second, vI p3] [iR a1, .null, .null, iI p3, iJ q2, iR fst, .null, iJ fap, iR fid, iR b1, iR b1])) rfl rfl (hb hby d11_31)
  have fk16 := (F_createdAt.ext E1)
  obtain ⟨T17, X17, e17, st17⟩ := getF X15 hx hZ hown (host := "") (Or.inl (hw _ (List.mem_of_getElem? (i := 68) rfl))) Via.refl e15 fk16 (g := (mkF m 35 #[vR a1, vJ q2, .second, vI p3] [iR a1, iR fdv, .null, .null, iI p3, iJ q2, iR fst, .null, iJ fap, iR fid, iR b1, iR b1])) rfl rfl (hb hby d11_35)
  obtain ⟨_, _, ⟨T18, L18, k18, n18⟩, -, X18, ⟨Lc18, hQ18, l18, y18, z18⟩, st18⟩ := X17.specialBack hx (y := (⟨"com/example/threefold/threefold/store/Activation", "<init>", "(Ljava/lang/String;JLjava/lang/String;Lcom/example/threefold/threefold/protocol/ActivationStatus;JILjava/lang/String;Lcom/example/threefold/threefold/protocol/ActivationCode;Lcom/example/threefold/threefold/store/Device;J)V"⟩ : MethodName)) rfl hown (mvT hZ (hw _ (List.mem_of_getElem? (i := 81) rfl))) (mvT hZ (hw _ (List.mem_of_getElem? (i := 42) rfl))) (mvT hZ (hw _ (List.mem_of_getElem? (i := 43) rfl))) (by decide) (backOf (W := 1) (rm8_nr l Z a0 hw [] b1 fid fap fst q2 p3 fdv fcr h1 n0 (Nat.le_trans Z0 K1.1) A1 g_b1 F_activationId_b1 F_applicationId_b1 F_userId_b1 F_status_b1 F_counter_b1 F_failedAttempts_b1 F_blockedReason_b1 F_code_b1 F_device_b1 F_createdAt_b1) hZ (hw _ (List.mem_of_getElem? (i := 43) rfl)) (hw _ (List.mem_of_getElem? (i := 11) rfl)) (by decide) (by decide)) (g := (mkF m 38 #[vR a1, vJ q2, .second, vI p3] [iJ fcr, iR fdv, .null, .null, iI p3, iJ q2, iR fst, .null, iJ fap, iR fid, iR b1, iR b1])) rfl (by rw [hml]; rfl) (Steps.refl _) (a := b1) (argsL := [(.ref fid), (.long fap), .null, (.ref fst), (.long q2), (.int p3), .null, .null, (.ref fdv), (.long fcr)]) (rest := [(.ref b1)]) (lenOf pd_1 rfl) rfl (by show 2 * 0 + _ ≤ _; exact Nat.le_of_eq rfl) (hb hby d11_38) (fun _ _ => ⟨rfl, e17, (by decide : 1 + 0 ≤ _), (by decide : 10 + 0 ≤ _)⟩)
  dsimp only [Pt.U, Pt.locs, Pt.cells, Pt.slots] at X18 l18 y18 z18 st18 hQ18
  subst l18 y18 z18
  obtain ⟨rfl, N18q, K18q, E18q, F18_activationId, F18_applicationId, F18_userId, F18_status, F18_counter, F18_failedAttempts, F18_blockedReason, F18_code, F18_device, F18_createdAt⟩ := hQ18
  have N18 := Fr.app N0 N18q
  have K18 : Keep h0 T18.heap [] := Keep.trans K1 K18q (allS (Or.inr sz_b1) all0)
  obtain ⟨fs, hr, hrun, hended, hW, hsame⟩ := X18.leave (v := some (.ref b1)) (fun h => by rw [Bd.returns] at h; cases h)
  refine ⟨_, _, pre0 _ ?_, hrun, hended, _, _, rfl, ?_, ⟨_, rfl⟩, hW, hsame.mono (by decide) (by decide)⟩
  · show Steps _ _ _ (s₁.setTop (mkF m 0 #[vR a1, vJ q2, .second, vI p3] [])) _
    refine st1 _ ?_
    show Steps _ _ _ (T1.setTop (mkF m 3 #[vR a1, vJ q2, .second, vI p3] [iR b1])) _
    refine XS.dup X1.here hx rfl (hb hby d11_3) rfl rfl ?_
    show Steps _ _ _ (T1.setTop (mkF m 4 #[vR a1, vJ q2, .second, vI p3] [iR b1, iR b1])) _
    refine XS.aloadN X1.here hx rfl (hb hby d11_4) rfl rfl ?_
    show Steps _ _ _ (T1.setTop (mkF m 5 #[vR a1, vJ q2, .second, vI p3] [iR a1, iR b1, iR b1])) _
    refine st3 _ ?_
    show Steps _ _ _ (T3.setTop (mkF m 8 #[vR a1, vJ q2, .second, vI p3] [iR fid, iR b1, iR b1])) _
    refine XS.aloadN X3.here hx rfl (hb hby d11_8) rfl rfl ?_
    show Steps _ _ _ (T3.setTop (mkF m 9 #[vR a1, vJ q2, .second, vI p3] [iR a1, iR fid, iR b1, iR b1])) _
    refine st5 _ ?_
    show Steps _ _ _ (T5.setTop (mkF m 12 #[vR a1, vJ q2, .second, vI p3] [iJ fap, iR fid, iR b1, iR b1])) _
    refine XS.aloadN X5.here hx rfl (hb hby d11_12) rfl rfl ?_
    show Steps _ _ _ (T5.setTop (mkF m 13 #[vR a1, vJ q2, .second, vI p3] [iR a1, iJ fap, iR fid, iR b1, iR b1])) _
    refine st7 _ ?_
    show Steps _ _ _ (T7.setTop (mkF m 16 #[vR a1, vJ q2, .second, vI p3] [.null, iJ fap, iR fid, iR b1, iR b1])) _
    refine XS.aloadN X7.here hx rfl (hb hby d11_16) rfl rfl ?_
    show Steps _ _ _ (T7.setTop (mkF m 17 #[vR a1, vJ q2, .second, vI p3] [iR a1, .null, iJ fap, iR fid, iR b1, iR b1])) _
    refine st9 _ ?_
    show Steps _ _ _ (T9.setTop (mkF m 20 #[vR a1, vJ q2, .second, vI p3] [iR fst, .null, iJ fap, iR fid, iR b1, iR b1])) _
    refine XS.lloadN X9.here hx rfl (hb hby d11_20) rfl ?_
    show Steps _ _ _ (T9.setTop (mkF m 21 #[vR a1, vJ q2, .second, vI p3] [iJ q2, iR fst, .null, iJ fap, iR fid, iR b1, iR b1])) _
    refine XS.iloadN X9.here hx rfl (hb hby d11_21) rfl ?_
    show Steps _ _ _ (T9.setTop (mkF m 22 #[vR a1, vJ q2, .second, vI p3] [iI p3, iJ q2, iR fst, .null, iJ fap, iR fid, iR b1, iR b1])) _
    refine XS.aloadN X9.here hx rfl (hb hby d11_22) rfl rfl ?_
    show Steps _ _ _ (T9.setTop (mkF m 23 #[vR a1, vJ q2, .second, vI p3] [iR a1, iI p3, iJ q2, iR fst, .null, iJ fap, iR fid, iR b1, iR b1])) _
    refine st11 _ ?_
    show Steps _ _ _ (T11.setTop (mkF m 26 #[vR a1, vJ q2, .second, vI p3] [.null, iI p3, iJ q2, iR fst, .null, iJ fap, iR fid, iR b1, iR b1])) _
    refine XS.aloadN X11.here hx rfl (hb hby d11_26) rfl rfl ?_
    show Steps _ _ _ (T11.setTop (mkF m 27 #[vR a1, vJ q2, .second, vI p3] [iR a1, .null, iI p3, iJ q2, iR fst, .null, iJ fap, iR fid, iR b1, iR b1])) _
    refine st13 _ ?_
    show Steps _ _ _ (T13.setTop (mkF m 30 #[vR a1, vJ q2, .second, vI p3] [.null, .null, iI p3, iJ q2, iR fst, .null, iJ fap, iR fid, iR b1, iR b1])) _
    refine XS.aloadN X13.here hx rfl (hb hby d11_30) rfl rfl ?_
    show Steps _ _ _ (T13.setTop (mkF m 31 #[vR a1, vJ q2, .second, vI p3] [iR a1, .null, .null, iI p3, iJ q2, iR fst, .null, iJ fap, iR fid, iR b1, iR b1])) _
    refine st15 _ ?_
    show Steps _ _ _ (T15.setTop (mkF m 34 #[vR a1, vJ q2, .second, vI p3] [iR fdv, .null, .null, iI p3, iJ q2, iR fst, .null, iJ fap, iR fid, iR b1, iR b1])) _
    refine XS.aloadN X15.here hx rfl (hb hby d11_34) rfl rfl ?_
    show Steps _ _ _ (T15.setTop (mkF m 35 #[vR a1, vJ q2, .second, vI p3] [iR a1, iR fdv, .null, .null, iI p3, iJ q2, iR fst, .null, iJ fap, iR fid, iR b1, iR b1])) _
    refine st17 _ ?_
    show Steps _ _ _ (T17.setTop (mkF m 38 #[vR a1, vJ q2, .second, vI p3] [iJ fcr, iR fdv, .null, .null, iI p3, iJ q2, iR fst, .null, iJ fap, iR fid, iR b1, iR b1])) _
    refine st18.trans ?_
    show Steps _ _ _ (T18.setTop (mkF m 41 #[vR a1, vJ q2, .second, vI p3] [iR b1])) _
    jvm_step X18.here [X18.here.top, hx, (hb hby d11_41), X18.method', Bd.returns, Value.isRef, FieldType.isReference]
    first | (intro acts; rw [hr _ acts rfl rfl rfl]) | rw [hr _ _ rfl rfl rfl]
    exact Steps.refl _
  · show Q11_r Z a1 q2 p3 fid fst fap fco fcr ffa fdv h0 n0 _ T18.heap _
    exact ⟨_, rfl, N18, K18, E18q, F18_device⟩
theorem ef_14_nr (m : MethodId) (x0 : Addr) (x1 : Addr) (x2 : Int32) : entryFrame m #[(.ref x0), (.ref x1), (.int x2), .null] 4 = mkF m 0 #[.val (.ref x0), .val (.ref x1), .val (.int x2), .val .null] [] := by first | (simp [entryFrame, mkF, argsToLocals, Value.category]; done) | rfl
def Q14_nr (Z : State) (a1 : Addr) (a2 : Addr) (p3 : Int32) (fid fst : Addr) (fap fco fcr : Int64) (ffa : Int32) (fdv : Addr) (h0 : Heap) (n0 : Nat) (v : Option Value) (h : Heap) (L : List Loc) : Prop := ∃ (o : Addr), v = some (.ref o) ∧ Fr n0 L ∧ Keep h0 h [] ∧ Exa Z h o "com/example/threefold/threefold/store/Activation" ∧ Fld Z h o "com/example/threefold/threefold/store/Activation" "device" "Lcom/example/threefold/threefold/store/Device;" (.ref fdv)
set_option maxRecDepth 65536 in
set_option maxHeartbeats 40000000 in
theorem rm14_nr (l : Launch) (Z : State) (a0 : Array Value) (hw : ∀ d ∈ tables_1, d.before a0 Z = true) (ws : List Jvm.Cond) (a1 : Addr) (a2 : Addr) (p3 : Int32) (fid fst : Addr) (fap fco fcr : Int64) (ffa : Int32) (fdv : Addr) (h0 : Heap) (n0 : Nat) (Z0 : n0 ≤ h0.size) (E_a1 : Exa Z h0 a1 "com/example/threefold/threefold/store/Activation") (F_activationId : Fld Z h0 a1 "com/example/threefold/threefold/store/Activation" "activationId" "Ljava/lang/String;" (.ref fid)) (F_applicationId : Fld Z h0 a1 "com/example/threefold/threefold/store/Activation" "applicationId" "J" (.long fap)) (F_userId : Fld Z h0 a1 "com/example/threefold/threefold/store/Activation" "userId" "Ljava/lang/String;" .null) (F_status : Fld Z h0 a1 "com/example/threefold/threefold/store/Activation" "status" "Lcom/example/threefold/threefold/protocol/ActivationStatus;" (.ref fst)) (F_counter : Fld Z h0 a1 "com/example/threefold/threefold/store/Activation" "counter" "J" (.long fco)) (F_failedAttempts : Fld Z h0 a1 "com/example/threefold/threefold/store/Activation" "failedAttempts" "I" (.int ffa)) (F_blockedReason : Fld Z h0 a1 "com/example/threefold/threefold/store/Activation" "blockedReason" "Ljava/lang/String;" .null) (F_code : Fld Z h0 a1 "com/example/threefold/threefold/store/Activation" "code" "Lcom/example/threefold/threefold/protocol/ActivationCode;" .null) (F_device : Fld Z h0 a1 "com/example/threefold/threefold/store/Activation" "device" "Lcom/example/threefold/threefold/store/Device;" (.ref fdv)) (F_createdAt : Fld Z h0 a1 "com/example/threefold/threefold/store/Activation" "createdAt" "J" (.long fcr)) :
    MetFree l (⟨"com/example/threefold/threefold/store/Activation", "withState", "(Lcom/example/threefold/threefold/protocol/ActivationStatus;ILjava/lang/String;)Lcom/example/threefold/threefold/store/Activation;"⟩ : MethodName) (head1 (Jvm.Cond.code (⟨"com/example/threefold/threefold/store/Activation", "withState", "(Lcom/example/threefold/threefold/protocol/ActivationStatus;ILjava/lang/String;)Lcom/example/threefold/threefold/store/Activation;"⟩ : MethodName) prog_37_method_15_code 4 (some (.object "com/example/threefold/threefold/store/Activation")) :: ws) ({ frames := 3, cells := 1, slots := 10, locals := 50 } : Room)) (fun a U => a = #[(.ref a1), (.ref a2), (.int p3), .null] ∧ Z.Warmed39 U.vm ∧ U.heap = h0) (fun _ _ _ _ _ => True) (fun _ U o U' => ∃ v L, o = .returned v ∧ Q14_nr Z a1 a2 p3 fid fst fap fco fcr ffa fdv h0 n0 v U'.heap L ∧ FrameEnd U o U' L ({ frames := 3, cells := 1, slots := 10, locals := 50 } : Room).cells ({ frames := 3, cells := 1, slots := 10, locals := 50 } : Room).slots) := by
  refine MetFree.of_bodySF (plainFor_of_name pn_3) hisR ?_
  intro p e s m args below meth c s₁ Bd hml0 hP hK
  obtain ⟨rfl, hZ, hh⟩ := hP
  have hx := Bd.exec
  have hby := Bd.bytes
  have hml : c.maxLocals = 4 := hml0
  have hown : s.vm.findClass "com/example/threefold/threefold/store/Activation" = some m.cls := findClass_of_methodNamed Bd.named
  have hnm := (name_of_methodNamed Bd.named Bd.method).1
  have X0 : Stand p l e ({ frames := 3, cells := 1, slots := 10, locals := 50 } : Room) s m #[(.ref a1), (.ref a2), (.int p3), .null] below meth c s₁ [] 0 0 := Stand.of_body Bd
  have e0 : s₁.heap = h0 := by rw [← hh, Bd.state]; rfl
  have N0 := Fr.nil n0
  have K0 := Keep.refl h0 []
  have pre0 : ∀ t, Steps p.tables e below (s₁.setTop (mkF m 0 #[.val (.ref a1), .val (.ref a2), .val (.int p3), .val .null] [])) t → Steps p.tables e below (s₁.setTop (entryFrame m #[(.ref a1), (.ref a2), (.int p3), .null] 4)) t := fun t k => castTop (ef_14_nr m a1 a2 p3) k
  obtain ⟨T1, h1, X1, e1, E1, A1, D1, -, st1⟩ := newO X0 hx hZ hown (hw _ (List.mem_of_getElem? (i := 80) rfl)) (hw _ (List.mem_of_getElem? (i := 10) rfl)) (hw _ (List.mem_of_getElem? (i := 11) rfl)) e0 (g := (mkF m 0 #[vR a1, vR a2, vI p3, .val .null] [])) rfl (hb hby d14_0) (by decide) (by decide)
  obtain ⟨b1, g1⟩ : ∃ z, z = h0.size := ⟨_, rfl⟩
  rw [← g1] at A1 D1 st1
  have ne_a1_b1 : a1 ≠ b1 := Nat.ne_of_lt (Nat.lt_of_lt_of_le E_a1.lt (Nat.le_of_eq g1.symm))
  have sz_b1 : h0.size ≤ b1 := Nat.le_trans K0.1 (Nat.le_of_eq g1.symm)
  have g_b1 : n0 ≤ b1 := Nat.le_trans Z0 sz_b1
  have K1 : Keep h0 h1 [] := K0.ext E1
  have F_activationId_b1 : Fld Z h1 b1 "com/example/threefold/threefold/store/Activation" "activationId" "Ljava/lang/String;" .null := D1 (Or.inr (hw _ (List.mem_of_getElem? (i := 51) rfl))) (ty := (.object "java/lang/String")) (by decide)
  have F_applicationId_b1 : Fld Z h1 b1 "com/example/threefold/threefold/store/Activation" "applicationId" "J" (.long (0 : Int64)) := D1 (Or.inr (hw _ (List.mem_of_getElem? (i := 53) rfl))) (ty := .long) (by decide)
  have F_userId_b1 : Fld Z h1 b1 "com/example/threefold/threefold/store/Activation" "userId" "Ljava/lang/String;" .null := D1 (Or.inr (hw _ (List.mem_of_getElem? (i := 55) rfl))) (ty := (.object "java/lang/String")) (by decide)
  have F_status_b1 : Fld Z h1 b1 "com/example/threefold/threefold/store/Activation" "status" "Lcom/example/threefold/threefold/protocol/ActivationStatus;" .null := D1 (Or.inr (hw _ (List.mem_of_getElem? (i := 57) rfl))) (ty := (.object "com/example/threefold/threefold/protocol/ActivationStatus")) (by decide)
  have F_counter_b1 : Fld Z h1 b1 "com/example/threefold/threefold/store/Activation" "counter" "J" (.long (0 : Int64)) := D1 (Or.inr (hw _ (List.mem_of_getElem? (i := 59) rfl))) (ty := .long) (by decide)
  have F_failedAttempts_b1 : Fld Z h1 b1 "com/example/threefold/threefold/store/Activation" "failedAttempts" "I" (.int (0 : Int32)) := D1 (Or.inr (hw _ (List.mem_of_getElem? (i := 61) rfl))) (ty := .int) (by decide)
  have F_blockedReason_b1 : Fld Z h1 b1 "com/example/threefold/threefold/store/Activation" "blockedReason" "Ljava/lang/String;" .null := D1 (Or.inr (hw _ (List.mem_of_getElem? (i := 63) rfl))) (ty := (.object "java/lang/String")) (by decide)
  have F_code_b1 : Fld Z h1 b1 "com/example/threefold/threefold/store/Activation" "code" "Lcom/example/threefold/threefold/protocol/ActivationCode;" .null := D1 (Or.inr (hw _ (List.mem_of_getElem? (i := 65) rfl))) (ty := (.object "com/example/threefold/threefold/protocol/ActivationCode")) (by decide)
  have F_device_b1 : Fld Z h1 b1 "com/example/threefold/threefold/store/Activation" "device" "Lcom/example/threefold/threefold/store/Device;" .null := D1 (Or.inr (hw _ (List.mem_of_getElem? (i := 67) rfl))) (ty := (.object "com/example/threefold/threefold/store/Device")) (by decide)
  have F_createdAt_b1 : Fld Z h1 b1 "com/example/threefold/threefold/store/Activation" "createdAt" "J" (.long (0 : Int64)) := D1 (Or.inr (hw _ (List.mem_of_getElem? (i := 69) rfl))) (ty := .long) (by decide)
  have fk2 := (F_activationId.ext E1)
  obtain ⟨T3, X3, e3, st3⟩ := getF X1 hx hZ hown (host := "") (Or.inl (hw _ (List.mem_of_getElem? (i := 50) rfl))) Via.refl e1 fk2 (g := (mkF m 5 #[vR a1, vR a2, vI p3, .val .null] [iR a1, iR b1, iR b1])) rfl rfl (hb hby d14_5)
  have fk4 := (F_applicationId.ext E1)
  obtain ⟨T5, X5, e5, st5⟩ := getF X3 hx hZ hown (host := "") (Or.inl (hw _ (List.mem_of_getElem? (i := 52) rfl))) Via.refl e3 fk4 (g := (mkF m 9 #[vR a1, vR a2, vI p3, .val .null] [iR a1, iR fid, iR b1, iR b1])) rfl rfl (hb hby d14_9)
  have fk6 := (F_userId.ext E1)
  obtain ⟨T7, X7, e7, st7⟩ := getF X5 hx hZ hown (host := "") (Or.inl (hw _ (List.mem_of_getElem? (i := 54) rfl))) Via.refl e5 fk6 (g := (mkF m 13 #[vR a1, vR a2, vI p3, .val .null] [iR a1, iJ fap, iR fid, iR b1, iR b1])) rfl rfl (hb hby d14_13)
  have fk8 := (F_counter.ext E1)
  obtain ⟨T9, X9, e9, st9⟩ := getF X7 hx hZ hown (host := "") (Or.inl (hw _ (List.mem_of_getElem? (i := 58) rfl))) Via.refl e7 fk8 (g := (mkF m 18 #[vR a1, vR a2, vI p3, .val .null] [iR a1, iR a2, .null, iJ fap, iR fid, iR b1, iR b1])) rfl rfl (hb hby d14_18)
  have fk10 := (F_code.ext E1)
  obtain ⟨T11, X11, e11, st11⟩ := getF X9 hx hZ hown (host := "") (Or.inl (hw _ (List.mem_of_getElem? (i := 64) rfl))) Via.refl e9 fk10 (g := (mkF m 24 #[vR a1, vR a2, vI p3, .val .null] [iR a1, .null, iI p3, iJ fco, iR a2, .null, iJ fap, iR fid, iR b1, iR b1])) rfl rfl (hb hby d14_24)
  have fk12 := (F_device.ext E1)
  obtain ⟨T13, X13, e13, st13⟩ := getF X11 hx hZ hown (host := "") (Or.inl (hw _ (List.mem_of_getElem? (i := 66) rfl))) Via.refl e11 fk12 (g := (mkF m 28 #[vR a1, vR a2, vI p3, .val .null] [iR a1, .null, .null, iI p3, iJ fco, iR a2, .null, iJ fap, iR fid, iR b1, iR b1])) rfl rfl (hb hby d14_28)
  have fk14 := (F_createdAt.ext E1)
  obtain ⟨T15, X15, e15, st15⟩ := getF X13 hx hZ hown (host := "") (Or.inl (hw _ (List.mem_of_getElem? (i := 68) rfl))) Via.refl e13 fk14 (g := (mkF m 32 #[vR a1, vR a2, vI p3, .val .null] [iR a1, iR fdv, .null, .null, iI p3, iJ fco, iR a2, .null, iJ fap, iR fid, iR b1, iR b1])) rfl rfl (hb hby d14_32)
  obtain ⟨_, _, ⟨T16, L16, k16, n16⟩, -, X16, ⟨Lc16, hQ16, l16, y16, z16⟩, st16⟩ := X15.specialBack hx (y := (⟨"com/example/threefold/threefold/store/Activation", "<init>", "(Ljava/lang/String;JLjava/lang/String;Lcom/example/threefold/threefold/protocol/ActivationStatus;JILjava/lang/String;Lcom/example/threefold/threefold/protocol/ActivationCode;Lcom/example/threefold/threefold/store/Device;J)V"⟩ : MethodName)) rfl hown (mvT hZ (hw _ (List.mem_of_getElem? (i := 81) rfl))) (mvT hZ (hw _ (List.mem_of_getElem? (i := 42) rfl))) (mvT hZ (hw _ (List.mem_of_getElem? (i := 43) rfl))) (by decide) (backOf (W := 1) (rm8_nr l Z a0 hw [] b1 fid fap a2 fco p3 fdv fcr h1 n0 (Nat.le_trans Z0 K1.1) A1 g_b1 F_activationId_b1 F_applicationId_b1 F_userId_b1 F_status_b1 F_counter_b1 F_failedAttempts_b1 F_blockedReason_b1 F_code_b1 F_device_b1 F_createdAt_b1) hZ (hw _ (List.mem_of_getElem? (i := 43) rfl)) (hw _ (List.mem_of_getElem? (i := 11) rfl)) (by decide) (by decide)) (g := (mkF m 35 #[vR a1, vR a2, vI p3, .val .null] [iJ fcr, iR fdv, .null, .null, iI p3, iJ fco, iR a2, .null, iJ fap, iR fid, iR b1, iR b1])) rfl (by rw [hml]; rfl) (Steps.refl _) (a := b1) (argsL := [(.ref fid), (.long fap), .null, (.ref a2), (.long fco), (.int p3), .null, .null, (.ref fdv), (.long fcr)]) (rest := [(.ref b1)]) (lenOf pd_1 rfl) rfl (by show 2 * 0 + _ ≤ _; exact Nat.le_of_eq rfl) (hb hby d14_35) (fun _ _ => ⟨rfl, e15, (by decide : 1 + 0 ≤ _), (by decide : 10 + 0 ≤ _)⟩)
  dsimp only [Pt.U, Pt.locs, Pt.cells, Pt.slots] at X16 l16 y16 z16 st16 hQ16
  subst l16 y16 z16
  obtain ⟨rfl, N16q, K16q, E16q, F16_activationId, F16_applicationId, F16_userId, F16_status, F16_counter, F16_failedAttempts, F16_blockedReason, F16_code, F16_device, F16_createdAt⟩ := hQ16
  have N16 := Fr.app N0 N16q
  have K16 : Keep h0 T16.heap [] := Keep.trans K1 K16q (allS (Or.inr sz_b1) all0)
  obtain ⟨fs, hr, hrun, hended, hW, hsame⟩ := X16.leave (v := some (.ref b1)) (fun h => by rw [Bd.returns] at h; cases h)
  refine ⟨_, _, pre0 _ ?_, hrun, hended, _, _, rfl, ?_, ⟨_, rfl⟩, hW, hsame.mono (by decide) (by decide)⟩
  · show Steps _ _ _ (s₁.setTop (mkF m 0 #[vR a1, vR a2, vI p3, .val .null] [])) _
    refine st1 _ ?_
    show Steps _ _ _ (T1.setTop (mkF m 3 #[vR a1, vR a2, vI p3, .val .null] [iR b1])) _
    refine XS.dup X1.here hx rfl (hb hby d14_3) rfl rfl ?_
    show Steps _ _ _ (T1.setTop (mkF m 4 #[vR a1, vR a2, vI p3, .val .null] [iR b1, iR b1])) _
    refine XS.aloadN X1.here hx rfl (hb hby d14_4) rfl rfl ?_
    show Steps _ _ _ (T1.setTop (mkF m 5 #[vR a1, vR a2, vI p3, .val .null] [iR a1, iR b1, iR b1])) _
    refine st3 _ ?_
    show Steps _ _ _ (T3.setTop (mkF m 8 #[vR a1, vR a2, vI p3, .val .null] [iR fid, iR b1, iR b1])) _
    refine XS.aloadN X3.here hx rfl (hb hby d14_8) rfl rfl ?_
    show Steps _ _ _ (T3.setTop (mkF m 9 #[vR a1, vR a2, vI p3, .val .null] [iR a1, iR fid, iR b1, iR b1])) _
    refine st5 _ ?_
    show Steps _ _ _ (T5.setTop (mkF m 12 #[vR a1, vR a2, vI p3, .val .null] [iJ fap, iR fid, iR b1, iR b1])) _
    refine XS.aloadN X5.here hx rfl (hb hby d14_12) rfl rfl ?_
    show Steps _ _ _ (T5.setTop (mkF m 13 #[vR a1, vR a2, vI p3, .val .null] [iR a1, iJ fap, iR fid, iR b1, iR b1])) _
    refine st7 _ ?_
    show Steps _ _ _ (T7.setTop (mkF m 16 #[vR a1, vR a2, vI p3, .val .null] [.null, iJ fap, iR fid, iR b1, iR b1])) _
    refine XS.aloadN X7.here hx rfl (hb hby d14_16) rfl rfl ?_
    show Steps _ _ _ (T7.setTop (mkF m 17 #[vR a1, vR a2, vI p3, .val .null] [iR a2, .null, iJ fap, iR fid, iR b1, iR b1])) _
    refine XS.aloadN X7.here hx rfl (hb hby d14_17) rfl rfl ?_
    show Steps _ _ _ (T7.setTop (mkF m 18 #[vR a1, vR a2, vI p3, .val .null] [iR a1, iR a2, .null, iJ fap, iR fid, iR b1, iR b1])) _
    refine st9 _ ?_
    show Steps _ _ _ (T9.setTop (mkF m 21 #[vR a1, vR a2, vI p3, .val .null] [iJ fco, iR a2, .null, iJ fap, iR fid, iR b1, iR b1])) _
    refine XS.iloadN X9.here hx rfl (hb hby d14_21) rfl ?_
    show Steps _ _ _ (T9.setTop (mkF m 22 #[vR a1, vR a2, vI p3, .val .null] [iI p3, iJ fco, iR a2, .null, iJ fap, iR fid, iR b1, iR b1])) _
    refine XS.aloadN X9.here hx rfl (hb hby d14_22) rfl rfl ?_
    show Steps _ _ _ (T9.setTop (mkF m 23 #[vR a1, vR a2, vI p3, .val .null] [.null, iI p3, iJ fco, iR a2, .null, iJ fap, iR fid, iR b1, iR b1])) _
    refine XS.aloadN X9.here hx rfl (hb hby d14_23) rfl rfl ?_
    show Steps _ _ _ (T9.setTop (mkF m 24 #[vR a1, vR a2, vI p3, .val .null] [iR a1, .null, iI p3, iJ fco, iR a2, .null, iJ fap, iR fid, iR b1, iR b1])) _
    refine st11 _ ?_
    show Steps _ _ _ (T11.setTop (mkF m 27 #[vR a1, vR a2, vI p3, .val .null] [.null, .null, iI p3, iJ fco, iR a2, .null, iJ fap, iR fid, iR b1, iR b1])) _
    refine XS.aloadN X11.here hx rfl (hb hby d14_27) rfl rfl ?_
    show Steps _ _ _ (T11.setTop (mkF m 28 #[vR a1, vR a2, vI p3, .val .null] [iR a1, .null, .null, iI p3, iJ fco, iR a2, .null, iJ fap, iR fid, iR b1, iR b1])) _
    refine st13 _ ?_
    show Steps _ _ _ (T13.setTop (mkF m 31 #[vR a1, vR a2, vI p3, .val .null] [iR fdv, .null, .null, iI p3, iJ fco, iR a2, .null, iJ fap, iR fid, iR b1, iR b1])) _
    refine XS.aloadN X13.here hx rfl (hb hby d14_31) rfl rfl ?_
    show Steps _ _ _ (T13.setTop (mkF m 32 #[vR a1, vR a2, vI p3, .val .null] [iR a1, iR fdv, .null, .null, iI p3, iJ fco, iR a2, .null, iJ fap, iR fid, iR b1, iR b1])) _
    refine st15 _ ?_
    show Steps _ _ _ (T15.setTop (mkF m 35 #[vR a1, vR a2, vI p3, .val .null] [iJ fcr, iR fdv, .null, .null, iI p3, iJ fco, iR a2, .null, iJ fap, iR fid, iR b1, iR b1])) _
    refine st16.trans ?_
    show Steps _ _ _ (T16.setTop (mkF m 38 #[vR a1, vR a2, vI p3, .val .null] [iR b1])) _
    jvm_step X16.here [X16.here.top, hx, (hb hby d14_38), X16.method', Bd.returns, Value.isRef, FieldType.isReference]
    first | (intro acts; rw [hr _ acts rfl rfl rfl]) | rw [hr _ _ rfl rfl rfl]
    exact Steps.refl _
  · show Q14_nr Z a1 a2 p3 fid fst fap fco fcr ffa fdv h0 n0 _ T16.heap _
    exact ⟨_, rfl, N16, K16, E16q, F16_device⟩
theorem ef_14_rr (m : MethodId) (x0 : Addr) (x1 : Addr) (x2 : Int32) (x3 : Addr) : entryFrame m #[(.ref x0), (.ref x1), (.int x2), (.ref x3)] 4 = mkF m 0 #[.val (.ref x0), .val (.ref x1), .val (.int x2), .val (.ref x3)] [] := by first | (simp [entryFrame, mkF, argsToLocals, Value.category]; done) | rfl
def Q14_rr (Z : State) (a1 : Addr) (a2 : Addr) (p3 : Int32) (a4 : Addr) (fid fst : Addr) (fap fco fcr : Int64) (ffa : Int32) (fdv : Addr) (h0 : Heap) (n0 : Nat) (v : Option Value) (h : Heap) (L : List Loc) : Prop := ∃ (o : Addr), v = some (.ref o) ∧ Fr n0 L ∧ Keep h0 h [] ∧ Exa Z h o "com/example/threefold/threefold/store/Activation" ∧ Fld Z h o "com/example/threefold/threefold/store/Activation" "device" "Lcom/example/threefold/threefold/store/Device;" (.ref fdv)
set_option maxRecDepth 65536 in
set_option maxHeartbeats 40000000 in
theorem rm14_rr (l : Launch) (Z : State) (a0 : Array Value) (hw : ∀ d ∈ tables_1, d.before a0 Z = true) (ws : List Jvm.Cond) (a1 : Addr) (a2 : Addr) (p3 : Int32) (a4 : Addr) (fid fst : Addr) (fap fco fcr : Int64) (ffa : Int32) (fdv : Addr) (h0 : Heap) (n0 : Nat) (Z0 : n0 ≤ h0.size) (E_a1 : Exa Z h0 a1 "com/example/threefold/threefold/store/Activation") (F_activationId : Fld Z h0 a1 "com/example/threefold/threefold/store/Activation" "activationId" "Ljava/lang/String;" (.ref fid)) (F_applicationId : Fld Z h0 a1 "com/example/threefold/threefold/store/Activation" "applicationId" "J" (.long fap)) (F_userId : Fld Z h0 a1 "com/example/threefold/threefold/store/Activation" "userId" "Ljava/lang/String;" .null) (F_status : Fld Z h0 a1 "com/example/threefold/threefold/store/Activation" "status" "Lcom/example/threefold/threefold/protocol/ActivationStatus;" (.ref fst)) (F_counter : Fld Z h0 a1 "com/example/threefold/threefold/store/Activation" "counter" "J" (.long fco)) (F_failedAttempts : Fld Z h0 a1 "com/example/threefold/threefold/store/Activation" "failedAttempts" "I" (.int ffa)) (F_blockedReason : Fld Z h0 a1 "com/example/threefold/threefold/store/Activation" "blockedReason" "Ljava/lang/String;" .null) (F_code : Fld Z h0 a1 "com/example/threefold/threefold/store/Activation" "code" "Lcom/example/threefold/threefold/protocol/ActivationCode;" .null) (F_device : Fld Z h0 a1 "com/example/threefold/threefold/store/Activation" "device" "Lcom/example/threefold/threefold/store/Device;" (.ref fdv)) (F_createdAt : Fld Z h0 a1 "com/example/threefold/threefold/store/Activation" "createdAt" "J" (.long fcr)) :
    MetFree l (⟨"com/example/threefold/threefold/store/Activation", "withState", "(Lcom/example/threefold/threefold/protocol/ActivationStatus;ILjava/lang/String;)Lcom/example/threefold/threefold/store/Activation;"⟩ : MethodName) (head1 (Jvm.Cond.code (⟨"com/example/threefold/threefold/store/Activation", "withState", "(Lcom/example/threefold/threefold/protocol/ActivationStatus;ILjava/lang/String;)Lcom/example/threefold/threefold/store/Activation;"⟩ : MethodName) prog_37_method_15_code 4 (some (.object "com/example/threefold/threefold/store/Activation")) :: ws) ({ frames := 3, cells := 1, slots := 10, locals := 50 } : Room)) (fun a U => a = #[(.ref a1), (.ref a2), (.int p3), (.ref a4)] ∧ Z.Warmed39 U.vm ∧ U.heap = h0) (fun _ _ _ _ _ => True) (fun _ U o U' => ∃ v L, o = .returned v ∧ Q14_rr Z a1 a2 p3 a4 fid fst fap fco fcr ffa fdv h0 n0 v U'.heap L ∧ FrameEnd U o U' L ({ frames := 3, cells := 1, slots := 10, locals := 50 } : Room).cells ({ frames := 3, cells := 1, slots := 10, locals := 50 } : Room).slots) := by
  refine MetFree.of_bodySF (plainFor_of_name pn_3) hisR ?_
  intro p e s m args below meth c s₁ Bd hml0 hP hK
  obtain ⟨rfl, hZ, hh⟩ := hP
  have hx := Bd.exec
  have hby := Bd.bytes
  have hml : c.maxLocals = 4 := hml0
  have hown : s.vm.findClass "com/example/threefold/threefold/store/Activation" = some m.cls := findClass_of_methodNamed Bd.named
  have hnm := (name_of_methodNamed Bd.named Bd.method).1
  have X0 : Stand p l e ({ frames := 3, cells := 1, slots := 10, locals := 50 } : Room) s m #[(.ref a1), (.ref a2), (.int p3), (.ref a4)] below meth c s₁ [] 0 0 := Stand.of_body Bd
  have e0 : s₁.heap = h0 := by rw [← hh, Bd.state]; rfl
  have N0 := Fr.nil n0
  have K0 := Keep.refl h0 []
  have pre0 : ∀ t, Steps p.tables e below (s₁.setTop (mkF m 0 #[.val (.ref a1), .val (.ref a2), .val (.int p3), .val (.ref a4)] [])) t → Steps p.tables e below (s₁.setTop (entryFrame m #[(.ref a1), (.ref a2), (.int p3), (.ref a4)] 4)) t := fun t k => castTop (ef_14_rr m a1 a2 p3 a4) k
  obtain ⟨T1, h1, X1, e1, E1, A1, D1, -, st1⟩ := newO X0 hx hZ hown (hw _ (List.mem_of_getElem? (i := 80) rfl)) (hw _ (List.mem_of_getElem? (i := 10) rfl)) (hw _ (List.mem_of_getElem? (i := 11) rfl)) e0 (g := (mkF m 0 #[vR a1, vR a2, vI p3, vR a4] [])) rfl (hb hby d14_0) (by decide) (by decide)
  obtain ⟨b1, g1⟩ : ∃ z, z = h0.size := ⟨_, rfl⟩
  rw [← g1] at A1 D1 st1
  have ne_a1_b1 : a1 ≠ b1 := Nat.ne_of_lt (Nat.lt_of_lt_of_le E_a1.lt (Nat.le_of_eq g1.symm))
  have sz_b1 : h0.size ≤ b1 := Nat.le_trans K0.1 (Nat.le_of_eq g1.symm)
  have g_b1 : n0 ≤ b1 := Nat.le_trans Z0 sz_b1
  have K1 : Keep h0 h1 [] := K0.ext E1
  have F_activationId_b1 : Fld Z h1 b1 "com/example/threefold/threefold/store/Activation" "activationId" "Ljava/lang/String;" .null := D1 (Or.inr (hw _ (List.mem_of_getElem? (i := 51) rfl))) (ty := (.object "java/lang/String")) (by decide)
  have F_applicationId_b1 : Fld Z h1 b1 "com/example/threefold/threefold/store/Activation" "applicationId" "J" (.long (0 : Int64)) := D1 (Or.inr (hw _ (List.mem_of_getElem? (i := 53) rfl))) (ty := .long) (by decide)
  have F_userId_b1 : Fld Z h1 b1 "com/example/threefold/threefold/store/Activation" "userId" "Ljava/lang/String;" .null := D1 (Or.inr (hw _ (List.mem_of_getElem? (i := 55) rfl))) (ty := (.object "java/lang/String")) (by decide)
  have F_status_b1 : Fld Z h1 b1 "com/example/threefold/threefold/store/Activation" "status" "Lcom/example/threefold/threefold/protocol/ActivationStatus;" .null := D1 (Or.inr (hw _ (List.mem_of_getElem? (i := 57) rfl))) (ty := (.object "com/example/threefold/threefold/protocol/ActivationStatus")) (by decide)
  have F_counter_b1 : Fld Z h1 b1 "com/example/threefold/threefold/store/Activation" "counter" "J" (.long (0 : Int64)) := D1 (Or.inr (hw _ (List.mem_of_getElem? (i := 59) rfl))) (ty := .long) (by decide)
  have F_failedAttempts_b1 : Fld Z h1 b1 "com/example/threefold/threefold/store/Activation" "failedAttempts" "I" (.int (0 : Int32)) := D1 (Or.inr (hw _ (List.mem_of_getElem? (i := 61) rfl))) (ty := .int) (by decide)
  have F_blockedReason_b1 : Fld Z h1 b1 "com/example/threefold/threefold/store/Activation" "blockedReason" "Ljava/lang/String;" .null := D1 (Or.inr (hw _ (List.mem_of_getElem? (i := 63) rfl))) (ty := (.object "java/lang/String")) (by decide)
  have F_code_b1 : Fld Z h1 b1 "com/example/threefold/threefold/store/Activation" "code" "Lcom/example/threefold/threefold/protocol/ActivationCode;" .null := D1 (Or.inr (hw _ (List.mem_of_getElem? (i := 65) rfl))) (ty := (.object "com/example/threefold/threefold/protocol/ActivationCode")) (by decide)
  have F_device_b1 : Fld Z h1 b1 "com/example/threefold/threefold/store/Activation" "device" "Lcom/example/threefold/threefold/store/Device;" .null := D1 (Or.inr (hw _ (List.mem_of_getElem? (i := 67) rfl))) (ty := (.object "com/example/threefold/threefold/store/Device")) (by decide)
  have F_createdAt_b1 : Fld Z h1 b1 "com/example/threefold/threefold/store/Activation" "createdAt" "J" (.long (0 : Int64)) := D1 (Or.inr (hw _ (List.mem_of_getElem? (i := 69) rfl))) (ty := .long) (by decide)
  have fk2 := (F_activationId.ext E1)
  obtain ⟨T3, X3, e3, st3⟩ := getF X1 hx hZ hown (host := "") (Or.inl (hw _ (List.mem_of_getElem? (i := 50) rfl))) Via.refl e1 fk2 (g := (mkF m 5 #[vR a1, vR a2, vI p3, vR a4] [iR a1, iR b1, iR b1])) rfl rfl (hb hby d14_5)
  have fk4 := (F_applicationId.ext E1)
  obtain ⟨T5, X5, e5, st5⟩ := getF X3 hx hZ hown (host := "") (Or.inl (hw _ (List.mem_of_getElem? (i := 52) rfl))) Via.refl e3 fk4 (g := (mkF m 9 #[vR a1, vR a2, vI p3, vR a4] [iR a1, iR fid, iR b1, iR b1])) rfl rfl (hb hby d14_9)
  have fk6 := (F_userId.ext E1)
  obtain ⟨T7, X7, e7, st7⟩ := getF X5 hx hZ hown (host := "") (Or.inl (hw _ (List.mem_of_getElem? (i := 54) rfl))) Via.refl e5 fk6 (g := (mkF m 13 #[vR a1, vR a2, vI p3, vR a4] [iR a1, iJ fap, iR fid, iR b1, iR b1])) rfl rfl (hb hby d14_13)
  have fk8 := (F_counter.ext E1)
  obtain ⟨T9, X9, e9, st9⟩ := getF X7 hx hZ hown (host := "") (Or.inl (hw _ (List.mem_of_getElem? (i := 58) rfl))) Via.refl e7 fk8 (g := (mkF m 18 #[vR a1, vR a2, vI p3, vR a4] [iR a1, iR a2, .null, iJ fap, iR fid, iR b1, iR b1])) rfl rfl (hb hby d14_18)
  have fk10 := (F_code.ext E1)
  obtain ⟨T11, X11, e11, st11⟩ := getF X9 hx hZ hown (host := "") (Or.inl (hw _ (List.mem_of_getElem? (i := 64) rfl))) Via.refl e9 fk10 (g := (mkF m 24 #[vR a1, vR a2, vI p3, vR a4] [iR a1, iR a4, iI p3, iJ fco, iR a2, .null, iJ fap, iR fid, iR b1, iR b1])) rfl rfl (hb hby d14_24)
  have fk12 := (F_device.ext E1)
  obtain ⟨T13, X13, e13, st13⟩ := getF X11 hx hZ hown (host := "") (Or.inl (hw _ (List.mem_of_getElem? (i := 66) rfl))) Via.refl e11 fk12 (g := (mkF m 28 #[vR a1, vR a2, vI p3, vR a4] [iR a1, .null, iR a4, iI p3, iJ fco, iR a2, .null, iJ fap, iR fid, iR b1, iR b1])) rfl rfl (hb hby d14_28)
  have fk14 := (F_createdAt.ext E1)
  obtain ⟨T15, X15, e15, st15⟩ := getF X13 hx hZ hown (host := "") (Or.inl (hw _ (List.mem_of_getElem? (i := 68) rfl))) Via.refl e13 fk14 (g := (mkF m 32 #[vR a1, vR a2, vI p3, vR a4] [iR a1, iR fdv, .null, iR a4, iI p3, iJ fco, iR a2, .null, iJ fap, iR fid, iR b1, iR b1])) rfl rfl (hb hby d14_32)
  obtain ⟨_, _, ⟨T16, L16, k16, n16⟩, -, X16, ⟨Lc16, hQ16, l16, y16, z16⟩, st16⟩ := X15.specialBack hx (y := (⟨"com/example/threefold/threefold/store/Activation", "<init>", "(Ljava/lang/String;JLjava/lang/String;Lcom/example/threefold/threefold/protocol/ActivationStatus;JILjava/lang/String;Lcom/example/threefold/threefold/protocol/ActivationCode;Lcom/example/threefold/threefold/store/Device;J)V"⟩ : MethodName)) rfl hown (mvT hZ (hw _ (List.mem_of_getElem? (i := 81) rfl))) (mvT hZ (hw _ (List.mem_of_getElem? (i := 42) rfl))) (mvT hZ (hw _ (List.mem_of_getElem? (i := 43) rfl))) (by decide) (backOf (W := 1) (rm8_rr l Z a0 hw [] b1 fid fap a2 fco p3 a4 fdv fcr h1 n0 (Nat.le_trans Z0 K1.1) A1 g_b1 F_activationId_b1 F_applicationId_b1 F_userId_b1 F_status_b1 F_counter_b1 F_failedAttempts_b1 F_blockedReason_b1 F_code_b1 F_device_b1 F_createdAt_b1) hZ (hw _ (List.mem_of_getElem? (i := 43) rfl)) (hw _ (List.mem_of_getElem? (i := 11) rfl)) (by decide) (by decide)) (g := (mkF m 35 #[vR a1, vR a2, vI p3, vR a4] [iJ fcr, iR fdv, .null, iR a4, iI p3, iJ fco, iR a2, .null, iJ fap, iR fid, iR b1, iR b1])) rfl (by rw [hml]; rfl) (Steps.refl _) (a := b1) (argsL := [(.ref fid), (.long fap), .null, (.ref a2), (.long fco), (.int p3), (.ref a4), .null, (.ref fdv), (.long fcr)]) (rest := [(.ref b1)]) (lenOf pd_1 rfl) rfl (by show 2 * 0 + _ ≤ _; exact Nat.le_of_eq rfl) (hb hby d14_35) (fun _ _ => ⟨rfl, e15, (by decide : 1 + 0 ≤ _), (by decide : 10 + 0 ≤ _)⟩)
  dsimp only [Pt.U, Pt.locs, Pt.cells, Pt.slots] at X16 l16 y16 z16 st16 hQ16
  subst l16 y16 z16
  obtain ⟨rfl, N16q, K16q, E16q, F16_activationId, F16_applicationId, F16_userId, F16_status, F16_counter, F16_failedAttempts, F16_blockedReason, F16_code, F16_device, F16_createdAt⟩ := hQ16
  have N16 := Fr.app N0 N16q
  have K16 : Keep h0 T16.heap [] := Keep.trans K1 K16q (allS (Or.inr sz_b1) all0)
  obtain ⟨fs, hr, hrun, hended, hW, hsame⟩ := X16.leave (v := some (.ref b1)) (fun h => by rw [Bd.returns] at h; cases h)
  refine ⟨_, _, pre0 _ ?_, hrun, hended, _, _, rfl, ?_, ⟨_, rfl⟩, hW, hsame.mono (by decide) (by decide)⟩
  · show Steps _ _ _ (s₁.setTop (mkF m 0 #[vR a1, vR a2, vI p3, vR a4] [])) _
    refine st1 _ ?_
    show Steps _ _ _ (T1.setTop (mkF m 3 #[vR a1, vR a2, vI p3, vR a4] [iR b1])) _
    refine XS.dup X1.here hx rfl (hb hby d14_3) rfl rfl ?_
    show Steps _ _ _ (T1.setTop (mkF m 4 #[vR a1, vR a2, vI p3, vR a4] [iR b1, iR b1])) _
    refine XS.aloadN X1.here hx rfl (hb hby d14_4) rfl rfl ?_
    show Steps _ _ _ (T1.setTop (mkF m 5 #[vR a1, vR a2, vI p3, vR a4] [iR a1, iR b1, iR b1])) _
    refine st3 _ ?_
    show Steps _ _ _ (T3.setTop (mkF m 8 #[vR a1, vR a2, vI p3, vR a4] [iR fid, iR b1, iR b1])) _
    refine XS.aloadN X3.here hx rfl (hb hby d14_8) rfl rfl ?_
    show Steps _ _ _ (T3.setTop (mkF m 9 #[vR a1, vR a2, vI p3, vR a4] [iR a1, iR fid, iR b1, iR b1])) _
    refine st5 _ ?_
    show Steps _ _ _ (T5.setTop (mkF m 12 #[vR a1, vR a2, vI p3, vR a4] [iJ fap, iR fid, iR b1, iR b1])) _
    refine XS.aloadN X5.here hx rfl (hb hby d14_12) rfl rfl ?_
    show Steps _ _ _ (T5.setTop (mkF m 13 #[vR a1, vR a2, vI p3, vR a4] [iR a1, iJ fap, iR fid, iR b1, iR b1])) _
    refine st7 _ ?_
    show Steps _ _ _ (T7.setTop (mkF m 16 #[vR a1, vR a2, vI p3, vR a4] [.null, iJ fap, iR fid, iR b1, iR b1])) _
    refine XS.aloadN X7.here hx rfl (hb hby d14_16) rfl rfl ?_
    show Steps _ _ _ (T7.setTop (mkF m 17 #[vR a1, vR a2, vI p3, vR a4] [iR a2, .null, iJ fap, iR fid, iR b1, iR b1])) _
    refine XS.aloadN X7.here hx rfl (hb hby d14_17) rfl rfl ?_
    show Steps _ _ _ (T7.setTop (mkF m 18 #[vR a1, vR a2, vI p3, vR a4] [iR a1, iR a2, .null, iJ fap, iR fid, iR b1, iR b1])) _
    refine st9 _ ?_
    show Steps _ _ _ (T9.setTop (mkF m 21 #[vR a1, vR a2, vI p3, vR a4] [iJ fco, iR a2, .null, iJ fap, iR fid, iR b1, iR b1])) _
    refine XS.iloadN X9.here hx rfl (hb hby d14_21) rfl ?_
    show Steps _ _ _ (T9.setTop (mkF m 22 #[vR a1, vR a2, vI p3, vR a4] [iI p3, iJ fco, iR a2, .null, iJ fap, iR fid, iR b1, iR b1])) _
    refine XS.aloadN X9.here hx rfl (hb hby d14_22) rfl rfl ?_
    show Steps _ _ _ (T9.setTop (mkF m 23 #[vR a1, vR a2, vI p3, vR a4] [iR a4, iI p3, iJ fco, iR a2, .null, iJ fap, iR fid, iR b1, iR b1])) _
    refine XS.aloadN X9.here hx rfl (hb hby d14_23) rfl rfl ?_
    show Steps _ _ _ (T9.setTop (mkF m 24 #[vR a1, vR a2, vI p3, vR a4] [iR a1, iR a4, iI p3, iJ fco, iR a2, .null, iJ fap, iR fid, iR b1, iR b1])) _
    refine st11 _ ?_
    show Steps _ _ _ (T11.setTop (mkF m 27 #[vR a1, vR a2, vI p3, vR a4] [.null, iR a4, iI p3, iJ fco, iR a2, .null, iJ fap, iR fid, iR b1, iR b1])) _
    refine XS.aloadN X11.here hx rfl (hb hby d14_27) rfl rfl ?_
    show Steps _ _ _ (T11.setTop (mkF m 28 #[vR a1, vR a2, vI p3, vR a4] [iR a1, .null, iR a4, iI p3, iJ fco, iR a2, .null, iJ fap, iR fid, iR b1, iR b1])) _
    refine st13 _ ?_
    show Steps _ _ _ (T13.setTop (mkF m 31 #[vR a1, vR a2, vI p3, vR a4] [iR fdv, .null, iR a4, iI p3, iJ fco, iR a2, .null, iJ fap, iR fid, iR b1, iR b1])) _
    refine XS.aloadN X13.here hx rfl (hb hby d14_31) rfl rfl ?_
    show Steps _ _ _ (T13.setTop (mkF m 32 #[vR a1, vR a2, vI p3, vR a4] [iR a1, iR fdv, .null, iR a4, iI p3, iJ fco, iR a2, .null, iJ fap, iR fid, iR b1, iR b1])) _
    refine st15 _ ?_
    show Steps _ _ _ (T15.setTop (mkF m 35 #[vR a1, vR a2, vI p3, vR a4] [iJ fcr, iR fdv, .null, iR a4, iI p3, iJ fco, iR a2, .null, iJ fap, iR fid, iR b1, iR b1])) _
    refine st16.trans ?_
    show Steps _ _ _ (T16.setTop (mkF m 38 #[vR a1, vR a2, vI p3, vR a4] [iR b1])) _
    jvm_step X16.here [X16.here.top, hx, (hb hby d14_38), X16.method', Bd.returns, Value.isRef, FieldType.isReference]
    first | (intro acts; rw [hr _ acts rfl rfl rfl]) | rw [hr _ _ rfl rfl rfl]
    exact Steps.refl _
  · show Q14_rr Z a1 a2 p3 a4 fid fst fap fco fcr ffa fdv h0 n0 _ T16.heap _
    exact ⟨_, rfl, N16, K16, E16q, F16_device⟩
theorem ef_13_r (m : MethodId) (x0 : Addr) : entryFrame m #[(.ref x0)] 1 = mkF m 0 #[.val (.ref x0)] [] := by first | (simp [entryFrame, mkF, argsToLocals, Value.category]; done) | rfl
def Q13_r (Z : State) (a1 : Addr) (fid fst : Addr) (fap fco fcr : Int64) (ffa : Int32) (fdv : Addr) (s_CREATED : Addr) (s_OTP_USED : Addr) (s_ACTIVE : Addr) (s_BLOCKED : Addr) (s_REMOVED : Addr) (h0 : Heap) (n0 : Nat) (v : Option Value) (h : Heap) (L : List Loc) : Prop := ∃ (o : Addr), v = some (.ref o) ∧ Fr n0 L ∧ Keep h0 h [] ∧ Exa Z h o "com/example/threefold/threefold/store/Activation" ∧ Fld Z h o "com/example/threefold/threefold/store/Activation" "device" "Lcom/example/threefold/threefold/store/Device;" (.ref fdv)
set_option maxRecDepth 65536 in
set_option maxHeartbeats 40000000 in
theorem rm13_r (l : Launch) (Z : State) (a0 : Array Value) (hw : ∀ d ∈ tables_1, d.before a0 Z = true) (ws : List Jvm.Cond) (a1 : Addr) (fid fst : Addr) (fap fco fcr : Int64) (ffa : Int32) (fdv : Addr) (s_CREATED : Addr) (s_OTP_USED : Addr) (s_ACTIVE : Addr) (s_BLOCKED : Addr) (s_REMOVED : Addr) (h0 : Heap) (n0 : Nat) (Z0 : n0 ≤ h0.size) (O0 : Old Z n0 h0) (E_a1 : Exa Z h0 a1 "com/example/threefold/threefold/store/Activation") (F_activationId : Fld Z h0 a1 "com/example/threefold/threefold/store/Activation" "activationId" "Ljava/lang/String;" (.ref fid)) (F_applicationId : Fld Z h0 a1 "com/example/threefold/threefold/store/Activation" "applicationId" "J" (.long fap)) (F_userId : Fld Z h0 a1 "com/example/threefold/threefold/store/Activation" "userId" "Ljava/lang/String;" .null) (F_status : Fld Z h0 a1 "com/example/threefold/threefold/store/Activation" "status" "Lcom/example/threefold/threefold/protocol/ActivationStatus;" (.ref fst)) (F_counter : Fld Z h0 a1 "com/example/threefold/threefold/store/Activation" "counter" "J" (.long fco)) (F_failedAttempts : Fld Z h0 a1 "com/example/threefold/threefold/store/Activation" "failedAttempts" "I" (.int ffa)) (F_blockedReason : Fld Z h0 a1 "com/example/threefold/threefold/store/Activation" "blockedReason" "Ljava/lang/String;" .null) (F_code : Fld Z h0 a1 "com/example/threefold/threefold/store/Activation" "code" "Lcom/example/threefold/threefold/protocol/ActivationCode;" .null) (F_device : Fld Z h0 a1 "com/example/threefold/threefold/store/Activation" "device" "Lcom/example/threefold/threefold/store/Device;" (.ref fdv)) (F_createdAt : Fld Z h0 a1 "com/example/threefold/threefold/store/Activation" "createdAt" "J" (.long fcr)) (S_CREATED : Sta Z Z.heap "com/example/threefold/threefold/protocol/ActivationStatus" "CREATED" "Lcom/example/threefold/threefold/protocol/ActivationStatus;" (.ref s_CREATED)) (S_OTP_USED : Sta Z Z.heap "com/example/threefold/threefold/protocol/ActivationStatus" "OTP_USED" "Lcom/example/threefold/threefold/protocol/ActivationStatus;" (.ref s_OTP_USED)) (S_ACTIVE : Sta Z Z.heap "com/example/threefold/threefold/protocol/ActivationStatus" "ACTIVE" "Lcom/example/threefold/threefold/protocol/ActivationStatus;" (.ref s_ACTIVE)) (S_BLOCKED : Sta Z Z.heap "com/example/threefold/threefold/protocol/ActivationStatus" "BLOCKED" "Lcom/example/threefold/threefold/protocol/ActivationStatus;" (.ref s_BLOCKED)) (S_REMOVED : Sta Z Z.heap "com/example/threefold/threefold/protocol/ActivationStatus" "REMOVED" "Lcom/example/threefold/threefold/protocol/ActivationStatus;" (.ref s_REMOVED)) :
    MetFree l (⟨"com/example/threefold/threefold/store/Activation", "removed", "()Lcom/example/threefold/threefold/store/Activation;"⟩ : MethodName) (head1 (Jvm.Cond.code (⟨"com/example/threefold/threefold/store/Activation", "removed", "()Lcom/example/threefold/threefold/store/Activation;"⟩ : MethodName) prog_37_method_7_code 1 (some (.object "com/example/threefold/threefold/store/Activation")) :: ws) ({ frames := 4, cells := 1, slots := 10, locals := 65 } : Room)) (fun a U => a = #[(.ref a1)] ∧ Z.Warmed39 U.vm ∧ U.heap = h0) (fun _ _ _ _ _ => True) (fun _ U o U' => ∃ v L, o = .returned v ∧ Q13_r Z a1 fid fst fap fco fcr ffa fdv s_CREATED s_OTP_USED s_ACTIVE s_BLOCKED s_REMOVED h0 n0 v U'.heap L ∧ FrameEnd U o U' L ({ frames := 4, cells := 1, slots := 10, locals := 65 } : Room).cells ({ frames := 4, cells := 1, slots := 10, locals := 65 } : Room).slots) := by
  refine MetFree.of_bodySF (plainFor_of_name pn_3) hisR ?_
  intro p e s m args below meth c s₁ Bd hml0 hP hK
  obtain ⟨rfl, hZ, hh⟩ := hP
  have hx := Bd.exec
  have hby := Bd.bytes
  have hml : c.maxLocals = 1 := hml0
  have hown : s.vm.findClass "com/example/threefold/threefold/store/Activation" = some m.cls := findClass_of_methodNamed Bd.named
  have hnm := (name_of_methodNamed Bd.named Bd.method).1
  have X0 : Stand p l e ({ frames := 4, cells := 1, slots := 10, locals := 65 } : Room) s m #[(.ref a1)] below meth c s₁ [] 0 0 := Stand.of_body Bd
  have e0 : s₁.heap = h0 := by rw [← hh, Bd.state]; rfl
  have N0 := Fr.nil n0
  have K0 := Keep.refl h0 []
  have pre0 : ∀ t, Steps p.tables e below (s₁.setTop (mkF m 0 #[.val (.ref a1)] [])) t → Steps p.tables e below (s₁.setTop (entryFrame m #[(.ref a1)] 1)) t := fun t k => castTop (ef_13_r m a1) k
  obtain ⟨T1, X1, e1, st1⟩ := getS2 X0 hx hZ hown (host := "") (Or.inl (hw _ (List.mem_of_getElem? (i := 106) rfl))) Via.refl e0 (S_REMOVED.ext O0.2) (g := (mkF m 1 #[vR a1] [iR a1])) rfl (hb hby d13_1)
  obtain ⟨T2, X2, e2, st2⟩ := getF X1 hx hZ hown (host := "") (Or.inl (hw _ (List.mem_of_getElem? (i := 60) rfl))) Via.refl e1 F_failedAttempts (g := (mkF m 5 #[vR a1] [iR a1, iR s_REMOVED, iR a1])) rfl rfl (hb hby d13_5)
  obtain ⟨cq3, q3, q3'⟩ := E_a1.cell
  obtain ⟨_, _, ⟨T3, L3, k3, n3⟩, -, X3, ⟨Lc3, hQ3, l3, y3, z3⟩, st3⟩ := X2.privateBack hx (y := (⟨"com/example/threefold/threefold/store/Activation", "withState", "(Lcom/example/threefold/threefold/protocol/ActivationStatus;ILjava/lang/String;)Lcom/example/threefold/threefold/store/Activation;"⟩ : MethodName)) hown (mvT hZ (hw _ (List.mem_of_getElem? (i := 108) rfl))) (mvT hZ (hw _ (List.mem_of_getElem? (i := 109) rfl))) (own_selPriv (mvT hZ (hw _ (List.mem_of_getElem? (i := 10) rfl))) (Cond.privateMethod_at (mvP hZ (hw _ (List.mem_of_getElem? (i := 110) rfl)) (args := #[]))) (mvT hZ (hw _ (List.mem_of_getElem? (i := 109) rfl))) (by decide)) (Cond.privateMethod_at (mvP hZ (hw _ (List.mem_of_getElem? (i := 110) rfl)) (args := #[]))) (mvT hZ (hw _ (List.mem_of_getElem? (i := 111) rfl))) (by decide) (backOf (W := 0) (rm14_nr l Z a0 hw [] a1 s_REMOVED ffa fid fst fap fco fcr ffa fdv h0 n0 (Nat.le_trans Z0 K0.1) E_a1 F_activationId F_applicationId F_userId F_status F_counter F_failedAttempts F_blockedReason F_code F_device F_createdAt) hZ (hw _ (List.mem_of_getElem? (i := 111) rfl)) (hw _ (List.mem_of_getElem? (i := 11) rfl)) (by decide) (by decide)) (g := (mkF m 9 #[vR a1] [.null, iI ffa, iR s_REMOVED, iR a1])) rfl (by rw [hml]; rfl) (Steps.refl _) (a := a1) (by rw [e2]; exact q3) q3' (argsL := [(.ref s_REMOVED), (.int ffa), .null]) (rest := []) (lenOf pd_2 rfl) rfl (by show 2 * 0 + _ ≤ _; exact Nat.le_of_eq rfl) (hb hby d13_9) (fun _ _ => ⟨rfl, e2, (by decide : 0 + 1 ≤ _), (by decide : 0 + 10 ≤ _)⟩)
  dsimp only [Pt.U, Pt.locs, Pt.cells, Pt.slots] at X3 l3 y3 z3 st3 hQ3
  subst l3 y3 z3
  obtain ⟨o3, rfl, N3q, K3q, E3q, F3q⟩ := hQ3
  have N3 := Fr.app N0 N3q
  have K3 : Keep h0 T3.heap [] := Keep.trans K0 K3q all0
  obtain ⟨fs, hr, hrun, hended, hW, hsame⟩ := X3.leave (v := some (.ref o3)) (fun h => by rw [Bd.returns] at h; cases h)
  refine ⟨_, _, pre0 _ ?_, hrun, hended, _, _, rfl, ?_, ⟨_, rfl⟩, hW, hsame.mono (by decide) (by decide)⟩
  · show Steps _ _ _ (s₁.setTop (mkF m 0 #[vR a1] [])) _
    refine XS.aloadN X0.here hx rfl (hb hby d13_0) rfl rfl ?_
    show Steps _ _ _ (s₁.setTop (mkF m 1 #[vR a1] [iR a1])) _
    refine st1 _ ?_
    show Steps _ _ _ (T1.setTop (mkF m 4 #[vR a1] [iR s_REMOVED, iR a1])) _
    refine XS.aloadN X1.here hx rfl (hb hby d13_4) rfl rfl ?_
    show Steps _ _ _ (T1.setTop (mkF m 5 #[vR a1] [iR a1, iR s_REMOVED, iR a1])) _
    refine st2 _ ?_
    show Steps _ _ _ (T2.setTop (mkF m 8 #[vR a1] [iI ffa, iR s_REMOVED, iR a1])) _
    refine XS.aconstNull X2.here hx rfl (hb hby d13_8) ?_
    show Steps _ _ _ (T2.setTop (mkF m 9 #[vR a1] [.null, iI ffa, iR s_REMOVED, iR a1])) _
    refine st3.trans ?_
    show Steps _ _ _ (T3.setTop (mkF m 12 #[vR a1] [iR o3])) _
    jvm_step X3.here [X3.here.top, hx, (hb hby d13_12), X3.method', Bd.returns, Value.isRef, FieldType.isReference]
    first | (intro acts; rw [hr _ acts rfl rfl rfl]) | rw [hr _ _ rfl rfl rfl]
    exact Steps.refl _
  · show Q13_r Z a1 fid fst fap fco fcr ffa fdv s_CREATED s_OTP_USED s_ACTIVE s_BLOCKED s_REMOVED h0 n0 _ T3.heap _
    exact ⟨_, rfl, N3, K3, E3q, F3q⟩
theorem ef_15_r (m : MethodId) (x0 : Addr) : entryFrame m #[(.ref x0)] 1 = mkF m 0 #[.val (.ref x0)] [] := by first | (simp [entryFrame, mkF, argsToLocals, Value.category]; done) | rfl
def Q15_r (Z : State) (a1 : Addr) (fid fst : Addr) (fap fco fcr : Int64) (ffa : Int32) (fdv : Addr) (s_CREATED : Addr) (s_OTP_USED : Addr) (s_ACTIVE : Addr) (s_BLOCKED : Addr) (s_REMOVED : Addr) (h0 : Heap) (n0 : Nat) (v : Option Value) (h : Heap) (L : List Loc) : Prop := ∃ (o : Addr), v = some (.ref o) ∧ Fr n0 L ∧ Keep h0 h [] ∧ Exa Z h o "com/example/threefold/threefold/store/Activation" ∧ Fld Z h o "com/example/threefold/threefold/store/Activation" "device" "Lcom/example/threefold/threefold/store/Device;" (.ref fdv)
set_option maxRecDepth 65536 in
set_option maxHeartbeats 40000000 in
theorem rm15_r (l : Launch) (Z : State) (a0 : Array Value) (hw : ∀ d ∈ tables_1, d.before a0 Z = true) (ws : List Jvm.Cond) (a1 : Addr) (fid fst : Addr) (fap fco fcr : Int64) (ffa : Int32) (fdv : Addr) (s_CREATED : Addr) (s_OTP_USED : Addr) (s_ACTIVE : Addr) (s_BLOCKED : Addr) (s_REMOVED : Addr) (h0 : Heap) (n0 : Nat) (Z0 : n0 ≤ h0.size) (O0 : Old Z n0 h0) (E_a1 : Exa Z h0 a1 "com/example/threefold/threefold/store/Activation") (F_activationId : Fld Z h0 a1 "com/example/threefold/threefold/store/Activation" "activationId" "Ljava/lang/String;" (.ref fid)) (F_applicationId : Fld Z h0 a1 "com/example/threefold/threefold/store/Activation" "applicationId" "J" (.long fap)) (F_userId : Fld Z h0 a1 "com/example/threefold/threefold/store/Activation" "userId" "Ljava/lang/String;" .null) (F_status : Fld Z h0 a1 "com/example/threefold/threefold/store/Activation" "status" "Lcom/example/threefold/threefold/protocol/ActivationStatus;" (.ref fst)) (F_counter : Fld Z h0 a1 "com/example/threefold/threefold/store/Activation" "counter" "J" (.long fco)) (F_failedAttempts : Fld Z h0 a1 "com/example/threefold/threefold/store/Activation" "failedAttempts" "I" (.int ffa)) (F_blockedReason : Fld Z h0 a1 "com/example/threefold/threefold/store/Activation" "blockedReason" "Ljava/lang/String;" .null) (F_code : Fld Z h0 a1 "com/example/threefold/threefold/store/Activation" "code" "Lcom/example/threefold/threefold/protocol/ActivationCode;" .null) (F_device : Fld Z h0 a1 "com/example/threefold/threefold/store/Activation" "device" "Lcom/example/threefold/threefold/store/Device;" (.ref fdv)) (F_createdAt : Fld Z h0 a1 "com/example/threefold/threefold/store/Activation" "createdAt" "J" (.long fcr)) (S_CREATED : Sta Z Z.heap "com/example/threefold/threefold/protocol/ActivationStatus" "CREATED" "Lcom/example/threefold/threefold/protocol/ActivationStatus;" (.ref s_CREATED)) (S_OTP_USED : Sta Z Z.heap "com/example/threefold/threefold/protocol/ActivationStatus" "OTP_USED" "Lcom/example/threefold/threefold/protocol/ActivationStatus;" (.ref s_OTP_USED)) (S_ACTIVE : Sta Z Z.heap "com/example/threefold/threefold/protocol/ActivationStatus" "ACTIVE" "Lcom/example/threefold/threefold/protocol/ActivationStatus;" (.ref s_ACTIVE)) (S_BLOCKED : Sta Z Z.heap "com/example/threefold/threefold/protocol/ActivationStatus" "BLOCKED" "Lcom/example/threefold/threefold/protocol/ActivationStatus;" (.ref s_BLOCKED)) (S_REMOVED : Sta Z Z.heap "com/example/threefold/threefold/protocol/ActivationStatus" "REMOVED" "Lcom/example/threefold/threefold/protocol/ActivationStatus;" (.ref s_REMOVED)) :
    MetFree l (⟨"com/example/threefold/threefold/store/Activation", "unblocked", "()Lcom/example/threefold/threefold/store/Activation;"⟩ : MethodName) (head1 (Jvm.Cond.code (⟨"com/example/threefold/threefold/store/Activation", "unblocked", "()Lcom/example/threefold/threefold/store/Activation;"⟩ : MethodName) prog_37_method_6_code 1 (some (.object "com/example/threefold/threefold/store/Activation")) :: ws) ({ frames := 4, cells := 1, slots := 10, locals := 65 } : Room)) (fun a U => a = #[(.ref a1)] ∧ Z.Warmed39 U.vm ∧ U.heap = h0) (fun _ _ _ _ _ => True) (fun _ U o U' => ∃ v L, o = .returned v ∧ Q15_r Z a1 fid fst fap fco fcr ffa fdv s_CREATED s_OTP_USED s_ACTIVE s_BLOCKED s_REMOVED h0 n0 v U'.heap L ∧ FrameEnd U o U' L ({ frames := 4, cells := 1, slots := 10, locals := 65 } : Room).cells ({ frames := 4, cells := 1, slots := 10, locals := 65 } : Room).slots) := by
  refine MetFree.of_bodySF (plainFor_of_name pn_3) hisR ?_
  intro p e s m args below meth c s₁ Bd hml0 hP hK
  obtain ⟨rfl, hZ, hh⟩ := hP
  have hx := Bd.exec
  have hby := Bd.bytes
  have hml : c.maxLocals = 1 := hml0
  have hown : s.vm.findClass "com/example/threefold/threefold/store/Activation" = some m.cls := findClass_of_methodNamed Bd.named
  have hnm := (name_of_methodNamed Bd.named Bd.method).1
  have X0 : Stand p l e ({ frames := 4, cells := 1, slots := 10, locals := 65 } : Room) s m #[(.ref a1)] below meth c s₁ [] 0 0 := Stand.of_body Bd
  have e0 : s₁.heap = h0 := by rw [← hh, Bd.state]; rfl
  have N0 := Fr.nil n0
  have K0 := Keep.refl h0 []
  have pre0 : ∀ t, Steps p.tables e below (s₁.setTop (mkF m 0 #[.val (.ref a1)] [])) t → Steps p.tables e below (s₁.setTop (entryFrame m #[(.ref a1)] 1)) t := fun t k => castTop (ef_15_r m a1) k
  obtain ⟨T1, X1, e1, st1⟩ := getS2 X0 hx hZ hown (host := "") (Or.inl (hw _ (List.mem_of_getElem? (i := 119) rfl))) Via.refl e0 (S_ACTIVE.ext O0.2) (g := (mkF m 1 #[vR a1] [iR a1])) rfl (hb hby d15_1)
  obtain ⟨cq2, q2, q2'⟩ := E_a1.cell
  obtain ⟨_, _, ⟨T2, L2, k2, n2⟩, -, X2, ⟨Lc2, hQ2, l2, y2, z2⟩, st2⟩ := X1.privateBack hx (y := (⟨"com/example/threefold/threefold/store/Activation", "withState", "(Lcom/example/threefold/threefold/protocol/ActivationStatus;ILjava/lang/String;)Lcom/example/threefold/threefold/store/Activation;"⟩ : MethodName)) hown (mvT hZ (hw _ (List.mem_of_getElem? (i := 108) rfl))) (mvT hZ (hw _ (List.mem_of_getElem? (i := 109) rfl))) (own_selPriv (mvT hZ (hw _ (List.mem_of_getElem? (i := 10) rfl))) (Cond.privateMethod_at (mvP hZ (hw _ (List.mem_of_getElem? (i := 110) rfl)) (args := #[]))) (mvT hZ (hw _ (List.mem_of_getElem? (i := 109) rfl))) (by decide)) (Cond.privateMethod_at (mvP hZ (hw _ (List.mem_of_getElem? (i := 110) rfl)) (args := #[]))) (mvT hZ (hw _ (List.mem_of_getElem? (i := 111) rfl))) (by decide) (backOf (W := 0) (rm14_nr l Z a0 hw [] a1 s_ACTIVE (0 : Int32) fid fst fap fco fcr ffa fdv h0 n0 (Nat.le_trans Z0 K0.1) E_a1 F_activationId F_applicationId F_userId F_status F_counter F_failedAttempts F_blockedReason F_code F_device F_createdAt) hZ (hw _ (List.mem_of_getElem? (i := 111) rfl)) (hw _ (List.mem_of_getElem? (i := 11) rfl)) (by decide) (by decide)) (g := (mkF m 6 #[vR a1] [.null, iI 0, iR s_ACTIVE, iR a1])) rfl (by rw [hml]; rfl) (Steps.refl _) (a := a1) (by rw [e1]; exact q2) q2' (argsL := [(.ref s_ACTIVE), (.int (0 : Int32)), .null]) (rest := []) (lenOf pd_2 rfl) rfl (by show 2 * 0 + _ ≤ _; exact Nat.le_of_eq rfl) (hb hby d15_6) (fun _ _ => ⟨rfl, e1, (by decide : 0 + 1 ≤ _), (by decide : 0 + 10 ≤ _)⟩)
  dsimp only [Pt.U, Pt.locs, Pt.cells, Pt.slots] at X2 l2 y2 z2 st2 hQ2
  subst l2 y2 z2
  obtain ⟨o2, rfl, N2q, K2q, E2q, F2q⟩ := hQ2
  have N2 := Fr.app N0 N2q
  have K2 : Keep h0 T2.heap [] := Keep.trans K0 K2q all0
  obtain ⟨fs, hr, hrun, hended, hW, hsame⟩ := X2.leave (v := some (.ref o2)) (fun h => by rw [Bd.returns] at h; cases h)
  refine ⟨_, _, pre0 _ ?_, hrun, hended, _, _, rfl, ?_, ⟨_, rfl⟩, hW, hsame.mono (by decide) (by decide)⟩
  · show Steps _ _ _ (s₁.setTop (mkF m 0 #[vR a1] [])) _
    refine XS.aloadN X0.here hx rfl (hb hby d15_0) rfl rfl ?_
    show Steps _ _ _ (s₁.setTop (mkF m 1 #[vR a1] [iR a1])) _
    refine st1 _ ?_
    show Steps _ _ _ (T1.setTop (mkF m 4 #[vR a1] [iR s_ACTIVE, iR a1])) _
    refine XS.iconst X1.here hx rfl (hb hby d15_4) ?_
    show Steps _ _ _ (T1.setTop (mkF m 5 #[vR a1] [iI 0, iR s_ACTIVE, iR a1])) _
    refine XS.aconstNull X1.here hx rfl (hb hby d15_5) ?_
    show Steps _ _ _ (T1.setTop (mkF m 6 #[vR a1] [.null, iI 0, iR s_ACTIVE, iR a1])) _
    refine st2.trans ?_
    show Steps _ _ _ (T2.setTop (mkF m 9 #[vR a1] [iR o2])) _
    jvm_step X2.here [X2.here.top, hx, (hb hby d15_9), X2.method', Bd.returns, Value.isRef, FieldType.isReference]
    first | (intro acts; rw [hr _ acts rfl rfl rfl]) | rw [hr _ _ rfl rfl rfl]
    exact Steps.refl _
  · show Q15_r Z a1 fid fst fap fco fcr ffa fdv s_CREATED s_OTP_USED s_ACTIVE s_BLOCKED s_REMOVED h0 n0 _ T2.heap _
    exact ⟨_, rfl, N2, K2, E2q, F2q⟩
theorem ef_17_r (m : MethodId) (x0 : Addr) : entryFrame m #[(.ref x0)] 1 = mkF m 0 #[.val (.ref x0)] [] := by first | (simp [entryFrame, mkF, argsToLocals, Value.category]; done) | rfl
def Q17_r (Z : State) (a1 : Addr) (fid fst : Addr) (fap fco fcr : Int64) (ffa : Int32) (fdv : Addr) (s_CREATED : Addr) (s_OTP_USED : Addr) (s_ACTIVE : Addr) (s_BLOCKED : Addr) (s_REMOVED : Addr) (h0 : Heap) (n0 : Nat) (v : Option Value) (h : Heap) (L : List Loc) : Prop := ∃ (o : Addr), v = some (.ref o) ∧ Fr n0 L ∧ Keep h0 h [] ∧ Exa Z h o "com/example/threefold/threefold/store/Activation" ∧ Fld Z h o "com/example/threefold/threefold/store/Activation" "device" "Lcom/example/threefold/threefold/store/Device;" (.ref fdv)
set_option maxRecDepth 65536 in
set_option maxHeartbeats 40000000 in
theorem rm17_r (l : Launch) (Z : State) (a0 : Array Value) (hw : ∀ d ∈ tables_1, d.before a0 Z = true) (ws : List Jvm.Cond) (a1 : Addr) (fid fst : Addr) (fap fco fcr : Int64) (ffa : Int32) (fdv : Addr) (s_CREATED : Addr) (s_OTP_USED : Addr) (s_ACTIVE : Addr) (s_BLOCKED : Addr) (s_REMOVED : Addr) (h0 : Heap) (n0 : Nat) (Z0 : n0 ≤ h0.size) (O0 : Old Z n0 h0) (E_a1 : Exa Z h0 a1 "com/example/threefold/threefold/store/Activation") (F_activationId : Fld Z h0 a1 "com/example/threefold/threefold/store/Activation" "activationId" "Ljava/lang/String;" (.ref fid)) (F_applicationId : Fld Z h0 a1 "com/example/threefold/threefold/store/Activation" "applicationId" "J" (.long fap)) (F_userId : Fld Z h0 a1 "com/example/threefold/threefold/store/Activation" "userId" "Ljava/lang/String;" .null) (F_status : Fld Z h0 a1 "com/example/threefold/threefold/store/Activation" "status" "Lcom/example/threefold/threefold/protocol/ActivationStatus;" (.ref fst)) (F_counter : Fld Z h0 a1 "com/example/threefold/threefold/store/Activation" "counter" "J" (.long fco)) (F_failedAttempts : Fld Z h0 a1 "com/example/threefold/threefold/store/Activation" "failedAttempts" "I" (.int ffa)) (F_blockedReason : Fld Z h0 a1 "com/example/threefold/threefold/store/Activation" "blockedReason" "Ljava/lang/String;" .null) (F_code : Fld Z h0 a1 "com/example/threefold/threefold/store/Activation" "code" "Lcom/example/threefold/threefold/protocol/ActivationCode;" .null) (F_device : Fld Z h0 a1 "com/example/threefold/threefold/store/Activation" "device" "Lcom/example/threefold/threefold/store/Device;" (.ref fdv)) (F_createdAt : Fld Z h0 a1 "com/example/threefold/threefold/store/Activation" "createdAt" "J" (.long fcr)) (S_CREATED : Sta Z Z.heap "com/example/threefold/threefold/protocol/ActivationStatus" "CREATED" "Lcom/example/threefold/threefold/protocol/ActivationStatus;" (.ref s_CREATED)) (S_OTP_USED : Sta Z Z.heap "com/example/threefold/threefold/protocol/ActivationStatus" "OTP_USED" "Lcom/example/threefold/threefold/protocol/ActivationStatus;" (.ref s_OTP_USED)) (S_ACTIVE : Sta Z Z.heap "com/example/threefold/threefold/protocol/ActivationStatus" "ACTIVE" "Lcom/example/threefold/threefold/protocol/ActivationStatus;" (.ref s_ACTIVE)) (S_BLOCKED : Sta Z Z.heap "com/example/threefold/threefold/protocol/ActivationStatus" "BLOCKED" "Lcom/example/threefold/threefold/protocol/ActivationStatus;" (.ref s_BLOCKED)) (S_REMOVED : Sta Z Z.heap "com/example/threefold/threefold/protocol/ActivationStatus" "REMOVED" "Lcom/example/threefold/threefold/protocol/ActivationStatus;" (.ref s_REMOVED)) :
    MetFree l (⟨"com/example/threefold/threefold/store/Activation", "committed", "()Lcom/example/threefold/threefold/store/Activation;"⟩ : MethodName) (head1 (Jvm.Cond.code (⟨"com/example/threefold/threefold/store/Activation", "committed", "()Lcom/example/threefold/threefold/store/Activation;"⟩ : MethodName) prog_37_method_4_code 1 (some (.object "com/example/threefold/threefold/store/Activation")) :: ws) ({ frames := 4, cells := 1, slots := 10, locals := 65 } : Room)) (fun a U => a = #[(.ref a1)] ∧ Z.Warmed39 U.vm ∧ U.heap = h0) (fun _ _ _ _ _ => True) (fun _ U o U' => ∃ v L, o = .returned v ∧ Q17_r Z a1 fid fst fap fco fcr ffa fdv s_CREATED s_OTP_USED s_ACTIVE s_BLOCKED s_REMOVED h0 n0 v U'.heap L ∧ FrameEnd U o U' L ({ frames := 4, cells := 1, slots := 10, locals := 65 } : Room).cells ({ frames := 4, cells := 1, slots := 10, locals := 65 } : Room).slots) := by
  refine MetFree.of_bodySF (plainFor_of_name pn_3) hisR ?_
  intro p e s m args below meth c s₁ Bd hml0 hP hK
  obtain ⟨rfl, hZ, hh⟩ := hP
  have hx := Bd.exec
  have hby := Bd.bytes
  have hml : c.maxLocals = 1 := hml0
  have hown : s.vm.findClass "com/example/threefold/threefold/store/Activation" = some m.cls := findClass_of_methodNamed Bd.named
  have hnm := (name_of_methodNamed Bd.named Bd.method).1
  have X0 : Stand p l e ({ frames := 4, cells := 1, slots := 10, locals := 65 } : Room) s m #[(.ref a1)] below meth c s₁ [] 0 0 := Stand.of_body Bd
  have e0 : s₁.heap = h0 := by rw [← hh, Bd.state]; rfl
  have N0 := Fr.nil n0
  have K0 := Keep.refl h0 []
  have pre0 : ∀ t, Steps p.tables e below (s₁.setTop (mkF m 0 #[.val (.ref a1)] [])) t → Steps p.tables e below (s₁.setTop (entryFrame m #[(.ref a1)] 1)) t := fun t k => castTop (ef_17_r m a1) k
  obtain ⟨T1, X1, e1, st1⟩ := getS2 X0 hx hZ hown (host := "") (Or.inl (hw _ (List.mem_of_getElem? (i := 119) rfl))) Via.refl e0 (S_ACTIVE.ext O0.2) (g := (mkF m 1 #[vR a1] [iR a1])) rfl (hb hby d17_1)
  obtain ⟨T2, X2, e2, st2⟩ := getF X1 hx hZ hown (host := "") (Or.inl (hw _ (List.mem_of_getElem? (i := 60) rfl))) Via.refl e1 F_failedAttempts (g := (mkF m 5 #[vR a1] [iR a1, iR s_ACTIVE, iR a1])) rfl rfl (hb hby d17_5)
  obtain ⟨cq3, q3, q3'⟩ := E_a1.cell
  obtain ⟨_, _, ⟨T3, L3, k3, n3⟩, -, X3, ⟨Lc3, hQ3, l3, y3, z3⟩, st3⟩ := X2.privateBack hx (y := (⟨"com/example/threefold/threefold/store/Activation", "withState", "(Lcom/example/threefold/threefold/protocol/ActivationStatus;ILjava/lang/String;)Lcom/example/threefold/threefold/store/Activation;"⟩ : MethodName)) hown (mvT hZ (hw _ (List.mem_of_getElem? (i := 108) rfl))) (mvT hZ (hw _ (List.mem_of_getElem? (i := 109) rfl))) (own_selPriv (mvT hZ (hw _ (List.mem_of_getElem? (i := 10) rfl))) (Cond.privateMethod_at (mvP hZ (hw _ (List.mem_of_getElem? (i := 110) rfl)) (args := #[]))) (mvT hZ (hw _ (List.mem_of_getElem? (i := 109) rfl))) (by decide)) (Cond.privateMethod_at (mvP hZ (hw _ (List.mem_of_getElem? (i := 110) rfl)) (args := #[]))) (mvT hZ (hw _ (List.mem_of_getElem? (i := 111) rfl))) (by decide) (backOf (W := 0) (rm14_nr l Z a0 hw [] a1 s_ACTIVE ffa fid fst fap fco fcr ffa fdv h0 n0 (Nat.le_trans Z0 K0.1) E_a1 F_activationId F_applicationId F_userId F_status F_counter F_failedAttempts F_blockedReason F_code F_device F_createdAt) hZ (hw _ (List.mem_of_getElem? (i := 111) rfl)) (hw _ (List.mem_of_getElem? (i := 11) rfl)) (by decide) (by decide)) (g := (mkF m 9 #[vR a1] [.null, iI ffa, iR s_ACTIVE, iR a1])) rfl (by rw [hml]; rfl) (Steps.refl _) (a := a1) (by rw [e2]; exact q3) q3' (argsL := [(.ref s_ACTIVE), (.int ffa), .null]) (rest := []) (lenOf pd_2 rfl) rfl (by show 2 * 0 + _ ≤ _; exact Nat.le_of_eq rfl) (hb hby d17_9) (fun _ _ => ⟨rfl, e2, (by decide : 0 + 1 ≤ _), (by decide : 0 + 10 ≤ _)⟩)
  dsimp only [Pt.U, Pt.locs, Pt.cells, Pt.slots] at X3 l3 y3 z3 st3 hQ3
  subst l3 y3 z3
  obtain ⟨o3, rfl, N3q, K3q, E3q, F3q⟩ := hQ3
  have N3 := Fr.app N0 N3q
  have K3 : Keep h0 T3.heap [] := Keep.trans K0 K3q all0
  obtain ⟨fs, hr, hrun, hended, hW, hsame⟩ := X3.leave (v := some (.ref o3)) (fun h => by rw [Bd.returns] at h; cases h)
  refine ⟨_, _, pre0 _ ?_, hrun, hended, _, _, rfl, ?_, ⟨_, rfl⟩, hW, hsame.mono (by decide) (by decide)⟩
  · show Steps _ _ _ (s₁.setTop (mkF m 0 #[vR a1] [])) _
    refine XS.aloadN X0.here hx rfl (hb hby d17_0) rfl rfl ?_
    show Steps _ _ _ (s₁.setTop (mkF m 1 #[vR a1] [iR a1])) _
    refine st1 _ ?_
    show Steps _ _ _ (T1.setTop (mkF m 4 #[vR a1] [iR s_ACTIVE, iR a1])) _
    refine XS.aloadN X1.here hx rfl (hb hby d17_4) rfl rfl ?_
    show Steps _ _ _ (T1.setTop (mkF m 5 #[vR a1] [iR a1, iR s_ACTIVE, iR a1])) _
    refine st2 _ ?_
    show Steps _ _ _ (T2.setTop (mkF m 8 #[vR a1] [iI ffa, iR s_ACTIVE, iR a1])) _
    refine XS.aconstNull X2.here hx rfl (hb hby d17_8) ?_
    show Steps _ _ _ (T2.setTop (mkF m 9 #[vR a1] [.null, iI ffa, iR s_ACTIVE, iR a1])) _
    refine st3.trans ?_
    show Steps _ _ _ (T3.setTop (mkF m 12 #[vR a1] [iR o3])) _
    jvm_step X3.here [X3.here.top, hx, (hb hby d17_12), X3.method', Bd.returns, Value.isRef, FieldType.isReference]
    first | (intro acts; rw [hr _ acts rfl rfl rfl]) | rw [hr _ _ rfl rfl rfl]
    exact Steps.refl _
  · show Q17_r Z a1 fid fst fap fco fcr ffa fdv s_CREATED s_OTP_USED s_ACTIVE s_BLOCKED s_REMOVED h0 n0 _ T3.heap _
    exact ⟨_, rfl, N3, K3, E3q, F3q⟩
theorem ef_18_r (m : MethodId) (x0 : Addr) (x1 : Addr) : entryFrame m #[(.ref x0), (.ref x1)] 2 = mkF m 0 #[.val (.ref x0), .val (.ref x1)] [] := by first | (simp [entryFrame, mkF, argsToLocals, Value.category]; done) | rfl
def Q18_r (Z : State) (a1 : Addr) (a2 : Addr) (fid fst : Addr) (fap fco fcr : Int64) (ffa : Int32) (fdv : Addr) (s_CREATED : Addr) (s_OTP_USED : Addr) (s_ACTIVE : Addr) (s_BLOCKED : Addr) (s_REMOVED : Addr) (h0 : Heap) (n0 : Nat) (v : Option Value) (h : Heap) (L : List Loc) : Prop := ∃ (o : Addr), v = some (.ref o) ∧ Fr n0 L ∧ Keep h0 h [] ∧ Exa Z h o "com/example/threefold/threefold/store/Activation" ∧ Fld Z h o "com/example/threefold/threefold/store/Activation" "device" "Lcom/example/threefold/threefold/store/Device;" (.ref fdv)
set_option maxRecDepth 65536 in
set_option maxHeartbeats 40000000 in
theorem rm18_r (l : Launch) (Z : State) (a0 : Array Value) (hw : ∀ d ∈ tables_1, d.before a0 Z = true) (ws : List Jvm.Cond) (a1 : Addr) (a2 : Addr) (fid fst : Addr) (fap fco fcr : Int64) (ffa : Int32) (fdv : Addr) (s_CREATED : Addr) (s_OTP_USED : Addr) (s_ACTIVE : Addr) (s_BLOCKED : Addr) (s_REMOVED : Addr) (h0 : Heap) (n0 : Nat) (Z0 : n0 ≤ h0.size) (O0 : Old Z n0 h0) (E_a1 : Exa Z h0 a1 "com/example/threefold/threefold/store/Activation") (F_activationId : Fld Z h0 a1 "com/example/threefold/threefold/store/Activation" "activationId" "Ljava/lang/String;" (.ref fid)) (F_applicationId : Fld Z h0 a1 "com/example/threefold/threefold/store/Activation" "applicationId" "J" (.long fap)) (F_userId : Fld Z h0 a1 "com/example/threefold/threefold/store/Activation" "userId" "Ljava/lang/String;" .null) (F_status : Fld Z h0 a1 "com/example/threefold/threefold/store/Activation" "status" "Lcom/example/threefold/threefold/protocol/ActivationStatus;" (.ref fst)) (F_counter : Fld Z h0 a1 "com/example/threefold/threefold/store/Activation" "counter" "J" (.long fco)) (F_failedAttempts : Fld Z h0 a1 "com/example/threefold/threefold/store/Activation" "failedAttempts" "I" (.int ffa)) (F_blockedReason : Fld Z h0 a1 "com/example/threefold/threefold/store/Activation" "blockedReason" "Ljava/lang/String;" .null) (F_code : Fld Z h0 a1 "com/example/threefold/threefold/store/Activation" "code" "Lcom/example/threefold/threefold/protocol/ActivationCode;" .null) (F_device : Fld Z h0 a1 "com/example/threefold/threefold/store/Activation" "device" "Lcom/example/threefold/threefold/store/Device;" (.ref fdv)) (F_createdAt : Fld Z h0 a1 "com/example/threefold/threefold/store/Activation" "createdAt" "J" (.long fcr)) (S_CREATED : Sta Z Z.heap "com/example/threefold/threefold/protocol/ActivationStatus" "CREATED" "Lcom/example/threefold/threefold/protocol/ActivationStatus;" (.ref s_CREATED)) (S_OTP_USED : Sta Z Z.heap "com/example/threefold/threefold/protocol/ActivationStatus" "OTP_USED" "Lcom/example/threefold/threefold/protocol/ActivationStatus;" (.ref s_OTP_USED)) (S_ACTIVE : Sta Z Z.heap "com/example/threefold/threefold/protocol/ActivationStatus" "ACTIVE" "Lcom/example/threefold/threefold/protocol/ActivationStatus;" (.ref s_ACTIVE)) (S_BLOCKED : Sta Z Z.heap "com/example/threefold/threefold/protocol/ActivationStatus" "BLOCKED" "Lcom/example/threefold/threefold/protocol/ActivationStatus;" (.ref s_BLOCKED)) (S_REMOVED : Sta Z Z.heap "com/example/threefold/threefold/protocol/ActivationStatus" "REMOVED" "Lcom/example/threefold/threefold/protocol/ActivationStatus;" (.ref s_REMOVED)) :
    MetFree l (⟨"com/example/threefold/threefold/store/Activation", "blocked", "(Ljava/lang/String;)Lcom/example/threefold/threefold/store/Activation;"⟩ : MethodName) (head1 (Jvm.Cond.code (⟨"com/example/threefold/threefold/store/Activation", "blocked", "(Ljava/lang/String;)Lcom/example/threefold/threefold/store/Activation;"⟩ : MethodName) prog_37_method_5_code 2 (some (.object "com/example/threefold/threefold/store/Activation")) :: ws) ({ frames := 4, cells := 1, slots := 10, locals := 65 } : Room)) (fun a U => a = #[(.ref a1), (.ref a2)] ∧ Z.Warmed39 U.vm ∧ U.heap = h0) (fun _ _ _ _ _ => True) (fun _ U o U' => ∃ v L, o = .returned v ∧ Q18_r Z a1 a2 fid fst fap fco fcr ffa fdv s_CREATED s_OTP_USED s_ACTIVE s_BLOCKED s_REMOVED h0 n0 v U'.heap L ∧ FrameEnd U o U' L ({ frames := 4, cells := 1, slots := 10, locals := 65 } : Room).cells ({ frames := 4, cells := 1, slots := 10, locals := 65 } : Room).slots) := by
  refine MetFree.of_bodySF (plainFor_of_name pn_3) hisR ?_
  intro p e s m args below meth c s₁ Bd hml0 hP hK
  obtain ⟨rfl, hZ, hh⟩ := hP
  have hx := Bd.exec
  have hby := Bd.bytes
  have hml : c.maxLocals = 2 := hml0
  have hown : s.vm.findClass "com/example/threefold/threefold/store/Activation" = some m.cls := findClass_of_methodNamed Bd.named
  have hnm := (name_of_methodNamed Bd.named Bd.method).1
  have X0 : Stand p l e ({ frames := 4, cells := 1, slots := 10, locals := 65 } : Room) s m #[(.ref a1), (.ref a2)] below meth c s₁ [] 0 0 := Stand.of_body Bd
  have e0 : s₁.heap = h0 := by rw [← hh, Bd.state]; rfl
  have N0 := Fr.nil n0
  have K0 := Keep.refl h0 []
  have pre0 : ∀ t, Steps p.tables e below (s₁.setTop (mkF m 0 #[.val (.ref a1), .val (.ref a2)] [])) t → Steps p.tables e below (s₁.setTop (entryFrame m #[(.ref a1), (.ref a2)] 2)) t := fun t k => castTop (ef_18_r m a1 a2) k
  obtain ⟨T1, X1, e1, st1⟩ := getS2 X0 hx hZ hown (host := "") (Or.inl (hw _ (List.mem_of_getElem? (i := 142) rfl))) Via.refl e0 (S_BLOCKED.ext O0.2) (g := (mkF m 1 #[vR a1, vR a2] [iR a1])) rfl (hb hby d18_1)
  obtain ⟨T2, X2, e2, st2⟩ := getF X1 hx hZ hown (host := "") (Or.inl (hw _ (List.mem_of_getElem? (i := 60) rfl))) Via.refl e1 F_failedAttempts (g := (mkF m 5 #[vR a1, vR a2] [iR a1, iR s_BLOCKED, iR a1])) rfl rfl (hb hby d18_5)
  obtain ⟨cq3, q3, q3'⟩ := E_a1.cell
  obtain ⟨_, _, ⟨T3, L3, k3, n3⟩, -, X3, ⟨Lc3, hQ3, l3, y3, z3⟩, st3⟩ := X2.privateBack hx (y := (⟨"com/example/threefold/threefold/store/Activation", "withState", "(Lcom/example/threefold/threefold/protocol/ActivationStatus;ILjava/lang/String;)Lcom/example/threefold/threefold/store/Activation;"⟩ : MethodName)) hown (mvT hZ (hw _ (List.mem_of_getElem? (i := 108) rfl))) (mvT hZ (hw _ (List.mem_of_getElem? (i := 109) rfl))) (own_selPriv (mvT hZ (hw _ (List.mem_of_getElem? (i := 10) rfl))) (Cond.privateMethod_at (mvP hZ (hw _ (List.mem_of_getElem? (i := 110) rfl)) (args := #[]))) (mvT hZ (hw _ (List.mem_of_getElem? (i := 109) rfl))) (by decide)) (Cond.privateMethod_at (mvP hZ (hw _ (List.mem_of_getElem? (i := 110) rfl)) (args := #[]))) (mvT hZ (hw _ (List.mem_of_getElem? (i := 111) rfl))) (by decide) (backOf (W := 0) (rm14_rr l Z a0 hw [] a1 s_BLOCKED ffa a2 fid fst fap fco fcr ffa fdv h0 n0 (Nat.le_trans Z0 K0.1) E_a1 F_activationId F_applicationId F_userId F_status F_counter F_failedAttempts F_blockedReason F_code F_device F_createdAt) hZ (hw _ (List.mem_of_getElem? (i := 111) rfl)) (hw _ (List.mem_of_getElem? (i := 11) rfl)) (by decide) (by decide)) (g := (mkF m 9 #[vR a1, vR a2] [iR a2, iI ffa, iR s_BLOCKED, iR a1])) rfl (by rw [hml]; rfl) (Steps.refl _) (a := a1) (by rw [e2]; exact q3) q3' (argsL := [(.ref s_BLOCKED), (.int ffa), (.ref a2)]) (rest := []) (lenOf pd_2 rfl) rfl (by show 2 * 0 + _ ≤ _; exact Nat.le_of_eq rfl) (hb hby d18_9) (fun _ _ => ⟨rfl, e2, (by decide : 0 + 1 ≤ _), (by decide : 0 + 10 ≤ _)⟩)
  dsimp only [Pt.U, Pt.locs, Pt.cells, Pt.slots] at X3 l3 y3 z3 st3 hQ3
  subst l3 y3 z3
  obtain ⟨o3, rfl, N3q, K3q, E3q, F3q⟩ := hQ3
  have N3 := Fr.app N0 N3q
  have K3 : Keep h0 T3.heap [] := Keep.trans K0 K3q all0
  obtain ⟨fs, hr, hrun, hended, hW, hsame⟩ := X3.leave (v := some (.ref o3)) (fun h => by rw [Bd.returns] at h; cases h)
  refine ⟨_, _, pre0 _ ?_, hrun, hended, _, _, rfl, ?_, ⟨_, rfl⟩, hW, hsame.mono (by decide) (by decide)⟩
  · show Steps _ _ _ (s₁.setTop (mkF m 0 #[vR a1, vR a2] [])) _
    refine XS.aloadN X0.here hx rfl (hb hby d18_0) rfl rfl ?_
    show Steps _ _ _ (s₁.setTop (mkF m 1 #[vR a1, vR a2] [iR a1])) _
    refine st1 _ ?_
    show Steps _ _ _ (T1.setTop (mkF m 4 #[vR a1, vR a2] [iR s_BLOCKED, iR a1])) _
    refine XS.aloadN X1.here hx rfl (hb hby d18_4) rfl rfl ?_
    show Steps _ _ _ (T1.setTop (mkF m 5 #[vR a1, vR a2] [iR a1, iR s_BLOCKED, iR a1])) _
    refine st2 _ ?_
    show Steps _ _ _ (T2.setTop (mkF m 8 #[vR a1, vR a2] [iI ffa, iR s_BLOCKED, iR a1])) _
    refine XS.aloadN X2.here hx rfl (hb hby d18_8) rfl rfl ?_
    show Steps _ _ _ (T2.setTop (mkF m 9 #[vR a1, vR a2] [iR a2, iI ffa, iR s_BLOCKED, iR a1])) _
    refine st3.trans ?_
    show Steps _ _ _ (T3.setTop (mkF m 12 #[vR a1, vR a2] [iR o3])) _
    jvm_step X3.here [X3.here.top, hx, (hb hby d18_12), X3.method', Bd.returns, Value.isRef, FieldType.isReference]
    first | (intro acts; rw [hr _ acts rfl rfl rfl]) | rw [hr _ _ rfl rfl rfl]
    exact Steps.refl _
  · show Q18_r Z a1 a2 fid fst fap fco fcr ffa fdv s_CREATED s_OTP_USED s_ACTIVE s_BLOCKED s_REMOVED h0 n0 _ T3.heap _
    exact ⟨_, rfl, N3, K3, E3q, F3q⟩
theorem d16_0 : decode prog_37_method_3_code 0 = .ok (.new 8, 3) := by decide +kernel
theorem d16_3 : decode prog_37_method_3_code 3 = .ok (.dup, 1) := by decide +kernel
theorem d16_4 : decode prog_37_method_3_code 4 = .ok (.aload_n 0, 1) := by decide +kernel
theorem d16_5 : decode prog_37_method_3_code 5 = .ok (.getfield 7, 3) := by decide +kernel
theorem d16_8 : decode prog_37_method_3_code 8 = .ok (.aload_n 0, 1) := by decide +kernel
theorem d16_9 : decode prog_37_method_3_code 9 = .ok (.getfield 13, 3) := by decide +kernel
theorem d16_12 : decode prog_37_method_3_code 12 = .ok (.aload_n 0, 1) := by decide +kernel
theorem d16_13 : decode prog_37_method_3_code 13 = .ok (.getfield 17, 3) := by decide +kernel
theorem d16_16 : decode prog_37_method_3_code 16 = .ok (.getstatic 48, 3) := by decide +kernel
theorem d16_19 : decode prog_37_method_3_code 19 = .ok (.lconst 0, 1) := by decide +kernel
theorem d16_20 : decode prog_37_method_3_code 20 = .ok (.iconst 0, 1) := by decide +kernel
theorem d16_21 : decode prog_37_method_3_code 21 = .ok (.aconst_null, 1) := by decide +kernel
theorem d16_22 : decode prog_37_method_3_code 22 = .ok (.aload_n 0, 1) := by decide +kernel
theorem d16_23 : decode prog_37_method_3_code 23 = .ok (.getfield 34, 3) := by decide +kernel
theorem d16_26 : decode prog_37_method_3_code 26 = .ok (.aload_n 1, 1) := by decide +kernel
theorem d16_27 : decode prog_37_method_3_code 27 = .ok (.aload_n 0, 1) := by decide +kernel
theorem d16_28 : decode prog_37_method_3_code 28 = .ok (.getfield 42, 3) := by decide +kernel
theorem d16_31 : decode prog_37_method_3_code 31 = .ok (.invokespecial 45, 3) := by decide +kernel
theorem d16_34 : decode prog_37_method_3_code 34 = .ok (.areturn, 1) := by decide +kernel
theorem ef_16_n (m : MethodId) (x0 : Addr) (x1 : Addr) : entryFrame m #[(.ref x0), (.ref x1)] 2 = mkF m 0 #[.val (.ref x0), .val (.ref x1)] [] := by first | (simp [entryFrame, mkF, argsToLocals, Value.category]; done) | rfl
def Q16_n (Z : State) (a1 : Addr) (a2 : Addr) (fid fst : Addr) (fap fco fcr : Int64) (ffa : Int32) (s_CREATED : Addr) (s_OTP_USED : Addr) (s_ACTIVE : Addr) (s_BLOCKED : Addr) (s_REMOVED : Addr) (h0 : Heap) (n0 : Nat) (v : Option Value) (h : Heap) (L : List Loc) : Prop := ∃ (o : Addr), v = some (.ref o) ∧ Fr n0 L ∧ Keep h0 h [] ∧ Exa Z h o "com/example/threefold/threefold/store/Activation" ∧ Fld Z h o "com/example/threefold/threefold/store/Activation" "device" "Lcom/example/threefold/threefold/store/Device;" (.ref a2)
set_option maxRecDepth 65536 in
set_option maxHeartbeats 40000000 in
theorem rm16_n (l : Launch) (Z : State) (a0 : Array Value) (hw : ∀ d ∈ tables_1, d.before a0 Z = true) (ws : List Jvm.Cond) (a1 : Addr) (a2 : Addr) (fid fst : Addr) (fap fco fcr : Int64) (ffa : Int32) (s_CREATED : Addr) (s_OTP_USED : Addr) (s_ACTIVE : Addr) (s_BLOCKED : Addr) (s_REMOVED : Addr) (h0 : Heap) (n0 : Nat) (Z0 : n0 ≤ h0.size) (O0 : Old Z n0 h0) (E_a1 : Exa Z h0 a1 "com/example/threefold/threefold/store/Activation") (F_activationId : Fld Z h0 a1 "com/example/threefold/threefold/store/Activation" "activationId" "Ljava/lang/String;" (.ref fid)) (F_applicationId : Fld Z h0 a1 "com/example/threefold/threefold/store/Activation" "applicationId" "J" (.long fap)) (F_userId : Fld Z h0 a1 "com/example/threefold/threefold/store/Activation" "userId" "Ljava/lang/String;" .null) (F_status : Fld Z h0 a1 "com/example/threefold/threefold/store/Activation" "status" "Lcom/example/threefold/threefold/protocol/ActivationStatus;" (.ref fst)) (F_counter : Fld Z h0 a1 "com/example/threefold/threefold/store/Activation" "counter" "J" (.long fco)) (F_failedAttempts : Fld Z h0 a1 "com/example/threefold/threefold/store/Activation" "failedAttempts" "I" (.int ffa)) (F_blockedReason : Fld Z h0 a1 "com/example/threefold/threefold/store/Activation" "blockedReason" "Ljava/lang/String;" .null) (F_code : Fld Z h0 a1 "com/example/threefold/threefold/store/Activation" "code" "Lcom/example/threefold/threefold/protocol/ActivationCode;" .null) (F_device : Fld Z h0 a1 "com/example/threefold/threefold/store/Activation" "device" "Lcom/example/threefold/threefold/store/Device;" .null) (F_createdAt : Fld Z h0 a1 "com/example/threefold/threefold/store/Activation" "createdAt" "J" (.long fcr)) (S_CREATED : Sta Z Z.heap "com/example/threefold/threefold/protocol/ActivationStatus" "CREATED" "Lcom/example/threefold/threefold/protocol/ActivationStatus;" (.ref s_CREATED)) (S_OTP_USED : Sta Z Z.heap "com/example/threefold/threefold/protocol/ActivationStatus" "OTP_USED" "Lcom/example/threefold/threefold/protocol/ActivationStatus;" (.ref s_OTP_USED)) (S_ACTIVE : Sta Z Z.heap "com/example/threefold/threefold/protocol/ActivationStatus" "ACTIVE" "Lcom/example/threefold/threefold/protocol/ActivationStatus;" (.ref s_ACTIVE)) (S_BLOCKED : Sta Z Z.heap "com/example/threefold/threefold/protocol/ActivationStatus" "BLOCKED" "Lcom/example/threefold/threefold/protocol/ActivationStatus;" (.ref s_BLOCKED)) (S_REMOVED : Sta Z Z.heap "com/example/threefold/threefold/protocol/ActivationStatus" "REMOVED" "Lcom/example/threefold/threefold/protocol/ActivationStatus;" (.ref s_REMOVED)) :
    MetFree l (⟨"com/example/threefold/threefold/store/Activation", "exchanged", "(Lcom/example/threefold/threefold/store/Device;)Lcom/example/threefold/threefold/store/Activation;"⟩ : MethodName) (head1 (Jvm.Cond.code (⟨"com/example/threefold/threefold/store/Activation", "exchanged", "(Lcom/example/threefold/threefold/store/Device;)Lcom/example/threefold/threefold/store/Activation;"⟩ : MethodName) prog_37_method_3_code 2 (some (.object "com/example/threefold/threefold/store/Activation")) :: ws) ({ frames := 3, cells := 1, slots := 10, locals := 50 } : Room)) (fun a U => a = #[(.ref a1), (.ref a2)] ∧ Z.Warmed39 U.vm ∧ U.heap = h0) (fun _ _ _ _ _ => True) (fun _ U o U' => ∃ v L, o = .returned v ∧ Q16_n Z a1 a2 fid fst fap fco fcr ffa s_CREATED s_OTP_USED s_ACTIVE s_BLOCKED s_REMOVED h0 n0 v U'.heap L ∧ FrameEnd U o U' L ({ frames := 3, cells := 1, slots := 10, locals := 50 } : Room).cells ({ frames := 3, cells := 1, slots := 10, locals := 50 } : Room).slots) := by
  refine MetFree.of_bodySF (plainFor_of_name pn_3) hisR ?_
  intro p e s m args below meth c s₁ Bd hml0 hP hK
  obtain ⟨rfl, hZ, hh⟩ := hP
  have hx := Bd.exec
  have hby := Bd.bytes
  have hml : c.maxLocals = 2 := hml0
  have hown : s.vm.findClass "com/example/threefold/threefold/store/Activation" = some m.cls := findClass_of_methodNamed Bd.named
  have hnm := (name_of_methodNamed Bd.named Bd.method).1
  have X0 : Stand p l e ({ frames := 3, cells := 1, slots := 10, locals := 50 } : Room) s m #[(.ref a1), (.ref a2)] below meth c s₁ [] 0 0 := Stand.of_body Bd
  have e0 : s₁.heap = h0 := by rw [← hh, Bd.state]; rfl
  have N0 := Fr.nil n0
  have K0 := Keep.refl h0 []
  have pre0 : ∀ t, Steps p.tables e below (s₁.setTop (mkF m 0 #[.val (.ref a1), .val (.ref a2)] [])) t → Steps p.tables e below (s₁.setTop (entryFrame m #[(.ref a1), (.ref a2)] 2)) t := fun t k => castTop (ef_16_n m a1 a2) k
  obtain ⟨T1, h1, X1, e1, E1, A1, D1, -, st1⟩ := newO X0 hx hZ hown (hw _ (List.mem_of_getElem? (i := 80) rfl)) (hw _ (List.mem_of_getElem? (i := 10) rfl)) (hw _ (List.mem_of_getElem? (i := 11) rfl)) e0 (g := (mkF m 0 #[vR a1, vR a2] [])) rfl (hb hby d16_0) (by decide) (by decide)
  obtain ⟨b1, g1⟩ : ∃ z, z = h0.size := ⟨_, rfl⟩
  rw [← g1] at A1 D1 st1
  have ne_a1_b1 : a1 ≠ b1 := Nat.ne_of_lt (Nat.lt_of_lt_of_le E_a1.lt (Nat.le_of_eq g1.symm))
  have sz_b1 : h0.size ≤ b1 := Nat.le_trans K0.1 (Nat.le_of_eq g1.symm)
  have g_b1 : n0 ≤ b1 := Nat.le_trans Z0 sz_b1
  have K1 : Keep h0 h1 [] := K0.ext E1
  have F_activationId_b1 : Fld Z h1 b1 "com/example/threefold/threefold/store/Activation" "activationId" "Ljava/lang/String;" .null := D1 (Or.inr (hw _ (List.mem_of_getElem? (i := 51) rfl))) (ty := (.object "java/lang/String")) (by decide)
  have F_applicationId_b1 : Fld Z h1 b1 "com/example/threefold/threefold/store/Activation" "applicationId" "J" (.long (0 : Int64)) := D1 (Or.inr (hw _ (List.mem_of_getElem? (i := 53) rfl))) (ty := .long) (by decide)
  have F_userId_b1 : Fld Z h1 b1 "com/example/threefold/threefold/store/Activation" "userId" "Ljava/lang/String;" .null := D1 (Or.inr (hw _ (List.mem_of_getElem? (i := 55) rfl))) (ty := (.object "java/lang/String")) (by decide)
  have F_status_b1 : Fld Z h1 b1 "com/example/threefold/threefold/store/Activation" "status" "Lcom/example/threefold/threefold/protocol/ActivationStatus;" .null := D1 (Or.inr (hw _ (List.mem_of_getElem? (i := 57) rfl))) (ty := (.object "com/example/threefold/threefold/protocol/ActivationStatus")) (by decide)
  have F_counter_b1 : Fld Z h1 b1 "com/example/threefold/threefold/store/Activation" "counter" "J" (.long (0 : Int64)) := D1 (Or.inr (hw _ (List.mem_of_getElem? (i := 59) rfl))) (ty := .long) (by decide)
  have F_failedAttempts_b1 : Fld Z h1 b1 "com/example/threefold/threefold/store/Activation" "failedAttempts" "I" (.int (0 : Int32)) := D1 (Or.inr (hw _ (List.mem_of_getElem? (i := 61) rfl))) (ty := .int) (by decide)
  have F_blockedReason_b1 : Fld Z h1 b1 "com/example/threefold/threefold/store/Activation" "blockedReason" "Ljava/lang/String;" .null := D1 (Or.inr (hw _ (List.mem_of_getElem? (i := 63) rfl))) (ty := (.object "java/lang/String")) (by decide)
  have F_code_b1 : Fld Z h1 b1 "com/example/threefold/threefold/store/Activation" "code" "Lcom/example/threefold/threefold/protocol/ActivationCode;" .null := D1 (Or.inr (hw _ (List.mem_of_getElem? (i := 65) rfl))) (ty := (.object "com/example/threefold/threefold/protocol/ActivationCode")) (by decide)
  have F_device_b1 : Fld Z h1 b1 "com/example/threefold/threefold/store/Activation" "device" "Lcom/example/threefold/threefold/store/Device;" .null := D1 (Or.inr (hw _ (List.mem_of_getElem? (i := 67) rfl))) (ty := (.object "com/example/threefold/threefold/store/Device")) (by decide)
  have F_createdAt_b1 : Fld Z h1 b1 "com/example/threefold/threefold/store/Activation" "createdAt" "J" (.long (0 : Int64)) := D1 (Or.inr (hw _ (List.mem_of_getElem? (i := 69) rfl))) (ty := .long) (by decide)
  have fk2 := (F_activationId.ext E1)
  obtain ⟨T3, X3, e3, st3⟩ := getF X1 hx hZ hown (host := "") (Or.inl (hw _ (List.mem_of_getElem? (i := 50) rfl))) Via.refl e1 fk2 (g := (mkF m 5 #[vR a1, vR a2] [iR a1, iR b1, iR b1])) rfl rfl (hb hby d16_5)
  have fk4 := (F_applicationId.ext E1)
  obtain ⟨T5, X5, e5, st5⟩ := getF X3 hx hZ hown (host := "") (Or.inl (hw _ (List.mem_of_getElem? (i := 52) rfl))) Via.refl e3 fk4 (g := (mkF m 9 #[vR a1, vR a2] [iR a1, iR fid, iR b1, iR b1])) rfl rfl (hb hby d16_9)
  have fk6 := (F_userId.ext E1)
  obtain ⟨T7, X7, e7, st7⟩ := getF X5 hx hZ hown (host := "") (Or.inl (hw _ (List.mem_of_getElem? (i := 54) rfl))) Via.refl e5 fk6 (g := (mkF m 13 #[vR a1, vR a2] [iR a1, iJ fap, iR fid, iR b1, iR b1])) rfl rfl (hb hby d16_13)
  have Oh8 := O0.keep K1 all0
  have fo9 := S_OTP_USED.ext Oh8.2
  obtain ⟨T10, X10, e10, st10⟩ := getS2 X7 hx hZ hown (host := "") (Or.inl (hw _ (List.mem_of_getElem? (i := 125) rfl))) Via.refl e7 fo9 (g := (mkF m 16 #[vR a1, vR a2] [.null, iJ fap, iR fid, iR b1, iR b1])) rfl (hb hby d16_16)
  have fk11 := (F_code.ext E1)
  obtain ⟨T12, X12, e12, st12⟩ := getF X10 hx hZ hown (host := "") (Or.inl (hw _ (List.mem_of_getElem? (i := 64) rfl))) Via.refl e10 fk11 (g := (mkF m 23 #[vR a1, vR a2] [iR a1, .null, iI 0, iJ 0, iR s_OTP_USED, .null, iJ fap, iR fid, iR b1, iR b1])) rfl rfl (hb hby d16_23)
  have fk13 := (F_createdAt.ext E1)
  obtain ⟨T14, X14, e14, st14⟩ := getF X12 hx hZ hown (host := "") (Or.inl (hw _ (List.mem_of_getElem? (i := 68) rfl))) Via.refl e12 fk13 (g := (mkF m 28 #[vR a1, vR a2] [iR a1, iR a2, .null, .null, iI 0, iJ 0, iR s_OTP_USED, .null, iJ fap, iR fid, iR b1, iR b1])) rfl rfl (hb hby d16_28)
  obtain ⟨_, _, ⟨T15, L15, k15, n15⟩, -, X15, ⟨Lc15, hQ15, l15, y15, z15⟩, st15⟩ := X14.specialBack hx (y := (⟨"com/example/threefold/threefold/store/Activation", "<init>", "(Ljava/lang/String;JLjava/lang/String;Lcom/example/threefold/threefold/protocol/ActivationStatus;JILjava/lang/String;Lcom/example/threefold/threefold/protocol/ActivationCode;Lcom/example/threefold/threefold/store/Device;J)V"⟩ : MethodName)) rfl hown (mvT hZ (hw _ (List.mem_of_getElem? (i := 81) rfl))) (mvT hZ (hw _ (List.mem_of_getElem? (i := 42) rfl))) (mvT hZ (hw _ (List.mem_of_getElem? (i := 43) rfl))) (by decide) (backOf (W := 1) (rm8_nr l Z a0 hw [] b1 fid fap s_OTP_USED (0 : Int64) (0 : Int32) a2 fcr h1 n0 (Nat.le_trans Z0 K1.1) A1 g_b1 F_activationId_b1 F_applicationId_b1 F_userId_b1 F_status_b1 F_counter_b1 F_failedAttempts_b1 F_blockedReason_b1 F_code_b1 F_device_b1 F_createdAt_b1) hZ (hw _ (List.mem_of_getElem? (i := 43) rfl)) (hw _ (List.mem_of_getElem? (i := 11) rfl)) (by decide) (by decide)) (g := (mkF m 31 #[vR a1, vR a2] [iJ fcr, iR a2, .null, .null, iI 0, iJ 0, iR s_OTP_USED, .null, iJ fap, iR fid, iR b1, iR b1])) rfl (by rw [hml]; rfl) (Steps.refl _) (a := b1) (argsL := [(.ref fid), (.long fap), .null, (.ref s_OTP_USED), (.long (0 : Int64)), (.int (0 : Int32)), .null, .null, (.ref a2), (.long fcr)]) (rest := [(.ref b1)]) (lenOf pd_1 rfl) rfl (by show 2 * 0 + _ ≤ _; exact Nat.le_of_eq rfl) (hb hby d16_31) (fun _ _ => ⟨rfl, e14, (by decide : 1 + 0 ≤ _), (by decide : 10 + 0 ≤ _)⟩)
  dsimp only [Pt.U, Pt.locs, Pt.cells, Pt.slots] at X15 l15 y15 z15 st15 hQ15
  subst l15 y15 z15
  obtain ⟨rfl, N15q, K15q, E15q, F15_activationId, F15_applicationId, F15_userId, F15_status, F15_counter, F15_failedAttempts, F15_blockedReason, F15_code, F15_device, F15_createdAt⟩ := hQ15
  have N15 := Fr.app N0 N15q
  have K15 : Keep h0 T15.heap [] := Keep.trans K1 K15q (allS (Or.inr sz_b1) all0)
  obtain ⟨fs, hr, hrun, hended, hW, hsame⟩ := X15.leave (v := some (.ref b1)) (fun h => by rw [Bd.returns] at h; cases h)
  refine ⟨_, _, pre0 _ ?_, hrun, hended, _, _, rfl, ?_, ⟨_, rfl⟩, hW, hsame.mono (by decide) (by decide)⟩
  · show Steps _ _ _ (s₁.setTop (mkF m 0 #[vR a1, vR a2] [])) _
    refine st1 _ ?_
    show Steps _ _ _ (T1.setTop (mkF m 3 #[vR a1, vR a2] [iR b1])) _
    refine XS.dup X1.here hx rfl (hb hby d16_3) rfl rfl ?_
    show Steps _ _ _ (T1.setTop (mkF m 4 #[vR a1, vR a2] [iR b1, iR b1])) _
    refine XS.aloadN X1.here hx rfl (hb hby d16_4) rfl rfl ?_
    show Steps _ _ _ (T1.setTop (mkF m 5 #[vR a1, vR a2] [iR a1, iR b1, iR b1])) _
    refine st3 _ ?_
    show Steps _ _ _ (T3.setTop (mkF m 8 #[vR a1, vR a2] [iR fid, iR b1, iR b1])) _
    refine XS.aloadN X3.here hx rfl (hb hby d16_8) rfl rfl ?_
    show Steps _ _ _ (T3.setTop (mkF m 9 #[vR a1, vR a2] [iR a1, iR fid, iR b1, iR b1])) _
    refine st5 _ ?_
    show Steps _ _ _ (T5.setTop (mkF m 12 #[vR a1, vR a2] [iJ fap, iR fid, iR b1, iR b1])) _
    refine XS.aloadN X5.here hx rfl (hb hby d16_12) rfl rfl ?_
    show Steps _ _ _ (T5.setTop (mkF m 13 #[vR a1, vR a2] [iR a1, iJ fap, iR fid, iR b1, iR b1])) _
    refine st7 _ ?_
    show Steps _ _ _ (T7.setTop (mkF m 16 #[vR a1, vR a2] [.null, iJ fap, iR fid, iR b1, iR b1])) _
    refine st10 _ ?_
    show Steps _ _ _ (T10.setTop (mkF m 19 #[vR a1, vR a2] [iR s_OTP_USED, .null, iJ fap, iR fid, iR b1, iR b1])) _
    refine XS.lconst X10.here hx rfl (hb hby d16_19) ?_
    show Steps _ _ _ (T10.setTop (mkF m 20 #[vR a1, vR a2] [iJ 0, iR s_OTP_USED, .null, iJ fap, iR fid, iR b1, iR b1])) _
    refine XS.iconst X10.here hx rfl (hb hby d16_20) ?_
    show Steps _ _ _ (T10.setTop (mkF m 21 #[vR a1, vR a2] [iI 0, iJ 0, iR s_OTP_USED, .null, iJ fap, iR fid, iR b1, iR b1])) _
    refine XS.aconstNull X10.here hx rfl (hb hby d16_21) ?_
    show Steps _ _ _ (T10.setTop (mkF m 22 #[vR a1, vR a2] [.null, iI 0, iJ 0, iR s_OTP_USED, .null, iJ fap, iR fid, iR b1, iR b1])) _
    refine XS.aloadN X10.here hx rfl (hb hby d16_22) rfl rfl ?_
    show Steps _ _ _ (T10.setTop (mkF m 23 #[vR a1, vR a2] [iR a1, .null, iI 0, iJ 0, iR s_OTP_USED, .null, iJ fap, iR fid, iR b1, iR b1])) _
    refine st12 _ ?_
    show Steps _ _ _ (T12.setTop (mkF m 26 #[vR a1, vR a2] [.null, .null, iI 0, iJ 0, iR s_OTP_USED, .null, iJ fap, iR fid, iR b1, iR b1])) _
    refine XS.aloadN X12.here hx rfl (hb hby d16_26) rfl rfl ?_
    show Steps _ _ _ (T12.setTop (mkF m 27 #[vR a1, vR a2] [iR a2, .null, .null, iI 0, iJ 0, iR s_OTP_USED, .null, iJ fap, iR fid, iR b1, iR b1])) _
    refine XS.aloadN X12.here hx rfl (hb hby d16_27) rfl rfl ?_
    show Steps _ _ _ (T12.setTop (mkF m 28 #[vR a1, vR a2] [iR a1, iR a2, .null, .null, iI 0, iJ 0, iR s_OTP_USED, .null, iJ fap, iR fid, iR b1, iR b1])) _
    refine st14 _ ?_
    show Steps _ _ _ (T14.setTop (mkF m 31 #[vR a1, vR a2] [iJ fcr, iR a2, .null, .null, iI 0, iJ 0, iR s_OTP_USED, .null, iJ fap, iR fid, iR b1, iR b1])) _
    refine st15.trans ?_
    show Steps _ _ _ (T15.setTop (mkF m 34 #[vR a1, vR a2] [iR b1])) _
    jvm_step X15.here [X15.here.top, hx, (hb hby d16_34), X15.method', Bd.returns, Value.isRef, FieldType.isReference]
    first | (intro acts; rw [hr _ acts rfl rfl rfl]) | rw [hr _ _ rfl rfl rfl]
    exact Steps.refl _
  · show Q16_n Z a1 a2 fid fst fap fco fcr ffa s_CREATED s_OTP_USED s_ACTIVE s_BLOCKED s_REMOVED h0 n0 _ T15.heap _
    exact ⟨_, rfl, N15, K15, E15q, F15_device⟩
theorem ef_16_r (m : MethodId) (x0 : Addr) (x1 : Addr) : entryFrame m #[(.ref x0), (.ref x1)] 2 = mkF m 0 #[.val (.ref x0), .val (.ref x1)] [] := by first | (simp [entryFrame, mkF, argsToLocals, Value.category]; done) | rfl
def Q16_r (Z : State) (a1 : Addr) (a2 : Addr) (fid fst : Addr) (fap fco fcr : Int64) (ffa : Int32) (fdv : Addr) (s_CREATED : Addr) (s_OTP_USED : Addr) (s_ACTIVE : Addr) (s_BLOCKED : Addr) (s_REMOVED : Addr) (h0 : Heap) (n0 : Nat) (v : Option Value) (h : Heap) (L : List Loc) : Prop := ∃ (o : Addr), v = some (.ref o) ∧ Fr n0 L ∧ Keep h0 h [] ∧ Exa Z h o "com/example/threefold/threefold/store/Activation" ∧ Fld Z h o "com/example/threefold/threefold/store/Activation" "device" "Lcom/example/threefold/threefold/store/Device;" (.ref a2)
set_option maxRecDepth 65536 in
set_option maxHeartbeats 40000000 in
theorem rm16_r (l : Launch) (Z : State) (a0 : Array Value) (hw : ∀ d ∈ tables_1, d.before a0 Z = true) (ws : List Jvm.Cond) (a1 : Addr) (a2 : Addr) (fid fst : Addr) (fap fco fcr : Int64) (ffa : Int32) (fdv : Addr) (s_CREATED : Addr) (s_OTP_USED : Addr) (s_ACTIVE : Addr) (s_BLOCKED : Addr) (s_REMOVED : Addr) (h0 : Heap) (n0 : Nat) (Z0 : n0 ≤ h0.size) (O0 : Old Z n0 h0) (E_a1 : Exa Z h0 a1 "com/example/threefold/threefold/store/Activation") (F_activationId : Fld Z h0 a1 "com/example/threefold/threefold/store/Activation" "activationId" "Ljava/lang/String;" (.ref fid)) (F_applicationId : Fld Z h0 a1 "com/example/threefold/threefold/store/Activation" "applicationId" "J" (.long fap)) (F_userId : Fld Z h0 a1 "com/example/threefold/threefold/store/Activation" "userId" "Ljava/lang/String;" .null) (F_status : Fld Z h0 a1 "com/example/threefold/threefold/store/Activation" "status" "Lcom/example/threefold/threefold/protocol/ActivationStatus;" (.ref fst)) (F_counter : Fld Z h0 a1 "com/example/threefold/threefold/store/Activation" "counter" "J" (.long fco)) (F_failedAttempts : Fld Z h0 a1 "com/example/threefold/threefold/store/Activation" "failedAttempts" "I" (.int ffa)) (F_blockedReason : Fld Z h0 a1 "com/example/threefold/threefold/store/Activation" "blockedReason" "Ljava/lang/String;" .null) (F_code : Fld Z h0 a1 "com/example/threefold/threefold/store/Activation" "code" "Lcom/example/threefold/threefold/protocol/ActivationCode;" .null) (F_device : Fld Z h0 a1 "com/example/threefold/threefold/store/Activation" "device" "Lcom/example/threefold/threefold/store/Device;" (.ref fdv)) (F_createdAt : Fld Z h0 a1 "com/example/threefold/threefold/store/Activation" "createdAt" "J" (.long fcr)) (S_CREATED : Sta Z Z.heap "com/example/threefold/threefold/protocol/ActivationStatus" "CREATED" "Lcom/example/threefold/threefold/protocol/ActivationStatus;" (.ref s_CREATED)) (S_OTP_USED : Sta Z Z.heap "com/example/threefold/threefold/protocol/ActivationStatus" "OTP_USED" "Lcom/example/threefold/threefold/protocol/ActivationStatus;" (.ref s_OTP_USED)) (S_ACTIVE : Sta Z Z.heap "com/example/threefold/threefold/protocol/ActivationStatus" "ACTIVE" "Lcom/example/threefold/threefold/protocol/ActivationStatus;" (.ref s_ACTIVE)) (S_BLOCKED : Sta Z Z.heap "com/example/threefold/threefold/protocol/ActivationStatus" "BLOCKED" "Lcom/example/threefold/threefold/protocol/ActivationStatus;" (.ref s_BLOCKED)) (S_REMOVED : Sta Z Z.heap "com/example/threefold/threefold/protocol/ActivationStatus" "REMOVED" "Lcom/example/threefold/threefold/protocol/ActivationStatus;" (.ref s_REMOVED)) :
    MetFree l (⟨"com/example/threefold/threefold/store/Activation", "exchanged", "(Lcom/example/threefold/threefold/store/Device;)Lcom/example/threefold/threefold/store/Activation;"⟩ : MethodName) (head1 (Jvm.Cond.code (⟨"com/example/threefold/threefold/store/Activation", "exchanged", "(Lcom/example/threefold/threefold/store/Device;)Lcom/example/threefold/threefold/store/Activation;"⟩ : MethodName) prog_37_method_3_code 2 (some (.object "com/example/threefold/threefold/store/Activation")) :: ws) ({ frames := 3, cells := 1, slots := 10, locals := 50 } : Room)) (fun a U => a = #[(.ref a1), (.ref a2)] ∧ Z.Warmed39 U.vm ∧ U.heap = h0) (fun _ _ _ _ _ => True) (fun _ U o U' => ∃ v L, o = .returned v ∧ Q16_r Z a1 a2 fid fst fap fco fcr ffa fdv s_CREATED s_OTP_USED s_ACTIVE s_BLOCKED s_REMOVED h0 n0 v U'.heap L ∧ FrameEnd U o U' L ({ frames := 3, cells := 1, slots := 10, locals := 50 } : Room).cells ({ frames := 3, cells := 1, slots := 10, locals := 50 } : Room).slots) := by
  refine MetFree.of_bodySF (plainFor_of_name pn_3) hisR ?_
  intro p e s m args below meth c s₁ Bd hml0 hP hK
  obtain ⟨rfl, hZ, hh⟩ := hP
  have hx := Bd.exec
  have hby := Bd.bytes
  have hml : c.maxLocals = 2 := hml0
  have hown : s.vm.findClass "com/example/threefold/threefold/store/Activation" = some m.cls := findClass_of_methodNamed Bd.named
  have hnm := (name_of_methodNamed Bd.named Bd.method).1
  have X0 : Stand p l e ({ frames := 3, cells := 1, slots := 10, locals := 50 } : Room) s m #[(.ref a1), (.ref a2)] below meth c s₁ [] 0 0 := Stand.of_body Bd
  have e0 : s₁.heap = h0 := by rw [← hh, Bd.state]; rfl
  have N0 := Fr.nil n0
  have K0 := Keep.refl h0 []
  have pre0 : ∀ t, Steps p.tables e below (s₁.setTop (mkF m 0 #[.val (.ref a1), .val (.ref a2)] [])) t → Steps p.tables e below (s₁.setTop (entryFrame m #[(.ref a1), (.ref a2)] 2)) t := fun t k => castTop (ef_16_r m a1 a2) k
  obtain ⟨T1, h1, X1, e1, E1, A1, D1, -, st1⟩ := newO X0 hx hZ hown (hw _ (List.mem_of_getElem? (i := 80) rfl)) (hw _ (List.mem_of_getElem? (i := 10) rfl)) (hw _ (List.mem_of_getElem? (i := 11) rfl)) e0 (g := (mkF m 0 #[vR a1, vR a2] [])) rfl (hb hby d16_0) (by decide) (by decide)
  obtain ⟨b1, g1⟩ : ∃ z, z = h0.size := ⟨_, rfl⟩
  rw [← g1] at A1 D1 st1
  have ne_a1_b1 : a1 ≠ b1 := Nat.ne_of_lt (Nat.lt_of_lt_of_le E_a1.lt (Nat.le_of_eq g1.symm))
  have sz_b1 : h0.size ≤ b1 := Nat.le_trans K0.1 (Nat.le_of_eq g1.symm)
  have g_b1 : n0 ≤ b1 := Nat.le_trans Z0 sz_b1
  have K1 : Keep h0 h1 [] := K0.ext E1
  have F_activationId_b1 : Fld Z h1 b1 "com/example/threefold/threefold/store/Activation" "activationId" "Ljava/lang/String;" .null := D1 (Or.inr (hw _ (List.mem_of_getElem? (i := 51) rfl))) (ty := (.object "java/lang/String")) (by decide)
  have F_applicationId_b1 : Fld Z h1 b1 "com/example/threefold/threefold/store/Activation" "applicationId" "J" (.long (0 : Int64)) := D1 (Or.inr (hw _ (List.mem_of_getElem? (i := 53) rfl))) (ty := .long) (by decide)
  have F_userId_b1 : Fld Z h1 b1 "com/example/threefold/threefold/store/Activation" "userId" "Ljava/lang/String;" .null := D1 (Or.inr (hw _ (List.mem_of_getElem? (i := 55) rfl))) (ty := (.object "java/lang/String")) (by decide)
  have F_status_b1 : Fld Z h1 b1 "com/example/threefold/threefold/store/Activation" "status" "Lcom/example/threefold/threefold/protocol/ActivationStatus;" .null := D1 (Or.inr (hw _ (List.mem_of_getElem? (i := 57) rfl))) (ty := (.object "com/example/threefold/threefold/protocol/ActivationStatus")) (by decide)
  have F_counter_b1 : Fld Z h1 b1 "com/example/threefold/threefold/store/Activation" "counter" "J" (.long (0 : Int64)) := D1 (Or.inr (hw _ (List.mem_of_getElem? (i := 59) rfl))) (ty := .long) (by decide)
  have F_failedAttempts_b1 : Fld Z h1 b1 "com/example/threefold/threefold/store/Activation" "failedAttempts" "I" (.int (0 : Int32)) := D1 (Or.inr (hw _ (List.mem_of_getElem? (i := 61) rfl))) (ty := .int) (by decide)
  have F_blockedReason_b1 : Fld Z h1 b1 "com/example/threefold/threefold/store/Activation" "blockedReason" "Ljava/lang/String;" .null := D1 (Or.inr (hw _ (List.mem_of_getElem? (i := 63) rfl))) (ty := (.object "java/lang/String")) (by decide)
  have F_code_b1 : Fld Z h1 b1 "com/example/threefold/threefold/store/Activation" "code" "Lcom/example/threefold/threefold/protocol/ActivationCode;" .null := D1 (Or.inr (hw _ (List.mem_of_getElem? (i := 65) rfl))) (ty := (.object "com/example/threefold/threefold/protocol/ActivationCode")) (by decide)
  have F_device_b1 : Fld Z h1 b1 "com/example/threefold/threefold/store/Activation" "device" "Lcom/example/threefold/threefold/store/Device;" .null := D1 (Or.inr (hw _ (List.mem_of_getElem? (i := 67) rfl))) (ty := (.object "com/example/threefold/threefold/store/Device")) (by decide)
  have F_createdAt_b1 : Fld Z h1 b1 "com/example/threefold/threefold/store/Activation" "createdAt" "J" (.long (0 : Int64)) := D1 (Or.inr (hw _ (List.mem_of_getElem? (i := 69) rfl))) (ty := .long) (by decide)
  have fk2 := (F_activationId.ext E1)
  obtain ⟨T3, X3, e3, st3⟩ := getF X1 hx hZ hown (host := "") (Or.inl (hw _ (List.mem_of_getElem? (i := 50) rfl))) Via.refl e1 fk2 (g := (mkF m 5 #[vR a1, vR a2] [iR a1, iR b1, iR b1])) rfl rfl (hb hby d16_5)
  have fk4 := (F_applicationId.ext E1)
  obtain ⟨T5, X5, e5, st5⟩ := getF X3 hx hZ hown (host := "") (Or.inl (hw _ (List.mem_of_getElem? (i := 52) rfl))) Via.refl e3 fk4 (g := (mkF m 9 #[vR a1, vR a2] [iR a1, iR fid, iR b1, iR b1])) rfl rfl (hb hby d16_9)
  have fk6 := (F_userId.ext E1)
  obtain ⟨T7, X7, e7, st7⟩ := getF X5 hx hZ hown (host := "") (Or.inl (hw _ (List.mem_of_getElem? (i := 54) rfl))) Via.refl e5 fk6 (g := (mkF m 13 #[vR a1, vR a2] [iR a1, iJ fap, iR fid, iR b1, iR b1])) rfl rfl (hb hby d16_13)
  have Oh8 := O0.keep K1 all0
  have fo9 := S_OTP_USED.ext Oh8.2
  obtain ⟨T10, X10, e10, st10⟩ := getS2 X7 hx hZ hown (host := "") (Or.inl (hw _ (List.mem_of_getElem? (i := 125) rfl))) Via.refl e7 fo9 (g := (mkF m 16 #[vR a1, vR a2] [.null, iJ fap, iR fid, iR b1, iR b1])) rfl (hb hby d16_16)
  have fk11 := (F_code.ext E1)
  obtain ⟨T12, X12, e12, st12⟩ := getF X10 hx hZ hown (host := "") (Or.inl (hw _ (List.mem_of_getElem? (i := 64) rfl))) Via.refl e10 fk11 (g := (mkF m 23 #[vR a1, vR a2] [iR a1, .null, iI 0, iJ 0, iR s_OTP_USED, .null, iJ fap, iR fid, iR b1, iR b1])) rfl rfl (hb hby d16_23)
  have fk13 := (F_createdAt.ext E1)
  obtain ⟨T14, X14, e14, st14⟩ := getF X12 hx hZ hown (host := "") (Or.inl (hw _ (List.mem_of_getElem? (i := 68) rfl))) Via.refl e12 fk13 (g := (mkF m 28 #[vR a1, vR a2] [iR a1, iR a2, .null, .null, iI 0, iJ 0, iR s_OTP_USED, .null, iJ fap, iR fid, iR b1, iR b1])) rfl rfl (hb hby d16_28)
  obtain ⟨_, _, ⟨T15, L15, k15, n15⟩, -, X15, ⟨Lc15, hQ15, l15, y15, z15⟩, st15⟩ := X14.specialBack hx (y := (⟨"com/example/threefold/threefold/store/Activation", "<init>", "(Ljava/lang/String;JLjava/lang/String;Lcom/example/threefold/threefold/protocol/ActivationStatus;JILjava/lang/String;Lcom/example/threefold/threefold/protocol/ActivationCode;Lcom/example/threefold/threefold/store/Device;J)V"⟩ : MethodName)) rfl hown (mvT hZ (hw _ (List.mem_of_getElem? (i := 81) rfl))) (mvT hZ (hw _ (List.mem_of_getElem? (i := 42) rfl))) (mvT hZ (hw _ (List.mem_of_getElem? (i := 43) rfl))) (by decide) (backOf (W := 1) (rm8_nr l Z a0 hw [] b1 fid fap s_OTP_USED (0 : Int64) (0 : Int32) a2 fcr h1 n0 (Nat.le_trans Z0 K1.1) A1 g_b1 F_activationId_b1 F_applicationId_b1 F_userId_b1 F_status_b1 F_counter_b1 F_failedAttempts_b1 F_blockedReason_b1 F_code_b1 F_device_b1 F_createdAt_b1) hZ (hw _ (List.mem_of_getElem? (i := 43) rfl)) (hw _ (List.mem_of_getElem? (i := 11) rfl)) (by decide) (by decide)) (g := (mkF m 31 #[vR a1, vR a2] [iJ fcr, iR a2, .null, .null, iI 0, iJ 0, iR s_OTP_USED, .null, iJ fap, iR fid, iR b1, iR b1])) rfl (by rw [hml]; rfl) (Steps.refl _) (a := b1) (argsL := [(.ref fid), (.long fap), .null, (.ref s_OTP_USED), (.long (0 : Int64)), (.int (0 : Int32)), .null, .null, (.ref a2), (.long fcr)]) (rest := [(.ref b1)]) (lenOf pd_1 rfl) rfl (by show 2 * 0 + _ ≤ _; exact Nat.le_of_eq rfl) (hb hby d16_31) (fun _ _ => ⟨rfl, e14, (by decide : 1 + 0 ≤ _), (by decide : 10 + 0 ≤ _)⟩)
  dsimp only [Pt.U, Pt.locs, Pt.cells, Pt.slots] at X15 l15 y15 z15 st15 hQ15
  subst l15 y15 z15
  obtain ⟨rfl, N15q, K15q, E15q, F15_activationId, F15_applicationId, F15_userId, F15_status, F15_counter, F15_failedAttempts, F15_blockedReason, F15_code, F15_device, F15_createdAt⟩ := hQ15
  have N15 := Fr.app N0 N15q
  have K15 : Keep h0 T15.heap [] := Keep.trans K1 K15q (allS (Or.inr sz_b1) all0)
  obtain ⟨fs, hr, hrun, hended, hW, hsame⟩ := X15.leave (v := some (.ref b1)) (fun h => by rw [Bd.returns] at h; cases h)
  refine ⟨_, _, pre0 _ ?_, hrun, hended, _, _, rfl, ?_, ⟨_, rfl⟩, hW, hsame.mono (by decide) (by decide)⟩
  · show Steps _ _ _ (s₁.setTop (mkF m 0 #[vR a1, vR a2] [])) _
    refine st1 _ ?_
    show Steps _ _ _ (T1.setTop (mkF m 3 #[vR a1, vR a2] [iR b1])) _
    refine XS.dup X1.here hx rfl (hb hby d16_3) rfl rfl ?_
    show Steps _ _ _ (T1.setTop (mkF m 4 #[vR a1, vR a2] [iR b1, iR b1])) _
    refine XS.aloadN X1.here hx rfl (hb hby d16_4) rfl rfl ?_
    show Steps _ _ _ (T1.setTop (mkF m 5 #[vR a1, vR a2] [iR a1, iR b1, iR b1])) _
    refine st3 _ ?_
    show Steps _ _ _ (T3.setTop (mkF m 8 #[vR a1, vR a2] [iR fid, iR b1, iR b1])) _
    refine XS.aloadN X3.here hx rfl (hb hby d16_8) rfl rfl ?_
    show Steps _ _ _ (T3.setTop (mkF m 9 #[vR a1, vR a2] [iR a1, iR fid, iR b1, iR b1])) _
    refine st5 _ ?_
    show Steps _ _ _ (T5.setTop (mkF m 12 #[vR a1, vR a2] [iJ fap, iR fid, iR b1, iR b1])) _
    refine XS.aloadN X5.here hx rfl (hb hby d16_12) rfl rfl ?_
    show Steps _ _ _ (T5.setTop (mkF m 13 #[vR a1, vR a2] [iR a1, iJ fap, iR fid, iR b1, iR b1])) _
    refine st7 _ ?_
    show Steps _ _ _ (T7.setTop (mkF m 16 #[vR a1, vR a2] [.null, iJ fap, iR fid, iR b1, iR b1])) _
    refine st10 _ ?_
    show Steps _ _ _ (T10.setTop (mkF m 19 #[vR a1, vR a2] [iR s_OTP_USED, .null, iJ fap, iR fid, iR b1, iR b1])) _
    refine XS.lconst X10.here hx rfl (hb hby d16_19) ?_
    show Steps _ _ _ (T10.setTop (mkF m 20 #[vR a1, vR a2] [iJ 0, iR s_OTP_USED, .null, iJ fap, iR fid, iR b1, iR b1])) _
    refine XS.iconst X10.here hx rfl (hb hby d16_20) ?_
    show Steps _ _ _ (T10.setTop (mkF m 21 #[vR a1, vR a2] [iI 0, iJ 0, iR s_OTP_USED, .null, iJ fap, iR fid, iR b1, iR b1])) _
    refine XS.aconstNull X10.here hx rfl (hb hby d16_21) ?_
    show Steps _ _ _ (T10.setTop (mkF m 22 #[vR a1, vR a2] [.null, iI 0, iJ 0, iR s_OTP_USED, .null, iJ fap, iR fid, iR b1, iR b1])) _
    refine XS.aloadN X10.here hx rfl (hb hby d16_22) rfl rfl ?_
    show Steps _ _ _ (T10.setTop (mkF m 23 #[vR a1, vR a2] [iR a1, .null, iI 0, iJ 0, iR s_OTP_USED, .null, iJ fap, iR fid, iR b1, iR b1])) _
    refine st12 _ ?_
    show Steps _ _ _ (T12.setTop (mkF m 26 #[vR a1, vR a2] [.null, .null, iI 0, iJ 0, iR s_OTP_USED, .null, iJ fap, iR fid, iR b1, iR b1])) _
    refine XS.aloadN X12.here hx rfl (hb hby d16_26) rfl rfl ?_
    show Steps _ _ _ (T12.setTop (mkF m 27 #[vR a1, vR a2] [iR a2, .null, .null, iI 0, iJ 0, iR s_OTP_USED, .null, iJ fap, iR fid, iR b1, iR b1])) _
    refine XS.aloadN X12.here hx rfl (hb hby d16_27) rfl rfl ?_
    show Steps _ _ _ (T12.setTop (mkF m 28 #[vR a1, vR a2] [iR a1, iR a2, .null, .null, iI 0, iJ 0, iR s_OTP_USED, .null, iJ fap, iR fid, iR b1, iR b1])) _
    refine st14 _ ?_
    show Steps _ _ _ (T14.setTop (mkF m 31 #[vR a1, vR a2] [iJ fcr, iR a2, .null, .null, iI 0, iJ 0, iR s_OTP_USED, .null, iJ fap, iR fid, iR b1, iR b1])) _
    refine st15.trans ?_
    show Steps _ _ _ (T15.setTop (mkF m 34 #[vR a1, vR a2] [iR b1])) _
    jvm_step X15.here [X15.here.top, hx, (hb hby d16_34), X15.method', Bd.returns, Value.isRef, FieldType.isReference]
    first | (intro acts; rw [hr _ acts rfl rfl rfl]) | rw [hr _ _ rfl rfl rfl]
    exact Steps.refl _
  · show Q16_r Z a1 a2 fid fst fap fco fcr ffa fdv s_CREATED s_OTP_USED s_ACTIVE s_BLOCKED s_REMOVED h0 n0 _ T15.heap _
    exact ⟨_, rfl, N15, K15, E15q, F15_device⟩
theorem d6_0 : decode jdk_52_method_21_code 0 = .ok (.iconst 0, 1) := by decide +kernel
theorem d6_1 : decode jdk_52_method_21_code 1 = .ok (.istore 5, 2) := by decide +kernel
theorem d6_3 : decode jdk_52_method_21_code 3 = .ok (.iload 5, 2) := by decide +kernel
theorem d6_5 : decode jdk_52_method_21_code 5 = .ok (.iload 4, 2) := by decide +kernel
theorem d6_7 : decode jdk_52_method_21_code 7 = .ok (.if_icmp .ge 37, 3) := by decide +kernel
theorem d6_10 : decode jdk_52_method_21_code 10 = .ok (.aload_n 0, 1) := by decide +kernel
theorem d6_11 : decode jdk_52_method_21_code 11 = .ok (.iload_n 1, 1) := by decide +kernel
theorem d6_12 : decode jdk_52_method_21_code 12 = .ok (.caload, 1) := by decide +kernel
theorem d6_13 : decode jdk_52_method_21_code 13 = .ok (.istore 6, 2) := by decide +kernel
theorem d6_15 : decode jdk_52_method_21_code 15 = .ok (.iload 6, 2) := by decide +kernel
theorem d6_17 : decode jdk_52_method_21_code 17 = .ok (.sipush 255, 3) := by decide +kernel
theorem d6_20 : decode jdk_52_method_21_code 20 = .ok (.if_icmp .le 6, 3) := by decide +kernel
theorem d6_26 : decode jdk_52_method_21_code 26 = .ok (.aload_n 2, 1) := by decide +kernel
theorem d6_27 : decode jdk_52_method_21_code 27 = .ok (.iload_n 3, 1) := by decide +kernel
theorem d6_28 : decode jdk_52_method_21_code 28 = .ok (.iload 6, 2) := by decide +kernel
theorem d6_30 : decode jdk_52_method_21_code 30 = .ok (.i2b, 1) := by decide +kernel
theorem d6_31 : decode jdk_52_method_21_code 31 = .ok (.bastore, 1) := by decide +kernel
theorem d6_32 : decode jdk_52_method_21_code 32 = .ok (.iinc 1 1, 3) := by decide +kernel
theorem d6_35 : decode jdk_52_method_21_code 35 = .ok (.iinc 3 1, 3) := by decide +kernel
theorem d6_38 : decode jdk_52_method_21_code 38 = .ok (.iinc 5 1, 3) := by decide +kernel
theorem d6_41 : decode jdk_52_method_21_code 41 = .ok (.goto (-38), 3) := by decide +kernel
theorem d6_44 : decode jdk_52_method_21_code 44 = .ok (.iload 4, 2) := by decide +kernel
theorem d6_46 : decode jdk_52_method_21_code 46 = .ok (.ireturn, 1) := by decide +kernel
theorem pn_4 : plainName "java/lang/StringUTF16" = true := by first | (simp [plainName, overriddenIn]; done) | decide +kernel
theorem ef_6_1 (m : MethodId) (x0 : Addr) (x2 : Addr) : entryFrame m #[(.ref x0), (.int (0 : Int32)), (.ref x2), (.int (0 : Int32)), (.int (1 : Int32))] 7 = mkF m 0 #[.val (.ref x0), .val (.int (0 : Int32)), .val (.ref x2), .val (.int (0 : Int32)), .val (.int (1 : Int32)), .unset, .unset] [] := by first | (simp [entryFrame, mkF, argsToLocals, Value.category]; done) | rfl
def Q6_1 (Z : State) (a1 : Addr) (a3 : Addr) (kc kb : ClassId) (ch0 : Int32) (h0 : Heap) (n0 : Nat) (v : Option Value) (h : Heap) (L : List Loc) : Prop := v = some (.int (1 : Int32)) ∧ Fr n0 L ∧ Keep h0 h [a3] ∧ Arv Z h a3 kb .byte (1 : Int32) [(.int (nar .byte ch0.toInt8.toInt32))] (.int (0 : Int32))
set_option maxRecDepth 65536 in
set_option maxHeartbeats 40000000 in
theorem rm6_1 (l : Launch) (Z : State) (a0 : Array Value) (hw : ∀ d ∈ tables_1, d.before a0 Z = true) (ws : List Jvm.Cond) (a1 : Addr) (a3 : Addr) (kc kb : ClassId) (ch0 : Int32) (h0 : Heap) (n0 : Nat) (Z0 : n0 ≤ h0.size) (V_c : Arv Z h0 a1 kc .char (1 : Int32) [(.int ch0)] (.int (0 : Int32))) (V_b : Arv Z h0 a3 kb .byte (1 : Int32) [(.int (0 : Int32))] (.int (0 : Int32))) (ne_a1_a3 : a1 ≠ a3) (g_a3 : n0 ≤ a3) (hl_ch0 : ¬ (255 : Int32) < ch0) :
    MetFree l (⟨"java/lang/StringUTF16", "compress", "([CI[BII)I"⟩ : MethodName) (head1 (Jvm.Cond.code (⟨"java/lang/StringUTF16", "compress", "([CI[BII)I"⟩ : MethodName) jdk_52_method_21_code 7 (some .int) :: ws) ({ frames := 0, cells := 0, slots := 0, locals := 0 } : Room)) (fun a U => a = #[(.ref a1), (.int (0 : Int32)), (.ref a3), (.int (0 : Int32)), (.int (1 : Int32))] ∧ Z.Warmed39 U.vm ∧ U.heap = h0) (fun _ _ _ _ _ => True) (fun _ U o U' => ∃ v L, o = .returned v ∧ Q6_1 Z a1 a3 kc kb ch0 h0 n0 v U'.heap L ∧ FrameEnd U o U' L ({ frames := 0, cells := 0, slots := 0, locals := 0 } : Room).cells ({ frames := 0, cells := 0, slots := 0, locals := 0 } : Room).slots) := by
  refine MetFree.of_bodySF (plainFor_of_name pn_4) hisR ?_
  intro p e s m args below meth c s₁ Bd hml0 hP hK
  obtain ⟨rfl, hZ, hh⟩ := hP
  have hx := Bd.exec
  have hby := Bd.bytes
  have hml : c.maxLocals = 7 := hml0
  have hown : s.vm.findClass "java/lang/StringUTF16" = some m.cls := findClass_of_methodNamed Bd.named
  have hnm := (name_of_methodNamed Bd.named Bd.method).1
  have X0 : Stand p l e ({ frames := 0, cells := 0, slots := 0, locals := 0 } : Room) s m #[(.ref a1), (.int (0 : Int32)), (.ref a3), (.int (0 : Int32)), (.int (1 : Int32))] below meth c s₁ [] 0 0 := Stand.of_body Bd
  have e0 : s₁.heap = h0 := by rw [← hh, Bd.state]; rfl
  have N0 := Fr.nil n0
  have K0 := Keep.refl h0 [a3]
  have pre0 : ∀ t, Steps p.tables e below (s₁.setTop (mkF m 0 #[.val (.ref a1), .val (.int (0 : Int32)), .val (.ref a3), .val (.int (0 : Int32)), .val (.int (1 : Int32)), .unset, .unset] [])) t → Steps p.tables e below (s₁.setTop (entryFrame m #[(.ref a1), (.int (0 : Int32)), (.ref a3), (.int (0 : Int32)), (.int (1 : Int32))] 7)) t := fun t k => castTop (ef_6_1 m a1 a3) k
  obtain ⟨cl1, Ar1, q1, S1, M1, H1, G1⟩ := id V_c
  have hin2 : ¬ ((0 : Int32) < 0 ∨ cl1.slots.size ≤ ((0 : Int32)).toNatClampNeg) := inb_of S1 ⟨by decide, by decide⟩
  have hat3 : cl1.slots[((0 : Int32)).toNatClampNeg]? = some (.int ch0) := Has.at H1 hin2 rfl
  obtain ⟨cl4, Ar4, q4, S4, M4, H4, G4⟩ := id V_b
  have hin5 : ¬ ((0 : Int32) < 0 ∨ cl4.slots.size ≤ ((0 : Int32)).toNatClampNeg) := inb_of S4 ⟨by decide, by decide⟩
  obtain ⟨T6, h6, X6, e6, W6, st6⟩ := stB X0 hx hZ e0 Ar4 (j := (0 : Int32)) hin5 (g := (mkF m 31 #[vR a1, vI 0, vR a3, vI 0, vI 1, vI 0, vI ch0] [iI ch0.toInt8.toInt32, iI 0, iR a3])) rfl rfl (hb hby d6_31)
  have V6 : Arv Z h6 a3 kb .byte (1 : Int32) [(.int (nar .byte ch0.toInt8.toInt32))] (.int (0 : Int32)) := Arv.set Ar4 q4 S4 M4 H4 G4 (fits_nar_byte _) W6 0 rfl (Nat.le_of_ble_eq_true rfl)
  have K6 : Keep h0 h6 [a3] := K0.wr W6 (Or.inl (List.mem_of_getElem? (i := 0) rfl))
  have N6 := Fr.snoc X6 N0 g_a3
  obtain ⟨fs, hr, hrun, hended, hW, hsame⟩ := X6.leave (v := some (.int (1 : Int32))) (fun h => by rw [Bd.returns] at h; cases h)
  refine ⟨_, _, pre0 _ ?_, hrun, hended, _, _, rfl, ?_, ⟨_, rfl⟩, hW, hsame.mono (by decide) (by decide)⟩
  · show Steps _ _ _ (s₁.setTop (mkF m 0 #[vR a1, vI 0, vR a3, vI 0, vI 1, .unset, .unset] [])) _
    refine XS.iconst X0.here hx rfl (hb hby d6_0) ?_
    show Steps _ _ _ (s₁.setTop (mkF m 1 #[vR a1, vI 0, vR a3, vI 0, vI 1, .unset, .unset] [iI 0])) _
    refine XS.istore X0.here hx rfl (hb hby d6_1) rfl (l' := #[vR a1, vI 0, vR a3, vI 0, vI 1, vI 0, .unset]) rfl ?_
    show Steps _ _ _ (s₁.setTop (mkF m 3 #[vR a1, vI 0, vR a3, vI 0, vI 1, vI 0, .unset] [])) _
    refine XS.iload X0.here hx rfl (hb hby d6_3) rfl ?_
    show Steps _ _ _ (s₁.setTop (mkF m 5 #[vR a1, vI 0, vR a3, vI 0, vI 1, vI 0, .unset] [iI 0])) _
    refine XS.iload X0.here hx rfl (hb hby d6_5) rfl ?_
    show Steps _ _ _ (s₁.setTop (mkF m 7 #[vR a1, vI 0, vR a3, vI 0, vI 1, vI 0, .unset] [iI 1, iI 0])) _
    refine XS.icmpNo X0.here hx rfl (hb hby d6_7) rfl (tlt (by decide : (0 : Int32) < (1 : Int32))).2.1 ?_
    show Steps _ _ _ (s₁.setTop (mkF m 10 #[vR a1, vI 0, vR a3, vI 0, vI 1, vI 0, .unset] [])) _
    refine XS.aloadN X0.here hx rfl (hb hby d6_10) rfl rfl ?_
    show Steps _ _ _ (s₁.setTop (mkF m 11 #[vR a1, vI 0, vR a3, vI 0, vI 1, vI 0, .unset] [iR a1])) _
    refine XS.iloadN X0.here hx rfl (hb hby d6_11) rfl ?_
    show Steps _ _ _ (s₁.setTop (mkF m 12 #[vR a1, vI 0, vR a3, vI 0, vI 1, vI 0, .unset] [iI 0, iR a1])) _
    refine X0.caload hx (j := (0 : Int32)) (v := (.int ch0)) (by rw [e0]; exact Ar1.1) (State.isArrayOf_alike hZ.alike Ar1.2.1) Ar1.2.2 hin2 hat3 (g := (mkF m 12 #[vR a1, vI 0, vR a3, vI 0, vI 1, vI 0, .unset] [iI 0, iR a1])) rfl rfl (hb hby d6_12) _ ?_
    show Steps _ _ _ (s₁.setTop (mkF m 13 #[vR a1, vI 0, vR a3, vI 0, vI 1, vI 0, .unset] [iI ch0])) _
    refine XS.istore X0.here hx rfl (hb hby d6_13) rfl (l' := #[vR a1, vI 0, vR a3, vI 0, vI 1, vI 0, vI ch0]) rfl ?_
    show Steps _ _ _ (s₁.setTop (mkF m 15 #[vR a1, vI 0, vR a3, vI 0, vI 1, vI 0, vI ch0] [])) _
    refine XS.iload X0.here hx rfl (hb hby d6_15) rfl ?_
    show Steps _ _ _ (s₁.setTop (mkF m 17 #[vR a1, vI 0, vR a3, vI 0, vI 1, vI 0, vI ch0] [iI ch0])) _
    refine XS.sipush X0.here hx rfl (hb hby d6_17) ?_
    show Steps _ _ _ (s₁.setTop (mkF m 20 #[vR a1, vI 0, vR a3, vI 0, vI 1, vI 0, vI ch0] [iI 255, iI ch0])) _
    refine XS.icmpYes X0.here hx rfl (pc0 := 20) (pc' := 26) rfl (hb hby d6_20) rfl (flt hl_ch0).2.2.2 (by decide) (by decide) ?_
    show Steps _ _ _ (s₁.setTop (mkF m 26 #[vR a1, vI 0, vR a3, vI 0, vI 1, vI 0, vI ch0] [])) _
    refine XS.aloadN X0.here hx rfl (hb hby d6_26) rfl rfl ?_
    show Steps _ _ _ (s₁.setTop (mkF m 27 #[vR a1, vI 0, vR a3, vI 0, vI 1, vI 0, vI ch0] [iR a3])) _
    refine XS.iloadN X0.here hx rfl (hb hby d6_27) rfl ?_
    show Steps _ _ _ (s₁.setTop (mkF m 28 #[vR a1, vI 0, vR a3, vI 0, vI 1, vI 0, vI ch0] [iI 0, iR a3])) _
    refine XS.iload X0.here hx rfl (hb hby d6_28) rfl ?_
    show Steps _ _ _ (s₁.setTop (mkF m 30 #[vR a1, vI 0, vR a3, vI 0, vI 1, vI 0, vI ch0] [iI ch0, iI 0, iR a3])) _
    refine XS.i2b X0.here hx rfl (hb hby d6_30) rfl ?_
    show Steps _ _ _ (s₁.setTop (mkF m 31 #[vR a1, vI 0, vR a3, vI 0, vI 1, vI 0, vI ch0] [iI ch0.toInt8.toInt32, iI 0, iR a3])) _
    refine st6 _ ?_
    show Steps _ _ _ (T6.setTop (mkF m 32 #[vR a1, vI 0, vR a3, vI 0, vI 1, vI 0, vI ch0] [])) _
    refine XS.iinc X6.here hx rfl (hb hby d6_32) rfl (l' := #[vR a1, vI ((0 : Int32) + (1 : Int32)), vR a3, vI 0, vI 1, vI 0, vI ch0]) rfl ?_
    rw [(by decide : ((0 : Int32) + (1 : Int32)) = (1 : Int32))]
    show Steps _ _ _ (T6.setTop (mkF m 35 #[vR a1, vI 1, vR a3, vI 0, vI 1, vI 0, vI ch0] [])) _
    refine XS.iinc X6.here hx rfl (hb hby d6_35) rfl (l' := #[vR a1, vI 1, vR a3, vI ((0 : Int32) + (1 : Int32)), vI 1, vI 0, vI ch0]) rfl ?_
    rw [(by decide : ((0 : Int32) + (1 : Int32)) = (1 : Int32))]
    show Steps _ _ _ (T6.setTop (mkF m 38 #[vR a1, vI 1, vR a3, vI 1, vI 1, vI 0, vI ch0] [])) _
    refine XS.iinc X6.here hx rfl (hb hby d6_38) rfl (l' := #[vR a1, vI 1, vR a3, vI 1, vI 1, vI ((0 : Int32) + (1 : Int32)), vI ch0]) rfl ?_
    rw [(by decide : ((0 : Int32) + (1 : Int32)) = (1 : Int32))]
    show Steps _ _ _ (T6.setTop (mkF m 41 #[vR a1, vI 1, vR a3, vI 1, vI 1, vI 1, vI ch0] [])) _
    refine XS.goto X6.here hx rfl (pc0 := 41) (pc' := 3) rfl (hb hby d6_41) (by decide) (by decide) ?_
    show Steps _ _ _ (T6.setTop (mkF m 3 #[vR a1, vI 1, vR a3, vI 1, vI 1, vI 1, vI ch0] [])) _
    refine XS.iload X6.here hx rfl (hb hby d6_3) rfl ?_
    show Steps _ _ _ (T6.setTop (mkF m 5 #[vR a1, vI 1, vR a3, vI 1, vI 1, vI 1, vI ch0] [iI 1])) _
    refine XS.iload X6.here hx rfl (hb hby d6_5) rfl ?_
    show Steps _ _ _ (T6.setTop (mkF m 7 #[vR a1, vI 1, vR a3, vI 1, vI 1, vI 1, vI ch0] [iI 1, iI 1])) _
    refine XS.icmpYes X6.here hx rfl (pc0 := 7) (pc' := 44) rfl (hb hby d6_7) rfl (flt (by decide : ¬ ((1 : Int32) < (1 : Int32)))).2.1 (by decide) (by decide) ?_
    show Steps _ _ _ (T6.setTop (mkF m 44 #[vR a1, vI 1, vR a3, vI 1, vI 1, vI 1, vI ch0] [])) _
    refine XS.iload X6.here hx rfl (hb hby d6_44) rfl ?_
    show Steps _ _ _ (T6.setTop (mkF m 46 #[vR a1, vI 1, vR a3, vI 1, vI 1, vI 1, vI ch0] [iI 1])) _
    exact retI X6 hx Bd.returns (hb hby d6_46) hr
  · show Q6_1 Z a1 a3 kc kb ch0 h0 n0 _ T6.heap _
    rw [e6]
    exact ⟨rfl, N6, K6, V6⟩
theorem d5_0 : decode jdk_52_method_16_code 0 = .ok (.iload_n 2, 1) := by decide +kernel
theorem d5_1 : decode jdk_52_method_16_code 1 = .ok (.newarray .byte, 2) := by decide +kernel
theorem d5_3 : decode jdk_52_method_16_code 3 = .ok (.astore_n 3, 1) := by decide +kernel
theorem d5_4 : decode jdk_52_method_16_code 4 = .ok (.aload_n 0, 1) := by decide +kernel
theorem d5_5 : decode jdk_52_method_16_code 5 = .ok (.iload_n 1, 1) := by decide +kernel
theorem d5_6 : decode jdk_52_method_16_code 6 = .ok (.aload_n 3, 1) := by decide +kernel
theorem d5_7 : decode jdk_52_method_16_code 7 = .ok (.iconst 0, 1) := by decide +kernel
theorem d5_8 : decode jdk_52_method_16_code 8 = .ok (.iload_n 2, 1) := by decide +kernel
theorem d5_9 : decode jdk_52_method_16_code 9 = .ok (.invokestatic 115, 3) := by decide +kernel
theorem d5_12 : decode jdk_52_method_16_code 12 = .ok (.istore 4, 2) := by decide +kernel
theorem d5_14 : decode jdk_52_method_16_code 14 = .ok (.iload 4, 2) := by decide +kernel
theorem d5_16 : decode jdk_52_method_16_code 16 = .ok (.iload_n 2, 1) := by decide +kernel
theorem d5_17 : decode jdk_52_method_16_code 17 = .ok (.if_icmp .eq 40, 3) := by decide +kernel
theorem d5_57 : decode jdk_52_method_16_code 57 = .ok (.aload_n 3, 1) := by decide +kernel
theorem d5_58 : decode jdk_52_method_16_code 58 = .ok (.areturn, 1) := by decide +kernel
theorem ef_5_1 (m : MethodId) (x0 : Addr) : entryFrame m #[(.ref x0), (.int (0 : Int32)), (.int (1 : Int32))] 6 = mkF m 0 #[.val (.ref x0), .val (.int (0 : Int32)), .val (.int (1 : Int32)), .unset, .unset, .unset] [] := by first | (simp [entryFrame, mkF, argsToLocals, Value.category]; done) | rfl
def Q5_1 (Z : State) (a1 : Addr) (kc : ClassId) (ch0 : Int32) (h0 : Heap) (n0 : Nat) (v : Option Value) (h : Heap) (L : List Loc) : Prop := ∃ (b : Addr) (kb : ClassId), v = some (.ref b) ∧ Fr n0 L ∧ Keep h0 h [] ∧ Arv Z h b kb .byte (1 : Int32) [(.int (nar .byte ch0.toInt8.toInt32))] (.int (0 : Int32)) ∧ h0.size ≤ b
set_option maxRecDepth 65536 in
set_option maxHeartbeats 40000000 in
theorem rm5_1 (l : Launch) (Z : State) (a0 : Array Value) (hw : ∀ d ∈ tables_1, d.before a0 Z = true) (ws : List Jvm.Cond) (a1 : Addr) (kc : ClassId) (ch0 : Int32) (h0 : Heap) (n0 : Nat) (Z0 : n0 ≤ h0.size) (V_c : Arv Z h0 a1 kc .char (1 : Int32) [(.int ch0)] (.int (0 : Int32))) (hl_ch0 : ¬ (255 : Int32) < ch0) :
    MetFree l (⟨"java/lang/StringUTF16", "compress", "([CII)[B"⟩ : MethodName) (head1 (Jvm.Cond.code (⟨"java/lang/StringUTF16", "compress", "([CII)[B"⟩ : MethodName) jdk_52_method_16_code 6 (some (.array .byte)) :: ws) ({ frames := 1, cells := 1, slots := 1, locals := 18 } : Room)) (fun a U => a = #[(.ref a1), (.int (0 : Int32)), (.int (1 : Int32))] ∧ Z.Warmed39 U.vm ∧ U.heap = h0) (fun _ _ _ _ _ => True) (fun _ U o U' => ∃ v L, o = .returned v ∧ Q5_1 Z a1 kc ch0 h0 n0 v U'.heap L ∧ FrameEnd U o U' L ({ frames := 1, cells := 1, slots := 1, locals := 18 } : Room).cells ({ frames := 1, cells := 1, slots := 1, locals := 18 } : Room).slots) := by
  refine MetFree.of_bodySF (plainFor_of_name pn_4) hisR ?_
  intro p e s m args below meth c s₁ Bd hml0 hP hK
  obtain ⟨rfl, hZ, hh⟩ := hP
  have hx := Bd.exec
  have hby := Bd.bytes
  have hml : c.maxLocals = 6 := hml0
  have hown : s.vm.findClass "java/lang/StringUTF16" = some m.cls := findClass_of_methodNamed Bd.named
  have hnm := (name_of_methodNamed Bd.named Bd.method).1
  have X0 : Stand p l e ({ frames := 1, cells := 1, slots := 1, locals := 18 } : Room) s m #[(.ref a1), (.int (0 : Int32)), (.int (1 : Int32))] below meth c s₁ [] 0 0 := Stand.of_body Bd
  have e0 : s₁.heap = h0 := by rw [← hh, Bd.state]; rfl
  have N0 := Fr.nil n0
  have K0 := Keep.refl h0 []
  have pre0 : ∀ t, Steps p.tables e below (s₁.setTop (mkF m 0 #[.val (.ref a1), .val (.int (0 : Int32)), .val (.int (1 : Int32)), .unset, .unset, .unset] [])) t → Steps p.tables e below (s₁.setTop (entryFrame m #[(.ref a1), (.int (0 : Int32)), (.int (1 : Int32))] 6)) t := fun t k => castTop (ef_5_1 m a1) k
  obtain ⟨T1, h1, k1, X1, e1, E1, A1, st1⟩ := newP X0 hx hZ (hw _ (List.mem_of_getElem? (i := 30) rfl)) e0 (g := (mkF m 1 #[vR a1, vI 0, vI 1, .unset, .unset, .unset] [iI 1])) rfl (hb hby d5_1) rfl (by decide) (cap := 1) (by decide) (by decide) (by decide) (by decide)
  obtain ⟨b1, g1⟩ : ∃ z, z = h0.size := ⟨_, rfl⟩
  rw [← g1] at A1 st1
  have ne_a1_b1 : a1 ≠ b1 := Nat.ne_of_lt (Nat.lt_of_lt_of_le V_c.lt (Nat.le_of_eq g1.symm))
  have sz_b1 : h0.size ≤ b1 := Nat.le_trans K0.1 (Nat.le_of_eq g1.symm)
  have g_b1 : n0 ≤ b1 := Nat.le_trans Z0 sz_b1
  have K1 : Keep h0 h1 [] := K0.ext E1
  have V1 : Arv Z h1 b1 k1 .byte (1 : Int32) [(.int (0 : Int32))] (.int (0 : Int32)) := (Arv.new A1 (by decide)).pad (pad_rep [] (.int (0 : Int32)) 1)
  have fk3 := (V_c.ext E1)
  obtain ⟨_, _, ⟨T2, L2, k2, n2⟩, -, X2, ⟨Lc2, hQ2, l2, y2, z2⟩, st2⟩ := Jvm.LawKit.callS X1 hx (y := (⟨"java/lang/StringUTF16", "compress", "([CI[BII)I"⟩ : MethodName)) hown (mvT hZ (hw _ (List.mem_of_getElem? (i := 31) rfl))) (mvT hZ (hw _ (List.mem_of_getElem? (i := 32) rfl))) (mvT hZ (hw _ (List.mem_of_getElem? (i := 28) rfl))) (mvT hZ (hw _ (List.mem_of_getElem? (i := 33) rfl))) (by decide) (backOf (W := 0) (rm6_1 l Z a0 hw [] a1 b1 kc k1 ch0 h1 n0 (Nat.le_trans Z0 K1.1) fk3 V1 ne_a1_b1 g_b1 hl_ch0) hZ (hw _ (List.mem_of_getElem? (i := 33) rfl)) (hw _ (List.mem_of_getElem? (i := 28) rfl)) (by decide) (by decide)) (g := (mkF m 9 #[vR a1, vI 0, vI 1, vR b1, .unset, .unset] [iI 1, iI 0, iR b1, iI 0, iR a1])) rfl (by rw [hml]; rfl) (argsL := [(.ref a1), (.int (0 : Int32)), (.ref b1), (.int (0 : Int32)), (.int (1 : Int32))]) (rest := []) (lenOf pd_3 rfl) rfl (by show 2 * 0 + _ ≤ _; exact Nat.le_of_eq rfl) (hb hby d5_9) (fun _ _ => ⟨rfl, e1, (by decide : 1 + 0 ≤ _), (by decide : 1 + 0 ≤ _)⟩)
  dsimp only [Pt.U, Pt.locs, Pt.cells, Pt.slots] at X2 l2 y2 z2 st2 hQ2
  subst l2 y2 z2
  obtain ⟨rfl, N2q, K2q, V2q⟩ := hQ2
  have N2 := Fr.app N0 N2q
  have K2 : Keep h0 T2.heap [] := Keep.trans K1 K2q (allS (Or.inr sz_b1) all0)
  obtain ⟨fs, hr, hrun, hended, hW, hsame⟩ := X2.leave (v := some (.ref b1)) (fun h => by rw [Bd.returns] at h; cases h)
  refine ⟨_, _, pre0 _ ?_, hrun, hended, _, _, rfl, ?_, ⟨_, rfl⟩, hW, hsame.mono (by decide) (by decide)⟩
  · show Steps _ _ _ (s₁.setTop (mkF m 0 #[vR a1, vI 0, vI 1, .unset, .unset, .unset] [])) _
    refine XS.iloadN X0.here hx rfl (hb hby d5_0) rfl ?_
    show Steps _ _ _ (s₁.setTop (mkF m 1 #[vR a1, vI 0, vI 1, .unset, .unset, .unset] [iI 1])) _
    refine st1 _ ?_
    show Steps _ _ _ (T1.setTop (mkF m 3 #[vR a1, vI 0, vI 1, .unset, .unset, .unset] [iR b1])) _
    refine XS.astoreN X1.here hx rfl (hb hby d5_3) rfl rfl (l' := #[vR a1, vI 0, vI 1, vR b1, .unset, .unset]) rfl ?_
    show Steps _ _ _ (T1.setTop (mkF m 4 #[vR a1, vI 0, vI 1, vR b1, .unset, .unset] [])) _
    refine XS.aloadN X1.here hx rfl (hb hby d5_4) rfl rfl ?_
    show Steps _ _ _ (T1.setTop (mkF m 5 #[vR a1, vI 0, vI 1, vR b1, .unset, .unset] [iR a1])) _
    refine XS.iloadN X1.here hx rfl (hb hby d5_5) rfl ?_
    show Steps _ _ _ (T1.setTop (mkF m 6 #[vR a1, vI 0, vI 1, vR b1, .unset, .unset] [iI 0, iR a1])) _
    refine XS.aloadN X1.here hx rfl (hb hby d5_6) rfl rfl ?_
    show Steps _ _ _ (T1.setTop (mkF m 7 #[vR a1, vI 0, vI 1, vR b1, .unset, .unset] [iR b1, iI 0, iR a1])) _
    refine XS.iconst X1.here hx rfl (hb hby d5_7) ?_
    show Steps _ _ _ (T1.setTop (mkF m 8 #[vR a1, vI 0, vI 1, vR b1, .unset, .unset] [iI 0, iR b1, iI 0, iR a1])) _
    refine XS.iloadN X1.here hx rfl (hb hby d5_8) rfl ?_
    show Steps _ _ _ (T1.setTop (mkF m 9 #[vR a1, vI 0, vI 1, vR b1, .unset, .unset] [iI 1, iI 0, iR b1, iI 0, iR a1])) _
    refine st2 _ ?_
    show Steps _ _ _ (T2.setTop (mkF m 12 #[vR a1, vI 0, vI 1, vR b1, .unset, .unset] [iI 1])) _
    refine XS.istore X2.here hx rfl (hb hby d5_12) rfl (l' := #[vR a1, vI 0, vI 1, vR b1, vI 1, .unset]) rfl ?_
    show Steps _ _ _ (T2.setTop (mkF m 14 #[vR a1, vI 0, vI 1, vR b1, vI 1, .unset] [])) _
    refine XS.iload X2.here hx rfl (hb hby d5_14) rfl ?_
    show Steps _ _ _ (T2.setTop (mkF m 16 #[vR a1, vI 0, vI 1, vR b1, vI 1, .unset] [iI 1])) _
    refine XS.iloadN X2.here hx rfl (hb hby d5_16) rfl ?_
    show Steps _ _ _ (T2.setTop (mkF m 17 #[vR a1, vI 0, vI 1, vR b1, vI 1, .unset] [iI 1, iI 1])) _
    refine XS.icmpYes X2.here hx rfl (pc0 := 17) (pc' := 57) rfl (hb hby d5_17) rfl (teq (by decide : (1 : Int32) = (1 : Int32))).1 (by decide) (by decide) ?_
    show Steps _ _ _ (T2.setTop (mkF m 57 #[vR a1, vI 0, vI 1, vR b1, vI 1, .unset] [])) _
    refine XS.aloadN X2.here hx rfl (hb hby d5_57) rfl rfl ?_
    show Steps _ _ _ (T2.setTop (mkF m 58 #[vR a1, vI 0, vI 1, vR b1, vI 1, .unset] [iR b1])) _
    jvm_step X2.here [X2.here.top, hx, (hb hby d5_58), X2.method', Bd.returns, Value.isRef, FieldType.isReference]
    first | (intro acts; rw [hr _ acts rfl rfl rfl]) | rw [hr _ _ rfl rfl rfl]
    exact Steps.refl _
  · show Q5_1 Z a1 kc ch0 h0 n0 _ T2.heap _
    exact ⟨_, _, rfl, N2, K2, V2q, sz_b1⟩
theorem d7_0 : decode jdk_52_method_15_code 0 = .ok (.iload_n 1, 1) := by decide +kernel
theorem d7_1 : decode jdk_52_method_15_code 1 = .ok (.aload_n 0, 1) := by decide +kernel
theorem d7_2 : decode jdk_52_method_15_code 2 = .ok (.arraylength, 1) := by decide +kernel
theorem d7_3 : decode jdk_52_method_15_code 3 = .ok (.isub, 1) := by decide +kernel
theorem d7_4 : decode jdk_52_method_15_code 4 = .ok (.bipush 31, 2) := by decide +kernel
theorem d7_6 : decode jdk_52_method_15_code 6 = .ok (.iushr, 1) := by decide +kernel
theorem d7_7 : decode jdk_52_method_15_code 7 = .ok (.i2b, 1) := by decide +kernel
theorem d7_8 : decode jdk_52_method_15_code 8 = .ok (.ireturn, 1) := by decide +kernel
theorem ef_7_1 (m : MethodId) (x0 : Addr) : entryFrame m #[(.ref x0), (.int (1 : Int32))] 2 = mkF m 0 #[.val (.ref x0), .val (.int (1 : Int32))] [] := by first | (simp [entryFrame, mkF, argsToLocals, Value.category]; done) | rfl
def Q7_1 (Z : State) (a1 : Addr) (kb : ClassId) (ch0 : Int32) (h0 : Heap) (v : Option Value) (h : Heap) (L : List Loc) : Prop := v = some (.int (0 : Int32)) ∧ L = [] ∧ h = h0
set_option maxRecDepth 65536 in
set_option maxHeartbeats 40000000 in
theorem rm7_1 (l : Launch) (Z : State) (a0 : Array Value) (hw : ∀ d ∈ tables_1, d.before a0 Z = true) (ws : List Jvm.Cond) (a1 : Addr) (kb : ClassId) (ch0 : Int32) (h0 : Heap) (V_b : Arv Z h0 a1 kb .byte (1 : Int32) [(.int (nar .byte ch0.toInt8.toInt32))] (.int (0 : Int32))) :
    MetFree l (⟨"java/lang/StringUTF16", "coderFromArrayLen", "([BI)B"⟩ : MethodName) (head1 (Jvm.Cond.code (⟨"java/lang/StringUTF16", "coderFromArrayLen", "([BI)B"⟩ : MethodName) jdk_52_method_15_code 2 (some .byte) :: ws) ({ frames := 0, cells := 0, slots := 0, locals := 0 } : Room)) (fun a U => a = #[(.ref a1), (.int (1 : Int32))] ∧ Z.Warmed39 U.vm ∧ U.heap = h0) (fun _ _ _ _ _ => True) (fun _ U o U' => ∃ v L, o = .returned v ∧ Q7_1 Z a1 kb ch0 h0 v U'.heap L ∧ FrameEnd U o U' L ({ frames := 0, cells := 0, slots := 0, locals := 0 } : Room).cells ({ frames := 0, cells := 0, slots := 0, locals := 0 } : Room).slots) := by
  refine MetFree.of_bodySF (plainFor_of_name pn_4) hisR ?_
  intro p e s m args below meth c s₁ Bd hml0 hP hK
  obtain ⟨rfl, hZ, hh⟩ := hP
  have hx := Bd.exec
  have hby := Bd.bytes
  have hml : c.maxLocals = 2 := hml0
  have hown : s.vm.findClass "java/lang/StringUTF16" = some m.cls := findClass_of_methodNamed Bd.named
  have hnm := (name_of_methodNamed Bd.named Bd.method).1
  have X0 : Stand p l e ({ frames := 0, cells := 0, slots := 0, locals := 0 } : Room) s m #[(.ref a1), (.int (1 : Int32))] below meth c s₁ [] 0 0 := Stand.of_body Bd
  have e0 : s₁.heap = h0 := by rw [← hh, Bd.state]; rfl
  have pre0 : ∀ t, Steps p.tables e below (s₁.setTop (mkF m 0 #[.val (.ref a1), .val (.int (1 : Int32))] [])) t → Steps p.tables e below (s₁.setTop (entryFrame m #[(.ref a1), (.int (1 : Int32))] 2)) t := fun t k => castTop (ef_7_1 m a1) k
  obtain ⟨cl1, Ar1, q1, S1, M1, H1, G1⟩ := id V_b
  obtain ⟨fs, hr, hrun, hended, hW, hsame⟩ := X0.leave (v := some (.int (0 : Int32))) (fun h => by rw [Bd.returns] at h; cases h)
  refine ⟨_, _, pre0 _ ?_, hrun, hended, _, _, rfl, ?_, ⟨_, rfl⟩, hW, hsame.mono (by decide) (by decide)⟩
  · show Steps _ _ _ (s₁.setTop (mkF m 0 #[vR a1, vI 1] [])) _
    refine XS.iloadN X0.here hx rfl (hb hby d7_0) rfl ?_
    show Steps _ _ _ (s₁.setTop (mkF m 1 #[vR a1, vI 1] [iI 1])) _
    refine XS.aloadN X0.here hx rfl (hb hby d7_1) rfl rfl ?_
    show Steps _ _ _ (s₁.setTop (mkF m 2 #[vR a1, vI 1] [iR a1, iI 1])) _
    refine X0.arraylength hx (by rw [e0]; exact Ar1.1) (State.isArrayOf_alike hZ.alike Ar1.2.1) (g := (mkF m 2 #[vR a1, vI 1] [iR a1, iI 1])) rfl rfl (hb hby d7_2) _ ?_
    rw [len_of S1 M1]
    show Steps _ _ _ (s₁.setTop (mkF m 3 #[vR a1, vI 1] [iI 1, iI 1])) _
    refine XS.isub X0.here hx rfl (hb hby d7_3) rfl ?_
    rw [(by decide : ((1 : Int32) - (1 : Int32)) = (0 : Int32))]
    show Steps _ _ _ (s₁.setTop (mkF m 4 #[vR a1, vI 1] [iI 0])) _
    refine XS.bipush X0.here hx rfl (hb hby d7_4) ?_
    show Steps _ _ _ (s₁.setTop (mkF m 6 #[vR a1, vI 1] [iI 31, iI 0])) _
    refine XS.iushr X0.here hx rfl (hb hby d7_6) rfl ?_
    rw [(by decide : (((0 : Int32).toUInt32 >>> ((31 : Int32) &&& 31).toUInt32).toInt32) = (0 : Int32))]
    show Steps _ _ _ (s₁.setTop (mkF m 7 #[vR a1, vI 1] [iI 0])) _
    refine XS.i2b X0.here hx rfl (hb hby d7_7) rfl ?_
    rw [(by decide : (0 : Int32).toInt8.toInt32 = (0 : Int32))]
    show Steps _ _ _ (s₁.setTop (mkF m 8 #[vR a1, vI 1] [iI 0])) _
    exact retN X0 hx (t := .byte) Bd.returns (by simp) (hb hby d7_8) hr
  · show Q7_1 Z a1 kb ch0 h0 _ s₁.heap _
    rw [e0]
    exact ⟨rfl, rfl, rfl⟩
theorem d3_0 : decode jdk_42_method_149_code 0 = .ok (.aload_n 0, 1) := by decide +kernel
theorem d3_1 : decode jdk_42_method_149_code 1 = .ok (.invokespecial 1, 3) := by decide +kernel
theorem d3_4 : decode jdk_42_method_149_code 4 = .ok (.iload_n 3, 1) := by decide +kernel
theorem d3_5 : decode jdk_42_method_149_code 5 = .ok (.ifCond .ne 22, 3) := by decide +kernel
theorem d3_27 : decode jdk_42_method_149_code 27 = .ok (.getstatic 38, 3) := by decide +kernel
theorem d3_30 : decode jdk_42_method_149_code 30 = .ok (.ifCond .eq 28, 3) := by decide +kernel
theorem d3_33 : decode jdk_42_method_149_code 33 = .ok (.aload_n 1, 1) := by decide +kernel
theorem d3_34 : decode jdk_42_method_149_code 34 = .ok (.iload_n 2, 1) := by decide +kernel
theorem d3_35 : decode jdk_42_method_149_code 35 = .ok (.iload_n 3, 1) := by decide +kernel
theorem d3_36 : decode jdk_42_method_149_code 36 = .ok (.invokestatic 177, 3) := by decide +kernel
theorem d3_39 : decode jdk_42_method_149_code 39 = .ok (.astore 5, 2) := by decide +kernel
theorem d3_41 : decode jdk_42_method_149_code 41 = .ok (.aload_n 0, 1) := by decide +kernel
theorem d3_42 : decode jdk_42_method_149_code 42 = .ok (.aload 5, 2) := by decide +kernel
theorem d3_44 : decode jdk_42_method_149_code 44 = .ok (.iload_n 3, 1) := by decide +kernel
theorem d3_45 : decode jdk_42_method_149_code 45 = .ok (.invokestatic 47, 3) := by decide +kernel
theorem d3_48 : decode jdk_42_method_149_code 48 = .ok (.putfield 15, 3) := by decide +kernel
theorem d3_51 : decode jdk_42_method_149_code 51 = .ok (.aload_n 0, 1) := by decide +kernel
theorem d3_52 : decode jdk_42_method_149_code 52 = .ok (.aload 5, 2) := by decide +kernel
theorem d3_54 : decode jdk_42_method_149_code 54 = .ok (.putfield 9, 3) := by decide +kernel
theorem d3_57 : decode jdk_42_method_149_code 57 = .ok (.return_, 1) := by decide +kernel
theorem pn_5 : plainName "java/lang/String" = true := by first | (simp [plainName, overriddenIn]; done) | decide +kernel
theorem ef_3_1 (m : MethodId) (x0 : Addr) (x1 : Addr) : entryFrame m #[(.ref x0), (.ref x1), (.int (0 : Int32)), (.int (1 : Int32)), .null] 6 = mkF m 0 #[.val (.ref x0), .val (.ref x1), .val (.int (0 : Int32)), .val (.int (1 : Int32)), .val .null, .unset] [] := by first | (simp [entryFrame, mkF, argsToLocals, Value.category]; done) | rfl
def Q3_1 (Z : State) (a1 : Addr) (a2 : Addr) (kc : ClassId) (ch0 : Int32) (cs : Int32) (h0 : Heap) (n0 : Nat) (v : Option Value) (h : Heap) (L : List Loc) : Prop := ∃ (b : Addr) (kb : ClassId), v = none ∧ Fr n0 L ∧ Keep h0 h [a1] ∧ Exa Z h a1 "java/lang/String" ∧ Fld Z h a1 "java/lang/String" "coder" "B" (.int (0 : Int32)) ∧ Fld Z h a1 "java/lang/String" "value" "[B" (.ref b) ∧ Arv Z h b kb .byte (1 : Int32) [(.int (nar .byte ch0.toInt8.toInt32))] (.int (0 : Int32)) ∧ h0.size ≤ b
set_option maxRecDepth 65536 in
set_option maxHeartbeats 40000000 in
theorem rm3_1 (l : Launch) (Z : State) (a0 : Array Value) (hw : ∀ d ∈ tables_1, d.before a0 Z = true) (ws : List Jvm.Cond) (a1 : Addr) (a2 : Addr) (kc : ClassId) (ch0 : Int32) (cs : Int32) (h0 : Heap) (n0 : Nat) (Z0 : n0 ≤ h0.size) (O0 : Old Z n0 h0) (E_a1 : Exa Z h0 a1 "java/lang/String") (g_a1 : n0 ≤ a1) (F_v : Fld Z h0 a1 "java/lang/String" "value" "[B" .null) (F_c : Fld Z h0 a1 "java/lang/String" "coder" "B" (.int (0 : Int32))) (V_c : Arv Z h0 a2 kc .char (1 : Int32) [(.int ch0)] (.int (0 : Int32))) (ne_a1_a2 : a1 ≠ a2) (hl_ch0 : ¬ (255 : Int32) < ch0) (S_CS : Sta Z Z.heap "java/lang/String" "COMPACT_STRINGS" "Z" (.int cs)) (h_cs : ¬ cs = (0 : Int32)) :
    MetFree l (⟨"java/lang/String", "<init>", "([CIILjava/lang/Void;)V"⟩ : MethodName) (head1 (Jvm.Cond.code (⟨"java/lang/String", "<init>", "([CIILjava/lang/Void;)V"⟩ : MethodName) jdk_42_method_149_code 6 none :: ws) ({ frames := 2, cells := 1, slots := 1, locals := 35 } : Room)) (fun a U => a = #[(.ref a1), (.ref a2), (.int (0 : Int32)), (.int (1 : Int32)), .null] ∧ Z.Warmed39 U.vm ∧ U.heap = h0) (fun _ _ _ _ _ => True) (fun _ U o U' => ∃ v L, o = .returned v ∧ Q3_1 Z a1 a2 kc ch0 cs h0 n0 v U'.heap L ∧ FrameEnd U o U' L ({ frames := 2, cells := 1, slots := 1, locals := 35 } : Room).cells ({ frames := 2, cells := 1, slots := 1, locals := 35 } : Room).slots) := by
  refine MetFree.of_bodySF (plainFor_of_name pn_5) hisR ?_
  intro p e s m args below meth c s₁ Bd hml0 hP hK
  obtain ⟨rfl, hZ, hh⟩ := hP
  have hx := Bd.exec
  have hby := Bd.bytes
  have hml : c.maxLocals = 6 := hml0
  have hown : s.vm.findClass "java/lang/String" = some m.cls := findClass_of_methodNamed Bd.named
  have hnm := (name_of_methodNamed Bd.named Bd.method).1
  have X0 : Stand p l e ({ frames := 2, cells := 1, slots := 1, locals := 35 } : Room) s m #[(.ref a1), (.ref a2), (.int (0 : Int32)), (.int (1 : Int32)), .null] below meth c s₁ [] 0 0 := Stand.of_body Bd
  have e0 : s₁.heap = h0 := by rw [← hh, Bd.state]; rfl
  have N0 := Fr.nil n0
  have K0 := Keep.refl h0 [a1]
  have pre0 : ∀ t, Steps p.tables e below (s₁.setTop (mkF m 0 #[.val (.ref a1), .val (.ref a2), .val (.int (0 : Int32)), .val (.int (1 : Int32)), .val .null, .unset] [])) t → Steps p.tables e below (s₁.setTop (entryFrame m #[(.ref a1), (.ref a2), (.int (0 : Int32)), (.int (1 : Int32)), .null] 6)) t := fun t k => castTop (ef_3_1 m a1 a2) k
  obtain ⟨T1, X1, e1, st1⟩ := initO X0 hx hZ hown (hw _ (List.mem_of_getElem? (i := 22) rfl)) (hw _ (List.mem_of_getElem? (i := 23) rfl)) (hw _ (List.mem_of_getElem? (i := 24) rfl)) e0 (g := (mkF m 1 #[vR a1, vR a2, vI 0, vI 1, .val .null, .unset] [iR a1])) rfl (by rw [hml]; rfl) rfl (hb hby d3_1) (by decide) (W := 0) (by show 2 * 0 + _ ≤ _; exact Nat.le_of_eq rfl) (by decide)
  obtain ⟨T2, X2, e2, st2⟩ := getS2 X1 hx hZ hown (host := "") (Or.inl (hw _ (List.mem_of_getElem? (i := 25) rfl))) Via.refl e1 (S_CS.ext O0.2) (g := (mkF m 27 #[vR a1, vR a2, vI 0, vI 1, .val .null, .unset] [])) rfl (hb hby d3_27)
  obtain ⟨_, _, ⟨T3, L3, k3, n3⟩, -, X3, ⟨Lc3, hQ3, l3, y3, z3⟩, st3⟩ := Jvm.LawKit.callS X2 hx (y := (⟨"java/lang/StringUTF16", "compress", "([CII)[B"⟩ : MethodName)) hown (mvT hZ (hw _ (List.mem_of_getElem? (i := 26) rfl))) (mvT hZ (hw _ (List.mem_of_getElem? (i := 27) rfl))) (mvT hZ (hw _ (List.mem_of_getElem? (i := 28) rfl))) (mvT hZ (hw _ (List.mem_of_getElem? (i := 29) rfl))) (by decide) (backOf (W := 0) (rm5_1 l Z a0 hw [] a2 kc ch0 h0 n0 (Nat.le_trans Z0 K0.1) V_c hl_ch0) hZ (hw _ (List.mem_of_getElem? (i := 29) rfl)) (hw _ (List.mem_of_getElem? (i := 28) rfl)) (by decide) (by decide)) (g := (mkF m 36 #[vR a1, vR a2, vI 0, vI 1, .val .null, .unset] [iI 1, iI 0, iR a2])) rfl (by rw [hml]; rfl) (argsL := [(.ref a2), (.int (0 : Int32)), (.int (1 : Int32))]) (rest := []) (lenOf pd_4 rfl) rfl (by show 2 * 0 + _ ≤ _; exact Nat.le_of_eq rfl) (hb hby d3_36) (fun _ _ => ⟨rfl, e2, (by decide : 0 + 1 ≤ _), (by decide : 0 + 1 ≤ _)⟩)
  dsimp only [Pt.U, Pt.locs, Pt.cells, Pt.slots] at X3 l3 y3 z3 st3 hQ3
  subst l3 y3 z3
  obtain ⟨d3, kd3, rfl, N3q, K3q, V3q, z_d3⟩ := hQ3
  have ne_a1_d3 : a1 ≠ d3 := Nat.ne_of_lt (Nat.lt_of_lt_of_le E_a1.lt z_d3)
  have ne_a2_d3 : a2 ≠ d3 := Nat.ne_of_lt (Nat.lt_of_lt_of_le V_c.lt z_d3)
  have sz_d3 : h0.size ≤ d3 := Nat.le_trans K0.1 z_d3
  have g_d3 : n0 ≤ d3 := Nat.le_trans Z0 sz_d3
  have N3 := Fr.app N0 N3q
  have K3 : Keep h0 T3.heap [a1] := Keep.trans K0 K3q all0
  obtain ⟨_, _, ⟨T4, L4, k4, n4⟩, -, X4, ⟨Lc4, hQ4, l4, y4, z4⟩, st4⟩ := Jvm.LawKit.callS X3 hx (y := (⟨"java/lang/StringUTF16", "coderFromArrayLen", "([BI)B"⟩ : MethodName)) hown (mvT hZ (hw _ (List.mem_of_getElem? (i := 34) rfl))) (mvT hZ (hw _ (List.mem_of_getElem? (i := 35) rfl))) (mvT hZ (hw _ (List.mem_of_getElem? (i := 28) rfl))) (mvT hZ (hw _ (List.mem_of_getElem? (i := 36) rfl))) (by decide) (backOf (W := 1) (rm7_1 l Z a0 hw [] d3 kd3 ch0 T3.heap V3q) hZ (hw _ (List.mem_of_getElem? (i := 36) rfl)) (hw _ (List.mem_of_getElem? (i := 28) rfl)) (by decide) (by decide)) (g := (mkF m 45 #[vR a1, vR a2, vI 0, vI 1, .val .null, vR d3] [iI 1, iR d3, iR a1])) rfl (by rw [hml]; rfl) (argsL := [(.ref d3), (.int (1 : Int32))]) (rest := [(.ref a1)]) (lenOf pd_5 rfl) rfl (by show 2 * 0 + _ ≤ _; exact Nat.le_of_eq rfl) (hb hby d3_45) (fun _ _ => ⟨rfl, rfl, (by decide : 1 + 0 ≤ _), (by decide : 1 + 0 ≤ _)⟩)
  dsimp only [Pt.U, Pt.locs, Pt.cells, Pt.slots] at X4 l4 y4 z4 st4 hQ4
  subst l4 y4 z4
  obtain ⟨rfl, rfl, e4⟩ := hQ4
  try rw [List.append_nil] at X4
  have fk5 := (F_c.keep K3q nin0)
  have fk6 := (E_a1.keep K3q)
  obtain ⟨T7, h7, X7, e7, W7, st7⟩ := putFN X4 hx hZ hown (hw _ (List.mem_of_getElem? (i := 37) rfl)) Via.refl e4 fk5 fk6 (Or.inr ⟨(hw _ (List.mem_of_getElem? (i := 38) rfl)), rfl, hnm⟩) (hw _ (List.mem_of_getElem? (i := 13) rfl)) (ty := .byte) (v' := (.int (0 : Int32))) (by decide) rfl (by decide) (g := (mkF m 48 #[vR a1, vR a2, vI 0, vI 1, .val .null, vR d3] [iI 0, iR a1])) rfl rfl (hb hby d3_48)
  have Fw7 := fk5.same W7
  have K7 : Keep h0 h7 [a1] := K3.wr W7 (Or.inl (List.mem_of_getElem? (i := 0) rfl))
  have N7 := Fr.snoc X7 N3 g_a1
  have fk8 := ((F_v.keep K3q nin0).other W7 (Or.inr (slot_ne (Or.inr (hw _ (List.mem_of_getElem? (i := 40) rfl))) (Or.inr (hw _ (List.mem_of_getElem? (i := 38) rfl))) (by decide) (t := (.array .byte)) (t' := .byte) (by decide) (by decide))))
  have fk9 := (fk6.wr W7)
  obtain ⟨T10, h10, X10, e10, W10, st10⟩ := putF X7 hx hZ hown (host := "") (Or.inl (hw _ (List.mem_of_getElem? (i := 39) rfl))) Via.refl e7 fk8 fk9 (Or.inr ⟨(hw _ (List.mem_of_getElem? (i := 40) rfl)), rfl, hnm⟩) (hw _ (List.mem_of_getElem? (i := 13) rfl)) (ty := (.array .byte)) (by decide) rfl rfl (g := (mkF m 54 #[vR a1, vR a2, vI 0, vI 1, .val .null, vR d3] [iR d3, iR a1])) rfl rfl (hb hby d3_54)
  have Fw10 := fk8.same W10
  have K10 : Keep h0 h10 [a1] := K7.wr W10 (Or.inl (List.mem_of_getElem? (i := 0) rfl))
  have N10 := Fr.snoc X10 N7 g_a1
  obtain ⟨fs, hr, hrun, hended, hW, hsame⟩ := X10.leave (v := none) (fun _ => rfl)
  have fk11 := (fk9.wr W10)
  have fk12 := (Fw7.other W10 (Or.inr (slot_ne (Or.inr (hw _ (List.mem_of_getElem? (i := 38) rfl))) (Or.inr (hw _ (List.mem_of_getElem? (i := 40) rfl))) (by decide) (t := .byte) (t' := (.array .byte)) (by decide) (by decide))))
  have fk13 := ((V3q.other W7 (Ne.symm ne_a1_d3)).other W10 (Ne.symm ne_a1_d3))
  refine ⟨_, _, pre0 _ ?_, hrun, hended, _, _, rfl, ?_, ⟨_, rfl⟩, hW, hsame.mono (by decide) (by decide)⟩
  · show Steps _ _ _ (s₁.setTop (mkF m 0 #[vR a1, vR a2, vI 0, vI 1, .val .null, .unset] [])) _
    refine XS.aloadN X0.here hx rfl (hb hby d3_0) rfl rfl ?_
    show Steps _ _ _ (s₁.setTop (mkF m 1 #[vR a1, vR a2, vI 0, vI 1, .val .null, .unset] [iR a1])) _
    refine st1 _ ?_
    show Steps _ _ _ (T1.setTop (mkF m 4 #[vR a1, vR a2, vI 0, vI 1, .val .null, .unset] [])) _
    refine XS.iloadN X1.here hx rfl (hb hby d3_4) rfl ?_
    show Steps _ _ _ (T1.setTop (mkF m 5 #[vR a1, vR a2, vI 0, vI 1, .val .null, .unset] [iI 1])) _
    refine XS.ifYes X1.here hx rfl (pc0 := 5) (pc' := 27) rfl (hb hby d3_5) rfl ((if0 _ _).trans (feq (by decide : ¬ ((1 : Int32) = (0 : Int32)))).2) (by decide) (by decide) ?_
    show Steps _ _ _ (T1.setTop (mkF m 27 #[vR a1, vR a2, vI 0, vI 1, .val .null, .unset] [])) _
    refine st2 _ ?_
    show Steps _ _ _ (T2.setTop (mkF m 30 #[vR a1, vR a2, vI 0, vI 1, .val .null, .unset] [iI cs])) _
    refine XS.ifNo X2.here hx rfl (hb hby d3_30) rfl ((if0 _ _).trans (feq h_cs).1) ?_
    show Steps _ _ _ (T2.setTop (mkF m 33 #[vR a1, vR a2, vI 0, vI 1, .val .null, .unset] [])) _
    refine XS.aloadN X2.here hx rfl (hb hby d3_33) rfl rfl ?_
    show Steps _ _ _ (T2.setTop (mkF m 34 #[vR a1, vR a2, vI 0, vI 1, .val .null, .unset] [iR a2])) _
    refine XS.iloadN X2.here hx rfl (hb hby d3_34) rfl ?_
    show Steps _ _ _ (T2.setTop (mkF m 35 #[vR a1, vR a2, vI 0, vI 1, .val .null, .unset] [iI 0, iR a2])) _
    refine XS.iloadN X2.here hx rfl (hb hby d3_35) rfl ?_
    show Steps _ _ _ (T2.setTop (mkF m 36 #[vR a1, vR a2, vI 0, vI 1, .val .null, .unset] [iI 1, iI 0, iR a2])) _
    refine st3 _ ?_
    show Steps _ _ _ (T3.setTop (mkF m 39 #[vR a1, vR a2, vI 0, vI 1, .val .null, .unset] [iR d3])) _
    refine XS.astore X3.here hx rfl (hb hby d3_39) rfl rfl (l' := #[vR a1, vR a2, vI 0, vI 1, .val .null, vR d3]) rfl ?_
    show Steps _ _ _ (T3.setTop (mkF m 41 #[vR a1, vR a2, vI 0, vI 1, .val .null, vR d3] [])) _
    refine XS.aloadN X3.here hx rfl (hb hby d3_41) rfl rfl ?_
    show Steps _ _ _ (T3.setTop (mkF m 42 #[vR a1, vR a2, vI 0, vI 1, .val .null, vR d3] [iR a1])) _
    refine XS.aload X3.here hx rfl (hb hby d3_42) rfl rfl ?_
    show Steps _ _ _ (T3.setTop (mkF m 44 #[vR a1, vR a2, vI 0, vI 1, .val .null, vR d3] [iR d3, iR a1])) _
    refine XS.iloadN X3.here hx rfl (hb hby d3_44) rfl ?_
    show Steps _ _ _ (T3.setTop (mkF m 45 #[vR a1, vR a2, vI 0, vI 1, .val .null, vR d3] [iI 1, iR d3, iR a1])) _
    refine st4 _ ?_
    show Steps _ _ _ (T4.setTop (mkF m 48 #[vR a1, vR a2, vI 0, vI 1, .val .null, vR d3] [iI 0, iR a1])) _
    refine st7 _ ?_
    show Steps _ _ _ (T7.setTop (mkF m 51 #[vR a1, vR a2, vI 0, vI 1, .val .null, vR d3] [])) _
    refine XS.aloadN X7.here hx rfl (hb hby d3_51) rfl rfl ?_
    show Steps _ _ _ (T7.setTop (mkF m 52 #[vR a1, vR a2, vI 0, vI 1, .val .null, vR d3] [iR a1])) _
    refine XS.aload X7.here hx rfl (hb hby d3_52) rfl rfl ?_
    show Steps _ _ _ (T7.setTop (mkF m 54 #[vR a1, vR a2, vI 0, vI 1, .val .null, vR d3] [iR d3, iR a1])) _
    refine st10 _ ?_
    show Steps _ _ _ (T10.setTop (mkF m 57 #[vR a1, vR a2, vI 0, vI 1, .val .null, vR d3] [])) _
    exact X10.returnOut hx Bd.returns (hb hby d3_57) hr
  · show Q3_1 Z a1 a2 kc ch0 cs h0 n0 _ T10.heap _
    rw [e10]
    exact ⟨_, _, rfl, N10, K10, fk11, fk12, Fw10, fk13, sz_d3⟩
theorem d2_0 : decode jdk_42_method_3_code 0 = .ok (.aload_n 0, 1) := by decide +kernel
theorem d2_1 : decode jdk_42_method_3_code 1 = .ok (.aload_n 1, 1) := by decide +kernel
theorem d2_2 : decode jdk_42_method_3_code 2 = .ok (.iconst 0, 1) := by decide +kernel
theorem d2_3 : decode jdk_42_method_3_code 3 = .ok (.aload_n 1, 1) := by decide +kernel
theorem d2_4 : decode jdk_42_method_3_code 4 = .ok (.arraylength, 1) := by decide +kernel
theorem d2_5 : decode jdk_42_method_3_code 5 = .ok (.aconst_null, 1) := by decide +kernel
theorem d2_6 : decode jdk_42_method_3_code 6 = .ok (.invokespecial 27, 3) := by decide +kernel
theorem d2_9 : decode jdk_42_method_3_code 9 = .ok (.return_, 1) := by decide +kernel
theorem ef_2_1 (m : MethodId) (x0 : Addr) (x1 : Addr) : entryFrame m #[(.ref x0), (.ref x1)] 2 = mkF m 0 #[.val (.ref x0), .val (.ref x1)] [] := by first | (simp [entryFrame, mkF, argsToLocals, Value.category]; done) | rfl
def Q2_1 (Z : State) (a1 : Addr) (a2 : Addr) (kc : ClassId) (ch0 : Int32) (cs : Int32) (h0 : Heap) (n0 : Nat) (v : Option Value) (h : Heap) (L : List Loc) : Prop := ∃ (b : Addr) (kb : ClassId), v = none ∧ Fr n0 L ∧ Keep h0 h [a1] ∧ Exa Z h a1 "java/lang/String" ∧ Fld Z h a1 "java/lang/String" "coder" "B" (.int (0 : Int32)) ∧ Fld Z h a1 "java/lang/String" "value" "[B" (.ref b) ∧ Arv Z h b kb .byte (1 : Int32) [(.int (nar .byte ch0.toInt8.toInt32))] (.int (0 : Int32)) ∧ h0.size ≤ b
set_option maxRecDepth 65536 in
set_option maxHeartbeats 40000000 in
theorem rm2_1 (l : Launch) (Z : State) (a0 : Array Value) (hw : ∀ d ∈ tables_1, d.before a0 Z = true) (ws : List Jvm.Cond) (a1 : Addr) (a2 : Addr) (kc : ClassId) (ch0 : Int32) (cs : Int32) (h0 : Heap) (n0 : Nat) (Z0 : n0 ≤ h0.size) (O0 : Old Z n0 h0) (E_a1 : Exa Z h0 a1 "java/lang/String") (g_a1 : n0 ≤ a1) (F_v : Fld Z h0 a1 "java/lang/String" "value" "[B" .null) (F_c : Fld Z h0 a1 "java/lang/String" "coder" "B" (.int (0 : Int32))) (V_c : Arv Z h0 a2 kc .char (1 : Int32) [(.int ch0)] (.int (0 : Int32))) (ne_a1_a2 : a1 ≠ a2) (hl_ch0 : ¬ (255 : Int32) < ch0) (S_CS : Sta Z Z.heap "java/lang/String" "COMPACT_STRINGS" "Z" (.int cs)) (h_cs : ¬ cs = (0 : Int32)) :
    MetFree l (⟨"java/lang/String", "<init>", "([C)V"⟩ : MethodName) (head1 (Jvm.Cond.code (⟨"java/lang/String", "<init>", "([C)V"⟩ : MethodName) jdk_42_method_3_code 2 none :: ws) ({ frames := 3, cells := 1, slots := 1, locals := 52 } : Room)) (fun a U => a = #[(.ref a1), (.ref a2)] ∧ Z.Warmed39 U.vm ∧ U.heap = h0) (fun _ _ _ _ _ => True) (fun _ U o U' => ∃ v L, o = .returned v ∧ Q2_1 Z a1 a2 kc ch0 cs h0 n0 v U'.heap L ∧ FrameEnd U o U' L ({ frames := 3, cells := 1, slots := 1, locals := 52 } : Room).cells ({ frames := 3, cells := 1, slots := 1, locals := 52 } : Room).slots) := by
  refine MetFree.of_bodySF (plainFor_of_name pn_5) hisR ?_
  intro p e s m args below meth c s₁ Bd hml0 hP hK
  obtain ⟨rfl, hZ, hh⟩ := hP
  have hx := Bd.exec
  have hby := Bd.bytes
  have hml : c.maxLocals = 2 := hml0
  have hown : s.vm.findClass "java/lang/String" = some m.cls := findClass_of_methodNamed Bd.named
  have hnm := (name_of_methodNamed Bd.named Bd.method).1
  have X0 : Stand p l e ({ frames := 3, cells := 1, slots := 1, locals := 52 } : Room) s m #[(.ref a1), (.ref a2)] below meth c s₁ [] 0 0 := Stand.of_body Bd
  have e0 : s₁.heap = h0 := by rw [← hh, Bd.state]; rfl
  have N0 := Fr.nil n0
  have K0 := Keep.refl h0 [a1]
  have pre0 : ∀ t, Steps p.tables e below (s₁.setTop (mkF m 0 #[.val (.ref a1), .val (.ref a2)] [])) t → Steps p.tables e below (s₁.setTop (entryFrame m #[(.ref a1), (.ref a2)] 2)) t := fun t k => castTop (ef_2_1 m a1 a2) k
  obtain ⟨cl1, Ar1, q1, S1, M1, H1, G1⟩ := id V_c
  obtain ⟨_, _, ⟨T2, L2, k2, n2⟩, -, X2, ⟨Lc2, hQ2, l2, y2, z2⟩, st2⟩ := X0.specialBack hx (y := (⟨"java/lang/String", "<init>", "([CIILjava/lang/Void;)V"⟩ : MethodName)) rfl hown (mvT hZ (hw _ (List.mem_of_getElem? (i := 18) rfl))) (mvT hZ (hw _ (List.mem_of_getElem? (i := 19) rfl))) (mvT hZ (hw _ (List.mem_of_getElem? (i := 21) rfl))) (by decide) (backOf (W := 0) (rm3_1 l Z a0 hw [] a1 a2 kc ch0 cs h0 n0 (Nat.le_trans Z0 K0.1) O0 E_a1 g_a1 F_v F_c V_c ne_a1_a2 hl_ch0 S_CS h_cs) hZ (hw _ (List.mem_of_getElem? (i := 21) rfl)) (hw _ (List.mem_of_getElem? (i := 14) rfl)) (by decide) (by decide)) (g := (mkF m 6 #[vR a1, vR a2] [.null, iI 1, iI 0, iR a2, iR a1])) rfl (by rw [hml]; rfl) (Steps.refl _) (a := a1) (argsL := [(.ref a2), (.int (0 : Int32)), (.int (1 : Int32)), .null]) (rest := []) (lenOf pd_6 rfl) rfl (by show 2 * 0 + _ ≤ _; exact Nat.le_of_eq rfl) (hb hby d2_6) (fun _ _ => ⟨rfl, e0, (by decide : 0 + 1 ≤ _), (by decide : 0 + 1 ≤ _)⟩)
  dsimp only [Pt.U, Pt.locs, Pt.cells, Pt.slots] at X2 l2 y2 z2 st2 hQ2
  subst l2 y2 z2
  obtain ⟨d2, kd2, rfl, N2q, K2q, E2q, C2q, F2q, V2q, z_d2⟩ := hQ2
  have ne_a1_d2 : a1 ≠ d2 := Nat.ne_of_lt (Nat.lt_of_lt_of_le E_a1.lt z_d2)
  have ne_a2_d2 : a2 ≠ d2 := Nat.ne_of_lt (Nat.lt_of_lt_of_le V_c.lt z_d2)
  have sz_d2 : h0.size ≤ d2 := Nat.le_trans K0.1 z_d2
  have g_d2 : n0 ≤ d2 := Nat.le_trans Z0 sz_d2
  have N2 := Fr.app N0 N2q
  have K2 : Keep h0 T2.heap [a1] := Keep.trans K0 K2q (allS (Or.inl (List.mem_of_getElem? (i := 0) rfl)) all0)
  obtain ⟨fs, hr, hrun, hended, hW, hsame⟩ := X2.leave (v := none) (fun _ => rfl)
  refine ⟨_, _, pre0 _ ?_, hrun, hended, _, _, rfl, ?_, ⟨_, rfl⟩, hW, hsame.mono (by decide) (by decide)⟩
  · show Steps _ _ _ (s₁.setTop (mkF m 0 #[vR a1, vR a2] [])) _
    refine XS.aloadN X0.here hx rfl (hb hby d2_0) rfl rfl ?_
    show Steps _ _ _ (s₁.setTop (mkF m 1 #[vR a1, vR a2] [iR a1])) _
    refine XS.aloadN X0.here hx rfl (hb hby d2_1) rfl rfl ?_
    show Steps _ _ _ (s₁.setTop (mkF m 2 #[vR a1, vR a2] [iR a2, iR a1])) _
    refine XS.iconst X0.here hx rfl (hb hby d2_2) ?_
    show Steps _ _ _ (s₁.setTop (mkF m 3 #[vR a1, vR a2] [iI 0, iR a2, iR a1])) _
    refine XS.aloadN X0.here hx rfl (hb hby d2_3) rfl rfl ?_
    show Steps _ _ _ (s₁.setTop (mkF m 4 #[vR a1, vR a2] [iR a2, iI 0, iR a2, iR a1])) _
    refine X0.arraylength hx (by rw [e0]; exact Ar1.1) (State.isArrayOf_alike hZ.alike Ar1.2.1) (g := (mkF m 4 #[vR a1, vR a2] [iR a2, iI 0, iR a2, iR a1])) rfl rfl (hb hby d2_4) _ ?_
    rw [len_of S1 M1]
    show Steps _ _ _ (s₁.setTop (mkF m 5 #[vR a1, vR a2] [iI 1, iI 0, iR a2, iR a1])) _
    refine XS.aconstNull X0.here hx rfl (hb hby d2_5) ?_
    show Steps _ _ _ (s₁.setTop (mkF m 6 #[vR a1, vR a2] [.null, iI 1, iI 0, iR a2, iR a1])) _
    refine st2.trans ?_
    show Steps _ _ _ (T2.setTop (mkF m 9 #[vR a1, vR a2] [])) _
    exact X2.returnOut hx Bd.returns (hb hby d2_9) hr
  · show Q2_1 Z a1 a2 kc ch0 cs h0 n0 _ T2.heap _
    exact ⟨_, _, rfl, N2, K2, E2q, C2q, F2q, V2q, sz_d2⟩
theorem own_ch (x : Int32) : ¬ (255 : Int32) < nar .char ((x &&& (255 : Int32)).toUInt32.toUInt16.toUInt32.toInt32) := by
  have e : nar .char ((x &&& (255 : Int32)).toUInt32.toUInt16.toUInt32.toInt32) = (((x &&& (255 : Int32)).toUInt32.toUInt16.toUInt32.toInt32).toUInt32.toUInt16.toUInt32.toInt32) := rfl
  have h1 := c_i2c (x &&& (255 : Int32))
  have h2 := c_i2c ((x &&& (255 : Int32)).toUInt32.toUInt16.toUInt32.toInt32)
  have h3 := c_and x 255 (by decide)
  have e5 : (255 : Int32).toInt = 255 := rfl
  rw [e5] at h3
  rw [e, Int32.lt_iff_toInt_lt, e5]
  omega

theorem own_strAtoms {a0 : Array Value} {Z : State} (hw : ∀ d ∈ tables_1, d.before a0 Z = true) : ∀ a ∈ Bundle.stringAtoms, a.before a0 Z = true := by
  intro a ha
  simp only [Bundle.stringAtoms, List.mem_cons, List.not_mem_nil, or_false] at ha
  rcases ha with rfl | rfl | rfl | rfl | rfl | rfl | rfl
  · exact (hw _ (List.mem_of_getElem? (i := 14) rfl))
  · exact (hw _ (List.mem_of_getElem? (i := 13) rfl))
  · exact (hw _ (List.mem_of_getElem? (i := 30) rfl))
  · exact (hw _ (List.mem_of_getElem? (i := 40) rfl))
  · exact (hw _ (List.mem_of_getElem? (i := 38) rfl))
  · exact (hw _ (List.mem_of_getElem? (i := 135) rfl))
  · exact (hw _ (List.mem_of_getElem? (i := 136) rfl))
theorem ef_0 (m : MethodId) (x0 : Int32) (x1 : Int64) (x2 : Int32) (x3 : Int32) (x4 : Int64) (x5 : Int64) : entryFrame m #[(.int x0), (.long x1), (.int x2), (.int x3), (.long x4), (.long x5)] maxLocals = mkF m 0 #[.val (.int x0), .val (.long x1), .second, .val (.int x2), .val (.int x3), .val (.long x4), .second, .val (.long x5), .second, .unset, .unset, .unset, .unset, .unset, .unset, .unset, .unset, .unset] [] := by first | (simp [entryFrame, mkF, argsToLocals, Value.category, maxLocals]; done) | rfl
def Q0 (Z : State) (p1 : Int32) (q2 : Int64) (p3 : Int32) (p4 : Int32) (q5 : Int64) (q6 : Int64) (s_CREATED : Addr) (s_OTP_USED : Addr) (s_ACTIVE : Addr) (s_BLOCKED : Addr) (s_REMOVED : Addr) (cs : Int32) (h0 : Heap) (n0 : Nat) (v : Option Value) (h : Heap) (L : List Loc) : Prop := v = some (.int (1 : Int32)) ∧ Fr n0 L
set_option maxRecDepth 65536 in
set_option maxHeartbeats 40000000 in
theorem rm0 (l : Launch) (Z : State) (a0 : Array Value) (hw : ∀ d ∈ tables_1, d.before a0 Z = true) (ws : List Jvm.Cond) (p1 : Int32) (q2 : Int64) (p3 : Int32) (p4 : Int32) (q5 : Int64) (q6 : Int64) (s_CREATED : Addr) (s_OTP_USED : Addr) (s_ACTIVE : Addr) (s_BLOCKED : Addr) (s_REMOVED : Addr) (cs : Int32) (h0 : Heap) (n0 : Nat) (Z0 : n0 ≤ h0.size) (O0 : Old Z n0 h0) (S_CREATED : Sta Z Z.heap "com/example/threefold/threefold/protocol/ActivationStatus" "CREATED" "Lcom/example/threefold/threefold/protocol/ActivationStatus;" (.ref s_CREATED)) (S_OTP_USED : Sta Z Z.heap "com/example/threefold/threefold/protocol/ActivationStatus" "OTP_USED" "Lcom/example/threefold/threefold/protocol/ActivationStatus;" (.ref s_OTP_USED)) (S_ACTIVE : Sta Z Z.heap "com/example/threefold/threefold/protocol/ActivationStatus" "ACTIVE" "Lcom/example/threefold/threefold/protocol/ActivationStatus;" (.ref s_ACTIVE)) (S_BLOCKED : Sta Z Z.heap "com/example/threefold/threefold/protocol/ActivationStatus" "BLOCKED" "Lcom/example/threefold/threefold/protocol/ActivationStatus;" (.ref s_BLOCKED)) (S_REMOVED : Sta Z Z.heap "com/example/threefold/threefold/protocol/ActivationStatus" "REMOVED" "Lcom/example/threefold/threefold/protocol/ActivationStatus;" (.ref s_REMOVED)) (S_CS : Sta Z Z.heap "java/lang/String" "COMPACT_STRINGS" "Z" (.int cs)) (h_cs : ¬ cs = (0 : Int32)) :
    MetFree l x (head1 (Jvm.Cond.code x code maxLocals ret :: ws) room_1) (fun a U => a = #[(.int p1), (.long q2), (.int p3), (.int p4), (.long q5), (.long q6)] ∧ Z.Warmed39 U.vm ∧ U.heap = h0) (fun _ _ _ _ _ => True) (fun _ U o U' => ∃ v L, o = .returned v ∧ Q0 Z p1 q2 p3 p4 q5 q6 s_CREATED s_OTP_USED s_ACTIVE s_BLOCKED s_REMOVED cs h0 n0 v U'.heap L ∧ ReturnedEndW U o U' L room_1.cells room_1.slots) := by
  refine MetFree.of_bodySF (plainFor_of_name pn_1) hisR ?_
  intro p e s m args below meth c s₁ Bd hml0 hP hK
  obtain ⟨rfl, hZ, hh⟩ := hP
  have hx := Bd.exec
  have hby := Bd.bytes
  have hml : c.maxLocals = 18 := hml0
  have hown : s.vm.findClass "com/example/threefold/threefold/store/ActivationHasKeysPinLaw" = some m.cls := findClass_of_methodNamed Bd.named
  have hnm := (name_of_methodNamed Bd.named Bd.method).1
  have X0 : Stand p l e room_1 s m #[(.int p1), (.long q2), (.int p3), (.int p4), (.long q5), (.long q6)] below meth c s₁ [] 0 0 := Stand.of_body Bd
  have e0 : s₁.heap = h0 := by rw [← hh, Bd.state]; rfl
  have N0 := Fr.nil n0
  have K0 := Keep.refl h0 []
  have pre0 : ∀ t, Steps p.tables e below (s₁.setTop (mkF m 0 #[.val (.int p1), .val (.long q2), .second, .val (.int p3), .val (.int p4), .val (.long q5), .second, .val (.long q6), .second, .unset, .unset, .unset, .unset, .unset, .unset, .unset, .unset, .unset] [])) t → Steps p.tables e below (s₁.setTop (entryFrame m #[(.int p1), (.long q2), (.int p3), (.int p4), (.long q5), (.long q6)] maxLocals)) t := fun t k => castTop (ef_0 m p1 q2 p3 p4 q5 q6) k
  obtain ⟨v1, hv1⟩ : ∃ z : Int32, z = (if (p4 &&& (1 : Int32)) = (0 : Int32) then (0 : Int32) else (1 : Int32)) := ⟨_, rfl⟩
  obtain ⟨T2, X2, e2, st2⟩ : own_Mid X0 h0 (mkF m 4 #[vI p1, vJ q2, .second, vI p3, vI p4, vJ q5, .second, vJ q6, .second, .unset, .unset, .unset, .unset, .unset, .unset, .unset, .unset, .unset] [iI (p4 &&& (1 : Int32))]) (mkF m 12 #[vI p1, vJ q2, .second, vI p3, vI p4, vJ q5, .second, vJ q6, .second, .unset, .unset, .unset, .unset, .unset, .unset, .unset, .unset, .unset] [iI v1]) := by
    by_cases hc3 : (p4 &&& (1 : Int32)) = (0 : Int32)
    · refine ⟨s₁, X0, e0, fun t kt => ?_⟩
      subst hv1
      simp only [if_pos hc3] at kt
      show Steps _ _ _ (s₁.setTop (mkF m 4 #[vI p1, vJ q2, .second, vI p3, vI p4, vJ q5, .second, vJ q6, .second, .unset, .unset, .unset, .unset, .unset, .unset, .unset, .unset, .unset] [iI (p4 &&& (1 : Int32))])) _
      refine XS.ifYes X0.here hx rfl (pc0 := 4) (pc' := 11) rfl (hb hby at_4) rfl ((if0 _ _).trans (teq hc3).1) (by decide) (by decide) ?_
      show Steps _ _ _ (s₁.setTop (mkF m 11 #[vI p1, vJ q2, .second, vI p3, vI p4, vJ q5, .second, vJ q6, .second, .unset, .unset, .unset, .unset, .unset, .unset, .unset, .unset, .unset] [])) _
      refine XS.iconst X0.here hx rfl (hb hby at_11) ?_
      exact kt
    · refine ⟨s₁, X0, e0, fun t kt => ?_⟩
      subst hv1
      simp only [if_neg hc3] at kt
      show Steps _ _ _ (s₁.setTop (mkF m 4 #[vI p1, vJ q2, .second, vI p3, vI p4, vJ q5, .second, vJ q6, .second, .unset, .unset, .unset, .unset, .unset, .unset, .unset, .unset, .unset] [iI (p4 &&& (1 : Int32))])) _
      refine XS.ifNo X0.here hx rfl (hb hby at_4) rfl ((if0 _ _).trans (feq hc3).1) ?_
      show Steps _ _ _ (s₁.setTop (mkF m 7 #[vI p1, vJ q2, .second, vI p3, vI p4, vJ q5, .second, vJ q6, .second, .unset, .unset, .unset, .unset, .unset, .unset, .unset, .unset, .unset] [])) _
      refine XS.iconst X0.here hx rfl (hb hby at_7) ?_
      show Steps _ _ _ (s₁.setTop (mkF m 8 #[vI p1, vJ q2, .second, vI p3, vI p4, vJ q5, .second, vJ q6, .second, .unset, .unset, .unset, .unset, .unset, .unset, .unset, .unset, .unset] [iI 1])) _
      refine XS.goto X0.here hx rfl (pc0 := 8) (pc' := 12) rfl (hb hby at_8) (by decide) (by decide) ?_
      exact kt
  have qb : v1 = 1 ∨ v1 = 0 := by rw [hv1]; split <;> simp
  have pre4 : ∀ t, Steps p.tables e below (T2.setTop (mkF m 14 #[vI p1, vJ q2, .second, vI p3, vI p4, vJ q5, .second, vJ q6, .second, vI v1, .unset, .unset, .unset, .unset, .unset, .unset, .unset, .unset] [])) t → Steps p.tables e below (s₁.setTop (entryFrame m #[(.int p1), (.long q2), (.int p3), (.int p4), (.long q5), (.long q6)] maxLocals)) t := by
    intro t kt
    refine pre0 t ?_
    show Steps _ _ _ (s₁.setTop (mkF m 0 #[vI p1, vJ q2, .second, vI p3, vI p4, vJ q5, .second, vJ q6, .second, .unset, .unset, .unset, .unset, .unset, .unset, .unset, .unset, .unset] [])) _
    refine XS.iload X0.here hx rfl (hb hby at_0) rfl ?_
    show Steps _ _ _ (s₁.setTop (mkF m 2 #[vI p1, vJ q2, .second, vI p3, vI p4, vJ q5, .second, vJ q6, .second, .unset, .unset, .unset, .unset, .unset, .unset, .unset, .unset, .unset] [iI p4])) _
    refine XS.iconst X0.here hx rfl (hb hby at_2) ?_
    show Steps _ _ _ (s₁.setTop (mkF m 3 #[vI p1, vJ q2, .second, vI p3, vI p4, vJ q5, .second, vJ q6, .second, .unset, .unset, .unset, .unset, .unset, .unset, .unset, .unset, .unset] [iI 1, iI p4])) _
    refine XS.iand X0.here hx rfl (hb hby at_3) rfl ?_
    show Steps _ _ _ (s₁.setTop (mkF m 4 #[vI p1, vJ q2, .second, vI p3, vI p4, vJ q5, .second, vJ q6, .second, .unset, .unset, .unset, .unset, .unset, .unset, .unset, .unset, .unset] [iI (p4 &&& (1 : Int32))])) _
    refine st2 _ ?_
    show Steps _ _ _ (T2.setTop (mkF m 12 #[vI p1, vJ q2, .second, vI p3, vI p4, vJ q5, .second, vJ q6, .second, .unset, .unset, .unset, .unset, .unset, .unset, .unset, .unset, .unset] [iI v1])) _
    refine XS.istore X2.here hx rfl (hb hby at_12) rfl (l' := #[vI p1, vJ q2, .second, vI p3, vI p4, vJ q5, .second, vJ q6, .second, vI v1, .unset, .unset, .unset, .unset, .unset, .unset, .unset, .unset]) rfl ?_
    exact kt
  rcases qb with rfl | rfl
  · obtain ⟨kv, hkv⟩ : ∃ z : Int32, z = ((((p4.toUInt32 >>> ((1 : Int32) &&& 31).toUInt32).toInt32) &&& (2147483647 : Int32)) % (6 : Int32)) := ⟨_, rfl⟩
    have qkv : kv = 0 ∨ kv = 1 ∨ kv = 2 ∨ kv = 3 ∨ kv = 4 ∨ kv = 5 := by rw [hkv]; exact own_small6 _ (own_rem _ 6 6 rfl (by decide)).1 (own_rem _ 6 6 rfl (by decide)).2
    obtain ⟨pv, hpv⟩ : ∃ z : Int32, z = ((p1 &&& (2147483647 : Int32)) % (5 : Int32)) := ⟨_, rfl⟩
    have qkp : pv = 0 ∨ pv = 1 ∨ pv = 2 ∨ pv = 3 ∨ pv = 4 := by rw [hpv]; exact own_small5 _ (own_rem p1 5 5 rfl (by decide)).1 (own_rem p1 5 5 rfl (by decide)).2
    obtain ⟨_, _, ⟨T7, L7, k7, n7⟩, -, X7, ⟨Lc7, hQ7, l7, y7, z7⟩, st7⟩ := Jvm.LawKit.callS X2 hx (y := (⟨"com/example/threefold/threefold/store/ActivationHasKeysPinLaw", "pick", "(I)Lcom/example/threefold/threefold/protocol/ActivationStatus;"⟩ : MethodName)) hown (mvT hZ (hw _ (List.mem_of_getElem? (i := 1) rfl))) (mvT hZ (hw _ (List.mem_of_getElem? (i := 2) rfl))) (mvT hZ (hw _ (List.mem_of_getElem? (i := 3) rfl))) (mvT hZ (hw _ (List.mem_of_getElem? (i := 4) rfl))) (by decide) (backOf (W := 0) (rm1 l Z a0 hw [] pv s_CREATED s_OTP_USED s_ACTIVE s_BLOCKED s_REMOVED h0 n0 O0 S_CREATED S_OTP_USED S_ACTIVE S_BLOCKED S_REMOVED qkp) hZ (hw _ (List.mem_of_getElem? (i := 4) rfl)) (hw _ (List.mem_of_getElem? (i := 3) rfl)) (by decide) (by decide)) (g := (mkF m 32 #[vI p1, vJ q2, .second, vI p3, vI p4, vJ q5, .second, vJ q6, .second, vI 1, vI kv, .unset, .unset, .unset, .unset, .unset, .unset, .unset] [iI pv])) rfl (by rw [hml]; rfl) (argsL := [(.int pv)]) (rest := []) (lenOf pd_7 rfl) rfl (by show 2 * 0 + _ ≤ _; exact Nat.le_of_eq rfl) (hb hby at_32) (fun _ _ => ⟨rfl, e2, (by decide : 0 + 0 ≤ _), (by decide : 0 + 0 ≤ _)⟩)
    dsimp only [Pt.U, Pt.locs, Pt.cells, Pt.slots] at X7 l7 y7 z7 st7 hQ7
    subst l7 y7 z7
    obtain ⟨rfl, rfl, e7⟩ := hQ7
    try rw [List.append_nil] at X7
    obtain ⟨ast, hast⟩ : ∃ z : Addr, z = (own_pick pv s_CREATED s_OTP_USED s_ACTIVE s_BLOCKED s_REMOVED) := ⟨_, rfl⟩
    obtain ⟨T9, h9, X9, e9, E9, A9, D9, -, st9⟩ := newO X7 hx hZ hown (hw _ (List.mem_of_getElem? (i := 84) rfl)) (hw _ (List.mem_of_getElem? (i := 85) rfl)) (hw _ (List.mem_of_getElem? (i := 86) rfl)) e7 (g := (mkF m 42 #[vI p1, vJ q2, .second, vI p3, vI p4, vJ q5, .second, vJ q6, .second, vI 1, vI kv, vR ast, .unset, .unset, .unset, .unset, .unset, .unset] [])) rfl (hb hby at_42) (by decide) (by decide)
    obtain ⟨b9, g9⟩ : ∃ z, z = h0.size := ⟨_, rfl⟩
    rw [← g9] at A9 D9 st9
    have sz_b9 : h0.size ≤ b9 := Nat.le_trans K0.1 (Nat.le_of_eq g9.symm)
    have g_b9 : n0 ≤ b9 := Nat.le_trans Z0 sz_b9
    have K9 : Keep h0 h9 [] := K0.ext E9
    have F_serverPrivateKey_b9 : Fld Z h9 b9 "com/example/threefold/threefold/store/Device" "serverPrivateKey" "[B" .null := D9 (Or.inr (hw _ (List.mem_of_getElem? (i := 92) rfl))) (ty := (.array .byte)) (by decide)
    have F_devicePublicKey_b9 : Fld Z h9 b9 "com/example/threefold/threefold/store/Device" "devicePublicKey" "[B" .null := D9 (Or.inr (hw _ (List.mem_of_getElem? (i := 94) rfl))) (ty := (.array .byte)) (by decide)
    have F_masterSecret_b9 : Fld Z h9 b9 "com/example/threefold/threefold/store/Device" "masterSecret" "[B" .null := D9 (Or.inr (hw _ (List.mem_of_getElem? (i := 96) rfl))) (ty := (.array .byte)) (by decide)
    have F_activationName_b9 : Fld Z h9 b9 "com/example/threefold/threefold/store/Device" "activationName" "Ljava/lang/String;" .null := D9 (Or.inr (hw _ (List.mem_of_getElem? (i := 98) rfl))) (ty := (.object "java/lang/String")) (by decide)
    have F_extras_b9 : Fld Z h9 b9 "com/example/threefold/threefold/store/Device" "extras" "Ljava/lang/String;" .null := D9 (Or.inr (hw _ (List.mem_of_getElem? (i := 100) rfl))) (ty := (.object "java/lang/String")) (by decide)
    obtain ⟨T10, h10, k10, X10, e10, E10, A10, st10⟩ := newP X9 hx hZ (hw _ (List.mem_of_getElem? (i := 30) rfl)) e9 (g := (mkF m 47 #[vI p1, vJ q2, .second, vI p3, vI p4, vJ q5, .second, vJ q6, .second, vI 1, vI kv, vR ast, .unset, .unset, .unset, .unset, .unset, .unset] [iI 0, iR b9, iR b9])) rfl (hb hby at_47) rfl (by decide) (cap := 0) (by decide) (by decide) (by decide) (by decide)
    obtain ⟨b10, g10⟩ : ∃ z, z = h9.size := ⟨_, rfl⟩
    rw [← g10] at A10 st10
    have ne_b9_b10 : b9 ≠ b10 := Nat.ne_of_lt (Nat.lt_of_lt_of_le A9.lt (Nat.le_of_eq g10.symm))
    have sz_b10 : h0.size ≤ b10 := Nat.le_trans K9.1 (Nat.le_of_eq g10.symm)
    have g_b10 : n0 ≤ b10 := Nat.le_trans Z0 sz_b10
    have K10 : Keep h0 h10 [] := K9.ext E10
    have V10 : Arv Z h10 b10 k10 .byte (0 : Int32) [] (.int (0 : Int32)) := (Arv.new A10 (by decide)).pad (pad_rep [] (.int (0 : Int32)) 0)
    obtain ⟨T11, h11, k11, X11, e11, E11, A11, st11⟩ := newP X10 hx hZ (hw _ (List.mem_of_getElem? (i := 30) rfl)) e10 (g := (mkF m 50 #[vI p1, vJ q2, .second, vI p3, vI p4, vJ q5, .second, vJ q6, .second, vI 1, vI kv, vR ast, .unset, .unset, .unset, .unset, .unset, .unset] [iI 0, iR b10, iR b9, iR b9])) rfl (hb hby at_50) rfl (by decide) (cap := 0) (by decide) (by decide) (by decide) (by decide)
    obtain ⟨b11, g11⟩ : ∃ z, z = h10.size := ⟨_, rfl⟩
    rw [← g11] at A11 st11
    have fk12 := (A9.ext E10)
    have ne_b9_b11 : b9 ≠ b11 := Nat.ne_of_lt (Nat.lt_of_lt_of_le fk12.lt (Nat.le_of_eq g11.symm))
    have ne_b10_b11 : b10 ≠ b11 := Nat.ne_of_lt (Nat.lt_of_lt_of_le V10.lt (Nat.le_of_eq g11.symm))
    have sz_b11 : h0.size ≤ b11 := Nat.le_trans K10.1 (Nat.le_of_eq g11.symm)
    have g_b11 : n0 ≤ b11 := Nat.le_trans Z0 sz_b11
    have K11 : Keep h0 h11 [] := K10.ext E11
    have V11 : Arv Z h11 b11 k11 .byte (0 : Int32) [] (.int (0 : Int32)) := (Arv.new A11 (by decide)).pad (pad_rep [] (.int (0 : Int32)) 0)
    have fk14 := (fk12.ext E11)
    have fk15 := ((F_serverPrivateKey_b9.ext E10).ext E11)
    have fk16 := ((F_devicePublicKey_b9.ext E10).ext E11)
    have fk17 := ((F_masterSecret_b9.ext E10).ext E11)
    have fk18 := ((F_activationName_b9.ext E10).ext E11)
    have fk19 := ((F_extras_b9.ext E10).ext E11)
    obtain ⟨_, _, ⟨T13, L13, k13, n13⟩, -, X13, ⟨Lc13, hQ13, l13, y13, z13⟩, st13⟩ := X11.specialBack hx (y := (⟨"com/example/threefold/threefold/store/Device", "<init>", "([B[B[BLjava/lang/String;Ljava/lang/String;)V"⟩ : MethodName)) rfl hown (mvT hZ (hw _ (List.mem_of_getElem? (i := 87) rfl))) (mvT hZ (hw _ (List.mem_of_getElem? (i := 88) rfl))) (mvT hZ (hw _ (List.mem_of_getElem? (i := 89) rfl))) (by decide) (backOf (W := 1) (rm12 l Z a0 hw [] b9 b10 b11 h11 n0 (Nat.le_trans Z0 K11.1) fk14 g_b9 fk15 fk16 fk17 fk18 fk19) hZ (hw _ (List.mem_of_getElem? (i := 89) rfl)) (hw _ (List.mem_of_getElem? (i := 86) rfl)) (by decide) (by decide)) (g := (mkF m 55 #[vI p1, vJ q2, .second, vI p3, vI p4, vJ q5, .second, vJ q6, .second, vI 1, vI kv, vR ast, .unset, .unset, .unset, .unset, .unset, .unset] [.null, .null, .null, iR b11, iR b10, iR b9, iR b9])) rfl (by rw [hml]; rfl) (Steps.refl _) (a := b9) (argsL := [(.ref b10), (.ref b11), .null, .null, .null]) (rest := [(.ref b9)]) (lenOf pd_8 rfl) rfl (by show 2 * 0 + _ ≤ _; exact Nat.le_of_eq rfl) (hb hby at_55) (fun _ _ => ⟨rfl, e11, (by decide : 3 + 0 ≤ _), (by decide : 5 + 0 ≤ _)⟩)
    dsimp only [Pt.U, Pt.locs, Pt.cells, Pt.slots] at X13 l13 y13 z13 st13 hQ13
    subst l13 y13 z13
    obtain ⟨rfl, N13q, K13q, E13q⟩ := hQ13
    have N13 := Fr.app N0 N13q
    have K13 : Keep h0 T13.heap [] := Keep.trans K11 K13q (allS (Or.inr sz_b9) all0)
    obtain ⟨T20, h20, k20, X20, e20, E20, A20, st20⟩ := newP X13 hx hZ (hw _ (List.mem_of_getElem? (i := 8) rfl)) rfl (g := (mkF m 65 #[vI p1, vJ q2, .second, vI p3, vI p4, vJ q5, .second, vJ q6, .second, vI 1, vI kv, vR ast, vR b9, .unset, .unset, .unset, .unset, .unset] [iI 1])) rfl (hb hby at_65) rfl (by decide) (cap := 1) (by decide) (by decide) (by decide) (by decide)
    obtain ⟨b20, g20⟩ : ∃ z, z = T13.heap.size := ⟨_, rfl⟩
    rw [← g20] at A20 st20
    have ne_b9_b20 : b9 ≠ b20 := Nat.ne_of_lt (Nat.lt_of_lt_of_le E13q.lt (Nat.le_of_eq g20.symm))
    have fk21 := ((V10.ext E11).keep K13q (ninS (Ne.symm ne_b9_b10) nin0))
    have ne_b10_b20 : b10 ≠ b20 := Nat.ne_of_lt (Nat.lt_of_lt_of_le fk21.lt (Nat.le_of_eq g20.symm))
    have fk22 := (V11.keep K13q (ninS (Ne.symm ne_b9_b11) nin0))
    have ne_b11_b20 : b11 ≠ b20 := Nat.ne_of_lt (Nat.lt_of_lt_of_le fk22.lt (Nat.le_of_eq g20.symm))
    have sz_b20 : h0.size ≤ b20 := Nat.le_trans K13.1 (Nat.le_of_eq g20.symm)
    have g_b20 : n0 ≤ b20 := Nat.le_trans Z0 sz_b20
    have K20 : Keep h0 h20 [] := K13.ext E20
    have V20 : Arv Z h20 b20 k20 .char (1 : Int32) [(.int (0 : Int32))] (.int (0 : Int32)) := (Arv.new A20 (by decide)).pad (pad_rep [] (.int (0 : Int32)) 1)
    obtain ⟨cv, hcv⟩ : ∃ z : Int32, z = (((p4.toUInt32 >>> ((8 : Int32) &&& 31).toUInt32).toInt32) &&& (255 : Int32)).toUInt32.toUInt16.toUInt32.toInt32 := ⟨_, rfl⟩
    have hlc : ¬ (255 : Int32) < nar .char cv := by rw [hcv]; exact own_ch _
    obtain ⟨cl24, Ar24, q24, S24, M24, H24, G24⟩ := id V20
    have hin25 : ¬ ((0 : Int32) < 0 ∨ cl24.slots.size ≤ ((0 : Int32)).toNatClampNeg) := inb_of S24 ⟨by decide, by decide⟩
    obtain ⟨T26, h26, X26, e26, W26, st26⟩ := stC X20 hx hZ e20 Ar24 (j := (0 : Int32)) hin25 (g := (mkF m 79 #[vI p1, vJ q2, .second, vI p3, vI p4, vJ q5, .second, vJ q6, .second, vI 1, vI kv, vR ast, vR b9, .unset, .unset, .unset, .unset, .unset] [iI cv, iI 0, iR b20, iR b20])) rfl rfl (hb hby at_79)
    have V26 : Arv Z h26 b20 k20 .char (1 : Int32) [(.int (nar .char cv))] (.int (0 : Int32)) := Arv.set Ar24 q24 S24 M24 H24 G24 (fits_nar_char _) W26 0 rfl (Nat.le_of_ble_eq_true rfl)
    have K26 : Keep h0 h26 [] := K20.wr W26 (Or.inr sz_b20)
    have N26 := Fr.snoc X26 N13 g_b20
    obtain ⟨T27, h27, X27, e27, E27, A27, D27, -, st27⟩ := newO X26 hx hZ hown (hw _ (List.mem_of_getElem? (i := 9) rfl)) (hw _ (List.mem_of_getElem? (i := 10) rfl)) (hw _ (List.mem_of_getElem? (i := 11) rfl)) e26 (g := (mkF m 82 #[vI p1, vJ q2, .second, vI p3, vI p4, vJ q5, .second, vJ q6, .second, vI 1, vI kv, vR ast, vR b9, vR b20, .unset, .unset, .unset, .unset] [])) rfl (hb hby at_82) (by decide) (by decide)
    obtain ⟨b27, g27⟩ : ∃ z, z = h26.size := ⟨_, rfl⟩
    rw [← g27] at A27 D27 st27
    have fk28 := ((E13q.ext E20).wr W26)
    have ne_b9_b27 : b9 ≠ b27 := Nat.ne_of_lt (Nat.lt_of_lt_of_le fk28.lt (Nat.le_of_eq g27.symm))
    have fk29 := ((fk21.ext E20).other W26 ne_b10_b20)
    have ne_b10_b27 : b10 ≠ b27 := Nat.ne_of_lt (Nat.lt_of_lt_of_le fk29.lt (Nat.le_of_eq g27.symm))
    have fk30 := ((fk22.ext E20).other W26 ne_b11_b20)
    have ne_b11_b27 : b11 ≠ b27 := Nat.ne_of_lt (Nat.lt_of_lt_of_le fk30.lt (Nat.le_of_eq g27.symm))
    have ne_b20_b27 : b20 ≠ b27 := Nat.ne_of_lt (Nat.lt_of_lt_of_le V26.lt (Nat.le_of_eq g27.symm))
    have sz_b27 : h0.size ≤ b27 := Nat.le_trans K26.1 (Nat.le_of_eq g27.symm)
    have g_b27 : n0 ≤ b27 := Nat.le_trans Z0 sz_b27
    have K27 : Keep h0 h27 [] := K26.ext E27
    have F_activationId_b27 : Fld Z h27 b27 "com/example/threefold/threefold/store/Activation" "activationId" "Ljava/lang/String;" .null := D27 (Or.inr (hw _ (List.mem_of_getElem? (i := 51) rfl))) (ty := (.object "java/lang/String")) (by decide)
    have F_applicationId_b27 : Fld Z h27 b27 "com/example/threefold/threefold/store/Activation" "applicationId" "J" (.long (0 : Int64)) := D27 (Or.inr (hw _ (List.mem_of_getElem? (i := 53) rfl))) (ty := .long) (by decide)
    have F_userId_b27 : Fld Z h27 b27 "com/example/threefold/threefold/store/Activation" "userId" "Ljava/lang/String;" .null := D27 (Or.inr (hw _ (List.mem_of_getElem? (i := 55) rfl))) (ty := (.object "java/lang/String")) (by decide)
    have F_status_b27 : Fld Z h27 b27 "com/example/threefold/threefold/store/Activation" "status" "Lcom/example/threefold/threefold/protocol/ActivationStatus;" .null := D27 (Or.inr (hw _ (List.mem_of_getElem? (i := 57) rfl))) (ty := (.object "com/example/threefold/threefold/protocol/ActivationStatus")) (by decide)
    have F_counter_b27 : Fld Z h27 b27 "com/example/threefold/threefold/store/Activation" "counter" "J" (.long (0 : Int64)) := D27 (Or.inr (hw _ (List.mem_of_getElem? (i := 59) rfl))) (ty := .long) (by decide)
    have F_failedAttempts_b27 : Fld Z h27 b27 "com/example/threefold/threefold/store/Activation" "failedAttempts" "I" (.int (0 : Int32)) := D27 (Or.inr (hw _ (List.mem_of_getElem? (i := 61) rfl))) (ty := .int) (by decide)
    have F_blockedReason_b27 : Fld Z h27 b27 "com/example/threefold/threefold/store/Activation" "blockedReason" "Ljava/lang/String;" .null := D27 (Or.inr (hw _ (List.mem_of_getElem? (i := 63) rfl))) (ty := (.object "java/lang/String")) (by decide)
    have F_code_b27 : Fld Z h27 b27 "com/example/threefold/threefold/store/Activation" "code" "Lcom/example/threefold/threefold/protocol/ActivationCode;" .null := D27 (Or.inr (hw _ (List.mem_of_getElem? (i := 65) rfl))) (ty := (.object "com/example/threefold/threefold/protocol/ActivationCode")) (by decide)
    have F_device_b27 : Fld Z h27 b27 "com/example/threefold/threefold/store/Activation" "device" "Lcom/example/threefold/threefold/store/Device;" .null := D27 (Or.inr (hw _ (List.mem_of_getElem? (i := 67) rfl))) (ty := (.object "com/example/threefold/threefold/store/Device")) (by decide)
    have F_createdAt_b27 : Fld Z h27 b27 "com/example/threefold/threefold/store/Activation" "createdAt" "J" (.long (0 : Int64)) := D27 (Or.inr (hw _ (List.mem_of_getElem? (i := 69) rfl))) (ty := .long) (by decide)
    obtain ⟨T31, h31, X31, e31, E31, A31, D31, -, st31⟩ := newO X27 hx hZ hown (hw _ (List.mem_of_getElem? (i := 12) rfl)) (hw _ (List.mem_of_getElem? (i := 13) rfl)) (hw _ (List.mem_of_getElem? (i := 14) rfl)) e27 (g := (mkF m 86 #[vI p1, vJ q2, .second, vI p3, vI p4, vJ q5, .second, vJ q6, .second, vI 1, vI kv, vR ast, vR b9, vR b20, .unset, .unset, .unset, .unset] [iR b27, iR b27])) rfl (hb hby at_86) (by decide) (by decide)
    obtain ⟨b31, g31⟩ : ∃ z, z = h27.size := ⟨_, rfl⟩
    rw [← g31] at A31 D31 st31
    have fk32 := (fk28.ext E27)
    have ne_b9_b31 : b9 ≠ b31 := Nat.ne_of_lt (Nat.lt_of_lt_of_le fk32.lt (Nat.le_of_eq g31.symm))
    have fk33 := (fk29.ext E27)
    have ne_b10_b31 : b10 ≠ b31 := Nat.ne_of_lt (Nat.lt_of_lt_of_le fk33.lt (Nat.le_of_eq g31.symm))
    have fk34 := (fk30.ext E27)
    have ne_b11_b31 : b11 ≠ b31 := Nat.ne_of_lt (Nat.lt_of_lt_of_le fk34.lt (Nat.le_of_eq g31.symm))
    have fk35 := (V26.ext E27)
    have ne_b20_b31 : b20 ≠ b31 := Nat.ne_of_lt (Nat.lt_of_lt_of_le fk35.lt (Nat.le_of_eq g31.symm))
    have ne_b27_b31 : b27 ≠ b31 := Nat.ne_of_lt (Nat.lt_of_lt_of_le A27.lt (Nat.le_of_eq g31.symm))
    have sz_b31 : h0.size ≤ b31 := Nat.le_trans K27.1 (Nat.le_of_eq g31.symm)
    have g_b31 : n0 ≤ b31 := Nat.le_trans Z0 sz_b31
    have K31 : Keep h0 h31 [] := K27.ext E31
    have F_coder_b31 : Fld Z h31 b31 "java/lang/String" "coder" "B" (.int (0 : Int32)) := D31 (Or.inr (hw _ (List.mem_of_getElem? (i := 38) rfl))) (ty := .byte) (by decide)
    have F_value_b31 : Fld Z h31 b31 "java/lang/String" "value" "[B" .null := D31 (Or.inr (hw _ (List.mem_of_getElem? (i := 40) rfl))) (ty := (.array .byte)) (by decide)
    have fk37 := (fk35.ext E31)
    have Oh38 := O0.keep K31 all0
    obtain ⟨_, _, ⟨T36, L36, k36, n36⟩, -, X36, ⟨Lc36, hQ36, l36, y36, z36⟩, st36⟩ := X31.specialBack hx (y := (⟨"java/lang/String", "<init>", "([C)V"⟩ : MethodName)) rfl hown (mvT hZ (hw _ (List.mem_of_getElem? (i := 15) rfl))) (mvT hZ (hw _ (List.mem_of_getElem? (i := 16) rfl))) (mvT hZ (hw _ (List.mem_of_getElem? (i := 17) rfl))) (by decide) (backOf (W := 3) (rm2_1 l Z a0 hw [] b31 b20 k20 (nar .char cv) cs h31 n0 (Nat.le_trans Z0 K31.1) Oh38 A31 g_b31 F_value_b31 F_coder_b31 fk37 (Ne.symm ne_b20_b31) hlc S_CS h_cs) hZ (hw _ (List.mem_of_getElem? (i := 17) rfl)) (hw _ (List.mem_of_getElem? (i := 14) rfl)) (by decide) (by decide)) (g := (mkF m 92 #[vI p1, vJ q2, .second, vI p3, vI p4, vJ q5, .second, vJ q6, .second, vI 1, vI kv, vR ast, vR b9, vR b20, .unset, .unset, .unset, .unset] [iR b20, iR b31, iR b31, iR b27, iR b27])) rfl (by rw [hml]; rfl) (Steps.refl _) (a := b31) (argsL := [(.ref b20)]) (rest := [(.ref b31), (.ref b27), (.ref b27)]) (lenOf pd_9 rfl) rfl (by show 2 * 0 + _ ≤ _; exact Nat.le_of_eq rfl) (hb hby at_92) (fun _ _ => ⟨rfl, e31, (by decide : 6 + 1 ≤ _), (by decide : 20 + 1 ≤ _)⟩)
    dsimp only [Pt.U, Pt.locs, Pt.cells, Pt.slots] at X36 l36 y36 z36 st36 hQ36
    subst l36 y36 z36
    obtain ⟨d36, kd36, rfl, N36q, K36q, E36q, C36q, F36q, V36q, z_d36⟩ := hQ36
    have fk39 := (fk32.ext E31)
    have fk40 := (fk33.ext E31)
    have fk41 := (fk34.ext E31)
    have fk42 := (A27.ext E31)
    have ne_b9_d36 : b9 ≠ d36 := Nat.ne_of_lt (Nat.lt_of_lt_of_le fk39.lt z_d36)
    have ne_b10_d36 : b10 ≠ d36 := Nat.ne_of_lt (Nat.lt_of_lt_of_le fk40.lt z_d36)
    have ne_b11_d36 : b11 ≠ d36 := Nat.ne_of_lt (Nat.lt_of_lt_of_le fk41.lt z_d36)
    have ne_b20_d36 : b20 ≠ d36 := Nat.ne_of_lt (Nat.lt_of_lt_of_le fk37.lt z_d36)
    have ne_b27_d36 : b27 ≠ d36 := Nat.ne_of_lt (Nat.lt_of_lt_of_le fk42.lt z_d36)
    have ne_b31_d36 : b31 ≠ d36 := Nat.ne_of_lt (Nat.lt_of_lt_of_le A31.lt z_d36)
    have sz_d36 : h0.size ≤ d36 := Nat.le_trans K31.1 z_d36
    have g_d36 : n0 ≤ d36 := Nat.le_trans Z0 sz_d36
    have N36 := Fr.app N26 N36q
    have K36 : Keep h0 T36.heap [] := Keep.trans K31 K36q (allS (Or.inr sz_b31) all0)
    have fk44 := (fk42.keep K36q)
    have fk45 := ((F_activationId_b27.ext E31).keep K36q (ninS ne_b27_b31 nin0))
    have fk46 := ((F_applicationId_b27.ext E31).keep K36q (ninS ne_b27_b31 nin0))
    have fk47 := ((F_userId_b27.ext E31).keep K36q (ninS ne_b27_b31 nin0))
    have fk48 := ((F_status_b27.ext E31).keep K36q (ninS ne_b27_b31 nin0))
    have fk49 := ((F_counter_b27.ext E31).keep K36q (ninS ne_b27_b31 nin0))
    have fk50 := ((F_failedAttempts_b27.ext E31).keep K36q (ninS ne_b27_b31 nin0))
    have fk51 := ((F_blockedReason_b27.ext E31).keep K36q (ninS ne_b27_b31 nin0))
    have fk52 := ((F_code_b27.ext E31).keep K36q (ninS ne_b27_b31 nin0))
    have fk53 := ((F_device_b27.ext E31).keep K36q (ninS ne_b27_b31 nin0))
    have fk54 := ((F_createdAt_b27.ext E31).keep K36q (ninS ne_b27_b31 nin0))
    obtain ⟨_, _, ⟨T43, L43, k43, n43⟩, -, X43, ⟨Lc43, hQ43, l43, y43, z43⟩, st43⟩ := X36.specialBack hx (y := (⟨"com/example/threefold/threefold/store/Activation", "<init>", "(Ljava/lang/String;JLjava/lang/String;Lcom/example/threefold/threefold/protocol/ActivationStatus;JILjava/lang/String;Lcom/example/threefold/threefold/protocol/ActivationCode;Lcom/example/threefold/threefold/store/Device;J)V"⟩ : MethodName)) rfl hown (mvT hZ (hw _ (List.mem_of_getElem? (i := 41) rfl))) (mvT hZ (hw _ (List.mem_of_getElem? (i := 42) rfl))) (mvT hZ (hw _ (List.mem_of_getElem? (i := 43) rfl))) (by decide) (backOf (W := 1) (rm8_nr l Z a0 hw [] b27 b31 q5 ast q2 p3 b9 q6 T36.heap n0 (Nat.le_trans Z0 K36.1) fk44 g_b27 fk45 fk46 fk47 fk48 fk49 fk50 fk51 fk52 fk53 fk54) hZ (hw _ (List.mem_of_getElem? (i := 43) rfl)) (hw _ (List.mem_of_getElem? (i := 11) rfl)) (by decide) (by decide)) (g := (mkF m 108 #[vI p1, vJ q2, .second, vI p3, vI p4, vJ q5, .second, vJ q6, .second, vI 1, vI kv, vR ast, vR b9, vR b20, .unset, .unset, .unset, .unset] [iJ q6, iR b9, .null, .null, iI p3, iJ q2, iR ast, .null, iJ q5, iR b31, iR b27, iR b27])) rfl (by rw [hml]; rfl) (Steps.refl _) (a := b27) (argsL := [(.ref b31), (.long q5), .null, (.ref ast), (.long q2), (.int p3), .null, .null, (.ref b9), (.long q6)]) (rest := [(.ref b27)]) (lenOf pd_1 rfl) rfl (by show 2 * 0 + _ ≤ _; exact Nat.le_of_eq rfl) (hb hby at_108) (fun _ _ => ⟨rfl, rfl, (by decide : 7 + 0 ≤ _), (by decide : 21 + 0 ≤ _)⟩)
    dsimp only [Pt.U, Pt.locs, Pt.cells, Pt.slots] at X43 l43 y43 z43 st43 hQ43
    subst l43 y43 z43
    obtain ⟨rfl, N43q, K43q, E43q, F43_activationId, F43_applicationId, F43_userId, F43_status, F43_counter, F43_failedAttempts, F43_blockedReason, F43_code, F43_device, F43_createdAt⟩ := hQ43
    have N43 := Fr.app N36 N43q
    have K43 : Keep h0 T43.heap [] := Keep.trans K36 K43q (allS (Or.inr sz_b27) all0)
    obtain ⟨cq55, kq55, q55a, q55b, q55c⟩ := isOf hZ rfl E43q
    obtain ⟨_, _, ⟨T55, L55, k55, n55⟩, -, X55, ⟨Lc55, hQ55, l55, y55, z55⟩, st55⟩ := X43.virtualBack hx (y := (⟨"com/example/threefold/threefold/store/Activation", "hasKeys", "()Z"⟩ : MethodName)) (z := (⟨"com/example/threefold/threefold/store/Activation", "hasKeys", "()Z"⟩ : MethodName)) hown (mvT hZ (hw _ (List.mem_of_getElem? (i := 70) rfl))) (mvT hZ (hw _ (List.mem_of_getElem? (i := 71) rfl))) (notFace_of_selects (args := #[]) (mvT hZ (hw _ (List.mem_of_getElem? (i := 73) rfl)))) (mvT hZ (hw _ (List.mem_of_getElem? (i := 73) rfl))) (mvT hZ (hw _ (List.mem_of_getElem? (i := 72) rfl))) (by decide) (backOf (W := 0) (rm10_r l Z a0 hw [] b27 b9 T43.heap F43_device) hZ (hw _ (List.mem_of_getElem? (i := 74) rfl)) (hw _ (List.mem_of_getElem? (i := 11) rfl)) (by decide) (by decide)) q55a q55c (g := (mkF m 115 #[vI p1, vJ q2, .second, vI p3, vI p4, vJ q5, .second, vJ q6, .second, vI 1, vI kv, vR ast, vR b9, vR b20, vR b27, .unset, .unset, .unset] [iR b27])) rfl (by rw [hml]; rfl) (Steps.refl _) (argsL := []) (rest := []) (lenOf pd_10 rfl) rfl (by show 2 * 0 + _ ≤ _; exact Nat.le_of_eq rfl) (hb hby at_115) (fun _ _ => ⟨rfl, rfl, (by decide : 7 + 0 ≤ _), (by decide : 21 + 0 ≤ _)⟩)
    dsimp only [Pt.U, Pt.locs, Pt.cells, Pt.slots] at X55 l55 y55 z55 st55 hQ55
    subst l55 y55 z55
    obtain ⟨rfl, rfl, e55⟩ := hQ55
    try rw [List.append_nil] at X55
    have pre56 : ∀ t, Steps p.tables e below (T55.setTop (mkF m 134 #[vI p1, vJ q2, .second, vI p3, vI p4, vJ q5, .second, vJ q6, .second, vI 1, vI kv, vR ast, vR b9, vR b20, vR b27, vI 1, vI 1, .unset] [])) t → Steps p.tables e below (s₁.setTop (entryFrame m #[(.int p1), (.long q2), (.int p3), (.int p4), (.long q5), (.long q6)] maxLocals)) t := by
      intro t kt
      refine pre4 t ?_
      show Steps _ _ _ (T2.setTop (mkF m 14 #[vI p1, vJ q2, .second, vI p3, vI p4, vJ q5, .second, vJ q6, .second, vI 1, .unset, .unset, .unset, .unset, .unset, .unset, .unset, .unset] [])) _
      refine XS.iload X2.here hx rfl (hb hby at_14) rfl ?_
      show Steps _ _ _ (T2.setTop (mkF m 16 #[vI p1, vJ q2, .second, vI p3, vI p4, vJ q5, .second, vJ q6, .second, vI 1, .unset, .unset, .unset, .unset, .unset, .unset, .unset, .unset] [iI p4])) _
      refine XS.iconst X2.here hx rfl (hb hby at_16) ?_
      show Steps _ _ _ (T2.setTop (mkF m 17 #[vI p1, vJ q2, .second, vI p3, vI p4, vJ q5, .second, vJ q6, .second, vI 1, .unset, .unset, .unset, .unset, .unset, .unset, .unset, .unset] [iI 1, iI p4])) _
      refine XS.iushr X2.here hx rfl (hb hby at_17) rfl ?_
      show Steps _ _ _ (T2.setTop (mkF m 18 #[vI p1, vJ q2, .second, vI p3, vI p4, vJ q5, .second, vJ q6, .second, vI 1, .unset, .unset, .unset, .unset, .unset, .unset, .unset, .unset] [iI ((p4.toUInt32 >>> ((1 : Int32) &&& 31).toUInt32).toInt32)])) _
      refine X2.ldcInt hx hown (mvT hZ (hw _ (List.mem_of_getElem? (i := 0) rfl))) (g := (mkF m 18 #[vI p1, vJ q2, .second, vI p3, vI p4, vJ q5, .second, vJ q6, .second, vI 1, .unset, .unset, .unset, .unset, .unset, .unset, .unset, .unset] [iI ((p4.toUInt32 >>> ((1 : Int32) &&& 31).toUInt32).toInt32)])) rfl (hb hby at_18) _ ?_
      show Steps _ _ _ (T2.setTop (mkF m 20 #[vI p1, vJ q2, .second, vI p3, vI p4, vJ q5, .second, vJ q6, .second, vI 1, .unset, .unset, .unset, .unset, .unset, .unset, .unset, .unset] [iI 2147483647, iI ((p4.toUInt32 >>> ((1 : Int32) &&& 31).toUInt32).toInt32)])) _
      refine XS.iand X2.here hx rfl (hb hby at_20) rfl ?_
      show Steps _ _ _ (T2.setTop (mkF m 21 #[vI p1, vJ q2, .second, vI p3, vI p4, vJ q5, .second, vJ q6, .second, vI 1, .unset, .unset, .unset, .unset, .unset, .unset, .unset, .unset] [iI (((p4.toUInt32 >>> ((1 : Int32) &&& 31).toUInt32).toInt32) &&& (2147483647 : Int32))])) _
      refine XS.bipush X2.here hx rfl (hb hby at_21) ?_
      show Steps _ _ _ (T2.setTop (mkF m 23 #[vI p1, vJ q2, .second, vI p3, vI p4, vJ q5, .second, vJ q6, .second, vI 1, .unset, .unset, .unset, .unset, .unset, .unset, .unset, .unset] [iI 6, iI (((p4.toUInt32 >>> ((1 : Int32) &&& 31).toUInt32).toInt32) &&& (2147483647 : Int32))])) _
      refine iremM X2 hx rfl (hb hby at_23) rfl (by decide) ?_
      show Steps _ _ _ (T2.setTop (mkF m 24 #[vI p1, vJ q2, .second, vI p3, vI p4, vJ q5, .second, vJ q6, .second, vI 1, .unset, .unset, .unset, .unset, .unset, .unset, .unset, .unset] [iI ((((p4.toUInt32 >>> ((1 : Int32) &&& 31).toUInt32).toInt32) &&& (2147483647 : Int32)) % (6 : Int32))])) _
      refine XS.istore X2.here hx rfl (hb hby at_24) rfl (l' := #[vI p1, vJ q2, .second, vI p3, vI p4, vJ q5, .second, vJ q6, .second, vI 1, vI ((((p4.toUInt32 >>> ((1 : Int32) &&& 31).toUInt32).toInt32) &&& (2147483647 : Int32)) % (6 : Int32)), .unset, .unset, .unset, .unset, .unset, .unset, .unset]) rfl ?_
      rw [← hkv]
      show Steps _ _ _ (T2.setTop (mkF m 26 #[vI p1, vJ q2, .second, vI p3, vI p4, vJ q5, .second, vJ q6, .second, vI 1, vI kv, .unset, .unset, .unset, .unset, .unset, .unset, .unset] [])) _
      refine XS.iloadN X2.here hx rfl (hb hby at_26) rfl ?_
      show Steps _ _ _ (T2.setTop (mkF m 27 #[vI p1, vJ q2, .second, vI p3, vI p4, vJ q5, .second, vJ q6, .second, vI 1, vI kv, .unset, .unset, .unset, .unset, .unset, .unset, .unset] [iI p1])) _
      refine X2.ldcInt hx hown (mvT hZ (hw _ (List.mem_of_getElem? (i := 0) rfl))) (g := (mkF m 27 #[vI p1, vJ q2, .second, vI p3, vI p4, vJ q5, .second, vJ q6, .second, vI 1, vI kv, .unset, .unset, .unset, .unset, .unset, .unset, .unset] [iI p1])) rfl (hb hby at_27) _ ?_
      show Steps _ _ _ (T2.setTop (mkF m 29 #[vI p1, vJ q2, .second, vI p3, vI p4, vJ q5, .second, vJ q6, .second, vI 1, vI kv, .unset, .unset, .unset, .unset, .unset, .unset, .unset] [iI 2147483647, iI p1])) _
      refine XS.iand X2.here hx rfl (hb hby at_29) rfl ?_
      show Steps _ _ _ (T2.setTop (mkF m 30 #[vI p1, vJ q2, .second, vI p3, vI p4, vJ q5, .second, vJ q6, .second, vI 1, vI kv, .unset, .unset, .unset, .unset, .unset, .unset, .unset] [iI (p1 &&& (2147483647 : Int32))])) _
      refine XS.iconst X2.here hx rfl (hb hby at_30) ?_
      show Steps _ _ _ (T2.setTop (mkF m 31 #[vI p1, vJ q2, .second, vI p3, vI p4, vJ q5, .second, vJ q6, .second, vI 1, vI kv, .unset, .unset, .unset, .unset, .unset, .unset, .unset] [iI 5, iI (p1 &&& (2147483647 : Int32))])) _
      refine iremM X2 hx rfl (hb hby at_31) rfl (by decide) ?_
      rw [← hpv]
      show Steps _ _ _ (T2.setTop (mkF m 32 #[vI p1, vJ q2, .second, vI p3, vI p4, vJ q5, .second, vJ q6, .second, vI 1, vI kv, .unset, .unset, .unset, .unset, .unset, .unset, .unset] [iI pv])) _
      refine st7 _ ?_
      show Steps _ _ _ (T7.setTop (mkF m 35 #[vI p1, vJ q2, .second, vI p3, vI p4, vJ q5, .second, vJ q6, .second, vI 1, vI kv, .unset, .unset, .unset, .unset, .unset, .unset, .unset] [iR (own_pick pv s_CREATED s_OTP_USED s_ACTIVE s_BLOCKED s_REMOVED)])) _
      refine XS.astore X7.here hx rfl (hb hby at_35) rfl rfl (l' := #[vI p1, vJ q2, .second, vI p3, vI p4, vJ q5, .second, vJ q6, .second, vI 1, vI kv, vR (own_pick pv s_CREATED s_OTP_USED s_ACTIVE s_BLOCKED s_REMOVED), .unset, .unset, .unset, .unset, .unset, .unset]) rfl ?_
      rw [← hast]
      show Steps _ _ _ (T7.setTop (mkF m 37 #[vI p1, vJ q2, .second, vI p3, vI p4, vJ q5, .second, vJ q6, .second, vI 1, vI kv, vR ast, .unset, .unset, .unset, .unset, .unset, .unset] [])) _
      refine XS.iload X7.here hx rfl (hb hby at_37) rfl ?_
      show Steps _ _ _ (T7.setTop (mkF m 39 #[vI p1, vJ q2, .second, vI p3, vI p4, vJ q5, .second, vJ q6, .second, vI 1, vI kv, vR ast, .unset, .unset, .unset, .unset, .unset, .unset] [iI 1])) _
      refine XS.ifNo X7.here hx rfl (hb hby at_39) rfl ((if0 _ _).trans (feq (by decide : ¬ ((1 : Int32) = (0 : Int32)))).1) ?_
      show Steps _ _ _ (T7.setTop (mkF m 42 #[vI p1, vJ q2, .second, vI p3, vI p4, vJ q5, .second, vJ q6, .second, vI 1, vI kv, vR ast, .unset, .unset, .unset, .unset, .unset, .unset] [])) _
      refine st9 _ ?_
      show Steps _ _ _ (T9.setTop (mkF m 45 #[vI p1, vJ q2, .second, vI p3, vI p4, vJ q5, .second, vJ q6, .second, vI 1, vI kv, vR ast, .unset, .unset, .unset, .unset, .unset, .unset] [iR b9])) _
      refine XS.dup X9.here hx rfl (hb hby at_45) rfl rfl ?_
      show Steps _ _ _ (T9.setTop (mkF m 46 #[vI p1, vJ q2, .second, vI p3, vI p4, vJ q5, .second, vJ q6, .second, vI 1, vI kv, vR ast, .unset, .unset, .unset, .unset, .unset, .unset] [iR b9, iR b9])) _
      refine XS.iconst X9.here hx rfl (hb hby at_46) ?_
      show Steps _ _ _ (T9.setTop (mkF m 47 #[vI p1, vJ q2, .second, vI p3, vI p4, vJ q5, .second, vJ q6, .second, vI 1, vI kv, vR ast, .unset, .unset, .unset, .unset, .unset, .unset] [iI 0, iR b9, iR b9])) _
      refine st10 _ ?_
      show Steps _ _ _ (T10.setTop (mkF m 49 #[vI p1, vJ q2, .second, vI p3, vI p4, vJ q5, .second, vJ q6, .second, vI 1, vI kv, vR ast, .unset, .unset, .unset, .unset, .unset, .unset] [iR b10, iR b9, iR b9])) _
      refine XS.iconst X10.here hx rfl (hb hby at_49) ?_
      show Steps _ _ _ (T10.setTop (mkF m 50 #[vI p1, vJ q2, .second, vI p3, vI p4, vJ q5, .second, vJ q6, .second, vI 1, vI kv, vR ast, .unset, .unset, .unset, .unset, .unset, .unset] [iI 0, iR b10, iR b9, iR b9])) _
      refine st11 _ ?_
      show Steps _ _ _ (T11.setTop (mkF m 52 #[vI p1, vJ q2, .second, vI p3, vI p4, vJ q5, .second, vJ q6, .second, vI 1, vI kv, vR ast, .unset, .unset, .unset, .unset, .unset, .unset] [iR b11, iR b10, iR b9, iR b9])) _
      refine XS.aconstNull X11.here hx rfl (hb hby at_52) ?_
      show Steps _ _ _ (T11.setTop (mkF m 53 #[vI p1, vJ q2, .second, vI p3, vI p4, vJ q5, .second, vJ q6, .second, vI 1, vI kv, vR ast, .unset, .unset, .unset, .unset, .unset, .unset] [.null, iR b11, iR b10, iR b9, iR b9])) _
      refine XS.aconstNull X11.here hx rfl (hb hby at_53) ?_
      show Steps _ _ _ (T11.setTop (mkF m 54 #[vI p1, vJ q2, .second, vI p3, vI p4, vJ q5, .second, vJ q6, .second, vI 1, vI kv, vR ast, .unset, .unset, .unset, .unset, .unset, .unset] [.null, .null, iR b11, iR b10, iR b9, iR b9])) _
      refine XS.aconstNull X11.here hx rfl (hb hby at_54) ?_
      show Steps _ _ _ (T11.setTop (mkF m 55 #[vI p1, vJ q2, .second, vI p3, vI p4, vJ q5, .second, vJ q6, .second, vI 1, vI kv, vR ast, .unset, .unset, .unset, .unset, .unset, .unset] [.null, .null, .null, iR b11, iR b10, iR b9, iR b9])) _
      refine st13.trans ?_
      show Steps _ _ _ (T13.setTop (mkF m 58 #[vI p1, vJ q2, .second, vI p3, vI p4, vJ q5, .second, vJ q6, .second, vI 1, vI kv, vR ast, .unset, .unset, .unset, .unset, .unset, .unset] [iR b9])) _
      refine XS.goto X13.here hx rfl (pc0 := 58) (pc' := 62) rfl (hb hby at_58) (by decide) (by decide) ?_
      show Steps _ _ _ (T13.setTop (mkF m 62 #[vI p1, vJ q2, .second, vI p3, vI p4, vJ q5, .second, vJ q6, .second, vI 1, vI kv, vR ast, .unset, .unset, .unset, .unset, .unset, .unset] [iR b9])) _
      refine XS.astore X13.here hx rfl (hb hby at_62) rfl rfl (l' := #[vI p1, vJ q2, .second, vI p3, vI p4, vJ q5, .second, vJ q6, .second, vI 1, vI kv, vR ast, vR b9, .unset, .unset, .unset, .unset, .unset]) rfl ?_
      show Steps _ _ _ (T13.setTop (mkF m 64 #[vI p1, vJ q2, .second, vI p3, vI p4, vJ q5, .second, vJ q6, .second, vI 1, vI kv, vR ast, vR b9, .unset, .unset, .unset, .unset, .unset] [])) _
      refine XS.iconst X13.here hx rfl (hb hby at_64) ?_
      show Steps _ _ _ (T13.setTop (mkF m 65 #[vI p1, vJ q2, .second, vI p3, vI p4, vJ q5, .second, vJ q6, .second, vI 1, vI kv, vR ast, vR b9, .unset, .unset, .unset, .unset, .unset] [iI 1])) _
      refine st20 _ ?_
      show Steps _ _ _ (T20.setTop (mkF m 67 #[vI p1, vJ q2, .second, vI p3, vI p4, vJ q5, .second, vJ q6, .second, vI 1, vI kv, vR ast, vR b9, .unset, .unset, .unset, .unset, .unset] [iR b20])) _
      refine XS.dup X20.here hx rfl (hb hby at_67) rfl rfl ?_
      show Steps _ _ _ (T20.setTop (mkF m 68 #[vI p1, vJ q2, .second, vI p3, vI p4, vJ q5, .second, vJ q6, .second, vI 1, vI kv, vR ast, vR b9, .unset, .unset, .unset, .unset, .unset] [iR b20, iR b20])) _
      refine XS.iconst X20.here hx rfl (hb hby at_68) ?_
      show Steps _ _ _ (T20.setTop (mkF m 69 #[vI p1, vJ q2, .second, vI p3, vI p4, vJ q5, .second, vJ q6, .second, vI 1, vI kv, vR ast, vR b9, .unset, .unset, .unset, .unset, .unset] [iI 0, iR b20, iR b20])) _
      refine XS.iload X20.here hx rfl (hb hby at_69) rfl ?_
      show Steps _ _ _ (T20.setTop (mkF m 71 #[vI p1, vJ q2, .second, vI p3, vI p4, vJ q5, .second, vJ q6, .second, vI 1, vI kv, vR ast, vR b9, .unset, .unset, .unset, .unset, .unset] [iI p4, iI 0, iR b20, iR b20])) _
      refine XS.bipush X20.here hx rfl (hb hby at_71) ?_
      show Steps _ _ _ (T20.setTop (mkF m 73 #[vI p1, vJ q2, .second, vI p3, vI p4, vJ q5, .second, vJ q6, .second, vI 1, vI kv, vR ast, vR b9, .unset, .unset, .unset, .unset, .unset] [iI 8, iI p4, iI 0, iR b20, iR b20])) _
      refine XS.iushr X20.here hx rfl (hb hby at_73) rfl ?_
      show Steps _ _ _ (T20.setTop (mkF m 74 #[vI p1, vJ q2, .second, vI p3, vI p4, vJ q5, .second, vJ q6, .second, vI 1, vI kv, vR ast, vR b9, .unset, .unset, .unset, .unset, .unset] [iI ((p4.toUInt32 >>> ((8 : Int32) &&& 31).toUInt32).toInt32), iI 0, iR b20, iR b20])) _
      refine XS.sipush X20.here hx rfl (hb hby at_74) ?_
      show Steps _ _ _ (T20.setTop (mkF m 77 #[vI p1, vJ q2, .second, vI p3, vI p4, vJ q5, .second, vJ q6, .second, vI 1, vI kv, vR ast, vR b9, .unset, .unset, .unset, .unset, .unset] [iI 255, iI ((p4.toUInt32 >>> ((8 : Int32) &&& 31).toUInt32).toInt32), iI 0, iR b20, iR b20])) _
      refine XS.iand X20.here hx rfl (hb hby at_77) rfl ?_
      show Steps _ _ _ (T20.setTop (mkF m 78 #[vI p1, vJ q2, .second, vI p3, vI p4, vJ q5, .second, vJ q6, .second, vI 1, vI kv, vR ast, vR b9, .unset, .unset, .unset, .unset, .unset] [iI (((p4.toUInt32 >>> ((8 : Int32) &&& 31).toUInt32).toInt32) &&& (255 : Int32)), iI 0, iR b20, iR b20])) _
      refine XS.i2c X20.here hx rfl (hb hby at_78) rfl ?_
      rw [← hcv]
      show Steps _ _ _ (T20.setTop (mkF m 79 #[vI p1, vJ q2, .second, vI p3, vI p4, vJ q5, .second, vJ q6, .second, vI 1, vI kv, vR ast, vR b9, .unset, .unset, .unset, .unset, .unset] [iI cv, iI 0, iR b20, iR b20])) _
      refine st26 _ ?_
      show Steps _ _ _ (T26.setTop (mkF m 80 #[vI p1, vJ q2, .second, vI p3, vI p4, vJ q5, .second, vJ q6, .second, vI 1, vI kv, vR ast, vR b9, .unset, .unset, .unset, .unset, .unset] [iR b20])) _
      refine XS.astore X26.here hx rfl (hb hby at_80) rfl rfl (l' := #[vI p1, vJ q2, .second, vI p3, vI p4, vJ q5, .second, vJ q6, .second, vI 1, vI kv, vR ast, vR b9, vR b20, .unset, .unset, .unset, .unset]) rfl ?_
      show Steps _ _ _ (T26.setTop (mkF m 82 #[vI p1, vJ q2, .second, vI p3, vI p4, vJ q5, .second, vJ q6, .second, vI 1, vI kv, vR ast, vR b9, vR b20, .unset, .unset, .unset, .unset] [])) _
      refine st27 _ ?_
      show Steps _ _ _ (T27.setTop (mkF m 85 #[vI p1, vJ q2, .second, vI p3, vI p4, vJ q5, .second, vJ q6, .second, vI 1, vI kv, vR ast, vR b9, vR b20, .unset, .unset, .unset, .unset] [iR b27])) _
      refine XS.dup X27.here hx rfl (hb hby at_85) rfl rfl ?_
      show Steps _ _ _ (T27.setTop (mkF m 86 #[vI p1, vJ q2, .second, vI p3, vI p4, vJ q5, .second, vJ q6, .second, vI 1, vI kv, vR ast, vR b9, vR b20, .unset, .unset, .unset, .unset] [iR b27, iR b27])) _
      refine st31 _ ?_
      show Steps _ _ _ (T31.setTop (mkF m 89 #[vI p1, vJ q2, .second, vI p3, vI p4, vJ q5, .second, vJ q6, .second, vI 1, vI kv, vR ast, vR b9, vR b20, .unset, .unset, .unset, .unset] [iR b31, iR b27, iR b27])) _
      refine XS.dup X31.here hx rfl (hb hby at_89) rfl rfl ?_
      show Steps _ _ _ (T31.setTop (mkF m 90 #[vI p1, vJ q2, .second, vI p3, vI p4, vJ q5, .second, vJ q6, .second, vI 1, vI kv, vR ast, vR b9, vR b20, .unset, .unset, .unset, .unset] [iR b31, iR b31, iR b27, iR b27])) _
      refine XS.aload X31.here hx rfl (hb hby at_90) rfl rfl ?_
      show Steps _ _ _ (T31.setTop (mkF m 92 #[vI p1, vJ q2, .second, vI p3, vI p4, vJ q5, .second, vJ q6, .second, vI 1, vI kv, vR ast, vR b9, vR b20, .unset, .unset, .unset, .unset] [iR b20, iR b31, iR b31, iR b27, iR b27])) _
      refine st36.trans ?_
      show Steps _ _ _ (T36.setTop (mkF m 95 #[vI p1, vJ q2, .second, vI p3, vI p4, vJ q5, .second, vJ q6, .second, vI 1, vI kv, vR ast, vR b9, vR b20, .unset, .unset, .unset, .unset] [iR b31, iR b27, iR b27])) _
      refine XS.lload X36.here hx rfl (hb hby at_95) rfl ?_
      show Steps _ _ _ (T36.setTop (mkF m 97 #[vI p1, vJ q2, .second, vI p3, vI p4, vJ q5, .second, vJ q6, .second, vI 1, vI kv, vR ast, vR b9, vR b20, .unset, .unset, .unset, .unset] [iJ q5, iR b31, iR b27, iR b27])) _
      refine XS.aconstNull X36.here hx rfl (hb hby at_97) ?_
      show Steps _ _ _ (T36.setTop (mkF m 98 #[vI p1, vJ q2, .second, vI p3, vI p4, vJ q5, .second, vJ q6, .second, vI 1, vI kv, vR ast, vR b9, vR b20, .unset, .unset, .unset, .unset] [.null, iJ q5, iR b31, iR b27, iR b27])) _
      refine XS.aload X36.here hx rfl (hb hby at_98) rfl rfl ?_
      show Steps _ _ _ (T36.setTop (mkF m 100 #[vI p1, vJ q2, .second, vI p3, vI p4, vJ q5, .second, vJ q6, .second, vI 1, vI kv, vR ast, vR b9, vR b20, .unset, .unset, .unset, .unset] [iR ast, .null, iJ q5, iR b31, iR b27, iR b27])) _
      refine XS.lloadN X36.here hx rfl (hb hby at_100) rfl ?_
      show Steps _ _ _ (T36.setTop (mkF m 101 #[vI p1, vJ q2, .second, vI p3, vI p4, vJ q5, .second, vJ q6, .second, vI 1, vI kv, vR ast, vR b9, vR b20, .unset, .unset, .unset, .unset] [iJ q2, iR ast, .null, iJ q5, iR b31, iR b27, iR b27])) _
      refine XS.iloadN X36.here hx rfl (hb hby at_101) rfl ?_
      show Steps _ _ _ (T36.setTop (mkF m 102 #[vI p1, vJ q2, .second, vI p3, vI p4, vJ q5, .second, vJ q6, .second, vI 1, vI kv, vR ast, vR b9, vR b20, .unset, .unset, .unset, .unset] [iI p3, iJ q2, iR ast, .null, iJ q5, iR b31, iR b27, iR b27])) _
      refine XS.aconstNull X36.here hx rfl (hb hby at_102) ?_
      show Steps _ _ _ (T36.setTop (mkF m 103 #[vI p1, vJ q2, .second, vI p3, vI p4, vJ q5, .second, vJ q6, .second, vI 1, vI kv, vR ast, vR b9, vR b20, .unset, .unset, .unset, .unset] [.null, iI p3, iJ q2, iR ast, .null, iJ q5, iR b31, iR b27, iR b27])) _
      refine XS.aconstNull X36.here hx rfl (hb hby at_103) ?_
      show Steps _ _ _ (T36.setTop (mkF m 104 #[vI p1, vJ q2, .second, vI p3, vI p4, vJ q5, .second, vJ q6, .second, vI 1, vI kv, vR ast, vR b9, vR b20, .unset, .unset, .unset, .unset] [.null, .null, iI p3, iJ q2, iR ast, .null, iJ q5, iR b31, iR b27, iR b27])) _
      refine XS.aload X36.here hx rfl (hb hby at_104) rfl rfl ?_
      show Steps _ _ _ (T36.setTop (mkF m 106 #[vI p1, vJ q2, .second, vI p3, vI p4, vJ q5, .second, vJ q6, .second, vI 1, vI kv, vR ast, vR b9, vR b20, .unset, .unset, .unset, .unset] [iR b9, .null, .null, iI p3, iJ q2, iR ast, .null, iJ q5, iR b31, iR b27, iR b27])) _
      refine XS.lload X36.here hx rfl (hb hby at_106) rfl ?_
      show Steps _ _ _ (T36.setTop (mkF m 108 #[vI p1, vJ q2, .second, vI p3, vI p4, vJ q5, .second, vJ q6, .second, vI 1, vI kv, vR ast, vR b9, vR b20, .unset, .unset, .unset, .unset] [iJ q6, iR b9, .null, .null, iI p3, iJ q2, iR ast, .null, iJ q5, iR b31, iR b27, iR b27])) _
      refine st43.trans ?_
      show Steps _ _ _ (T43.setTop (mkF m 111 #[vI p1, vJ q2, .second, vI p3, vI p4, vJ q5, .second, vJ q6, .second, vI 1, vI kv, vR ast, vR b9, vR b20, .unset, .unset, .unset, .unset] [iR b27])) _
      refine XS.astore X43.here hx rfl (hb hby at_111) rfl rfl (l' := #[vI p1, vJ q2, .second, vI p3, vI p4, vJ q5, .second, vJ q6, .second, vI 1, vI kv, vR ast, vR b9, vR b20, vR b27, .unset, .unset, .unset]) rfl ?_
      show Steps _ _ _ (T43.setTop (mkF m 113 #[vI p1, vJ q2, .second, vI p3, vI p4, vJ q5, .second, vJ q6, .second, vI 1, vI kv, vR ast, vR b9, vR b20, vR b27, .unset, .unset, .unset] [])) _
      refine XS.aload X43.here hx rfl (hb hby at_113) rfl rfl ?_
      show Steps _ _ _ (T43.setTop (mkF m 115 #[vI p1, vJ q2, .second, vI p3, vI p4, vJ q5, .second, vJ q6, .second, vI 1, vI kv, vR ast, vR b9, vR b20, vR b27, .unset, .unset, .unset] [iR b27])) _
      refine st55.trans ?_
      show Steps _ _ _ (T55.setTop (mkF m 118 #[vI p1, vJ q2, .second, vI p3, vI p4, vJ q5, .second, vJ q6, .second, vI 1, vI kv, vR ast, vR b9, vR b20, vR b27, .unset, .unset, .unset] [iI 1])) _
      refine XS.iload X55.here hx rfl (hb hby at_118) rfl ?_
      show Steps _ _ _ (T55.setTop (mkF m 120 #[vI p1, vJ q2, .second, vI p3, vI p4, vJ q5, .second, vJ q6, .second, vI 1, vI kv, vR ast, vR b9, vR b20, vR b27, .unset, .unset, .unset] [iI 1, iI 1])) _
      refine XS.icmpNo X55.here hx rfl (hb hby at_120) rfl (teq (by decide : (1 : Int32) = (1 : Int32))).2 ?_
      show Steps _ _ _ (T55.setTop (mkF m 123 #[vI p1, vJ q2, .second, vI p3, vI p4, vJ q5, .second, vJ q6, .second, vI 1, vI kv, vR ast, vR b9, vR b20, vR b27, .unset, .unset, .unset] [])) _
      refine XS.iconst X55.here hx rfl (hb hby at_123) ?_
      show Steps _ _ _ (T55.setTop (mkF m 124 #[vI p1, vJ q2, .second, vI p3, vI p4, vJ q5, .second, vJ q6, .second, vI 1, vI kv, vR ast, vR b9, vR b20, vR b27, .unset, .unset, .unset] [iI 1])) _
      refine XS.goto X55.here hx rfl (pc0 := 124) (pc' := 128) rfl (hb hby at_124) (by decide) (by decide) ?_
      show Steps _ _ _ (T55.setTop (mkF m 128 #[vI p1, vJ q2, .second, vI p3, vI p4, vJ q5, .second, vJ q6, .second, vI 1, vI kv, vR ast, vR b9, vR b20, vR b27, .unset, .unset, .unset] [iI 1])) _
      refine XS.istore X55.here hx rfl (hb hby at_128) rfl (l' := #[vI p1, vJ q2, .second, vI p3, vI p4, vJ q5, .second, vJ q6, .second, vI 1, vI kv, vR ast, vR b9, vR b20, vR b27, vI 1, .unset, .unset]) rfl ?_
      show Steps _ _ _ (T55.setTop (mkF m 130 #[vI p1, vJ q2, .second, vI p3, vI p4, vJ q5, .second, vJ q6, .second, vI 1, vI kv, vR ast, vR b9, vR b20, vR b27, vI 1, .unset, .unset] [])) _
      refine XS.iload X55.here hx rfl (hb hby at_130) rfl ?_
      show Steps _ _ _ (T55.setTop (mkF m 132 #[vI p1, vJ q2, .second, vI p3, vI p4, vJ q5, .second, vJ q6, .second, vI 1, vI kv, vR ast, vR b9, vR b20, vR b27, vI 1, .unset, .unset] [iI 1])) _
      refine XS.istore X55.here hx rfl (hb hby at_132) rfl (l' := #[vI p1, vJ q2, .second, vI p3, vI p4, vJ q5, .second, vJ q6, .second, vI 1, vI kv, vR ast, vR b9, vR b20, vR b27, vI 1, vI 1, .unset]) rfl ?_
      exact kt
    rcases qkv with rfl | rfl | rfl | rfl | rfl | rfl
    · obtain ⟨cq57, kq57, q57a, q57b, q57c⟩ := isOf hZ e55 E43q
      obtain ⟨_, _, ⟨T57, L57, k57, n57⟩, -, X57, ⟨Lc57, hQ57, l57, y57, z57⟩, st57⟩ := X55.virtualBack hx (y := (⟨"com/example/threefold/threefold/store/Activation", "withCounters", "(JI)Lcom/example/threefold/threefold/store/Activation;"⟩ : MethodName)) (z := (⟨"com/example/threefold/threefold/store/Activation", "withCounters", "(JI)Lcom/example/threefold/threefold/store/Activation;"⟩ : MethodName)) hown (mvT hZ (hw _ (List.mem_of_getElem? (i := 75) rfl))) (mvT hZ (hw _ (List.mem_of_getElem? (i := 76) rfl))) (notFace_of_selects (args := #[]) (mvT hZ (hw _ (List.mem_of_getElem? (i := 78) rfl)))) (mvT hZ (hw _ (List.mem_of_getElem? (i := 78) rfl))) (mvT hZ (hw _ (List.mem_of_getElem? (i := 77) rfl))) (by decide) (backOf (W := 0) (rm11_r l Z a0 hw [] b27 (q2 ^^^ (1 : Int64)) (p3 + (1 : Int32)) b31 ast q5 q2 q6 p3 b9 T43.heap n0 (Nat.le_trans Z0 K43.1) E43q F43_activationId F43_applicationId F43_userId F43_status F43_counter F43_failedAttempts F43_blockedReason F43_code F43_device F43_createdAt) hZ (hw _ (List.mem_of_getElem? (i := 79) rfl)) (hw _ (List.mem_of_getElem? (i := 11) rfl)) (by decide) (by decide)) q57a q57c (g := (mkF m 147 #[vI p1, vJ q2, .second, vI p3, vI p4, vJ q5, .second, vJ q6, .second, vI 1, vI 0, vR ast, vR b9, vR b20, vR b27, vI 1, vI 1, .unset] [iI (p3 + (1 : Int32)), iJ (q2 ^^^ (1 : Int64)), iR b27])) rfl (by rw [hml]; rfl) (Steps.refl _) (argsL := [(.long (q2 ^^^ (1 : Int64))), (.int (p3 + (1 : Int32)))]) (rest := []) (lenOf pd_11 rfl) rfl (by show 2 * 0 + _ ≤ _; exact Nat.le_of_eq rfl) (hb hby at_147) (fun _ _ => ⟨rfl, e55, (by decide : 7 + 1 ≤ _), (by decide : 21 + 10 ≤ _)⟩)
      dsimp only [Pt.U, Pt.locs, Pt.cells, Pt.slots] at X57 l57 y57 z57 st57 hQ57
      subst l57 y57 z57
      obtain ⟨o57, rfl, N57q, K57q, E57q, F57q⟩ := hQ57
      have N57 := Fr.app N43 N57q
      have K57 : Keep h0 T57.heap [] := Keep.trans K43 K57q all0
      obtain ⟨cq58, kq58, q58a, q58b, q58c⟩ := isOf hZ rfl E57q
      obtain ⟨_, _, ⟨T58, L58, k58, n58⟩, -, X58, ⟨Lc58, hQ58, l58, y58, z58⟩, st58⟩ := X57.virtualBack hx (y := (⟨"com/example/threefold/threefold/store/Activation", "hasKeys", "()Z"⟩ : MethodName)) (z := (⟨"com/example/threefold/threefold/store/Activation", "hasKeys", "()Z"⟩ : MethodName)) hown (mvT hZ (hw _ (List.mem_of_getElem? (i := 70) rfl))) (mvT hZ (hw _ (List.mem_of_getElem? (i := 71) rfl))) (notFace_of_selects (args := #[]) (mvT hZ (hw _ (List.mem_of_getElem? (i := 73) rfl)))) (mvT hZ (hw _ (List.mem_of_getElem? (i := 73) rfl))) (mvT hZ (hw _ (List.mem_of_getElem? (i := 72) rfl))) (by decide) (backOf (W := 0) (rm10_r l Z a0 hw [] o57 b9 T57.heap F57q) hZ (hw _ (List.mem_of_getElem? (i := 74) rfl)) (hw _ (List.mem_of_getElem? (i := 11) rfl)) (by decide) (by decide)) q58a q58c (g := (mkF m 256 #[vI p1, vJ q2, .second, vI p3, vI p4, vJ q5, .second, vJ q6, .second, vI 1, vI 0, vR ast, vR b9, vR b20, vR b27, vI 1, vI 1, vR o57] [iR o57])) rfl (by rw [hml]; rfl) (Steps.refl _) (argsL := []) (rest := []) (lenOf pd_10 rfl) rfl (by show 2 * 0 + _ ≤ _; exact Nat.le_of_eq rfl) (hb hby at_256) (fun _ _ => ⟨rfl, rfl, (by decide : 8 + 0 ≤ _), (by decide : 31 + 0 ≤ _)⟩)
      dsimp only [Pt.U, Pt.locs, Pt.cells, Pt.slots] at X58 l58 y58 z58 st58 hQ58
      subst l58 y58 z58
      obtain ⟨rfl, rfl, e58⟩ := hQ58
      try rw [List.append_nil] at X58
      obtain ⟨fs, hr, hrun, hended, hW, hsame⟩ := X58.leave (v := some (.int (1 : Int32))) (fun h => by rw [Bd.returns] at h; cases h)
      refine ⟨_, _, pre56 _ ?_, hrun, hended, _, _, rfl, ?_, ReturnedEndW.of_narrow ⟨_, rfl⟩ hW (hsame.mono (by decide) (by decide))⟩
      · show Steps _ _ _ (T55.setTop (mkF m 134 #[vI p1, vJ q2, .second, vI p3, vI p4, vJ q5, .second, vJ q6, .second, vI 1, vI 0, vR ast, vR b9, vR b20, vR b27, vI 1, vI 1, .unset] [])) _
        refine XS.iload X55.here hx rfl (hb hby at_134) rfl ?_
        show Steps _ _ _ (T55.setTop (mkF m 136 #[vI p1, vJ q2, .second, vI p3, vI p4, vJ q5, .second, vJ q6, .second, vI 1, vI 0, vR ast, vR b9, vR b20, vR b27, vI 1, vI 1, .unset] [iI 0])) _
        refine XS.ifNo X55.here hx rfl (hb hby at_136) rfl ((if0 _ _).trans (teq (by decide : (0 : Int32) = (0 : Int32))).2) ?_
        show Steps _ _ _ (T55.setTop (mkF m 139 #[vI p1, vJ q2, .second, vI p3, vI p4, vJ q5, .second, vJ q6, .second, vI 1, vI 0, vR ast, vR b9, vR b20, vR b27, vI 1, vI 1, .unset] [])) _
        refine XS.aload X55.here hx rfl (hb hby at_139) rfl rfl ?_
        show Steps _ _ _ (T55.setTop (mkF m 141 #[vI p1, vJ q2, .second, vI p3, vI p4, vJ q5, .second, vJ q6, .second, vI 1, vI 0, vR ast, vR b9, vR b20, vR b27, vI 1, vI 1, .unset] [iR b27])) _
        refine XS.lloadN X55.here hx rfl (hb hby at_141) rfl ?_
        show Steps _ _ _ (T55.setTop (mkF m 142 #[vI p1, vJ q2, .second, vI p3, vI p4, vJ q5, .second, vJ q6, .second, vI 1, vI 0, vR ast, vR b9, vR b20, vR b27, vI 1, vI 1, .unset] [iJ q2, iR b27])) _
        refine XS.lconst X55.here hx rfl (hb hby at_142) ?_
        show Steps _ _ _ (T55.setTop (mkF m 143 #[vI p1, vJ q2, .second, vI p3, vI p4, vJ q5, .second, vJ q6, .second, vI 1, vI 0, vR ast, vR b9, vR b20, vR b27, vI 1, vI 1, .unset] [iJ 1, iJ q2, iR b27])) _
        refine XS.lxor X55.here hx rfl (hb hby at_143) rfl ?_
        show Steps _ _ _ (T55.setTop (mkF m 144 #[vI p1, vJ q2, .second, vI p3, vI p4, vJ q5, .second, vJ q6, .second, vI 1, vI 0, vR ast, vR b9, vR b20, vR b27, vI 1, vI 1, .unset] [iJ (q2 ^^^ (1 : Int64)), iR b27])) _
        refine XS.iloadN X55.here hx rfl (hb hby at_144) rfl ?_
        show Steps _ _ _ (T55.setTop (mkF m 145 #[vI p1, vJ q2, .second, vI p3, vI p4, vJ q5, .second, vJ q6, .second, vI 1, vI 0, vR ast, vR b9, vR b20, vR b27, vI 1, vI 1, .unset] [iI p3, iJ (q2 ^^^ (1 : Int64)), iR b27])) _
        refine XS.iconst X55.here hx rfl (hb hby at_145) ?_
        show Steps _ _ _ (T55.setTop (mkF m 146 #[vI p1, vJ q2, .second, vI p3, vI p4, vJ q5, .second, vJ q6, .second, vI 1, vI 0, vR ast, vR b9, vR b20, vR b27, vI 1, vI 1, .unset] [iI 1, iI p3, iJ (q2 ^^^ (1 : Int64)), iR b27])) _
        refine XS.iadd X55.here hx rfl (hb hby at_146) rfl ?_
        show Steps _ _ _ (T55.setTop (mkF m 147 #[vI p1, vJ q2, .second, vI p3, vI p4, vJ q5, .second, vJ q6, .second, vI 1, vI 0, vR ast, vR b9, vR b20, vR b27, vI 1, vI 1, .unset] [iI (p3 + (1 : Int32)), iJ (q2 ^^^ (1 : Int64)), iR b27])) _
        refine st57.trans ?_
        show Steps _ _ _ (T57.setTop (mkF m 150 #[vI p1, vJ q2, .second, vI p3, vI p4, vJ q5, .second, vJ q6, .second, vI 1, vI 0, vR ast, vR b9, vR b20, vR b27, vI 1, vI 1, .unset] [iR o57])) _
        refine XS.astore X57.here hx rfl (hb hby at_150) rfl rfl (l' := #[vI p1, vJ q2, .second, vI p3, vI p4, vJ q5, .second, vJ q6, .second, vI 1, vI 0, vR ast, vR b9, vR b20, vR b27, vI 1, vI 1, vR o57]) rfl ?_
        show Steps _ _ _ (T57.setTop (mkF m 152 #[vI p1, vJ q2, .second, vI p3, vI p4, vJ q5, .second, vJ q6, .second, vI 1, vI 0, vR ast, vR b9, vR b20, vR b27, vI 1, vI 1, vR o57] [])) _
        refine XS.goto X57.here hx rfl (pc0 := 152) (pc' := 249) rfl (hb hby at_152) (by decide) (by decide) ?_
        show Steps _ _ _ (T57.setTop (mkF m 249 #[vI p1, vJ q2, .second, vI p3, vI p4, vJ q5, .second, vJ q6, .second, vI 1, vI 0, vR ast, vR b9, vR b20, vR b27, vI 1, vI 1, vR o57] [])) _
        refine XS.iload X57.here hx rfl (hb hby at_249) rfl ?_
        show Steps _ _ _ (T57.setTop (mkF m 251 #[vI p1, vJ q2, .second, vI p3, vI p4, vJ q5, .second, vJ q6, .second, vI 1, vI 0, vR ast, vR b9, vR b20, vR b27, vI 1, vI 1, vR o57] [iI 1])) _
        refine XS.ifNo X57.here hx rfl (hb hby at_251) rfl ((if0 _ _).trans (feq (by decide : ¬ ((1 : Int32) = (0 : Int32)))).1) ?_
        show Steps _ _ _ (T57.setTop (mkF m 254 #[vI p1, vJ q2, .second, vI p3, vI p4, vJ q5, .second, vJ q6, .second, vI 1, vI 0, vR ast, vR b9, vR b20, vR b27, vI 1, vI 1, vR o57] [])) _
        refine XS.aload X57.here hx rfl (hb hby at_254) rfl rfl ?_
        show Steps _ _ _ (T57.setTop (mkF m 256 #[vI p1, vJ q2, .second, vI p3, vI p4, vJ q5, .second, vJ q6, .second, vI 1, vI 0, vR ast, vR b9, vR b20, vR b27, vI 1, vI 1, vR o57] [iR o57])) _
        refine st58.trans ?_
        show Steps _ _ _ (T58.setTop (mkF m 259 #[vI p1, vJ q2, .second, vI p3, vI p4, vJ q5, .second, vJ q6, .second, vI 1, vI 0, vR ast, vR b9, vR b20, vR b27, vI 1, vI 1, vR o57] [iI 1])) _
        refine XS.iload X58.here hx rfl (hb hby at_259) rfl ?_
        show Steps _ _ _ (T58.setTop (mkF m 261 #[vI p1, vJ q2, .second, vI p3, vI p4, vJ q5, .second, vJ q6, .second, vI 1, vI 0, vR ast, vR b9, vR b20, vR b27, vI 1, vI 1, vR o57] [iI 1, iI 1])) _
        refine XS.icmpNo X58.here hx rfl (hb hby at_261) rfl (teq (by decide : (1 : Int32) = (1 : Int32))).2 ?_
        show Steps _ _ _ (T58.setTop (mkF m 264 #[vI p1, vJ q2, .second, vI p3, vI p4, vJ q5, .second, vJ q6, .second, vI 1, vI 0, vR ast, vR b9, vR b20, vR b27, vI 1, vI 1, vR o57] [])) _
        refine XS.iconst X58.here hx rfl (hb hby at_264) ?_
        show Steps _ _ _ (T58.setTop (mkF m 265 #[vI p1, vJ q2, .second, vI p3, vI p4, vJ q5, .second, vJ q6, .second, vI 1, vI 0, vR ast, vR b9, vR b20, vR b27, vI 1, vI 1, vR o57] [iI 1])) _
        refine XS.goto X58.here hx rfl (pc0 := 265) (pc' := 269) rfl (hb hby at_265) (by decide) (by decide) ?_
        show Steps _ _ _ (T58.setTop (mkF m 269 #[vI p1, vJ q2, .second, vI p3, vI p4, vJ q5, .second, vJ q6, .second, vI 1, vI 0, vR ast, vR b9, vR b20, vR b27, vI 1, vI 1, vR o57] [iI 1])) _
        exact retN X58 hx (t := .boolean) Bd.returns (by simp) (hb hby at_269) hr
      · show Q0 Z p1 q2 p3 p4 q5 q6 s_CREATED s_OTP_USED s_ACTIVE s_BLOCKED s_REMOVED cs h0 n0 _ T58.heap _
        rw [e58]
        exact ⟨rfl, N57⟩
    · have Oh60 := O0.keep K43 all0
      obtain ⟨cq59, kq59, q59a, q59b, q59c⟩ := isOf hZ e55 E43q
      obtain ⟨_, _, ⟨T59, L59, k59, n59⟩, -, X59, ⟨Lc59, hQ59, l59, y59, z59⟩, st59⟩ := X55.virtualBack hx (y := (⟨"com/example/threefold/threefold/store/Activation", "committed", "()Lcom/example/threefold/threefold/store/Activation;"⟩ : MethodName)) (z := (⟨"com/example/threefold/threefold/store/Activation", "committed", "()Lcom/example/threefold/threefold/store/Activation;"⟩ : MethodName)) hown (mvT hZ (hw _ (List.mem_of_getElem? (i := 128) rfl))) (mvT hZ (hw _ (List.mem_of_getElem? (i := 129) rfl))) (notFace_of_selects (args := #[]) (mvT hZ (hw _ (List.mem_of_getElem? (i := 131) rfl)))) (mvT hZ (hw _ (List.mem_of_getElem? (i := 131) rfl))) (mvT hZ (hw _ (List.mem_of_getElem? (i := 130) rfl))) (by decide) (backOf (W := 0) (rm17_r l Z a0 hw [] b27 b31 ast q5 q2 q6 p3 b9 s_CREATED s_OTP_USED s_ACTIVE s_BLOCKED s_REMOVED T43.heap n0 (Nat.le_trans Z0 K43.1) Oh60 E43q F43_activationId F43_applicationId F43_userId F43_status F43_counter F43_failedAttempts F43_blockedReason F43_code F43_device F43_createdAt S_CREATED S_OTP_USED S_ACTIVE S_BLOCKED S_REMOVED) hZ (hw _ (List.mem_of_getElem? (i := 132) rfl)) (hw _ (List.mem_of_getElem? (i := 11) rfl)) (by decide) (by decide)) q59a q59c (g := (mkF m 163 #[vI p1, vJ q2, .second, vI p3, vI p4, vJ q5, .second, vJ q6, .second, vI 1, vI 1, vR ast, vR b9, vR b20, vR b27, vI 1, vI 1, .unset] [iR b27])) rfl (by rw [hml]; rfl) (Steps.refl _) (argsL := []) (rest := []) (lenOf pd_12 rfl) rfl (by show 2 * 0 + _ ≤ _; exact Nat.le_of_eq rfl) (hb hby at_163) (fun _ _ => ⟨rfl, e55, (by decide : 7 + 1 ≤ _), (by decide : 21 + 10 ≤ _)⟩)
      dsimp only [Pt.U, Pt.locs, Pt.cells, Pt.slots] at X59 l59 y59 z59 st59 hQ59
      subst l59 y59 z59
      obtain ⟨o59, rfl, N59q, K59q, E59q, F59q⟩ := hQ59
      have N59 := Fr.app N43 N59q
      have K59 : Keep h0 T59.heap [] := Keep.trans K43 K59q all0
      obtain ⟨cq61, kq61, q61a, q61b, q61c⟩ := isOf hZ rfl E59q
      obtain ⟨_, _, ⟨T61, L61, k61, n61⟩, -, X61, ⟨Lc61, hQ61, l61, y61, z61⟩, st61⟩ := X59.virtualBack hx (y := (⟨"com/example/threefold/threefold/store/Activation", "hasKeys", "()Z"⟩ : MethodName)) (z := (⟨"com/example/threefold/threefold/store/Activation", "hasKeys", "()Z"⟩ : MethodName)) hown (mvT hZ (hw _ (List.mem_of_getElem? (i := 70) rfl))) (mvT hZ (hw _ (List.mem_of_getElem? (i := 71) rfl))) (notFace_of_selects (args := #[]) (mvT hZ (hw _ (List.mem_of_getElem? (i := 73) rfl)))) (mvT hZ (hw _ (List.mem_of_getElem? (i := 73) rfl))) (mvT hZ (hw _ (List.mem_of_getElem? (i := 72) rfl))) (by decide) (backOf (W := 0) (rm10_r l Z a0 hw [] o59 b9 T59.heap F59q) hZ (hw _ (List.mem_of_getElem? (i := 74) rfl)) (hw _ (List.mem_of_getElem? (i := 11) rfl)) (by decide) (by decide)) q61a q61c (g := (mkF m 256 #[vI p1, vJ q2, .second, vI p3, vI p4, vJ q5, .second, vJ q6, .second, vI 1, vI 1, vR ast, vR b9, vR b20, vR b27, vI 1, vI 1, vR o59] [iR o59])) rfl (by rw [hml]; rfl) (Steps.refl _) (argsL := []) (rest := []) (lenOf pd_10 rfl) rfl (by show 2 * 0 + _ ≤ _; exact Nat.le_of_eq rfl) (hb hby at_256) (fun _ _ => ⟨rfl, rfl, (by decide : 8 + 0 ≤ _), (by decide : 31 + 0 ≤ _)⟩)
      dsimp only [Pt.U, Pt.locs, Pt.cells, Pt.slots] at X61 l61 y61 z61 st61 hQ61
      subst l61 y61 z61
      obtain ⟨rfl, rfl, e61⟩ := hQ61
      try rw [List.append_nil] at X61
      obtain ⟨fs, hr, hrun, hended, hW, hsame⟩ := X61.leave (v := some (.int (1 : Int32))) (fun h => by rw [Bd.returns] at h; cases h)
      refine ⟨_, _, pre56 _ ?_, hrun, hended, _, _, rfl, ?_, ReturnedEndW.of_narrow ⟨_, rfl⟩ hW (hsame.mono (by decide) (by decide))⟩
      · show Steps _ _ _ (T55.setTop (mkF m 134 #[vI p1, vJ q2, .second, vI p3, vI p4, vJ q5, .second, vJ q6, .second, vI 1, vI 1, vR ast, vR b9, vR b20, vR b27, vI 1, vI 1, .unset] [])) _
        refine XS.iload X55.here hx rfl (hb hby at_134) rfl ?_
        show Steps _ _ _ (T55.setTop (mkF m 136 #[vI p1, vJ q2, .second, vI p3, vI p4, vJ q5, .second, vJ q6, .second, vI 1, vI 1, vR ast, vR b9, vR b20, vR b27, vI 1, vI 1, .unset] [iI 1])) _
        refine XS.ifYes X55.here hx rfl (pc0 := 136) (pc' := 155) rfl (hb hby at_136) rfl ((if0 _ _).trans (feq (by decide : ¬ ((1 : Int32) = (0 : Int32)))).2) (by decide) (by decide) ?_
        show Steps _ _ _ (T55.setTop (mkF m 155 #[vI p1, vJ q2, .second, vI p3, vI p4, vJ q5, .second, vJ q6, .second, vI 1, vI 1, vR ast, vR b9, vR b20, vR b27, vI 1, vI 1, .unset] [])) _
        refine XS.iload X55.here hx rfl (hb hby at_155) rfl ?_
        show Steps _ _ _ (T55.setTop (mkF m 157 #[vI p1, vJ q2, .second, vI p3, vI p4, vJ q5, .second, vJ q6, .second, vI 1, vI 1, vR ast, vR b9, vR b20, vR b27, vI 1, vI 1, .unset] [iI 1])) _
        refine XS.iconst X55.here hx rfl (hb hby at_157) ?_
        show Steps _ _ _ (T55.setTop (mkF m 158 #[vI p1, vJ q2, .second, vI p3, vI p4, vJ q5, .second, vJ q6, .second, vI 1, vI 1, vR ast, vR b9, vR b20, vR b27, vI 1, vI 1, .unset] [iI 1, iI 1])) _
        refine XS.icmpNo X55.here hx rfl (hb hby at_158) rfl (teq (by decide : (1 : Int32) = (1 : Int32))).2 ?_
        show Steps _ _ _ (T55.setTop (mkF m 161 #[vI p1, vJ q2, .second, vI p3, vI p4, vJ q5, .second, vJ q6, .second, vI 1, vI 1, vR ast, vR b9, vR b20, vR b27, vI 1, vI 1, .unset] [])) _
        refine XS.aload X55.here hx rfl (hb hby at_161) rfl rfl ?_
        show Steps _ _ _ (T55.setTop (mkF m 163 #[vI p1, vJ q2, .second, vI p3, vI p4, vJ q5, .second, vJ q6, .second, vI 1, vI 1, vR ast, vR b9, vR b20, vR b27, vI 1, vI 1, .unset] [iR b27])) _
        refine st59.trans ?_
        show Steps _ _ _ (T59.setTop (mkF m 166 #[vI p1, vJ q2, .second, vI p3, vI p4, vJ q5, .second, vJ q6, .second, vI 1, vI 1, vR ast, vR b9, vR b20, vR b27, vI 1, vI 1, .unset] [iR o59])) _
        refine XS.astore X59.here hx rfl (hb hby at_166) rfl rfl (l' := #[vI p1, vJ q2, .second, vI p3, vI p4, vJ q5, .second, vJ q6, .second, vI 1, vI 1, vR ast, vR b9, vR b20, vR b27, vI 1, vI 1, vR o59]) rfl ?_
        show Steps _ _ _ (T59.setTop (mkF m 168 #[vI p1, vJ q2, .second, vI p3, vI p4, vJ q5, .second, vJ q6, .second, vI 1, vI 1, vR ast, vR b9, vR b20, vR b27, vI 1, vI 1, vR o59] [])) _
        refine XS.goto X59.here hx rfl (pc0 := 168) (pc' := 249) rfl (hb hby at_168) (by decide) (by decide) ?_
        show Steps _ _ _ (T59.setTop (mkF m 249 #[vI p1, vJ q2, .second, vI p3, vI p4, vJ q5, .second, vJ q6, .second, vI 1, vI 1, vR ast, vR b9, vR b20, vR b27, vI 1, vI 1, vR o59] [])) _
        refine XS.iload X59.here hx rfl (hb hby at_249) rfl ?_
        show Steps _ _ _ (T59.setTop (mkF m 251 #[vI p1, vJ q2, .second, vI p3, vI p4, vJ q5, .second, vJ q6, .second, vI 1, vI 1, vR ast, vR b9, vR b20, vR b27, vI 1, vI 1, vR o59] [iI 1])) _
        refine XS.ifNo X59.here hx rfl (hb hby at_251) rfl ((if0 _ _).trans (feq (by decide : ¬ ((1 : Int32) = (0 : Int32)))).1) ?_
        show Steps _ _ _ (T59.setTop (mkF m 254 #[vI p1, vJ q2, .second, vI p3, vI p4, vJ q5, .second, vJ q6, .second, vI 1, vI 1, vR ast, vR b9, vR b20, vR b27, vI 1, vI 1, vR o59] [])) _
        refine XS.aload X59.here hx rfl (hb hby at_254) rfl rfl ?_
        show Steps _ _ _ (T59.setTop (mkF m 256 #[vI p1, vJ q2, .second, vI p3, vI p4, vJ q5, .second, vJ q6, .second, vI 1, vI 1, vR ast, vR b9, vR b20, vR b27, vI 1, vI 1, vR o59] [iR o59])) _
        refine st61.trans ?_
        show Steps _ _ _ (T61.setTop (mkF m 259 #[vI p1, vJ q2, .second, vI p3, vI p4, vJ q5, .second, vJ q6, .second, vI 1, vI 1, vR ast, vR b9, vR b20, vR b27, vI 1, vI 1, vR o59] [iI 1])) _
        refine XS.iload X61.here hx rfl (hb hby at_259) rfl ?_
        show Steps _ _ _ (T61.setTop (mkF m 261 #[vI p1, vJ q2, .second, vI p3, vI p4, vJ q5, .second, vJ q6, .second, vI 1, vI 1, vR ast, vR b9, vR b20, vR b27, vI 1, vI 1, vR o59] [iI 1, iI 1])) _
        refine XS.icmpNo X61.here hx rfl (hb hby at_261) rfl (teq (by decide : (1 : Int32) = (1 : Int32))).2 ?_
        show Steps _ _ _ (T61.setTop (mkF m 264 #[vI p1, vJ q2, .second, vI p3, vI p4, vJ q5, .second, vJ q6, .second, vI 1, vI 1, vR ast, vR b9, vR b20, vR b27, vI 1, vI 1, vR o59] [])) _
        refine XS.iconst X61.here hx rfl (hb hby at_264) ?_
        show Steps _ _ _ (T61.setTop (mkF m 265 #[vI p1, vJ q2, .second, vI p3, vI p4, vJ q5, .second, vJ q6, .second, vI 1, vI 1, vR ast, vR b9, vR b20, vR b27, vI 1, vI 1, vR o59] [iI 1])) _
        refine XS.goto X61.here hx rfl (pc0 := 265) (pc' := 269) rfl (hb hby at_265) (by decide) (by decide) ?_
        show Steps _ _ _ (T61.setTop (mkF m 269 #[vI p1, vJ q2, .second, vI p3, vI p4, vJ q5, .second, vJ q6, .second, vI 1, vI 1, vR ast, vR b9, vR b20, vR b27, vI 1, vI 1, vR o59] [iI 1])) _
        exact retN X61 hx (t := .boolean) Bd.returns (by simp) (hb hby at_269) hr
      · show Q0 Z p1 q2 p3 p4 q5 q6 s_CREATED s_OTP_USED s_ACTIVE s_BLOCKED s_REMOVED cs h0 n0 _ T61.heap _
        rw [e61]
        exact ⟨rfl, N59⟩
    · obtain ⟨la62, T62, h62, kk62, X62, e62, E62, hS62, hk62, hZ, hown, st62⟩ := ldcS (s := s) (vm0 := s.vm) X55 hx hZ hown (hw _ (List.mem_of_getElem? (i := 134) rfl)) (own_strAtoms hw) e55 ((State.WarmedH.refl s).since 0) (Nat.zero_le _) (g := (mkF m 179 #[vI p1, vJ q2, .second, vI p3, vI p4, vJ q5, .second, vJ q6, .second, vI 1, vI 2, vR ast, vR b9, vR b20, vR b27, vI 1, vI 1, .unset] [iR b27])) rfl (hb hby at_179) (n := 4) (by decide) (by decide) (by decide) (by decide)
      have K62 : Keep h0 h62 [] := K43.ext E62
      have fk64 := (E43q.ext E62)
      have fk65 := (F43_activationId.ext E62)
      have fk66 := (F43_applicationId.ext E62)
      have fk67 := (F43_userId.ext E62)
      have fk68 := (F43_status.ext E62)
      have fk69 := (F43_counter.ext E62)
      have fk70 := (F43_failedAttempts.ext E62)
      have fk71 := (F43_blockedReason.ext E62)
      have fk72 := (F43_code.ext E62)
      have fk73 := (F43_device.ext E62)
      have fk74 := (F43_createdAt.ext E62)
      have Oh75 := O0.keep K62 all0
      obtain ⟨cq63, kq63, q63a, q63b, q63c⟩ := isOf hZ e62 fk64
      obtain ⟨_, _, ⟨T63, L63, k63, n63⟩, -, X63, ⟨Lc63, hQ63, l63, y63, z63⟩, st63⟩ := X62.virtualBack hx (y := (⟨"com/example/threefold/threefold/store/Activation", "blocked", "(Ljava/lang/String;)Lcom/example/threefold/threefold/store/Activation;"⟩ : MethodName)) (z := (⟨"com/example/threefold/threefold/store/Activation", "blocked", "(Ljava/lang/String;)Lcom/example/threefold/threefold/store/Activation;"⟩ : MethodName)) hown (mvT hZ (hw _ (List.mem_of_getElem? (i := 137) rfl))) (mvT hZ (hw _ (List.mem_of_getElem? (i := 138) rfl))) (notFace_of_selects (args := #[]) (mvT hZ (hw _ (List.mem_of_getElem? (i := 140) rfl)))) (mvT hZ (hw _ (List.mem_of_getElem? (i := 140) rfl))) (mvT hZ (hw _ (List.mem_of_getElem? (i := 139) rfl))) (by decide) (backOf (W := 0) (rm18_r l Z a0 hw [] b27 la62 b31 ast q5 q2 q6 p3 b9 s_CREATED s_OTP_USED s_ACTIVE s_BLOCKED s_REMOVED h62 n0 (Nat.le_trans Z0 K62.1) Oh75 fk64 fk65 fk66 fk67 fk68 fk69 fk70 fk71 fk72 fk73 fk74 S_CREATED S_OTP_USED S_ACTIVE S_BLOCKED S_REMOVED) hZ (hw _ (List.mem_of_getElem? (i := 141) rfl)) (hw _ (List.mem_of_getElem? (i := 11) rfl)) (by decide) (by decide)) q63a q63c (g := (mkF m 181 #[vI p1, vJ q2, .second, vI p3, vI p4, vJ q5, .second, vJ q6, .second, vI 1, vI 2, vR ast, vR b9, vR b20, vR b27, vI 1, vI 1, .unset] [iR la62, iR b27])) rfl (by rw [hml]; rfl) (Steps.refl _) (argsL := [(.ref la62)]) (rest := []) (lenOf pd_13 rfl) rfl (by show 2 * 0 + _ ≤ _; exact Nat.le_of_eq rfl) (hb hby at_181) (fun _ _ => ⟨rfl, e62, (by decide : 9 + 1 ≤ _), (by decide : 29 + 10 ≤ _)⟩)
      dsimp only [Pt.U, Pt.locs, Pt.cells, Pt.slots] at X63 l63 y63 z63 st63 hQ63
      subst l63 y63 z63
      obtain ⟨o63, rfl, N63q, K63q, E63q, F63q⟩ := hQ63
      have N63 := Fr.app N43 N63q
      have K63 : Keep h0 T63.heap [] := Keep.trans K62 K63q all0
      obtain ⟨cq76, kq76, q76a, q76b, q76c⟩ := isOf hZ rfl E63q
      obtain ⟨_, _, ⟨T76, L76, k76, n76⟩, -, X76, ⟨Lc76, hQ76, l76, y76, z76⟩, st76⟩ := X63.virtualBack hx (y := (⟨"com/example/threefold/threefold/store/Activation", "hasKeys", "()Z"⟩ : MethodName)) (z := (⟨"com/example/threefold/threefold/store/Activation", "hasKeys", "()Z"⟩ : MethodName)) hown (mvT hZ (hw _ (List.mem_of_getElem? (i := 70) rfl))) (mvT hZ (hw _ (List.mem_of_getElem? (i := 71) rfl))) (notFace_of_selects (args := #[]) (mvT hZ (hw _ (List.mem_of_getElem? (i := 73) rfl)))) (mvT hZ (hw _ (List.mem_of_getElem? (i := 73) rfl))) (mvT hZ (hw _ (List.mem_of_getElem? (i := 72) rfl))) (by decide) (backOf (W := 0) (rm10_r l Z a0 hw [] o63 b9 T63.heap F63q) hZ (hw _ (List.mem_of_getElem? (i := 74) rfl)) (hw _ (List.mem_of_getElem? (i := 11) rfl)) (by decide) (by decide)) q76a q76c (g := (mkF m 256 #[vI p1, vJ q2, .second, vI p3, vI p4, vJ q5, .second, vJ q6, .second, vI 1, vI 2, vR ast, vR b9, vR b20, vR b27, vI 1, vI 1, vR o63] [iR o63])) rfl (by rw [hml]; rfl) (Steps.refl _) (argsL := []) (rest := []) (lenOf pd_10 rfl) rfl (by show 2 * 0 + _ ≤ _; exact Nat.le_of_eq rfl) (hb hby at_256) (fun _ _ => ⟨rfl, rfl, (by decide : 10 + 0 ≤ _), (by decide : 39 + 0 ≤ _)⟩)
      dsimp only [Pt.U, Pt.locs, Pt.cells, Pt.slots] at X76 l76 y76 z76 st76 hQ76
      subst l76 y76 z76
      obtain ⟨rfl, rfl, e76⟩ := hQ76
      try rw [List.append_nil] at X76
      obtain ⟨fs, hr, hrun, hended, hEnd⟩ := X76.leaveW hS62 (by rw [e76]; exact (Nat.le_trans hk62 K63q.1)) (v := some (.int (1 : Int32))) (fun h => by rw [Bd.returns] at h; cases h)
      refine ⟨_, _, pre56 _ ?_, hrun, hended, _, _, rfl, ?_, ⟨hEnd.1, hEnd.2.1, hEnd.2.2.1, hEnd.2.2.2.mono (by decide) (by decide)⟩⟩
      · show Steps _ _ _ (T55.setTop (mkF m 134 #[vI p1, vJ q2, .second, vI p3, vI p4, vJ q5, .second, vJ q6, .second, vI 1, vI 2, vR ast, vR b9, vR b20, vR b27, vI 1, vI 1, .unset] [])) _
        refine XS.iload X55.here hx rfl (hb hby at_134) rfl ?_
        show Steps _ _ _ (T55.setTop (mkF m 136 #[vI p1, vJ q2, .second, vI p3, vI p4, vJ q5, .second, vJ q6, .second, vI 1, vI 2, vR ast, vR b9, vR b20, vR b27, vI 1, vI 1, .unset] [iI 2])) _
        refine XS.ifYes X55.here hx rfl (pc0 := 136) (pc' := 155) rfl (hb hby at_136) rfl ((if0 _ _).trans (feq (by decide : ¬ ((2 : Int32) = (0 : Int32)))).2) (by decide) (by decide) ?_
        show Steps _ _ _ (T55.setTop (mkF m 155 #[vI p1, vJ q2, .second, vI p3, vI p4, vJ q5, .second, vJ q6, .second, vI 1, vI 2, vR ast, vR b9, vR b20, vR b27, vI 1, vI 1, .unset] [])) _
        refine XS.iload X55.here hx rfl (hb hby at_155) rfl ?_
        show Steps _ _ _ (T55.setTop (mkF m 157 #[vI p1, vJ q2, .second, vI p3, vI p4, vJ q5, .second, vJ q6, .second, vI 1, vI 2, vR ast, vR b9, vR b20, vR b27, vI 1, vI 1, .unset] [iI 2])) _
        refine XS.iconst X55.here hx rfl (hb hby at_157) ?_
        show Steps _ _ _ (T55.setTop (mkF m 158 #[vI p1, vJ q2, .second, vI p3, vI p4, vJ q5, .second, vJ q6, .second, vI 1, vI 2, vR ast, vR b9, vR b20, vR b27, vI 1, vI 1, .unset] [iI 1, iI 2])) _
        refine XS.icmpYes X55.here hx rfl (pc0 := 158) (pc' := 171) rfl (hb hby at_158) rfl (feq (by decide : ¬ ((2 : Int32) = (1 : Int32)))).2 (by decide) (by decide) ?_
        show Steps _ _ _ (T55.setTop (mkF m 171 #[vI p1, vJ q2, .second, vI p3, vI p4, vJ q5, .second, vJ q6, .second, vI 1, vI 2, vR ast, vR b9, vR b20, vR b27, vI 1, vI 1, .unset] [])) _
        refine XS.iload X55.here hx rfl (hb hby at_171) rfl ?_
        show Steps _ _ _ (T55.setTop (mkF m 173 #[vI p1, vJ q2, .second, vI p3, vI p4, vJ q5, .second, vJ q6, .second, vI 1, vI 2, vR ast, vR b9, vR b20, vR b27, vI 1, vI 1, .unset] [iI 2])) _
        refine XS.iconst X55.here hx rfl (hb hby at_173) ?_
        show Steps _ _ _ (T55.setTop (mkF m 174 #[vI p1, vJ q2, .second, vI p3, vI p4, vJ q5, .second, vJ q6, .second, vI 1, vI 2, vR ast, vR b9, vR b20, vR b27, vI 1, vI 1, .unset] [iI 2, iI 2])) _
        refine XS.icmpNo X55.here hx rfl (hb hby at_174) rfl (teq (by decide : (2 : Int32) = (2 : Int32))).2 ?_
        show Steps _ _ _ (T55.setTop (mkF m 177 #[vI p1, vJ q2, .second, vI p3, vI p4, vJ q5, .second, vJ q6, .second, vI 1, vI 2, vR ast, vR b9, vR b20, vR b27, vI 1, vI 1, .unset] [])) _
        refine XS.aload X55.here hx rfl (hb hby at_177) rfl rfl ?_
        show Steps _ _ _ (T55.setTop (mkF m 179 #[vI p1, vJ q2, .second, vI p3, vI p4, vJ q5, .second, vJ q6, .second, vI 1, vI 2, vR ast, vR b9, vR b20, vR b27, vI 1, vI 1, .unset] [iR b27])) _
        refine st62 _ ?_
        show Steps _ _ _ (T62.setTop (mkF m 181 #[vI p1, vJ q2, .second, vI p3, vI p4, vJ q5, .second, vJ q6, .second, vI 1, vI 2, vR ast, vR b9, vR b20, vR b27, vI 1, vI 1, .unset] [iR la62, iR b27])) _
        refine st63.trans ?_
        show Steps _ _ _ (T63.setTop (mkF m 184 #[vI p1, vJ q2, .second, vI p3, vI p4, vJ q5, .second, vJ q6, .second, vI 1, vI 2, vR ast, vR b9, vR b20, vR b27, vI 1, vI 1, .unset] [iR o63])) _
        refine XS.astore X63.here hx rfl (hb hby at_184) rfl rfl (l' := #[vI p1, vJ q2, .second, vI p3, vI p4, vJ q5, .second, vJ q6, .second, vI 1, vI 2, vR ast, vR b9, vR b20, vR b27, vI 1, vI 1, vR o63]) rfl ?_
        show Steps _ _ _ (T63.setTop (mkF m 186 #[vI p1, vJ q2, .second, vI p3, vI p4, vJ q5, .second, vJ q6, .second, vI 1, vI 2, vR ast, vR b9, vR b20, vR b27, vI 1, vI 1, vR o63] [])) _
        refine XS.goto X63.here hx rfl (pc0 := 186) (pc' := 249) rfl (hb hby at_186) (by decide) (by decide) ?_
        show Steps _ _ _ (T63.setTop (mkF m 249 #[vI p1, vJ q2, .second, vI p3, vI p4, vJ q5, .second, vJ q6, .second, vI 1, vI 2, vR ast, vR b9, vR b20, vR b27, vI 1, vI 1, vR o63] [])) _
        refine XS.iload X63.here hx rfl (hb hby at_249) rfl ?_
        show Steps _ _ _ (T63.setTop (mkF m 251 #[vI p1, vJ q2, .second, vI p3, vI p4, vJ q5, .second, vJ q6, .second, vI 1, vI 2, vR ast, vR b9, vR b20, vR b27, vI 1, vI 1, vR o63] [iI 1])) _
        refine XS.ifNo X63.here hx rfl (hb hby at_251) rfl ((if0 _ _).trans (feq (by decide : ¬ ((1 : Int32) = (0 : Int32)))).1) ?_
        show Steps _ _ _ (T63.setTop (mkF m 254 #[vI p1, vJ q2, .second, vI p3, vI p4, vJ q5, .second, vJ q6, .second, vI 1, vI 2, vR ast, vR b9, vR b20, vR b27, vI 1, vI 1, vR o63] [])) _
        refine XS.aload X63.here hx rfl (hb hby at_254) rfl rfl ?_
        show Steps _ _ _ (T63.setTop (mkF m 256 #[vI p1, vJ q2, .second, vI p3, vI p4, vJ q5, .second, vJ q6, .second, vI 1, vI 2, vR ast, vR b9, vR b20, vR b27, vI 1, vI 1, vR o63] [iR o63])) _
        refine st76.trans ?_
        show Steps _ _ _ (T76.setTop (mkF m 259 #[vI p1, vJ q2, .second, vI p3, vI p4, vJ q5, .second, vJ q6, .second, vI 1, vI 2, vR ast, vR b9, vR b20, vR b27, vI 1, vI 1, vR o63] [iI 1])) _
        refine XS.iload X76.here hx rfl (hb hby at_259) rfl ?_
        show Steps _ _ _ (T76.setTop (mkF m 261 #[vI p1, vJ q2, .second, vI p3, vI p4, vJ q5, .second, vJ q6, .second, vI 1, vI 2, vR ast, vR b9, vR b20, vR b27, vI 1, vI 1, vR o63] [iI 1, iI 1])) _
        refine XS.icmpNo X76.here hx rfl (hb hby at_261) rfl (teq (by decide : (1 : Int32) = (1 : Int32))).2 ?_
        show Steps _ _ _ (T76.setTop (mkF m 264 #[vI p1, vJ q2, .second, vI p3, vI p4, vJ q5, .second, vJ q6, .second, vI 1, vI 2, vR ast, vR b9, vR b20, vR b27, vI 1, vI 1, vR o63] [])) _
        refine XS.iconst X76.here hx rfl (hb hby at_264) ?_
        show Steps _ _ _ (T76.setTop (mkF m 265 #[vI p1, vJ q2, .second, vI p3, vI p4, vJ q5, .second, vJ q6, .second, vI 1, vI 2, vR ast, vR b9, vR b20, vR b27, vI 1, vI 1, vR o63] [iI 1])) _
        refine XS.goto X76.here hx rfl (pc0 := 265) (pc' := 269) rfl (hb hby at_265) (by decide) (by decide) ?_
        show Steps _ _ _ (T76.setTop (mkF m 269 #[vI p1, vJ q2, .second, vI p3, vI p4, vJ q5, .second, vJ q6, .second, vI 1, vI 2, vR ast, vR b9, vR b20, vR b27, vI 1, vI 1, vR o63] [iI 1])) _
        exact retN X76 hx (t := .boolean) Bd.returns (by simp) (hb hby at_269) hr
      · show Q0 Z p1 q2 p3 p4 q5 q6 s_CREATED s_OTP_USED s_ACTIVE s_BLOCKED s_REMOVED cs h0 n0 _ T76.heap _
        rw [e76]
        exact ⟨rfl, N63⟩
    · have Oh78 := O0.keep K43 all0
      obtain ⟨cq77, kq77, q77a, q77b, q77c⟩ := isOf hZ e55 E43q
      obtain ⟨_, _, ⟨T77, L77, k77, n77⟩, -, X77, ⟨Lc77, hQ77, l77, y77, z77⟩, st77⟩ := X55.virtualBack hx (y := (⟨"com/example/threefold/threefold/store/Activation", "unblocked", "()Lcom/example/threefold/threefold/store/Activation;"⟩ : MethodName)) (z := (⟨"com/example/threefold/threefold/store/Activation", "unblocked", "()Lcom/example/threefold/threefold/store/Activation;"⟩ : MethodName)) hown (mvT hZ (hw _ (List.mem_of_getElem? (i := 114) rfl))) (mvT hZ (hw _ (List.mem_of_getElem? (i := 115) rfl))) (notFace_of_selects (args := #[]) (mvT hZ (hw _ (List.mem_of_getElem? (i := 117) rfl)))) (mvT hZ (hw _ (List.mem_of_getElem? (i := 117) rfl))) (mvT hZ (hw _ (List.mem_of_getElem? (i := 116) rfl))) (by decide) (backOf (W := 0) (rm15_r l Z a0 hw [] b27 b31 ast q5 q2 q6 p3 b9 s_CREATED s_OTP_USED s_ACTIVE s_BLOCKED s_REMOVED T43.heap n0 (Nat.le_trans Z0 K43.1) Oh78 E43q F43_activationId F43_applicationId F43_userId F43_status F43_counter F43_failedAttempts F43_blockedReason F43_code F43_device F43_createdAt S_CREATED S_OTP_USED S_ACTIVE S_BLOCKED S_REMOVED) hZ (hw _ (List.mem_of_getElem? (i := 118) rfl)) (hw _ (List.mem_of_getElem? (i := 11) rfl)) (by decide) (by decide)) q77a q77c (g := (mkF m 197 #[vI p1, vJ q2, .second, vI p3, vI p4, vJ q5, .second, vJ q6, .second, vI 1, vI 3, vR ast, vR b9, vR b20, vR b27, vI 1, vI 1, .unset] [iR b27])) rfl (by rw [hml]; rfl) (Steps.refl _) (argsL := []) (rest := []) (lenOf pd_12 rfl) rfl (by show 2 * 0 + _ ≤ _; exact Nat.le_of_eq rfl) (hb hby at_197) (fun _ _ => ⟨rfl, e55, (by decide : 7 + 1 ≤ _), (by decide : 21 + 10 ≤ _)⟩)
      dsimp only [Pt.U, Pt.locs, Pt.cells, Pt.slots] at X77 l77 y77 z77 st77 hQ77
      subst l77 y77 z77
      obtain ⟨o77, rfl, N77q, K77q, E77q, F77q⟩ := hQ77
      have N77 := Fr.app N43 N77q
      have K77 : Keep h0 T77.heap [] := Keep.trans K43 K77q all0
      obtain ⟨cq79, kq79, q79a, q79b, q79c⟩ := isOf hZ rfl E77q
      obtain ⟨_, _, ⟨T79, L79, k79, n79⟩, -, X79, ⟨Lc79, hQ79, l79, y79, z79⟩, st79⟩ := X77.virtualBack hx (y := (⟨"com/example/threefold/threefold/store/Activation", "hasKeys", "()Z"⟩ : MethodName)) (z := (⟨"com/example/threefold/threefold/store/Activation", "hasKeys", "()Z"⟩ : MethodName)) hown (mvT hZ (hw _ (List.mem_of_getElem? (i := 70) rfl))) (mvT hZ (hw _ (List.mem_of_getElem? (i := 71) rfl))) (notFace_of_selects (args := #[]) (mvT hZ (hw _ (List.mem_of_getElem? (i := 73) rfl)))) (mvT hZ (hw _ (List.mem_of_getElem? (i := 73) rfl))) (mvT hZ (hw _ (List.mem_of_getElem? (i := 72) rfl))) (by decide) (backOf (W := 0) (rm10_r l Z a0 hw [] o77 b9 T77.heap F77q) hZ (hw _ (List.mem_of_getElem? (i := 74) rfl)) (hw _ (List.mem_of_getElem? (i := 11) rfl)) (by decide) (by decide)) q79a q79c (g := (mkF m 256 #[vI p1, vJ q2, .second, vI p3, vI p4, vJ q5, .second, vJ q6, .second, vI 1, vI 3, vR ast, vR b9, vR b20, vR b27, vI 1, vI 1, vR o77] [iR o77])) rfl (by rw [hml]; rfl) (Steps.refl _) (argsL := []) (rest := []) (lenOf pd_10 rfl) rfl (by show 2 * 0 + _ ≤ _; exact Nat.le_of_eq rfl) (hb hby at_256) (fun _ _ => ⟨rfl, rfl, (by decide : 8 + 0 ≤ _), (by decide : 31 + 0 ≤ _)⟩)
      dsimp only [Pt.U, Pt.locs, Pt.cells, Pt.slots] at X79 l79 y79 z79 st79 hQ79
      subst l79 y79 z79
      obtain ⟨rfl, rfl, e79⟩ := hQ79
      try rw [List.append_nil] at X79
      obtain ⟨fs, hr, hrun, hended, hW, hsame⟩ := X79.leave (v := some (.int (1 : Int32))) (fun h => by rw [Bd.returns] at h; cases h)
      refine ⟨_, _, pre56 _ ?_, hrun, hended, _, _, rfl, ?_, ReturnedEndW.of_narrow ⟨_, rfl⟩ hW (hsame.mono (by decide) (by decide))⟩
      · show Steps _ _ _ (T55.setTop (mkF m 134 #[vI p1, vJ q2, .second, vI p3, vI p4, vJ q5, .second, vJ q6, .second, vI 1, vI 3, vR ast, vR b9, vR b20, vR b27, vI 1, vI 1, .unset] [])) _
        refine XS.iload X55.here hx rfl (hb hby at_134) rfl ?_
        show Steps _ _ _ (T55.setTop (mkF m 136 #[vI p1, vJ q2, .second, vI p3, vI p4, vJ q5, .second, vJ q6, .second, vI 1, vI 3, vR ast, vR b9, vR b20, vR b27, vI 1, vI 1, .unset] [iI 3])) _
        refine XS.ifYes X55.here hx rfl (pc0 := 136) (pc' := 155) rfl (hb hby at_136) rfl ((if0 _ _).trans (feq (by decide : ¬ ((3 : Int32) = (0 : Int32)))).2) (by decide) (by decide) ?_
        show Steps _ _ _ (T55.setTop (mkF m 155 #[vI p1, vJ q2, .second, vI p3, vI p4, vJ q5, .second, vJ q6, .second, vI 1, vI 3, vR ast, vR b9, vR b20, vR b27, vI 1, vI 1, .unset] [])) _
        refine XS.iload X55.here hx rfl (hb hby at_155) rfl ?_
        show Steps _ _ _ (T55.setTop (mkF m 157 #[vI p1, vJ q2, .second, vI p3, vI p4, vJ q5, .second, vJ q6, .second, vI 1, vI 3, vR ast, vR b9, vR b20, vR b27, vI 1, vI 1, .unset] [iI 3])) _
        refine XS.iconst X55.here hx rfl (hb hby at_157) ?_
        show Steps _ _ _ (T55.setTop (mkF m 158 #[vI p1, vJ q2, .second, vI p3, vI p4, vJ q5, .second, vJ q6, .second, vI 1, vI 3, vR ast, vR b9, vR b20, vR b27, vI 1, vI 1, .unset] [iI 1, iI 3])) _
        refine XS.icmpYes X55.here hx rfl (pc0 := 158) (pc' := 171) rfl (hb hby at_158) rfl (feq (by decide : ¬ ((3 : Int32) = (1 : Int32)))).2 (by decide) (by decide) ?_
        show Steps _ _ _ (T55.setTop (mkF m 171 #[vI p1, vJ q2, .second, vI p3, vI p4, vJ q5, .second, vJ q6, .second, vI 1, vI 3, vR ast, vR b9, vR b20, vR b27, vI 1, vI 1, .unset] [])) _
        refine XS.iload X55.here hx rfl (hb hby at_171) rfl ?_
        show Steps _ _ _ (T55.setTop (mkF m 173 #[vI p1, vJ q2, .second, vI p3, vI p4, vJ q5, .second, vJ q6, .second, vI 1, vI 3, vR ast, vR b9, vR b20, vR b27, vI 1, vI 1, .unset] [iI 3])) _
        refine XS.iconst X55.here hx rfl (hb hby at_173) ?_
        show Steps _ _ _ (T55.setTop (mkF m 174 #[vI p1, vJ q2, .second, vI p3, vI p4, vJ q5, .second, vJ q6, .second, vI 1, vI 3, vR ast, vR b9, vR b20, vR b27, vI 1, vI 1, .unset] [iI 2, iI 3])) _
        refine XS.icmpYes X55.here hx rfl (pc0 := 174) (pc' := 189) rfl (hb hby at_174) rfl (feq (by decide : ¬ ((3 : Int32) = (2 : Int32)))).2 (by decide) (by decide) ?_
        show Steps _ _ _ (T55.setTop (mkF m 189 #[vI p1, vJ q2, .second, vI p3, vI p4, vJ q5, .second, vJ q6, .second, vI 1, vI 3, vR ast, vR b9, vR b20, vR b27, vI 1, vI 1, .unset] [])) _
        refine XS.iload X55.here hx rfl (hb hby at_189) rfl ?_
        show Steps _ _ _ (T55.setTop (mkF m 191 #[vI p1, vJ q2, .second, vI p3, vI p4, vJ q5, .second, vJ q6, .second, vI 1, vI 3, vR ast, vR b9, vR b20, vR b27, vI 1, vI 1, .unset] [iI 3])) _
        refine XS.iconst X55.here hx rfl (hb hby at_191) ?_
        show Steps _ _ _ (T55.setTop (mkF m 192 #[vI p1, vJ q2, .second, vI p3, vI p4, vJ q5, .second, vJ q6, .second, vI 1, vI 3, vR ast, vR b9, vR b20, vR b27, vI 1, vI 1, .unset] [iI 3, iI 3])) _
        refine XS.icmpNo X55.here hx rfl (hb hby at_192) rfl (teq (by decide : (3 : Int32) = (3 : Int32))).2 ?_
        show Steps _ _ _ (T55.setTop (mkF m 195 #[vI p1, vJ q2, .second, vI p3, vI p4, vJ q5, .second, vJ q6, .second, vI 1, vI 3, vR ast, vR b9, vR b20, vR b27, vI 1, vI 1, .unset] [])) _
        refine XS.aload X55.here hx rfl (hb hby at_195) rfl rfl ?_
        show Steps _ _ _ (T55.setTop (mkF m 197 #[vI p1, vJ q2, .second, vI p3, vI p4, vJ q5, .second, vJ q6, .second, vI 1, vI 3, vR ast, vR b9, vR b20, vR b27, vI 1, vI 1, .unset] [iR b27])) _
        refine st77.trans ?_
        show Steps _ _ _ (T77.setTop (mkF m 200 #[vI p1, vJ q2, .second, vI p3, vI p4, vJ q5, .second, vJ q6, .second, vI 1, vI 3, vR ast, vR b9, vR b20, vR b27, vI 1, vI 1, .unset] [iR o77])) _
        refine XS.astore X77.here hx rfl (hb hby at_200) rfl rfl (l' := #[vI p1, vJ q2, .second, vI p3, vI p4, vJ q5, .second, vJ q6, .second, vI 1, vI 3, vR ast, vR b9, vR b20, vR b27, vI 1, vI 1, vR o77]) rfl ?_
        show Steps _ _ _ (T77.setTop (mkF m 202 #[vI p1, vJ q2, .second, vI p3, vI p4, vJ q5, .second, vJ q6, .second, vI 1, vI 3, vR ast, vR b9, vR b20, vR b27, vI 1, vI 1, vR o77] [])) _
        refine XS.goto X77.here hx rfl (pc0 := 202) (pc' := 249) rfl (hb hby at_202) (by decide) (by decide) ?_
        show Steps _ _ _ (T77.setTop (mkF m 249 #[vI p1, vJ q2, .second, vI p3, vI p4, vJ q5, .second, vJ q6, .second, vI 1, vI 3, vR ast, vR b9, vR b20, vR b27, vI 1, vI 1, vR o77] [])) _
        refine XS.iload X77.here hx rfl (hb hby at_249) rfl ?_
        show Steps _ _ _ (T77.setTop (mkF m 251 #[vI p1, vJ q2, .second, vI p3, vI p4, vJ q5, .second, vJ q6, .second, vI 1, vI 3, vR ast, vR b9, vR b20, vR b27, vI 1, vI 1, vR o77] [iI 1])) _
        refine XS.ifNo X77.here hx rfl (hb hby at_251) rfl ((if0 _ _).trans (feq (by decide : ¬ ((1 : Int32) = (0 : Int32)))).1) ?_
        show Steps _ _ _ (T77.setTop (mkF m 254 #[vI p1, vJ q2, .second, vI p3, vI p4, vJ q5, .second, vJ q6, .second, vI 1, vI 3, vR ast, vR b9, vR b20, vR b27, vI 1, vI 1, vR o77] [])) _
        refine XS.aload X77.here hx rfl (hb hby at_254) rfl rfl ?_
        show Steps _ _ _ (T77.setTop (mkF m 256 #[vI p1, vJ q2, .second, vI p3, vI p4, vJ q5, .second, vJ q6, .second, vI 1, vI 3, vR ast, vR b9, vR b20, vR b27, vI 1, vI 1, vR o77] [iR o77])) _
        refine st79.trans ?_
        show Steps _ _ _ (T79.setTop (mkF m 259 #[vI p1, vJ q2, .second, vI p3, vI p4, vJ q5, .second, vJ q6, .second, vI 1, vI 3, vR ast, vR b9, vR b20, vR b27, vI 1, vI 1, vR o77] [iI 1])) _
        refine XS.iload X79.here hx rfl (hb hby at_259) rfl ?_
        show Steps _ _ _ (T79.setTop (mkF m 261 #[vI p1, vJ q2, .second, vI p3, vI p4, vJ q5, .second, vJ q6, .second, vI 1, vI 3, vR ast, vR b9, vR b20, vR b27, vI 1, vI 1, vR o77] [iI 1, iI 1])) _
        refine XS.icmpNo X79.here hx rfl (hb hby at_261) rfl (teq (by decide : (1 : Int32) = (1 : Int32))).2 ?_
        show Steps _ _ _ (T79.setTop (mkF m 264 #[vI p1, vJ q2, .second, vI p3, vI p4, vJ q5, .second, vJ q6, .second, vI 1, vI 3, vR ast, vR b9, vR b20, vR b27, vI 1, vI 1, vR o77] [])) _
        refine XS.iconst X79.here hx rfl (hb hby at_264) ?_
        show Steps _ _ _ (T79.setTop (mkF m 265 #[vI p1, vJ q2, .second, vI p3, vI p4, vJ q5, .second, vJ q6, .second, vI 1, vI 3, vR ast, vR b9, vR b20, vR b27, vI 1, vI 1, vR o77] [iI 1])) _
        refine XS.goto X79.here hx rfl (pc0 := 265) (pc' := 269) rfl (hb hby at_265) (by decide) (by decide) ?_
        show Steps _ _ _ (T79.setTop (mkF m 269 #[vI p1, vJ q2, .second, vI p3, vI p4, vJ q5, .second, vJ q6, .second, vI 1, vI 3, vR ast, vR b9, vR b20, vR b27, vI 1, vI 1, vR o77] [iI 1])) _
        exact retN X79 hx (t := .boolean) Bd.returns (by simp) (hb hby at_269) hr
      · show Q0 Z p1 q2 p3 p4 q5 q6 s_CREATED s_OTP_USED s_ACTIVE s_BLOCKED s_REMOVED cs h0 n0 _ T79.heap _
        rw [e79]
        exact ⟨rfl, N77⟩
    · have Oh81 := O0.keep K43 all0
      obtain ⟨cq80, kq80, q80a, q80b, q80c⟩ := isOf hZ e55 E43q
      obtain ⟨_, _, ⟨T80, L80, k80, n80⟩, -, X80, ⟨Lc80, hQ80, l80, y80, z80⟩, st80⟩ := X55.virtualBack hx (y := (⟨"com/example/threefold/threefold/store/Activation", "removed", "()Lcom/example/threefold/threefold/store/Activation;"⟩ : MethodName)) (z := (⟨"com/example/threefold/threefold/store/Activation", "removed", "()Lcom/example/threefold/threefold/store/Activation;"⟩ : MethodName)) hown (mvT hZ (hw _ (List.mem_of_getElem? (i := 101) rfl))) (mvT hZ (hw _ (List.mem_of_getElem? (i := 102) rfl))) (notFace_of_selects (args := #[]) (mvT hZ (hw _ (List.mem_of_getElem? (i := 104) rfl)))) (mvT hZ (hw _ (List.mem_of_getElem? (i := 104) rfl))) (mvT hZ (hw _ (List.mem_of_getElem? (i := 103) rfl))) (by decide) (backOf (W := 0) (rm13_r l Z a0 hw [] b27 b31 ast q5 q2 q6 p3 b9 s_CREATED s_OTP_USED s_ACTIVE s_BLOCKED s_REMOVED T43.heap n0 (Nat.le_trans Z0 K43.1) Oh81 E43q F43_activationId F43_applicationId F43_userId F43_status F43_counter F43_failedAttempts F43_blockedReason F43_code F43_device F43_createdAt S_CREATED S_OTP_USED S_ACTIVE S_BLOCKED S_REMOVED) hZ (hw _ (List.mem_of_getElem? (i := 105) rfl)) (hw _ (List.mem_of_getElem? (i := 11) rfl)) (by decide) (by decide)) q80a q80c (g := (mkF m 213 #[vI p1, vJ q2, .second, vI p3, vI p4, vJ q5, .second, vJ q6, .second, vI 1, vI 4, vR ast, vR b9, vR b20, vR b27, vI 1, vI 1, .unset] [iR b27])) rfl (by rw [hml]; rfl) (Steps.refl _) (argsL := []) (rest := []) (lenOf pd_12 rfl) rfl (by show 2 * 0 + _ ≤ _; exact Nat.le_of_eq rfl) (hb hby at_213) (fun _ _ => ⟨rfl, e55, (by decide : 7 + 1 ≤ _), (by decide : 21 + 10 ≤ _)⟩)
      dsimp only [Pt.U, Pt.locs, Pt.cells, Pt.slots] at X80 l80 y80 z80 st80 hQ80
      subst l80 y80 z80
      obtain ⟨o80, rfl, N80q, K80q, E80q, F80q⟩ := hQ80
      have N80 := Fr.app N43 N80q
      have K80 : Keep h0 T80.heap [] := Keep.trans K43 K80q all0
      obtain ⟨cq82, kq82, q82a, q82b, q82c⟩ := isOf hZ rfl E80q
      obtain ⟨_, _, ⟨T82, L82, k82, n82⟩, -, X82, ⟨Lc82, hQ82, l82, y82, z82⟩, st82⟩ := X80.virtualBack hx (y := (⟨"com/example/threefold/threefold/store/Activation", "hasKeys", "()Z"⟩ : MethodName)) (z := (⟨"com/example/threefold/threefold/store/Activation", "hasKeys", "()Z"⟩ : MethodName)) hown (mvT hZ (hw _ (List.mem_of_getElem? (i := 70) rfl))) (mvT hZ (hw _ (List.mem_of_getElem? (i := 71) rfl))) (notFace_of_selects (args := #[]) (mvT hZ (hw _ (List.mem_of_getElem? (i := 73) rfl)))) (mvT hZ (hw _ (List.mem_of_getElem? (i := 73) rfl))) (mvT hZ (hw _ (List.mem_of_getElem? (i := 72) rfl))) (by decide) (backOf (W := 0) (rm10_r l Z a0 hw [] o80 b9 T80.heap F80q) hZ (hw _ (List.mem_of_getElem? (i := 74) rfl)) (hw _ (List.mem_of_getElem? (i := 11) rfl)) (by decide) (by decide)) q82a q82c (g := (mkF m 256 #[vI p1, vJ q2, .second, vI p3, vI p4, vJ q5, .second, vJ q6, .second, vI 1, vI 4, vR ast, vR b9, vR b20, vR b27, vI 1, vI 1, vR o80] [iR o80])) rfl (by rw [hml]; rfl) (Steps.refl _) (argsL := []) (rest := []) (lenOf pd_10 rfl) rfl (by show 2 * 0 + _ ≤ _; exact Nat.le_of_eq rfl) (hb hby at_256) (fun _ _ => ⟨rfl, rfl, (by decide : 8 + 0 ≤ _), (by decide : 31 + 0 ≤ _)⟩)
      dsimp only [Pt.U, Pt.locs, Pt.cells, Pt.slots] at X82 l82 y82 z82 st82 hQ82
      subst l82 y82 z82
      obtain ⟨rfl, rfl, e82⟩ := hQ82
      try rw [List.append_nil] at X82
      obtain ⟨fs, hr, hrun, hended, hW, hsame⟩ := X82.leave (v := some (.int (1 : Int32))) (fun h => by rw [Bd.returns] at h; cases h)
      refine ⟨_, _, pre56 _ ?_, hrun, hended, _, _, rfl, ?_, ReturnedEndW.of_narrow ⟨_, rfl⟩ hW (hsame.mono (by decide) (by decide))⟩
      · show Steps _ _ _ (T55.setTop (mkF m 134 #[vI p1, vJ q2, .second, vI p3, vI p4, vJ q5, .second, vJ q6, .second, vI 1, vI 4, vR ast, vR b9, vR b20, vR b27, vI 1, vI 1, .unset] [])) _
        refine XS.iload X55.here hx rfl (hb hby at_134) rfl ?_
        show Steps _ _ _ (T55.setTop (mkF m 136 #[vI p1, vJ q2, .second, vI p3, vI p4, vJ q5, .second, vJ q6, .second, vI 1, vI 4, vR ast, vR b9, vR b20, vR b27, vI 1, vI 1, .unset] [iI 4])) _
        refine XS.ifYes X55.here hx rfl (pc0 := 136) (pc' := 155) rfl (hb hby at_136) rfl ((if0 _ _).trans (feq (by decide : ¬ ((4 : Int32) = (0 : Int32)))).2) (by decide) (by decide) ?_
        show Steps _ _ _ (T55.setTop (mkF m 155 #[vI p1, vJ q2, .second, vI p3, vI p4, vJ q5, .second, vJ q6, .second, vI 1, vI 4, vR ast, vR b9, vR b20, vR b27, vI 1, vI 1, .unset] [])) _
        refine XS.iload X55.here hx rfl (hb hby at_155) rfl ?_
        show Steps _ _ _ (T55.setTop (mkF m 157 #[vI p1, vJ q2, .second, vI p3, vI p4, vJ q5, .second, vJ q6, .second, vI 1, vI 4, vR ast, vR b9, vR b20, vR b27, vI 1, vI 1, .unset] [iI 4])) _
        refine XS.iconst X55.here hx rfl (hb hby at_157) ?_
        show Steps _ _ _ (T55.setTop (mkF m 158 #[vI p1, vJ q2, .second, vI p3, vI p4, vJ q5, .second, vJ q6, .second, vI 1, vI 4, vR ast, vR b9, vR b20, vR b27, vI 1, vI 1, .unset] [iI 1, iI 4])) _
        refine XS.icmpYes X55.here hx rfl (pc0 := 158) (pc' := 171) rfl (hb hby at_158) rfl (feq (by decide : ¬ ((4 : Int32) = (1 : Int32)))).2 (by decide) (by decide) ?_
        show Steps _ _ _ (T55.setTop (mkF m 171 #[vI p1, vJ q2, .second, vI p3, vI p4, vJ q5, .second, vJ q6, .second, vI 1, vI 4, vR ast, vR b9, vR b20, vR b27, vI 1, vI 1, .unset] [])) _
        refine XS.iload X55.here hx rfl (hb hby at_171) rfl ?_
        show Steps _ _ _ (T55.setTop (mkF m 173 #[vI p1, vJ q2, .second, vI p3, vI p4, vJ q5, .second, vJ q6, .second, vI 1, vI 4, vR ast, vR b9, vR b20, vR b27, vI 1, vI 1, .unset] [iI 4])) _
        refine XS.iconst X55.here hx rfl (hb hby at_173) ?_
        show Steps _ _ _ (T55.setTop (mkF m 174 #[vI p1, vJ q2, .second, vI p3, vI p4, vJ q5, .second, vJ q6, .second, vI 1, vI 4, vR ast, vR b9, vR b20, vR b27, vI 1, vI 1, .unset] [iI 2, iI 4])) _
        refine XS.icmpYes X55.here hx rfl (pc0 := 174) (pc' := 189) rfl (hb hby at_174) rfl (feq (by decide : ¬ ((4 : Int32) = (2 : Int32)))).2 (by decide) (by decide) ?_
        show Steps _ _ _ (T55.setTop (mkF m 189 #[vI p1, vJ q2, .second, vI p3, vI p4, vJ q5, .second, vJ q6, .second, vI 1, vI 4, vR ast, vR b9, vR b20, vR b27, vI 1, vI 1, .unset] [])) _
        refine XS.iload X55.here hx rfl (hb hby at_189) rfl ?_
        show Steps _ _ _ (T55.setTop (mkF m 191 #[vI p1, vJ q2, .second, vI p3, vI p4, vJ q5, .second, vJ q6, .second, vI 1, vI 4, vR ast, vR b9, vR b20, vR b27, vI 1, vI 1, .unset] [iI 4])) _
        refine XS.iconst X55.here hx rfl (hb hby at_191) ?_
        show Steps _ _ _ (T55.setTop (mkF m 192 #[vI p1, vJ q2, .second, vI p3, vI p4, vJ q5, .second, vJ q6, .second, vI 1, vI 4, vR ast, vR b9, vR b20, vR b27, vI 1, vI 1, .unset] [iI 3, iI 4])) _
        refine XS.icmpYes X55.here hx rfl (pc0 := 192) (pc' := 205) rfl (hb hby at_192) rfl (feq (by decide : ¬ ((4 : Int32) = (3 : Int32)))).2 (by decide) (by decide) ?_
        show Steps _ _ _ (T55.setTop (mkF m 205 #[vI p1, vJ q2, .second, vI p3, vI p4, vJ q5, .second, vJ q6, .second, vI 1, vI 4, vR ast, vR b9, vR b20, vR b27, vI 1, vI 1, .unset] [])) _
        refine XS.iload X55.here hx rfl (hb hby at_205) rfl ?_
        show Steps _ _ _ (T55.setTop (mkF m 207 #[vI p1, vJ q2, .second, vI p3, vI p4, vJ q5, .second, vJ q6, .second, vI 1, vI 4, vR ast, vR b9, vR b20, vR b27, vI 1, vI 1, .unset] [iI 4])) _
        refine XS.iconst X55.here hx rfl (hb hby at_207) ?_
        show Steps _ _ _ (T55.setTop (mkF m 208 #[vI p1, vJ q2, .second, vI p3, vI p4, vJ q5, .second, vJ q6, .second, vI 1, vI 4, vR ast, vR b9, vR b20, vR b27, vI 1, vI 1, .unset] [iI 4, iI 4])) _
        refine XS.icmpNo X55.here hx rfl (hb hby at_208) rfl (teq (by decide : (4 : Int32) = (4 : Int32))).2 ?_
        show Steps _ _ _ (T55.setTop (mkF m 211 #[vI p1, vJ q2, .second, vI p3, vI p4, vJ q5, .second, vJ q6, .second, vI 1, vI 4, vR ast, vR b9, vR b20, vR b27, vI 1, vI 1, .unset] [])) _
        refine XS.aload X55.here hx rfl (hb hby at_211) rfl rfl ?_
        show Steps _ _ _ (T55.setTop (mkF m 213 #[vI p1, vJ q2, .second, vI p3, vI p4, vJ q5, .second, vJ q6, .second, vI 1, vI 4, vR ast, vR b9, vR b20, vR b27, vI 1, vI 1, .unset] [iR b27])) _
        refine st80.trans ?_
        show Steps _ _ _ (T80.setTop (mkF m 216 #[vI p1, vJ q2, .second, vI p3, vI p4, vJ q5, .second, vJ q6, .second, vI 1, vI 4, vR ast, vR b9, vR b20, vR b27, vI 1, vI 1, .unset] [iR o80])) _
        refine XS.astore X80.here hx rfl (hb hby at_216) rfl rfl (l' := #[vI p1, vJ q2, .second, vI p3, vI p4, vJ q5, .second, vJ q6, .second, vI 1, vI 4, vR ast, vR b9, vR b20, vR b27, vI 1, vI 1, vR o80]) rfl ?_
        show Steps _ _ _ (T80.setTop (mkF m 218 #[vI p1, vJ q2, .second, vI p3, vI p4, vJ q5, .second, vJ q6, .second, vI 1, vI 4, vR ast, vR b9, vR b20, vR b27, vI 1, vI 1, vR o80] [])) _
        refine XS.goto X80.here hx rfl (pc0 := 218) (pc' := 249) rfl (hb hby at_218) (by decide) (by decide) ?_
        show Steps _ _ _ (T80.setTop (mkF m 249 #[vI p1, vJ q2, .second, vI p3, vI p4, vJ q5, .second, vJ q6, .second, vI 1, vI 4, vR ast, vR b9, vR b20, vR b27, vI 1, vI 1, vR o80] [])) _
        refine XS.iload X80.here hx rfl (hb hby at_249) rfl ?_
        show Steps _ _ _ (T80.setTop (mkF m 251 #[vI p1, vJ q2, .second, vI p3, vI p4, vJ q5, .second, vJ q6, .second, vI 1, vI 4, vR ast, vR b9, vR b20, vR b27, vI 1, vI 1, vR o80] [iI 1])) _
        refine XS.ifNo X80.here hx rfl (hb hby at_251) rfl ((if0 _ _).trans (feq (by decide : ¬ ((1 : Int32) = (0 : Int32)))).1) ?_
        show Steps _ _ _ (T80.setTop (mkF m 254 #[vI p1, vJ q2, .second, vI p3, vI p4, vJ q5, .second, vJ q6, .second, vI 1, vI 4, vR ast, vR b9, vR b20, vR b27, vI 1, vI 1, vR o80] [])) _
        refine XS.aload X80.here hx rfl (hb hby at_254) rfl rfl ?_
        show Steps _ _ _ (T80.setTop (mkF m 256 #[vI p1, vJ q2, .second, vI p3, vI p4, vJ q5, .second, vJ q6, .second, vI 1, vI 4, vR ast, vR b9, vR b20, vR b27, vI 1, vI 1, vR o80] [iR o80])) _
        refine st82.trans ?_
        show Steps _ _ _ (T82.setTop (mkF m 259 #[vI p1, vJ q2, .second, vI p3, vI p4, vJ q5, .second, vJ q6, .second, vI 1, vI 4, vR ast, vR b9, vR b20, vR b27, vI 1, vI 1, vR o80] [iI 1])) _
        refine XS.iload X82.here hx rfl (hb hby at_259) rfl ?_
        show Steps _ _ _ (T82.setTop (mkF m 261 #[vI p1, vJ q2, .second, vI p3, vI p4, vJ q5, .second, vJ q6, .second, vI 1, vI 4, vR ast, vR b9, vR b20, vR b27, vI 1, vI 1, vR o80] [iI 1, iI 1])) _
        refine XS.icmpNo X82.here hx rfl (hb hby at_261) rfl (teq (by decide : (1 : Int32) = (1 : Int32))).2 ?_
        show Steps _ _ _ (T82.setTop (mkF m 264 #[vI p1, vJ q2, .second, vI p3, vI p4, vJ q5, .second, vJ q6, .second, vI 1, vI 4, vR ast, vR b9, vR b20, vR b27, vI 1, vI 1, vR o80] [])) _
        refine XS.iconst X82.here hx rfl (hb hby at_264) ?_
        show Steps _ _ _ (T82.setTop (mkF m 265 #[vI p1, vJ q2, .second, vI p3, vI p4, vJ q5, .second, vJ q6, .second, vI 1, vI 4, vR ast, vR b9, vR b20, vR b27, vI 1, vI 1, vR o80] [iI 1])) _
        refine XS.goto X82.here hx rfl (pc0 := 265) (pc' := 269) rfl (hb hby at_265) (by decide) (by decide) ?_
        show Steps _ _ _ (T82.setTop (mkF m 269 #[vI p1, vJ q2, .second, vI p3, vI p4, vJ q5, .second, vJ q6, .second, vI 1, vI 4, vR ast, vR b9, vR b20, vR b27, vI 1, vI 1, vR o80] [iI 1])) _
        exact retN X82 hx (t := .boolean) Bd.returns (by simp) (hb hby at_269) hr
      · show Q0 Z p1 q2 p3 p4 q5 q6 s_CREATED s_OTP_USED s_ACTIVE s_BLOCKED s_REMOVED cs h0 n0 _ T82.heap _
        rw [e82]
        exact ⟨rfl, N80⟩
    · obtain ⟨T83, h83, X83, e83, E83, A83, D83, -, st83⟩ := newO X55 hx hZ hown (hw _ (List.mem_of_getElem? (i := 84) rfl)) (hw _ (List.mem_of_getElem? (i := 85) rfl)) (hw _ (List.mem_of_getElem? (i := 86) rfl)) e55 (g := (mkF m 223 #[vI p1, vJ q2, .second, vI p3, vI p4, vJ q5, .second, vJ q6, .second, vI 1, vI 5, vR ast, vR b9, vR b20, vR b27, vI 1, vI 1, .unset] [iR b27])) rfl (hb hby at_223) (by decide) (by decide)
      obtain ⟨b83, g83⟩ : ∃ z, z = T43.heap.size := ⟨_, rfl⟩
      rw [← g83] at A83 D83 st83
      have fk84 := ((fk39.keep K36q).keep K43q)
      have ne_b9_b83 : b9 ≠ b83 := Nat.ne_of_lt (Nat.lt_of_lt_of_le fk84.lt (Nat.le_of_eq g83.symm))
      have fk85 := ((fk40.keep K36q (ninS ne_b10_b31 nin0)).keep K43q (ninS ne_b10_b27 nin0))
      have ne_b10_b83 : b10 ≠ b83 := Nat.ne_of_lt (Nat.lt_of_lt_of_le fk85.lt (Nat.le_of_eq g83.symm))
      have fk86 := ((fk41.keep K36q (ninS ne_b11_b31 nin0)).keep K43q (ninS ne_b11_b27 nin0))
      have ne_b11_b83 : b11 ≠ b83 := Nat.ne_of_lt (Nat.lt_of_lt_of_le fk86.lt (Nat.le_of_eq g83.symm))
      have fk87 := ((fk37.keep K36q (ninS ne_b20_b31 nin0)).keep K43q (ninS ne_b20_b27 nin0))
      have ne_b20_b83 : b20 ≠ b83 := Nat.ne_of_lt (Nat.lt_of_lt_of_le fk87.lt (Nat.le_of_eq g83.symm))
      have ne_b27_b83 : b27 ≠ b83 := Nat.ne_of_lt (Nat.lt_of_lt_of_le E43q.lt (Nat.le_of_eq g83.symm))
      have fk88 := (E36q.keep K43q)
      have ne_b31_b83 : b31 ≠ b83 := Nat.ne_of_lt (Nat.lt_of_lt_of_le fk88.lt (Nat.le_of_eq g83.symm))
      have fk89 := (V36q.keep K43q (ninS (Ne.symm ne_b27_d36) nin0))
      have ne_d36_b83 : d36 ≠ b83 := Nat.ne_of_lt (Nat.lt_of_lt_of_le fk89.lt (Nat.le_of_eq g83.symm))
      have sz_b83 : h0.size ≤ b83 := Nat.le_trans K43.1 (Nat.le_of_eq g83.symm)
      have g_b83 : n0 ≤ b83 := Nat.le_trans Z0 sz_b83
      have K83 : Keep h0 h83 [] := K43.ext E83
      have F_serverPrivateKey_b83 : Fld Z h83 b83 "com/example/threefold/threefold/store/Device" "serverPrivateKey" "[B" .null := D83 (Or.inr (hw _ (List.mem_of_getElem? (i := 92) rfl))) (ty := (.array .byte)) (by decide)
      have F_devicePublicKey_b83 : Fld Z h83 b83 "com/example/threefold/threefold/store/Device" "devicePublicKey" "[B" .null := D83 (Or.inr (hw _ (List.mem_of_getElem? (i := 94) rfl))) (ty := (.array .byte)) (by decide)
      have F_masterSecret_b83 : Fld Z h83 b83 "com/example/threefold/threefold/store/Device" "masterSecret" "[B" .null := D83 (Or.inr (hw _ (List.mem_of_getElem? (i := 96) rfl))) (ty := (.array .byte)) (by decide)
      have F_activationName_b83 : Fld Z h83 b83 "com/example/threefold/threefold/store/Device" "activationName" "Ljava/lang/String;" .null := D83 (Or.inr (hw _ (List.mem_of_getElem? (i := 98) rfl))) (ty := (.object "java/lang/String")) (by decide)
      have F_extras_b83 : Fld Z h83 b83 "com/example/threefold/threefold/store/Device" "extras" "Ljava/lang/String;" .null := D83 (Or.inr (hw _ (List.mem_of_getElem? (i := 100) rfl))) (ty := (.object "java/lang/String")) (by decide)
      obtain ⟨T90, h90, k90, X90, e90, E90, A90, st90⟩ := newP X83 hx hZ (hw _ (List.mem_of_getElem? (i := 30) rfl)) e83 (g := (mkF m 229 #[vI p1, vJ q2, .second, vI p3, vI p4, vJ q5, .second, vJ q6, .second, vI 1, vI 5, vR ast, vR b9, vR b20, vR b27, vI 1, vI 1, .unset] [iI 32, iR b83, iR b83, iR b27])) rfl (hb hby at_229) rfl (by decide) (cap := 32) (by decide) (by decide) (by decide) (by decide)
      obtain ⟨b90, g90⟩ : ∃ z, z = h83.size := ⟨_, rfl⟩
      rw [← g90] at A90 st90
      have fk91 := (fk84.ext E83)
      have ne_b9_b90 : b9 ≠ b90 := Nat.ne_of_lt (Nat.lt_of_lt_of_le fk91.lt (Nat.le_of_eq g90.symm))
      have fk92 := (fk85.ext E83)
      have ne_b10_b90 : b10 ≠ b90 := Nat.ne_of_lt (Nat.lt_of_lt_of_le fk92.lt (Nat.le_of_eq g90.symm))
      have fk93 := (fk86.ext E83)
      have ne_b11_b90 : b11 ≠ b90 := Nat.ne_of_lt (Nat.lt_of_lt_of_le fk93.lt (Nat.le_of_eq g90.symm))
      have fk94 := (fk87.ext E83)
      have ne_b20_b90 : b20 ≠ b90 := Nat.ne_of_lt (Nat.lt_of_lt_of_le fk94.lt (Nat.le_of_eq g90.symm))
      have fk95 := (E43q.ext E83)
      have ne_b27_b90 : b27 ≠ b90 := Nat.ne_of_lt (Nat.lt_of_lt_of_le fk95.lt (Nat.le_of_eq g90.symm))
      have fk96 := (fk88.ext E83)
      have ne_b31_b90 : b31 ≠ b90 := Nat.ne_of_lt (Nat.lt_of_lt_of_le fk96.lt (Nat.le_of_eq g90.symm))
      have fk97 := (fk89.ext E83)
      have ne_d36_b90 : d36 ≠ b90 := Nat.ne_of_lt (Nat.lt_of_lt_of_le fk97.lt (Nat.le_of_eq g90.symm))
      have ne_b83_b90 : b83 ≠ b90 := Nat.ne_of_lt (Nat.lt_of_lt_of_le A83.lt (Nat.le_of_eq g90.symm))
      have sz_b90 : h0.size ≤ b90 := Nat.le_trans K83.1 (Nat.le_of_eq g90.symm)
      have g_b90 : n0 ≤ b90 := Nat.le_trans Z0 sz_b90
      have K90 : Keep h0 h90 [] := K83.ext E90
      have V90 : Arv Z h90 b90 k90 .byte (32 : Int32) [(.int (0 : Int32)), (.int (0 : Int32)), (.int (0 : Int32)), (.int (0 : Int32)), (.int (0 : Int32)), (.int (0 : Int32)), (.int (0 : Int32)), (.int (0 : Int32)), (.int (0 : Int32)), (.int (0 : Int32)), (.int (0 : Int32)), (.int (0 : Int32)), (.int (0 : Int32)), (.int (0 : Int32)), (.int (0 : Int32)), (.int (0 : Int32)), (.int (0 : Int32)), (.int (0 : Int32)), (.int (0 : Int32)), (.int (0 : Int32)), (.int (0 : Int32)), (.int (0 : Int32)), (.int (0 : Int32)), (.int (0 : Int32)), (.int (0 : Int32)), (.int (0 : Int32)), (.int (0 : Int32)), (.int (0 : Int32)), (.int (0 : Int32)), (.int (0 : Int32)), (.int (0 : Int32)), (.int (0 : Int32))] (.int (0 : Int32)) := (Arv.new A90 (by decide)).pad (pad_rep [] (.int (0 : Int32)) 32)
      obtain ⟨T98, h98, k98, X98, e98, E98, A98, st98⟩ := newP X90 hx hZ (hw _ (List.mem_of_getElem? (i := 30) rfl)) e90 (g := (mkF m 233 #[vI p1, vJ q2, .second, vI p3, vI p4, vJ q5, .second, vJ q6, .second, vI 1, vI 5, vR ast, vR b9, vR b20, vR b27, vI 1, vI 1, .unset] [iI 65, iR b90, iR b83, iR b83, iR b27])) rfl (hb hby at_233) rfl (by decide) (cap := 65) (by decide) (by decide) (by decide) (by decide)
      obtain ⟨b98, g98⟩ : ∃ z, z = h90.size := ⟨_, rfl⟩
      rw [← g98] at A98 st98
      have fk99 := (fk91.ext E90)
      have ne_b9_b98 : b9 ≠ b98 := Nat.ne_of_lt (Nat.lt_of_lt_of_le fk99.lt (Nat.le_of_eq g98.symm))
      have fk100 := (fk92.ext E90)
      have ne_b10_b98 : b10 ≠ b98 := Nat.ne_of_lt (Nat.lt_of_lt_of_le fk100.lt (Nat.le_of_eq g98.symm))
      have fk101 := (fk93.ext E90)
      have ne_b11_b98 : b11 ≠ b98 := Nat.ne_of_lt (Nat.lt_of_lt_of_le fk101.lt (Nat.le_of_eq g98.symm))
      have fk102 := (fk94.ext E90)
      have ne_b20_b98 : b20 ≠ b98 := Nat.ne_of_lt (Nat.lt_of_lt_of_le fk102.lt (Nat.le_of_eq g98.symm))
      have fk103 := (fk95.ext E90)
      have ne_b27_b98 : b27 ≠ b98 := Nat.ne_of_lt (Nat.lt_of_lt_of_le fk103.lt (Nat.le_of_eq g98.symm))
      have fk104 := (fk96.ext E90)
      have ne_b31_b98 : b31 ≠ b98 := Nat.ne_of_lt (Nat.lt_of_lt_of_le fk104.lt (Nat.le_of_eq g98.symm))
      have fk105 := (fk97.ext E90)
      have ne_d36_b98 : d36 ≠ b98 := Nat.ne_of_lt (Nat.lt_of_lt_of_le fk105.lt (Nat.le_of_eq g98.symm))
      have fk106 := (A83.ext E90)
      have ne_b83_b98 : b83 ≠ b98 := Nat.ne_of_lt (Nat.lt_of_lt_of_le fk106.lt (Nat.le_of_eq g98.symm))
      have ne_b90_b98 : b90 ≠ b98 := Nat.ne_of_lt (Nat.lt_of_lt_of_le V90.lt (Nat.le_of_eq g98.symm))
      have sz_b98 : h0.size ≤ b98 := Nat.le_trans K90.1 (Nat.le_of_eq g98.symm)
      have g_b98 : n0 ≤ b98 := Nat.le_trans Z0 sz_b98
      have K98 : Keep h0 h98 [] := K90.ext E98
      have V98 : Arv Z h98 b98 k98 .byte (65 : Int32) [] (.int (0 : Int32)) := (Arv.new A98 (by decide)).pad (pad_rep [] (.int (0 : Int32)) 0)
      have fk108 := (fk106.ext E98)
      have fk109 := ((F_serverPrivateKey_b83.ext E90).ext E98)
      have fk110 := ((F_devicePublicKey_b83.ext E90).ext E98)
      have fk111 := ((F_masterSecret_b83.ext E90).ext E98)
      have fk112 := ((F_activationName_b83.ext E90).ext E98)
      have fk113 := ((F_extras_b83.ext E90).ext E98)
      obtain ⟨_, _, ⟨T107, L107, k107, n107⟩, -, X107, ⟨Lc107, hQ107, l107, y107, z107⟩, st107⟩ := X98.specialBack hx (y := (⟨"com/example/threefold/threefold/store/Device", "<init>", "([B[B[BLjava/lang/String;Ljava/lang/String;)V"⟩ : MethodName)) rfl hown (mvT hZ (hw _ (List.mem_of_getElem? (i := 87) rfl))) (mvT hZ (hw _ (List.mem_of_getElem? (i := 88) rfl))) (mvT hZ (hw _ (List.mem_of_getElem? (i := 89) rfl))) (by decide) (backOf (W := 2) (rm12 l Z a0 hw [] b83 b90 b98 h98 n0 (Nat.le_trans Z0 K98.1) fk108 g_b83 fk109 fk110 fk111 fk112 fk113) hZ (hw _ (List.mem_of_getElem? (i := 89) rfl)) (hw _ (List.mem_of_getElem? (i := 86) rfl)) (by decide) (by decide)) (g := (mkF m 238 #[vI p1, vJ q2, .second, vI p3, vI p4, vJ q5, .second, vJ q6, .second, vI 1, vI 5, vR ast, vR b9, vR b20, vR b27, vI 1, vI 1, .unset] [.null, .null, .null, iR b98, iR b90, iR b83, iR b83, iR b27])) rfl (by rw [hml]; rfl) (Steps.refl _) (a := b83) (argsL := [(.ref b90), (.ref b98), .null, .null, .null]) (rest := [(.ref b83), (.ref b27)]) (lenOf pd_8 rfl) rfl (by show 2 * 0 + _ ≤ _; exact Nat.le_of_eq rfl) (hb hby at_238) (fun _ _ => ⟨rfl, e98, (by decide : 10 + 0 ≤ _), (by decide : 123 + 0 ≤ _)⟩)
      dsimp only [Pt.U, Pt.locs, Pt.cells, Pt.slots] at X107 l107 y107 z107 st107 hQ107
      subst l107 y107 z107
      obtain ⟨rfl, N107q, K107q, E107q⟩ := hQ107
      have N107 := Fr.app N43 N107q
      have K107 : Keep h0 T107.heap [] := Keep.trans K98 K107q (allS (Or.inr sz_b83) all0)
      have fk115 := ((fk103.ext E98).keep K107q)
      have fk116 := ((((F43_activationId.ext E83).ext E90).ext E98).keep K107q (ninS ne_b27_b83 nin0))
      have fk117 := ((((F43_applicationId.ext E83).ext E90).ext E98).keep K107q (ninS ne_b27_b83 nin0))
      have fk118 := ((((F43_userId.ext E83).ext E90).ext E98).keep K107q (ninS ne_b27_b83 nin0))
      have fk119 := ((((F43_status.ext E83).ext E90).ext E98).keep K107q (ninS ne_b27_b83 nin0))
      have fk120 := ((((F43_counter.ext E83).ext E90).ext E98).keep K107q (ninS ne_b27_b83 nin0))
      have fk121 := ((((F43_failedAttempts.ext E83).ext E90).ext E98).keep K107q (ninS ne_b27_b83 nin0))
      have fk122 := ((((F43_blockedReason.ext E83).ext E90).ext E98).keep K107q (ninS ne_b27_b83 nin0))
      have fk123 := ((((F43_code.ext E83).ext E90).ext E98).keep K107q (ninS ne_b27_b83 nin0))
      have fk124 := ((((F43_device.ext E83).ext E90).ext E98).keep K107q (ninS ne_b27_b83 nin0))
      have fk125 := ((((F43_createdAt.ext E83).ext E90).ext E98).keep K107q (ninS ne_b27_b83 nin0))
      have Oh126 := O0.keep K107 all0
      obtain ⟨cq114, kq114, q114a, q114b, q114c⟩ := isOf hZ rfl fk115
      obtain ⟨_, _, ⟨T114, L114, k114, n114⟩, -, X114, ⟨Lc114, hQ114, l114, y114, z114⟩, st114⟩ := X107.virtualBack hx (y := (⟨"com/example/threefold/threefold/store/Activation", "exchanged", "(Lcom/example/threefold/threefold/store/Device;)Lcom/example/threefold/threefold/store/Activation;"⟩ : MethodName)) (z := (⟨"com/example/threefold/threefold/store/Activation", "exchanged", "(Lcom/example/threefold/threefold/store/Device;)Lcom/example/threefold/threefold/store/Activation;"⟩ : MethodName)) hown (mvT hZ (hw _ (List.mem_of_getElem? (i := 120) rfl))) (mvT hZ (hw _ (List.mem_of_getElem? (i := 121) rfl))) (notFace_of_selects (args := #[]) (mvT hZ (hw _ (List.mem_of_getElem? (i := 123) rfl)))) (mvT hZ (hw _ (List.mem_of_getElem? (i := 123) rfl))) (mvT hZ (hw _ (List.mem_of_getElem? (i := 122) rfl))) (by decide) (backOf (W := 0) (rm16_r l Z a0 hw [] b27 b83 b31 ast q5 q2 q6 p3 b9 s_CREATED s_OTP_USED s_ACTIVE s_BLOCKED s_REMOVED T107.heap n0 (Nat.le_trans Z0 K107.1) Oh126 fk115 fk116 fk117 fk118 fk119 fk120 fk121 fk122 fk123 fk124 fk125 S_CREATED S_OTP_USED S_ACTIVE S_BLOCKED S_REMOVED) hZ (hw _ (List.mem_of_getElem? (i := 124) rfl)) (hw _ (List.mem_of_getElem? (i := 11) rfl)) (by decide) (by decide)) q114a q114c (g := (mkF m 241 #[vI p1, vJ q2, .second, vI p3, vI p4, vJ q5, .second, vJ q6, .second, vI 1, vI 5, vR ast, vR b9, vR b20, vR b27, vI 1, vI 1, .unset] [iR b83, iR b27])) rfl (by rw [hml]; rfl) (Steps.refl _) (argsL := [(.ref b83)]) (rest := []) (lenOf pd_14 rfl) rfl (by show 2 * 0 + _ ≤ _; exact Nat.le_of_eq rfl) (hb hby at_241) (fun _ _ => ⟨rfl, rfl, (by decide : 10 + 1 ≤ _), (by decide : 123 + 10 ≤ _)⟩)
      dsimp only [Pt.U, Pt.locs, Pt.cells, Pt.slots] at X114 l114 y114 z114 st114 hQ114
      subst l114 y114 z114
      obtain ⟨o114, rfl, N114q, K114q, E114q, F114q⟩ := hQ114
      have N114 := Fr.app N107 N114q
      have K114 : Keep h0 T114.heap [] := Keep.trans K107 K114q all0
      obtain ⟨cq127, kq127, q127a, q127b, q127c⟩ := isOf hZ rfl E114q
      obtain ⟨_, _, ⟨T127, L127, k127, n127⟩, -, X127, ⟨Lc127, hQ127, l127, y127, z127⟩, st127⟩ := X114.virtualBack hx (y := (⟨"com/example/threefold/threefold/store/Activation", "hasKeys", "()Z"⟩ : MethodName)) (z := (⟨"com/example/threefold/threefold/store/Activation", "hasKeys", "()Z"⟩ : MethodName)) hown (mvT hZ (hw _ (List.mem_of_getElem? (i := 70) rfl))) (mvT hZ (hw _ (List.mem_of_getElem? (i := 71) rfl))) (notFace_of_selects (args := #[]) (mvT hZ (hw _ (List.mem_of_getElem? (i := 73) rfl)))) (mvT hZ (hw _ (List.mem_of_getElem? (i := 73) rfl))) (mvT hZ (hw _ (List.mem_of_getElem? (i := 72) rfl))) (by decide) (backOf (W := 0) (rm10_r l Z a0 hw [] o114 b83 T114.heap F114q) hZ (hw _ (List.mem_of_getElem? (i := 74) rfl)) (hw _ (List.mem_of_getElem? (i := 11) rfl)) (by decide) (by decide)) q127a q127c (g := (mkF m 256 #[vI p1, vJ q2, .second, vI p3, vI p4, vJ q5, .second, vJ q6, .second, vI 1, vI 5, vR ast, vR b9, vR b20, vR b27, vI 1, vI 1, vR o114] [iR o114])) rfl (by rw [hml]; rfl) (Steps.refl _) (argsL := []) (rest := []) (lenOf pd_10 rfl) rfl (by show 2 * 0 + _ ≤ _; exact Nat.le_of_eq rfl) (hb hby at_256) (fun _ _ => ⟨rfl, rfl, (by decide : 11 + 0 ≤ _), (by decide : 133 + 0 ≤ _)⟩)
      dsimp only [Pt.U, Pt.locs, Pt.cells, Pt.slots] at X127 l127 y127 z127 st127 hQ127
      subst l127 y127 z127
      obtain ⟨rfl, rfl, e127⟩ := hQ127
      try rw [List.append_nil] at X127
      obtain ⟨fs, hr, hrun, hended, hW, hsame⟩ := X127.leave (v := some (.int (1 : Int32))) (fun h => by rw [Bd.returns] at h; cases h)
      refine ⟨_, _, pre56 _ ?_, hrun, hended, _, _, rfl, ?_, ReturnedEndW.of_narrow ⟨_, rfl⟩ hW (hsame.mono (by decide) (by decide))⟩
      · show Steps _ _ _ (T55.setTop (mkF m 134 #[vI p1, vJ q2, .second, vI p3, vI p4, vJ q5, .second, vJ q6, .second, vI 1, vI 5, vR ast, vR b9, vR b20, vR b27, vI 1, vI 1, .unset] [])) _
        refine XS.iload X55.here hx rfl (hb hby at_134) rfl ?_
        show Steps _ _ _ (T55.setTop (mkF m 136 #[vI p1, vJ q2, .second, vI p3, vI p4, vJ q5, .second, vJ q6, .second, vI 1, vI 5, vR ast, vR b9, vR b20, vR b27, vI 1, vI 1, .unset] [iI 5])) _
        refine XS.ifYes X55.here hx rfl (pc0 := 136) (pc' := 155) rfl (hb hby at_136) rfl ((if0 _ _).trans (feq (by decide : ¬ ((5 : Int32) = (0 : Int32)))).2) (by decide) (by decide) ?_
        show Steps _ _ _ (T55.setTop (mkF m 155 #[vI p1, vJ q2, .second, vI p3, vI p4, vJ q5, .second, vJ q6, .second, vI 1, vI 5, vR ast, vR b9, vR b20, vR b27, vI 1, vI 1, .unset] [])) _
        refine XS.iload X55.here hx rfl (hb hby at_155) rfl ?_
        show Steps _ _ _ (T55.setTop (mkF m 157 #[vI p1, vJ q2, .second, vI p3, vI p4, vJ q5, .second, vJ q6, .second, vI 1, vI 5, vR ast, vR b9, vR b20, vR b27, vI 1, vI 1, .unset] [iI 5])) _
        refine XS.iconst X55.here hx rfl (hb hby at_157) ?_
        show Steps _ _ _ (T55.setTop (mkF m 158 #[vI p1, vJ q2, .second, vI p3, vI p4, vJ q5, .second, vJ q6, .second, vI 1, vI 5, vR ast, vR b9, vR b20, vR b27, vI 1, vI 1, .unset] [iI 1, iI 5])) _
        refine XS.icmpYes X55.here hx rfl (pc0 := 158) (pc' := 171) rfl (hb hby at_158) rfl (feq (by decide : ¬ ((5 : Int32) = (1 : Int32)))).2 (by decide) (by decide) ?_
        show Steps _ _ _ (T55.setTop (mkF m 171 #[vI p1, vJ q2, .second, vI p3, vI p4, vJ q5, .second, vJ q6, .second, vI 1, vI 5, vR ast, vR b9, vR b20, vR b27, vI 1, vI 1, .unset] [])) _
        refine XS.iload X55.here hx rfl (hb hby at_171) rfl ?_
        show Steps _ _ _ (T55.setTop (mkF m 173 #[vI p1, vJ q2, .second, vI p3, vI p4, vJ q5, .second, vJ q6, .second, vI 1, vI 5, vR ast, vR b9, vR b20, vR b27, vI 1, vI 1, .unset] [iI 5])) _
        refine XS.iconst X55.here hx rfl (hb hby at_173) ?_
        show Steps _ _ _ (T55.setTop (mkF m 174 #[vI p1, vJ q2, .second, vI p3, vI p4, vJ q5, .second, vJ q6, .second, vI 1, vI 5, vR ast, vR b9, vR b20, vR b27, vI 1, vI 1, .unset] [iI 2, iI 5])) _
        refine XS.icmpYes X55.here hx rfl (pc0 := 174) (pc' := 189) rfl (hb hby at_174) rfl (feq (by decide : ¬ ((5 : Int32) = (2 : Int32)))).2 (by decide) (by decide) ?_
        show Steps _ _ _ (T55.setTop (mkF m 189 #[vI p1, vJ q2, .second, vI p3, vI p4, vJ q5, .second, vJ q6, .second, vI 1, vI 5, vR ast, vR b9, vR b20, vR b27, vI 1, vI 1, .unset] [])) _
        refine XS.iload X55.here hx rfl (hb hby at_189) rfl ?_
        show Steps _ _ _ (T55.setTop (mkF m 191 #[vI p1, vJ q2, .second, vI p3, vI p4, vJ q5, .second, vJ q6, .second, vI 1, vI 5, vR ast, vR b9, vR b20, vR b27, vI 1, vI 1, .unset] [iI 5])) _
        refine XS.iconst X55.here hx rfl (hb hby at_191) ?_
        show Steps _ _ _ (T55.setTop (mkF m 192 #[vI p1, vJ q2, .second, vI p3, vI p4, vJ q5, .second, vJ q6, .second, vI 1, vI 5, vR ast, vR b9, vR b20, vR b27, vI 1, vI 1, .unset] [iI 3, iI 5])) _
        refine XS.icmpYes X55.here hx rfl (pc0 := 192) (pc' := 205) rfl (hb hby at_192) rfl (feq (by decide : ¬ ((5 : Int32) = (3 : Int32)))).2 (by decide) (by decide) ?_
        show Steps _ _ _ (T55.setTop (mkF m 205 #[vI p1, vJ q2, .second, vI p3, vI p4, vJ q5, .second, vJ q6, .second, vI 1, vI 5, vR ast, vR b9, vR b20, vR b27, vI 1, vI 1, .unset] [])) _
        refine XS.iload X55.here hx rfl (hb hby at_205) rfl ?_
        show Steps _ _ _ (T55.setTop (mkF m 207 #[vI p1, vJ q2, .second, vI p3, vI p4, vJ q5, .second, vJ q6, .second, vI 1, vI 5, vR ast, vR b9, vR b20, vR b27, vI 1, vI 1, .unset] [iI 5])) _
        refine XS.iconst X55.here hx rfl (hb hby at_207) ?_
        show Steps _ _ _ (T55.setTop (mkF m 208 #[vI p1, vJ q2, .second, vI p3, vI p4, vJ q5, .second, vJ q6, .second, vI 1, vI 5, vR ast, vR b9, vR b20, vR b27, vI 1, vI 1, .unset] [iI 4, iI 5])) _
        refine XS.icmpYes X55.here hx rfl (pc0 := 208) (pc' := 221) rfl (hb hby at_208) rfl (feq (by decide : ¬ ((5 : Int32) = (4 : Int32)))).2 (by decide) (by decide) ?_
        show Steps _ _ _ (T55.setTop (mkF m 221 #[vI p1, vJ q2, .second, vI p3, vI p4, vJ q5, .second, vJ q6, .second, vI 1, vI 5, vR ast, vR b9, vR b20, vR b27, vI 1, vI 1, .unset] [])) _
        refine XS.aload X55.here hx rfl (hb hby at_221) rfl rfl ?_
        show Steps _ _ _ (T55.setTop (mkF m 223 #[vI p1, vJ q2, .second, vI p3, vI p4, vJ q5, .second, vJ q6, .second, vI 1, vI 5, vR ast, vR b9, vR b20, vR b27, vI 1, vI 1, .unset] [iR b27])) _
        refine st83 _ ?_
        show Steps _ _ _ (T83.setTop (mkF m 226 #[vI p1, vJ q2, .second, vI p3, vI p4, vJ q5, .second, vJ q6, .second, vI 1, vI 5, vR ast, vR b9, vR b20, vR b27, vI 1, vI 1, .unset] [iR b83, iR b27])) _
        refine XS.dup X83.here hx rfl (hb hby at_226) rfl rfl ?_
        show Steps _ _ _ (T83.setTop (mkF m 227 #[vI p1, vJ q2, .second, vI p3, vI p4, vJ q5, .second, vJ q6, .second, vI 1, vI 5, vR ast, vR b9, vR b20, vR b27, vI 1, vI 1, .unset] [iR b83, iR b83, iR b27])) _
        refine XS.bipush X83.here hx rfl (hb hby at_227) ?_
        show Steps _ _ _ (T83.setTop (mkF m 229 #[vI p1, vJ q2, .second, vI p3, vI p4, vJ q5, .second, vJ q6, .second, vI 1, vI 5, vR ast, vR b9, vR b20, vR b27, vI 1, vI 1, .unset] [iI 32, iR b83, iR b83, iR b27])) _
        refine st90 _ ?_
        show Steps _ _ _ (T90.setTop (mkF m 231 #[vI p1, vJ q2, .second, vI p3, vI p4, vJ q5, .second, vJ q6, .second, vI 1, vI 5, vR ast, vR b9, vR b20, vR b27, vI 1, vI 1, .unset] [iR b90, iR b83, iR b83, iR b27])) _
        refine XS.bipush X90.here hx rfl (hb hby at_231) ?_
        show Steps _ _ _ (T90.setTop (mkF m 233 #[vI p1, vJ q2, .second, vI p3, vI p4, vJ q5, .second, vJ q6, .second, vI 1, vI 5, vR ast, vR b9, vR b20, vR b27, vI 1, vI 1, .unset] [iI 65, iR b90, iR b83, iR b83, iR b27])) _
        refine st98 _ ?_
        show Steps _ _ _ (T98.setTop (mkF m 235 #[vI p1, vJ q2, .second, vI p3, vI p4, vJ q5, .second, vJ q6, .second, vI 1, vI 5, vR ast, vR b9, vR b20, vR b27, vI 1, vI 1, .unset] [iR b98, iR b90, iR b83, iR b83, iR b27])) _
        refine XS.aconstNull X98.here hx rfl (hb hby at_235) ?_
        show Steps _ _ _ (T98.setTop (mkF m 236 #[vI p1, vJ q2, .second, vI p3, vI p4, vJ q5, .second, vJ q6, .second, vI 1, vI 5, vR ast, vR b9, vR b20, vR b27, vI 1, vI 1, .unset] [.null, iR b98, iR b90, iR b83, iR b83, iR b27])) _
        refine XS.aconstNull X98.here hx rfl (hb hby at_236) ?_
        show Steps _ _ _ (T98.setTop (mkF m 237 #[vI p1, vJ q2, .second, vI p3, vI p4, vJ q5, .second, vJ q6, .second, vI 1, vI 5, vR ast, vR b9, vR b20, vR b27, vI 1, vI 1, .unset] [.null, .null, iR b98, iR b90, iR b83, iR b83, iR b27])) _
        refine XS.aconstNull X98.here hx rfl (hb hby at_237) ?_
        show Steps _ _ _ (T98.setTop (mkF m 238 #[vI p1, vJ q2, .second, vI p3, vI p4, vJ q5, .second, vJ q6, .second, vI 1, vI 5, vR ast, vR b9, vR b20, vR b27, vI 1, vI 1, .unset] [.null, .null, .null, iR b98, iR b90, iR b83, iR b83, iR b27])) _
        refine st107.trans ?_
        show Steps _ _ _ (T107.setTop (mkF m 241 #[vI p1, vJ q2, .second, vI p3, vI p4, vJ q5, .second, vJ q6, .second, vI 1, vI 5, vR ast, vR b9, vR b20, vR b27, vI 1, vI 1, .unset] [iR b83, iR b27])) _
        refine st114.trans ?_
        show Steps _ _ _ (T114.setTop (mkF m 244 #[vI p1, vJ q2, .second, vI p3, vI p4, vJ q5, .second, vJ q6, .second, vI 1, vI 5, vR ast, vR b9, vR b20, vR b27, vI 1, vI 1, .unset] [iR o114])) _
        refine XS.astore X114.here hx rfl (hb hby at_244) rfl rfl (l' := #[vI p1, vJ q2, .second, vI p3, vI p4, vJ q5, .second, vJ q6, .second, vI 1, vI 5, vR ast, vR b9, vR b20, vR b27, vI 1, vI 1, vR o114]) rfl ?_
        show Steps _ _ _ (T114.setTop (mkF m 246 #[vI p1, vJ q2, .second, vI p3, vI p4, vJ q5, .second, vJ q6, .second, vI 1, vI 5, vR ast, vR b9, vR b20, vR b27, vI 1, vI 1, vR o114] [])) _
        refine XS.iconst X114.here hx rfl (hb hby at_246) ?_
        show Steps _ _ _ (T114.setTop (mkF m 247 #[vI p1, vJ q2, .second, vI p3, vI p4, vJ q5, .second, vJ q6, .second, vI 1, vI 5, vR ast, vR b9, vR b20, vR b27, vI 1, vI 1, vR o114] [iI 1])) _
        refine XS.istore X114.here hx rfl (hb hby at_247) rfl (l' := #[vI p1, vJ q2, .second, vI p3, vI p4, vJ q5, .second, vJ q6, .second, vI 1, vI 5, vR ast, vR b9, vR b20, vR b27, vI 1, vI 1, vR o114]) rfl ?_
        show Steps _ _ _ (T114.setTop (mkF m 249 #[vI p1, vJ q2, .second, vI p3, vI p4, vJ q5, .second, vJ q6, .second, vI 1, vI 5, vR ast, vR b9, vR b20, vR b27, vI 1, vI 1, vR o114] [])) _
        refine XS.iload X114.here hx rfl (hb hby at_249) rfl ?_
        show Steps _ _ _ (T114.setTop (mkF m 251 #[vI p1, vJ q2, .second, vI p3, vI p4, vJ q5, .second, vJ q6, .second, vI 1, vI 5, vR ast, vR b9, vR b20, vR b27, vI 1, vI 1, vR o114] [iI 1])) _
        refine XS.ifNo X114.here hx rfl (hb hby at_251) rfl ((if0 _ _).trans (feq (by decide : ¬ ((1 : Int32) = (0 : Int32)))).1) ?_
        show Steps _ _ _ (T114.setTop (mkF m 254 #[vI p1, vJ q2, .second, vI p3, vI p4, vJ q5, .second, vJ q6, .second, vI 1, vI 5, vR ast, vR b9, vR b20, vR b27, vI 1, vI 1, vR o114] [])) _
        refine XS.aload X114.here hx rfl (hb hby at_254) rfl rfl ?_
        show Steps _ _ _ (T114.setTop (mkF m 256 #[vI p1, vJ q2, .second, vI p3, vI p4, vJ q5, .second, vJ q6, .second, vI 1, vI 5, vR ast, vR b9, vR b20, vR b27, vI 1, vI 1, vR o114] [iR o114])) _
        refine st127.trans ?_
        show Steps _ _ _ (T127.setTop (mkF m 259 #[vI p1, vJ q2, .second, vI p3, vI p4, vJ q5, .second, vJ q6, .second, vI 1, vI 5, vR ast, vR b9, vR b20, vR b27, vI 1, vI 1, vR o114] [iI 1])) _
        refine XS.iload X127.here hx rfl (hb hby at_259) rfl ?_
        show Steps _ _ _ (T127.setTop (mkF m 261 #[vI p1, vJ q2, .second, vI p3, vI p4, vJ q5, .second, vJ q6, .second, vI 1, vI 5, vR ast, vR b9, vR b20, vR b27, vI 1, vI 1, vR o114] [iI 1, iI 1])) _
        refine XS.icmpNo X127.here hx rfl (hb hby at_261) rfl (teq (by decide : (1 : Int32) = (1 : Int32))).2 ?_
        show Steps _ _ _ (T127.setTop (mkF m 264 #[vI p1, vJ q2, .second, vI p3, vI p4, vJ q5, .second, vJ q6, .second, vI 1, vI 5, vR ast, vR b9, vR b20, vR b27, vI 1, vI 1, vR o114] [])) _
        refine XS.iconst X127.here hx rfl (hb hby at_264) ?_
        show Steps _ _ _ (T127.setTop (mkF m 265 #[vI p1, vJ q2, .second, vI p3, vI p4, vJ q5, .second, vJ q6, .second, vI 1, vI 5, vR ast, vR b9, vR b20, vR b27, vI 1, vI 1, vR o114] [iI 1])) _
        refine XS.goto X127.here hx rfl (pc0 := 265) (pc' := 269) rfl (hb hby at_265) (by decide) (by decide) ?_
        show Steps _ _ _ (T127.setTop (mkF m 269 #[vI p1, vJ q2, .second, vI p3, vI p4, vJ q5, .second, vJ q6, .second, vI 1, vI 5, vR ast, vR b9, vR b20, vR b27, vI 1, vI 1, vR o114] [iI 1])) _
        exact retN X127 hx (t := .boolean) Bd.returns (by simp) (hb hby at_269) hr
      · show Q0 Z p1 q2 p3 p4 q5 q6 s_CREATED s_OTP_USED s_ACTIVE s_BLOCKED s_REMOVED cs h0 n0 _ T127.heap _
        rw [e127]
        exact ⟨rfl, N114⟩
  · obtain ⟨kv, hkv⟩ : ∃ z : Int32, z = ((((p4.toUInt32 >>> ((1 : Int32) &&& 31).toUInt32).toInt32) &&& (2147483647 : Int32)) % (6 : Int32)) := ⟨_, rfl⟩
    have qkv : kv = 0 ∨ kv = 1 ∨ kv = 2 ∨ kv = 3 ∨ kv = 4 ∨ kv = 5 := by rw [hkv]; exact own_small6 _ (own_rem _ 6 6 rfl (by decide)).1 (own_rem _ 6 6 rfl (by decide)).2
    obtain ⟨pv, hpv⟩ : ∃ z : Int32, z = ((p1 &&& (2147483647 : Int32)) % (5 : Int32)) := ⟨_, rfl⟩
    have qkp : pv = 0 ∨ pv = 1 ∨ pv = 2 ∨ pv = 3 ∨ pv = 4 := by rw [hpv]; exact own_small5 _ (own_rem p1 5 5 rfl (by decide)).1 (own_rem p1 5 5 rfl (by decide)).2
    obtain ⟨_, _, ⟨T130, L130, k130, n130⟩, -, X130, ⟨Lc130, hQ130, l130, y130, z130⟩, st130⟩ := Jvm.LawKit.callS X2 hx (y := (⟨"com/example/threefold/threefold/store/ActivationHasKeysPinLaw", "pick", "(I)Lcom/example/threefold/threefold/protocol/ActivationStatus;"⟩ : MethodName)) hown (mvT hZ (hw _ (List.mem_of_getElem? (i := 1) rfl))) (mvT hZ (hw _ (List.mem_of_getElem? (i := 2) rfl))) (mvT hZ (hw _ (List.mem_of_getElem? (i := 3) rfl))) (mvT hZ (hw _ (List.mem_of_getElem? (i := 4) rfl))) (by decide) (backOf (W := 0) (rm1 l Z a0 hw [] pv s_CREATED s_OTP_USED s_ACTIVE s_BLOCKED s_REMOVED h0 n0 O0 S_CREATED S_OTP_USED S_ACTIVE S_BLOCKED S_REMOVED qkp) hZ (hw _ (List.mem_of_getElem? (i := 4) rfl)) (hw _ (List.mem_of_getElem? (i := 3) rfl)) (by decide) (by decide)) (g := (mkF m 32 #[vI p1, vJ q2, .second, vI p3, vI p4, vJ q5, .second, vJ q6, .second, vI 0, vI kv, .unset, .unset, .unset, .unset, .unset, .unset, .unset] [iI pv])) rfl (by rw [hml]; rfl) (argsL := [(.int pv)]) (rest := []) (lenOf pd_7 rfl) rfl (by show 2 * 0 + _ ≤ _; exact Nat.le_of_eq rfl) (hb hby at_32) (fun _ _ => ⟨rfl, e2, (by decide : 0 + 0 ≤ _), (by decide : 0 + 0 ≤ _)⟩)
    dsimp only [Pt.U, Pt.locs, Pt.cells, Pt.slots] at X130 l130 y130 z130 st130 hQ130
    subst l130 y130 z130
    obtain ⟨rfl, rfl, e130⟩ := hQ130
    try rw [List.append_nil] at X130
    obtain ⟨ast, hast⟩ : ∃ z : Addr, z = (own_pick pv s_CREATED s_OTP_USED s_ACTIVE s_BLOCKED s_REMOVED) := ⟨_, rfl⟩
    obtain ⟨T132, h132, k132, X132, e132, E132, A132, st132⟩ := newP X130 hx hZ (hw _ (List.mem_of_getElem? (i := 8) rfl)) e130 (g := (mkF m 65 #[vI p1, vJ q2, .second, vI p3, vI p4, vJ q5, .second, vJ q6, .second, vI 0, vI kv, vR ast, .val .null, .unset, .unset, .unset, .unset, .unset] [iI 1])) rfl (hb hby at_65) rfl (by decide) (cap := 1) (by decide) (by decide) (by decide) (by decide)
    obtain ⟨b132, g132⟩ : ∃ z, z = h0.size := ⟨_, rfl⟩
    rw [← g132] at A132 st132
    have sz_b132 : h0.size ≤ b132 := Nat.le_trans K0.1 (Nat.le_of_eq g132.symm)
    have g_b132 : n0 ≤ b132 := Nat.le_trans Z0 sz_b132
    have K132 : Keep h0 h132 [] := K0.ext E132
    have V132 : Arv Z h132 b132 k132 .char (1 : Int32) [(.int (0 : Int32))] (.int (0 : Int32)) := (Arv.new A132 (by decide)).pad (pad_rep [] (.int (0 : Int32)) 1)
    obtain ⟨cv, hcv⟩ : ∃ z : Int32, z = (((p4.toUInt32 >>> ((8 : Int32) &&& 31).toUInt32).toInt32) &&& (255 : Int32)).toUInt32.toUInt16.toUInt32.toInt32 := ⟨_, rfl⟩
    have hlc : ¬ (255 : Int32) < nar .char cv := by rw [hcv]; exact own_ch _
    obtain ⟨cl134, Ar134, q134, S134, M134, H134, G134⟩ := id V132
    have hin135 : ¬ ((0 : Int32) < 0 ∨ cl134.slots.size ≤ ((0 : Int32)).toNatClampNeg) := inb_of S134 ⟨by decide, by decide⟩
    obtain ⟨T136, h136, X136, e136, W136, st136⟩ := stC X132 hx hZ e132 Ar134 (j := (0 : Int32)) hin135 (g := (mkF m 79 #[vI p1, vJ q2, .second, vI p3, vI p4, vJ q5, .second, vJ q6, .second, vI 0, vI kv, vR ast, .val .null, .unset, .unset, .unset, .unset, .unset] [iI cv, iI 0, iR b132, iR b132])) rfl rfl (hb hby at_79)
    have V136 : Arv Z h136 b132 k132 .char (1 : Int32) [(.int (nar .char cv))] (.int (0 : Int32)) := Arv.set Ar134 q134 S134 M134 H134 G134 (fits_nar_char _) W136 0 rfl (Nat.le_of_ble_eq_true rfl)
    have K136 : Keep h0 h136 [] := K132.wr W136 (Or.inr sz_b132)
    have N136 := Fr.snoc X136 N0 g_b132
    obtain ⟨T137, h137, X137, e137, E137, A137, D137, -, st137⟩ := newO X136 hx hZ hown (hw _ (List.mem_of_getElem? (i := 9) rfl)) (hw _ (List.mem_of_getElem? (i := 10) rfl)) (hw _ (List.mem_of_getElem? (i := 11) rfl)) e136 (g := (mkF m 82 #[vI p1, vJ q2, .second, vI p3, vI p4, vJ q5, .second, vJ q6, .second, vI 0, vI kv, vR ast, .val .null, vR b132, .unset, .unset, .unset, .unset] [])) rfl (hb hby at_82) (by decide) (by decide)
    obtain ⟨b137, g137⟩ : ∃ z, z = h136.size := ⟨_, rfl⟩
    rw [← g137] at A137 D137 st137
    have ne_b132_b137 : b132 ≠ b137 := Nat.ne_of_lt (Nat.lt_of_lt_of_le V136.lt (Nat.le_of_eq g137.symm))
    have sz_b137 : h0.size ≤ b137 := Nat.le_trans K136.1 (Nat.le_of_eq g137.symm)
    have g_b137 : n0 ≤ b137 := Nat.le_trans Z0 sz_b137
    have K137 : Keep h0 h137 [] := K136.ext E137
    have F_activationId_b137 : Fld Z h137 b137 "com/example/threefold/threefold/store/Activation" "activationId" "Ljava/lang/String;" .null := D137 (Or.inr (hw _ (List.mem_of_getElem? (i := 51) rfl))) (ty := (.object "java/lang/String")) (by decide)
    have F_applicationId_b137 : Fld Z h137 b137 "com/example/threefold/threefold/store/Activation" "applicationId" "J" (.long (0 : Int64)) := D137 (Or.inr (hw _ (List.mem_of_getElem? (i := 53) rfl))) (ty := .long) (by decide)
    have F_userId_b137 : Fld Z h137 b137 "com/example/threefold/threefold/store/Activation" "userId" "Ljava/lang/String;" .null := D137 (Or.inr (hw _ (List.mem_of_getElem? (i := 55) rfl))) (ty := (.object "java/lang/String")) (by decide)
    have F_status_b137 : Fld Z h137 b137 "com/example/threefold/threefold/store/Activation" "status" "Lcom/example/threefold/threefold/protocol/ActivationStatus;" .null := D137 (Or.inr (hw _ (List.mem_of_getElem? (i := 57) rfl))) (ty := (.object "com/example/threefold/threefold/protocol/ActivationStatus")) (by decide)
    have F_counter_b137 : Fld Z h137 b137 "com/example/threefold/threefold/store/Activation" "counter" "J" (.long (0 : Int64)) := D137 (Or.inr (hw _ (List.mem_of_getElem? (i := 59) rfl))) (ty := .long) (by decide)
    have F_failedAttempts_b137 : Fld Z h137 b137 "com/example/threefold/threefold/store/Activation" "failedAttempts" "I" (.int (0 : Int32)) := D137 (Or.inr (hw _ (List.mem_of_getElem? (i := 61) rfl))) (ty := .int) (by decide)
    have F_blockedReason_b137 : Fld Z h137 b137 "com/example/threefold/threefold/store/Activation" "blockedReason" "Ljava/lang/String;" .null := D137 (Or.inr (hw _ (List.mem_of_getElem? (i := 63) rfl))) (ty := (.object "java/lang/String")) (by decide)
    have F_code_b137 : Fld Z h137 b137 "com/example/threefold/threefold/store/Activation" "code" "Lcom/example/threefold/threefold/protocol/ActivationCode;" .null := D137 (Or.inr (hw _ (List.mem_of_getElem? (i := 65) rfl))) (ty := (.object "com/example/threefold/threefold/protocol/ActivationCode")) (by decide)
    have F_device_b137 : Fld Z h137 b137 "com/example/threefold/threefold/store/Activation" "device" "Lcom/example/threefold/threefold/store/Device;" .null := D137 (Or.inr (hw _ (List.mem_of_getElem? (i := 67) rfl))) (ty := (.object "com/example/threefold/threefold/store/Device")) (by decide)
    have F_createdAt_b137 : Fld Z h137 b137 "com/example/threefold/threefold/store/Activation" "createdAt" "J" (.long (0 : Int64)) := D137 (Or.inr (hw _ (List.mem_of_getElem? (i := 69) rfl))) (ty := .long) (by decide)
    obtain ⟨T138, h138, X138, e138, E138, A138, D138, -, st138⟩ := newO X137 hx hZ hown (hw _ (List.mem_of_getElem? (i := 12) rfl)) (hw _ (List.mem_of_getElem? (i := 13) rfl)) (hw _ (List.mem_of_getElem? (i := 14) rfl)) e137 (g := (mkF m 86 #[vI p1, vJ q2, .second, vI p3, vI p4, vJ q5, .second, vJ q6, .second, vI 0, vI kv, vR ast, .val .null, vR b132, .unset, .unset, .unset, .unset] [iR b137, iR b137])) rfl (hb hby at_86) (by decide) (by decide)
    obtain ⟨b138, g138⟩ : ∃ z, z = h137.size := ⟨_, rfl⟩
    rw [← g138] at A138 D138 st138
    have fk139 := (V136.ext E137)
    have ne_b132_b138 : b132 ≠ b138 := Nat.ne_of_lt (Nat.lt_of_lt_of_le fk139.lt (Nat.le_of_eq g138.symm))
    have ne_b137_b138 : b137 ≠ b138 := Nat.ne_of_lt (Nat.lt_of_lt_of_le A137.lt (Nat.le_of_eq g138.symm))
    have sz_b138 : h0.size ≤ b138 := Nat.le_trans K137.1 (Nat.le_of_eq g138.symm)
    have g_b138 : n0 ≤ b138 := Nat.le_trans Z0 sz_b138
    have K138 : Keep h0 h138 [] := K137.ext E138
    have F_coder_b138 : Fld Z h138 b138 "java/lang/String" "coder" "B" (.int (0 : Int32)) := D138 (Or.inr (hw _ (List.mem_of_getElem? (i := 38) rfl))) (ty := .byte) (by decide)
    have F_value_b138 : Fld Z h138 b138 "java/lang/String" "value" "[B" .null := D138 (Or.inr (hw _ (List.mem_of_getElem? (i := 40) rfl))) (ty := (.array .byte)) (by decide)
    have fk141 := (fk139.ext E138)
    have Oh142 := O0.keep K138 all0
    obtain ⟨_, _, ⟨T140, L140, k140, n140⟩, -, X140, ⟨Lc140, hQ140, l140, y140, z140⟩, st140⟩ := X138.specialBack hx (y := (⟨"java/lang/String", "<init>", "([C)V"⟩ : MethodName)) rfl hown (mvT hZ (hw _ (List.mem_of_getElem? (i := 15) rfl))) (mvT hZ (hw _ (List.mem_of_getElem? (i := 16) rfl))) (mvT hZ (hw _ (List.mem_of_getElem? (i := 17) rfl))) (by decide) (backOf (W := 3) (rm2_1 l Z a0 hw [] b138 b132 k132 (nar .char cv) cs h138 n0 (Nat.le_trans Z0 K138.1) Oh142 A138 g_b138 F_value_b138 F_coder_b138 fk141 (Ne.symm ne_b132_b138) hlc S_CS h_cs) hZ (hw _ (List.mem_of_getElem? (i := 17) rfl)) (hw _ (List.mem_of_getElem? (i := 14) rfl)) (by decide) (by decide)) (g := (mkF m 92 #[vI p1, vJ q2, .second, vI p3, vI p4, vJ q5, .second, vJ q6, .second, vI 0, vI kv, vR ast, .val .null, vR b132, .unset, .unset, .unset, .unset] [iR b132, iR b138, iR b138, iR b137, iR b137])) rfl (by rw [hml]; rfl) (Steps.refl _) (a := b138) (argsL := [(.ref b132)]) (rest := [(.ref b138), (.ref b137), (.ref b137)]) (lenOf pd_9 rfl) rfl (by show 2 * 0 + _ ≤ _; exact Nat.le_of_eq rfl) (hb hby at_92) (fun _ _ => ⟨rfl, e138, (by decide : 3 + 1 ≤ _), (by decide : 15 + 1 ≤ _)⟩)
    dsimp only [Pt.U, Pt.locs, Pt.cells, Pt.slots] at X140 l140 y140 z140 st140 hQ140
    subst l140 y140 z140
    obtain ⟨d140, kd140, rfl, N140q, K140q, E140q, C140q, F140q, V140q, z_d140⟩ := hQ140
    have fk143 := (A137.ext E138)
    have ne_b132_d140 : b132 ≠ d140 := Nat.ne_of_lt (Nat.lt_of_lt_of_le fk141.lt z_d140)
    have ne_b137_d140 : b137 ≠ d140 := Nat.ne_of_lt (Nat.lt_of_lt_of_le fk143.lt z_d140)
    have ne_b138_d140 : b138 ≠ d140 := Nat.ne_of_lt (Nat.lt_of_lt_of_le A138.lt z_d140)
    have sz_d140 : h0.size ≤ d140 := Nat.le_trans K138.1 z_d140
    have g_d140 : n0 ≤ d140 := Nat.le_trans Z0 sz_d140
    have N140 := Fr.app N136 N140q
    have K140 : Keep h0 T140.heap [] := Keep.trans K138 K140q (allS (Or.inr sz_b138) all0)
    have fk145 := (fk143.keep K140q)
    have fk146 := ((F_activationId_b137.ext E138).keep K140q (ninS ne_b137_b138 nin0))
    have fk147 := ((F_applicationId_b137.ext E138).keep K140q (ninS ne_b137_b138 nin0))
    have fk148 := ((F_userId_b137.ext E138).keep K140q (ninS ne_b137_b138 nin0))
    have fk149 := ((F_status_b137.ext E138).keep K140q (ninS ne_b137_b138 nin0))
    have fk150 := ((F_counter_b137.ext E138).keep K140q (ninS ne_b137_b138 nin0))
    have fk151 := ((F_failedAttempts_b137.ext E138).keep K140q (ninS ne_b137_b138 nin0))
    have fk152 := ((F_blockedReason_b137.ext E138).keep K140q (ninS ne_b137_b138 nin0))
    have fk153 := ((F_code_b137.ext E138).keep K140q (ninS ne_b137_b138 nin0))
    have fk154 := ((F_device_b137.ext E138).keep K140q (ninS ne_b137_b138 nin0))
    have fk155 := ((F_createdAt_b137.ext E138).keep K140q (ninS ne_b137_b138 nin0))
    obtain ⟨_, _, ⟨T144, L144, k144, n144⟩, -, X144, ⟨Lc144, hQ144, l144, y144, z144⟩, st144⟩ := X140.specialBack hx (y := (⟨"com/example/threefold/threefold/store/Activation", "<init>", "(Ljava/lang/String;JLjava/lang/String;Lcom/example/threefold/threefold/protocol/ActivationStatus;JILjava/lang/String;Lcom/example/threefold/threefold/protocol/ActivationCode;Lcom/example/threefold/threefold/store/Device;J)V"⟩ : MethodName)) rfl hown (mvT hZ (hw _ (List.mem_of_getElem? (i := 41) rfl))) (mvT hZ (hw _ (List.mem_of_getElem? (i := 42) rfl))) (mvT hZ (hw _ (List.mem_of_getElem? (i := 43) rfl))) (by decide) (backOf (W := 1) (rm8_nn l Z a0 hw [] b137 b138 q5 ast q2 p3 q6 T140.heap n0 (Nat.le_trans Z0 K140.1) fk145 g_b137 fk146 fk147 fk148 fk149 fk150 fk151 fk152 fk153 fk154 fk155) hZ (hw _ (List.mem_of_getElem? (i := 43) rfl)) (hw _ (List.mem_of_getElem? (i := 11) rfl)) (by decide) (by decide)) (g := (mkF m 108 #[vI p1, vJ q2, .second, vI p3, vI p4, vJ q5, .second, vJ q6, .second, vI 0, vI kv, vR ast, .val .null, vR b132, .unset, .unset, .unset, .unset] [iJ q6, .null, .null, .null, iI p3, iJ q2, iR ast, .null, iJ q5, iR b138, iR b137, iR b137])) rfl (by rw [hml]; rfl) (Steps.refl _) (a := b137) (argsL := [(.ref b138), (.long q5), .null, (.ref ast), (.long q2), (.int p3), .null, .null, .null, (.long q6)]) (rest := [(.ref b137)]) (lenOf pd_1 rfl) rfl (by show 2 * 0 + _ ≤ _; exact Nat.le_of_eq rfl) (hb hby at_108) (fun _ _ => ⟨rfl, rfl, (by decide : 4 + 0 ≤ _), (by decide : 16 + 0 ≤ _)⟩)
    dsimp only [Pt.U, Pt.locs, Pt.cells, Pt.slots] at X144 l144 y144 z144 st144 hQ144
    subst l144 y144 z144
    obtain ⟨rfl, N144q, K144q, E144q, F144_activationId, F144_applicationId, F144_userId, F144_status, F144_counter, F144_failedAttempts, F144_blockedReason, F144_code, F144_device, F144_createdAt⟩ := hQ144
    have N144 := Fr.app N140 N144q
    have K144 : Keep h0 T144.heap [] := Keep.trans K140 K144q (allS (Or.inr sz_b137) all0)
    obtain ⟨cq156, kq156, q156a, q156b, q156c⟩ := isOf hZ rfl E144q
    obtain ⟨_, _, ⟨T156, L156, k156, n156⟩, -, X156, ⟨Lc156, hQ156, l156, y156, z156⟩, st156⟩ := X144.virtualBack hx (y := (⟨"com/example/threefold/threefold/store/Activation", "hasKeys", "()Z"⟩ : MethodName)) (z := (⟨"com/example/threefold/threefold/store/Activation", "hasKeys", "()Z"⟩ : MethodName)) hown (mvT hZ (hw _ (List.mem_of_getElem? (i := 70) rfl))) (mvT hZ (hw _ (List.mem_of_getElem? (i := 71) rfl))) (notFace_of_selects (args := #[]) (mvT hZ (hw _ (List.mem_of_getElem? (i := 73) rfl)))) (mvT hZ (hw _ (List.mem_of_getElem? (i := 73) rfl))) (mvT hZ (hw _ (List.mem_of_getElem? (i := 72) rfl))) (by decide) (backOf (W := 0) (rm10_n l Z a0 hw [] b137 T144.heap F144_device) hZ (hw _ (List.mem_of_getElem? (i := 74) rfl)) (hw _ (List.mem_of_getElem? (i := 11) rfl)) (by decide) (by decide)) q156a q156c (g := (mkF m 115 #[vI p1, vJ q2, .second, vI p3, vI p4, vJ q5, .second, vJ q6, .second, vI 0, vI kv, vR ast, .val .null, vR b132, vR b137, .unset, .unset, .unset] [iR b137])) rfl (by rw [hml]; rfl) (Steps.refl _) (argsL := []) (rest := []) (lenOf pd_10 rfl) rfl (by show 2 * 0 + _ ≤ _; exact Nat.le_of_eq rfl) (hb hby at_115) (fun _ _ => ⟨rfl, rfl, (by decide : 4 + 0 ≤ _), (by decide : 16 + 0 ≤ _)⟩)
    dsimp only [Pt.U, Pt.locs, Pt.cells, Pt.slots] at X156 l156 y156 z156 st156 hQ156
    subst l156 y156 z156
    obtain ⟨rfl, rfl, e156⟩ := hQ156
    try rw [List.append_nil] at X156
    have pre157 : ∀ t, Steps p.tables e below (T156.setTop (mkF m 134 #[vI p1, vJ q2, .second, vI p3, vI p4, vJ q5, .second, vJ q6, .second, vI 0, vI kv, vR ast, .val .null, vR b132, vR b137, vI 1, vI 0, .unset] [])) t → Steps p.tables e below (s₁.setTop (entryFrame m #[(.int p1), (.long q2), (.int p3), (.int p4), (.long q5), (.long q6)] maxLocals)) t := by
      intro t kt
      refine pre4 t ?_
      show Steps _ _ _ (T2.setTop (mkF m 14 #[vI p1, vJ q2, .second, vI p3, vI p4, vJ q5, .second, vJ q6, .second, vI 0, .unset, .unset, .unset, .unset, .unset, .unset, .unset, .unset] [])) _
      refine XS.iload X2.here hx rfl (hb hby at_14) rfl ?_
      show Steps _ _ _ (T2.setTop (mkF m 16 #[vI p1, vJ q2, .second, vI p3, vI p4, vJ q5, .second, vJ q6, .second, vI 0, .unset, .unset, .unset, .unset, .unset, .unset, .unset, .unset] [iI p4])) _
      refine XS.iconst X2.here hx rfl (hb hby at_16) ?_
      show Steps _ _ _ (T2.setTop (mkF m 17 #[vI p1, vJ q2, .second, vI p3, vI p4, vJ q5, .second, vJ q6, .second, vI 0, .unset, .unset, .unset, .unset, .unset, .unset, .unset, .unset] [iI 1, iI p4])) _
      refine XS.iushr X2.here hx rfl (hb hby at_17) rfl ?_
      show Steps _ _ _ (T2.setTop (mkF m 18 #[vI p1, vJ q2, .second, vI p3, vI p4, vJ q5, .second, vJ q6, .second, vI 0, .unset, .unset, .unset, .unset, .unset, .unset, .unset, .unset] [iI ((p4.toUInt32 >>> ((1 : Int32) &&& 31).toUInt32).toInt32)])) _
      refine X2.ldcInt hx hown (mvT hZ (hw _ (List.mem_of_getElem? (i := 0) rfl))) (g := (mkF m 18 #[vI p1, vJ q2, .second, vI p3, vI p4, vJ q5, .second, vJ q6, .second, vI 0, .unset, .unset, .unset, .unset, .unset, .unset, .unset, .unset] [iI ((p4.toUInt32 >>> ((1 : Int32) &&& 31).toUInt32).toInt32)])) rfl (hb hby at_18) _ ?_
      show Steps _ _ _ (T2.setTop (mkF m 20 #[vI p1, vJ q2, .second, vI p3, vI p4, vJ q5, .second, vJ q6, .second, vI 0, .unset, .unset, .unset, .unset, .unset, .unset, .unset, .unset] [iI 2147483647, iI ((p4.toUInt32 >>> ((1 : Int32) &&& 31).toUInt32).toInt32)])) _
      refine XS.iand X2.here hx rfl (hb hby at_20) rfl ?_
      show Steps _ _ _ (T2.setTop (mkF m 21 #[vI p1, vJ q2, .second, vI p3, vI p4, vJ q5, .second, vJ q6, .second, vI 0, .unset, .unset, .unset, .unset, .unset, .unset, .unset, .unset] [iI (((p4.toUInt32 >>> ((1 : Int32) &&& 31).toUInt32).toInt32) &&& (2147483647 : Int32))])) _
      refine XS.bipush X2.here hx rfl (hb hby at_21) ?_
      show Steps _ _ _ (T2.setTop (mkF m 23 #[vI p1, vJ q2, .second, vI p3, vI p4, vJ q5, .second, vJ q6, .second, vI 0, .unset, .unset, .unset, .unset, .unset, .unset, .unset, .unset] [iI 6, iI (((p4.toUInt32 >>> ((1 : Int32) &&& 31).toUInt32).toInt32) &&& (2147483647 : Int32))])) _
      refine iremM X2 hx rfl (hb hby at_23) rfl (by decide) ?_
      show Steps _ _ _ (T2.setTop (mkF m 24 #[vI p1, vJ q2, .second, vI p3, vI p4, vJ q5, .second, vJ q6, .second, vI 0, .unset, .unset, .unset, .unset, .unset, .unset, .unset, .unset] [iI ((((p4.toUInt32 >>> ((1 : Int32) &&& 31).toUInt32).toInt32) &&& (2147483647 : Int32)) % (6 : Int32))])) _
      refine XS.istore X2.here hx rfl (hb hby at_24) rfl (l' := #[vI p1, vJ q2, .second, vI p3, vI p4, vJ q5, .second, vJ q6, .second, vI 0, vI ((((p4.toUInt32 >>> ((1 : Int32) &&& 31).toUInt32).toInt32) &&& (2147483647 : Int32)) % (6 : Int32)), .unset, .unset, .unset, .unset, .unset, .unset, .unset]) rfl ?_
      rw [← hkv]
      show Steps _ _ _ (T2.setTop (mkF m 26 #[vI p1, vJ q2, .second, vI p3, vI p4, vJ q5, .second, vJ q6, .second, vI 0, vI kv, .unset, .unset, .unset, .unset, .unset, .unset, .unset] [])) _
      refine XS.iloadN X2.here hx rfl (hb hby at_26) rfl ?_
      show Steps _ _ _ (T2.setTop (mkF m 27 #[vI p1, vJ q2, .second, vI p3, vI p4, vJ q5, .second, vJ q6, .second, vI 0, vI kv, .unset, .unset, .unset, .unset, .unset, .unset, .unset] [iI p1])) _
      refine X2.ldcInt hx hown (mvT hZ (hw _ (List.mem_of_getElem? (i := 0) rfl))) (g := (mkF m 27 #[vI p1, vJ q2, .second, vI p3, vI p4, vJ q5, .second, vJ q6, .second, vI 0, vI kv, .unset, .unset, .unset, .unset, .unset, .unset, .unset] [iI p1])) rfl (hb hby at_27) _ ?_
      show Steps _ _ _ (T2.setTop (mkF m 29 #[vI p1, vJ q2, .second, vI p3, vI p4, vJ q5, .second, vJ q6, .second, vI 0, vI kv, .unset, .unset, .unset, .unset, .unset, .unset, .unset] [iI 2147483647, iI p1])) _
      refine XS.iand X2.here hx rfl (hb hby at_29) rfl ?_
      show Steps _ _ _ (T2.setTop (mkF m 30 #[vI p1, vJ q2, .second, vI p3, vI p4, vJ q5, .second, vJ q6, .second, vI 0, vI kv, .unset, .unset, .unset, .unset, .unset, .unset, .unset] [iI (p1 &&& (2147483647 : Int32))])) _
      refine XS.iconst X2.here hx rfl (hb hby at_30) ?_
      show Steps _ _ _ (T2.setTop (mkF m 31 #[vI p1, vJ q2, .second, vI p3, vI p4, vJ q5, .second, vJ q6, .second, vI 0, vI kv, .unset, .unset, .unset, .unset, .unset, .unset, .unset] [iI 5, iI (p1 &&& (2147483647 : Int32))])) _
      refine iremM X2 hx rfl (hb hby at_31) rfl (by decide) ?_
      rw [← hpv]
      show Steps _ _ _ (T2.setTop (mkF m 32 #[vI p1, vJ q2, .second, vI p3, vI p4, vJ q5, .second, vJ q6, .second, vI 0, vI kv, .unset, .unset, .unset, .unset, .unset, .unset, .unset] [iI pv])) _
      refine st130 _ ?_
      show Steps _ _ _ (T130.setTop (mkF m 35 #[vI p1, vJ q2, .second, vI p3, vI p4, vJ q5, .second, vJ q6, .second, vI 0, vI kv, .unset, .unset, .unset, .unset, .unset, .unset, .unset] [iR (own_pick pv s_CREATED s_OTP_USED s_ACTIVE s_BLOCKED s_REMOVED)])) _
      refine XS.astore X130.here hx rfl (hb hby at_35) rfl rfl (l' := #[vI p1, vJ q2, .second, vI p3, vI p4, vJ q5, .second, vJ q6, .second, vI 0, vI kv, vR (own_pick pv s_CREATED s_OTP_USED s_ACTIVE s_BLOCKED s_REMOVED), .unset, .unset, .unset, .unset, .unset, .unset]) rfl ?_
      rw [← hast]
      show Steps _ _ _ (T130.setTop (mkF m 37 #[vI p1, vJ q2, .second, vI p3, vI p4, vJ q5, .second, vJ q6, .second, vI 0, vI kv, vR ast, .unset, .unset, .unset, .unset, .unset, .unset] [])) _
      refine XS.iload X130.here hx rfl (hb hby at_37) rfl ?_
      show Steps _ _ _ (T130.setTop (mkF m 39 #[vI p1, vJ q2, .second, vI p3, vI p4, vJ q5, .second, vJ q6, .second, vI 0, vI kv, vR ast, .unset, .unset, .unset, .unset, .unset, .unset] [iI 0])) _
      refine XS.ifYes X130.here hx rfl (pc0 := 39) (pc' := 61) rfl (hb hby at_39) rfl ((if0 _ _).trans (teq (by decide : (0 : Int32) = (0 : Int32))).1) (by decide) (by decide) ?_
      show Steps _ _ _ (T130.setTop (mkF m 61 #[vI p1, vJ q2, .second, vI p3, vI p4, vJ q5, .second, vJ q6, .second, vI 0, vI kv, vR ast, .unset, .unset, .unset, .unset, .unset, .unset] [])) _
      refine XS.aconstNull X130.here hx rfl (hb hby at_61) ?_
      show Steps _ _ _ (T130.setTop (mkF m 62 #[vI p1, vJ q2, .second, vI p3, vI p4, vJ q5, .second, vJ q6, .second, vI 0, vI kv, vR ast, .unset, .unset, .unset, .unset, .unset, .unset] [.null])) _
      refine XS.astore X130.here hx rfl (hb hby at_62) rfl rfl (l' := #[vI p1, vJ q2, .second, vI p3, vI p4, vJ q5, .second, vJ q6, .second, vI 0, vI kv, vR ast, .val .null, .unset, .unset, .unset, .unset, .unset]) rfl ?_
      show Steps _ _ _ (T130.setTop (mkF m 64 #[vI p1, vJ q2, .second, vI p3, vI p4, vJ q5, .second, vJ q6, .second, vI 0, vI kv, vR ast, .val .null, .unset, .unset, .unset, .unset, .unset] [])) _
      refine XS.iconst X130.here hx rfl (hb hby at_64) ?_
      show Steps _ _ _ (T130.setTop (mkF m 65 #[vI p1, vJ q2, .second, vI p3, vI p4, vJ q5, .second, vJ q6, .second, vI 0, vI kv, vR ast, .val .null, .unset, .unset, .unset, .unset, .unset] [iI 1])) _
      refine st132 _ ?_
      show Steps _ _ _ (T132.setTop (mkF m 67 #[vI p1, vJ q2, .second, vI p3, vI p4, vJ q5, .second, vJ q6, .second, vI 0, vI kv, vR ast, .val .null, .unset, .unset, .unset, .unset, .unset] [iR b132])) _
      refine XS.dup X132.here hx rfl (hb hby at_67) rfl rfl ?_
      show Steps _ _ _ (T132.setTop (mkF m 68 #[vI p1, vJ q2, .second, vI p3, vI p4, vJ q5, .second, vJ q6, .second, vI 0, vI kv, vR ast, .val .null, .unset, .unset, .unset, .unset, .unset] [iR b132, iR b132])) _
      refine XS.iconst X132.here hx rfl (hb hby at_68) ?_
      show Steps _ _ _ (T132.setTop (mkF m 69 #[vI p1, vJ q2, .second, vI p3, vI p4, vJ q5, .second, vJ q6, .second, vI 0, vI kv, vR ast, .val .null, .unset, .unset, .unset, .unset, .unset] [iI 0, iR b132, iR b132])) _
      refine XS.iload X132.here hx rfl (hb hby at_69) rfl ?_
      show Steps _ _ _ (T132.setTop (mkF m 71 #[vI p1, vJ q2, .second, vI p3, vI p4, vJ q5, .second, vJ q6, .second, vI 0, vI kv, vR ast, .val .null, .unset, .unset, .unset, .unset, .unset] [iI p4, iI 0, iR b132, iR b132])) _
      refine XS.bipush X132.here hx rfl (hb hby at_71) ?_
      show Steps _ _ _ (T132.setTop (mkF m 73 #[vI p1, vJ q2, .second, vI p3, vI p4, vJ q5, .second, vJ q6, .second, vI 0, vI kv, vR ast, .val .null, .unset, .unset, .unset, .unset, .unset] [iI 8, iI p4, iI 0, iR b132, iR b132])) _
      refine XS.iushr X132.here hx rfl (hb hby at_73) rfl ?_
      show Steps _ _ _ (T132.setTop (mkF m 74 #[vI p1, vJ q2, .second, vI p3, vI p4, vJ q5, .second, vJ q6, .second, vI 0, vI kv, vR ast, .val .null, .unset, .unset, .unset, .unset, .unset] [iI ((p4.toUInt32 >>> ((8 : Int32) &&& 31).toUInt32).toInt32), iI 0, iR b132, iR b132])) _
      refine XS.sipush X132.here hx rfl (hb hby at_74) ?_
      show Steps _ _ _ (T132.setTop (mkF m 77 #[vI p1, vJ q2, .second, vI p3, vI p4, vJ q5, .second, vJ q6, .second, vI 0, vI kv, vR ast, .val .null, .unset, .unset, .unset, .unset, .unset] [iI 255, iI ((p4.toUInt32 >>> ((8 : Int32) &&& 31).toUInt32).toInt32), iI 0, iR b132, iR b132])) _
      refine XS.iand X132.here hx rfl (hb hby at_77) rfl ?_
      show Steps _ _ _ (T132.setTop (mkF m 78 #[vI p1, vJ q2, .second, vI p3, vI p4, vJ q5, .second, vJ q6, .second, vI 0, vI kv, vR ast, .val .null, .unset, .unset, .unset, .unset, .unset] [iI (((p4.toUInt32 >>> ((8 : Int32) &&& 31).toUInt32).toInt32) &&& (255 : Int32)), iI 0, iR b132, iR b132])) _
      refine XS.i2c X132.here hx rfl (hb hby at_78) rfl ?_
      rw [← hcv]
      show Steps _ _ _ (T132.setTop (mkF m 79 #[vI p1, vJ q2, .second, vI p3, vI p4, vJ q5, .second, vJ q6, .second, vI 0, vI kv, vR ast, .val .null, .unset, .unset, .unset, .unset, .unset] [iI cv, iI 0, iR b132, iR b132])) _
      refine st136 _ ?_
      show Steps _ _ _ (T136.setTop (mkF m 80 #[vI p1, vJ q2, .second, vI p3, vI p4, vJ q5, .second, vJ q6, .second, vI 0, vI kv, vR ast, .val .null, .unset, .unset, .unset, .unset, .unset] [iR b132])) _
      refine XS.astore X136.here hx rfl (hb hby at_80) rfl rfl (l' := #[vI p1, vJ q2, .second, vI p3, vI p4, vJ q5, .second, vJ q6, .second, vI 0, vI kv, vR ast, .val .null, vR b132, .unset, .unset, .unset, .unset]) rfl ?_
      show Steps _ _ _ (T136.setTop (mkF m 82 #[vI p1, vJ q2, .second, vI p3, vI p4, vJ q5, .second, vJ q6, .second, vI 0, vI kv, vR ast, .val .null, vR b132, .unset, .unset, .unset, .unset] [])) _
      refine st137 _ ?_
      show Steps _ _ _ (T137.setTop (mkF m 85 #[vI p1, vJ q2, .second, vI p3, vI p4, vJ q5, .second, vJ q6, .second, vI 0, vI kv, vR ast, .val .null, vR b132, .unset, .unset, .unset, .unset] [iR b137])) _
      refine XS.dup X137.here hx rfl (hb hby at_85) rfl rfl ?_
      show Steps _ _ _ (T137.setTop (mkF m 86 #[vI p1, vJ q2, .second, vI p3, vI p4, vJ q5, .second, vJ q6, .second, vI 0, vI kv, vR ast, .val .null, vR b132, .unset, .unset, .unset, .unset] [iR b137, iR b137])) _
      refine st138 _ ?_
      show Steps _ _ _ (T138.setTop (mkF m 89 #[vI p1, vJ q2, .second, vI p3, vI p4, vJ q5, .second, vJ q6, .second, vI 0, vI kv, vR ast, .val .null, vR b132, .unset, .unset, .unset, .unset] [iR b138, iR b137, iR b137])) _
      refine XS.dup X138.here hx rfl (hb hby at_89) rfl rfl ?_
      show Steps _ _ _ (T138.setTop (mkF m 90 #[vI p1, vJ q2, .second, vI p3, vI p4, vJ q5, .second, vJ q6, .second, vI 0, vI kv, vR ast, .val .null, vR b132, .unset, .unset, .unset, .unset] [iR b138, iR b138, iR b137, iR b137])) _
      refine XS.aload X138.here hx rfl (hb hby at_90) rfl rfl ?_
      show Steps _ _ _ (T138.setTop (mkF m 92 #[vI p1, vJ q2, .second, vI p3, vI p4, vJ q5, .second, vJ q6, .second, vI 0, vI kv, vR ast, .val .null, vR b132, .unset, .unset, .unset, .unset] [iR b132, iR b138, iR b138, iR b137, iR b137])) _
      refine st140.trans ?_
      show Steps _ _ _ (T140.setTop (mkF m 95 #[vI p1, vJ q2, .second, vI p3, vI p4, vJ q5, .second, vJ q6, .second, vI 0, vI kv, vR ast, .val .null, vR b132, .unset, .unset, .unset, .unset] [iR b138, iR b137, iR b137])) _
      refine XS.lload X140.here hx rfl (hb hby at_95) rfl ?_
      show Steps _ _ _ (T140.setTop (mkF m 97 #[vI p1, vJ q2, .second, vI p3, vI p4, vJ q5, .second, vJ q6, .second, vI 0, vI kv, vR ast, .val .null, vR b132, .unset, .unset, .unset, .unset] [iJ q5, iR b138, iR b137, iR b137])) _
      refine XS.aconstNull X140.here hx rfl (hb hby at_97) ?_
      show Steps _ _ _ (T140.setTop (mkF m 98 #[vI p1, vJ q2, .second, vI p3, vI p4, vJ q5, .second, vJ q6, .second, vI 0, vI kv, vR ast, .val .null, vR b132, .unset, .unset, .unset, .unset] [.null, iJ q5, iR b138, iR b137, iR b137])) _
      refine XS.aload X140.here hx rfl (hb hby at_98) rfl rfl ?_
      show Steps _ _ _ (T140.setTop (mkF m 100 #[vI p1, vJ q2, .second, vI p3, vI p4, vJ q5, .second, vJ q6, .second, vI 0, vI kv, vR ast, .val .null, vR b132, .unset, .unset, .unset, .unset] [iR ast, .null, iJ q5, iR b138, iR b137, iR b137])) _
      refine XS.lloadN X140.here hx rfl (hb hby at_100) rfl ?_
      show Steps _ _ _ (T140.setTop (mkF m 101 #[vI p1, vJ q2, .second, vI p3, vI p4, vJ q5, .second, vJ q6, .second, vI 0, vI kv, vR ast, .val .null, vR b132, .unset, .unset, .unset, .unset] [iJ q2, iR ast, .null, iJ q5, iR b138, iR b137, iR b137])) _
      refine XS.iloadN X140.here hx rfl (hb hby at_101) rfl ?_
      show Steps _ _ _ (T140.setTop (mkF m 102 #[vI p1, vJ q2, .second, vI p3, vI p4, vJ q5, .second, vJ q6, .second, vI 0, vI kv, vR ast, .val .null, vR b132, .unset, .unset, .unset, .unset] [iI p3, iJ q2, iR ast, .null, iJ q5, iR b138, iR b137, iR b137])) _
      refine XS.aconstNull X140.here hx rfl (hb hby at_102) ?_
      show Steps _ _ _ (T140.setTop (mkF m 103 #[vI p1, vJ q2, .second, vI p3, vI p4, vJ q5, .second, vJ q6, .second, vI 0, vI kv, vR ast, .val .null, vR b132, .unset, .unset, .unset, .unset] [.null, iI p3, iJ q2, iR ast, .null, iJ q5, iR b138, iR b137, iR b137])) _
      refine XS.aconstNull X140.here hx rfl (hb hby at_103) ?_
      show Steps _ _ _ (T140.setTop (mkF m 104 #[vI p1, vJ q2, .second, vI p3, vI p4, vJ q5, .second, vJ q6, .second, vI 0, vI kv, vR ast, .val .null, vR b132, .unset, .unset, .unset, .unset] [.null, .null, iI p3, iJ q2, iR ast, .null, iJ q5, iR b138, iR b137, iR b137])) _
      refine XS.aload X140.here hx rfl (hb hby at_104) rfl rfl ?_
      show Steps _ _ _ (T140.setTop (mkF m 106 #[vI p1, vJ q2, .second, vI p3, vI p4, vJ q5, .second, vJ q6, .second, vI 0, vI kv, vR ast, .val .null, vR b132, .unset, .unset, .unset, .unset] [.null, .null, .null, iI p3, iJ q2, iR ast, .null, iJ q5, iR b138, iR b137, iR b137])) _
      refine XS.lload X140.here hx rfl (hb hby at_106) rfl ?_
      show Steps _ _ _ (T140.setTop (mkF m 108 #[vI p1, vJ q2, .second, vI p3, vI p4, vJ q5, .second, vJ q6, .second, vI 0, vI kv, vR ast, .val .null, vR b132, .unset, .unset, .unset, .unset] [iJ q6, .null, .null, .null, iI p3, iJ q2, iR ast, .null, iJ q5, iR b138, iR b137, iR b137])) _
      refine st144.trans ?_
      show Steps _ _ _ (T144.setTop (mkF m 111 #[vI p1, vJ q2, .second, vI p3, vI p4, vJ q5, .second, vJ q6, .second, vI 0, vI kv, vR ast, .val .null, vR b132, .unset, .unset, .unset, .unset] [iR b137])) _
      refine XS.astore X144.here hx rfl (hb hby at_111) rfl rfl (l' := #[vI p1, vJ q2, .second, vI p3, vI p4, vJ q5, .second, vJ q6, .second, vI 0, vI kv, vR ast, .val .null, vR b132, vR b137, .unset, .unset, .unset]) rfl ?_
      show Steps _ _ _ (T144.setTop (mkF m 113 #[vI p1, vJ q2, .second, vI p3, vI p4, vJ q5, .second, vJ q6, .second, vI 0, vI kv, vR ast, .val .null, vR b132, vR b137, .unset, .unset, .unset] [])) _
      refine XS.aload X144.here hx rfl (hb hby at_113) rfl rfl ?_
      show Steps _ _ _ (T144.setTop (mkF m 115 #[vI p1, vJ q2, .second, vI p3, vI p4, vJ q5, .second, vJ q6, .second, vI 0, vI kv, vR ast, .val .null, vR b132, vR b137, .unset, .unset, .unset] [iR b137])) _
      refine st156.trans ?_
      show Steps _ _ _ (T156.setTop (mkF m 118 #[vI p1, vJ q2, .second, vI p3, vI p4, vJ q5, .second, vJ q6, .second, vI 0, vI kv, vR ast, .val .null, vR b132, vR b137, .unset, .unset, .unset] [iI 0])) _
      refine XS.iload X156.here hx rfl (hb hby at_118) rfl ?_
      show Steps _ _ _ (T156.setTop (mkF m 120 #[vI p1, vJ q2, .second, vI p3, vI p4, vJ q5, .second, vJ q6, .second, vI 0, vI kv, vR ast, .val .null, vR b132, vR b137, .unset, .unset, .unset] [iI 0, iI 0])) _
      refine XS.icmpNo X156.here hx rfl (hb hby at_120) rfl (teq (by decide : (0 : Int32) = (0 : Int32))).2 ?_
      show Steps _ _ _ (T156.setTop (mkF m 123 #[vI p1, vJ q2, .second, vI p3, vI p4, vJ q5, .second, vJ q6, .second, vI 0, vI kv, vR ast, .val .null, vR b132, vR b137, .unset, .unset, .unset] [])) _
      refine XS.iconst X156.here hx rfl (hb hby at_123) ?_
      show Steps _ _ _ (T156.setTop (mkF m 124 #[vI p1, vJ q2, .second, vI p3, vI p4, vJ q5, .second, vJ q6, .second, vI 0, vI kv, vR ast, .val .null, vR b132, vR b137, .unset, .unset, .unset] [iI 1])) _
      refine XS.goto X156.here hx rfl (pc0 := 124) (pc' := 128) rfl (hb hby at_124) (by decide) (by decide) ?_
      show Steps _ _ _ (T156.setTop (mkF m 128 #[vI p1, vJ q2, .second, vI p3, vI p4, vJ q5, .second, vJ q6, .second, vI 0, vI kv, vR ast, .val .null, vR b132, vR b137, .unset, .unset, .unset] [iI 1])) _
      refine XS.istore X156.here hx rfl (hb hby at_128) rfl (l' := #[vI p1, vJ q2, .second, vI p3, vI p4, vJ q5, .second, vJ q6, .second, vI 0, vI kv, vR ast, .val .null, vR b132, vR b137, vI 1, .unset, .unset]) rfl ?_
      show Steps _ _ _ (T156.setTop (mkF m 130 #[vI p1, vJ q2, .second, vI p3, vI p4, vJ q5, .second, vJ q6, .second, vI 0, vI kv, vR ast, .val .null, vR b132, vR b137, vI 1, .unset, .unset] [])) _
      refine XS.iload X156.here hx rfl (hb hby at_130) rfl ?_
      show Steps _ _ _ (T156.setTop (mkF m 132 #[vI p1, vJ q2, .second, vI p3, vI p4, vJ q5, .second, vJ q6, .second, vI 0, vI kv, vR ast, .val .null, vR b132, vR b137, vI 1, .unset, .unset] [iI 0])) _
      refine XS.istore X156.here hx rfl (hb hby at_132) rfl (l' := #[vI p1, vJ q2, .second, vI p3, vI p4, vJ q5, .second, vJ q6, .second, vI 0, vI kv, vR ast, .val .null, vR b132, vR b137, vI 1, vI 0, .unset]) rfl ?_
      exact kt
    rcases qkv with rfl | rfl | rfl | rfl | rfl | rfl
    · obtain ⟨cq158, kq158, q158a, q158b, q158c⟩ := isOf hZ e156 E144q
      obtain ⟨_, _, ⟨T158, L158, k158, n158⟩, -, X158, ⟨Lc158, hQ158, l158, y158, z158⟩, st158⟩ := X156.virtualBack hx (y := (⟨"com/example/threefold/threefold/store/Activation", "withCounters", "(JI)Lcom/example/threefold/threefold/store/Activation;"⟩ : MethodName)) (z := (⟨"com/example/threefold/threefold/store/Activation", "withCounters", "(JI)Lcom/example/threefold/threefold/store/Activation;"⟩ : MethodName)) hown (mvT hZ (hw _ (List.mem_of_getElem? (i := 75) rfl))) (mvT hZ (hw _ (List.mem_of_getElem? (i := 76) rfl))) (notFace_of_selects (args := #[]) (mvT hZ (hw _ (List.mem_of_getElem? (i := 78) rfl)))) (mvT hZ (hw _ (List.mem_of_getElem? (i := 78) rfl))) (mvT hZ (hw _ (List.mem_of_getElem? (i := 77) rfl))) (by decide) (backOf (W := 0) (rm11_n l Z a0 hw [] b137 (q2 ^^^ (1 : Int64)) (p3 + (1 : Int32)) b138 ast q5 q2 q6 p3 T144.heap n0 (Nat.le_trans Z0 K144.1) E144q F144_activationId F144_applicationId F144_userId F144_status F144_counter F144_failedAttempts F144_blockedReason F144_code F144_device F144_createdAt) hZ (hw _ (List.mem_of_getElem? (i := 79) rfl)) (hw _ (List.mem_of_getElem? (i := 11) rfl)) (by decide) (by decide)) q158a q158c (g := (mkF m 147 #[vI p1, vJ q2, .second, vI p3, vI p4, vJ q5, .second, vJ q6, .second, vI 0, vI 0, vR ast, .val .null, vR b132, vR b137, vI 1, vI 0, .unset] [iI (p3 + (1 : Int32)), iJ (q2 ^^^ (1 : Int64)), iR b137])) rfl (by rw [hml]; rfl) (Steps.refl _) (argsL := [(.long (q2 ^^^ (1 : Int64))), (.int (p3 + (1 : Int32)))]) (rest := []) (lenOf pd_11 rfl) rfl (by show 2 * 0 + _ ≤ _; exact Nat.le_of_eq rfl) (hb hby at_147) (fun _ _ => ⟨rfl, e156, (by decide : 4 + 1 ≤ _), (by decide : 16 + 10 ≤ _)⟩)
      dsimp only [Pt.U, Pt.locs, Pt.cells, Pt.slots] at X158 l158 y158 z158 st158 hQ158
      subst l158 y158 z158
      obtain ⟨o158, rfl, N158q, K158q, E158q, F158q⟩ := hQ158
      have N158 := Fr.app N144 N158q
      have K158 : Keep h0 T158.heap [] := Keep.trans K144 K158q all0
      obtain ⟨cq159, kq159, q159a, q159b, q159c⟩ := isOf hZ rfl E158q
      obtain ⟨_, _, ⟨T159, L159, k159, n159⟩, -, X159, ⟨Lc159, hQ159, l159, y159, z159⟩, st159⟩ := X158.virtualBack hx (y := (⟨"com/example/threefold/threefold/store/Activation", "hasKeys", "()Z"⟩ : MethodName)) (z := (⟨"com/example/threefold/threefold/store/Activation", "hasKeys", "()Z"⟩ : MethodName)) hown (mvT hZ (hw _ (List.mem_of_getElem? (i := 70) rfl))) (mvT hZ (hw _ (List.mem_of_getElem? (i := 71) rfl))) (notFace_of_selects (args := #[]) (mvT hZ (hw _ (List.mem_of_getElem? (i := 73) rfl)))) (mvT hZ (hw _ (List.mem_of_getElem? (i := 73) rfl))) (mvT hZ (hw _ (List.mem_of_getElem? (i := 72) rfl))) (by decide) (backOf (W := 0) (rm10_n l Z a0 hw [] o158 T158.heap F158q) hZ (hw _ (List.mem_of_getElem? (i := 74) rfl)) (hw _ (List.mem_of_getElem? (i := 11) rfl)) (by decide) (by decide)) q159a q159c (g := (mkF m 256 #[vI p1, vJ q2, .second, vI p3, vI p4, vJ q5, .second, vJ q6, .second, vI 0, vI 0, vR ast, .val .null, vR b132, vR b137, vI 1, vI 0, vR o158] [iR o158])) rfl (by rw [hml]; rfl) (Steps.refl _) (argsL := []) (rest := []) (lenOf pd_10 rfl) rfl (by show 2 * 0 + _ ≤ _; exact Nat.le_of_eq rfl) (hb hby at_256) (fun _ _ => ⟨rfl, rfl, (by decide : 5 + 0 ≤ _), (by decide : 26 + 0 ≤ _)⟩)
      dsimp only [Pt.U, Pt.locs, Pt.cells, Pt.slots] at X159 l159 y159 z159 st159 hQ159
      subst l159 y159 z159
      obtain ⟨rfl, rfl, e159⟩ := hQ159
      try rw [List.append_nil] at X159
      obtain ⟨fs, hr, hrun, hended, hW, hsame⟩ := X159.leave (v := some (.int (1 : Int32))) (fun h => by rw [Bd.returns] at h; cases h)
      refine ⟨_, _, pre157 _ ?_, hrun, hended, _, _, rfl, ?_, ReturnedEndW.of_narrow ⟨_, rfl⟩ hW (hsame.mono (by decide) (by decide))⟩
      · show Steps _ _ _ (T156.setTop (mkF m 134 #[vI p1, vJ q2, .second, vI p3, vI p4, vJ q5, .second, vJ q6, .second, vI 0, vI 0, vR ast, .val .null, vR b132, vR b137, vI 1, vI 0, .unset] [])) _
        refine XS.iload X156.here hx rfl (hb hby at_134) rfl ?_
        show Steps _ _ _ (T156.setTop (mkF m 136 #[vI p1, vJ q2, .second, vI p3, vI p4, vJ q5, .second, vJ q6, .second, vI 0, vI 0, vR ast, .val .null, vR b132, vR b137, vI 1, vI 0, .unset] [iI 0])) _
        refine XS.ifNo X156.here hx rfl (hb hby at_136) rfl ((if0 _ _).trans (teq (by decide : (0 : Int32) = (0 : Int32))).2) ?_
        show Steps _ _ _ (T156.setTop (mkF m 139 #[vI p1, vJ q2, .second, vI p3, vI p4, vJ q5, .second, vJ q6, .second, vI 0, vI 0, vR ast, .val .null, vR b132, vR b137, vI 1, vI 0, .unset] [])) _
        refine XS.aload X156.here hx rfl (hb hby at_139) rfl rfl ?_
        show Steps _ _ _ (T156.setTop (mkF m 141 #[vI p1, vJ q2, .second, vI p3, vI p4, vJ q5, .second, vJ q6, .second, vI 0, vI 0, vR ast, .val .null, vR b132, vR b137, vI 1, vI 0, .unset] [iR b137])) _
        refine XS.lloadN X156.here hx rfl (hb hby at_141) rfl ?_
        show Steps _ _ _ (T156.setTop (mkF m 142 #[vI p1, vJ q2, .second, vI p3, vI p4, vJ q5, .second, vJ q6, .second, vI 0, vI 0, vR ast, .val .null, vR b132, vR b137, vI 1, vI 0, .unset] [iJ q2, iR b137])) _
        refine XS.lconst X156.here hx rfl (hb hby at_142) ?_
        show Steps _ _ _ (T156.setTop (mkF m 143 #[vI p1, vJ q2, .second, vI p3, vI p4, vJ q5, .second, vJ q6, .second, vI 0, vI 0, vR ast, .val .null, vR b132, vR b137, vI 1, vI 0, .unset] [iJ 1, iJ q2, iR b137])) _
        refine XS.lxor X156.here hx rfl (hb hby at_143) rfl ?_
        show Steps _ _ _ (T156.setTop (mkF m 144 #[vI p1, vJ q2, .second, vI p3, vI p4, vJ q5, .second, vJ q6, .second, vI 0, vI 0, vR ast, .val .null, vR b132, vR b137, vI 1, vI 0, .unset] [iJ (q2 ^^^ (1 : Int64)), iR b137])) _
        refine XS.iloadN X156.here hx rfl (hb hby at_144) rfl ?_
        show Steps _ _ _ (T156.setTop (mkF m 145 #[vI p1, vJ q2, .second, vI p3, vI p4, vJ q5, .second, vJ q6, .second, vI 0, vI 0, vR ast, .val .null, vR b132, vR b137, vI 1, vI 0, .unset] [iI p3, iJ (q2 ^^^ (1 : Int64)), iR b137])) _
        refine XS.iconst X156.here hx rfl (hb hby at_145) ?_
        show Steps _ _ _ (T156.setTop (mkF m 146 #[vI p1, vJ q2, .second, vI p3, vI p4, vJ q5, .second, vJ q6, .second, vI 0, vI 0, vR ast, .val .null, vR b132, vR b137, vI 1, vI 0, .unset] [iI 1, iI p3, iJ (q2 ^^^ (1 : Int64)), iR b137])) _
        refine XS.iadd X156.here hx rfl (hb hby at_146) rfl ?_
        show Steps _ _ _ (T156.setTop (mkF m 147 #[vI p1, vJ q2, .second, vI p3, vI p4, vJ q5, .second, vJ q6, .second, vI 0, vI 0, vR ast, .val .null, vR b132, vR b137, vI 1, vI 0, .unset] [iI (p3 + (1 : Int32)), iJ (q2 ^^^ (1 : Int64)), iR b137])) _
        refine st158.trans ?_
        show Steps _ _ _ (T158.setTop (mkF m 150 #[vI p1, vJ q2, .second, vI p3, vI p4, vJ q5, .second, vJ q6, .second, vI 0, vI 0, vR ast, .val .null, vR b132, vR b137, vI 1, vI 0, .unset] [iR o158])) _
        refine XS.astore X158.here hx rfl (hb hby at_150) rfl rfl (l' := #[vI p1, vJ q2, .second, vI p3, vI p4, vJ q5, .second, vJ q6, .second, vI 0, vI 0, vR ast, .val .null, vR b132, vR b137, vI 1, vI 0, vR o158]) rfl ?_
        show Steps _ _ _ (T158.setTop (mkF m 152 #[vI p1, vJ q2, .second, vI p3, vI p4, vJ q5, .second, vJ q6, .second, vI 0, vI 0, vR ast, .val .null, vR b132, vR b137, vI 1, vI 0, vR o158] [])) _
        refine XS.goto X158.here hx rfl (pc0 := 152) (pc' := 249) rfl (hb hby at_152) (by decide) (by decide) ?_
        show Steps _ _ _ (T158.setTop (mkF m 249 #[vI p1, vJ q2, .second, vI p3, vI p4, vJ q5, .second, vJ q6, .second, vI 0, vI 0, vR ast, .val .null, vR b132, vR b137, vI 1, vI 0, vR o158] [])) _
        refine XS.iload X158.here hx rfl (hb hby at_249) rfl ?_
        show Steps _ _ _ (T158.setTop (mkF m 251 #[vI p1, vJ q2, .second, vI p3, vI p4, vJ q5, .second, vJ q6, .second, vI 0, vI 0, vR ast, .val .null, vR b132, vR b137, vI 1, vI 0, vR o158] [iI 1])) _
        refine XS.ifNo X158.here hx rfl (hb hby at_251) rfl ((if0 _ _).trans (feq (by decide : ¬ ((1 : Int32) = (0 : Int32)))).1) ?_
        show Steps _ _ _ (T158.setTop (mkF m 254 #[vI p1, vJ q2, .second, vI p3, vI p4, vJ q5, .second, vJ q6, .second, vI 0, vI 0, vR ast, .val .null, vR b132, vR b137, vI 1, vI 0, vR o158] [])) _
        refine XS.aload X158.here hx rfl (hb hby at_254) rfl rfl ?_
        show Steps _ _ _ (T158.setTop (mkF m 256 #[vI p1, vJ q2, .second, vI p3, vI p4, vJ q5, .second, vJ q6, .second, vI 0, vI 0, vR ast, .val .null, vR b132, vR b137, vI 1, vI 0, vR o158] [iR o158])) _
        refine st159.trans ?_
        show Steps _ _ _ (T159.setTop (mkF m 259 #[vI p1, vJ q2, .second, vI p3, vI p4, vJ q5, .second, vJ q6, .second, vI 0, vI 0, vR ast, .val .null, vR b132, vR b137, vI 1, vI 0, vR o158] [iI 0])) _
        refine XS.iload X159.here hx rfl (hb hby at_259) rfl ?_
        show Steps _ _ _ (T159.setTop (mkF m 261 #[vI p1, vJ q2, .second, vI p3, vI p4, vJ q5, .second, vJ q6, .second, vI 0, vI 0, vR ast, .val .null, vR b132, vR b137, vI 1, vI 0, vR o158] [iI 0, iI 0])) _
        refine XS.icmpNo X159.here hx rfl (hb hby at_261) rfl (teq (by decide : (0 : Int32) = (0 : Int32))).2 ?_
        show Steps _ _ _ (T159.setTop (mkF m 264 #[vI p1, vJ q2, .second, vI p3, vI p4, vJ q5, .second, vJ q6, .second, vI 0, vI 0, vR ast, .val .null, vR b132, vR b137, vI 1, vI 0, vR o158] [])) _
        refine XS.iconst X159.here hx rfl (hb hby at_264) ?_
        show Steps _ _ _ (T159.setTop (mkF m 265 #[vI p1, vJ q2, .second, vI p3, vI p4, vJ q5, .second, vJ q6, .second, vI 0, vI 0, vR ast, .val .null, vR b132, vR b137, vI 1, vI 0, vR o158] [iI 1])) _
        refine XS.goto X159.here hx rfl (pc0 := 265) (pc' := 269) rfl (hb hby at_265) (by decide) (by decide) ?_
        show Steps _ _ _ (T159.setTop (mkF m 269 #[vI p1, vJ q2, .second, vI p3, vI p4, vJ q5, .second, vJ q6, .second, vI 0, vI 0, vR ast, .val .null, vR b132, vR b137, vI 1, vI 0, vR o158] [iI 1])) _
        exact retN X159 hx (t := .boolean) Bd.returns (by simp) (hb hby at_269) hr
      · show Q0 Z p1 q2 p3 p4 q5 q6 s_CREATED s_OTP_USED s_ACTIVE s_BLOCKED s_REMOVED cs h0 n0 _ T159.heap _
        rw [e159]
        exact ⟨rfl, N158⟩
    · have Oh161 := O0.keep K144 all0
      obtain ⟨cq160, kq160, q160a, q160b, q160c⟩ := isOf hZ e156 E144q
      obtain ⟨_, _, ⟨T160, L160, k160, n160⟩, -, X160, ⟨Lc160, hQ160, l160, y160, z160⟩, st160⟩ := X156.virtualBack hx (y := (⟨"com/example/threefold/threefold/store/Activation", "committed", "()Lcom/example/threefold/threefold/store/Activation;"⟩ : MethodName)) (z := (⟨"com/example/threefold/threefold/store/Activation", "committed", "()Lcom/example/threefold/threefold/store/Activation;"⟩ : MethodName)) hown (mvT hZ (hw _ (List.mem_of_getElem? (i := 128) rfl))) (mvT hZ (hw _ (List.mem_of_getElem? (i := 129) rfl))) (notFace_of_selects (args := #[]) (mvT hZ (hw _ (List.mem_of_getElem? (i := 131) rfl)))) (mvT hZ (hw _ (List.mem_of_getElem? (i := 131) rfl))) (mvT hZ (hw _ (List.mem_of_getElem? (i := 130) rfl))) (by decide) (backOf (W := 0) (rm17_n l Z a0 hw [] b137 b138 ast q5 q2 q6 p3 s_CREATED s_OTP_USED s_ACTIVE s_BLOCKED s_REMOVED T144.heap n0 (Nat.le_trans Z0 K144.1) Oh161 E144q F144_activationId F144_applicationId F144_userId F144_status F144_counter F144_failedAttempts F144_blockedReason F144_code F144_device F144_createdAt S_CREATED S_OTP_USED S_ACTIVE S_BLOCKED S_REMOVED) hZ (hw _ (List.mem_of_getElem? (i := 132) rfl)) (hw _ (List.mem_of_getElem? (i := 11) rfl)) (by decide) (by decide)) q160a q160c (g := (mkF m 163 #[vI p1, vJ q2, .second, vI p3, vI p4, vJ q5, .second, vJ q6, .second, vI 0, vI 1, vR ast, .val .null, vR b132, vR b137, vI 1, vI 0, .unset] [iR b137])) rfl (by rw [hml]; rfl) (Steps.refl _) (argsL := []) (rest := []) (lenOf pd_12 rfl) rfl (by show 2 * 0 + _ ≤ _; exact Nat.le_of_eq rfl) (hb hby at_163) (fun _ _ => ⟨rfl, e156, (by decide : 4 + 1 ≤ _), (by decide : 16 + 10 ≤ _)⟩)
      dsimp only [Pt.U, Pt.locs, Pt.cells, Pt.slots] at X160 l160 y160 z160 st160 hQ160
      subst l160 y160 z160
      obtain ⟨o160, rfl, N160q, K160q, E160q, F160q⟩ := hQ160
      have N160 := Fr.app N144 N160q
      have K160 : Keep h0 T160.heap [] := Keep.trans K144 K160q all0
      obtain ⟨cq162, kq162, q162a, q162b, q162c⟩ := isOf hZ rfl E160q
      obtain ⟨_, _, ⟨T162, L162, k162, n162⟩, -, X162, ⟨Lc162, hQ162, l162, y162, z162⟩, st162⟩ := X160.virtualBack hx (y := (⟨"com/example/threefold/threefold/store/Activation", "hasKeys", "()Z"⟩ : MethodName)) (z := (⟨"com/example/threefold/threefold/store/Activation", "hasKeys", "()Z"⟩ : MethodName)) hown (mvT hZ (hw _ (List.mem_of_getElem? (i := 70) rfl))) (mvT hZ (hw _ (List.mem_of_getElem? (i := 71) rfl))) (notFace_of_selects (args := #[]) (mvT hZ (hw _ (List.mem_of_getElem? (i := 73) rfl)))) (mvT hZ (hw _ (List.mem_of_getElem? (i := 73) rfl))) (mvT hZ (hw _ (List.mem_of_getElem? (i := 72) rfl))) (by decide) (backOf (W := 0) (rm10_n l Z a0 hw [] o160 T160.heap F160q) hZ (hw _ (List.mem_of_getElem? (i := 74) rfl)) (hw _ (List.mem_of_getElem? (i := 11) rfl)) (by decide) (by decide)) q162a q162c (g := (mkF m 256 #[vI p1, vJ q2, .second, vI p3, vI p4, vJ q5, .second, vJ q6, .second, vI 0, vI 1, vR ast, .val .null, vR b132, vR b137, vI 1, vI 0, vR o160] [iR o160])) rfl (by rw [hml]; rfl) (Steps.refl _) (argsL := []) (rest := []) (lenOf pd_10 rfl) rfl (by show 2 * 0 + _ ≤ _; exact Nat.le_of_eq rfl) (hb hby at_256) (fun _ _ => ⟨rfl, rfl, (by decide : 5 + 0 ≤ _), (by decide : 26 + 0 ≤ _)⟩)
      dsimp only [Pt.U, Pt.locs, Pt.cells, Pt.slots] at X162 l162 y162 z162 st162 hQ162
      subst l162 y162 z162
      obtain ⟨rfl, rfl, e162⟩ := hQ162
      try rw [List.append_nil] at X162
      obtain ⟨fs, hr, hrun, hended, hW, hsame⟩ := X162.leave (v := some (.int (1 : Int32))) (fun h => by rw [Bd.returns] at h; cases h)
      refine ⟨_, _, pre157 _ ?_, hrun, hended, _, _, rfl, ?_, ReturnedEndW.of_narrow ⟨_, rfl⟩ hW (hsame.mono (by decide) (by decide))⟩
      · show Steps _ _ _ (T156.setTop (mkF m 134 #[vI p1, vJ q2, .second, vI p3, vI p4, vJ q5, .second, vJ q6, .second, vI 0, vI 1, vR ast, .val .null, vR b132, vR b137, vI 1, vI 0, .unset] [])) _
        refine XS.iload X156.here hx rfl (hb hby at_134) rfl ?_
        show Steps _ _ _ (T156.setTop (mkF m 136 #[vI p1, vJ q2, .second, vI p3, vI p4, vJ q5, .second, vJ q6, .second, vI 0, vI 1, vR ast, .val .null, vR b132, vR b137, vI 1, vI 0, .unset] [iI 1])) _
        refine XS.ifYes X156.here hx rfl (pc0 := 136) (pc' := 155) rfl (hb hby at_136) rfl ((if0 _ _).trans (feq (by decide : ¬ ((1 : Int32) = (0 : Int32)))).2) (by decide) (by decide) ?_
        show Steps _ _ _ (T156.setTop (mkF m 155 #[vI p1, vJ q2, .second, vI p3, vI p4, vJ q5, .second, vJ q6, .second, vI 0, vI 1, vR ast, .val .null, vR b132, vR b137, vI 1, vI 0, .unset] [])) _
        refine XS.iload X156.here hx rfl (hb hby at_155) rfl ?_
        show Steps _ _ _ (T156.setTop (mkF m 157 #[vI p1, vJ q2, .second, vI p3, vI p4, vJ q5, .second, vJ q6, .second, vI 0, vI 1, vR ast, .val .null, vR b132, vR b137, vI 1, vI 0, .unset] [iI 1])) _
        refine XS.iconst X156.here hx rfl (hb hby at_157) ?_
        show Steps _ _ _ (T156.setTop (mkF m 158 #[vI p1, vJ q2, .second, vI p3, vI p4, vJ q5, .second, vJ q6, .second, vI 0, vI 1, vR ast, .val .null, vR b132, vR b137, vI 1, vI 0, .unset] [iI 1, iI 1])) _
        refine XS.icmpNo X156.here hx rfl (hb hby at_158) rfl (teq (by decide : (1 : Int32) = (1 : Int32))).2 ?_
        show Steps _ _ _ (T156.setTop (mkF m 161 #[vI p1, vJ q2, .second, vI p3, vI p4, vJ q5, .second, vJ q6, .second, vI 0, vI 1, vR ast, .val .null, vR b132, vR b137, vI 1, vI 0, .unset] [])) _
        refine XS.aload X156.here hx rfl (hb hby at_161) rfl rfl ?_
        show Steps _ _ _ (T156.setTop (mkF m 163 #[vI p1, vJ q2, .second, vI p3, vI p4, vJ q5, .second, vJ q6, .second, vI 0, vI 1, vR ast, .val .null, vR b132, vR b137, vI 1, vI 0, .unset] [iR b137])) _
        refine st160.trans ?_
        show Steps _ _ _ (T160.setTop (mkF m 166 #[vI p1, vJ q2, .second, vI p3, vI p4, vJ q5, .second, vJ q6, .second, vI 0, vI 1, vR ast, .val .null, vR b132, vR b137, vI 1, vI 0, .unset] [iR o160])) _
        refine XS.astore X160.here hx rfl (hb hby at_166) rfl rfl (l' := #[vI p1, vJ q2, .second, vI p3, vI p4, vJ q5, .second, vJ q6, .second, vI 0, vI 1, vR ast, .val .null, vR b132, vR b137, vI 1, vI 0, vR o160]) rfl ?_
        show Steps _ _ _ (T160.setTop (mkF m 168 #[vI p1, vJ q2, .second, vI p3, vI p4, vJ q5, .second, vJ q6, .second, vI 0, vI 1, vR ast, .val .null, vR b132, vR b137, vI 1, vI 0, vR o160] [])) _
        refine XS.goto X160.here hx rfl (pc0 := 168) (pc' := 249) rfl (hb hby at_168) (by decide) (by decide) ?_
        show Steps _ _ _ (T160.setTop (mkF m 249 #[vI p1, vJ q2, .second, vI p3, vI p4, vJ q5, .second, vJ q6, .second, vI 0, vI 1, vR ast, .val .null, vR b132, vR b137, vI 1, vI 0, vR o160] [])) _
        refine XS.iload X160.here hx rfl (hb hby at_249) rfl ?_
        show Steps _ _ _ (T160.setTop (mkF m 251 #[vI p1, vJ q2, .second, vI p3, vI p4, vJ q5, .second, vJ q6, .second, vI 0, vI 1, vR ast, .val .null, vR b132, vR b137, vI 1, vI 0, vR o160] [iI 1])) _
        refine XS.ifNo X160.here hx rfl (hb hby at_251) rfl ((if0 _ _).trans (feq (by decide : ¬ ((1 : Int32) = (0 : Int32)))).1) ?_
        show Steps _ _ _ (T160.setTop (mkF m 254 #[vI p1, vJ q2, .second, vI p3, vI p4, vJ q5, .second, vJ q6, .second, vI 0, vI 1, vR ast, .val .null, vR b132, vR b137, vI 1, vI 0, vR o160] [])) _
        refine XS.aload X160.here hx rfl (hb hby at_254) rfl rfl ?_
        show Steps _ _ _ (T160.setTop (mkF m 256 #[vI p1, vJ q2, .second, vI p3, vI p4, vJ q5, .second, vJ q6, .second, vI 0, vI 1, vR ast, .val .null, vR b132, vR b137, vI 1, vI 0, vR o160] [iR o160])) _
        refine st162.trans ?_
        show Steps _ _ _ (T162.setTop (mkF m 259 #[vI p1, vJ q2, .second, vI p3, vI p4, vJ q5, .second, vJ q6, .second, vI 0, vI 1, vR ast, .val .null, vR b132, vR b137, vI 1, vI 0, vR o160] [iI 0])) _
        refine XS.iload X162.here hx rfl (hb hby at_259) rfl ?_
        show Steps _ _ _ (T162.setTop (mkF m 261 #[vI p1, vJ q2, .second, vI p3, vI p4, vJ q5, .second, vJ q6, .second, vI 0, vI 1, vR ast, .val .null, vR b132, vR b137, vI 1, vI 0, vR o160] [iI 0, iI 0])) _
        refine XS.icmpNo X162.here hx rfl (hb hby at_261) rfl (teq (by decide : (0 : Int32) = (0 : Int32))).2 ?_
        show Steps _ _ _ (T162.setTop (mkF m 264 #[vI p1, vJ q2, .second, vI p3, vI p4, vJ q5, .second, vJ q6, .second, vI 0, vI 1, vR ast, .val .null, vR b132, vR b137, vI 1, vI 0, vR o160] [])) _
        refine XS.iconst X162.here hx rfl (hb hby at_264) ?_
        show Steps _ _ _ (T162.setTop (mkF m 265 #[vI p1, vJ q2, .second, vI p3, vI p4, vJ q5, .second, vJ q6, .second, vI 0, vI 1, vR ast, .val .null, vR b132, vR b137, vI 1, vI 0, vR o160] [iI 1])) _
        refine XS.goto X162.here hx rfl (pc0 := 265) (pc' := 269) rfl (hb hby at_265) (by decide) (by decide) ?_
        show Steps _ _ _ (T162.setTop (mkF m 269 #[vI p1, vJ q2, .second, vI p3, vI p4, vJ q5, .second, vJ q6, .second, vI 0, vI 1, vR ast, .val .null, vR b132, vR b137, vI 1, vI 0, vR o160] [iI 1])) _
        exact retN X162 hx (t := .boolean) Bd.returns (by simp) (hb hby at_269) hr
      · show Q0 Z p1 q2 p3 p4 q5 q6 s_CREATED s_OTP_USED s_ACTIVE s_BLOCKED s_REMOVED cs h0 n0 _ T162.heap _
        rw [e162]
        exact ⟨rfl, N160⟩
    · obtain ⟨la163, T163, h163, kk163, X163, e163, E163, hS163, hk163, hZ, hown, st163⟩ := ldcS (s := s) (vm0 := s.vm) X156 hx hZ hown (hw _ (List.mem_of_getElem? (i := 134) rfl)) (own_strAtoms hw) e156 ((State.WarmedH.refl s).since 0) (Nat.zero_le _) (g := (mkF m 179 #[vI p1, vJ q2, .second, vI p3, vI p4, vJ q5, .second, vJ q6, .second, vI 0, vI 2, vR ast, .val .null, vR b132, vR b137, vI 1, vI 0, .unset] [iR b137])) rfl (hb hby at_179) (n := 4) (by decide) (by decide) (by decide) (by decide)
      have K163 : Keep h0 h163 [] := K144.ext E163
      have fk165 := (E144q.ext E163)
      have fk166 := (F144_activationId.ext E163)
      have fk167 := (F144_applicationId.ext E163)
      have fk168 := (F144_userId.ext E163)
      have fk169 := (F144_status.ext E163)
      have fk170 := (F144_counter.ext E163)
      have fk171 := (F144_failedAttempts.ext E163)
      have fk172 := (F144_blockedReason.ext E163)
      have fk173 := (F144_code.ext E163)
      have fk174 := (F144_device.ext E163)
      have fk175 := (F144_createdAt.ext E163)
      have Oh176 := O0.keep K163 all0
      obtain ⟨cq164, kq164, q164a, q164b, q164c⟩ := isOf hZ e163 fk165
      obtain ⟨_, _, ⟨T164, L164, k164, n164⟩, -, X164, ⟨Lc164, hQ164, l164, y164, z164⟩, st164⟩ := X163.virtualBack hx (y := (⟨"com/example/threefold/threefold/store/Activation", "blocked", "(Ljava/lang/String;)Lcom/example/threefold/threefold/store/Activation;"⟩ : MethodName)) (z := (⟨"com/example/threefold/threefold/store/Activation", "blocked", "(Ljava/lang/String;)Lcom/example/threefold/threefold/store/Activation;"⟩ : MethodName)) hown (mvT hZ (hw _ (List.mem_of_getElem? (i := 137) rfl))) (mvT hZ (hw _ (List.mem_of_getElem? (i := 138) rfl))) (notFace_of_selects (args := #[]) (mvT hZ (hw _ (List.mem_of_getElem? (i := 140) rfl)))) (mvT hZ (hw _ (List.mem_of_getElem? (i := 140) rfl))) (mvT hZ (hw _ (List.mem_of_getElem? (i := 139) rfl))) (by decide) (backOf (W := 0) (rm18_n l Z a0 hw [] b137 la163 b138 ast q5 q2 q6 p3 s_CREATED s_OTP_USED s_ACTIVE s_BLOCKED s_REMOVED h163 n0 (Nat.le_trans Z0 K163.1) Oh176 fk165 fk166 fk167 fk168 fk169 fk170 fk171 fk172 fk173 fk174 fk175 S_CREATED S_OTP_USED S_ACTIVE S_BLOCKED S_REMOVED) hZ (hw _ (List.mem_of_getElem? (i := 141) rfl)) (hw _ (List.mem_of_getElem? (i := 11) rfl)) (by decide) (by decide)) q164a q164c (g := (mkF m 181 #[vI p1, vJ q2, .second, vI p3, vI p4, vJ q5, .second, vJ q6, .second, vI 0, vI 2, vR ast, .val .null, vR b132, vR b137, vI 1, vI 0, .unset] [iR la163, iR b137])) rfl (by rw [hml]; rfl) (Steps.refl _) (argsL := [(.ref la163)]) (rest := []) (lenOf pd_13 rfl) rfl (by show 2 * 0 + _ ≤ _; exact Nat.le_of_eq rfl) (hb hby at_181) (fun _ _ => ⟨rfl, e163, (by decide : 6 + 1 ≤ _), (by decide : 24 + 10 ≤ _)⟩)
      dsimp only [Pt.U, Pt.locs, Pt.cells, Pt.slots] at X164 l164 y164 z164 st164 hQ164
      subst l164 y164 z164
      obtain ⟨o164, rfl, N164q, K164q, E164q, F164q⟩ := hQ164
      have N164 := Fr.app N144 N164q
      have K164 : Keep h0 T164.heap [] := Keep.trans K163 K164q all0
      obtain ⟨cq177, kq177, q177a, q177b, q177c⟩ := isOf hZ rfl E164q
      obtain ⟨_, _, ⟨T177, L177, k177, n177⟩, -, X177, ⟨Lc177, hQ177, l177, y177, z177⟩, st177⟩ := X164.virtualBack hx (y := (⟨"com/example/threefold/threefold/store/Activation", "hasKeys", "()Z"⟩ : MethodName)) (z := (⟨"com/example/threefold/threefold/store/Activation", "hasKeys", "()Z"⟩ : MethodName)) hown (mvT hZ (hw _ (List.mem_of_getElem? (i := 70) rfl))) (mvT hZ (hw _ (List.mem_of_getElem? (i := 71) rfl))) (notFace_of_selects (args := #[]) (mvT hZ (hw _ (List.mem_of_getElem? (i := 73) rfl)))) (mvT hZ (hw _ (List.mem_of_getElem? (i := 73) rfl))) (mvT hZ (hw _ (List.mem_of_getElem? (i := 72) rfl))) (by decide) (backOf (W := 0) (rm10_n l Z a0 hw [] o164 T164.heap F164q) hZ (hw _ (List.mem_of_getElem? (i := 74) rfl)) (hw _ (List.mem_of_getElem? (i := 11) rfl)) (by decide) (by decide)) q177a q177c (g := (mkF m 256 #[vI p1, vJ q2, .second, vI p3, vI p4, vJ q5, .second, vJ q6, .second, vI 0, vI 2, vR ast, .val .null, vR b132, vR b137, vI 1, vI 0, vR o164] [iR o164])) rfl (by rw [hml]; rfl) (Steps.refl _) (argsL := []) (rest := []) (lenOf pd_10 rfl) rfl (by show 2 * 0 + _ ≤ _; exact Nat.le_of_eq rfl) (hb hby at_256) (fun _ _ => ⟨rfl, rfl, (by decide : 7 + 0 ≤ _), (by decide : 34 + 0 ≤ _)⟩)
      dsimp only [Pt.U, Pt.locs, Pt.cells, Pt.slots] at X177 l177 y177 z177 st177 hQ177
      subst l177 y177 z177
      obtain ⟨rfl, rfl, e177⟩ := hQ177
      try rw [List.append_nil] at X177
      obtain ⟨fs, hr, hrun, hended, hEnd⟩ := X177.leaveW hS163 (by rw [e177]; exact (Nat.le_trans hk163 K164q.1)) (v := some (.int (1 : Int32))) (fun h => by rw [Bd.returns] at h; cases h)
      refine ⟨_, _, pre157 _ ?_, hrun, hended, _, _, rfl, ?_, ⟨hEnd.1, hEnd.2.1, hEnd.2.2.1, hEnd.2.2.2.mono (by decide) (by decide)⟩⟩
      · show Steps _ _ _ (T156.setTop (mkF m 134 #[vI p1, vJ q2, .second, vI p3, vI p4, vJ q5, .second, vJ q6, .second, vI 0, vI 2, vR ast, .val .null, vR b132, vR b137, vI 1, vI 0, .unset] [])) _
        refine XS.iload X156.here hx rfl (hb hby at_134) rfl ?_
        show Steps _ _ _ (T156.setTop (mkF m 136 #[vI p1, vJ q2, .second, vI p3, vI p4, vJ q5, .second, vJ q6, .second, vI 0, vI 2, vR ast, .val .null, vR b132, vR b137, vI 1, vI 0, .unset] [iI 2])) _
        refine XS.ifYes X156.here hx rfl (pc0 := 136) (pc' := 155) rfl (hb hby at_136) rfl ((if0 _ _).trans (feq (by decide : ¬ ((2 : Int32) = (0 : Int32)))).2) (by decide) (by decide) ?_
        show Steps _ _ _ (T156.setTop (mkF m 155 #[vI p1, vJ q2, .second, vI p3, vI p4, vJ q5, .second, vJ q6, .second, vI 0, vI 2, vR ast, .val .null, vR b132, vR b137, vI 1, vI 0, .unset] [])) _
        refine XS.iload X156.here hx rfl (hb hby at_155) rfl ?_
        show Steps _ _ _ (T156.setTop (mkF m 157 #[vI p1, vJ q2, .second, vI p3, vI p4, vJ q5, .second, vJ q6, .second, vI 0, vI 2, vR ast, .val .null, vR b132, vR b137, vI 1, vI 0, .unset] [iI 2])) _
        refine XS.iconst X156.here hx rfl (hb hby at_157) ?_
        show Steps _ _ _ (T156.setTop (mkF m 158 #[vI p1, vJ q2, .second, vI p3, vI p4, vJ q5, .second, vJ q6, .second, vI 0, vI 2, vR ast, .val .null, vR b132, vR b137, vI 1, vI 0, .unset] [iI 1, iI 2])) _
        refine XS.icmpYes X156.here hx rfl (pc0 := 158) (pc' := 171) rfl (hb hby at_158) rfl (feq (by decide : ¬ ((2 : Int32) = (1 : Int32)))).2 (by decide) (by decide) ?_
        show Steps _ _ _ (T156.setTop (mkF m 171 #[vI p1, vJ q2, .second, vI p3, vI p4, vJ q5, .second, vJ q6, .second, vI 0, vI 2, vR ast, .val .null, vR b132, vR b137, vI 1, vI 0, .unset] [])) _
        refine XS.iload X156.here hx rfl (hb hby at_171) rfl ?_
        show Steps _ _ _ (T156.setTop (mkF m 173 #[vI p1, vJ q2, .second, vI p3, vI p4, vJ q5, .second, vJ q6, .second, vI 0, vI 2, vR ast, .val .null, vR b132, vR b137, vI 1, vI 0, .unset] [iI 2])) _
        refine XS.iconst X156.here hx rfl (hb hby at_173) ?_
        show Steps _ _ _ (T156.setTop (mkF m 174 #[vI p1, vJ q2, .second, vI p3, vI p4, vJ q5, .second, vJ q6, .second, vI 0, vI 2, vR ast, .val .null, vR b132, vR b137, vI 1, vI 0, .unset] [iI 2, iI 2])) _
        refine XS.icmpNo X156.here hx rfl (hb hby at_174) rfl (teq (by decide : (2 : Int32) = (2 : Int32))).2 ?_
        show Steps _ _ _ (T156.setTop (mkF m 177 #[vI p1, vJ q2, .second, vI p3, vI p4, vJ q5, .second, vJ q6, .second, vI 0, vI 2, vR ast, .val .null, vR b132, vR b137, vI 1, vI 0, .unset] [])) _
        refine XS.aload X156.here hx rfl (hb hby at_177) rfl rfl ?_
        show Steps _ _ _ (T156.setTop (mkF m 179 #[vI p1, vJ q2, .second, vI p3, vI p4, vJ q5, .second, vJ q6, .second, vI 0, vI 2, vR ast, .val .null, vR b132, vR b137, vI 1, vI 0, .unset] [iR b137])) _
        refine st163 _ ?_
        show Steps _ _ _ (T163.setTop (mkF m 181 #[vI p1, vJ q2, .second, vI p3, vI p4, vJ q5, .second, vJ q6, .second, vI 0, vI 2, vR ast, .val .null, vR b132, vR b137, vI 1, vI 0, .unset] [iR la163, iR b137])) _
        refine st164.trans ?_
        show Steps _ _ _ (T164.setTop (mkF m 184 #[vI p1, vJ q2, .second, vI p3, vI p4, vJ q5, .second, vJ q6, .second, vI 0, vI 2, vR ast, .val .null, vR b132, vR b137, vI 1, vI 0, .unset] [iR o164])) _
        refine XS.astore X164.here hx rfl (hb hby at_184) rfl rfl (l' := #[vI p1, vJ q2, .second, vI p3, vI p4, vJ q5, .second, vJ q6, .second, vI 0, vI 2, vR ast, .val .null, vR b132, vR b137, vI 1, vI 0, vR o164]) rfl ?_
        show Steps _ _ _ (T164.setTop (mkF m 186 #[vI p1, vJ q2, .second, vI p3, vI p4, vJ q5, .second, vJ q6, .second, vI 0, vI 2, vR ast, .val .null, vR b132, vR b137, vI 1, vI 0, vR o164] [])) _
        refine XS.goto X164.here hx rfl (pc0 := 186) (pc' := 249) rfl (hb hby at_186) (by decide) (by decide) ?_
        show Steps _ _ _ (T164.setTop (mkF m 249 #[vI p1, vJ q2, .second, vI p3, vI p4, vJ q5, .second, vJ q6, .second, vI 0, vI 2, vR ast, .val .null, vR b132, vR b137, vI 1, vI 0, vR o164] [])) _
        refine XS.iload X164.here hx rfl (hb hby at_249) rfl ?_
        show Steps _ _ _ (T164.setTop (mkF m 251 #[vI p1, vJ q2, .second, vI p3, vI p4, vJ q5, .second, vJ q6, .second, vI 0, vI 2, vR ast, .val .null, vR b132, vR b137, vI 1, vI 0, vR o164] [iI 1])) _
        refine XS.ifNo X164.here hx rfl (hb hby at_251) rfl ((if0 _ _).trans (feq (by decide : ¬ ((1 : Int32) = (0 : Int32)))).1) ?_
        show Steps _ _ _ (T164.setTop (mkF m 254 #[vI p1, vJ q2, .second, vI p3, vI p4, vJ q5, .second, vJ q6, .second, vI 0, vI 2, vR ast, .val .null, vR b132, vR b137, vI 1, vI 0, vR o164] [])) _
        refine XS.aload X164.here hx rfl (hb hby at_254) rfl rfl ?_
        show Steps _ _ _ (T164.setTop (mkF m 256 #[vI p1, vJ q2, .second, vI p3, vI p4, vJ q5, .second, vJ q6, .second, vI 0, vI 2, vR ast, .val .null, vR b132, vR b137, vI 1, vI 0, vR o164] [iR o164])) _
        refine st177.trans ?_
        show Steps _ _ _ (T177.setTop (mkF m 259 #[vI p1, vJ q2, .second, vI p3, vI p4, vJ q5, .second, vJ q6, .second, vI 0, vI 2, vR ast, .val .null, vR b132, vR b137, vI 1, vI 0, vR o164] [iI 0])) _
        refine XS.iload X177.here hx rfl (hb hby at_259) rfl ?_
        show Steps _ _ _ (T177.setTop (mkF m 261 #[vI p1, vJ q2, .second, vI p3, vI p4, vJ q5, .second, vJ q6, .second, vI 0, vI 2, vR ast, .val .null, vR b132, vR b137, vI 1, vI 0, vR o164] [iI 0, iI 0])) _
        refine XS.icmpNo X177.here hx rfl (hb hby at_261) rfl (teq (by decide : (0 : Int32) = (0 : Int32))).2 ?_
        show Steps _ _ _ (T177.setTop (mkF m 264 #[vI p1, vJ q2, .second, vI p3, vI p4, vJ q5, .second, vJ q6, .second, vI 0, vI 2, vR ast, .val .null, vR b132, vR b137, vI 1, vI 0, vR o164] [])) _
        refine XS.iconst X177.here hx rfl (hb hby at_264) ?_
        show Steps _ _ _ (T177.setTop (mkF m 265 #[vI p1, vJ q2, .second, vI p3, vI p4, vJ q5, .second, vJ q6, .second, vI 0, vI 2, vR ast, .val .null, vR b132, vR b137, vI 1, vI 0, vR o164] [iI 1])) _
        refine XS.goto X177.here hx rfl (pc0 := 265) (pc' := 269) rfl (hb hby at_265) (by decide) (by decide) ?_
        show Steps _ _ _ (T177.setTop (mkF m 269 #[vI p1, vJ q2, .second, vI p3, vI p4, vJ q5, .second, vJ q6, .second, vI 0, vI 2, vR ast, .val .null, vR b132, vR b137, vI 1, vI 0, vR o164] [iI 1])) _
        exact retN X177 hx (t := .boolean) Bd.returns (by simp) (hb hby at_269) hr
      · show Q0 Z p1 q2 p3 p4 q5 q6 s_CREATED s_OTP_USED s_ACTIVE s_BLOCKED s_REMOVED cs h0 n0 _ T177.heap _
        rw [e177]
        exact ⟨rfl, N164⟩
    · have Oh179 := O0.keep K144 all0
      obtain ⟨cq178, kq178, q178a, q178b, q178c⟩ := isOf hZ e156 E144q
      obtain ⟨_, _, ⟨T178, L178, k178, n178⟩, -, X178, ⟨Lc178, hQ178, l178, y178, z178⟩, st178⟩ := X156.virtualBack hx (y := (⟨"com/example/threefold/threefold/store/Activation", "unblocked", "()Lcom/example/threefold/threefold/store/Activation;"⟩ : MethodName)) (z := (⟨"com/example/threefold/threefold/store/Activation", "unblocked", "()Lcom/example/threefold/threefold/store/Activation;"⟩ : MethodName)) hown (mvT hZ (hw _ (List.mem_of_getElem? (i := 114) rfl))) (mvT hZ (hw _ (List.mem_of_getElem? (i := 115) rfl))) (notFace_of_selects (args := #[]) (mvT hZ (hw _ (List.mem_of_getElem? (i := 117) rfl)))) (mvT hZ (hw _ (List.mem_of_getElem? (i := 117) rfl))) (mvT hZ (hw _ (List.mem_of_getElem? (i := 116) rfl))) (by decide) (backOf (W := 0) (rm15_n l Z a0 hw [] b137 b138 ast q5 q2 q6 p3 s_CREATED s_OTP_USED s_ACTIVE s_BLOCKED s_REMOVED T144.heap n0 (Nat.le_trans Z0 K144.1) Oh179 E144q F144_activationId F144_applicationId F144_userId F144_status F144_counter F144_failedAttempts F144_blockedReason F144_code F144_device F144_createdAt S_CREATED S_OTP_USED S_ACTIVE S_BLOCKED S_REMOVED) hZ (hw _ (List.mem_of_getElem? (i := 118) rfl)) (hw _ (List.mem_of_getElem? (i := 11) rfl)) (by decide) (by decide)) q178a q178c (g := (mkF m 197 #[vI p1, vJ q2, .second, vI p3, vI p4, vJ q5, .second, vJ q6, .second, vI 0, vI 3, vR ast, .val .null, vR b132, vR b137, vI 1, vI 0, .unset] [iR b137])) rfl (by rw [hml]; rfl) (Steps.refl _) (argsL := []) (rest := []) (lenOf pd_12 rfl) rfl (by show 2 * 0 + _ ≤ _; exact Nat.le_of_eq rfl) (hb hby at_197) (fun _ _ => ⟨rfl, e156, (by decide : 4 + 1 ≤ _), (by decide : 16 + 10 ≤ _)⟩)
      dsimp only [Pt.U, Pt.locs, Pt.cells, Pt.slots] at X178 l178 y178 z178 st178 hQ178
      subst l178 y178 z178
      obtain ⟨o178, rfl, N178q, K178q, E178q, F178q⟩ := hQ178
      have N178 := Fr.app N144 N178q
      have K178 : Keep h0 T178.heap [] := Keep.trans K144 K178q all0
      obtain ⟨cq180, kq180, q180a, q180b, q180c⟩ := isOf hZ rfl E178q
      obtain ⟨_, _, ⟨T180, L180, k180, n180⟩, -, X180, ⟨Lc180, hQ180, l180, y180, z180⟩, st180⟩ := X178.virtualBack hx (y := (⟨"com/example/threefold/threefold/store/Activation", "hasKeys", "()Z"⟩ : MethodName)) (z := (⟨"com/example/threefold/threefold/store/Activation", "hasKeys", "()Z"⟩ : MethodName)) hown (mvT hZ (hw _ (List.mem_of_getElem? (i := 70) rfl))) (mvT hZ (hw _ (List.mem_of_getElem? (i := 71) rfl))) (notFace_of_selects (args := #[]) (mvT hZ (hw _ (List.mem_of_getElem? (i := 73) rfl)))) (mvT hZ (hw _ (List.mem_of_getElem? (i := 73) rfl))) (mvT hZ (hw _ (List.mem_of_getElem? (i := 72) rfl))) (by decide) (backOf (W := 0) (rm10_n l Z a0 hw [] o178 T178.heap F178q) hZ (hw _ (List.mem_of_getElem? (i := 74) rfl)) (hw _ (List.mem_of_getElem? (i := 11) rfl)) (by decide) (by decide)) q180a q180c (g := (mkF m 256 #[vI p1, vJ q2, .second, vI p3, vI p4, vJ q5, .second, vJ q6, .second, vI 0, vI 3, vR ast, .val .null, vR b132, vR b137, vI 1, vI 0, vR o178] [iR o178])) rfl (by rw [hml]; rfl) (Steps.refl _) (argsL := []) (rest := []) (lenOf pd_10 rfl) rfl (by show 2 * 0 + _ ≤ _; exact Nat.le_of_eq rfl) (hb hby at_256) (fun _ _ => ⟨rfl, rfl, (by decide : 5 + 0 ≤ _), (by decide : 26 + 0 ≤ _)⟩)
      dsimp only [Pt.U, Pt.locs, Pt.cells, Pt.slots] at X180 l180 y180 z180 st180 hQ180
      subst l180 y180 z180
      obtain ⟨rfl, rfl, e180⟩ := hQ180
      try rw [List.append_nil] at X180
      obtain ⟨fs, hr, hrun, hended, hW, hsame⟩ := X180.leave (v := some (.int (1 : Int32))) (fun h => by rw [Bd.returns] at h; cases h)
      refine ⟨_, _, pre157 _ ?_, hrun, hended, _, _, rfl, ?_, ReturnedEndW.of_narrow ⟨_, rfl⟩ hW (hsame.mono (by decide) (by decide))⟩
      · show Steps _ _ _ (T156.setTop (mkF m 134 #[vI p1, vJ q2, .second, vI p3, vI p4, vJ q5, .second, vJ q6, .second, vI 0, vI 3, vR ast, .val .null, vR b132, vR b137, vI 1, vI 0, .unset] [])) _
        refine XS.iload X156.here hx rfl (hb hby at_134) rfl ?_
        show Steps _ _ _ (T156.setTop (mkF m 136 #[vI p1, vJ q2, .second, vI p3, vI p4, vJ q5, .second, vJ q6, .second, vI 0, vI 3, vR ast, .val .null, vR b132, vR b137, vI 1, vI 0, .unset] [iI 3])) _
        refine XS.ifYes X156.here hx rfl (pc0 := 136) (pc' := 155) rfl (hb hby at_136) rfl ((if0 _ _).trans (feq (by decide : ¬ ((3 : Int32) = (0 : Int32)))).2) (by decide) (by decide) ?_
        show Steps _ _ _ (T156.setTop (mkF m 155 #[vI p1, vJ q2, .second, vI p3, vI p4, vJ q5, .second, vJ q6, .second, vI 0, vI 3, vR ast, .val .null, vR b132, vR b137, vI 1, vI 0, .unset] [])) _
        refine XS.iload X156.here hx rfl (hb hby at_155) rfl ?_
        show Steps _ _ _ (T156.setTop (mkF m 157 #[vI p1, vJ q2, .second, vI p3, vI p4, vJ q5, .second, vJ q6, .second, vI 0, vI 3, vR ast, .val .null, vR b132, vR b137, vI 1, vI 0, .unset] [iI 3])) _
        refine XS.iconst X156.here hx rfl (hb hby at_157) ?_
        show Steps _ _ _ (T156.setTop (mkF m 158 #[vI p1, vJ q2, .second, vI p3, vI p4, vJ q5, .second, vJ q6, .second, vI 0, vI 3, vR ast, .val .null, vR b132, vR b137, vI 1, vI 0, .unset] [iI 1, iI 3])) _
        refine XS.icmpYes X156.here hx rfl (pc0 := 158) (pc' := 171) rfl (hb hby at_158) rfl (feq (by decide : ¬ ((3 : Int32) = (1 : Int32)))).2 (by decide) (by decide) ?_
        show Steps _ _ _ (T156.setTop (mkF m 171 #[vI p1, vJ q2, .second, vI p3, vI p4, vJ q5, .second, vJ q6, .second, vI 0, vI 3, vR ast, .val .null, vR b132, vR b137, vI 1, vI 0, .unset] [])) _
        refine XS.iload X156.here hx rfl (hb hby at_171) rfl ?_
        show Steps _ _ _ (T156.setTop (mkF m 173 #[vI p1, vJ q2, .second, vI p3, vI p4, vJ q5, .second, vJ q6, .second, vI 0, vI 3, vR ast, .val .null, vR b132, vR b137, vI 1, vI 0, .unset] [iI 3])) _
        refine XS.iconst X156.here hx rfl (hb hby at_173) ?_
        show Steps _ _ _ (T156.setTop (mkF m 174 #[vI p1, vJ q2, .second, vI p3, vI p4, vJ q5, .second, vJ q6, .second, vI 0, vI 3, vR ast, .val .null, vR b132, vR b137, vI 1, vI 0, .unset] [iI 2, iI 3])) _
        refine XS.icmpYes X156.here hx rfl (pc0 := 174) (pc' := 189) rfl (hb hby at_174) rfl (feq (by decide : ¬ ((3 : Int32) = (2 : Int32)))).2 (by decide) (by decide) ?_
        show Steps _ _ _ (T156.setTop (mkF m 189 #[vI p1, vJ q2, .second, vI p3, vI p4, vJ q5, .second, vJ q6, .second, vI 0, vI 3, vR ast, .val .null, vR b132, vR b137, vI 1, vI 0, .unset] [])) _
        refine XS.iload X156.here hx rfl (hb hby at_189) rfl ?_
        show Steps _ _ _ (T156.setTop (mkF m 191 #[vI p1, vJ q2, .second, vI p3, vI p4, vJ q5, .second, vJ q6, .second, vI 0, vI 3, vR ast, .val .null, vR b132, vR b137, vI 1, vI 0, .unset] [iI 3])) _
        refine XS.iconst X156.here hx rfl (hb hby at_191) ?_
        show Steps _ _ _ (T156.setTop (mkF m 192 #[vI p1, vJ q2, .second, vI p3, vI p4, vJ q5, .second, vJ q6, .second, vI 0, vI 3, vR ast, .val .null, vR b132, vR b137, vI 1, vI 0, .unset] [iI 3, iI 3])) _
        refine XS.icmpNo X156.here hx rfl (hb hby at_192) rfl (teq (by decide : (3 : Int32) = (3 : Int32))).2 ?_
        show Steps _ _ _ (T156.setTop (mkF m 195 #[vI p1, vJ q2, .second, vI p3, vI p4, vJ q5, .second, vJ q6, .second, vI 0, vI 3, vR ast, .val .null, vR b132, vR b137, vI 1, vI 0, .unset] [])) _
        refine XS.aload X156.here hx rfl (hb hby at_195) rfl rfl ?_
        show Steps _ _ _ (T156.setTop (mkF m 197 #[vI p1, vJ q2, .second, vI p3, vI p4, vJ q5, .second, vJ q6, .second, vI 0, vI 3, vR ast, .val .null, vR b132, vR b137, vI 1, vI 0, .unset] [iR b137])) _
        refine st178.trans ?_
        show Steps _ _ _ (T178.setTop (mkF m 200 #[vI p1, vJ q2, .second, vI p3, vI p4, vJ q5, .second, vJ q6, .second, vI 0, vI 3, vR ast, .val .null, vR b132, vR b137, vI 1, vI 0, .unset] [iR o178])) _
        refine XS.astore X178.here hx rfl (hb hby at_200) rfl rfl (l' := #[vI p1, vJ q2, .second, vI p3, vI p4, vJ q5, .second, vJ q6, .second, vI 0, vI 3, vR ast, .val .null, vR b132, vR b137, vI 1, vI 0, vR o178]) rfl ?_
        show Steps _ _ _ (T178.setTop (mkF m 202 #[vI p1, vJ q2, .second, vI p3, vI p4, vJ q5, .second, vJ q6, .second, vI 0, vI 3, vR ast, .val .null, vR b132, vR b137, vI 1, vI 0, vR o178] [])) _
        refine XS.goto X178.here hx rfl (pc0 := 202) (pc' := 249) rfl (hb hby at_202) (by decide) (by decide) ?_
        show Steps _ _ _ (T178.setTop (mkF m 249 #[vI p1, vJ q2, .second, vI p3, vI p4, vJ q5, .second, vJ q6, .second, vI 0, vI 3, vR ast, .val .null, vR b132, vR b137, vI 1, vI 0, vR o178] [])) _
        refine XS.iload X178.here hx rfl (hb hby at_249) rfl ?_
        show Steps _ _ _ (T178.setTop (mkF m 251 #[vI p1, vJ q2, .second, vI p3, vI p4, vJ q5, .second, vJ q6, .second, vI 0, vI 3, vR ast, .val .null, vR b132, vR b137, vI 1, vI 0, vR o178] [iI 1])) _
        refine XS.ifNo X178.here hx rfl (hb hby at_251) rfl ((if0 _ _).trans (feq (by decide : ¬ ((1 : Int32) = (0 : Int32)))).1) ?_
        show Steps _ _ _ (T178.setTop (mkF m 254 #[vI p1, vJ q2, .second, vI p3, vI p4, vJ q5, .second, vJ q6, .second, vI 0, vI 3, vR ast, .val .null, vR b132, vR b137, vI 1, vI 0, vR o178] [])) _
        refine XS.aload X178.here hx rfl (hb hby at_254) rfl rfl ?_
        show Steps _ _ _ (T178.setTop (mkF m 256 #[vI p1, vJ q2, .second, vI p3, vI p4, vJ q5, .second, vJ q6, .second, vI 0, vI 3, vR ast, .val .null, vR b132, vR b137, vI 1, vI 0, vR o178] [iR o178])) _
        refine st180.trans ?_
        show Steps _ _ _ (T180.setTop (mkF m 259 #[vI p1, vJ q2, .second, vI p3, vI p4, vJ q5, .second, vJ q6, .second, vI 0, vI 3, vR ast, .val .null, vR b132, vR b137, vI 1, vI 0, vR o178] [iI 0])) _
        refine XS.iload X180.here hx rfl (hb hby at_259) rfl ?_
        show Steps _ _ _ (T180.setTop (mkF m 261 #[vI p1, vJ q2, .second, vI p3, vI p4, vJ q5, .second, vJ q6, .second, vI 0, vI 3, vR ast, .val .null, vR b132, vR b137, vI 1, vI 0, vR o178] [iI 0, iI 0])) _
        refine XS.icmpNo X180.here hx rfl (hb hby at_261) rfl (teq (by decide : (0 : Int32) = (0 : Int32))).2 ?_
        show Steps _ _ _ (T180.setTop (mkF m 264 #[vI p1, vJ q2, .second, vI p3, vI p4, vJ q5, .second, vJ q6, .second, vI 0, vI 3, vR ast, .val .null, vR b132, vR b137, vI 1, vI 0, vR o178] [])) _
        refine XS.iconst X180.here hx rfl (hb hby at_264) ?_
        show Steps _ _ _ (T180.setTop (mkF m 265 #[vI p1, vJ q2, .second, vI p3, vI p4, vJ q5, .second, vJ q6, .second, vI 0, vI 3, vR ast, .val .null, vR b132, vR b137, vI 1, vI 0, vR o178] [iI 1])) _
        refine XS.goto X180.here hx rfl (pc0 := 265) (pc' := 269) rfl (hb hby at_265) (by decide) (by decide) ?_
        show Steps _ _ _ (T180.setTop (mkF m 269 #[vI p1, vJ q2, .second, vI p3, vI p4, vJ q5, .second, vJ q6, .second, vI 0, vI 3, vR ast, .val .null, vR b132, vR b137, vI 1, vI 0, vR o178] [iI 1])) _
        exact retN X180 hx (t := .boolean) Bd.returns (by simp) (hb hby at_269) hr
      · show Q0 Z p1 q2 p3 p4 q5 q6 s_CREATED s_OTP_USED s_ACTIVE s_BLOCKED s_REMOVED cs h0 n0 _ T180.heap _
        rw [e180]
        exact ⟨rfl, N178⟩
    · have Oh182 := O0.keep K144 all0
      obtain ⟨cq181, kq181, q181a, q181b, q181c⟩ := isOf hZ e156 E144q
      obtain ⟨_, _, ⟨T181, L181, k181, n181⟩, -, X181, ⟨Lc181, hQ181, l181, y181, z181⟩, st181⟩ := X156.virtualBack hx (y := (⟨"com/example/threefold/threefold/store/Activation", "removed", "()Lcom/example/threefold/threefold/store/Activation;"⟩ : MethodName)) (z := (⟨"com/example/threefold/threefold/store/Activation", "removed", "()Lcom/example/threefold/threefold/store/Activation;"⟩ : MethodName)) hown (mvT hZ (hw _ (List.mem_of_getElem? (i := 101) rfl))) (mvT hZ (hw _ (List.mem_of_getElem? (i := 102) rfl))) (notFace_of_selects (args := #[]) (mvT hZ (hw _ (List.mem_of_getElem? (i := 104) rfl)))) (mvT hZ (hw _ (List.mem_of_getElem? (i := 104) rfl))) (mvT hZ (hw _ (List.mem_of_getElem? (i := 103) rfl))) (by decide) (backOf (W := 0) (rm13_n l Z a0 hw [] b137 b138 ast q5 q2 q6 p3 s_CREATED s_OTP_USED s_ACTIVE s_BLOCKED s_REMOVED T144.heap n0 (Nat.le_trans Z0 K144.1) Oh182 E144q F144_activationId F144_applicationId F144_userId F144_status F144_counter F144_failedAttempts F144_blockedReason F144_code F144_device F144_createdAt S_CREATED S_OTP_USED S_ACTIVE S_BLOCKED S_REMOVED) hZ (hw _ (List.mem_of_getElem? (i := 105) rfl)) (hw _ (List.mem_of_getElem? (i := 11) rfl)) (by decide) (by decide)) q181a q181c (g := (mkF m 213 #[vI p1, vJ q2, .second, vI p3, vI p4, vJ q5, .second, vJ q6, .second, vI 0, vI 4, vR ast, .val .null, vR b132, vR b137, vI 1, vI 0, .unset] [iR b137])) rfl (by rw [hml]; rfl) (Steps.refl _) (argsL := []) (rest := []) (lenOf pd_12 rfl) rfl (by show 2 * 0 + _ ≤ _; exact Nat.le_of_eq rfl) (hb hby at_213) (fun _ _ => ⟨rfl, e156, (by decide : 4 + 1 ≤ _), (by decide : 16 + 10 ≤ _)⟩)
      dsimp only [Pt.U, Pt.locs, Pt.cells, Pt.slots] at X181 l181 y181 z181 st181 hQ181
      subst l181 y181 z181
      obtain ⟨o181, rfl, N181q, K181q, E181q, F181q⟩ := hQ181
      have N181 := Fr.app N144 N181q
      have K181 : Keep h0 T181.heap [] := Keep.trans K144 K181q all0
      obtain ⟨cq183, kq183, q183a, q183b, q183c⟩ := isOf hZ rfl E181q
      obtain ⟨_, _, ⟨T183, L183, k183, n183⟩, -, X183, ⟨Lc183, hQ183, l183, y183, z183⟩, st183⟩ := X181.virtualBack hx (y := (⟨"com/example/threefold/threefold/store/Activation", "hasKeys", "()Z"⟩ : MethodName)) (z := (⟨"com/example/threefold/threefold/store/Activation", "hasKeys", "()Z"⟩ : MethodName)) hown (mvT hZ (hw _ (List.mem_of_getElem? (i := 70) rfl))) (mvT hZ (hw _ (List.mem_of_getElem? (i := 71) rfl))) (notFace_of_selects (args := #[]) (mvT hZ (hw _ (List.mem_of_getElem? (i := 73) rfl)))) (mvT hZ (hw _ (List.mem_of_getElem? (i := 73) rfl))) (mvT hZ (hw _ (List.mem_of_getElem? (i := 72) rfl))) (by decide) (backOf (W := 0) (rm10_n l Z a0 hw [] o181 T181.heap F181q) hZ (hw _ (List.mem_of_getElem? (i := 74) rfl)) (hw _ (List.mem_of_getElem? (i := 11) rfl)) (by decide) (by decide)) q183a q183c (g := (mkF m 256 #[vI p1, vJ q2, .second, vI p3, vI p4, vJ q5, .second, vJ q6, .second, vI 0, vI 4, vR ast, .val .null, vR b132, vR b137, vI 1, vI 0, vR o181] [iR o181])) rfl (by rw [hml]; rfl) (Steps.refl _) (argsL := []) (rest := []) (lenOf pd_10 rfl) rfl (by show 2 * 0 + _ ≤ _; exact Nat.le_of_eq rfl) (hb hby at_256) (fun _ _ => ⟨rfl, rfl, (by decide : 5 + 0 ≤ _), (by decide : 26 + 0 ≤ _)⟩)
      dsimp only [Pt.U, Pt.locs, Pt.cells, Pt.slots] at X183 l183 y183 z183 st183 hQ183
      subst l183 y183 z183
      obtain ⟨rfl, rfl, e183⟩ := hQ183
      try rw [List.append_nil] at X183
      obtain ⟨fs, hr, hrun, hended, hW, hsame⟩ := X183.leave (v := some (.int (1 : Int32))) (fun h => by rw [Bd.returns] at h; cases h)
      refine ⟨_, _, pre157 _ ?_, hrun, hended, _, _, rfl, ?_, ReturnedEndW.of_narrow ⟨_, rfl⟩ hW (hsame.mono (by decide) (by decide))⟩
      · show Steps _ _ _ (T156.setTop (mkF m 134 #[vI p1, vJ q2, .second, vI p3, vI p4, vJ q5, .second, vJ q6, .second, vI 0, vI 4, vR ast, .val .null, vR b132, vR b137, vI 1, vI 0, .unset] [])) _
        refine XS.iload X156.here hx rfl (hb hby at_134) rfl ?_
        show Steps _ _ _ (T156.setTop (mkF m 136 #[vI p1, vJ q2, .second, vI p3, vI p4, vJ q5, .second, vJ q6, .second, vI 0, vI 4, vR ast, .val .null, vR b132, vR b137, vI 1, vI 0, .unset] [iI 4])) _
        refine XS.ifYes X156.here hx rfl (pc0 := 136) (pc' := 155) rfl (hb hby at_136) rfl ((if0 _ _).trans (feq (by decide : ¬ ((4 : Int32) = (0 : Int32)))).2) (by decide) (by decide) ?_
        show Steps _ _ _ (T156.setTop (mkF m 155 #[vI p1, vJ q2, .second, vI p3, vI p4, vJ q5, .second, vJ q6, .second, vI 0, vI 4, vR ast, .val .null, vR b132, vR b137, vI 1, vI 0, .unset] [])) _
        refine XS.iload X156.here hx rfl (hb hby at_155) rfl ?_
        show Steps _ _ _ (T156.setTop (mkF m 157 #[vI p1, vJ q2, .second, vI p3, vI p4, vJ q5, .second, vJ q6, .second, vI 0, vI 4, vR ast, .val .null, vR b132, vR b137, vI 1, vI 0, .unset] [iI 4])) _
        refine XS.iconst X156.here hx rfl (hb hby at_157) ?_
        show Steps _ _ _ (T156.setTop (mkF m 158 #[vI p1, vJ q2, .second, vI p3, vI p4, vJ q5, .second, vJ q6, .second, vI 0, vI 4, vR ast, .val .null, vR b132, vR b137, vI 1, vI 0, .unset] [iI 1, iI 4])) _
        refine XS.icmpYes X156.here hx rfl (pc0 := 158) (pc' := 171) rfl (hb hby at_158) rfl (feq (by decide : ¬ ((4 : Int32) = (1 : Int32)))).2 (by decide) (by decide) ?_
        show Steps _ _ _ (T156.setTop (mkF m 171 #[vI p1, vJ q2, .second, vI p3, vI p4, vJ q5, .second, vJ q6, .second, vI 0, vI 4, vR ast, .val .null, vR b132, vR b137, vI 1, vI 0, .unset] [])) _
        refine XS.iload X156.here hx rfl (hb hby at_171) rfl ?_
        show Steps _ _ _ (T156.setTop (mkF m 173 #[vI p1, vJ q2, .second, vI p3, vI p4, vJ q5, .second, vJ q6, .second, vI 0, vI 4, vR ast, .val .null, vR b132, vR b137, vI 1, vI 0, .unset] [iI 4])) _
        refine XS.iconst X156.here hx rfl (hb hby at_173) ?_
        show Steps _ _ _ (T156.setTop (mkF m 174 #[vI p1, vJ q2, .second, vI p3, vI p4, vJ q5, .second, vJ q6, .second, vI 0, vI 4, vR ast, .val .null, vR b132, vR b137, vI 1, vI 0, .unset] [iI 2, iI 4])) _
        refine XS.icmpYes X156.here hx rfl (pc0 := 174) (pc' := 189) rfl (hb hby at_174) rfl (feq (by decide : ¬ ((4 : Int32) = (2 : Int32)))).2 (by decide) (by decide) ?_
        show Steps _ _ _ (T156.setTop (mkF m 189 #[vI p1, vJ q2, .second, vI p3, vI p4, vJ q5, .second, vJ q6, .second, vI 0, vI 4, vR ast, .val .null, vR b132, vR b137, vI 1, vI 0, .unset] [])) _
        refine XS.iload X156.here hx rfl (hb hby at_189) rfl ?_
        show Steps _ _ _ (T156.setTop (mkF m 191 #[vI p1, vJ q2, .second, vI p3, vI p4, vJ q5, .second, vJ q6, .second, vI 0, vI 4, vR ast, .val .null, vR b132, vR b137, vI 1, vI 0, .unset] [iI 4])) _
        refine XS.iconst X156.here hx rfl (hb hby at_191) ?_
        show Steps _ _ _ (T156.setTop (mkF m 192 #[vI p1, vJ q2, .second, vI p3, vI p4, vJ q5, .second, vJ q6, .second, vI 0, vI 4, vR ast, .val .null, vR b132, vR b137, vI 1, vI 0, .unset] [iI 3, iI 4])) _
        refine XS.icmpYes X156.here hx rfl (pc0 := 192) (pc' := 205) rfl (hb hby at_192) rfl (feq (by decide : ¬ ((4 : Int32) = (3 : Int32)))).2 (by decide) (by decide) ?_
        show Steps _ _ _ (T156.setTop (mkF m 205 #[vI p1, vJ q2, .second, vI p3, vI p4, vJ q5, .second, vJ q6, .second, vI 0, vI 4, vR ast, .val .null, vR b132, vR b137, vI 1, vI 0, .unset] [])) _
        refine XS.iload X156.here hx rfl (hb hby at_205) rfl ?_
        show Steps _ _ _ (T156.setTop (mkF m 207 #[vI p1, vJ q2, .second, vI p3, vI p4, vJ q5, .second, vJ q6, .second, vI 0, vI 4, vR ast, .val .null, vR b132, vR b137, vI 1, vI 0, .unset] [iI 4])) _
        refine XS.iconst X156.here hx rfl (hb hby at_207) ?_
        show Steps _ _ _ (T156.setTop (mkF m 208 #[vI p1, vJ q2, .second, vI p3, vI p4, vJ q5, .second, vJ q6, .second, vI 0, vI 4, vR ast, .val .null, vR b132, vR b137, vI 1, vI 0, .unset] [iI 4, iI 4])) _
        refine XS.icmpNo X156.here hx rfl (hb hby at_208) rfl (teq (by decide : (4 : Int32) = (4 : Int32))).2 ?_
        show Steps _ _ _ (T156.setTop (mkF m 211 #[vI p1, vJ q2, .second, vI p3, vI p4, vJ q5, .second, vJ q6, .second, vI 0, vI 4, vR ast, .val .null, vR b132, vR b137, vI 1, vI 0, .unset] [])) _
        refine XS.aload X156.here hx rfl (hb hby at_211) rfl rfl ?_
        show Steps _ _ _ (T156.setTop (mkF m 213 #[vI p1, vJ q2, .second, vI p3, vI p4, vJ q5, .second, vJ q6, .second, vI 0, vI 4, vR ast, .val .null, vR b132, vR b137, vI 1, vI 0, .unset] [iR b137])) _
        refine st181.trans ?_
        show Steps _ _ _ (T181.setTop (mkF m 216 #[vI p1, vJ q2, .second, vI p3, vI p4, vJ q5, .second, vJ q6, .second, vI 0, vI 4, vR ast, .val .null, vR b132, vR b137, vI 1, vI 0, .unset] [iR o181])) _
        refine XS.astore X181.here hx rfl (hb hby at_216) rfl rfl (l' := #[vI p1, vJ q2, .second, vI p3, vI p4, vJ q5, .second, vJ q6, .second, vI 0, vI 4, vR ast, .val .null, vR b132, vR b137, vI 1, vI 0, vR o181]) rfl ?_
        show Steps _ _ _ (T181.setTop (mkF m 218 #[vI p1, vJ q2, .second, vI p3, vI p4, vJ q5, .second, vJ q6, .second, vI 0, vI 4, vR ast, .val .null, vR b132, vR b137, vI 1, vI 0, vR o181] [])) _
        refine XS.goto X181.here hx rfl (pc0 := 218) (pc' := 249) rfl (hb hby at_218) (by decide) (by decide) ?_
        show Steps _ _ _ (T181.setTop (mkF m 249 #[vI p1, vJ q2, .second, vI p3, vI p4, vJ q5, .second, vJ q6, .second, vI 0, vI 4, vR ast, .val .null, vR b132, vR b137, vI 1, vI 0, vR o181] [])) _
        refine XS.iload X181.here hx rfl (hb hby at_249) rfl ?_
        show Steps _ _ _ (T181.setTop (mkF m 251 #[vI p1, vJ q2, .second, vI p3, vI p4, vJ q5, .second, vJ q6, .second, vI 0, vI 4, vR ast, .val .null, vR b132, vR b137, vI 1, vI 0, vR o181] [iI 1])) _
        refine XS.ifNo X181.here hx rfl (hb hby at_251) rfl ((if0 _ _).trans (feq (by decide : ¬ ((1 : Int32) = (0 : Int32)))).1) ?_
        show Steps _ _ _ (T181.setTop (mkF m 254 #[vI p1, vJ q2, .second, vI p3, vI p4, vJ q5, .second, vJ q6, .second, vI 0, vI 4, vR ast, .val .null, vR b132, vR b137, vI 1, vI 0, vR o181] [])) _
        refine XS.aload X181.here hx rfl (hb hby at_254) rfl rfl ?_
        show Steps _ _ _ (T181.setTop (mkF m 256 #[vI p1, vJ q2, .second, vI p3, vI p4, vJ q5, .second, vJ q6, .second, vI 0, vI 4, vR ast, .val .null, vR b132, vR b137, vI 1, vI 0, vR o181] [iR o181])) _
        refine st183.trans ?_
        show Steps _ _ _ (T183.setTop (mkF m 259 #[vI p1, vJ q2, .second, vI p3, vI p4, vJ q5, .second, vJ q6, .second, vI 0, vI 4, vR ast, .val .null, vR b132, vR b137, vI 1, vI 0, vR o181] [iI 0])) _
        refine XS.iload X183.here hx rfl (hb hby at_259) rfl ?_
        show Steps _ _ _ (T183.setTop (mkF m 261 #[vI p1, vJ q2, .second, vI p3, vI p4, vJ q5, .second, vJ q6, .second, vI 0, vI 4, vR ast, .val .null, vR b132, vR b137, vI 1, vI 0, vR o181] [iI 0, iI 0])) _
        refine XS.icmpNo X183.here hx rfl (hb hby at_261) rfl (teq (by decide : (0 : Int32) = (0 : Int32))).2 ?_
        show Steps _ _ _ (T183.setTop (mkF m 264 #[vI p1, vJ q2, .second, vI p3, vI p4, vJ q5, .second, vJ q6, .second, vI 0, vI 4, vR ast, .val .null, vR b132, vR b137, vI 1, vI 0, vR o181] [])) _
        refine XS.iconst X183.here hx rfl (hb hby at_264) ?_
        show Steps _ _ _ (T183.setTop (mkF m 265 #[vI p1, vJ q2, .second, vI p3, vI p4, vJ q5, .second, vJ q6, .second, vI 0, vI 4, vR ast, .val .null, vR b132, vR b137, vI 1, vI 0, vR o181] [iI 1])) _
        refine XS.goto X183.here hx rfl (pc0 := 265) (pc' := 269) rfl (hb hby at_265) (by decide) (by decide) ?_
        show Steps _ _ _ (T183.setTop (mkF m 269 #[vI p1, vJ q2, .second, vI p3, vI p4, vJ q5, .second, vJ q6, .second, vI 0, vI 4, vR ast, .val .null, vR b132, vR b137, vI 1, vI 0, vR o181] [iI 1])) _
        exact retN X183 hx (t := .boolean) Bd.returns (by simp) (hb hby at_269) hr
      · show Q0 Z p1 q2 p3 p4 q5 q6 s_CREATED s_OTP_USED s_ACTIVE s_BLOCKED s_REMOVED cs h0 n0 _ T183.heap _
        rw [e183]
        exact ⟨rfl, N181⟩
    · obtain ⟨T184, h184, X184, e184, E184, A184, D184, -, st184⟩ := newO X156 hx hZ hown (hw _ (List.mem_of_getElem? (i := 84) rfl)) (hw _ (List.mem_of_getElem? (i := 85) rfl)) (hw _ (List.mem_of_getElem? (i := 86) rfl)) e156 (g := (mkF m 223 #[vI p1, vJ q2, .second, vI p3, vI p4, vJ q5, .second, vJ q6, .second, vI 0, vI 5, vR ast, .val .null, vR b132, vR b137, vI 1, vI 0, .unset] [iR b137])) rfl (hb hby at_223) (by decide) (by decide)
      obtain ⟨b184, g184⟩ : ∃ z, z = T144.heap.size := ⟨_, rfl⟩
      rw [← g184] at A184 D184 st184
      have fk185 := ((fk141.keep K140q (ninS ne_b132_b138 nin0)).keep K144q (ninS ne_b132_b137 nin0))
      have ne_b132_b184 : b132 ≠ b184 := Nat.ne_of_lt (Nat.lt_of_lt_of_le fk185.lt (Nat.le_of_eq g184.symm))
      have ne_b137_b184 : b137 ≠ b184 := Nat.ne_of_lt (Nat.lt_of_lt_of_le E144q.lt (Nat.le_of_eq g184.symm))
      have fk186 := (E140q.keep K144q)
      have ne_b138_b184 : b138 ≠ b184 := Nat.ne_of_lt (Nat.lt_of_lt_of_le fk186.lt (Nat.le_of_eq g184.symm))
      have fk187 := (V140q.keep K144q (ninS (Ne.symm ne_b137_d140) nin0))
      have ne_d140_b184 : d140 ≠ b184 := Nat.ne_of_lt (Nat.lt_of_lt_of_le fk187.lt (Nat.le_of_eq g184.symm))
      have sz_b184 : h0.size ≤ b184 := Nat.le_trans K144.1 (Nat.le_of_eq g184.symm)
      have g_b184 : n0 ≤ b184 := Nat.le_trans Z0 sz_b184
      have K184 : Keep h0 h184 [] := K144.ext E184
      have F_serverPrivateKey_b184 : Fld Z h184 b184 "com/example/threefold/threefold/store/Device" "serverPrivateKey" "[B" .null := D184 (Or.inr (hw _ (List.mem_of_getElem? (i := 92) rfl))) (ty := (.array .byte)) (by decide)
      have F_devicePublicKey_b184 : Fld Z h184 b184 "com/example/threefold/threefold/store/Device" "devicePublicKey" "[B" .null := D184 (Or.inr (hw _ (List.mem_of_getElem? (i := 94) rfl))) (ty := (.array .byte)) (by decide)
      have F_masterSecret_b184 : Fld Z h184 b184 "com/example/threefold/threefold/store/Device" "masterSecret" "[B" .null := D184 (Or.inr (hw _ (List.mem_of_getElem? (i := 96) rfl))) (ty := (.array .byte)) (by decide)
      have F_activationName_b184 : Fld Z h184 b184 "com/example/threefold/threefold/store/Device" "activationName" "Ljava/lang/String;" .null := D184 (Or.inr (hw _ (List.mem_of_getElem? (i := 98) rfl))) (ty := (.object "java/lang/String")) (by decide)
      have F_extras_b184 : Fld Z h184 b184 "com/example/threefold/threefold/store/Device" "extras" "Ljava/lang/String;" .null := D184 (Or.inr (hw _ (List.mem_of_getElem? (i := 100) rfl))) (ty := (.object "java/lang/String")) (by decide)
      obtain ⟨T188, h188, k188, X188, e188, E188, A188, st188⟩ := newP X184 hx hZ (hw _ (List.mem_of_getElem? (i := 30) rfl)) e184 (g := (mkF m 229 #[vI p1, vJ q2, .second, vI p3, vI p4, vJ q5, .second, vJ q6, .second, vI 0, vI 5, vR ast, .val .null, vR b132, vR b137, vI 1, vI 0, .unset] [iI 32, iR b184, iR b184, iR b137])) rfl (hb hby at_229) rfl (by decide) (cap := 32) (by decide) (by decide) (by decide) (by decide)
      obtain ⟨b188, g188⟩ : ∃ z, z = h184.size := ⟨_, rfl⟩
      rw [← g188] at A188 st188
      have fk189 := (fk185.ext E184)
      have ne_b132_b188 : b132 ≠ b188 := Nat.ne_of_lt (Nat.lt_of_lt_of_le fk189.lt (Nat.le_of_eq g188.symm))
      have fk190 := (E144q.ext E184)
      have ne_b137_b188 : b137 ≠ b188 := Nat.ne_of_lt (Nat.lt_of_lt_of_le fk190.lt (Nat.le_of_eq g188.symm))
      have fk191 := (fk186.ext E184)
      have ne_b138_b188 : b138 ≠ b188 := Nat.ne_of_lt (Nat.lt_of_lt_of_le fk191.lt (Nat.le_of_eq g188.symm))
      have fk192 := (fk187.ext E184)
      have ne_d140_b188 : d140 ≠ b188 := Nat.ne_of_lt (Nat.lt_of_lt_of_le fk192.lt (Nat.le_of_eq g188.symm))
      have ne_b184_b188 : b184 ≠ b188 := Nat.ne_of_lt (Nat.lt_of_lt_of_le A184.lt (Nat.le_of_eq g188.symm))
      have sz_b188 : h0.size ≤ b188 := Nat.le_trans K184.1 (Nat.le_of_eq g188.symm)
      have g_b188 : n0 ≤ b188 := Nat.le_trans Z0 sz_b188
      have K188 : Keep h0 h188 [] := K184.ext E188
      have V188 : Arv Z h188 b188 k188 .byte (32 : Int32) [(.int (0 : Int32)), (.int (0 : Int32)), (.int (0 : Int32)), (.int (0 : Int32)), (.int (0 : Int32)), (.int (0 : Int32)), (.int (0 : Int32)), (.int (0 : Int32)), (.int (0 : Int32)), (.int (0 : Int32)), (.int (0 : Int32)), (.int (0 : Int32)), (.int (0 : Int32)), (.int (0 : Int32)), (.int (0 : Int32)), (.int (0 : Int32)), (.int (0 : Int32)), (.int (0 : Int32)), (.int (0 : Int32)), (.int (0 : Int32)), (.int (0 : Int32)), (.int (0 : Int32)), (.int (0 : Int32)), (.int (0 : Int32)), (.int (0 : Int32)), (.int (0 : Int32)), (.int (0 : Int32)), (.int (0 : Int32)), (.int (0 : Int32)), (.int (0 : Int32)), (.int (0 : Int32)), (.int (0 : Int32))] (.int (0 : Int32)) := (Arv.new A188 (by decide)).pad (pad_rep [] (.int (0 : Int32)) 32)
      obtain ⟨T193, h193, k193, X193, e193, E193, A193, st193⟩ := newP X188 hx hZ (hw _ (List.mem_of_getElem? (i := 30) rfl)) e188 (g := (mkF m 233 #[vI p1, vJ q2, .second, vI p3, vI p4, vJ q5, .second, vJ q6, .second, vI 0, vI 5, vR ast, .val .null, vR b132, vR b137, vI 1, vI 0, .unset] [iI 65, iR b188, iR b184, iR b184, iR b137])) rfl (hb hby at_233) rfl (by decide) (cap := 65) (by decide) (by decide) (by decide) (by decide)
      obtain ⟨b193, g193⟩ : ∃ z, z = h188.size := ⟨_, rfl⟩
      rw [← g193] at A193 st193
      have fk194 := (fk189.ext E188)
      have ne_b132_b193 : b132 ≠ b193 := Nat.ne_of_lt (Nat.lt_of_lt_of_le fk194.lt (Nat.le_of_eq g193.symm))
      have fk195 := (fk190.ext E188)
      have ne_b137_b193 : b137 ≠ b193 := Nat.ne_of_lt (Nat.lt_of_lt_of_le fk195.lt (Nat.le_of_eq g193.symm))
      have fk196 := (fk191.ext E188)
      have ne_b138_b193 : b138 ≠ b193 := Nat.ne_of_lt (Nat.lt_of_lt_of_le fk196.lt (Nat.le_of_eq g193.symm))
      have fk197 := (fk192.ext E188)
      have ne_d140_b193 : d140 ≠ b193 := Nat.ne_of_lt (Nat.lt_of_lt_of_le fk197.lt (Nat.le_of_eq g193.symm))
      have fk198 := (A184.ext E188)
      have ne_b184_b193 : b184 ≠ b193 := Nat.ne_of_lt (Nat.lt_of_lt_of_le fk198.lt (Nat.le_of_eq g193.symm))
      have ne_b188_b193 : b188 ≠ b193 := Nat.ne_of_lt (Nat.lt_of_lt_of_le V188.lt (Nat.le_of_eq g193.symm))
      have sz_b193 : h0.size ≤ b193 := Nat.le_trans K188.1 (Nat.le_of_eq g193.symm)
      have g_b193 : n0 ≤ b193 := Nat.le_trans Z0 sz_b193
      have K193 : Keep h0 h193 [] := K188.ext E193
      have V193 : Arv Z h193 b193 k193 .byte (65 : Int32) [] (.int (0 : Int32)) := (Arv.new A193 (by decide)).pad (pad_rep [] (.int (0 : Int32)) 0)
      have fk200 := (fk198.ext E193)
      have fk201 := ((F_serverPrivateKey_b184.ext E188).ext E193)
      have fk202 := ((F_devicePublicKey_b184.ext E188).ext E193)
      have fk203 := ((F_masterSecret_b184.ext E188).ext E193)
      have fk204 := ((F_activationName_b184.ext E188).ext E193)
      have fk205 := ((F_extras_b184.ext E188).ext E193)
      obtain ⟨_, _, ⟨T199, L199, k199, n199⟩, -, X199, ⟨Lc199, hQ199, l199, y199, z199⟩, st199⟩ := X193.specialBack hx (y := (⟨"com/example/threefold/threefold/store/Device", "<init>", "([B[B[BLjava/lang/String;Ljava/lang/String;)V"⟩ : MethodName)) rfl hown (mvT hZ (hw _ (List.mem_of_getElem? (i := 87) rfl))) (mvT hZ (hw _ (List.mem_of_getElem? (i := 88) rfl))) (mvT hZ (hw _ (List.mem_of_getElem? (i := 89) rfl))) (by decide) (backOf (W := 2) (rm12 l Z a0 hw [] b184 b188 b193 h193 n0 (Nat.le_trans Z0 K193.1) fk200 g_b184 fk201 fk202 fk203 fk204 fk205) hZ (hw _ (List.mem_of_getElem? (i := 89) rfl)) (hw _ (List.mem_of_getElem? (i := 86) rfl)) (by decide) (by decide)) (g := (mkF m 238 #[vI p1, vJ q2, .second, vI p3, vI p4, vJ q5, .second, vJ q6, .second, vI 0, vI 5, vR ast, .val .null, vR b132, vR b137, vI 1, vI 0, .unset] [.null, .null, .null, iR b193, iR b188, iR b184, iR b184, iR b137])) rfl (by rw [hml]; rfl) (Steps.refl _) (a := b184) (argsL := [(.ref b188), (.ref b193), .null, .null, .null]) (rest := [(.ref b184), (.ref b137)]) (lenOf pd_8 rfl) rfl (by show 2 * 0 + _ ≤ _; exact Nat.le_of_eq rfl) (hb hby at_238) (fun _ _ => ⟨rfl, e193, (by decide : 7 + 0 ≤ _), (by decide : 118 + 0 ≤ _)⟩)
      dsimp only [Pt.U, Pt.locs, Pt.cells, Pt.slots] at X199 l199 y199 z199 st199 hQ199
      subst l199 y199 z199
      obtain ⟨rfl, N199q, K199q, E199q⟩ := hQ199
      have N199 := Fr.app N144 N199q
      have K199 : Keep h0 T199.heap [] := Keep.trans K193 K199q (allS (Or.inr sz_b184) all0)
      have fk207 := ((fk195.ext E193).keep K199q)
      have fk208 := ((((F144_activationId.ext E184).ext E188).ext E193).keep K199q (ninS ne_b137_b184 nin0))
      have fk209 := ((((F144_applicationId.ext E184).ext E188).ext E193).keep K199q (ninS ne_b137_b184 nin0))
      have fk210 := ((((F144_userId.ext E184).ext E188).ext E193).keep K199q (ninS ne_b137_b184 nin0))
      have fk211 := ((((F144_status.ext E184).ext E188).ext E193).keep K199q (ninS ne_b137_b184 nin0))
      have fk212 := ((((F144_counter.ext E184).ext E188).ext E193).keep K199q (ninS ne_b137_b184 nin0))
      have fk213 := ((((F144_failedAttempts.ext E184).ext E188).ext E193).keep K199q (ninS ne_b137_b184 nin0))
      have fk214 := ((((F144_blockedReason.ext E184).ext E188).ext E193).keep K199q (ninS ne_b137_b184 nin0))
      have fk215 := ((((F144_code.ext E184).ext E188).ext E193).keep K199q (ninS ne_b137_b184 nin0))
      have fk216 := ((((F144_device.ext E184).ext E188).ext E193).keep K199q (ninS ne_b137_b184 nin0))
      have fk217 := ((((F144_createdAt.ext E184).ext E188).ext E193).keep K199q (ninS ne_b137_b184 nin0))
      have Oh218 := O0.keep K199 all0
      obtain ⟨cq206, kq206, q206a, q206b, q206c⟩ := isOf hZ rfl fk207
      obtain ⟨_, _, ⟨T206, L206, k206, n206⟩, -, X206, ⟨Lc206, hQ206, l206, y206, z206⟩, st206⟩ := X199.virtualBack hx (y := (⟨"com/example/threefold/threefold/store/Activation", "exchanged", "(Lcom/example/threefold/threefold/store/Device;)Lcom/example/threefold/threefold/store/Activation;"⟩ : MethodName)) (z := (⟨"com/example/threefold/threefold/store/Activation", "exchanged", "(Lcom/example/threefold/threefold/store/Device;)Lcom/example/threefold/threefold/store/Activation;"⟩ : MethodName)) hown (mvT hZ (hw _ (List.mem_of_getElem? (i := 120) rfl))) (mvT hZ (hw _ (List.mem_of_getElem? (i := 121) rfl))) (notFace_of_selects (args := #[]) (mvT hZ (hw _ (List.mem_of_getElem? (i := 123) rfl)))) (mvT hZ (hw _ (List.mem_of_getElem? (i := 123) rfl))) (mvT hZ (hw _ (List.mem_of_getElem? (i := 122) rfl))) (by decide) (backOf (W := 0) (rm16_n l Z a0 hw [] b137 b184 b138 ast q5 q2 q6 p3 s_CREATED s_OTP_USED s_ACTIVE s_BLOCKED s_REMOVED T199.heap n0 (Nat.le_trans Z0 K199.1) Oh218 fk207 fk208 fk209 fk210 fk211 fk212 fk213 fk214 fk215 fk216 fk217 S_CREATED S_OTP_USED S_ACTIVE S_BLOCKED S_REMOVED) hZ (hw _ (List.mem_of_getElem? (i := 124) rfl)) (hw _ (List.mem_of_getElem? (i := 11) rfl)) (by decide) (by decide)) q206a q206c (g := (mkF m 241 #[vI p1, vJ q2, .second, vI p3, vI p4, vJ q5, .second, vJ q6, .second, vI 0, vI 5, vR ast, .val .null, vR b132, vR b137, vI 1, vI 0, .unset] [iR b184, iR b137])) rfl (by rw [hml]; rfl) (Steps.refl _) (argsL := [(.ref b184)]) (rest := []) (lenOf pd_14 rfl) rfl (by show 2 * 0 + _ ≤ _; exact Nat.le_of_eq rfl) (hb hby at_241) (fun _ _ => ⟨rfl, rfl, (by decide : 7 + 1 ≤ _), (by decide : 118 + 10 ≤ _)⟩)
      dsimp only [Pt.U, Pt.locs, Pt.cells, Pt.slots] at X206 l206 y206 z206 st206 hQ206
      subst l206 y206 z206
      obtain ⟨o206, rfl, N206q, K206q, E206q, F206q⟩ := hQ206
      have N206 := Fr.app N199 N206q
      have K206 : Keep h0 T206.heap [] := Keep.trans K199 K206q all0
      obtain ⟨cq219, kq219, q219a, q219b, q219c⟩ := isOf hZ rfl E206q
      obtain ⟨_, _, ⟨T219, L219, k219, n219⟩, -, X219, ⟨Lc219, hQ219, l219, y219, z219⟩, st219⟩ := X206.virtualBack hx (y := (⟨"com/example/threefold/threefold/store/Activation", "hasKeys", "()Z"⟩ : MethodName)) (z := (⟨"com/example/threefold/threefold/store/Activation", "hasKeys", "()Z"⟩ : MethodName)) hown (mvT hZ (hw _ (List.mem_of_getElem? (i := 70) rfl))) (mvT hZ (hw _ (List.mem_of_getElem? (i := 71) rfl))) (notFace_of_selects (args := #[]) (mvT hZ (hw _ (List.mem_of_getElem? (i := 73) rfl)))) (mvT hZ (hw _ (List.mem_of_getElem? (i := 73) rfl))) (mvT hZ (hw _ (List.mem_of_getElem? (i := 72) rfl))) (by decide) (backOf (W := 0) (rm10_r l Z a0 hw [] o206 b184 T206.heap F206q) hZ (hw _ (List.mem_of_getElem? (i := 74) rfl)) (hw _ (List.mem_of_getElem? (i := 11) rfl)) (by decide) (by decide)) q219a q219c (g := (mkF m 256 #[vI p1, vJ q2, .second, vI p3, vI p4, vJ q5, .second, vJ q6, .second, vI 0, vI 5, vR ast, .val .null, vR b132, vR b137, vI 1, vI 1, vR o206] [iR o206])) rfl (by rw [hml]; rfl) (Steps.refl _) (argsL := []) (rest := []) (lenOf pd_10 rfl) rfl (by show 2 * 0 + _ ≤ _; exact Nat.le_of_eq rfl) (hb hby at_256) (fun _ _ => ⟨rfl, rfl, (by decide : 8 + 0 ≤ _), (by decide : 128 + 0 ≤ _)⟩)
      dsimp only [Pt.U, Pt.locs, Pt.cells, Pt.slots] at X219 l219 y219 z219 st219 hQ219
      subst l219 y219 z219
      obtain ⟨rfl, rfl, e219⟩ := hQ219
      try rw [List.append_nil] at X219
      obtain ⟨fs, hr, hrun, hended, hW, hsame⟩ := X219.leave (v := some (.int (1 : Int32))) (fun h => by rw [Bd.returns] at h; cases h)
      refine ⟨_, _, pre157 _ ?_, hrun, hended, _, _, rfl, ?_, ReturnedEndW.of_narrow ⟨_, rfl⟩ hW (hsame.mono (by decide) (by decide))⟩
      · show Steps _ _ _ (T156.setTop (mkF m 134 #[vI p1, vJ q2, .second, vI p3, vI p4, vJ q5, .second, vJ q6, .second, vI 0, vI 5, vR ast, .val .null, vR b132, vR b137, vI 1, vI 0, .unset] [])) _
        refine XS.iload X156.here hx rfl (hb hby at_134) rfl ?_
        show Steps _ _ _ (T156.setTop (mkF m 136 #[vI p1, vJ q2, .second, vI p3, vI p4, vJ q5, .second, vJ q6, .second, vI 0, vI 5, vR ast, .val .null, vR b132, vR b137, vI 1, vI 0, .unset] [iI 5])) _
        refine XS.ifYes X156.here hx rfl (pc0 := 136) (pc' := 155) rfl (hb hby at_136) rfl ((if0 _ _).trans (feq (by decide : ¬ ((5 : Int32) = (0 : Int32)))).2) (by decide) (by decide) ?_
        show Steps _ _ _ (T156.setTop (mkF m 155 #[vI p1, vJ q2, .second, vI p3, vI p4, vJ q5, .second, vJ q6, .second, vI 0, vI 5, vR ast, .val .null, vR b132, vR b137, vI 1, vI 0, .unset] [])) _
        refine XS.iload X156.here hx rfl (hb hby at_155) rfl ?_
        show Steps _ _ _ (T156.setTop (mkF m 157 #[vI p1, vJ q2, .second, vI p3, vI p4, vJ q5, .second, vJ q6, .second, vI 0, vI 5, vR ast, .val .null, vR b132, vR b137, vI 1, vI 0, .unset] [iI 5])) _
        refine XS.iconst X156.here hx rfl (hb hby at_157) ?_
        show Steps _ _ _ (T156.setTop (mkF m 158 #[vI p1, vJ q2, .second, vI p3, vI p4, vJ q5, .second, vJ q6, .second, vI 0, vI 5, vR ast, .val .null, vR b132, vR b137, vI 1, vI 0, .unset] [iI 1, iI 5])) _
        refine XS.icmpYes X156.here hx rfl (pc0 := 158) (pc' := 171) rfl (hb hby at_158) rfl (feq (by decide : ¬ ((5 : Int32) = (1 : Int32)))).2 (by decide) (by decide) ?_
        show Steps _ _ _ (T156.setTop (mkF m 171 #[vI p1, vJ q2, .second, vI p3, vI p4, vJ q5, .second, vJ q6, .second, vI 0, vI 5, vR ast, .val .null, vR b132, vR b137, vI 1, vI 0, .unset] [])) _
        refine XS.iload X156.here hx rfl (hb hby at_171) rfl ?_
        show Steps _ _ _ (T156.setTop (mkF m 173 #[vI p1, vJ q2, .second, vI p3, vI p4, vJ q5, .second, vJ q6, .second, vI 0, vI 5, vR ast, .val .null, vR b132, vR b137, vI 1, vI 0, .unset] [iI 5])) _
        refine XS.iconst X156.here hx rfl (hb hby at_173) ?_
        show Steps _ _ _ (T156.setTop (mkF m 174 #[vI p1, vJ q2, .second, vI p3, vI p4, vJ q5, .second, vJ q6, .second, vI 0, vI 5, vR ast, .val .null, vR b132, vR b137, vI 1, vI 0, .unset] [iI 2, iI 5])) _
        refine XS.icmpYes X156.here hx rfl (pc0 := 174) (pc' := 189) rfl (hb hby at_174) rfl (feq (by decide : ¬ ((5 : Int32) = (2 : Int32)))).2 (by decide) (by decide) ?_
        show Steps _ _ _ (T156.setTop (mkF m 189 #[vI p1, vJ q2, .second, vI p3, vI p4, vJ q5, .second, vJ q6, .second, vI 0, vI 5, vR ast, .val .null, vR b132, vR b137, vI 1, vI 0, .unset] [])) _
        refine XS.iload X156.here hx rfl (hb hby at_189) rfl ?_
        show Steps _ _ _ (T156.setTop (mkF m 191 #[vI p1, vJ q2, .second, vI p3, vI p4, vJ q5, .second, vJ q6, .second, vI 0, vI 5, vR ast, .val .null, vR b132, vR b137, vI 1, vI 0, .unset] [iI 5])) _
        refine XS.iconst X156.here hx rfl (hb hby at_191) ?_
        show Steps _ _ _ (T156.setTop (mkF m 192 #[vI p1, vJ q2, .second, vI p3, vI p4, vJ q5, .second, vJ q6, .second, vI 0, vI 5, vR ast, .val .null, vR b132, vR b137, vI 1, vI 0, .unset] [iI 3, iI 5])) _
        refine XS.icmpYes X156.here hx rfl (pc0 := 192) (pc' := 205) rfl (hb hby at_192) rfl (feq (by decide : ¬ ((5 : Int32) = (3 : Int32)))).2 (by decide) (by decide) ?_
        show Steps _ _ _ (T156.setTop (mkF m 205 #[vI p1, vJ q2, .second, vI p3, vI p4, vJ q5, .second, vJ q6, .second, vI 0, vI 5, vR ast, .val .null, vR b132, vR b137, vI 1, vI 0, .unset] [])) _
        refine XS.iload X156.here hx rfl (hb hby at_205) rfl ?_
        show Steps _ _ _ (T156.setTop (mkF m 207 #[vI p1, vJ q2, .second, vI p3, vI p4, vJ q5, .second, vJ q6, .second, vI 0, vI 5, vR ast, .val .null, vR b132, vR b137, vI 1, vI 0, .unset] [iI 5])) _
        refine XS.iconst X156.here hx rfl (hb hby at_207) ?_
        show Steps _ _ _ (T156.setTop (mkF m 208 #[vI p1, vJ q2, .second, vI p3, vI p4, vJ q5, .second, vJ q6, .second, vI 0, vI 5, vR ast, .val .null, vR b132, vR b137, vI 1, vI 0, .unset] [iI 4, iI 5])) _
        refine XS.icmpYes X156.here hx rfl (pc0 := 208) (pc' := 221) rfl (hb hby at_208) rfl (feq (by decide : ¬ ((5 : Int32) = (4 : Int32)))).2 (by decide) (by decide) ?_
        show Steps _ _ _ (T156.setTop (mkF m 221 #[vI p1, vJ q2, .second, vI p3, vI p4, vJ q5, .second, vJ q6, .second, vI 0, vI 5, vR ast, .val .null, vR b132, vR b137, vI 1, vI 0, .unset] [])) _
        refine XS.aload X156.here hx rfl (hb hby at_221) rfl rfl ?_
        show Steps _ _ _ (T156.setTop (mkF m 223 #[vI p1, vJ q2, .second, vI p3, vI p4, vJ q5, .second, vJ q6, .second, vI 0, vI 5, vR ast, .val .null, vR b132, vR b137, vI 1, vI 0, .unset] [iR b137])) _
        refine st184 _ ?_
        show Steps _ _ _ (T184.setTop (mkF m 226 #[vI p1, vJ q2, .second, vI p3, vI p4, vJ q5, .second, vJ q6, .second, vI 0, vI 5, vR ast, .val .null, vR b132, vR b137, vI 1, vI 0, .unset] [iR b184, iR b137])) _
        refine XS.dup X184.here hx rfl (hb hby at_226) rfl rfl ?_
        show Steps _ _ _ (T184.setTop (mkF m 227 #[vI p1, vJ q2, .second, vI p3, vI p4, vJ q5, .second, vJ q6, .second, vI 0, vI 5, vR ast, .val .null, vR b132, vR b137, vI 1, vI 0, .unset] [iR b184, iR b184, iR b137])) _
        refine XS.bipush X184.here hx rfl (hb hby at_227) ?_
        show Steps _ _ _ (T184.setTop (mkF m 229 #[vI p1, vJ q2, .second, vI p3, vI p4, vJ q5, .second, vJ q6, .second, vI 0, vI 5, vR ast, .val .null, vR b132, vR b137, vI 1, vI 0, .unset] [iI 32, iR b184, iR b184, iR b137])) _
        refine st188 _ ?_
        show Steps _ _ _ (T188.setTop (mkF m 231 #[vI p1, vJ q2, .second, vI p3, vI p4, vJ q5, .second, vJ q6, .second, vI 0, vI 5, vR ast, .val .null, vR b132, vR b137, vI 1, vI 0, .unset] [iR b188, iR b184, iR b184, iR b137])) _
        refine XS.bipush X188.here hx rfl (hb hby at_231) ?_
        show Steps _ _ _ (T188.setTop (mkF m 233 #[vI p1, vJ q2, .second, vI p3, vI p4, vJ q5, .second, vJ q6, .second, vI 0, vI 5, vR ast, .val .null, vR b132, vR b137, vI 1, vI 0, .unset] [iI 65, iR b188, iR b184, iR b184, iR b137])) _
        refine st193 _ ?_
        show Steps _ _ _ (T193.setTop (mkF m 235 #[vI p1, vJ q2, .second, vI p3, vI p4, vJ q5, .second, vJ q6, .second, vI 0, vI 5, vR ast, .val .null, vR b132, vR b137, vI 1, vI 0, .unset] [iR b193, iR b188, iR b184, iR b184, iR b137])) _
        refine XS.aconstNull X193.here hx rfl (hb hby at_235) ?_
        show Steps _ _ _ (T193.setTop (mkF m 236 #[vI p1, vJ q2, .second, vI p3, vI p4, vJ q5, .second, vJ q6, .second, vI 0, vI 5, vR ast, .val .null, vR b132, vR b137, vI 1, vI 0, .unset] [.null, iR b193, iR b188, iR b184, iR b184, iR b137])) _
        refine XS.aconstNull X193.here hx rfl (hb hby at_236) ?_
        show Steps _ _ _ (T193.setTop (mkF m 237 #[vI p1, vJ q2, .second, vI p3, vI p4, vJ q5, .second, vJ q6, .second, vI 0, vI 5, vR ast, .val .null, vR b132, vR b137, vI 1, vI 0, .unset] [.null, .null, iR b193, iR b188, iR b184, iR b184, iR b137])) _
        refine XS.aconstNull X193.here hx rfl (hb hby at_237) ?_
        show Steps _ _ _ (T193.setTop (mkF m 238 #[vI p1, vJ q2, .second, vI p3, vI p4, vJ q5, .second, vJ q6, .second, vI 0, vI 5, vR ast, .val .null, vR b132, vR b137, vI 1, vI 0, .unset] [.null, .null, .null, iR b193, iR b188, iR b184, iR b184, iR b137])) _
        refine st199.trans ?_
        show Steps _ _ _ (T199.setTop (mkF m 241 #[vI p1, vJ q2, .second, vI p3, vI p4, vJ q5, .second, vJ q6, .second, vI 0, vI 5, vR ast, .val .null, vR b132, vR b137, vI 1, vI 0, .unset] [iR b184, iR b137])) _
        refine st206.trans ?_
        show Steps _ _ _ (T206.setTop (mkF m 244 #[vI p1, vJ q2, .second, vI p3, vI p4, vJ q5, .second, vJ q6, .second, vI 0, vI 5, vR ast, .val .null, vR b132, vR b137, vI 1, vI 0, .unset] [iR o206])) _
        refine XS.astore X206.here hx rfl (hb hby at_244) rfl rfl (l' := #[vI p1, vJ q2, .second, vI p3, vI p4, vJ q5, .second, vJ q6, .second, vI 0, vI 5, vR ast, .val .null, vR b132, vR b137, vI 1, vI 0, vR o206]) rfl ?_
        show Steps _ _ _ (T206.setTop (mkF m 246 #[vI p1, vJ q2, .second, vI p3, vI p4, vJ q5, .second, vJ q6, .second, vI 0, vI 5, vR ast, .val .null, vR b132, vR b137, vI 1, vI 0, vR o206] [])) _
        refine XS.iconst X206.here hx rfl (hb hby at_246) ?_
        show Steps _ _ _ (T206.setTop (mkF m 247 #[vI p1, vJ q2, .second, vI p3, vI p4, vJ q5, .second, vJ q6, .second, vI 0, vI 5, vR ast, .val .null, vR b132, vR b137, vI 1, vI 0, vR o206] [iI 1])) _
        refine XS.istore X206.here hx rfl (hb hby at_247) rfl (l' := #[vI p1, vJ q2, .second, vI p3, vI p4, vJ q5, .second, vJ q6, .second, vI 0, vI 5, vR ast, .val .null, vR b132, vR b137, vI 1, vI 1, vR o206]) rfl ?_
        show Steps _ _ _ (T206.setTop (mkF m 249 #[vI p1, vJ q2, .second, vI p3, vI p4, vJ q5, .second, vJ q6, .second, vI 0, vI 5, vR ast, .val .null, vR b132, vR b137, vI 1, vI 1, vR o206] [])) _
        refine XS.iload X206.here hx rfl (hb hby at_249) rfl ?_
        show Steps _ _ _ (T206.setTop (mkF m 251 #[vI p1, vJ q2, .second, vI p3, vI p4, vJ q5, .second, vJ q6, .second, vI 0, vI 5, vR ast, .val .null, vR b132, vR b137, vI 1, vI 1, vR o206] [iI 1])) _
        refine XS.ifNo X206.here hx rfl (hb hby at_251) rfl ((if0 _ _).trans (feq (by decide : ¬ ((1 : Int32) = (0 : Int32)))).1) ?_
        show Steps _ _ _ (T206.setTop (mkF m 254 #[vI p1, vJ q2, .second, vI p3, vI p4, vJ q5, .second, vJ q6, .second, vI 0, vI 5, vR ast, .val .null, vR b132, vR b137, vI 1, vI 1, vR o206] [])) _
        refine XS.aload X206.here hx rfl (hb hby at_254) rfl rfl ?_
        show Steps _ _ _ (T206.setTop (mkF m 256 #[vI p1, vJ q2, .second, vI p3, vI p4, vJ q5, .second, vJ q6, .second, vI 0, vI 5, vR ast, .val .null, vR b132, vR b137, vI 1, vI 1, vR o206] [iR o206])) _
        refine st219.trans ?_
        show Steps _ _ _ (T219.setTop (mkF m 259 #[vI p1, vJ q2, .second, vI p3, vI p4, vJ q5, .second, vJ q6, .second, vI 0, vI 5, vR ast, .val .null, vR b132, vR b137, vI 1, vI 1, vR o206] [iI 1])) _
        refine XS.iload X219.here hx rfl (hb hby at_259) rfl ?_
        show Steps _ _ _ (T219.setTop (mkF m 261 #[vI p1, vJ q2, .second, vI p3, vI p4, vJ q5, .second, vJ q6, .second, vI 0, vI 5, vR ast, .val .null, vR b132, vR b137, vI 1, vI 1, vR o206] [iI 1, iI 1])) _
        refine XS.icmpNo X219.here hx rfl (hb hby at_261) rfl (teq (by decide : (1 : Int32) = (1 : Int32))).2 ?_
        show Steps _ _ _ (T219.setTop (mkF m 264 #[vI p1, vJ q2, .second, vI p3, vI p4, vJ q5, .second, vJ q6, .second, vI 0, vI 5, vR ast, .val .null, vR b132, vR b137, vI 1, vI 1, vR o206] [])) _
        refine XS.iconst X219.here hx rfl (hb hby at_264) ?_
        show Steps _ _ _ (T219.setTop (mkF m 265 #[vI p1, vJ q2, .second, vI p3, vI p4, vJ q5, .second, vJ q6, .second, vI 0, vI 5, vR ast, .val .null, vR b132, vR b137, vI 1, vI 1, vR o206] [iI 1])) _
        refine XS.goto X219.here hx rfl (pc0 := 265) (pc' := 269) rfl (hb hby at_265) (by decide) (by decide) ?_
        show Steps _ _ _ (T219.setTop (mkF m 269 #[vI p1, vJ q2, .second, vI p3, vI p4, vJ q5, .second, vJ q6, .second, vI 0, vI 5, vR ast, .val .null, vR b132, vR b137, vI 1, vI 1, vR o206] [iI 1])) _
        exact retN X219 hx (t := .boolean) Bd.returns (by simp) (hb hby at_269) hr
      · show Q0 Z p1 q2 p3 p4 q5 q6 s_CREATED s_OTP_USED s_ACTIVE s_BLOCKED s_REMOVED cs h0 n0 _ T219.heap _
        rw [e219]
        exact ⟨rfl, N206⟩
set_option maxRecDepth 65536 in
set_option maxHeartbeats 40000000 in
theorem comes_1 {Post : Tables → Env → Array Value → State → Outcome → State → Prop} (hpost : ∀ tb e args s v u, (limb_1_1.after args s (.returned v) u = true ∧ limb_1_2.after args s (.returned v) u = true ∧ True) → ReturnedEndW s (.returned v) u (Jvm.fieldLocs frame_1_writes args s ++ Jvm.arrayLocs frame_1_arrays args s ++ Jvm.staticLocs frame_1_statics s) 32 1408 → Post tb e args s (.returned v) u) :
    ArmFor flags0 classFile x code maxLocals ret World_1 tables_1 room_1 Calls_1 rest_1 Pre_1 Post := by
  intro l hfl _ _ p e ha hc hk s m args below hf hA hF happ hP
  obtain ⟨hcalls, hrest, hpre⟩ := hP
  obtain ⟨-, -, -, hnamed, -, -, -, hat⟩ := (Spec.applies_iff hf).mp happ
  obtain ⟨hg, hn⟩ := and_e (Cond.before_iff.mp (show (Jvm.Cond.and given_1 narrow_1).before args s = true from hpre))
  obtain ⟨gc, gr0⟩ := and_e hg
  obtain ⟨ga0, gr1⟩ := and_e gr0
  obtain ⟨ga1, gr2⟩ := and_e gr1
  obtain ⟨ga2, gr3⟩ := and_e gr2
  obtain ⟨ga3, gr4⟩ := and_e gr3
  obtain ⟨ga4, gr5⟩ := and_e gr4
  obtain ⟨w0, w1, w2, w3, w4, w5, rfl⟩ : ∃ w0 w1 w2 w3 w4 w5 : Value, args = #[w0, w1, w2, w3, w4, w5] := by
    have hs : args.size = 6 := by simpa [Cond.value, given_1] using gc
    obtain ⟨L⟩ := args
    match L, hs with
    | [w0, w1, w2, w3, w4, w5], _ => exact ⟨w0, w1, w2, w3, w4, w5, rfl⟩
  have hw := fun d (hd : d ∈ tables_1) => atoms_spec (ws := Jvm.Cond.code x code maxLocals ret :: tables_1) hat d (List.mem_cons_of_mem _ hd)
  have hfit : Fit s := fun {y c} hc i hi => by
    obtain ⟨ha, rfl⟩ := Array.getElem?_eq_some_iff.mp hc
    have q := List.all_eq_true.mp ((Array.all_eq_true_iff_forall_mem.mp hF) _ (Array.getElem_mem ha)) i (List.mem_range.mpr hi)
    simpa [Array.getElem?_eq_getElem hi] using q
  obtain ⟨hsets, hown0⟩ := atoms_of _ (rest_1_c_eq ▸ (show rest_1_c.before _ s = true from hrest))
  have hr0 := Cond.before_iff.mp hown0
  obtain ⟨i0, ei0⟩ := is_v ga0
  obtain rfl : w0 = (.int i0) := Option.some.inj ei0
  obtain ⟨i1, ei1⟩ := isL_v ga1
  obtain rfl : w1 = (.long i1) := Option.some.inj ei1
  obtain ⟨i2, ei2⟩ := is_v ga2
  obtain rfl : w2 = (.int i2) := Option.some.inj ei2
  obtain ⟨i3, ei3⟩ := is_v ga3
  obtain rfl : w3 = (.int i3) := Option.some.inj ei3
  obtain ⟨i4, ei4⟩ := isL_v ga4
  obtain rfl : w4 = (.long i4) := Option.some.inj ei4
  obtain ⟨i5, ei5⟩ := isL_v gr5
  obtain rfl : w5 = (.long i5) := Option.some.inj ei5
  obtain ⟨u0, t0⟩ := and_e hn
  obtain ⟨u1, t1⟩ := and_e t0
  obtain ⟨u2, t2⟩ := and_e t1
  obtain ⟨u3, t3⟩ := and_e t2
  have u4 := t3
  obtain ⟨s_CREATED, ev_CREATED⟩ := exa_v u0
  have S_CREATED : Sta s s.heap "com/example/threefold/threefold/protocol/ActivationStatus" "CREATED" "Lcom/example/threefold/threefold/protocol/ActivationStatus;" (.ref s_CREATED) := Sta.start ev_CREATED (Or.inr ⟨(hw _ (List.mem_of_getElem? (i := 6) rfl)), (hw _ (List.mem_of_getElem? (i := 7) rfl))⟩)
  obtain ⟨s_ACTIVE, ev_ACTIVE⟩ := exa_v u1
  have S_ACTIVE : Sta s s.heap "com/example/threefold/threefold/protocol/ActivationStatus" "ACTIVE" "Lcom/example/threefold/threefold/protocol/ActivationStatus;" (.ref s_ACTIVE) := Sta.start ev_ACTIVE (Or.inr ⟨(hw _ (List.mem_of_getElem? (i := 6) rfl)), (hw _ (List.mem_of_getElem? (i := 83) rfl))⟩)
  obtain ⟨s_REMOVED, ev_REMOVED⟩ := exa_v u2
  have S_REMOVED : Sta s s.heap "com/example/threefold/threefold/protocol/ActivationStatus" "REMOVED" "Lcom/example/threefold/threefold/protocol/ActivationStatus;" (.ref s_REMOVED) := Sta.start ev_REMOVED (Or.inr ⟨(hw _ (List.mem_of_getElem? (i := 6) rfl)), (hw _ (List.mem_of_getElem? (i := 107) rfl))⟩)
  obtain ⟨s_OTP_USED, ev_OTP_USED⟩ := exa_v u3
  have S_OTP_USED : Sta s s.heap "com/example/threefold/threefold/protocol/ActivationStatus" "OTP_USED" "Lcom/example/threefold/threefold/protocol/ActivationStatus;" (.ref s_OTP_USED) := Sta.start ev_OTP_USED (Or.inr ⟨(hw _ (List.mem_of_getElem? (i := 6) rfl)), (hw _ (List.mem_of_getElem? (i := 113) rfl))⟩)
  obtain ⟨s_BLOCKED, ev_BLOCKED⟩ := exa_v u4
  have S_BLOCKED : Sta s s.heap "com/example/threefold/threefold/protocol/ActivationStatus" "BLOCKED" "Lcom/example/threefold/threefold/protocol/ActivationStatus;" (.ref s_BLOCKED) := Sta.start ev_BLOCKED (Or.inr ⟨(hw _ (List.mem_of_getElem? (i := 6) rfl)), (hw _ (List.mem_of_getElem? (i := 127) rfl))⟩)
  obtain ⟨cs, evCS⟩ := is_v (Cond.before_iff.mp (hsets _ (List.mem_of_getElem? (i := 1) rfl)))
  have S_CS : Sta s s.heap "java/lang/String" "COMPACT_STRINGS" "Z" (.int cs) := Sta.start evCS (Or.inl (hsets _ (List.mem_of_getElem? (i := 0) rfl)))
  have h_cs : ¬ cs = (0 : Int32) := fun q => by
    have q1 := not_v (Cond.before_iff.mp (hsets _ (List.mem_of_getElem? (i := 2) rfl)))
    rw [Cond.eq_ints evCS (Term.int_eval 0), q] at q1; exact absurd q1 (by simp)
  obtain ⟨n, o, h1, h2, h3, _, L, rfl, Qv, hq⟩ := rm0 l s _ hw tables_1 i0 i1 i2 i3 i4 i5 s_CREATED s_OTP_USED s_ACTIVE s_BLOCKED s_REMOVED cs s.heap s.heap.size (Nat.le_refl _) (Old.start s) S_CREATED S_OTP_USED S_ACTIVE S_BLOCKED S_REMOVED S_CS h_cs p e ha hc hk s m _ below hf ((Spec.applies_iff_loose hf).mp happ).1 ⟨rfl, State.Warmed39.refl s, rfl⟩ trivial
  obtain ⟨rfl, N⟩ := Qv
  refine ⟨n, _, h1, h2, h3, hpost _ _ _ _ _ _ ⟨Cond.after_iff.mpr rfl, Cond.after_iff.mpr (eq_i res_at (Term.int_eval (1)) rfl), trivial⟩ ⟨hq.1, hq.2.1, hq.2.2.1, (hq.2.2.2.sift fun y hy => Or.inr (N y hy)).mono (by decide) (by decide)⟩⟩
theorem main_1_1 : Claimed_1_1 := comes_1 fun _ _ _ _ _ _ h hF => ⟨h.1, hF⟩
theorem main_1_2 : Claimed_1_2 := comes_1 fun _ _ _ _ _ _ h hF => ⟨h.2.1, hF⟩
end Jvm.Pilot.@@N@@
namespace Jvm.Pilot.@@N@@
open Jvm Jvm.ClassFile Sem Op Lib Jvm.Free Jvm.Stand Jvm.Pilot.@@N@@.Jvm.D
/-! MADE BY PROGRAM (witnessworld.py) out of the Statement's table words and the real class files: 24 classes; the members and pool entries that the words name. The judged class is class 1, her method 2. -/
namespace start1
open Jvm.ClassFile
def u (s : String) : CpInfo := .utf8 (stringToUtf16 s)
/-- a pool by its gaps: so many unusable entries, then the entry; so many at the end -/
def gap : Nat → List CpInfo → List CpInfo
  | 0, r => r
  | n + 1, r => .unusable :: gap n r
def poolList (es : List (Nat × CpInfo)) (last : Nat) : List CpInfo := es.foldr (fun e r => gap e.1 (e.2 :: r)) (gap last [])
def pool (es : List (Nat × CpInfo)) (last : Nat) : Array CpInfo := ⟨poolList es last⟩
def fileOf (pool : Array CpInfo) (this : Nat) (attrs : Array Attribute := #[]) (ms : Array MethodInfo := #[]) (fl : Nat := 33) (sup : Nat := 0) (ifs : Array Nat := #[]) (fds : Array FieldInfo := #[]) : ClassFile where
  minorVersion := 0
  majorVersion := 65
  constantPool := pool
  accessFlags := fl
  thisClass := this
  superClass := sup
  interfaces := ifs
  fields := fds
  methods := ms
  attributes := attrs
def plain (name : String) (sup : Option ClassId) : Class where
  name := name
  kind := .ordinary
  loader := none
  accessFlags := 33
  super := sup
  interfaces := #[]
  cf := none
  fields := #[]
  methods := #[]
  instanceTypes := #[]
  staticTypes := #[]
  resolved := #[]
  callSites := []
  init := .initialized
  statics := none
  mirror := none

def pool0 : Array CpInfo := pool [(5, u "<init>"), (0, u "()V"), (1, .class_ 10), (1, u "java/lang/Object")] 113

def k0c0 : Code := { maxStack := 0, maxLocals := 1, code := object_method_1_code, exceptionTable := #[], attributes := #[] }
def k0m0 : Method := { name := "<init>", desc := "()V", sig := { parameters := [], returnType := none }, accessFlags := 1, code := some k0c0 }
/-- java/lang/Object -/
def k0 : Class := { plain "java/lang/Object" none with
  accessFlags := 33
  interfaces := #[]
  cf := some (fileOf pool0 8 #[] #[{ accessFlags := 1, nameIndex := 5, descriptorIndex := 6, attributes := #[] }] 33 0 #[] #[])
  fields := #[]
  methods := #[k0m0]
  instanceTypes := #[]
  staticTypes := #[]
  resolved := Array.replicate 124 none
  statics := none }

def pool1 : Array CpInfo := pool [(2, .class_ 4), (1, u "java/lang/Object"), (0, u "<init>"), (0, u "()V"), (0, .fieldref 8 9), (0, .class_ 10), (0, .nameAndType 11 12), (0, u "com/example/threefold/threefold/protocol/ActivationStatus"), (0, u "CREATED"), (0, u "Lcom/example/threefold/threefold/protocol/ActivationStatus;"), (0, .fieldref 8 14), (0, .nameAndType 15 12), (0, u "OTP_USED"), (0, .fieldref 8 17), (0, .nameAndType 18 12), (0, u "ACTIVE"), (0, .fieldref 8 20), (0, .nameAndType 21 12), (0, u "BLOCKED"), (0, .fieldref 8 23), (0, .nameAndType 24 12), (0, u "REMOVED"), (0, .integer 2147483647), (0, .methodref 27 28), (0, .class_ 29), (0, .nameAndType 30 31), (0, u "com/example/threefold/threefold/store/ActivationHasKeysPinLaw"), (0, u "pick"), (0, u "(I)Lcom/example/threefold/threefold/protocol/ActivationStatus;"), (0, .class_ 33), (0, u "com/example/threefold/threefold/store/Device"), (0, .methodref 32 35), (0, .nameAndType 5 36), (0, u "([B[B[BLjava/lang/String;Ljava/lang/String;)V"), (0, .class_ 38), (0, u "com/example/threefold/threefold/store/Activation"), (0, .class_ 40), (0, u "java/lang/String"), (0, .methodref 39 42), (0, .nameAndType 5 43), (0, u "([C)V"), (0, .methodref 37 45), (0, .nameAndType 5 46), (0, u "(Ljava/lang/String;JLjava/lang/String;Lcom/example/threefold/threefold/protocol/ActivationStatus;JILjava/lang/String;Lcom/example/threefold/threefold/protocol/ActivationCode;Lcom/example/threefold/threefold/store/Device;J)V"), (0, .methodref 37 48), (0, .nameAndType 49 50), (0, u "hasKeys"), (0, u "()Z"), (0, .methodref 37 52), (0, .nameAndType 53 54), (0, u "withCounters"), (0, u "(JI)Lcom/example/threefold/threefold/store/Activation;"), (0, .methodref 37 56), (0, .nameAndType 57 58), (0, u "committed"), (0, u "()Lcom/example/threefold/threefold/store/Activation;"), (0, .string 60), (0, u "x"), (0, .methodref 37 62), (0, .nameAndType 63 64), (0, u "blocked"), (0, u "(Ljava/lang/String;)Lcom/example/threefold/threefold/store/Activation;"), (0, .methodref 37 66), (0, .nameAndType 67 58), (0, u "unblocked"), (0, .methodref 37 69), (0, .nameAndType 70 58), (0, u "removed"), (0, .methodref 37 72), (0, .nameAndType 73 74), (0, u "exchanged"), (0, u "(Lcom/example/threefold/threefold/store/Device;)Lcom/example/threefold/threefold/store/Activation;"), (3, u "law"), (0, u "(IJIIJJ)Z")] 4

def k1m0 : Method := { name := "<init>", desc := "()V", sig := { parameters := [], returnType := none }, accessFlags := 2, code := none }
def k1c1 : Code := { maxStack := 2, maxLocals := 1, code := method_2_code, exceptionTable := #[], attributes := #[] }
def k1m1 : Method := { name := "pick", desc := "(I)Lcom/example/threefold/threefold/protocol/ActivationStatus;", sig := { parameters := [.int], returnType := some (.object "com/example/threefold/threefold/protocol/ActivationStatus") }, accessFlags := 10, code := some k1c1 }
def k1c2 : Code := { maxStack := 15, maxLocals := 18, code := code, exceptionTable := #[], attributes := #[] }
def k1m2 : Method := { name := "law", desc := "(IJIIJJ)Z", sig := { parameters := [.int, .long, .int, .int, .long, .long], returnType := some .boolean }, accessFlags := 9, code := some k1c2 }
/-- com/example/threefold/threefold/store/ActivationHasKeysPinLaw -/
def k1 : Class := { plain "com/example/threefold/threefold/store/ActivationHasKeysPinLaw" (some 0) with
  accessFlags := 49
  interfaces := #[]
  cf := some (fileOf pool1 27 #[] #[{ accessFlags := 2, nameIndex := 5, descriptorIndex := 6, attributes := #[] }, { accessFlags := 10, nameIndex := 30, descriptorIndex := 31, attributes := #[] }, { accessFlags := 9, nameIndex := 78, descriptorIndex := 79, attributes := #[] }] 49 2 #[] #[])
  fields := #[]
  methods := #[k1m0, k1m1, k1m2]
  instanceTypes := #[]
  staticTypes := #[]
  resolved := Array.replicate 84 none
  statics := none }

def pool2 : Array CpInfo := pool [(1, .class_ 2), (0, u "java/lang/constant/Constable"), (0, .class_ 4), (0, u "java/lang/Object")] 6

/-- java/lang/constant/Constable -/
def k2 : Class := { plain "java/lang/constant/Constable" (some 0) with
  accessFlags := 1537
  interfaces := #[]
  cf := some (fileOf pool2 1 #[] #[] 1537 3 #[] #[])
  fields := #[]
  methods := #[]
  instanceTypes := #[]
  staticTypes := #[]
  resolved := Array.replicate 11 none
  statics := none }

def pool3 : Array CpInfo := pool [(1, .class_ 2), (0, u "java/lang/Comparable"), (0, .class_ 4), (0, u "java/lang/Object")] 7

/-- java/lang/Comparable -/
def k3 : Class := { plain "java/lang/Comparable" (some 0) with
  accessFlags := 1537
  interfaces := #[]
  cf := some (fileOf pool3 1 #[] #[] 1537 3 #[] #[])
  fields := #[]
  methods := #[]
  instanceTypes := #[]
  staticTypes := #[]
  resolved := Array.replicate 12 none
  statics := none }

def pool4 : Array CpInfo := pool [(1, .class_ 2), (0, u "java/io/Serializable"), (0, .class_ 4), (0, u "java/lang/Object")] 2

/-- java/io/Serializable -/
def k4 : Class := { plain "java/io/Serializable" (some 0) with
  accessFlags := 1537
  interfaces := #[]
  cf := some (fileOf pool4 1 #[] #[] 1537 3 #[] #[])
  fields := #[]
  methods := #[]
  instanceTypes := #[]
  staticTypes := #[]
  resolved := Array.replicate 7 none
  statics := none }

def pool5 : Array CpInfo := pool [(2, .class_ 4), (1, u "java/lang/Enum"), (0, u "name"), (0, u "Ljava/lang/String;"), (2, u "ordinal"), (0, u "I"), (1, .class_ 14), (1, u "java/lang/Object"), (4, u "hash"), (86, .class_ 108), (1, u "java/lang/Enum$EnumDesc"), (2, .class_ 112), (0, u "java/lang/constant/Constable"), (0, .class_ 114), (0, u "java/lang/Comparable"), (0, .class_ 116), (0, u "java/io/Serializable")] 87

/-- java/lang/Enum -/
def k5 : Class := { plain "java/lang/Enum" (some 0) with
  accessFlags := 1057
  interfaces := #[2, 3, 4]
  cf := some (fileOf pool5 2 #[.nestMembers #[106]] #[] 1057 12 #[111, 113, 115] #[{ accessFlags := 18, nameIndex := 5, descriptorIndex := 6, attributes := #[] }, { accessFlags := 18, nameIndex := 9, descriptorIndex := 10, attributes := #[] }, { accessFlags := 2, nameIndex := 19, descriptorIndex := 10, attributes := #[] }])
  fields := #[{ name := "name", type := (.object "java/lang/String"), accessFlags := 18, slot := 0, constantValue := 0 }, { name := "ordinal", type := .int, accessFlags := 18, slot := 1, constantValue := 0 }, { name := "hash", type := .int, accessFlags := 2, slot := 2, constantValue := 0 }]
  methods := #[]
  instanceTypes := #[(.object "java/lang/String"), .int, .int]
  staticTypes := #[]
  resolved := Array.replicate 204 none
  statics := none }

def pool6 : Array CpInfo := pool [(1, .class_ 2), (0, u "com/example/threefold/threefold/protocol/ActivationStatus"), (2, u "CREATED"), (0, u "Lcom/example/threefold/threefold/protocol/ActivationStatus;"), (2, u "OTP_USED"), (2, u "ACTIVE"), (2, u "BLOCKED"), (2, u "REMOVED"), (2, u "$VALUES"), (0, u "[Lcom/example/threefold/threefold/protocol/ActivationStatus;"), (6, .class_ 31), (1, u "java/lang/Enum"), (8, u "blobNumber"), (0, u "B")] 28

/-- com/example/threefold/threefold/protocol/ActivationStatus -/
def k6 : Class := { plain "com/example/threefold/threefold/protocol/ActivationStatus" (some 5) with
  accessFlags := 16433
  interfaces := #[]
  cf := some (fileOf pool6 1 #[] #[] 16433 29 #[] #[{ accessFlags := 16409, nameIndex := 5, descriptorIndex := 6, attributes := #[] }, { accessFlags := 16409, nameIndex := 9, descriptorIndex := 6, attributes := #[] }, { accessFlags := 16409, nameIndex := 12, descriptorIndex := 6, attributes := #[] }, { accessFlags := 16409, nameIndex := 15, descriptorIndex := 6, attributes := #[] }, { accessFlags := 16409, nameIndex := 18, descriptorIndex := 6, attributes := #[] }, { accessFlags := 18, nameIndex := 40, descriptorIndex := 41, attributes := #[] }, { accessFlags := 4122, nameIndex := 21, descriptorIndex := 22, attributes := #[] }])
  fields := #[{ name := "CREATED", type := (.object "com/example/threefold/threefold/protocol/ActivationStatus"), accessFlags := 16409, slot := 0, constantValue := 0 }, { name := "OTP_USED", type := (.object "com/example/threefold/threefold/protocol/ActivationStatus"), accessFlags := 16409, slot := 1, constantValue := 0 }, { name := "ACTIVE", type := (.object "com/example/threefold/threefold/protocol/ActivationStatus"), accessFlags := 16409, slot := 2, constantValue := 0 }, { name := "BLOCKED", type := (.object "com/example/threefold/threefold/protocol/ActivationStatus"), accessFlags := 16409, slot := 3, constantValue := 0 }, { name := "REMOVED", type := (.object "com/example/threefold/threefold/protocol/ActivationStatus"), accessFlags := 16409, slot := 4, constantValue := 0 }, { name := "blobNumber", type := .byte, accessFlags := 18, slot := 3, constantValue := 0 }, { name := "$VALUES", type := (.array (.object "com/example/threefold/threefold/protocol/ActivationStatus")), accessFlags := 4122, slot := 5, constantValue := 0 }]
  methods := #[]
  instanceTypes := #[(.object "java/lang/String"), .int, .int, .byte]
  staticTypes := #[(.object "com/example/threefold/threefold/protocol/ActivationStatus"), (.object "com/example/threefold/threefold/protocol/ActivationStatus"), (.object "com/example/threefold/threefold/protocol/ActivationStatus"), (.object "com/example/threefold/threefold/protocol/ActivationStatus"), (.object "com/example/threefold/threefold/protocol/ActivationStatus"), (.array (.object "com/example/threefold/threefold/protocol/ActivationStatus"))]
  resolved := Array.replicate 70 none
  statics := some 0 }

def pool7 : Array CpInfo := pool [(1, .methodref 2 3), (0, .class_ 4), (0, .nameAndType 5 6), (0, u "java/lang/Object"), (0, u "<init>"), (0, u "()V"), (0, .class_ 8), (0, u "java/lang/Record")] 13

def k7c0 : Code := { maxStack := 1, maxLocals := 1, code := jdk_30_method_1_code, exceptionTable := #[], attributes := #[] }
def k7m0 : Method := { name := "<init>", desc := "()V", sig := { parameters := [], returnType := none }, accessFlags := 4, code := some k7c0 }
/-- java/lang/Record -/
def k7 : Class := { plain "java/lang/Record" (some 0) with
  accessFlags := 1057
  interfaces := #[]
  cf := some (fileOf pool7 7 #[] #[{ accessFlags := 4, nameIndex := 5, descriptorIndex := 6, attributes := #[] }] 1057 2 #[] #[])
  fields := #[]
  methods := #[k7m0]
  instanceTypes := #[]
  staticTypes := #[]
  resolved := Array.replicate 22 none
  statics := none }

def pool8 : Array CpInfo := pool [(1, .methodref 2 3), (0, .class_ 4), (0, .nameAndType 5 6), (0, u "java/lang/Record"), (0, u "<init>"), (0, u "()V"), (0, .fieldref 8 9), (0, .class_ 10), (0, .nameAndType 11 12), (0, u "com/example/threefold/threefold/store/Activation"), (0, u "activationId"), (0, u "Ljava/lang/String;"), (0, .fieldref 8 14), (0, .nameAndType 15 16), (0, u "applicationId"), (0, u "J"), (0, .fieldref 8 18), (0, .nameAndType 19 12), (0, u "userId"), (0, .fieldref 8 21), (0, .nameAndType 22 23), (0, u "status"), (0, u "Lcom/example/threefold/threefold/protocol/ActivationStatus;"), (0, .fieldref 8 25), (0, .nameAndType 26 16), (0, u "counter"), (0, .fieldref 8 28), (0, .nameAndType 29 30), (0, u "failedAttempts"), (0, u "I"), (0, .fieldref 8 32), (0, .nameAndType 33 12), (0, u "blockedReason"), (0, .fieldref 8 35), (0, .nameAndType 36 37), (0, u "code"), (0, u "Lcom/example/threefold/threefold/protocol/ActivationCode;"), (0, .fieldref 8 39), (0, .nameAndType 40 41), (0, u "device"), (0, u "Lcom/example/threefold/threefold/store/Device;"), (0, .fieldref 8 43), (0, .nameAndType 44 16), (0, u "createdAt"), (0, .methodref 8 46), (0, .nameAndType 5 47), (0, u "(Ljava/lang/String;JLjava/lang/String;Lcom/example/threefold/threefold/protocol/ActivationStatus;JILjava/lang/String;Lcom/example/threefold/threefold/protocol/ActivationCode;Lcom/example/threefold/threefold/store/Device;J)V"), (0, .fieldref 49 50), (0, .class_ 51), (0, .nameAndType 52 23), (0, u "com/example/threefold/threefold/protocol/ActivationStatus"), (0, u "OTP_USED"), (0, .fieldref 49 54), (0, .nameAndType 55 23), (0, u "ACTIVE"), (0, .methodref 8 57), (0, .nameAndType 58 59), (0, u "withState"), (0, u "(Lcom/example/threefold/threefold/protocol/ActivationStatus;ILjava/lang/String;)Lcom/example/threefold/threefold/store/Activation;"), (0, .fieldref 49 61), (0, .nameAndType 62 23), (0, u "BLOCKED"), (0, .fieldref 49 64), (0, .nameAndType 65 23), (0, u "REMOVED"), (3, u "()Z"), (8, u "hasKeys"), (48, u "USER_ID_LIMIT"), (2, u "BLOCKED_REASON_LIMIT"), (0, u "NOT_SPECIFIED"), (4, u "withCounters"), (0, u "(JI)Lcom/example/threefold/threefold/store/Activation;"), (0, u "exchanged"), (0, u "(Lcom/example/threefold/threefold/store/Device;)Lcom/example/threefold/threefold/store/Activation;"), (0, u "committed"), (0, u "()Lcom/example/threefold/threefold/store/Activation;"), (0, u "blocked"), (0, u "(Ljava/lang/String;)Lcom/example/threefold/threefold/store/Activation;"), (0, u "unblocked"), (0, u "removed")] 50

def k8c0 : Code := { maxStack := 3, maxLocals := 14, code := prog_37_method_1_code, exceptionTable := #[], attributes := #[] }
def k8m0 : Method := { name := "<init>", desc := "(Ljava/lang/String;JLjava/lang/String;Lcom/example/threefold/threefold/protocol/ActivationStatus;JILjava/lang/String;Lcom/example/threefold/threefold/protocol/ActivationCode;Lcom/example/threefold/threefold/store/Device;J)V", sig := { parameters := [(.object "java/lang/String"), .long, (.object "java/lang/String"), (.object "com/example/threefold/threefold/protocol/ActivationStatus"), .long, .int, (.object "java/lang/String"), (.object "com/example/threefold/threefold/protocol/ActivationCode"), (.object "com/example/threefold/threefold/store/Device"), .long], returnType := none }, accessFlags := 1, code := some k8c0 }
def k8c1 : Code := { maxStack := 15, maxLocals := 4, code := prog_37_method_2_code, exceptionTable := #[], attributes := #[] }
def k8m1 : Method := { name := "withCounters", desc := "(JI)Lcom/example/threefold/threefold/store/Activation;", sig := { parameters := [.long, .int], returnType := some (.object "com/example/threefold/threefold/store/Activation") }, accessFlags := 1, code := some k8c1 }
def k8c2 : Code := { maxStack := 15, maxLocals := 2, code := prog_37_method_3_code, exceptionTable := #[], attributes := #[] }
def k8m2 : Method := { name := "exchanged", desc := "(Lcom/example/threefold/threefold/store/Device;)Lcom/example/threefold/threefold/store/Activation;", sig := { parameters := [(.object "com/example/threefold/threefold/store/Device")], returnType := some (.object "com/example/threefold/threefold/store/Activation") }, accessFlags := 1, code := some k8c2 }
def k8c3 : Code := { maxStack := 4, maxLocals := 1, code := prog_37_method_4_code, exceptionTable := #[], attributes := #[] }
def k8m3 : Method := { name := "committed", desc := "()Lcom/example/threefold/threefold/store/Activation;", sig := { parameters := [], returnType := some (.object "com/example/threefold/threefold/store/Activation") }, accessFlags := 1, code := some k8c3 }
def k8c4 : Code := { maxStack := 4, maxLocals := 2, code := prog_37_method_5_code, exceptionTable := #[], attributes := #[] }
def k8m4 : Method := { name := "blocked", desc := "(Ljava/lang/String;)Lcom/example/threefold/threefold/store/Activation;", sig := { parameters := [(.object "java/lang/String")], returnType := some (.object "com/example/threefold/threefold/store/Activation") }, accessFlags := 1, code := some k8c4 }
def k8c5 : Code := { maxStack := 4, maxLocals := 1, code := prog_37_method_6_code, exceptionTable := #[], attributes := #[] }
def k8m5 : Method := { name := "unblocked", desc := "()Lcom/example/threefold/threefold/store/Activation;", sig := { parameters := [], returnType := some (.object "com/example/threefold/threefold/store/Activation") }, accessFlags := 1, code := some k8c5 }
def k8c6 : Code := { maxStack := 4, maxLocals := 1, code := prog_37_method_7_code, exceptionTable := #[], attributes := #[] }
def k8m6 : Method := { name := "removed", desc := "()Lcom/example/threefold/threefold/store/Activation;", sig := { parameters := [], returnType := some (.object "com/example/threefold/threefold/store/Activation") }, accessFlags := 1, code := some k8c6 }
def k8c7 : Code := { maxStack := 1, maxLocals := 1, code := prog_37_method_9_code, exceptionTable := #[], attributes := #[] }
def k8m7 : Method := { name := "hasKeys", desc := "()Z", sig := { parameters := [], returnType := some .boolean }, accessFlags := 1, code := some k8c7 }
def k8c8 : Code := { maxStack := 15, maxLocals := 4, code := prog_37_method_15_code, exceptionTable := #[], attributes := #[] }
def k8m8 : Method := { name := "withState", desc := "(Lcom/example/threefold/threefold/protocol/ActivationStatus;ILjava/lang/String;)Lcom/example/threefold/threefold/store/Activation;", sig := { parameters := [(.object "com/example/threefold/threefold/protocol/ActivationStatus"), .int, (.object "java/lang/String")], returnType := some (.object "com/example/threefold/threefold/store/Activation") }, accessFlags := 2, code := some k8c8 }
/-- com/example/threefold/threefold/store/Activation -/
def k8 : Class := { plain "com/example/threefold/threefold/store/Activation" (some 7) with
  accessFlags := 49
  interfaces := #[]
  cf := some (fileOf pool8 8 #[] #[{ accessFlags := 1, nameIndex := 5, descriptorIndex := 47, attributes := #[] }, { accessFlags := 1, nameIndex := 136, descriptorIndex := 137, attributes := #[] }, { accessFlags := 1, nameIndex := 138, descriptorIndex := 139, attributes := #[] }, { accessFlags := 1, nameIndex := 140, descriptorIndex := 141, attributes := #[] }, { accessFlags := 1, nameIndex := 142, descriptorIndex := 143, attributes := #[] }, { accessFlags := 1, nameIndex := 144, descriptorIndex := 141, attributes := #[] }, { accessFlags := 1, nameIndex := 145, descriptorIndex := 141, attributes := #[] }, { accessFlags := 1, nameIndex := 78, descriptorIndex := 69, attributes := #[] }, { accessFlags := 2, nameIndex := 58, descriptorIndex := 59, attributes := #[] }] 49 2 #[] #[{ accessFlags := 18, nameIndex := 11, descriptorIndex := 12, attributes := #[] }, { accessFlags := 18, nameIndex := 15, descriptorIndex := 16, attributes := #[] }, { accessFlags := 18, nameIndex := 19, descriptorIndex := 12, attributes := #[] }, { accessFlags := 18, nameIndex := 22, descriptorIndex := 23, attributes := #[] }, { accessFlags := 18, nameIndex := 26, descriptorIndex := 16, attributes := #[] }, { accessFlags := 18, nameIndex := 29, descriptorIndex := 30, attributes := #[] }, { accessFlags := 18, nameIndex := 33, descriptorIndex := 12, attributes := #[] }, { accessFlags := 18, nameIndex := 36, descriptorIndex := 37, attributes := #[] }, { accessFlags := 18, nameIndex := 40, descriptorIndex := 41, attributes := #[] }, { accessFlags := 18, nameIndex := 44, descriptorIndex := 16, attributes := #[] }, { accessFlags := 25, nameIndex := 127, descriptorIndex := 30, attributes := #[] }, { accessFlags := 25, nameIndex := 130, descriptorIndex := 30, attributes := #[] }, { accessFlags := 25, nameIndex := 131, descriptorIndex := 12, attributes := #[] }])
  fields := #[{ name := "activationId", type := (.object "java/lang/String"), accessFlags := 18, slot := 0, constantValue := 0 }, { name := "applicationId", type := .long, accessFlags := 18, slot := 1, constantValue := 0 }, { name := "userId", type := (.object "java/lang/String"), accessFlags := 18, slot := 2, constantValue := 0 }, { name := "status", type := (.object "com/example/threefold/threefold/protocol/ActivationStatus"), accessFlags := 18, slot := 3, constantValue := 0 }, { name := "counter", type := .long, accessFlags := 18, slot := 4, constantValue := 0 }, { name := "failedAttempts", type := .int, accessFlags := 18, slot := 5, constantValue := 0 }, { name := "blockedReason", type := (.object "java/lang/String"), accessFlags := 18, slot := 6, constantValue := 0 }, { name := "code", type := (.object "com/example/threefold/threefold/protocol/ActivationCode"), accessFlags := 18, slot := 7, constantValue := 0 }, { name := "device", type := (.object "com/example/threefold/threefold/store/Device"), accessFlags := 18, slot := 8, constantValue := 0 }, { name := "createdAt", type := .long, accessFlags := 18, slot := 9, constantValue := 0 }, { name := "USER_ID_LIMIT", type := .int, accessFlags := 25, slot := 0, constantValue := 0 }, { name := "BLOCKED_REASON_LIMIT", type := .int, accessFlags := 25, slot := 1, constantValue := 0 }, { name := "NOT_SPECIFIED", type := (.object "java/lang/String"), accessFlags := 25, slot := 2, constantValue := 0 }]
  methods := #[k8m0, k8m1, k8m2, k8m3, k8m4, k8m5, k8m6, k8m7, k8m8]
  instanceTypes := #[(.object "java/lang/String"), .long, (.object "java/lang/String"), (.object "com/example/threefold/threefold/protocol/ActivationStatus"), .long, .int, (.object "java/lang/String"), (.object "com/example/threefold/threefold/protocol/ActivationCode"), (.object "com/example/threefold/threefold/store/Device"), .long]
  staticTypes := #[.int, .int, (.object "java/lang/String")]
  resolved := Array.replicate 196 none
  statics := none }

def pool9 : Array CpInfo := pool [(2, .class_ 4), (1, u "java/lang/CharSequence"), (42, .class_ 48), (0, u "java/lang/CharSequence$1CodePointIterator"), (10, .class_ 60), (0, u "java/lang/CharSequence$1CharIterator"), (5, .class_ 67), (0, u "java/lang/Object")] 63

/-- java/lang/CharSequence -/
def k9 : Class := { plain "java/lang/CharSequence" (some 0) with
  accessFlags := 1537
  interfaces := #[]
  cf := some (fileOf pool9 2 #[.nestMembers #[47, 59]] #[] 1537 66 #[] #[])
  fields := #[]
  methods := #[]
  instanceTypes := #[]
  staticTypes := #[]
  resolved := Array.replicate 131 none
  statics := none }

def pool10 : Array CpInfo := pool [(1, .class_ 2), (0, u "java/lang/constant/ConstantDesc"), (0, .class_ 4), (0, u "java/lang/Object")] 32

/-- java/lang/constant/ConstantDesc -/
def k10 : Class := { plain "java/lang/constant/ConstantDesc" (some 0) with
  accessFlags := 1537
  interfaces := #[]
  cf := some (fileOf pool10 1 #[] #[] 1537 3 #[] #[])
  fields := #[]
  methods := #[]
  instanceTypes := #[]
  staticTypes := #[]
  resolved := Array.replicate 37 none
  statics := none }

def pool11 : Array CpInfo := pool [(1, .methodref 2 3), (0, .class_ 4), (0, .nameAndType 5 6), (0, u "java/lang/Object"), (0, u "<init>"), (0, u "()V"), (2, .fieldref 10 11), (0, .class_ 12), (0, .nameAndType 13 14), (0, u "java/lang/String"), (0, u "value"), (0, u "[B"), (0, .fieldref 10 16), (0, .nameAndType 17 18), (0, u "coder"), (0, u "B"), (2, u "hash"), (0, u "I"), (2, u "hashIsZero"), (0, u "Z"), (0, .methodref 10 28), (0, .nameAndType 5 29), (0, u "([CIILjava/lang/Void;)V"), (8, .fieldref 10 39), (0, .nameAndType 40 26), (0, u "COMPACT_STRINGS"), (1, .class_ 44), (1, u "java/lang/StringUTF16"), (0, u "compress"), (1, .methodref 42 48), (0, .nameAndType 49 50), (0, u "coderFromArrayLen"), (0, u "([BI)B"), (126, .methodref 42 178), (0, .nameAndType 45 179), (0, u "([CII)[B"), (395, .class_ 576), (0, u "java/lang/CharSequence"), (22, u "CASE_INSENSITIVE_ORDER"), (0, u "Ljava/util/Comparator;"), (409, u "([C)V"), (90, u "serialPersistentFields"), (0, u "[Ljava/io/ObjectStreamField;"), (0, .class_ 1104), (0, u "java/lang/String$CaseInsensitiveComparator"), (1, .class_ 1107), (0, u "java/io/Serializable"), (0, .class_ 1109), (0, u "java/lang/Comparable"), (0, .class_ 1111), (0, u "java/lang/constant/Constable"), (0, .class_ 1113), (0, u "java/lang/constant/ConstantDesc"), (2, u "serialVersionUID"), (0, u "J"), (3, u "REPL"), (0, u "C"), (2, u "LATIN1"), (1, u "UTF16")] 323

def k11m0 : Method := { name := "<init>", desc := "()V", sig := { parameters := [], returnType := none }, accessFlags := 1, code := none }
def k11c1 : Code := { maxStack := 5, maxLocals := 2, code := jdk_42_method_3_code, exceptionTable := #[], attributes := #[] }
def k11m1 : Method := { name := "<init>", desc := "([C)V", sig := { parameters := [(.array .char)], returnType := none }, accessFlags := 1, code := some k11c1 }
def k11c2 : Code := { maxStack := 4, maxLocals := 6, code := jdk_42_method_149_code, exceptionTable := #[], attributes := #[] }
def k11m2 : Method := { name := "<init>", desc := "([CIILjava/lang/Void;)V", sig := { parameters := [(.array .char), .int, .int, (.object "java/lang/Void")], returnType := none }, accessFlags := 2, code := some k11c2 }
/-- java/lang/String -/
def k11 : Class := { plain "java/lang/String" (some 0) with
  accessFlags := 49
  interfaces := #[4, 3, 9, 2, 10]
  cf := some (fileOf pool11 10 #[.nestMembers #[1103]] #[{ accessFlags := 1, nameIndex := 5, descriptorIndex := 6, attributes := #[] }, { accessFlags := 1, nameIndex := 5, descriptorIndex := 1010, attributes := #[] }, { accessFlags := 2, nameIndex := 5, descriptorIndex := 29, attributes := #[] }] 49 2 #[1106, 1108, 575, 1110, 1112] #[{ accessFlags := 18, nameIndex := 13, descriptorIndex := 14, attributes := #[] }, { accessFlags := 18, nameIndex := 17, descriptorIndex := 18, attributes := #[] }, { accessFlags := 2, nameIndex := 21, descriptorIndex := 22, attributes := #[] }, { accessFlags := 2, nameIndex := 25, descriptorIndex := 26, attributes := #[] }, { accessFlags := 26, nameIndex := 1116, descriptorIndex := 1117, attributes := #[] }, { accessFlags := 24, nameIndex := 40, descriptorIndex := 26, attributes := #[] }, { accessFlags := 26, nameIndex := 1101, descriptorIndex := 1102, attributes := #[] }, { accessFlags := 26, nameIndex := 1121, descriptorIndex := 1122, attributes := #[] }, { accessFlags := 25, nameIndex := 599, descriptorIndex := 600, attributes := #[] }, { accessFlags := 24, nameIndex := 1125, descriptorIndex := 18, attributes := #[] }, { accessFlags := 24, nameIndex := 1127, descriptorIndex := 18, attributes := #[] }])
  fields := #[{ name := "value", type := (.array .byte), accessFlags := 18, slot := 0, constantValue := 0 }, { name := "coder", type := .byte, accessFlags := 18, slot := 1, constantValue := 0 }, { name := "hash", type := .int, accessFlags := 2, slot := 2, constantValue := 0 }, { name := "hashIsZero", type := .boolean, accessFlags := 2, slot := 3, constantValue := 0 }, { name := "serialVersionUID", type := .long, accessFlags := 26, slot := 0, constantValue := 0 }, { name := "COMPACT_STRINGS", type := .boolean, accessFlags := 24, slot := 1, constantValue := 0 }, { name := "serialPersistentFields", type := (.array (.object "java/io/ObjectStreamField")), accessFlags := 26, slot := 2, constantValue := 0 }, { name := "REPL", type := .char, accessFlags := 26, slot := 3, constantValue := 0 }, { name := "CASE_INSENSITIVE_ORDER", type := (.object "java/util/Comparator"), accessFlags := 25, slot := 4, constantValue := 0 }, { name := "LATIN1", type := .byte, accessFlags := 24, slot := 5, constantValue := 0 }, { name := "UTF16", type := .byte, accessFlags := 24, slot := 6, constantValue := 0 }]
  methods := #[k11m0, k11m1, k11m2]
  instanceTypes := #[(.array .byte), .byte, .int, .boolean]
  staticTypes := #[.long, .boolean, (.array (.object "java/io/ObjectStreamField")), .char, (.object "java/util/Comparator"), .byte, .byte]
  resolved := Array.replicate 1451 none
  statics := some 1 }

def pool12 : Array CpInfo := pool [(6, .class_ 8), (1, u "java/lang/Object"), (0, u "<init>"), (0, u "()V"), (1, .class_ 14), (1, u "java/lang/StringUTF16"), (31, u "$assertionsDisabled"), (0, u "Z"), (13, u "HI_BYTE_SHIFT"), (0, u "I"), (2, u "LO_BYTE_SHIFT"), (49, .methodref 12 116), (0, .nameAndType 117 118), (0, u "compress"), (0, u "([CI[BII)I"), (3, u "([CII)[B"), (138, u "coderFromArrayLen"), (0, u "([BI)B"), (106, .class_ 371), (1, u "java/lang/StringUTF16$LinesSpliterator"), (58, u "MAX_LENGTH"), (196, .class_ 628), (0, u "java/lang/StringUTF16$CodePointsSpliterator"), (0, .class_ 630), (0, u "java/lang/StringUTF16$CharsSpliterator")] 4

def k12m0 : Method := { name := "<init>", desc := "()V", sig := { parameters := [], returnType := none }, accessFlags := 0, code := none }
def k12c1 : Code := { maxStack := 2, maxLocals := 2, code := jdk_52_method_15_code, exceptionTable := #[], attributes := #[] }
def k12m1 : Method := { name := "coderFromArrayLen", desc := "([BI)B", sig := { parameters := [(.array .byte), .int], returnType := some .byte }, accessFlags := 8, code := some k12c1 }
def k12c2 : Code := { maxStack := 5, maxLocals := 6, code := jdk_52_method_16_code, exceptionTable := #[], attributes := #[] }
def k12m2 : Method := { name := "compress", desc := "([CII)[B", sig := { parameters := [(.array .char), .int, .int], returnType := some (.array .byte) }, accessFlags := 9, code := some k12c2 }
def k12c3 : Code := { maxStack := 3, maxLocals := 7, code := jdk_52_method_21_code, exceptionTable := #[], attributes := #[] }
def k12m3 : Method := { name := "compress", desc := "([CI[BII)I", sig := { parameters := [(.array .char), .int, (.array .byte), .int, .int], returnType := some .int }, accessFlags := 9, code := some k12c3 }
/-- java/lang/StringUTF16 -/
def k12 : Class := { plain "java/lang/StringUTF16" (some 0) with
  accessFlags := 48
  interfaces := #[]
  cf := some (fileOf pool12 12 #[.nestMembers #[627, 629, 369]] #[{ accessFlags := 0, nameIndex := 9, descriptorIndex := 10, attributes := #[] }, { accessFlags := 8, nameIndex := 261, descriptorIndex := 262, attributes := #[] }, { accessFlags := 9, nameIndex := 117, descriptorIndex := 122, attributes := #[] }, { accessFlags := 9, nameIndex := 117, descriptorIndex := 118, attributes := #[] }] 48 6 #[] #[{ accessFlags := 26, nameIndex := 61, descriptorIndex := 62, attributes := #[] }, { accessFlags := 26, nameIndex := 65, descriptorIndex := 62, attributes := #[] }, { accessFlags := 24, nameIndex := 430, descriptorIndex := 62, attributes := #[] }, { accessFlags := 4120, nameIndex := 46, descriptorIndex := 47, attributes := #[] }])
  fields := #[{ name := "HI_BYTE_SHIFT", type := .int, accessFlags := 26, slot := 0, constantValue := 0 }, { name := "LO_BYTE_SHIFT", type := .int, accessFlags := 26, slot := 1, constantValue := 0 }, { name := "MAX_LENGTH", type := .int, accessFlags := 24, slot := 2, constantValue := 0 }, { name := "$assertionsDisabled", type := .boolean, accessFlags := 4120, slot := 3, constantValue := 0 }]
  methods := #[k12m0, k12m1, k12m2, k12m3]
  instanceTypes := #[]
  staticTypes := #[.int, .int, .int, .boolean]
  resolved := Array.replicate 635 none
  statics := none }

def pool13 : Array CpInfo := pool [(1, .methodref 2 3), (0, .class_ 4), (0, .nameAndType 5 6), (0, u "java/lang/Record"), (0, u "<init>"), (0, u "()V"), (0, .fieldref 8 9), (0, .class_ 10), (0, .nameAndType 11 12), (0, u "com/example/threefold/threefold/store/Device"), (0, u "serverPrivateKey"), (0, u "[B"), (0, .fieldref 8 14), (0, .nameAndType 15 12), (0, u "devicePublicKey"), (0, .fieldref 8 17), (0, .nameAndType 18 12), (0, u "masterSecret"), (0, .fieldref 8 20), (0, .nameAndType 21 22), (0, u "activationName"), (0, u "Ljava/lang/String;"), (0, .fieldref 8 24), (0, .nameAndType 25 22), (0, u "extras"), (2, u "([B[B[BLjava/lang/String;Ljava/lang/String;)V"), (45, u "NAME_LIMIT"), (0, u "I"), (2, u "EXTRAS_LIMIT")] 35

def k13c0 : Code := { maxStack := 2, maxLocals := 6, code := prog_40_method_1_code, exceptionTable := #[], attributes := #[] }
def k13m0 : Method := { name := "<init>", desc := "([B[B[BLjava/lang/String;Ljava/lang/String;)V", sig := { parameters := [(.array .byte), (.array .byte), (.array .byte), (.object "java/lang/String"), (.object "java/lang/String")], returnType := none }, accessFlags := 1, code := some k13c0 }
/-- com/example/threefold/threefold/store/Device -/
def k13 : Class := { plain "com/example/threefold/threefold/store/Device" (some 7) with
  accessFlags := 49
  interfaces := #[]
  cf := some (fileOf pool13 8 #[] #[{ accessFlags := 1, nameIndex := 5, descriptorIndex := 28, attributes := #[] }] 49 2 #[] #[{ accessFlags := 18, nameIndex := 11, descriptorIndex := 12, attributes := #[] }, { accessFlags := 18, nameIndex := 15, descriptorIndex := 12, attributes := #[] }, { accessFlags := 18, nameIndex := 18, descriptorIndex := 12, attributes := #[] }, { accessFlags := 18, nameIndex := 21, descriptorIndex := 22, attributes := #[] }, { accessFlags := 18, nameIndex := 25, descriptorIndex := 22, attributes := #[] }, { accessFlags := 25, nameIndex := 74, descriptorIndex := 75, attributes := #[] }, { accessFlags := 25, nameIndex := 78, descriptorIndex := 75, attributes := #[] }])
  fields := #[{ name := "serverPrivateKey", type := (.array .byte), accessFlags := 18, slot := 0, constantValue := 0 }, { name := "devicePublicKey", type := (.array .byte), accessFlags := 18, slot := 1, constantValue := 0 }, { name := "masterSecret", type := (.array .byte), accessFlags := 18, slot := 2, constantValue := 0 }, { name := "activationName", type := (.object "java/lang/String"), accessFlags := 18, slot := 3, constantValue := 0 }, { name := "extras", type := (.object "java/lang/String"), accessFlags := 18, slot := 4, constantValue := 0 }, { name := "NAME_LIMIT", type := .int, accessFlags := 25, slot := 0, constantValue := 0 }, { name := "EXTRAS_LIMIT", type := .int, accessFlags := 25, slot := 1, constantValue := 0 }]
  methods := #[k13m0]
  instanceTypes := #[(.array .byte), (.array .byte), (.array .byte), (.object "java/lang/String"), (.object "java/lang/String")]
  staticTypes := #[.int, .int]
  resolved := Array.replicate 114 none
  statics := none }

def pool14 : Array CpInfo := pool [(4, .class_ 6), (1, u "java/lang/Object"), (0, u "<init>"), (0, u "()V"), (5, .class_ 16), (1, u "java/lang/StringLatin1"), (104, u "$assertionsDisabled"), (0, u "Z"), (98, .class_ 223), (1, u "java/lang/StringLatin1$LinesSpliterator"), (166, .class_ 391), (0, u "java/lang/StringLatin1$CharsSpliterator")] 3

def k14m0 : Method := { name := "<init>", desc := "()V", sig := { parameters := [], returnType := none }, accessFlags := 0, code := none }
/-- java/lang/StringLatin1 -/
def k14 : Class := { plain "java/lang/StringLatin1" (some 0) with
  accessFlags := 48
  interfaces := #[]
  cf := some (fileOf pool14 14 #[.nestMembers #[390, 221]] #[{ accessFlags := 0, nameIndex := 7, descriptorIndex := 8, attributes := #[] }] 48 4 #[] #[{ accessFlags := 4120, nameIndex := 121, descriptorIndex := 122, attributes := #[] }])
  fields := #[{ name := "$assertionsDisabled", type := .boolean, accessFlags := 4120, slot := 0, constantValue := 0 }]
  methods := #[k14m0]
  instanceTypes := #[]
  staticTypes := #[.boolean]
  resolved := Array.replicate 395 none
  statics := none }

def pool15 : Array CpInfo := pool [(2, .class_ 4), (1, u "java/lang/Object"), (0, u "<init>"), (0, u "()V"), (17, .class_ 26), (1, u "jdk/internal/util/Preconditions"), (28, .class_ 56), (0, u "jdk/internal/util/Preconditions$4"), (57, .class_ 115), (0, u "jdk/internal/util/Preconditions$1"), (7, u "SIOOBE_FORMATTER"), (0, u "Ljava/util/function/BiFunction;"), (0, .class_ 126), (0, u "jdk/internal/util/Preconditions$2"), (3, u "AIOOBE_FORMATTER"), (0, .class_ 132), (0, u "jdk/internal/util/Preconditions$3"), (3, u "IOOBE_FORMATTER")] 57

def k15m0 : Method := { name := "<init>", desc := "()V", sig := { parameters := [], returnType := none }, accessFlags := 1, code := none }
/-- jdk/internal/util/Preconditions -/
def k15 : Class := { plain "jdk/internal/util/Preconditions" (some 0) with
  accessFlags := 33
  interfaces := #[]
  cf := some (fileOf pool15 24 #[.nestMembers #[55, 131, 125, 114]] #[{ accessFlags := 1, nameIndex := 5, descriptorIndex := 6, attributes := #[] }] 33 2 #[] #[{ accessFlags := 25, nameIndex := 123, descriptorIndex := 124, attributes := #[] }, { accessFlags := 25, nameIndex := 130, descriptorIndex := 124, attributes := #[] }, { accessFlags := 25, nameIndex := 136, descriptorIndex := 124, attributes := #[] }])
  fields := #[{ name := "SIOOBE_FORMATTER", type := (.object "java/util/function/BiFunction"), accessFlags := 25, slot := 0, constantValue := 0 }, { name := "AIOOBE_FORMATTER", type := (.object "java/util/function/BiFunction"), accessFlags := 25, slot := 1, constantValue := 0 }, { name := "IOOBE_FORMATTER", type := (.object "java/util/function/BiFunction"), accessFlags := 25, slot := 2, constantValue := 0 }]
  methods := #[k15m0]
  instanceTypes := #[]
  staticTypes := #[(.object "java/util/function/BiFunction"), (.object "java/util/function/BiFunction"), (.object "java/util/function/BiFunction")]
  resolved := Array.replicate 194 none
  statics := some 2 }

def pool16 : Array CpInfo := pool [(9, u "<init>"), (6, .class_ 18), (1, u "java/lang/Object"), (0, u "()V"), (1, .class_ 23), (1, u "jdk/internal/util/ArraysSupport"), (0, u "LOG2_ARRAY_LONG_INDEX_SCALE"), (0, u "I"), (2, u "U"), (0, u "Ljdk/internal/misc/Unsafe;"), (8, u "BIG_ENDIAN"), (0, u "Z"), (8, u "LOG2_BYTE_BIT_SIZE"), (4, u "LOG2_ARRAY_INT_INDEX_SCALE"), (54, u "JLA"), (0, u "Ljdk/internal/access/JavaLangAccess;"), (11, u "LOG2_ARRAY_BOOLEAN_INDEX_SCALE"), (9, u "LOG2_ARRAY_BYTE_INDEX_SCALE"), (5, u "LOG2_ARRAY_CHAR_INDEX_SCALE"), (5, u "LOG2_ARRAY_SHORT_INDEX_SCALE"), (18, u "LOG2_ARRAY_FLOAT_INDEX_SCALE"), (24, u "LOG2_ARRAY_DOUBLE_INDEX_SCALE"), (89, u "T_BOOLEAN"), (2, u "T_CHAR"), (1, u "T_FLOAT"), (1, u "T_DOUBLE"), (1, u "T_BYTE"), (1, u "T_SHORT"), (1, u "T_INT"), (1, u "T_LONG"), (1, u "SOFT_MAX_ARRAY_LENGTH")] 83

def k16m0 : Method := { name := "<init>", desc := "()V", sig := { parameters := [], returnType := none }, accessFlags := 2, code := none }
/-- jdk/internal/util/ArraysSupport -/
def k16 : Class := { plain "jdk/internal/util/ArraysSupport" (some 0) with
  accessFlags := 33
  interfaces := #[]
  cf := some (fileOf pool16 21 #[] #[{ accessFlags := 2, nameIndex := 9, descriptorIndex := 19, attributes := #[] }] 33 16 #[] #[{ accessFlags := 24, nameIndex := 28, descriptorIndex := 29, attributes := #[] }, { accessFlags := 26, nameIndex := 38, descriptorIndex := 39, attributes := #[] }, { accessFlags := 25, nameIndex := 121, descriptorIndex := 25, attributes := #[] }, { accessFlags := 25, nameIndex := 131, descriptorIndex := 25, attributes := #[] }, { accessFlags := 25, nameIndex := 137, descriptorIndex := 25, attributes := #[] }, { accessFlags := 25, nameIndex := 143, descriptorIndex := 25, attributes := #[] }, { accessFlags := 25, nameIndex := 53, descriptorIndex := 25, attributes := #[] }, { accessFlags := 25, nameIndex := 24, descriptorIndex := 25, attributes := #[] }, { accessFlags := 25, nameIndex := 162, descriptorIndex := 25, attributes := #[] }, { accessFlags := 25, nameIndex := 187, descriptorIndex := 25, attributes := #[] }, { accessFlags := 26, nameIndex := 48, descriptorIndex := 25, attributes := #[] }, { accessFlags := 25, nameIndex := 277, descriptorIndex := 25, attributes := #[] }, { accessFlags := 25, nameIndex := 280, descriptorIndex := 25, attributes := #[] }, { accessFlags := 25, nameIndex := 282, descriptorIndex := 25, attributes := #[] }, { accessFlags := 25, nameIndex := 284, descriptorIndex := 25, attributes := #[] }, { accessFlags := 25, nameIndex := 286, descriptorIndex := 25, attributes := #[] }, { accessFlags := 25, nameIndex := 288, descriptorIndex := 25, attributes := #[] }, { accessFlags := 25, nameIndex := 290, descriptorIndex := 25, attributes := #[] }, { accessFlags := 25, nameIndex := 292, descriptorIndex := 25, attributes := #[] }, { accessFlags := 26, nameIndex := 108, descriptorIndex := 109, attributes := #[] }, { accessFlags := 25, nameIndex := 294, descriptorIndex := 25, attributes := #[] }])
  fields := #[{ name := "U", type := (.object "jdk/internal/misc/Unsafe"), accessFlags := 24, slot := 0, constantValue := 0 }, { name := "BIG_ENDIAN", type := .boolean, accessFlags := 26, slot := 1, constantValue := 0 }, { name := "LOG2_ARRAY_BOOLEAN_INDEX_SCALE", type := .int, accessFlags := 25, slot := 2, constantValue := 0 }, { name := "LOG2_ARRAY_BYTE_INDEX_SCALE", type := .int, accessFlags := 25, slot := 3, constantValue := 0 }, { name := "LOG2_ARRAY_CHAR_INDEX_SCALE", type := .int, accessFlags := 25, slot := 4, constantValue := 0 }, { name := "LOG2_ARRAY_SHORT_INDEX_SCALE", type := .int, accessFlags := 25, slot := 5, constantValue := 0 }, { name := "LOG2_ARRAY_INT_INDEX_SCALE", type := .int, accessFlags := 25, slot := 6, constantValue := 0 }, { name := "LOG2_ARRAY_LONG_INDEX_SCALE", type := .int, accessFlags := 25, slot := 7, constantValue := 0 }, { name := "LOG2_ARRAY_FLOAT_INDEX_SCALE", type := .int, accessFlags := 25, slot := 8, constantValue := 0 }, { name := "LOG2_ARRAY_DOUBLE_INDEX_SCALE", type := .int, accessFlags := 25, slot := 9, constantValue := 0 }, { name := "LOG2_BYTE_BIT_SIZE", type := .int, accessFlags := 26, slot := 10, constantValue := 0 }, { name := "T_BOOLEAN", type := .int, accessFlags := 25, slot := 11, constantValue := 0 }, { name := "T_CHAR", type := .int, accessFlags := 25, slot := 12, constantValue := 0 }, { name := "T_FLOAT", type := .int, accessFlags := 25, slot := 13, constantValue := 0 }, { name := "T_DOUBLE", type := .int, accessFlags := 25, slot := 14, constantValue := 0 }, { name := "T_BYTE", type := .int, accessFlags := 25, slot := 15, constantValue := 0 }, { name := "T_SHORT", type := .int, accessFlags := 25, slot := 16, constantValue := 0 }, { name := "T_INT", type := .int, accessFlags := 25, slot := 17, constantValue := 0 }, { name := "T_LONG", type := .int, accessFlags := 25, slot := 18, constantValue := 0 }, { name := "JLA", type := (.object "jdk/internal/access/JavaLangAccess"), accessFlags := 26, slot := 19, constantValue := 0 }, { name := "SOFT_MAX_ARRAY_LENGTH", type := .int, accessFlags := 25, slot := 20, constantValue := 0 }]
  methods := #[k16m0]
  instanceTypes := #[]
  staticTypes := #[(.object "jdk/internal/misc/Unsafe"), .boolean, .int, .int, .int, .int, .int, .int, .int, .int, .int, .int, .int, .int, .int, .int, .int, .int, .int, (.object "jdk/internal/access/JavaLangAccess"), .int]
  resolved := Array.replicate 378 none
  statics := none }

def pool17 : Array CpInfo := pool [(1, u "java/lang/Cloneable"), (0, .class_ 1), (0, u "java/lang/Object"), (0, .class_ 3)] 3

/-- java/lang/Cloneable -/
def k17 : Class := { plain "java/lang/Cloneable" (some 0) with
  accessFlags := 1537
  interfaces := #[]
  cf := some (fileOf pool17 2 #[] #[] 1537 4 #[] #[])
  fields := #[]
  methods := #[]
  instanceTypes := #[]
  staticTypes := #[]
  resolved := Array.replicate 8 none
  statics := none }

/-- the primitive byte -/
def k18 : Class := { plain "byte" none with kind := .primitive 'B', accessFlags := 0x411 }
/-- [B -/
def k19 : Class := { plain "[B" (some 0) with kind := .array 18 .byte, interfaces := #[17, 4], accessFlags := 1041 }

/-- the primitive char -/
def k20 : Class := { plain "char" none with kind := .primitive 'C', accessFlags := 0x411 }
/-- [C -/
def k21 : Class := { plain "[C" (some 0) with kind := .array 20 .char, interfaces := #[17, 4], accessFlags := 1041 }

/-- the primitive int -/
def k22 : Class := { plain "int" none with kind := .primitive 'I', accessFlags := 0x411 }
/-- [I -/
def k23 : Class := { plain "[I" (some 0) with kind := .array 22 .int, interfaces := #[17, 4], accessFlags := 1041 }

def heap : Heap := #[{ cls := 6, slots := #[.ref 3, .ref 6, .ref 4, .ref 7, .ref 5, .null], vm := .statics 6 },
  { cls := 11, slots := #[.long 0, .int 1, .null, .int 0, .null, .int 0, .int 0], vm := .statics 11 },
  { cls := 15, slots := #[.null, .null, .null], vm := .statics 15 },
  { cls := 6, slots := #[.null, .int 0, .int 0, .int 0], vm := .none },
  { cls := 6, slots := #[.null, .int 0, .int 0, .int 0], vm := .none },
  { cls := 6, slots := #[.null, .int 0, .int 0, .int 0], vm := .none },
  { cls := 6, slots := #[.null, .int 0, .int 0, .int 0], vm := .none },
  { cls := 6, slots := #[.null, .int 0, .int 0, .int 0], vm := .none }]
def classes : Array Class := #[k0, k1, k2, k3, k4, k5, k6, k7, k8, k9, k10, k11, k12, k13, k14, k15, k16, k17, k18, k19, k20, k21, k22, k23]
def interned : List (Array UInt16 × Addr) := []
def slotsUsed : Nat := 36
def theMethod : MethodId := ⟨1, 2⟩
def args0 : Array Value := #[.int 1, .long 1, .int 1, .int 1, .long 1, .long 1]
def aboutOver (below : List Frame) : State where
  vm := { classes := classes, interned := interned.toArray }
  heap := heap
  slotsUsed := slotsUsed
  threads := #[{ frames := .invoking theMethod args0 :: below }]
def below0 : List Frame := [.native { method := ⟨0, 0⟩, args := #[] }]
def about1 : State := aboutOver below0
def p0 : Program := .bare "" "" ""
def e0 : Env := launch0.env 0 0 0
theorem w_frames : about1.frames = Frame.invoking theMethod args0 :: below0 := rfl
set_option maxRecDepth 65536 in
theorem w_args : argsFit about1.vm theMethod args0 = true := by decide +kernel
set_option maxRecDepth 65536 in
theorem w_heap : heapFits about1 = true := by decide +kernel
set_option maxRecDepth 65536 in
theorem w_runnable : about1.curStatus? = some .runnable := by decide +kernel
set_option maxRecDepth 65536 in
theorem w_alone : about1.alone = true := by decide +kernel
set_option maxRecDepth 65536 in
theorem w_named : about1.methodNamed? x = some theMethod := by decide +kernel
set_option maxRecDepth 65536 in
theorem w_hears : about1.hears theMethod below0 = true := by decide +kernel
set_option maxRecDepth 65536 in
theorem w_ripe : about1.ripe theMethod args0 below0 = true := by decide +kernel
theorem w_running : about1.status = .running := rfl
set_option maxRecDepth 65536 in
theorem w_room : about1.hasRoom e0.platform room_1 = true :=
  launch0.hasRoom_least _ room_1 (by decide +kernel) (by decide +kernel) (by decide +kernel) (by decide +kernel) (by decide +kernel) (by decide +kernel)
theorem allAtoms_all (ts : List Jvm.Cond) (a : Array Jvm.Value) (st : Jvm.State) : (allAtoms ts).before a st = ts.all (fun c => c.before a st) := by
  induction ts with
  | nil => rfl
  | cons c t ih =>
    show (Jvm.Cond.and c (allAtoms t)).before a st = _
    rw [Jvm.Cond.before_and, ih, List.all_cons]
def words1 : List Jvm.Cond := Jvm.Cond.code x code maxLocals ret :: tables_1
/-- a 'code' word, met by the world's own term for the bytes: nothing is compared byte by byte -/
theorem code_word {y : MethodName} {bytes : ByteArray} {mx : Nat} {rt : Option FieldType} {a : Array Value} {s : State} {m : MethodId} {meth : Method} {c : Code} (h1 : s.methodNamed? y = some m) (h2 : s.vm.method? m = some meth) (h3 : meth.code = some c) (h4 : c.code = bytes)
    (h5 : (c.maxLocals == mx && c.exceptionTable.isEmpty && decide (c.maxStack ≤ mostOperands) && decide (meth.sig.returnType = rt) && !meth.locks && decide (parseMethodDescriptor y.desc = some meth.sig)) = true) : (Jvm.Cond.code y bytes mx rt).before a s = true := by
  simp only [Bool.and_eq_true, beq_iff_eq, Bool.not_eq_true', decide_eq_true_eq] at h5
  obtain ⟨⟨⟨⟨⟨g1, g2⟩, g3⟩, g4⟩, g5⟩, g6⟩ := h5
  simp [Cond.before, Cond.holds, Cond.value, h1, h2, h3, h4, g1, g2, g3, g4, g5, g6]
def isCode : Jvm.Cond → Bool
  | .code _ _ _ _ => true
  | _ => false
theorem all_split {L : List Jvm.Cond} {P : Jvm.Cond → Bool} (h1 : L.all (fun c => isCode c || P c) = true) (h2 : ∀ c ∈ L.filter isCode, P c = true) : L.all P = true := by
  refine List.all_eq_true.mpr fun c hc => ?_
  have h := List.all_eq_true.mp h1 c hc
  rcases Bool.eq_false_or_eq_true (isCode c) with hi | hi
  · exact h2 c (List.mem_filter.mpr ⟨hc, hi⟩)
  · simpa [hi] using h
set_option maxRecDepth 65536 in
theorem w_c0 : (Jvm.Cond.code x code maxLocals ret).before args0 about1 = true := code_word (m := ⟨1, 2⟩) (meth := k1m2) (c := k1c2) (by decide +kernel) rfl rfl rfl (by decide +kernel)
set_option maxRecDepth 65536 in
theorem w_c1 : (Jvm.Cond.code ({ cls := "com/example/threefold/threefold/store/ActivationHasKeysPinLaw", name := "pick", desc := "(I)Lcom/example/threefold/threefold/protocol/ActivationStatus;" } : Jvm.MethodName) method_2_code (1 : Nat) (Option.some (Jvm.ClassFile.FieldType.object "com/example/threefold/threefold/protocol/ActivationStatus"))).before args0 about1 = true := code_word (m := ⟨1, 1⟩) (meth := k1m1) (c := k1c1) (by decide +kernel) rfl rfl rfl (by decide +kernel)
set_option maxRecDepth 65536 in
theorem w_c2 : (Jvm.Cond.code ({ cls := "java/lang/String", name := "<init>", desc := "([C)V" } : Jvm.MethodName) jdk_42_method_3_code (2 : Nat) (Option.none : Option Jvm.ClassFile.FieldType)).before args0 about1 = true := code_word (m := ⟨11, 1⟩) (meth := k11m1) (c := k11c1) (by decide +kernel) rfl rfl rfl (by decide +kernel)
set_option maxRecDepth 65536 in
theorem w_c3 : (Jvm.Cond.code ({ cls := "java/lang/String", name := "<init>", desc := "([CIILjava/lang/Void;)V" } : Jvm.MethodName) jdk_42_method_149_code (6 : Nat) (Option.none : Option Jvm.ClassFile.FieldType)).before args0 about1 = true := code_word (m := ⟨11, 2⟩) (meth := k11m2) (c := k11c2) (by decide +kernel) rfl rfl rfl (by decide +kernel)
set_option maxRecDepth 65536 in
theorem w_c4 : (Jvm.Cond.code ({ cls := "java/lang/Object", name := "<init>", desc := "()V" } : Jvm.MethodName) object_method_1_code (1 : Nat) (Option.none : Option Jvm.ClassFile.FieldType)).before args0 about1 = true := code_word (m := ⟨0, 0⟩) (meth := k0m0) (c := k0c0) (by decide +kernel) rfl rfl rfl (by decide +kernel)
set_option maxRecDepth 65536 in
theorem w_c5 : (Jvm.Cond.code ({ cls := "java/lang/StringUTF16", name := "compress", desc := "([CII)[B" } : Jvm.MethodName) jdk_52_method_16_code (6 : Nat) (Option.some (Jvm.ClassFile.FieldType.array Jvm.ClassFile.FieldType.byte))).before args0 about1 = true := code_word (m := ⟨12, 2⟩) (meth := k12m2) (c := k12c2) (by decide +kernel) rfl rfl rfl (by decide +kernel)
set_option maxRecDepth 65536 in
theorem w_c6 : (Jvm.Cond.code ({ cls := "java/lang/StringUTF16", name := "compress", desc := "([CI[BII)I" } : Jvm.MethodName) jdk_52_method_21_code (7 : Nat) (Option.some Jvm.ClassFile.FieldType.int)).before args0 about1 = true := code_word (m := ⟨12, 3⟩) (meth := k12m3) (c := k12c3) (by decide +kernel) rfl rfl rfl (by decide +kernel)
set_option maxRecDepth 65536 in
theorem w_c7 : (Jvm.Cond.code ({ cls := "java/lang/StringUTF16", name := "coderFromArrayLen", desc := "([BI)B" } : Jvm.MethodName) jdk_52_method_15_code (2 : Nat) (Option.some Jvm.ClassFile.FieldType.byte)).before args0 about1 = true := code_word (m := ⟨12, 1⟩) (meth := k12m1) (c := k12c1) (by decide +kernel) rfl rfl rfl (by decide +kernel)
set_option maxRecDepth 65536 in
theorem w_c8 : (Jvm.Cond.code ({ cls := "com/example/threefold/threefold/store/Activation", name := "<init>", desc := "(Ljava/lang/String;JLjava/lang/String;Lcom/example/threefold/threefold/protocol/ActivationStatus;JILjava/lang/String;Lcom/example/threefold/threefold/protocol/ActivationCode;Lcom/example/threefold/threefold/store/Device;J)V" } : Jvm.MethodName) prog_37_method_1_code (14 : Nat) (Option.none : Option Jvm.ClassFile.FieldType)).before args0 about1 = true := code_word (m := ⟨8, 0⟩) (meth := k8m0) (c := k8c0) (by decide +kernel) rfl rfl rfl (by decide +kernel)
set_option maxRecDepth 65536 in
theorem w_c9 : (Jvm.Cond.code ({ cls := "java/lang/Record", name := "<init>", desc := "()V" } : Jvm.MethodName) jdk_30_method_1_code (1 : Nat) (Option.none : Option Jvm.ClassFile.FieldType)).before args0 about1 = true := code_word (m := ⟨7, 0⟩) (meth := k7m0) (c := k7c0) (by decide +kernel) rfl rfl rfl (by decide +kernel)
set_option maxRecDepth 65536 in
theorem w_c10 : (Jvm.Cond.code ({ cls := "com/example/threefold/threefold/store/Activation", name := "hasKeys", desc := "()Z" } : Jvm.MethodName) prog_37_method_9_code (1 : Nat) (Option.some Jvm.ClassFile.FieldType.boolean)).before args0 about1 = true := code_word (m := ⟨8, 7⟩) (meth := k8m7) (c := k8c7) (by decide +kernel) rfl rfl rfl (by decide +kernel)
set_option maxRecDepth 65536 in
theorem w_c11 : (Jvm.Cond.code ({ cls := "com/example/threefold/threefold/store/Activation", name := "withCounters", desc := "(JI)Lcom/example/threefold/threefold/store/Activation;" } : Jvm.MethodName) prog_37_method_2_code (4 : Nat) (Option.some (Jvm.ClassFile.FieldType.object "com/example/threefold/threefold/store/Activation"))).before args0 about1 = true := code_word (m := ⟨8, 1⟩) (meth := k8m1) (c := k8c1) (by decide +kernel) rfl rfl rfl (by decide +kernel)
set_option maxRecDepth 65536 in
theorem w_c12 : (Jvm.Cond.code ({ cls := "com/example/threefold/threefold/store/Device", name := "<init>", desc := "([B[B[BLjava/lang/String;Ljava/lang/String;)V" } : Jvm.MethodName) prog_40_method_1_code (6 : Nat) (Option.none : Option Jvm.ClassFile.FieldType)).before args0 about1 = true := code_word (m := ⟨13, 0⟩) (meth := k13m0) (c := k13c0) (by decide +kernel) rfl rfl rfl (by decide +kernel)
set_option maxRecDepth 65536 in
theorem w_c13 : (Jvm.Cond.code ({ cls := "com/example/threefold/threefold/store/Activation", name := "removed", desc := "()Lcom/example/threefold/threefold/store/Activation;" } : Jvm.MethodName) prog_37_method_7_code (1 : Nat) (Option.some (Jvm.ClassFile.FieldType.object "com/example/threefold/threefold/store/Activation"))).before args0 about1 = true := code_word (m := ⟨8, 6⟩) (meth := k8m6) (c := k8c6) (by decide +kernel) rfl rfl rfl (by decide +kernel)
set_option maxRecDepth 65536 in
theorem w_c14 : (Jvm.Cond.code ({ cls := "com/example/threefold/threefold/store/Activation", name := "withState", desc := "(Lcom/example/threefold/threefold/protocol/ActivationStatus;ILjava/lang/String;)Lcom/example/threefold/threefold/store/Activation;" } : Jvm.MethodName) prog_37_method_15_code (4 : Nat) (Option.some (Jvm.ClassFile.FieldType.object "com/example/threefold/threefold/store/Activation"))).before args0 about1 = true := code_word (m := ⟨8, 8⟩) (meth := k8m8) (c := k8c8) (by decide +kernel) rfl rfl rfl (by decide +kernel)
set_option maxRecDepth 65536 in
theorem w_c15 : (Jvm.Cond.code ({ cls := "com/example/threefold/threefold/store/Activation", name := "unblocked", desc := "()Lcom/example/threefold/threefold/store/Activation;" } : Jvm.MethodName) prog_37_method_6_code (1 : Nat) (Option.some (Jvm.ClassFile.FieldType.object "com/example/threefold/threefold/store/Activation"))).before args0 about1 = true := code_word (m := ⟨8, 5⟩) (meth := k8m5) (c := k8c5) (by decide +kernel) rfl rfl rfl (by decide +kernel)
set_option maxRecDepth 65536 in
theorem w_c16 : (Jvm.Cond.code ({ cls := "com/example/threefold/threefold/store/Activation", name := "exchanged", desc := "(Lcom/example/threefold/threefold/store/Device;)Lcom/example/threefold/threefold/store/Activation;" } : Jvm.MethodName) prog_37_method_3_code (2 : Nat) (Option.some (Jvm.ClassFile.FieldType.object "com/example/threefold/threefold/store/Activation"))).before args0 about1 = true := code_word (m := ⟨8, 2⟩) (meth := k8m2) (c := k8c2) (by decide +kernel) rfl rfl rfl (by decide +kernel)
set_option maxRecDepth 65536 in
theorem w_c17 : (Jvm.Cond.code ({ cls := "com/example/threefold/threefold/store/Activation", name := "committed", desc := "()Lcom/example/threefold/threefold/store/Activation;" } : Jvm.MethodName) prog_37_method_4_code (1 : Nat) (Option.some (Jvm.ClassFile.FieldType.object "com/example/threefold/threefold/store/Activation"))).before args0 about1 = true := code_word (m := ⟨8, 3⟩) (meth := k8m3) (c := k8c3) (by decide +kernel) rfl rfl rfl (by decide +kernel)
set_option maxRecDepth 65536 in
theorem w_c18 : (Jvm.Cond.code ({ cls := "com/example/threefold/threefold/store/Activation", name := "blocked", desc := "(Ljava/lang/String;)Lcom/example/threefold/threefold/store/Activation;" } : Jvm.MethodName) prog_37_method_5_code (2 : Nat) (Option.some (Jvm.ClassFile.FieldType.object "com/example/threefold/threefold/store/Activation"))).before args0 about1 = true := code_word (m := ⟨8, 4⟩) (meth := k8m4) (c := k8c4) (by decide +kernel) rfl rfl rfl (by decide +kernel)
def codes1 : List Jvm.Cond := [Jvm.Cond.code x code maxLocals ret, Jvm.Cond.code ({ cls := "com/example/threefold/threefold/store/ActivationHasKeysPinLaw", name := "pick", desc := "(I)Lcom/example/threefold/threefold/protocol/ActivationStatus;" } : Jvm.MethodName) method_2_code (1 : Nat) (Option.some (Jvm.ClassFile.FieldType.object "com/example/threefold/threefold/protocol/ActivationStatus")), Jvm.Cond.code ({ cls := "java/lang/String", name := "<init>", desc := "([C)V" } : Jvm.MethodName) jdk_42_method_3_code (2 : Nat) (Option.none : Option Jvm.ClassFile.FieldType), Jvm.Cond.code ({ cls := "java/lang/String", name := "<init>", desc := "([CIILjava/lang/Void;)V" } : Jvm.MethodName) jdk_42_method_149_code (6 : Nat) (Option.none : Option Jvm.ClassFile.FieldType), Jvm.Cond.code ({ cls := "java/lang/Object", name := "<init>", desc := "()V" } : Jvm.MethodName) object_method_1_code (1 : Nat) (Option.none : Option Jvm.ClassFile.FieldType), Jvm.Cond.code ({ cls := "java/lang/StringUTF16", name := "compress", desc := "([CII)[B" } : Jvm.MethodName) jdk_52_method_16_code (6 : Nat) (Option.some (Jvm.ClassFile.FieldType.array Jvm.ClassFile.FieldType.byte)), Jvm.Cond.code ({ cls := "java/lang/StringUTF16", name := "compress", desc := "([CI[BII)I" } : Jvm.MethodName) jdk_52_method_21_code (7 : Nat) (Option.some Jvm.ClassFile.FieldType.int), Jvm.Cond.code ({ cls := "java/lang/StringUTF16", name := "coderFromArrayLen", desc := "([BI)B" } : Jvm.MethodName) jdk_52_method_15_code (2 : Nat) (Option.some Jvm.ClassFile.FieldType.byte), Jvm.Cond.code ({ cls := "com/example/threefold/threefold/store/Activation", name := "<init>", desc := "(Ljava/lang/String;JLjava/lang/String;Lcom/example/threefold/threefold/protocol/ActivationStatus;JILjava/lang/String;Lcom/example/threefold/threefold/protocol/ActivationCode;Lcom/example/threefold/threefold/store/Device;J)V" } : Jvm.MethodName) prog_37_method_1_code (14 : Nat) (Option.none : Option Jvm.ClassFile.FieldType), Jvm.Cond.code ({ cls := "java/lang/Record", name := "<init>", desc := "()V" } : Jvm.MethodName) jdk_30_method_1_code (1 : Nat) (Option.none : Option Jvm.ClassFile.FieldType), Jvm.Cond.code ({ cls := "com/example/threefold/threefold/store/Activation", name := "hasKeys", desc := "()Z" } : Jvm.MethodName) prog_37_method_9_code (1 : Nat) (Option.some Jvm.ClassFile.FieldType.boolean), Jvm.Cond.code ({ cls := "com/example/threefold/threefold/store/Activation", name := "withCounters", desc := "(JI)Lcom/example/threefold/threefold/store/Activation;" } : Jvm.MethodName) prog_37_method_2_code (4 : Nat) (Option.some (Jvm.ClassFile.FieldType.object "com/example/threefold/threefold/store/Activation")), Jvm.Cond.code ({ cls := "com/example/threefold/threefold/store/Device", name := "<init>", desc := "([B[B[BLjava/lang/String;Ljava/lang/String;)V" } : Jvm.MethodName) prog_40_method_1_code (6 : Nat) (Option.none : Option Jvm.ClassFile.FieldType), Jvm.Cond.code ({ cls := "com/example/threefold/threefold/store/Activation", name := "removed", desc := "()Lcom/example/threefold/threefold/store/Activation;" } : Jvm.MethodName) prog_37_method_7_code (1 : Nat) (Option.some (Jvm.ClassFile.FieldType.object "com/example/threefold/threefold/store/Activation")), Jvm.Cond.code ({ cls := "com/example/threefold/threefold/store/Activation", name := "withState", desc := "(Lcom/example/threefold/threefold/protocol/ActivationStatus;ILjava/lang/String;)Lcom/example/threefold/threefold/store/Activation;" } : Jvm.MethodName) prog_37_method_15_code (4 : Nat) (Option.some (Jvm.ClassFile.FieldType.object "com/example/threefold/threefold/store/Activation")), Jvm.Cond.code ({ cls := "com/example/threefold/threefold/store/Activation", name := "unblocked", desc := "()Lcom/example/threefold/threefold/store/Activation;" } : Jvm.MethodName) prog_37_method_6_code (1 : Nat) (Option.some (Jvm.ClassFile.FieldType.object "com/example/threefold/threefold/store/Activation")), Jvm.Cond.code ({ cls := "com/example/threefold/threefold/store/Activation", name := "exchanged", desc := "(Lcom/example/threefold/threefold/store/Device;)Lcom/example/threefold/threefold/store/Activation;" } : Jvm.MethodName) prog_37_method_3_code (2 : Nat) (Option.some (Jvm.ClassFile.FieldType.object "com/example/threefold/threefold/store/Activation")), Jvm.Cond.code ({ cls := "com/example/threefold/threefold/store/Activation", name := "committed", desc := "()Lcom/example/threefold/threefold/store/Activation;" } : Jvm.MethodName) prog_37_method_4_code (1 : Nat) (Option.some (Jvm.ClassFile.FieldType.object "com/example/threefold/threefold/store/Activation")), Jvm.Cond.code ({ cls := "com/example/threefold/threefold/store/Activation", name := "blocked", desc := "(Ljava/lang/String;)Lcom/example/threefold/threefold/store/Activation;" } : Jvm.MethodName) prog_37_method_5_code (2 : Nat) (Option.some (Jvm.ClassFile.FieldType.object "com/example/threefold/threefold/store/Activation"))]
set_option maxRecDepth 65536 in
theorem codes_eq : words1.filter isCode = codes1 := rfl
theorem w_codes : ∀ c ∈ words1.filter isCode, c.before args0 about1 = true := by
  rw [codes_eq]
  intro c hc
  simp only [codes1, List.mem_cons, List.not_mem_nil, or_false] at hc
  rcases hc with rfl | rfl | rfl | rfl | rfl | rfl | rfl | rfl | rfl | rfl | rfl | rfl | rfl | rfl | rfl | rfl | rfl | rfl | rfl
  · exact w_c0
  · exact w_c1
  · exact w_c2
  · exact w_c3
  · exact w_c4
  · exact w_c5
  · exact w_c6
  · exact w_c7
  · exact w_c8
  · exact w_c9
  · exact w_c10
  · exact w_c11
  · exact w_c12
  · exact w_c13
  · exact w_c14
  · exact w_c15
  · exact w_c16
  · exact w_c17
  · exact w_c18
set_option maxRecDepth 65536 in
theorem w_t1 : (words1.take 24).all (fun c => isCode c || c.before args0 about1) = true := by decide +kernel
set_option maxRecDepth 65536 in
theorem w_t2 : ((words1.drop 24).take 24).all (fun c => isCode c || c.before args0 about1) = true := by decide +kernel
set_option maxRecDepth 65536 in
theorem w_t3 : (((words1.drop 24).drop 24).take 24).all (fun c => isCode c || c.before args0 about1) = true := by decide +kernel
set_option maxRecDepth 65536 in
theorem w_t4 : ((((words1.drop 24).drop 24).drop 24).take 24).all (fun c => isCode c || c.before args0 about1) = true := by decide +kernel
set_option maxRecDepth 65536 in
theorem w_t5 : (((((words1.drop 24).drop 24).drop 24).drop 24).take 24).all (fun c => isCode c || c.before args0 about1) = true := by decide +kernel
set_option maxRecDepth 65536 in
theorem w_t6 : (((((words1.drop 24).drop 24).drop 24).drop 24).drop 24).all (fun c => isCode c || c.before args0 about1) = true := by decide +kernel
theorem w_tables : (allAtoms (Jvm.Cond.code x code maxLocals ret :: tables_1)).before args0 about1 = true := by
  rw [allAtoms_all]
  show words1.all (fun c => c.before args0 about1) = true
  refine all_split ?_ w_codes
  rw [← List.take_append_drop 24 words1, List.all_append, w_t1, ← List.take_append_drop 24 (words1.drop 24), List.all_append, w_t2, ← List.take_append_drop 24 ((words1.drop 24).drop 24), List.all_append, w_t3, ← List.take_append_drop 24 (((words1.drop 24).drop 24).drop 24), List.all_append, w_t4, ← List.take_append_drop 24 ((((words1.drop 24).drop 24).drop 24).drop 24), List.all_append, w_t5, w_t6]
  rfl
set_option maxRecDepth 65536 in
theorem w_rest : rest_1_c.before args0 about1 = true := by decide +kernel
set_option maxRecDepth 65536 in
theorem w_case : (Jvm.Cond.and given_1 narrow_1).before args0 about1 = true := by decide +kernel
theorem w_applies : (headSpec (Jvm.Cond.code x code maxLocals ret :: tables_1) room_1).applies x e0.platform about1 = true :=
  (Spec.applies_iff w_frames).mpr ⟨w_running, w_runnable, w_alone, w_named, w_hears, w_ripe, w_room, w_tables⟩
theorem atStart : AtStart classFile x code maxLocals ret World_1 tables_1 room_1 Calls_1 rest_1 Pre_1 launch0 p0 e0 about1 theMethod args0 below0 :=
  ⟨lists_1, trivial, launch0.admits_env _ _ _, launch0.least_env, fairChoices_fair.cas, fairChoices_fair.clock, w_frames, w_args, w_heap, w_applies, trivial, w_rest, w_case⟩
end start1
theorem witness_1 : WitnessClaimed_1 := ⟨start1.p0, start1.e0, start1.about1, start1.theMethod, start1.args0, start1.below0, start1.atStart⟩
end Jvm.Pilot.@@N@@
