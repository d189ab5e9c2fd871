import JvmDerived
import JvmDerived.Pilot.@@N@@Statement
import JvmDerived.Pilot.@@N@@Code
set_option linter.unusedVariables false
set_option linter.unusedSimpArgs false
namespace Jvm.RoadKit
open Sem ClassFile Op Lib Jvm.Stand Jvm.Free Jvm.LawKit
section New
variable {p : Program} {l : Launch} {e : Env} {R : Room} {s : State} {m : MethodId} {args : Array Value} {below : List Frame} {meth : Method} {c : Code} {T : State} {locs : List Loc} {cells slots : Nat}
theorem retI (X : Stand p l e R s m args below meth c T locs cells slots) (hx : p.tables.exec = Jvm.exec) {pc : Nat} {Ls : Array Slot} {z : Int32} {rest : List Value} (hret : meth.sig.returnType = some .int) (hd : decode c.code pc = .ok (.ireturn, 1)) {fs : List Frame}
    (hl : ∀ (f : JFrame) (acts : List Action), f.method = m → f.locked = none → f.entered = [] → (doReturn e (T.setTop f) acts (some (.int z))).1 = T.setFrames fs) : Steps p.tables e below (T.setTop (mkF m pc Ls (.int z :: rest))) (T.setFrames fs) := by
  have hm' : T.vm.method? m = some meth := X.method'
  have hn : narrow .int (.int z) = .int z := rfl
  show Steps p.tables e below (T.setTop { method := m, pc := pc, locals := Ls, stack := _ :: rest, locked := none }) _
  jvm_step X.here [X.here.top, hx, hd, hm', hret, hn]
  first | (intro acts; rw [hl _ acts rfl rfl rfl]) | rw [hl _ _ rfl rfl rfl]
  exact Steps.refl _
abbrev vI (x : Int32) : Slot := .val (.int x)
abbrev vJ (x : Int64) : Slot := .val (.long x)
abbrev vR (x : Addr) : Slot := .val (.ref x)
abbrev iI (x : Int32) : Value := .int x
abbrev iJ (x : Int64) : Value := .long x
abbrev iR (x : Addr) : Value := .ref x
/-- from one frame to another over the same heap -/
def own_Mid (X : Stand p l e R s m args below meth c T locs cells slots) (h : Heap) (F F' : JFrame) : Prop :=
  ∃ T', Stand p l e R s m args below meth c T' locs cells slots ∧ T'.heap = h ∧ ∀ t, Steps p.tables e below (T'.setTop F') t → Steps p.tables e below (T.setTop F) t
/-- no interface: known of one method of the class, said of another -/
theorem own_nf {s : State} {y z : MethodName} {args : Array Value} (hc : z.cls = y.cls) (h : NotFace s z) (hz : (Cond.instanceMethod z).before args s = true) : NotFace s y := fun r0 h0 => by
  obtain ⟨r1, -, h1, -, -, -⟩ := Cond.instanceMethod_spec hz
  have e1 := findClass_of_methodNamed h0
  have e2 := findClass_of_methodNamed h1
  rw [hc, e1] at e2
  obtain ⟨k, k1, k2⟩ := h r1 h1
  exact ⟨k, by rw [Option.some.inj e2]; exact k1, k2⟩
theorem own_same {s : State} {args : Array Value} {y : MethodName} (hi : (Cond.instanceMethod y).before args s = true) (hnf : NotFace s y) (hy : y.cls ≠ "java/lang/invoke/MethodHandle" ∧ y.cls ≠ "java/lang/invoke/VarHandle") : (Cond.sameMethod y.cls y.cls y.name y.desc).before args s = true := by
  obtain ⟨mk, methM, hnamed, hmethM, -, -⟩ := Cond.instanceMethod_spec hi
  have hfound := State.methodFound?_of_named hnamed hy
  have hc := findClass_of_methodNamed hnamed
  obtain ⟨k, hk, hni⟩ := hnf _ hnamed
  simp [Cond.before, Cond.holds, Cond.value, hc, hk, hni, hfound, hnamed]
/-- a private method is its own choice: its class is made by 'new' -/
theorem own_selPriv {s : State} {args : Array Value} {y : MethodName} {n : Nat} (hi : (Cond.instantiable y.cls n).before args s = true) (hpriv : s.PrivateAt y) (hinst : (Cond.instanceMethod y).before args s = true) (hy : y.cls ≠ "java/lang/invoke/MethodHandle" ∧ y.cls ≠ "java/lang/invoke/VarHandle") : (Cond.selects y.cls y y).before args s = true := by
  obtain ⟨c, k, h1, h2, -, h4, -, -⟩ := Cond.instantiable_spec hi
  exact Stand.selects_self_of_private h1 h2 (Bool.or_eq_false_iff.mp h4).1 hpriv hinst hy
theorem own_selPriv2 {s : State} {args : Array Value} {y : MethodName} (hnf : NotFace s y) (hpriv : s.PrivateAt y) (hinst : (Cond.instanceMethod y).before args s = true) (hy : y.cls ≠ "java/lang/invoke/MethodHandle" ∧ y.cls ≠ "java/lang/invoke/VarHandle") : (Cond.selects y.cls y y).before args s = true := by
  obtain ⟨mk, methM, hnamed, -, -, -⟩ := Cond.instanceMethod_spec hinst
  obtain ⟨k, hk, hni⟩ := hnf _ hnamed
  exact Stand.selects_self_of_private (findClass_of_methodNamed hnamed) hk hni hpriv hinst hy
end New
end Jvm.RoadKit
namespace Jvm.Pilot.@@N@@
open Jvm Jvm.ClassFile Sem Op Lib Jvm.Free Jvm.Stand Jvm.LawKit Jvm.RoadKit Bundle Jvm.Pilot.@@N@@.Jvm.D
theorem pd_0 : parseMethodDescriptor "(I)V" = some ⟨[.int], none⟩ := by decide +kernel
theorem pd_1 : parseMethodDescriptor "()Z" = some ⟨[], some .boolean⟩ := by decide +kernel
theorem pd_2 : parseMethodDescriptor "(C)Z" = some ⟨[.char], some .boolean⟩ := by decide +kernel
theorem pd_3 : parseMethodDescriptor "(C)Ljava/lang/AbstractStringBuilder;" = some ⟨[.char], some (.object "java/lang/AbstractStringBuilder")⟩ := by decide +kernel
theorem pd_4 : parseMethodDescriptor "()I" = some ⟨[], some .int⟩ := by decide +kernel
theorem pd_5 : parseMethodDescriptor "()[B" = some ⟨[], some (.array .byte)⟩ := by decide +kernel
theorem pd_6 : parseMethodDescriptor "([BII)[B" = some ⟨[(.array .byte), .int, .int], some (.array .byte)⟩ := by decide +kernel
theorem pd_7 : parseMethodDescriptor "(Ljava/lang/AbstractStringBuilder;Ljava/lang/Void;)V" = some ⟨[(.object "java/lang/AbstractStringBuilder"), (.object "java/lang/Void")], none⟩ := by decide +kernel
theorem pd_8 : parseMethodDescriptor "(Ljava/lang/StringBuilder;)V" = some ⟨[(.object "java/lang/StringBuilder")], none⟩ := by decide +kernel
theorem pd_9 : parseMethodDescriptor "()B" = some ⟨[], some .byte⟩ := by decide +kernel
theorem pd_10 : parseMethodDescriptor "(IILjava/util/function/BiFunction;)I" = some ⟨[.int, .int, (.object "java/util/function/BiFunction")], some .int⟩ := by decide +kernel
theorem pd_11 : parseMethodDescriptor "(II)V" = some ⟨[.int, .int], none⟩ := by decide +kernel
theorem pd_12 : parseMethodDescriptor "([BI)C" = some ⟨[(.array .byte), .int], some .char⟩ := by decide +kernel
theorem pd_13 : parseMethodDescriptor "(II)C" = some ⟨[.int, .int], some .char⟩ := by decide +kernel
theorem pd_14 : parseMethodDescriptor "(C)Ljava/lang/StringBuilder;" = some ⟨[.char], some (.object "java/lang/StringBuilder")⟩ := by decide +kernel
theorem pd_15 : parseMethodDescriptor "()Ljava/lang/String;" = some ⟨[], some (.object "java/lang/String")⟩ := by decide +kernel
theorem pd_16 : parseMethodDescriptor "(II)I" = some ⟨[.int, .int], some .int⟩ := by decide +kernel
theorem pd_17 : parseMethodDescriptor "(I)C" = some ⟨[.int], some .char⟩ := by decide +kernel
theorem pd_18 : parseMethodDescriptor "(J)I" = some ⟨[.long], some .int⟩ := by decide +kernel
theorem pd_19 : parseMethodDescriptor "(Ljava/lang/String;IIJ)Z" = some ⟨[(.object "java/lang/String"), .int, .int, .long], some .boolean⟩ := by decide +kernel
theorem pd_20 : parseMethodDescriptor "([I)Ljava/lang/String;" = some ⟨[(.array .int)], some (.object "java/lang/String")⟩ := by decide +kernel
theorem pd_21 : parseMethodDescriptor "(I)J" = some ⟨[.int], some .long⟩ := by decide +kernel

theorem own_rem (x y : Int32) (d : Int) (hy : y.toInt = d) (hd : 0 < d) : 0 ≤ ((x &&& 2147483647) % y).toInt ∧ ((x &&& 2147483647) % y).toInt < d := by
  have h0 : 0 ≤ (x &&& 2147483647).toInt := (c_and x 2147483647 (by decide)).1
  rw [(c_irem (x &&& 2147483647) y d hy).1 h0]
  exact ⟨Int.emod_nonneg _ (by omega), Int.emod_lt_of_pos _ hd⟩

theorem own_small5 (v : Int32) (h0 : 0 ≤ v.toInt) (h1 : v.toInt < 5) : v = 0 ∨ v = 1 ∨ v = 2 ∨ v = 3 ∨ v = 4 := by
  have h : v.toInt = 0 ∨ v.toInt = 1 ∨ v.toInt = 2 ∨ v.toInt = 3 ∨ v.toInt = 4 := by omega
  rcases h with h | h | h | h | h
  · exact Or.inl (Int32.toInt_inj.mp (h.trans (by decide)))
  · exact Or.inr (Or.inl (Int32.toInt_inj.mp (h.trans (by decide))))
  · exact Or.inr (Or.inr (Or.inl (Int32.toInt_inj.mp (h.trans (by decide)))))
  · exact Or.inr (Or.inr (Or.inr (Or.inl (Int32.toInt_inj.mp (h.trans (by decide))))))
  · exact Or.inr (Or.inr (Or.inr (Or.inr ((Int32.toInt_inj.mp (h.trans (by decide)))))))

theorem own_small8 (v : Int32) (h0 : 0 ≤ v.toInt) (h1 : v.toInt < 8) : v = 0 ∨ v = 1 ∨ v = 2 ∨ v = 3 ∨ v = 4 ∨ v = 5 ∨ v = 6 ∨ v = 7 := by
  have h : v.toInt = 0 ∨ v.toInt = 1 ∨ v.toInt = 2 ∨ v.toInt = 3 ∨ v.toInt = 4 ∨ v.toInt = 5 ∨ v.toInt = 6 ∨ v.toInt = 7 := by omega
  rcases h with h | h | h | h | h | h | h | h
  · exact Or.inl (Int32.toInt_inj.mp (h.trans (by decide)))
  · exact Or.inr (Or.inl (Int32.toInt_inj.mp (h.trans (by decide))))
  · exact Or.inr (Or.inr (Or.inl (Int32.toInt_inj.mp (h.trans (by decide)))))
  · exact Or.inr (Or.inr (Or.inr (Or.inl (Int32.toInt_inj.mp (h.trans (by decide))))))
  · exact Or.inr (Or.inr (Or.inr (Or.inr (Or.inl (Int32.toInt_inj.mp (h.trans (by decide)))))))
  · exact Or.inr (Or.inr (Or.inr (Or.inr (Or.inr (Or.inl (Int32.toInt_inj.mp (h.trans (by decide))))))))
  · exact Or.inr (Or.inr (Or.inr (Or.inr (Or.inr (Or.inr (Or.inl (Int32.toInt_inj.mp (h.trans (by decide)))))))))
  · exact Or.inr (Or.inr (Or.inr (Or.inr (Or.inr (Or.inr (Or.inr ((Int32.toInt_inj.mp (h.trans (by decide))))))))))

theorem d3_0 : decode jdk_68_method_2_code 0 = .ok (.aload_n 0, 1) := by decide +kernel
theorem d3_1 : decode jdk_68_method_2_code 1 = .ok (.invokespecial 3, 3) := by decide +kernel
theorem d3_4 : decode jdk_68_method_2_code 4 = .ok (.getstatic 18, 3) := by decide +kernel
theorem d3_7 : decode jdk_68_method_2_code 7 = .ok (.ifCond .eq 18, 3) := by decide +kernel
theorem d3_10 : decode jdk_68_method_2_code 10 = .ok (.aload_n 0, 1) := by decide +kernel
theorem d3_11 : decode jdk_68_method_2_code 11 = .ok (.iload_n 1, 1) := by decide +kernel
theorem d3_12 : decode jdk_68_method_2_code 12 = .ok (.newarray .byte, 2) := by decide +kernel
theorem d3_14 : decode jdk_68_method_2_code 14 = .ok (.putfield 15, 3) := by decide +kernel
theorem d3_17 : decode jdk_68_method_2_code 17 = .ok (.aload_n 0, 1) := by decide +kernel
theorem d3_18 : decode jdk_68_method_2_code 18 = .ok (.iconst 0, 1) := by decide +kernel
theorem d3_19 : decode jdk_68_method_2_code 19 = .ok (.putfield 22, 3) := by decide +kernel
theorem d3_22 : decode jdk_68_method_2_code 22 = .ok (.goto 16, 3) := by decide +kernel
theorem d3_38 : decode jdk_68_method_2_code 38 = .ok (.return_, 1) := by decide +kernel
theorem pn_0 : plainName "java/lang/AbstractStringBuilder" = true := by first | (simp [plainName, overriddenIn]; done) | decide +kernel
theorem ef_3 (m : MethodId) (x0 : Addr) (x1 : Int32) : entryFrame m #[(.ref x0), (.int x1)] 2 = mkF m 0 #[.val (.ref x0), .val (.int x1)] [] := by first | (simp [entryFrame, mkF, argsToLocals, Value.category]; done) | rfl
def Q3 (Z : State) (a1 : Addr) (p2 : Int32) (cs : Int32) (h0 : Heap) (n0 : Nat) (v : Option Value) (h : Heap) (L : List Loc) : Prop := ∃ (b : Addr) (kb : ClassId), v = none ∧ Fr n0 L ∧ Keep h0 h [a1] ∧ Exa Z h a1 "java/lang/StringBuilder" ∧ Fld Z h a1 "java/lang/AbstractStringBuilder" "value" "[B" (.ref b) ∧ Fld Z h a1 "java/lang/AbstractStringBuilder" "coder" "B" (.int (0 : Int32)) ∧ Fld Z h a1 "java/lang/AbstractStringBuilder" "count" "I" (.int (0 : Int32)) ∧ Arv Z h b kb .byte p2 [(.int (0 : Int32)), (.int (0 : Int32)), (.int (0 : Int32)), (.int (0 : Int32)), (.int (0 : Int32)), (.int (0 : Int32)), (.int (0 : Int32)), (.int (0 : Int32))] (.int (0 : Int32)) ∧ Exa Z h b "[B" ∧ h0.size ≤ b
set_option maxRecDepth 65536 in
set_option maxHeartbeats 40000000 in
theorem rm3 (l : Launch) (Z : State) (a0 : Array Value) (hw : ∀ d ∈ tables_1, d.before a0 Z = true) (ws : List Jvm.Cond) (a1 : Addr) (p2 : Int32) (cs : Int32) (h0 : Heap) (n0 : Nat) (Z0 : n0 ≤ h0.size) (O0 : Old Z n0 h0) (E_a1 : Exa Z h0 a1 "java/lang/StringBuilder") (g_a1 : n0 ≤ a1) (F_value : Fld Z h0 a1 "java/lang/AbstractStringBuilder" "value" "[B" .null) (F_coder : Fld Z h0 a1 "java/lang/AbstractStringBuilder" "coder" "B" (.int (0 : Int32))) (F_count : Fld Z h0 a1 "java/lang/AbstractStringBuilder" "count" "I" (.int (0 : Int32))) (hn0 : ¬ p2 < 0) (hn8 : p2.toNatClampNeg ≤ 8) (S_CS : Sta Z Z.heap "java/lang/String" "COMPACT_STRINGS" "Z" (.int cs)) (h_cs : ¬ cs = (0 : Int32)) :
    MetFree l (⟨"java/lang/AbstractStringBuilder", "<init>", "(I)V"⟩ : MethodName) (head1 (Jvm.Cond.code (⟨"java/lang/AbstractStringBuilder", "<init>", "(I)V"⟩ : MethodName) jdk_68_method_2_code 2 none :: ws) ({ frames := 1, cells := 1, slots := 8, locals := 12 } : Room)) (fun a U => a = #[(.ref a1), (.int p2)] ∧ Z.Warmed39 U.vm ∧ U.heap = h0) (fun _ _ _ _ _ => True) (fun _ U o U' => ∃ v L, o = .returned v ∧ Q3 Z a1 p2 cs h0 n0 v U'.heap L ∧ FrameEnd U o U' L ({ frames := 1, cells := 1, slots := 8, locals := 12 } : Room).cells ({ frames := 1, cells := 1, slots := 8, locals := 12 } : Room).slots) := by
  refine MetFree.of_bodySF (plainFor_of_name pn_0) hisR ?_
  intro p e s m args below meth c s₁ Bd hml0 hP hK
  obtain ⟨rfl, hZ, hh⟩ := hP
  have hx := Bd.exec
  have hby := Bd.bytes
  have hml : c.maxLocals = 2 := hml0
  have hown : s.vm.findClass "java/lang/AbstractStringBuilder" = some m.cls := findClass_of_methodNamed Bd.named
  have hnm := (name_of_methodNamed Bd.named Bd.method).1
  have X0 : Stand p l e ({ frames := 1, cells := 1, slots := 8, locals := 12 } : Room) s m #[(.ref a1), (.int p2)] below meth c s₁ [] 0 0 := Stand.of_body Bd
  have e0 : s₁.heap = h0 := by rw [← hh, Bd.state]; rfl
  have N0 := Fr.nil n0
  have K0 := Keep.refl h0 [a1]
  have pre0 : ∀ t, Steps p.tables e below (s₁.setTop (mkF m 0 #[.val (.ref a1), .val (.int p2)] [])) t → Steps p.tables e below (s₁.setTop (entryFrame m #[(.ref a1), (.int p2)] 2)) t := fun t k => castTop (ef_3 m a1 p2) k
  obtain ⟨T1, X1, e1, st1⟩ := initO X0 hx hZ hown (hw _ (List.mem_of_getElem? (i := 18) rfl)) (hw _ (List.mem_of_getElem? (i := 19) rfl)) (hw _ (List.mem_of_getElem? (i := 20) rfl)) e0 (g := (mkF m 1 #[vR a1, vI p2] [iR a1])) rfl (by rw [hml]; rfl) rfl (hb hby d3_1) (by decide) (W := 0) (by show 2 * 0 + _ ≤ _; exact Nat.le_of_eq rfl) (by decide)
  obtain ⟨T2, X2, e2, st2⟩ := getS2 X1 hx hZ hown (host := "") (Or.inl (hw _ (List.mem_of_getElem? (i := 21) rfl))) Via.refl e1 (S_CS.ext O0.2) (g := (mkF m 4 #[vR a1, vI p2] [])) rfl (hb hby d3_4)
  obtain ⟨T3, h3, k3, X3, e3, E3, A3, B3, st3⟩ := newPE X2 hx hZ (hw _ (List.mem_of_getElem? (i := 23) rfl)) e2 (g := (mkF m 12 #[vR a1, vI p2] [iI p2, iR a1])) rfl (hb hby d3_12) rfl hn0 (cap := 8) hn8 (by decide) (by decide) (by decide) rfl
  obtain ⟨b3, g3⟩ : ∃ z, z = h0.size := ⟨_, rfl⟩
  rw [← g3] at A3 B3 st3
  have ne_a1_b3 : a1 ≠ b3 := Nat.ne_of_lt (Nat.lt_of_lt_of_le E_a1.lt (Nat.le_of_eq g3.symm))
  have sz_b3 : h0.size ≤ b3 := Nat.le_trans K0.1 (Nat.le_of_eq g3.symm)
  have g_b3 : n0 ≤ b3 := Nat.le_trans Z0 sz_b3
  have K3 : Keep h0 h3 [a1] := K0.ext E3
  have V3 : Arv Z h3 b3 k3 .byte p2 [(.int (0 : Int32)), (.int (0 : Int32)), (.int (0 : Int32)), (.int (0 : Int32)), (.int (0 : Int32)), (.int (0 : Int32)), (.int (0 : Int32)), (.int (0 : Int32))] (.int (0 : Int32)) := (Arv.new A3 hn0).pad (pad_rep [] (.int (0 : Int32)) 8)
  have fk4 := (F_value.ext E3)
  have fk5 := (E_a1.ext E3)
  obtain ⟨T6, h6, X6, e6, W6, st6⟩ := putF X3 hx hZ hown (host := "") (Or.inl (hw _ (List.mem_of_getElem? (i := 24) rfl))) Via.refl e3 fk4 fk5 (Or.inl (hw _ (List.mem_of_getElem? (i := 25) rfl))) (hw _ (List.mem_of_getElem? (i := 7) rfl)) (ty := (.array .byte)) (by decide) rfl rfl (g := (mkF m 14 #[vR a1, vI p2] [iR b3, iR a1])) rfl rfl (hb hby d3_14)
  have Fw6 := fk4.same W6
  have K6 : Keep h0 h6 [a1] := K3.wr W6 (Or.inl (List.mem_of_getElem? (i := 0) rfl))
  have N6 := Fr.snoc X6 N0 g_a1
  have fk7 := ((F_coder.ext E3).other W6 (Or.inr (slot_ne (Or.inl (hw _ (List.mem_of_getElem? (i := 27) rfl))) (Or.inl (hw _ (List.mem_of_getElem? (i := 25) rfl))) (by decide) (t := .byte) (t' := (.array .byte)) (by decide) (by decide))))
  have fk8 := (fk5.wr W6)
  obtain ⟨T9, h9, X9, e9, W9, st9⟩ := putFN X6 hx hZ hown (hw _ (List.mem_of_getElem? (i := 26) rfl)) Via.refl e6 fk7 fk8 (Or.inl (hw _ (List.mem_of_getElem? (i := 27) rfl))) (hw _ (List.mem_of_getElem? (i := 7) rfl)) (ty := .byte) (v' := (.int (0 : Int32))) (by decide) rfl (by decide) (g := (mkF m 19 #[vR a1, vI p2] [iI 0, iR a1])) rfl rfl (hb hby d3_19)
  have Fw9 := fk7.same W9
  have K9 : Keep h0 h9 [a1] := K6.wr W9 (Or.inl (List.mem_of_getElem? (i := 0) rfl))
  have N9 := Fr.snoc X9 N6 g_a1
  obtain ⟨fs, hr, hrun, hended, hW, hsame⟩ := X9.leave (v := none) (fun _ => rfl)
  have fk10 := (fk8.wr W9)
  have fk11 := (Fw6.other W9 (Or.inr (slot_ne (Or.inl (hw _ (List.mem_of_getElem? (i := 25) rfl))) (Or.inl (hw _ (List.mem_of_getElem? (i := 27) rfl))) (by decide) (t := (.array .byte)) (t' := .byte) (by decide) (by decide))))
  have fk12 := (((F_count.ext E3).other W6 (Or.inr (slot_ne (Or.inl (hw _ (List.mem_of_getElem? (i := 43) rfl))) (Or.inl (hw _ (List.mem_of_getElem? (i := 25) rfl))) (by decide) (t := .int) (t' := (.array .byte)) (by decide) (by decide)))).other W9 (Or.inr (slot_ne (Or.inl (hw _ (List.mem_of_getElem? (i := 43) rfl))) (Or.inl (hw _ (List.mem_of_getElem? (i := 27) rfl))) (by decide) (t := .int) (t' := .byte) (by decide) (by decide))))
  have fk13 := ((V3.other W6 (Ne.symm ne_a1_b3)).other W9 (Ne.symm ne_a1_b3))
  have fk14 := ((B3.wr W6).wr W9)
  refine ⟨_, _, pre0 _ ?_, hrun, hended, _, _, rfl, ?_, ⟨_, rfl⟩, hW, hsame.mono (by decide) (by decide)⟩
  · show Steps _ _ _ (s₁.setTop (mkF m 0 #[vR a1, vI p2] [])) _
    refine XS.aloadN X0.here hx rfl (hb hby d3_0) rfl rfl ?_
    show Steps _ _ _ (s₁.setTop (mkF m 1 #[vR a1, vI p2] [iR a1])) _
    refine st1 _ ?_
    show Steps _ _ _ (T1.setTop (mkF m 4 #[vR a1, vI p2] [])) _
    refine st2 _ ?_
    show Steps _ _ _ (T2.setTop (mkF m 7 #[vR a1, vI p2] [iI cs])) _
    refine XS.ifNo X2.here hx rfl (hb hby d3_7) rfl ((if0 _ _).trans (feq h_cs).1) ?_
    show Steps _ _ _ (T2.setTop (mkF m 10 #[vR a1, vI p2] [])) _
    refine XS.aloadN X2.here hx rfl (hb hby d3_10) rfl rfl ?_
    show Steps _ _ _ (T2.setTop (mkF m 11 #[vR a1, vI p2] [iR a1])) _
    refine XS.iloadN X2.here hx rfl (hb hby d3_11) rfl ?_
    show Steps _ _ _ (T2.setTop (mkF m 12 #[vR a1, vI p2] [iI p2, iR a1])) _
    refine st3 _ ?_
    show Steps _ _ _ (T3.setTop (mkF m 14 #[vR a1, vI p2] [iR b3, iR a1])) _
    refine st6 _ ?_
    show Steps _ _ _ (T6.setTop (mkF m 17 #[vR a1, vI p2] [])) _
    refine XS.aloadN X6.here hx rfl (hb hby d3_17) rfl rfl ?_
    show Steps _ _ _ (T6.setTop (mkF m 18 #[vR a1, vI p2] [iR a1])) _
    refine XS.iconst X6.here hx rfl (hb hby d3_18) ?_
    show Steps _ _ _ (T6.setTop (mkF m 19 #[vR a1, vI p2] [iI 0, iR a1])) _
    refine st9 _ ?_
    show Steps _ _ _ (T9.setTop (mkF m 22 #[vR a1, vI p2] [])) _
    refine XS.goto X9.here hx rfl (pc0 := 22) (pc' := 38) rfl (hb hby d3_22) (by decide) (by decide) ?_
    show Steps _ _ _ (T9.setTop (mkF m 38 #[vR a1, vI p2] [])) _
    exact X9.returnOut hx Bd.returns (hb hby d3_38) hr
  · show Q3 Z a1 p2 cs h0 n0 _ T9.heap _
    rw [e9]
    exact ⟨_, _, rfl, N9, K9, fk10, fk11, Fw9, fk12, fk13, fk14, sz_b3⟩
theorem d2_0 : decode jdk_67_method_2_code 0 = .ok (.aload_n 0, 1) := by decide +kernel
theorem d2_1 : decode jdk_67_method_2_code 1 = .ok (.iload_n 1, 1) := by decide +kernel
theorem d2_2 : decode jdk_67_method_2_code 2 = .ok (.invokespecial 1, 3) := by decide +kernel
theorem d2_5 : decode jdk_67_method_2_code 5 = .ok (.return_, 1) := by decide +kernel
theorem pn_1 : plainName "java/lang/StringBuilder" = true := by first | (simp [plainName, overriddenIn]; done) | decide +kernel
theorem ef_2 (m : MethodId) (x0 : Addr) (x1 : Int32) : entryFrame m #[(.ref x0), (.int x1)] 2 = mkF m 0 #[.val (.ref x0), .val (.int x1)] [] := by first | (simp [entryFrame, mkF, argsToLocals, Value.category]; done) | rfl
def Q2 (Z : State) (a1 : Addr) (p2 : Int32) (cs : Int32) (h0 : Heap) (n0 : Nat) (v : Option Value) (h : Heap) (L : List Loc) : Prop := ∃ (b : Addr) (kb : ClassId), v = none ∧ Fr n0 L ∧ Keep h0 h [a1] ∧ Exa Z h a1 "java/lang/StringBuilder" ∧ Fld Z h a1 "java/lang/AbstractStringBuilder" "value" "[B" (.ref b) ∧ Fld Z h a1 "java/lang/AbstractStringBuilder" "coder" "B" (.int (0 : Int32)) ∧ Fld Z h a1 "java/lang/AbstractStringBuilder" "count" "I" (.int (0 : Int32)) ∧ Arv Z h b kb .byte p2 [(.int (0 : Int32)), (.int (0 : Int32)), (.int (0 : Int32)), (.int (0 : Int32)), (.int (0 : Int32)), (.int (0 : Int32)), (.int (0 : Int32)), (.int (0 : Int32))] (.int (0 : Int32)) ∧ Exa Z h b "[B" ∧ h0.size ≤ b
set_option maxRecDepth 65536 in
set_option maxHeartbeats 40000000 in
theorem rm2 (l : Launch) (Z : State) (a0 : Array Value) (hw : ∀ d ∈ tables_1, d.before a0 Z = true) (ws : List Jvm.Cond) (a1 : Addr) (p2 : Int32) (cs : Int32) (h0 : Heap) (n0 : Nat) (Z0 : n0 ≤ h0.size) (O0 : Old Z n0 h0) (E_a1 : Exa Z h0 a1 "java/lang/StringBuilder") (g_a1 : n0 ≤ a1) (F_value : Fld Z h0 a1 "java/lang/AbstractStringBuilder" "value" "[B" .null) (F_coder : Fld Z h0 a1 "java/lang/AbstractStringBuilder" "coder" "B" (.int (0 : Int32))) (F_count : Fld Z h0 a1 "java/lang/AbstractStringBuilder" "count" "I" (.int (0 : Int32))) (hn0 : ¬ p2 < 0) (hn8 : p2.toNatClampNeg ≤ 8) (S_CS : Sta Z Z.heap "java/lang/String" "COMPACT_STRINGS" "Z" (.int cs)) (h_cs : ¬ cs = (0 : Int32)) :
    MetFree l (⟨"java/lang/StringBuilder", "<init>", "(I)V"⟩ : MethodName) (head1 (Jvm.Cond.code (⟨"java/lang/StringBuilder", "<init>", "(I)V"⟩ : MethodName) jdk_67_method_2_code 2 none :: ws) ({ frames := 2, cells := 1, slots := 8, locals := 25 } : Room)) (fun a U => a = #[(.ref a1), (.int p2)] ∧ Z.Warmed39 U.vm ∧ U.heap = h0) (fun _ _ _ _ _ => True) (fun _ U o U' => ∃ v L, o = .returned v ∧ Q2 Z a1 p2 cs h0 n0 v U'.heap L ∧ FrameEnd U o U' L ({ frames := 2, cells := 1, slots := 8, locals := 25 } : Room).cells ({ frames := 2, cells := 1, slots := 8, locals := 25 } : Room).slots) := by
  refine MetFree.of_bodySF (plainFor_of_name pn_1) hisR ?_
  intro p e s m args below meth c s₁ Bd hml0 hP hK
  obtain ⟨rfl, hZ, hh⟩ := hP
  have hx := Bd.exec
  have hby := Bd.bytes
  have hml : c.maxLocals = 2 := hml0
  have hown : s.vm.findClass "java/lang/StringBuilder" = some m.cls := findClass_of_methodNamed Bd.named
  have hnm := (name_of_methodNamed Bd.named Bd.method).1
  have X0 : Stand p l e ({ frames := 2, cells := 1, slots := 8, locals := 25 } : Room) s m #[(.ref a1), (.int p2)] below meth c s₁ [] 0 0 := Stand.of_body Bd
  have e0 : s₁.heap = h0 := by rw [← hh, Bd.state]; rfl
  have N0 := Fr.nil n0
  have K0 := Keep.refl h0 [a1]
  have pre0 : ∀ t, Steps p.tables e below (s₁.setTop (mkF m 0 #[.val (.ref a1), .val (.int p2)] [])) t → Steps p.tables e below (s₁.setTop (entryFrame m #[(.ref a1), (.int p2)] 2)) t := fun t k => castTop (ef_2 m a1 p2) k
  obtain ⟨_, _, ⟨T1, L1, k1, n1⟩, -, X1, ⟨Lc1, hQ1, l1, y1, z1⟩, st1⟩ := X0.specialBack hx (y := (⟨"java/lang/AbstractStringBuilder", "<init>", "(I)V"⟩ : MethodName)) rfl hown (mvT hZ (hw _ (List.mem_of_getElem? (i := 12) rfl))) (mvT hZ (hw _ (List.mem_of_getElem? (i := 13) rfl))) (mvT hZ (hw _ (List.mem_of_getElem? (i := 17) rfl))) (by decide) (backOf (W := 0) (rm3 l Z a0 hw [] a1 p2 cs h0 n0 (Nat.le_trans Z0 K0.1) O0 E_a1 g_a1 F_value F_coder F_count hn0 hn8 S_CS h_cs) hZ (hw _ (List.mem_of_getElem? (i := 17) rfl)) (hw _ (List.mem_of_getElem? (i := 16) rfl)) (by decide) (by decide)) (g := (mkF m 2 #[vR a1, vI p2] [iI p2, iR a1])) rfl (by rw [hml]; rfl) (Steps.refl _) (a := a1) (argsL := [(.int p2)]) (rest := []) (lenOf pd_0 rfl) rfl (by show 2 * 0 + _ ≤ _; exact Nat.le_of_eq rfl) (hb hby d2_2) (fun _ _ => ⟨rfl, e0, (by decide : 0 + 1 ≤ _), (by decide : 0 + 8 ≤ _)⟩)
  dsimp only [Pt.U, Pt.locs, Pt.cells, Pt.slots] at X1 l1 y1 z1 st1 hQ1
  subst l1 y1 z1
  obtain ⟨d1, kd1, rfl, N1q, K1q, E1q, Fv1q, Fc1q, Fn1q, V1q, G1q, z_d1⟩ := hQ1
  have ne_a1_d1 : a1 ≠ d1 := Nat.ne_of_lt (Nat.lt_of_lt_of_le E_a1.lt z_d1)
  have sz_d1 : h0.size ≤ d1 := Nat.le_trans K0.1 z_d1
  have g_d1 : n0 ≤ d1 := Nat.le_trans Z0 sz_d1
  have N1 := Fr.app N0 N1q
  have K1 : Keep h0 T1.heap [a1] := Keep.trans K0 K1q (allS (Or.inl (List.mem_of_getElem? (i := 0) rfl)) all0)
  obtain ⟨fs, hr, hrun, hended, hW, hsame⟩ := X1.leave (v := none) (fun _ => rfl)
  refine ⟨_, _, pre0 _ ?_, hrun, hended, _, _, rfl, ?_, ⟨_, rfl⟩, hW, hsame.mono (by decide) (by decide)⟩
  · show Steps _ _ _ (s₁.setTop (mkF m 0 #[vR a1, vI p2] [])) _
    refine XS.aloadN X0.here hx rfl (hb hby d2_0) rfl rfl ?_
    show Steps _ _ _ (s₁.setTop (mkF m 1 #[vR a1, vI p2] [iR a1])) _
    refine XS.iloadN X0.here hx rfl (hb hby d2_1) rfl ?_
    show Steps _ _ _ (s₁.setTop (mkF m 2 #[vR a1, vI p2] [iI p2, iR a1])) _
    refine st1.trans ?_
    show Steps _ _ _ (T1.setTop (mkF m 5 #[vR a1, vI p2] [])) _
    exact X1.returnOut hx Bd.returns (hb hby d2_5) hr
  · show Q2 Z a1 p2 cs h0 n0 _ T1.heap _
    exact ⟨_, _, rfl, N1, K1, E1q, Fv1q, Fc1q, Fn1q, V1q, G1q, sz_d1⟩
theorem d9_0 : decode jdk_68_method_68_code 0 = .ok (.getstatic 18, 3) := by decide +kernel
theorem d9_3 : decode jdk_68_method_68_code 3 = .ok (.ifCond .eq 14, 3) := by decide +kernel
theorem d9_6 : decode jdk_68_method_68_code 6 = .ok (.aload_n 0, 1) := by decide +kernel
theorem d9_7 : decode jdk_68_method_68_code 7 = .ok (.getfield 22, 3) := by decide +kernel
theorem d9_10 : decode jdk_68_method_68_code 10 = .ok (.ifCond .ne 7, 3) := by decide +kernel
theorem d9_13 : decode jdk_68_method_68_code 13 = .ok (.iconst 1, 1) := by decide +kernel
theorem d9_14 : decode jdk_68_method_68_code 14 = .ok (.goto 4, 3) := by decide +kernel
theorem d9_18 : decode jdk_68_method_68_code 18 = .ok (.ireturn, 1) := by decide +kernel
theorem ef_9 (m : MethodId) (x0 : Addr) : entryFrame m #[(.ref x0)] 1 = mkF m 0 #[.val (.ref x0)] [] := by first | (simp [entryFrame, mkF, argsToLocals, Value.category]; done) | rfl
def Q9 (Z : State) (a1 : Addr) (cs : Int32) (h0 : Heap) (v : Option Value) (h : Heap) (L : List Loc) : Prop := v = some (.int (1 : Int32)) ∧ L = [] ∧ h = h0
set_option maxRecDepth 65536 in
set_option maxHeartbeats 40000000 in
theorem rm9 (l : Launch) (Z : State) (a0 : Array Value) (hw : ∀ d ∈ tables_1, d.before a0 Z = true) (ws : List Jvm.Cond) (a1 : Addr) (cs : Int32) (h0 : Heap) (n0 : Nat) (O0 : Old Z n0 h0) (F_c : Fld Z h0 a1 "java/lang/AbstractStringBuilder" "coder" "B" (.int (0 : Int32))) (S_CS : Sta Z Z.heap "java/lang/String" "COMPACT_STRINGS" "Z" (.int cs)) (h_cs : ¬ cs = (0 : Int32)) :
    MetFree l (⟨"java/lang/AbstractStringBuilder", "isLatin1", "()Z"⟩ : MethodName) (head1 (Jvm.Cond.code (⟨"java/lang/AbstractStringBuilder", "isLatin1", "()Z"⟩ : MethodName) jdk_68_method_68_code 1 (some .boolean) :: ws) ({ frames := 0, cells := 0, slots := 0, locals := 0 } : Room)) (fun a U => a = #[(.ref a1)] ∧ Z.Warmed39 U.vm ∧ U.heap = h0) (fun _ _ _ _ _ => True) (fun _ U o U' => ∃ v L, o = .returned v ∧ Q9 Z a1 cs h0 v U'.heap L ∧ FrameEnd U o U' L ({ frames := 0, cells := 0, slots := 0, locals := 0 } : Room).cells ({ frames := 0, cells := 0, slots := 0, locals := 0 } : Room).slots) := by
  refine MetFree.of_bodySF (plainFor_of_name pn_0) hisR ?_
  intro p e s m args below meth c s₁ Bd hml0 hP hK
  obtain ⟨rfl, hZ, hh⟩ := hP
  have hx := Bd.exec
  have hby := Bd.bytes
  have hml : c.maxLocals = 1 := hml0
  have hown : s.vm.findClass "java/lang/AbstractStringBuilder" = some m.cls := findClass_of_methodNamed Bd.named
  have hnm := (name_of_methodNamed Bd.named Bd.method).1
  have X0 : Stand p l e ({ frames := 0, cells := 0, slots := 0, locals := 0 } : Room) s m #[(.ref a1)] below meth c s₁ [] 0 0 := Stand.of_body Bd
  have e0 : s₁.heap = h0 := by rw [← hh, Bd.state]; rfl
  have pre0 : ∀ t, Steps p.tables e below (s₁.setTop (mkF m 0 #[.val (.ref a1)] [])) t → Steps p.tables e below (s₁.setTop (entryFrame m #[(.ref a1)] 1)) t := fun t k => castTop (ef_9 m a1) k
  obtain ⟨T1, X1, e1, st1⟩ := getS2 X0 hx hZ hown (host := "") (Or.inl (hw _ (List.mem_of_getElem? (i := 21) rfl))) Via.refl e0 (S_CS.ext O0.2) (g := (mkF m 0 #[vR a1] [])) rfl (hb hby d9_0)
  obtain ⟨T2, X2, e2, st2⟩ := getF X1 hx hZ hown (host := "") (Or.inl (hw _ (List.mem_of_getElem? (i := 26) rfl))) Via.refl e1 F_c (g := (mkF m 7 #[vR a1] [iR a1])) rfl rfl (hb hby d9_7)
  obtain ⟨fs, hr, hrun, hended, hW, hsame⟩ := X2.leave (v := some (.int (1 : Int32))) (fun h => by rw [Bd.returns] at h; cases h)
  refine ⟨_, _, pre0 _ ?_, hrun, hended, _, _, rfl, ?_, ⟨_, rfl⟩, hW, hsame.mono (by decide) (by decide)⟩
  · show Steps _ _ _ (s₁.setTop (mkF m 0 #[vR a1] [])) _
    refine st1 _ ?_
    show Steps _ _ _ (T1.setTop (mkF m 3 #[vR a1] [iI cs])) _
    refine XS.ifNo X1.here hx rfl (hb hby d9_3) rfl ((if0 _ _).trans (feq h_cs).1) ?_
    show Steps _ _ _ (T1.setTop (mkF m 6 #[vR a1] [])) _
    refine XS.aloadN X1.here hx rfl (hb hby d9_6) rfl rfl ?_
    show Steps _ _ _ (T1.setTop (mkF m 7 #[vR a1] [iR a1])) _
    refine st2 _ ?_
    show Steps _ _ _ (T2.setTop (mkF m 10 #[vR a1] [iI 0])) _
    refine XS.ifNo X2.here hx rfl (hb hby d9_10) rfl ((if0 _ _).trans (teq (by decide : (0 : Int32) = (0 : Int32))).2) ?_
    show Steps _ _ _ (T2.setTop (mkF m 13 #[vR a1] [])) _
    refine XS.iconst X2.here hx rfl (hb hby d9_13) ?_
    show Steps _ _ _ (T2.setTop (mkF m 14 #[vR a1] [iI 1])) _
    refine XS.goto X2.here hx rfl (pc0 := 14) (pc' := 18) rfl (hb hby d9_14) (by decide) (by decide) ?_
    show Steps _ _ _ (T2.setTop (mkF m 18 #[vR a1] [iI 1])) _
    exact retN X2 hx (t := .boolean) Bd.returns (by simp) (hb hby d9_18) hr
  · show Q9 Z a1 cs h0 _ T2.heap _
    rw [e2]
    exact ⟨rfl, rfl, rfl⟩
theorem own_shr0 (x : Int32) : x >>> ((0 : Int32) &&& 31) = x := by
  apply Int32.toInt_inj.mp
  rw [c_ishr x 0 0 (by decide)]; simp
theorem own_ens (nz p : Int32) (h : ¬ nz < p) (h0 : ¬ p < 0) : ¬ ((0 : Int32) < (p - (nz >>> ((0 : Int32) &&& 31)))) := by
  rw [own_shr0]
  have h1 := c_isub p nz
  have h2 := rng32 nz
  have h3 := rng32 p
  have h4 := rng32 (p - nz)
  have e0 : (0 : Int32).toInt = 0 := rfl
  rw [Int32.lt_iff_toInt_lt] at h h0 ⊢
  rw [e0] at h0 ⊢
  omega
theorem d8_0 : decode jdk_68_method_9_code 0 = .ok (.aload_n 0, 1) := by decide +kernel
theorem d8_1 : decode jdk_68_method_9_code 1 = .ok (.getfield 15, 3) := by decide +kernel
theorem d8_4 : decode jdk_68_method_9_code 4 = .ok (.arraylength, 1) := by decide +kernel
theorem d8_5 : decode jdk_68_method_9_code 5 = .ok (.aload_n 0, 1) := by decide +kernel
theorem d8_6 : decode jdk_68_method_9_code 6 = .ok (.getfield 22, 3) := by decide +kernel
theorem d8_9 : decode jdk_68_method_9_code 9 = .ok (.ishr, 1) := by decide +kernel
theorem d8_10 : decode jdk_68_method_9_code 10 = .ok (.istore_n 2, 1) := by decide +kernel
theorem d8_11 : decode jdk_68_method_9_code 11 = .ok (.iload_n 1, 1) := by decide +kernel
theorem d8_12 : decode jdk_68_method_9_code 12 = .ok (.iload_n 2, 1) := by decide +kernel
theorem d8_13 : decode jdk_68_method_9_code 13 = .ok (.isub, 1) := by decide +kernel
theorem d8_14 : decode jdk_68_method_9_code 14 = .ok (.ifCond .le 24, 3) := by decide +kernel
theorem d8_38 : decode jdk_68_method_9_code 38 = .ok (.return_, 1) := by decide +kernel
theorem ef_8 (m : MethodId) (x0 : Addr) (x1 : Int32) : entryFrame m #[(.ref x0), (.int x1)] 3 = mkF m 0 #[.val (.ref x0), .val (.int x1), .unset] [] := by first | (simp [entryFrame, mkF, argsToLocals, Value.category]; done) | rfl
def Q8 (Z : State) (a1 : Addr) (p2 : Int32) (b : Addr) (kb : ClassId) (nz : Int32) (c0 : Int32) (c1 : Int32) (c2 : Int32) (c3 : Int32) (c4 : Int32) (c5 : Int32) (c6 : Int32) (c7 : Int32) (h0 : Heap) (v : Option Value) (h : Heap) (L : List Loc) : Prop := v = none ∧ L = [] ∧ h = h0
set_option maxRecDepth 65536 in
set_option maxHeartbeats 40000000 in
theorem rm8 (l : Launch) (Z : State) (a0 : Array Value) (hw : ∀ d ∈ tables_1, d.before a0 Z = true) (ws : List Jvm.Cond) (a1 : Addr) (p2 : Int32) (b : Addr) (kb : ClassId) (nz : Int32) (c0 : Int32) (c1 : Int32) (c2 : Int32) (c3 : Int32) (c4 : Int32) (c5 : Int32) (c6 : Int32) (c7 : Int32) (h0 : Heap) (F_v : Fld Z h0 a1 "java/lang/AbstractStringBuilder" "value" "[B" (.ref b)) (F_c : Fld Z h0 a1 "java/lang/AbstractStringBuilder" "coder" "B" (.int (0 : Int32))) (V_b : Arv Z h0 b kb .byte nz [(.int c0), (.int c1), (.int c2), (.int c3), (.int c4), (.int c5), (.int c6), (.int c7)] (.int (0 : Int32))) (hle : ¬ nz < p2) (hz : ¬ p2 < 0) :
    MetFree l (⟨"java/lang/AbstractStringBuilder", "ensureCapacityInternal", "(I)V"⟩ : MethodName) (head1 (Jvm.Cond.code (⟨"java/lang/AbstractStringBuilder", "ensureCapacityInternal", "(I)V"⟩ : MethodName) jdk_68_method_9_code 3 none :: ws) ({ frames := 0, cells := 0, slots := 0, locals := 0 } : Room)) (fun a U => a = #[(.ref a1), (.int p2)] ∧ Z.Warmed39 U.vm ∧ U.heap = h0) (fun _ _ _ _ _ => True) (fun _ U o U' => ∃ v L, o = .returned v ∧ Q8 Z a1 p2 b kb nz c0 c1 c2 c3 c4 c5 c6 c7 h0 v U'.heap L ∧ FrameEnd U o U' L ({ frames := 0, cells := 0, slots := 0, locals := 0 } : Room).cells ({ frames := 0, cells := 0, slots := 0, locals := 0 } : Room).slots) := by
  refine MetFree.of_bodySF (plainFor_of_name pn_0) hisR ?_
  intro p e s m args below meth c s₁ Bd hml0 hP hK
  obtain ⟨rfl, hZ, hh⟩ := hP
  have hx := Bd.exec
  have hby := Bd.bytes
  have hml : c.maxLocals = 3 := hml0
  have hown : s.vm.findClass "java/lang/AbstractStringBuilder" = some m.cls := findClass_of_methodNamed Bd.named
  have hnm := (name_of_methodNamed Bd.named Bd.method).1
  have X0 : Stand p l e ({ frames := 0, cells := 0, slots := 0, locals := 0 } : Room) s m #[(.ref a1), (.int p2)] below meth c s₁ [] 0 0 := Stand.of_body Bd
  have e0 : s₁.heap = h0 := by rw [← hh, Bd.state]; rfl
  have pre0 : ∀ t, Steps p.tables e below (s₁.setTop (mkF m 0 #[.val (.ref a1), .val (.int p2), .unset] [])) t → Steps p.tables e below (s₁.setTop (entryFrame m #[(.ref a1), (.int p2)] 3)) t := fun t k => castTop (ef_8 m a1 p2) k
  obtain ⟨T1, X1, e1, st1⟩ := getF X0 hx hZ hown (host := "") (Or.inl (hw _ (List.mem_of_getElem? (i := 24) rfl))) Via.refl e0 F_v (g := (mkF m 1 #[vR a1, vI p2, .unset] [iR a1])) rfl rfl (hb hby d8_1)
  obtain ⟨cl2, Ar2, q2, S2, M2, H2, G2⟩ := id V_b
  obtain ⟨T3, X3, e3, st3⟩ := getF X1 hx hZ hown (host := "") (Or.inl (hw _ (List.mem_of_getElem? (i := 26) rfl))) Via.refl e1 F_c (g := (mkF m 6 #[vR a1, vI p2, .unset] [iR a1, iI nz])) rfl rfl (hb hby d8_6)
  have hh4 : ¬ ((0 : Int32) < (p2 - (nz >>> ((0 : Int32) &&& 31)))) := own_ens nz p2 hle hz
  obtain ⟨fs, hr, hrun, hended, hW, hsame⟩ := X3.leave (v := none) (fun _ => rfl)
  refine ⟨_, _, pre0 _ ?_, hrun, hended, _, _, rfl, ?_, ⟨_, rfl⟩, hW, hsame.mono (by decide) (by decide)⟩
  · show Steps _ _ _ (s₁.setTop (mkF m 0 #[vR a1, vI p2, .unset] [])) _
    refine XS.aloadN X0.here hx rfl (hb hby d8_0) rfl rfl ?_
    show Steps _ _ _ (s₁.setTop (mkF m 1 #[vR a1, vI p2, .unset] [iR a1])) _
    refine st1 _ ?_
    show Steps _ _ _ (T1.setTop (mkF m 4 #[vR a1, vI p2, .unset] [iR b])) _
    refine X1.arraylength hx (by rw [e1]; exact Ar2.1) (State.isArrayOf_alike hZ.alike Ar2.2.1) (g := (mkF m 4 #[vR a1, vI p2, .unset] [iR b])) rfl rfl (hb hby d8_4) _ ?_
    rw [len_of S2 M2]
    show Steps _ _ _ (T1.setTop (mkF m 5 #[vR a1, vI p2, .unset] [iI nz])) _
    refine XS.aloadN X1.here hx rfl (hb hby d8_5) rfl rfl ?_
    show Steps _ _ _ (T1.setTop (mkF m 6 #[vR a1, vI p2, .unset] [iR a1, iI nz])) _
    refine st3 _ ?_
    show Steps _ _ _ (T3.setTop (mkF m 9 #[vR a1, vI p2, .unset] [iI 0, iI nz])) _
    refine XS.ishr X3.here hx rfl (hb hby d8_9) rfl ?_
    show Steps _ _ _ (T3.setTop (mkF m 10 #[vR a1, vI p2, .unset] [iI (nz >>> ((0 : Int32) &&& 31))])) _
    refine XS.istoreN X3.here hx rfl (hb hby d8_10) rfl (l' := #[vR a1, vI p2, vI (nz >>> ((0 : Int32) &&& 31))]) rfl ?_
    show Steps _ _ _ (T3.setTop (mkF m 11 #[vR a1, vI p2, vI (nz >>> ((0 : Int32) &&& 31))] [])) _
    refine XS.iloadN X3.here hx rfl (hb hby d8_11) rfl ?_
    show Steps _ _ _ (T3.setTop (mkF m 12 #[vR a1, vI p2, vI (nz >>> ((0 : Int32) &&& 31))] [iI p2])) _
    refine XS.iloadN X3.here hx rfl (hb hby d8_12) rfl ?_
    show Steps _ _ _ (T3.setTop (mkF m 13 #[vR a1, vI p2, vI (nz >>> ((0 : Int32) &&& 31))] [iI (nz >>> ((0 : Int32) &&& 31)), iI p2])) _
    refine XS.isub X3.here hx rfl (hb hby d8_13) rfl ?_
    show Steps _ _ _ (T3.setTop (mkF m 14 #[vR a1, vI p2, vI (nz >>> ((0 : Int32) &&& 31))] [iI (p2 - (nz >>> ((0 : Int32) &&& 31)))])) _
    refine XS.ifYes X3.here hx rfl (pc0 := 14) (pc' := 38) rfl (hb hby d8_14) rfl ((if0 _ _).trans (flt hh4).2.2.2) (by decide) (by decide) ?_
    show Steps _ _ _ (T3.setTop (mkF m 38 #[vR a1, vI p2, vI (nz >>> ((0 : Int32) &&& 31))] [])) _
    exact X3.returnOut hx Bd.returns (hb hby d8_38) hr
  · show Q8 Z a1 p2 b kb nz c0 c1 c2 c3 c4 c5 c6 c7 h0 _ T3.heap _
    rw [e3]
    exact ⟨rfl, rfl, rfl⟩
def own_can (p1 : Int32) : Int32 := (nar .boolean (if (255 : Int32) < p1 then (0 : Int32) else (1 : Int32)))
theorem d10_0 : decode jdk_43_method_3_code 0 = .ok (.iload_n 0, 1) := by decide +kernel
theorem d10_1 : decode jdk_43_method_3_code 1 = .ok (.sipush 255, 3) := by decide +kernel
theorem d10_4 : decode jdk_43_method_3_code 4 = .ok (.if_icmp .gt 7, 3) := by decide +kernel
theorem d10_7 : decode jdk_43_method_3_code 7 = .ok (.iconst 1, 1) := by decide +kernel
theorem d10_8 : decode jdk_43_method_3_code 8 = .ok (.goto 4, 3) := by decide +kernel
theorem d10_11 : decode jdk_43_method_3_code 11 = .ok (.iconst 0, 1) := by decide +kernel
theorem d10_12 : decode jdk_43_method_3_code 12 = .ok (.ireturn, 1) := by decide +kernel
theorem pn_2 : plainName "java/lang/StringLatin1" = true := by first | (simp [plainName, overriddenIn]; done) | decide +kernel
theorem ef_10 (m : MethodId) (x0 : Int32) : entryFrame m #[(.int x0)] 1 = mkF m 0 #[.val (.int x0)] [] := by first | (simp [entryFrame, mkF, argsToLocals, Value.category]; done) | rfl
def Q10 (Z : State) (p1 : Int32) (h0 : Heap) (v : Option Value) (h : Heap) (L : List Loc) : Prop := v = some (.int (own_can p1)) ∧ L = [] ∧ h = h0
set_option maxRecDepth 65536 in
set_option maxHeartbeats 40000000 in
theorem rm10 (l : Launch) (Z : State) (a0 : Array Value) (hw : ∀ d ∈ tables_1, d.before a0 Z = true) (ws : List Jvm.Cond) (p1 : Int32) (h0 : Heap) :
    MetFree l (⟨"java/lang/StringLatin1", "canEncode", "(C)Z"⟩ : MethodName) (head1 (Jvm.Cond.code (⟨"java/lang/StringLatin1", "canEncode", "(C)Z"⟩ : MethodName) jdk_43_method_3_code 1 (some .boolean) :: ws) ({ frames := 0, cells := 0, slots := 0, locals := 0 } : Room)) (fun a U => a = #[(.int p1)] ∧ Z.Warmed39 U.vm ∧ U.heap = h0) (fun _ _ _ _ _ => True) (fun _ U o U' => ∃ v L, o = .returned v ∧ Q10 Z p1 h0 v U'.heap L ∧ FrameEnd U o U' L ({ frames := 0, cells := 0, slots := 0, locals := 0 } : Room).cells ({ frames := 0, cells := 0, slots := 0, locals := 0 } : Room).slots) := by
  refine MetFree.of_bodySF (plainFor_of_name pn_2) hisR ?_
  intro p e s m args below meth c s₁ Bd hml0 hP hK
  obtain ⟨rfl, hZ, hh⟩ := hP
  have hx := Bd.exec
  have hby := Bd.bytes
  have hml : c.maxLocals = 1 := hml0
  have hown : s.vm.findClass "java/lang/StringLatin1" = some m.cls := findClass_of_methodNamed Bd.named
  have hnm := (name_of_methodNamed Bd.named Bd.method).1
  have X0 : Stand p l e ({ frames := 0, cells := 0, slots := 0, locals := 0 } : Room) s m #[(.int p1)] below meth c s₁ [] 0 0 := Stand.of_body Bd
  have e0 : s₁.heap = h0 := by rw [← hh, Bd.state]; rfl
  have pre0 : ∀ t, Steps p.tables e below (s₁.setTop (mkF m 0 #[.val (.int p1)] [])) t → Steps p.tables e below (s₁.setTop (entryFrame m #[(.int p1)] 1)) t := fun t k => castTop (ef_10 m p1) k
  obtain ⟨v1, hv1⟩ : ∃ z : Int32, z = (if (255 : Int32) < p1 then (0 : Int32) else (1 : Int32)) := ⟨_, rfl⟩
  obtain ⟨T2, X2, e2, st2⟩ : own_Mid X0 h0 (mkF m 4 #[vI p1] [iI 255, iI p1]) (mkF m 12 #[vI p1] [iI v1]) := by
    by_cases hc3 : (255 : Int32) < p1
    · refine ⟨s₁, X0, e0, fun t kt => ?_⟩
      subst hv1
      simp only [if_pos hc3] at kt
      show Steps _ _ _ (s₁.setTop (mkF m 4 #[vI p1] [iI 255, iI p1])) _
      refine XS.icmpYes X0.here hx rfl (pc0 := 4) (pc' := 11) rfl (hb hby d10_4) rfl (tlt hc3).2.2.1 (by decide) (by decide) ?_
      show Steps _ _ _ (s₁.setTop (mkF m 11 #[vI p1] [])) _
      refine XS.iconst X0.here hx rfl (hb hby d10_11) ?_
      exact kt
    · refine ⟨s₁, X0, e0, fun t kt => ?_⟩
      subst hv1
      simp only [if_neg hc3] at kt
      show Steps _ _ _ (s₁.setTop (mkF m 4 #[vI p1] [iI 255, iI p1])) _
      refine XS.icmpNo X0.here hx rfl (hb hby d10_4) rfl (flt hc3).2.2.1 ?_
      show Steps _ _ _ (s₁.setTop (mkF m 7 #[vI p1] [])) _
      refine XS.iconst X0.here hx rfl (hb hby d10_7) ?_
      show Steps _ _ _ (s₁.setTop (mkF m 8 #[vI p1] [iI 1])) _
      refine XS.goto X0.here hx rfl (pc0 := 8) (pc' := 12) rfl (hb hby d10_8) (by decide) (by decide) ?_
      exact kt
  obtain ⟨fs, hr, hrun, hended, hW, hsame⟩ := X2.leave (v := some (.int (nar .boolean v1))) (fun h => by rw [Bd.returns] at h; cases h)
  refine ⟨_, _, pre0 _ ?_, hrun, hended, _, _, rfl, ?_, ⟨_, rfl⟩, hW, hsame.mono (by decide) (by decide)⟩
  · show Steps _ _ _ (s₁.setTop (mkF m 0 #[vI p1] [])) _
    refine XS.iloadN X0.here hx rfl (hb hby d10_0) rfl ?_
    show Steps _ _ _ (s₁.setTop (mkF m 1 #[vI p1] [iI p1])) _
    refine XS.sipush X0.here hx rfl (hb hby d10_1) ?_
    show Steps _ _ _ (s₁.setTop (mkF m 4 #[vI p1] [iI 255, iI p1])) _
    refine st2 _ ?_
    show Steps _ _ _ (T2.setTop (mkF m 12 #[vI p1] [iI v1])) _
    exact retN X2 hx (t := .boolean) Bd.returns (by simp) (hb hby d10_12) hr
  · show Q10 Z p1 h0 _ T2.heap _
    rw [e2]
    exact ⟨by subst hv1; first | rfl | (simp only [own_can]; done) | (simp only [own_can]; rfl) | (simp only [own_can, nar] ; first | rfl | (simp; done) | decide), rfl, rfl⟩
theorem own_nle0 {nz : Int32} (h : (0 : Int32) < nz) : ¬ nz < (1 : Int32) := by
  have e1 : (0 : Int32).toInt = 0 := rfl
  have e2 : (1 : Int32).toInt = 1 := rfl
  rw [Int32.lt_iff_toInt_lt] at *; omega
theorem d7_0 : decode jdk_68_method_31_code 0 = .ok (.aload_n 0, 1) := by decide +kernel
theorem d7_1 : decode jdk_68_method_31_code 1 = .ok (.aload_n 0, 1) := by decide +kernel
theorem d7_2 : decode jdk_68_method_31_code 2 = .ok (.getfield 79, 3) := by decide +kernel
theorem d7_5 : decode jdk_68_method_31_code 5 = .ok (.iconst 1, 1) := by decide +kernel
theorem d7_6 : decode jdk_68_method_31_code 6 = .ok (.iadd, 1) := by decide +kernel
theorem d7_7 : decode jdk_68_method_31_code 7 = .ok (.invokevirtual 100, 3) := by decide +kernel
theorem d7_10 : decode jdk_68_method_31_code 10 = .ok (.aload_n 0, 1) := by decide +kernel
theorem d7_11 : decode jdk_68_method_31_code 11 = .ok (.invokevirtual 83, 3) := by decide +kernel
theorem d7_14 : decode jdk_68_method_31_code 14 = .ok (.ifCond .eq 31, 3) := by decide +kernel
theorem d7_17 : decode jdk_68_method_31_code 17 = .ok (.iload_n 1, 1) := by decide +kernel
theorem d7_18 : decode jdk_68_method_31_code 18 = .ok (.invokestatic 191, 3) := by decide +kernel
theorem d7_21 : decode jdk_68_method_31_code 21 = .ok (.ifCond .eq 24, 3) := by decide +kernel
theorem d7_24 : decode jdk_68_method_31_code 24 = .ok (.aload_n 0, 1) := by decide +kernel
theorem d7_25 : decode jdk_68_method_31_code 25 = .ok (.getfield 15, 3) := by decide +kernel
theorem d7_28 : decode jdk_68_method_31_code 28 = .ok (.aload_n 0, 1) := by decide +kernel
theorem d7_29 : decode jdk_68_method_31_code 29 = .ok (.dup, 1) := by decide +kernel
theorem d7_30 : decode jdk_68_method_31_code 30 = .ok (.getfield 79, 3) := by decide +kernel
theorem d7_33 : decode jdk_68_method_31_code 33 = .ok (.dup_x1, 1) := by decide +kernel
theorem d7_34 : decode jdk_68_method_31_code 34 = .ok (.iconst 1, 1) := by decide +kernel
theorem d7_35 : decode jdk_68_method_31_code 35 = .ok (.iadd, 1) := by decide +kernel
theorem d7_36 : decode jdk_68_method_31_code 36 = .ok (.putfield 79, 3) := by decide +kernel
theorem d7_39 : decode jdk_68_method_31_code 39 = .ok (.iload_n 1, 1) := by decide +kernel
theorem d7_40 : decode jdk_68_method_31_code 40 = .ok (.i2b, 1) := by decide +kernel
theorem d7_41 : decode jdk_68_method_31_code 41 = .ok (.bastore, 1) := by decide +kernel
theorem d7_42 : decode jdk_68_method_31_code 42 = .ok (.goto 33, 3) := by decide +kernel
theorem d7_75 : decode jdk_68_method_31_code 75 = .ok (.aload_n 0, 1) := by decide +kernel
theorem d7_76 : decode jdk_68_method_31_code 76 = .ok (.areturn, 1) := by decide +kernel
theorem ef_7_0 (m : MethodId) (x0 : Addr) (x1 : Int32) : entryFrame m #[(.ref x0), (.int x1)] 2 = mkF m 0 #[.val (.ref x0), .val (.int x1)] [] := by first | (simp [entryFrame, mkF, argsToLocals, Value.category]; done) | rfl
def Q7_0 (Z : State) (a1 : Addr) (p2 : Int32) (b : Addr) (kb : ClassId) (nz : Int32) (c0 : Int32) (c1 : Int32) (c2 : Int32) (c3 : Int32) (c4 : Int32) (c5 : Int32) (c6 : Int32) (c7 : Int32) (cs : Int32) (h0 : Heap) (n0 : Nat) (v : Option Value) (h : Heap) (L : List Loc) : Prop := v = some (.ref a1) ∧ Fr n0 L ∧ Keep h0 h [a1, b] ∧ Exa Z h a1 "java/lang/StringBuilder" ∧ Fld Z h a1 "java/lang/AbstractStringBuilder" "value" "[B" (.ref b) ∧ Fld Z h a1 "java/lang/AbstractStringBuilder" "coder" "B" (.int (0 : Int32)) ∧ Fld Z h a1 "java/lang/AbstractStringBuilder" "count" "I" (.int (1 : Int32)) ∧ Arv Z h b kb .byte nz [(.int (nar .byte p2.toInt8.toInt32)), (.int c1), (.int c2), (.int c3), (.int c4), (.int c5), (.int c6), (.int c7)] (.int (0 : Int32))
set_option maxRecDepth 65536 in
set_option maxHeartbeats 40000000 in
theorem rm7_0 (l : Launch) (Z : State) (a0 : Array Value) (hw : ∀ d ∈ tables_1, d.before a0 Z = true) (ws : List Jvm.Cond) (a1 : Addr) (p2 : Int32) (b : Addr) (kb : ClassId) (nz : Int32) (c0 : Int32) (c1 : Int32) (c2 : Int32) (c3 : Int32) (c4 : Int32) (c5 : Int32) (c6 : Int32) (c7 : Int32) (cs : Int32) (h0 : Heap) (n0 : Nat) (Z0 : n0 ≤ h0.size) (O0 : Old Z n0 h0) (E_a1 : Exa Z h0 a1 "java/lang/StringBuilder") (g_a1 : n0 ≤ a1) (g_b : n0 ≤ b) (F_v : Fld Z h0 a1 "java/lang/AbstractStringBuilder" "value" "[B" (.ref b)) (F_c : Fld Z h0 a1 "java/lang/AbstractStringBuilder" "coder" "B" (.int (0 : Int32))) (F_n : Fld Z h0 a1 "java/lang/AbstractStringBuilder" "count" "I" (.int (0 : Int32))) (V_b : Arv Z h0 b kb .byte nz [(.int c0), (.int c1), (.int c2), (.int c3), (.int c4), (.int c5), (.int c6), (.int c7)] (.int (0 : Int32))) (ne_a1_b : a1 ≠ b) (hi : (0 : Int32) < nz) (hl : ¬ (255 : Int32) < p2) (S_CS : Sta Z Z.heap "java/lang/String" "COMPACT_STRINGS" "Z" (.int cs)) (h_cs : ¬ cs = (0 : Int32)) :
    MetFree l (⟨"java/lang/AbstractStringBuilder", "append", "(C)Ljava/lang/AbstractStringBuilder;"⟩ : MethodName) (head1 (Jvm.Cond.code (⟨"java/lang/AbstractStringBuilder", "append", "(C)Ljava/lang/AbstractStringBuilder;"⟩ : MethodName) jdk_68_method_31_code 2 (some (.object "java/lang/AbstractStringBuilder")) :: ws) ({ frames := 1, cells := 0, slots := 0, locals := 14 } : Room)) (fun a U => a = #[(.ref a1), (.int p2)] ∧ Z.Warmed39 U.vm ∧ U.heap = h0) (fun _ _ _ _ _ => True) (fun _ U o U' => ∃ v L, o = .returned v ∧ Q7_0 Z a1 p2 b kb nz c0 c1 c2 c3 c4 c5 c6 c7 cs h0 n0 v U'.heap L ∧ FrameEnd U o U' L ({ frames := 1, cells := 0, slots := 0, locals := 14 } : Room).cells ({ frames := 1, cells := 0, slots := 0, locals := 14 } : Room).slots) := by
  refine MetFree.of_bodySF (plainFor_of_name pn_0) hisR ?_
  intro p e s m args below meth c s₁ Bd hml0 hP hK
  obtain ⟨rfl, hZ, hh⟩ := hP
  have hx := Bd.exec
  have hby := Bd.bytes
  have hml : c.maxLocals = 2 := hml0
  have hown : s.vm.findClass "java/lang/AbstractStringBuilder" = some m.cls := findClass_of_methodNamed Bd.named
  have hnm := (name_of_methodNamed Bd.named Bd.method).1
  have X0 : Stand p l e ({ frames := 1, cells := 0, slots := 0, locals := 14 } : Room) s m #[(.ref a1), (.int p2)] below meth c s₁ [] 0 0 := Stand.of_body Bd
  have e0 : s₁.heap = h0 := by rw [← hh, Bd.state]; rfl
  have N0 := Fr.nil n0
  have K0 := Keep.refl h0 [a1, b]
  have pre0 : ∀ t, Steps p.tables e below (s₁.setTop (mkF m 0 #[.val (.ref a1), .val (.int p2)] [])) t → Steps p.tables e below (s₁.setTop (entryFrame m #[(.ref a1), (.int p2)] 2)) t := fun t k => castTop (ef_7_0 m a1 p2) k
  obtain ⟨T1, X1, e1, st1⟩ := getF X0 hx hZ hown (host := "") (Or.inl (hw _ (List.mem_of_getElem? (i := 42) rfl))) Via.refl e0 F_n (g := (mkF m 2 #[vR a1, vI p2] [iR a1, iR a1])) rfl rfl (hb hby d7_2)
  obtain ⟨cq2, q2, q2'⟩ := E_a1.cell
  obtain ⟨_, _, ⟨T2, L2, k2, n2⟩, -, X2, ⟨Lc2, hQ2, l2, y2, z2⟩, st2⟩ := X1.privateBack hx (y := (⟨"java/lang/AbstractStringBuilder", "ensureCapacityInternal", "(I)V"⟩ : MethodName)) hown (mvT hZ (hw _ (List.mem_of_getElem? (i := 44) rfl))) (mvT hZ (hw _ (List.mem_of_getElem? (i := 45) rfl))) (own_selPriv2 (own_nf (z := (⟨"java/lang/AbstractStringBuilder", "ensureCapacityInternal", "(I)V"⟩ : MethodName)) rfl (notFace_of_selects (args := #[]) (mvT hZ (hw _ (List.mem_of_getElem? (i := 47) rfl)))) (mvT hZ (hw _ (List.mem_of_getElem? (i := 45) rfl)) (args := #[]))) (Cond.privateMethod_at (mvP hZ (hw _ (List.mem_of_getElem? (i := 46) rfl)) (args := #[]))) (mvT hZ (hw _ (List.mem_of_getElem? (i := 45) rfl))) (by decide)) (Cond.privateMethod_at (mvP hZ (hw _ (List.mem_of_getElem? (i := 46) rfl)) (args := #[]))) (mvT hZ (hw _ (List.mem_of_getElem? (i := 48) rfl))) (by decide) (backOf (W := 0) (rm8 l Z a0 hw [] a1 (1 : Int32) b kb nz c0 c1 c2 c3 c4 c5 c6 c7 h0 F_v F_c V_b (own_nle0 hi) (by decide)) hZ (hw _ (List.mem_of_getElem? (i := 48) rfl)) (hw _ (List.mem_of_getElem? (i := 16) rfl)) (by decide) (by decide)) (g := (mkF m 7 #[vR a1, vI p2] [iI 1, iR a1])) rfl (by rw [hml]; rfl) (Steps.refl _) (a := a1) (by rw [e1]; exact q2) q2' (argsL := [(.int (1 : Int32))]) (rest := []) (lenOf pd_0 rfl) rfl (by show 2 * 0 + _ ≤ _; exact Nat.le_of_eq rfl) (hb hby d7_7) (fun _ _ => ⟨rfl, e1, (by decide : 0 + 0 ≤ _), (by decide : 0 + 0 ≤ _)⟩)
  dsimp only [Pt.U, Pt.locs, Pt.cells, Pt.slots] at X2 l2 y2 z2 st2 hQ2
  subst l2 y2 z2
  obtain ⟨rfl, rfl, e2⟩ := hQ2
  try rw [List.append_nil] at X2
  obtain ⟨cq3, kq3, q3a, q3b, q3c⟩ := isOf hZ e2 E_a1
  obtain ⟨_, _, ⟨T3, L3, k3, n3⟩, -, X3, ⟨Lc3, hQ3, l3, y3, z3⟩, st3⟩ := X2.virtualBack hx (y := (⟨"java/lang/AbstractStringBuilder", "isLatin1", "()Z"⟩ : MethodName)) (z := (⟨"java/lang/AbstractStringBuilder", "isLatin1", "()Z"⟩ : MethodName)) hown (mvT hZ (hw _ (List.mem_of_getElem? (i := 49) rfl))) (mvT hZ (hw _ (List.mem_of_getElem? (i := 50) rfl))) (notFace_of_selects (args := #[]) (mvT hZ (hw _ (List.mem_of_getElem? (i := 52) rfl)))) (mvT hZ (hw _ (List.mem_of_getElem? (i := 52) rfl))) (mvT hZ (hw _ (List.mem_of_getElem? (i := 51) rfl))) (by decide) (backOf (W := 0) (rm9 l Z a0 hw [] a1 cs h0 n0 O0 F_c S_CS h_cs) hZ (hw _ (List.mem_of_getElem? (i := 53) rfl)) (hw _ (List.mem_of_getElem? (i := 16) rfl)) (by decide) (by decide)) q3a q3c (g := (mkF m 11 #[vR a1, vI p2] [iR a1])) rfl (by rw [hml]; rfl) (Steps.refl _) (argsL := []) (rest := []) (lenOf pd_1 rfl) rfl (by show 2 * 0 + _ ≤ _; exact Nat.le_of_eq rfl) (hb hby d7_11) (fun _ _ => ⟨rfl, e2, (by decide : 0 + 0 ≤ _), (by decide : 0 + 0 ≤ _)⟩)
  dsimp only [Pt.U, Pt.locs, Pt.cells, Pt.slots] at X3 l3 y3 z3 st3 hQ3
  subst l3 y3 z3
  obtain ⟨rfl, rfl, e3⟩ := hQ3
  try rw [List.append_nil] at X3
  obtain ⟨_, _, ⟨T4, L4, k4, n4⟩, -, X4, ⟨Lc4, hQ4, l4, y4, z4⟩, st4⟩ := Jvm.LawKit.callS X3 hx (y := (⟨"java/lang/StringLatin1", "canEncode", "(C)Z"⟩ : MethodName)) hown (mvT hZ (hw _ (List.mem_of_getElem? (i := 54) rfl))) (mvT hZ (hw _ (List.mem_of_getElem? (i := 55) rfl))) (mvT hZ (hw _ (List.mem_of_getElem? (i := 56) rfl))) (mvT hZ (hw _ (List.mem_of_getElem? (i := 57) rfl))) (by decide) (backOf (W := 0) (rm10 l Z a0 hw [] p2 h0 ) hZ (hw _ (List.mem_of_getElem? (i := 57) rfl)) (hw _ (List.mem_of_getElem? (i := 56) rfl)) (by decide) (by decide)) (g := (mkF m 18 #[vR a1, vI p2] [iI p2])) rfl (by rw [hml]; rfl) (argsL := [(.int p2)]) (rest := []) (lenOf pd_2 rfl) rfl (by show 2 * 0 + _ ≤ _; exact Nat.le_of_eq rfl) (hb hby d7_18) (fun _ _ => ⟨rfl, e3, (by decide : 0 + 0 ≤ _), (by decide : 0 + 0 ≤ _)⟩)
  dsimp only [Pt.U, Pt.locs, Pt.cells, Pt.slots] at X4 l4 y4 z4 st4 hQ4
  subst l4 y4 z4
  obtain ⟨rfl, rfl, e4⟩ := hQ4
  try rw [List.append_nil] at X4
  have hh5 : ¬ ((own_can p2) = (0 : Int32)) := (by unfold own_can; rw [if_neg hl]; decide)
  obtain ⟨T6, X6, e6, st6⟩ := getF X4 hx hZ hown (host := "") (Or.inl (hw _ (List.mem_of_getElem? (i := 24) rfl))) Via.refl e4 F_v (g := (mkF m 25 #[vR a1, vI p2] [iR a1])) rfl rfl (hb hby d7_25)
  obtain ⟨T7, X7, e7, st7⟩ := getF X6 hx hZ hown (host := "") (Or.inl (hw _ (List.mem_of_getElem? (i := 42) rfl))) Via.refl e6 F_n (g := (mkF m 30 #[vR a1, vI p2] [iR a1, iR a1, iR b])) rfl rfl (hb hby d7_30)
  obtain ⟨T8, h8, X8, e8, W8, st8⟩ := putF X7 hx hZ hown (host := "") (Or.inl (hw _ (List.mem_of_getElem? (i := 42) rfl))) Via.refl e7 F_n E_a1 (Or.inl (hw _ (List.mem_of_getElem? (i := 43) rfl))) (hw _ (List.mem_of_getElem? (i := 7) rfl)) (ty := .int) (by decide) rfl rfl (g := (mkF m 36 #[vR a1, vI p2] [iI 1, iR a1, iI 0, iR b])) rfl rfl (hb hby d7_36)
  have Fw8 := F_n.same W8
  have K8 : Keep h0 h8 [a1, b] := K0.wr W8 (Or.inl (List.mem_of_getElem? (i := 0) rfl))
  have N8 := Fr.snoc X8 N0 g_a1
  have fk9 := (V_b.other W8 (Ne.symm ne_a1_b))
  obtain ⟨cl10, Ar10, q10, S10, M10, H10, G10⟩ := id fk9
  have hin11 : ¬ ((0 : Int32) < 0 ∨ cl10.slots.size ≤ ((0 : Int32)).toNatClampNeg) := inb_of S10 ⟨by decide, hi⟩
  obtain ⟨T12, h12, X12, e12, W12, st12⟩ := stB X8 hx hZ e8 Ar10 (j := (0 : Int32)) hin11 (g := (mkF m 41 #[vR a1, vI p2] [iI p2.toInt8.toInt32, iI 0, iR b])) rfl rfl (hb hby d7_41)
  have V12 : Arv Z h12 b kb .byte nz [(.int (nar .byte p2.toInt8.toInt32)), (.int c1), (.int c2), (.int c3), (.int c4), (.int c5), (.int c6), (.int c7)] (.int (0 : Int32)) := Arv.set Ar10 q10 S10 M10 H10 G10 (fits_nar_byte _) W12 0 rfl (Nat.le_of_ble_eq_true rfl)
  have K12 : Keep h0 h12 [a1, b] := K8.wr W12 (Or.inl (List.mem_of_getElem? (i := 1) rfl))
  have N12 := Fr.snoc X12 N8 g_b
  obtain ⟨fs, hr, hrun, hended, hW, hsame⟩ := X12.leave (v := some (.ref a1)) (fun h => by rw [Bd.returns] at h; cases h)
  have fk13 := ((E_a1.wr W8).wr W12)
  have fk14 := ((F_v.other W8 (Or.inr (slot_ne (Or.inl (hw _ (List.mem_of_getElem? (i := 25) rfl))) (Or.inl (hw _ (List.mem_of_getElem? (i := 43) rfl))) (by decide) (t := (.array .byte)) (t' := .int) (by decide) (by decide)))).other W12 (Or.inl ne_a1_b))
  have fk15 := ((F_c.other W8 (Or.inr (slot_ne (Or.inl (hw _ (List.mem_of_getElem? (i := 27) rfl))) (Or.inl (hw _ (List.mem_of_getElem? (i := 43) rfl))) (by decide) (t := .byte) (t' := .int) (by decide) (by decide)))).other W12 (Or.inl ne_a1_b))
  have fk16 := (Fw8.other W12 (Or.inl ne_a1_b))
  refine ⟨_, _, pre0 _ ?_, hrun, hended, _, _, rfl, ?_, ⟨_, rfl⟩, hW, hsame.mono (by decide) (by decide)⟩
  · show Steps _ _ _ (s₁.setTop (mkF m 0 #[vR a1, vI p2] [])) _
    refine XS.aloadN X0.here hx rfl (hb hby d7_0) rfl rfl ?_
    show Steps _ _ _ (s₁.setTop (mkF m 1 #[vR a1, vI p2] [iR a1])) _
    refine XS.aloadN X0.here hx rfl (hb hby d7_1) rfl rfl ?_
    show Steps _ _ _ (s₁.setTop (mkF m 2 #[vR a1, vI p2] [iR a1, iR a1])) _
    refine st1 _ ?_
    show Steps _ _ _ (T1.setTop (mkF m 5 #[vR a1, vI p2] [iI 0, iR a1])) _
    refine XS.iconst X1.here hx rfl (hb hby d7_5) ?_
    show Steps _ _ _ (T1.setTop (mkF m 6 #[vR a1, vI p2] [iI 1, iI 0, iR a1])) _
    refine XS.iadd X1.here hx rfl (hb hby d7_6) rfl ?_
    rw [(by decide : ((0 : Int32) + (1 : Int32)) = (1 : Int32))]
    show Steps _ _ _ (T1.setTop (mkF m 7 #[vR a1, vI p2] [iI 1, iR a1])) _
    refine st2.trans ?_
    show Steps _ _ _ (T2.setTop (mkF m 10 #[vR a1, vI p2] [])) _
    refine XS.aloadN X2.here hx rfl (hb hby d7_10) rfl rfl ?_
    show Steps _ _ _ (T2.setTop (mkF m 11 #[vR a1, vI p2] [iR a1])) _
    refine st3.trans ?_
    show Steps _ _ _ (T3.setTop (mkF m 14 #[vR a1, vI p2] [iI 1])) _
    refine XS.ifNo X3.here hx rfl (hb hby d7_14) rfl ((if0 _ _).trans (feq (by decide : ¬ ((1 : Int32) = (0 : Int32)))).1) ?_
    show Steps _ _ _ (T3.setTop (mkF m 17 #[vR a1, vI p2] [])) _
    refine XS.iloadN X3.here hx rfl (hb hby d7_17) rfl ?_
    show Steps _ _ _ (T3.setTop (mkF m 18 #[vR a1, vI p2] [iI p2])) _
    refine st4 _ ?_
    show Steps _ _ _ (T4.setTop (mkF m 21 #[vR a1, vI p2] [iI (own_can p2)])) _
    refine XS.ifNo X4.here hx rfl (hb hby d7_21) rfl ((if0 _ _).trans (feq hh5).1) ?_
    show Steps _ _ _ (T4.setTop (mkF m 24 #[vR a1, vI p2] [])) _
    refine XS.aloadN X4.here hx rfl (hb hby d7_24) rfl rfl ?_
    show Steps _ _ _ (T4.setTop (mkF m 25 #[vR a1, vI p2] [iR a1])) _
    refine st6 _ ?_
    show Steps _ _ _ (T6.setTop (mkF m 28 #[vR a1, vI p2] [iR b])) _
    refine XS.aloadN X6.here hx rfl (hb hby d7_28) rfl rfl ?_
    show Steps _ _ _ (T6.setTop (mkF m 29 #[vR a1, vI p2] [iR a1, iR b])) _
    refine XS.dup X6.here hx rfl (hb hby d7_29) rfl rfl ?_
    show Steps _ _ _ (T6.setTop (mkF m 30 #[vR a1, vI p2] [iR a1, iR a1, iR b])) _
    refine st7 _ ?_
    show Steps _ _ _ (T7.setTop (mkF m 33 #[vR a1, vI p2] [iI 0, iR a1, iR b])) _
    refine XS.dupX1 X7.here hx rfl (hb hby d7_33) rfl rfl rfl ?_
    show Steps _ _ _ (T7.setTop (mkF m 34 #[vR a1, vI p2] [iI 0, iR a1, iI 0, iR b])) _
    refine XS.iconst X7.here hx rfl (hb hby d7_34) ?_
    show Steps _ _ _ (T7.setTop (mkF m 35 #[vR a1, vI p2] [iI 1, iI 0, iR a1, iI 0, iR b])) _
    refine XS.iadd X7.here hx rfl (hb hby d7_35) rfl ?_
    rw [(by decide : ((0 : Int32) + (1 : Int32)) = (1 : Int32))]
    show Steps _ _ _ (T7.setTop (mkF m 36 #[vR a1, vI p2] [iI 1, iR a1, iI 0, iR b])) _
    refine st8 _ ?_
    show Steps _ _ _ (T8.setTop (mkF m 39 #[vR a1, vI p2] [iI 0, iR b])) _
    refine XS.iloadN X8.here hx rfl (hb hby d7_39) rfl ?_
    show Steps _ _ _ (T8.setTop (mkF m 40 #[vR a1, vI p2] [iI p2, iI 0, iR b])) _
    refine XS.i2b X8.here hx rfl (hb hby d7_40) rfl ?_
    show Steps _ _ _ (T8.setTop (mkF m 41 #[vR a1, vI p2] [iI p2.toInt8.toInt32, iI 0, iR b])) _
    refine st12 _ ?_
    show Steps _ _ _ (T12.setTop (mkF m 42 #[vR a1, vI p2] [])) _
    refine XS.goto X12.here hx rfl (pc0 := 42) (pc' := 75) rfl (hb hby d7_42) (by decide) (by decide) ?_
    show Steps _ _ _ (T12.setTop (mkF m 75 #[vR a1, vI p2] [])) _
    refine XS.aloadN X12.here hx rfl (hb hby d7_75) rfl rfl ?_
    show Steps _ _ _ (T12.setTop (mkF m 76 #[vR a1, vI p2] [iR a1])) _
    jvm_step X12.here [X12.here.top, hx, (hb hby d7_76), X12.method', Bd.returns, Value.isRef, FieldType.isReference]
    first | (intro acts; rw [hr _ acts rfl rfl rfl]) | rw [hr _ _ rfl rfl rfl]
    exact Steps.refl _
  · show Q7_0 Z a1 p2 b kb nz c0 c1 c2 c3 c4 c5 c6 c7 cs h0 n0 _ T12.heap _
    rw [e12]
    exact ⟨rfl, N12, K12, fk13, fk14, fk15, fk16, V12⟩
theorem d6_0 : decode jdk_67_method_14_code 0 = .ok (.aload_n 0, 1) := by decide +kernel
theorem d6_1 : decode jdk_67_method_14_code 1 = .ok (.iload_n 1, 1) := by decide +kernel
theorem d6_2 : decode jdk_67_method_14_code 2 = .ok (.invokespecial 50, 3) := by decide +kernel
theorem d6_5 : decode jdk_67_method_14_code 5 = .ok (.pop, 1) := by decide +kernel
theorem d6_6 : decode jdk_67_method_14_code 6 = .ok (.aload_n 0, 1) := by decide +kernel
theorem d6_7 : decode jdk_67_method_14_code 7 = .ok (.areturn, 1) := by decide +kernel
theorem ef_6_0 (m : MethodId) (x0 : Addr) (x1 : Int32) : entryFrame m #[(.ref x0), (.int x1)] 2 = mkF m 0 #[.val (.ref x0), .val (.int x1)] [] := by first | (simp [entryFrame, mkF, argsToLocals, Value.category]; done) | rfl
def Q6_0 (Z : State) (a1 : Addr) (p2 : Int32) (b : Addr) (kb : ClassId) (nz : Int32) (c0 : Int32) (c1 : Int32) (c2 : Int32) (c3 : Int32) (c4 : Int32) (c5 : Int32) (c6 : Int32) (c7 : Int32) (cs : Int32) (h0 : Heap) (n0 : Nat) (v : Option Value) (h : Heap) (L : List Loc) : Prop := v = some (.ref a1) ∧ Fr n0 L ∧ Keep h0 h [a1, b] ∧ Exa Z h a1 "java/lang/StringBuilder" ∧ Fld Z h a1 "java/lang/AbstractStringBuilder" "value" "[B" (.ref b) ∧ Fld Z h a1 "java/lang/AbstractStringBuilder" "coder" "B" (.int (0 : Int32)) ∧ Fld Z h a1 "java/lang/AbstractStringBuilder" "count" "I" (.int (1 : Int32)) ∧ Arv Z h b kb .byte nz [(.int (nar .byte p2.toInt8.toInt32)), (.int c1), (.int c2), (.int c3), (.int c4), (.int c5), (.int c6), (.int c7)] (.int (0 : Int32))
set_option maxRecDepth 65536 in
set_option maxHeartbeats 40000000 in
theorem rm6_0 (l : Launch) (Z : State) (a0 : Array Value) (hw : ∀ d ∈ tables_1, d.before a0 Z = true) (ws : List Jvm.Cond) (a1 : Addr) (p2 : Int32) (b : Addr) (kb : ClassId) (nz : Int32) (c0 : Int32) (c1 : Int32) (c2 : Int32) (c3 : Int32) (c4 : Int32) (c5 : Int32) (c6 : Int32) (c7 : Int32) (cs : Int32) (h0 : Heap) (n0 : Nat) (Z0 : n0 ≤ h0.size) (O0 : Old Z n0 h0) (E_a1 : Exa Z h0 a1 "java/lang/StringBuilder") (g_a1 : n0 ≤ a1) (g_b : n0 ≤ b) (F_v : Fld Z h0 a1 "java/lang/AbstractStringBuilder" "value" "[B" (.ref b)) (F_c : Fld Z h0 a1 "java/lang/AbstractStringBuilder" "coder" "B" (.int (0 : Int32))) (F_n : Fld Z h0 a1 "java/lang/AbstractStringBuilder" "count" "I" (.int (0 : Int32))) (V_b : Arv Z h0 b kb .byte nz [(.int c0), (.int c1), (.int c2), (.int c3), (.int c4), (.int c5), (.int c6), (.int c7)] (.int (0 : Int32))) (ne_a1_b : a1 ≠ b) (hi : (0 : Int32) < nz) (hl : ¬ (255 : Int32) < p2) (S_CS : Sta Z Z.heap "java/lang/String" "COMPACT_STRINGS" "Z" (.int cs)) (h_cs : ¬ cs = (0 : Int32)) :
    MetFree l (⟨"java/lang/StringBuilder", "append", "(C)Ljava/lang/StringBuilder;"⟩ : MethodName) (head1 (Jvm.Cond.code (⟨"java/lang/StringBuilder", "append", "(C)Ljava/lang/StringBuilder;"⟩ : MethodName) jdk_67_method_14_code 2 (some (.object "java/lang/StringBuilder")) :: ws) ({ frames := 2, cells := 0, slots := 0, locals := 27 } : Room)) (fun a U => a = #[(.ref a1), (.int p2)] ∧ Z.Warmed39 U.vm ∧ U.heap = h0) (fun _ _ _ _ _ => True) (fun _ U o U' => ∃ v L, o = .returned v ∧ Q6_0 Z a1 p2 b kb nz c0 c1 c2 c3 c4 c5 c6 c7 cs h0 n0 v U'.heap L ∧ FrameEnd U o U' L ({ frames := 2, cells := 0, slots := 0, locals := 27 } : Room).cells ({ frames := 2, cells := 0, slots := 0, locals := 27 } : Room).slots) := by
  refine MetFree.of_bodySF (plainFor_of_name pn_1) hisR ?_
  intro p e s m args below meth c s₁ Bd hml0 hP hK
  obtain ⟨rfl, hZ, hh⟩ := hP
  have hx := Bd.exec
  have hby := Bd.bytes
  have hml : c.maxLocals = 2 := hml0
  have hown : s.vm.findClass "java/lang/StringBuilder" = some m.cls := findClass_of_methodNamed Bd.named
  have hnm := (name_of_methodNamed Bd.named Bd.method).1
  have X0 : Stand p l e ({ frames := 2, cells := 0, slots := 0, locals := 27 } : Room) s m #[(.ref a1), (.int p2)] below meth c s₁ [] 0 0 := Stand.of_body Bd
  have e0 : s₁.heap = h0 := by rw [← hh, Bd.state]; rfl
  have N0 := Fr.nil n0
  have K0 := Keep.refl h0 [a1, b]
  have pre0 : ∀ t, Steps p.tables e below (s₁.setTop (mkF m 0 #[.val (.ref a1), .val (.int p2)] [])) t → Steps p.tables e below (s₁.setTop (entryFrame m #[(.ref a1), (.int p2)] 2)) t := fun t k => castTop (ef_6_0 m a1 p2) k
  obtain ⟨_, _, ⟨T1, L1, k1, n1⟩, -, X1, ⟨Lc1, hQ1, l1, y1, z1⟩, st1⟩ := superBack X0 hx hZ (y := (⟨"java/lang/AbstractStringBuilder", "append", "(C)Ljava/lang/AbstractStringBuilder;"⟩ : MethodName)) hown (hw _ (List.mem_of_getElem? (i := 37) rfl)) (own_same (hw _ (List.mem_of_getElem? (i := 38) rfl)) (own_nf (z := (⟨"java/lang/AbstractStringBuilder", "ensureCapacityInternal", "(I)V"⟩ : MethodName)) rfl (notFace_of_selects (hw _ (List.mem_of_getElem? (i := 47) rfl))) (hw _ (List.mem_of_getElem? (i := 45) rfl))) (by decide)) (hw _ (List.mem_of_getElem? (i := 38) rfl)) (hw _ (List.mem_of_getElem? (i := 39) rfl)) (by decide) (backOf (W := 0) (rm7_0 l Z a0 hw [] a1 p2 b kb nz c0 c1 c2 c3 c4 c5 c6 c7 cs h0 n0 (Nat.le_trans Z0 K0.1) O0 E_a1 g_a1 g_b F_v F_c F_n V_b ne_a1_b hi hl S_CS h_cs) hZ (hw _ (List.mem_of_getElem? (i := 41) rfl)) (hw _ (List.mem_of_getElem? (i := 16) rfl)) (by decide) (by decide)) e0 (Ins.self E_a1) (g := (mkF m 2 #[vR a1, vI p2] [iI p2, iR a1])) rfl (by rw [hml]; rfl) (hw _ (List.mem_of_getElem? (i := 41) rfl)) (argsL := [(.int p2)]) (rest := []) (lenOf pd_3 rfl) rfl (by show 2 * 0 + _ ≤ _; exact Nat.le_of_eq rfl) (hb hby d6_2) (fun _ _ => ⟨rfl, e0, (by decide : 0 + 0 ≤ _), (by decide : 0 + 0 ≤ _)⟩)
  dsimp only [Pt.U, Pt.locs, Pt.cells, Pt.slots] at X1 l1 y1 z1 st1 hQ1
  subst l1 y1 z1
  obtain ⟨rfl, N1q, K1q, E1q, Fv1q, Fc1q, Fn1q, V1q⟩ := hQ1
  have N1 := Fr.app N0 N1q
  have K1 : Keep h0 T1.heap [a1, b] := Keep.trans K0 K1q (allS (Or.inl (List.mem_of_getElem? (i := 0) rfl)) (allS (Or.inl (List.mem_of_getElem? (i := 1) rfl)) all0))
  obtain ⟨fs, hr, hrun, hended, hW, hsame⟩ := X1.leave (v := some (.ref a1)) (fun h => by rw [Bd.returns] at h; cases h)
  refine ⟨_, _, pre0 _ ?_, hrun, hended, _, _, rfl, ?_, ⟨_, rfl⟩, hW, hsame.mono (by decide) (by decide)⟩
  · show Steps _ _ _ (s₁.setTop (mkF m 0 #[vR a1, vI p2] [])) _
    refine XS.aloadN X0.here hx rfl (hb hby d6_0) rfl rfl ?_
    show Steps _ _ _ (s₁.setTop (mkF m 1 #[vR a1, vI p2] [iR a1])) _
    refine XS.iloadN X0.here hx rfl (hb hby d6_1) rfl ?_
    show Steps _ _ _ (s₁.setTop (mkF m 2 #[vR a1, vI p2] [iI p2, iR a1])) _
    refine st1.trans ?_
    show Steps _ _ _ (T1.setTop (mkF m 5 #[vR a1, vI p2] [iR a1])) _
    refine XS.pop X1.here hx rfl (hb hby d6_5) rfl rfl ?_
    show Steps _ _ _ (T1.setTop (mkF m 6 #[vR a1, vI p2] [])) _
    refine XS.aloadN X1.here hx rfl (hb hby d6_6) rfl rfl ?_
    show Steps _ _ _ (T1.setTop (mkF m 7 #[vR a1, vI p2] [iR a1])) _
    jvm_step X1.here [X1.here.top, hx, (hb hby d6_7), X1.method', Bd.returns, Value.isRef, FieldType.isReference]
    first | (intro acts; rw [hr _ acts rfl rfl rfl]) | rw [hr _ _ rfl rfl rfl]
    exact Steps.refl _
  · show Q6_0 Z a1 p2 b kb nz c0 c1 c2 c3 c4 c5 c6 c7 cs h0 n0 _ T1.heap _
    exact ⟨rfl, N1, K1, E1q, Fv1q, Fc1q, Fn1q, V1q⟩
theorem own_nle1 {nz : Int32} (h : (1 : Int32) < nz) : ¬ nz < (2 : Int32) := by
  have e1 : (1 : Int32).toInt = 1 := rfl
  have e2 : (2 : Int32).toInt = 2 := rfl
  rw [Int32.lt_iff_toInt_lt] at *; omega
theorem ef_7_1 (m : MethodId) (x0 : Addr) (x1 : Int32) : entryFrame m #[(.ref x0), (.int x1)] 2 = mkF m 0 #[.val (.ref x0), .val (.int x1)] [] := by first | (simp [entryFrame, mkF, argsToLocals, Value.category]; done) | rfl
def Q7_1 (Z : State) (a1 : Addr) (p2 : Int32) (b : Addr) (kb : ClassId) (nz : Int32) (c0 : Int32) (c1 : Int32) (c2 : Int32) (c3 : Int32) (c4 : Int32) (c5 : Int32) (c6 : Int32) (c7 : Int32) (cs : Int32) (h0 : Heap) (n0 : Nat) (v : Option Value) (h : Heap) (L : List Loc) : Prop := v = some (.ref a1) ∧ Fr n0 L ∧ Keep h0 h [a1, b] ∧ Exa Z h a1 "java/lang/StringBuilder" ∧ Fld Z h a1 "java/lang/AbstractStringBuilder" "value" "[B" (.ref b) ∧ Fld Z h a1 "java/lang/AbstractStringBuilder" "coder" "B" (.int (0 : Int32)) ∧ Fld Z h a1 "java/lang/AbstractStringBuilder" "count" "I" (.int (2 : Int32)) ∧ Arv Z h b kb .byte nz [(.int c0), (.int (nar .byte p2.toInt8.toInt32)), (.int c2), (.int c3), (.int c4), (.int c5), (.int c6), (.int c7)] (.int (0 : Int32))
set_option maxRecDepth 65536 in
set_option maxHeartbeats 40000000 in
theorem rm7_1 (l : Launch) (Z : State) (a0 : Array Value) (hw : ∀ d ∈ tables_1, d.before a0 Z = true) (ws : List Jvm.Cond) (a1 : Addr) (p2 : Int32) (b : Addr) (kb : ClassId) (nz : Int32) (c0 : Int32) (c1 : Int32) (c2 : Int32) (c3 : Int32) (c4 : Int32) (c5 : Int32) (c6 : Int32) (c7 : Int32) (cs : Int32) (h0 : Heap) (n0 : Nat) (Z0 : n0 ≤ h0.size) (O0 : Old Z n0 h0) (E_a1 : Exa Z h0 a1 "java/lang/StringBuilder") (g_a1 : n0 ≤ a1) (g_b : n0 ≤ b) (F_v : Fld Z h0 a1 "java/lang/AbstractStringBuilder" "value" "[B" (.ref b)) (F_c : Fld Z h0 a1 "java/lang/AbstractStringBuilder" "coder" "B" (.int (0 : Int32))) (F_n : Fld Z h0 a1 "java/lang/AbstractStringBuilder" "count" "I" (.int (1 : Int32))) (V_b : Arv Z h0 b kb .byte nz [(.int c0), (.int c1), (.int c2), (.int c3), (.int c4), (.int c5), (.int c6), (.int c7)] (.int (0 : Int32))) (ne_a1_b : a1 ≠ b) (hi : (1 : Int32) < nz) (hl : ¬ (255 : Int32) < p2) (S_CS : Sta Z Z.heap "java/lang/String" "COMPACT_STRINGS" "Z" (.int cs)) (h_cs : ¬ cs = (0 : Int32)) :
    MetFree l (⟨"java/lang/AbstractStringBuilder", "append", "(C)Ljava/lang/AbstractStringBuilder;"⟩ : MethodName) (head1 (Jvm.Cond.code (⟨"java/lang/AbstractStringBuilder", "append", "(C)Ljava/lang/AbstractStringBuilder;"⟩ : MethodName) jdk_68_method_31_code 2 (some (.object "java/lang/AbstractStringBuilder")) :: ws) ({ frames := 1, cells := 0, slots := 0, locals := 14 } : Room)) (fun a U => a = #[(.ref a1), (.int p2)] ∧ Z.Warmed39 U.vm ∧ U.heap = h0) (fun _ _ _ _ _ => True) (fun _ U o U' => ∃ v L, o = .returned v ∧ Q7_1 Z a1 p2 b kb nz c0 c1 c2 c3 c4 c5 c6 c7 cs h0 n0 v U'.heap L ∧ FrameEnd U o U' L ({ frames := 1, cells := 0, slots := 0, locals := 14 } : Room).cells ({ frames := 1, cells := 0, slots := 0, locals := 14 } : Room).slots) := by
  refine MetFree.of_bodySF (plainFor_of_name pn_0) hisR ?_
  intro p e s m args below meth c s₁ Bd hml0 hP hK
  obtain ⟨rfl, hZ, hh⟩ := hP
  have hx := Bd.exec
  have hby := Bd.bytes
  have hml : c.maxLocals = 2 := hml0
  have hown : s.vm.findClass "java/lang/AbstractStringBuilder" = some m.cls := findClass_of_methodNamed Bd.named
  have hnm := (name_of_methodNamed Bd.named Bd.method).1
  have X0 : Stand p l e ({ frames := 1, cells := 0, slots := 0, locals := 14 } : Room) s m #[(.ref a1), (.int p2)] below meth c s₁ [] 0 0 := Stand.of_body Bd
  have e0 : s₁.heap = h0 := by rw [← hh, Bd.state]; rfl
  have N0 := Fr.nil n0
  have K0 := Keep.refl h0 [a1, b]
  have pre0 : ∀ t, Steps p.tables e below (s₁.setTop (mkF m 0 #[.val (.ref a1), .val (.int p2)] [])) t → Steps p.tables e below (s₁.setTop (entryFrame m #[(.ref a1), (.int p2)] 2)) t := fun t k => castTop (ef_7_1 m a1 p2) k
  obtain ⟨T1, X1, e1, st1⟩ := getF X0 hx hZ hown (host := "") (Or.inl (hw _ (List.mem_of_getElem? (i := 42) rfl))) Via.refl e0 F_n (g := (mkF m 2 #[vR a1, vI p2] [iR a1, iR a1])) rfl rfl (hb hby d7_2)
  obtain ⟨cq2, q2, q2'⟩ := E_a1.cell
  obtain ⟨_, _, ⟨T2, L2, k2, n2⟩, -, X2, ⟨Lc2, hQ2, l2, y2, z2⟩, st2⟩ := X1.privateBack hx (y := (⟨"java/lang/AbstractStringBuilder", "ensureCapacityInternal", "(I)V"⟩ : MethodName)) hown (mvT hZ (hw _ (List.mem_of_getElem? (i := 44) rfl))) (mvT hZ (hw _ (List.mem_of_getElem? (i := 45) rfl))) (own_selPriv2 (own_nf (z := (⟨"java/lang/AbstractStringBuilder", "ensureCapacityInternal", "(I)V"⟩ : MethodName)) rfl (notFace_of_selects (args := #[]) (mvT hZ (hw _ (List.mem_of_getElem? (i := 47) rfl)))) (mvT hZ (hw _ (List.mem_of_getElem? (i := 45) rfl)) (args := #[]))) (Cond.privateMethod_at (mvP hZ (hw _ (List.mem_of_getElem? (i := 46) rfl)) (args := #[]))) (mvT hZ (hw _ (List.mem_of_getElem? (i := 45) rfl))) (by decide)) (Cond.privateMethod_at (mvP hZ (hw _ (List.mem_of_getElem? (i := 46) rfl)) (args := #[]))) (mvT hZ (hw _ (List.mem_of_getElem? (i := 48) rfl))) (by decide) (backOf (W := 0) (rm8 l Z a0 hw [] a1 (2 : Int32) b kb nz c0 c1 c2 c3 c4 c5 c6 c7 h0 F_v F_c V_b (own_nle1 hi) (by decide)) hZ (hw _ (List.mem_of_getElem? (i := 48) rfl)) (hw _ (List.mem_of_getElem? (i := 16) rfl)) (by decide) (by decide)) (g := (mkF m 7 #[vR a1, vI p2] [iI 2, iR a1])) rfl (by rw [hml]; rfl) (Steps.refl _) (a := a1) (by rw [e1]; exact q2) q2' (argsL := [(.int (2 : Int32))]) (rest := []) (lenOf pd_0 rfl) rfl (by show 2 * 0 + _ ≤ _; exact Nat.le_of_eq rfl) (hb hby d7_7) (fun _ _ => ⟨rfl, e1, (by decide : 0 + 0 ≤ _), (by decide : 0 + 0 ≤ _)⟩)
  dsimp only [Pt.U, Pt.locs, Pt.cells, Pt.slots] at X2 l2 y2 z2 st2 hQ2
  subst l2 y2 z2
  obtain ⟨rfl, rfl, e2⟩ := hQ2
  try rw [List.append_nil] at X2
  obtain ⟨cq3, kq3, q3a, q3b, q3c⟩ := isOf hZ e2 E_a1
  obtain ⟨_, _, ⟨T3, L3, k3, n3⟩, -, X3, ⟨Lc3, hQ3, l3, y3, z3⟩, st3⟩ := X2.virtualBack hx (y := (⟨"java/lang/AbstractStringBuilder", "isLatin1", "()Z"⟩ : MethodName)) (z := (⟨"java/lang/AbstractStringBuilder", "isLatin1", "()Z"⟩ : MethodName)) hown (mvT hZ (hw _ (List.mem_of_getElem? (i := 49) rfl))) (mvT hZ (hw _ (List.mem_of_getElem? (i := 50) rfl))) (notFace_of_selects (args := #[]) (mvT hZ (hw _ (List.mem_of_getElem? (i := 52) rfl)))) (mvT hZ (hw _ (List.mem_of_getElem? (i := 52) rfl))) (mvT hZ (hw _ (List.mem_of_getElem? (i := 51) rfl))) (by decide) (backOf (W := 0) (rm9 l Z a0 hw [] a1 cs h0 n0 O0 F_c S_CS h_cs) hZ (hw _ (List.mem_of_getElem? (i := 53) rfl)) (hw _ (List.mem_of_getElem? (i := 16) rfl)) (by decide) (by decide)) q3a q3c (g := (mkF m 11 #[vR a1, vI p2] [iR a1])) rfl (by rw [hml]; rfl) (Steps.refl _) (argsL := []) (rest := []) (lenOf pd_1 rfl) rfl (by show 2 * 0 + _ ≤ _; exact Nat.le_of_eq rfl) (hb hby d7_11) (fun _ _ => ⟨rfl, e2, (by decide : 0 + 0 ≤ _), (by decide : 0 + 0 ≤ _)⟩)
  dsimp only [Pt.U, Pt.locs, Pt.cells, Pt.slots] at X3 l3 y3 z3 st3 hQ3
  subst l3 y3 z3
  obtain ⟨rfl, rfl, e3⟩ := hQ3
  try rw [List.append_nil] at X3
  obtain ⟨_, _, ⟨T4, L4, k4, n4⟩, -, X4, ⟨Lc4, hQ4, l4, y4, z4⟩, st4⟩ := Jvm.LawKit.callS X3 hx (y := (⟨"java/lang/StringLatin1", "canEncode", "(C)Z"⟩ : MethodName)) hown (mvT hZ (hw _ (List.mem_of_getElem? (i := 54) rfl))) (mvT hZ (hw _ (List.mem_of_getElem? (i := 55) rfl))) (mvT hZ (hw _ (List.mem_of_getElem? (i := 56) rfl))) (mvT hZ (hw _ (List.mem_of_getElem? (i := 57) rfl))) (by decide) (backOf (W := 0) (rm10 l Z a0 hw [] p2 h0 ) hZ (hw _ (List.mem_of_getElem? (i := 57) rfl)) (hw _ (List.mem_of_getElem? (i := 56) rfl)) (by decide) (by decide)) (g := (mkF m 18 #[vR a1, vI p2] [iI p2])) rfl (by rw [hml]; rfl) (argsL := [(.int p2)]) (rest := []) (lenOf pd_2 rfl) rfl (by show 2 * 0 + _ ≤ _; exact Nat.le_of_eq rfl) (hb hby d7_18) (fun _ _ => ⟨rfl, e3, (by decide : 0 + 0 ≤ _), (by decide : 0 + 0 ≤ _)⟩)
  dsimp only [Pt.U, Pt.locs, Pt.cells, Pt.slots] at X4 l4 y4 z4 st4 hQ4
  subst l4 y4 z4
  obtain ⟨rfl, rfl, e4⟩ := hQ4
  try rw [List.append_nil] at X4
  have hh5 : ¬ ((own_can p2) = (0 : Int32)) := (by unfold own_can; rw [if_neg hl]; decide)
  obtain ⟨T6, X6, e6, st6⟩ := getF X4 hx hZ hown (host := "") (Or.inl (hw _ (List.mem_of_getElem? (i := 24) rfl))) Via.refl e4 F_v (g := (mkF m 25 #[vR a1, vI p2] [iR a1])) rfl rfl (hb hby d7_25)
  obtain ⟨T7, X7, e7, st7⟩ := getF X6 hx hZ hown (host := "") (Or.inl (hw _ (List.mem_of_getElem? (i := 42) rfl))) Via.refl e6 F_n (g := (mkF m 30 #[vR a1, vI p2] [iR a1, iR a1, iR b])) rfl rfl (hb hby d7_30)
  obtain ⟨T8, h8, X8, e8, W8, st8⟩ := putF X7 hx hZ hown (host := "") (Or.inl (hw _ (List.mem_of_getElem? (i := 42) rfl))) Via.refl e7 F_n E_a1 (Or.inl (hw _ (List.mem_of_getElem? (i := 43) rfl))) (hw _ (List.mem_of_getElem? (i := 7) rfl)) (ty := .int) (by decide) rfl rfl (g := (mkF m 36 #[vR a1, vI p2] [iI 2, iR a1, iI 1, iR b])) rfl rfl (hb hby d7_36)
  have Fw8 := F_n.same W8
  have K8 : Keep h0 h8 [a1, b] := K0.wr W8 (Or.inl (List.mem_of_getElem? (i := 0) rfl))
  have N8 := Fr.snoc X8 N0 g_a1
  have fk9 := (V_b.other W8 (Ne.symm ne_a1_b))
  obtain ⟨cl10, Ar10, q10, S10, M10, H10, G10⟩ := id fk9
  have hin11 : ¬ ((1 : Int32) < 0 ∨ cl10.slots.size ≤ ((1 : Int32)).toNatClampNeg) := inb_of S10 ⟨by decide, hi⟩
  obtain ⟨T12, h12, X12, e12, W12, st12⟩ := stB X8 hx hZ e8 Ar10 (j := (1 : Int32)) hin11 (g := (mkF m 41 #[vR a1, vI p2] [iI p2.toInt8.toInt32, iI 1, iR b])) rfl rfl (hb hby d7_41)
  have V12 : Arv Z h12 b kb .byte nz [(.int c0), (.int (nar .byte p2.toInt8.toInt32)), (.int c2), (.int c3), (.int c4), (.int c5), (.int c6), (.int c7)] (.int (0 : Int32)) := Arv.set Ar10 q10 S10 M10 H10 G10 (fits_nar_byte _) W12 1 rfl (Nat.le_of_ble_eq_true rfl)
  have K12 : Keep h0 h12 [a1, b] := K8.wr W12 (Or.inl (List.mem_of_getElem? (i := 1) rfl))
  have N12 := Fr.snoc X12 N8 g_b
  obtain ⟨fs, hr, hrun, hended, hW, hsame⟩ := X12.leave (v := some (.ref a1)) (fun h => by rw [Bd.returns] at h; cases h)
  have fk13 := ((E_a1.wr W8).wr W12)
  have fk14 := ((F_v.other W8 (Or.inr (slot_ne (Or.inl (hw _ (List.mem_of_getElem? (i := 25) rfl))) (Or.inl (hw _ (List.mem_of_getElem? (i := 43) rfl))) (by decide) (t := (.array .byte)) (t' := .int) (by decide) (by decide)))).other W12 (Or.inl ne_a1_b))
  have fk15 := ((F_c.other W8 (Or.inr (slot_ne (Or.inl (hw _ (List.mem_of_getElem? (i := 27) rfl))) (Or.inl (hw _ (List.mem_of_getElem? (i := 43) rfl))) (by decide) (t := .byte) (t' := .int) (by decide) (by decide)))).other W12 (Or.inl ne_a1_b))
  have fk16 := (Fw8.other W12 (Or.inl ne_a1_b))
  refine ⟨_, _, pre0 _ ?_, hrun, hended, _, _, rfl, ?_, ⟨_, rfl⟩, hW, hsame.mono (by decide) (by decide)⟩
  · show Steps _ _ _ (s₁.setTop (mkF m 0 #[vR a1, vI p2] [])) _
    refine XS.aloadN X0.here hx rfl (hb hby d7_0) rfl rfl ?_
    show Steps _ _ _ (s₁.setTop (mkF m 1 #[vR a1, vI p2] [iR a1])) _
    refine XS.aloadN X0.here hx rfl (hb hby d7_1) rfl rfl ?_
    show Steps _ _ _ (s₁.setTop (mkF m 2 #[vR a1, vI p2] [iR a1, iR a1])) _
    refine st1 _ ?_
    show Steps _ _ _ (T1.setTop (mkF m 5 #[vR a1, vI p2] [iI 1, iR a1])) _
    refine XS.iconst X1.here hx rfl (hb hby d7_5) ?_
    show Steps _ _ _ (T1.setTop (mkF m 6 #[vR a1, vI p2] [iI 1, iI 1, iR a1])) _
    refine XS.iadd X1.here hx rfl (hb hby d7_6) rfl ?_
    rw [(by decide : ((1 : Int32) + (1 : Int32)) = (2 : Int32))]
    show Steps _ _ _ (T1.setTop (mkF m 7 #[vR a1, vI p2] [iI 2, iR a1])) _
    refine st2.trans ?_
    show Steps _ _ _ (T2.setTop (mkF m 10 #[vR a1, vI p2] [])) _
    refine XS.aloadN X2.here hx rfl (hb hby d7_10) rfl rfl ?_
    show Steps _ _ _ (T2.setTop (mkF m 11 #[vR a1, vI p2] [iR a1])) _
    refine st3.trans ?_
    show Steps _ _ _ (T3.setTop (mkF m 14 #[vR a1, vI p2] [iI 1])) _
    refine XS.ifNo X3.here hx rfl (hb hby d7_14) rfl ((if0 _ _).trans (feq (by decide : ¬ ((1 : Int32) = (0 : Int32)))).1) ?_
    show Steps _ _ _ (T3.setTop (mkF m 17 #[vR a1, vI p2] [])) _
    refine XS.iloadN X3.here hx rfl (hb hby d7_17) rfl ?_
    show Steps _ _ _ (T3.setTop (mkF m 18 #[vR a1, vI p2] [iI p2])) _
    refine st4 _ ?_
    show Steps _ _ _ (T4.setTop (mkF m 21 #[vR a1, vI p2] [iI (own_can p2)])) _
    refine XS.ifNo X4.here hx rfl (hb hby d7_21) rfl ((if0 _ _).trans (feq hh5).1) ?_
    show Steps _ _ _ (T4.setTop (mkF m 24 #[vR a1, vI p2] [])) _
    refine XS.aloadN X4.here hx rfl (hb hby d7_24) rfl rfl ?_
    show Steps _ _ _ (T4.setTop (mkF m 25 #[vR a1, vI p2] [iR a1])) _
    refine st6 _ ?_
    show Steps _ _ _ (T6.setTop (mkF m 28 #[vR a1, vI p2] [iR b])) _
    refine XS.aloadN X6.here hx rfl (hb hby d7_28) rfl rfl ?_
    show Steps _ _ _ (T6.setTop (mkF m 29 #[vR a1, vI p2] [iR a1, iR b])) _
    refine XS.dup X6.here hx rfl (hb hby d7_29) rfl rfl ?_
    show Steps _ _ _ (T6.setTop (mkF m 30 #[vR a1, vI p2] [iR a1, iR a1, iR b])) _
    refine st7 _ ?_
    show Steps _ _ _ (T7.setTop (mkF m 33 #[vR a1, vI p2] [iI 1, iR a1, iR b])) _
    refine XS.dupX1 X7.here hx rfl (hb hby d7_33) rfl rfl rfl ?_
    show Steps _ _ _ (T7.setTop (mkF m 34 #[vR a1, vI p2] [iI 1, iR a1, iI 1, iR b])) _
    refine XS.iconst X7.here hx rfl (hb hby d7_34) ?_
    show Steps _ _ _ (T7.setTop (mkF m 35 #[vR a1, vI p2] [iI 1, iI 1, iR a1, iI 1, iR b])) _
    refine XS.iadd X7.here hx rfl (hb hby d7_35) rfl ?_
    rw [(by decide : ((1 : Int32) + (1 : Int32)) = (2 : Int32))]
    show Steps _ _ _ (T7.setTop (mkF m 36 #[vR a1, vI p2] [iI 2, iR a1, iI 1, iR b])) _
    refine st8 _ ?_
    show Steps _ _ _ (T8.setTop (mkF m 39 #[vR a1, vI p2] [iI 1, iR b])) _
    refine XS.iloadN X8.here hx rfl (hb hby d7_39) rfl ?_
    show Steps _ _ _ (T8.setTop (mkF m 40 #[vR a1, vI p2] [iI p2, iI 1, iR b])) _
    refine XS.i2b X8.here hx rfl (hb hby d7_40) rfl ?_
    show Steps _ _ _ (T8.setTop (mkF m 41 #[vR a1, vI p2] [iI p2.toInt8.toInt32, iI 1, iR b])) _
    refine st12 _ ?_
    show Steps _ _ _ (T12.setTop (mkF m 42 #[vR a1, vI p2] [])) _
    refine XS.goto X12.here hx rfl (pc0 := 42) (pc' := 75) rfl (hb hby d7_42) (by decide) (by decide) ?_
    show Steps _ _ _ (T12.setTop (mkF m 75 #[vR a1, vI p2] [])) _
    refine XS.aloadN X12.here hx rfl (hb hby d7_75) rfl rfl ?_
    show Steps _ _ _ (T12.setTop (mkF m 76 #[vR a1, vI p2] [iR a1])) _
    jvm_step X12.here [X12.here.top, hx, (hb hby d7_76), X12.method', Bd.returns, Value.isRef, FieldType.isReference]
    first | (intro acts; rw [hr _ acts rfl rfl rfl]) | rw [hr _ _ rfl rfl rfl]
    exact Steps.refl _
  · show Q7_1 Z a1 p2 b kb nz c0 c1 c2 c3 c4 c5 c6 c7 cs h0 n0 _ T12.heap _
    rw [e12]
    exact ⟨rfl, N12, K12, fk13, fk14, fk15, fk16, V12⟩
theorem ef_6_1 (m : MethodId) (x0 : Addr) (x1 : Int32) : entryFrame m #[(.ref x0), (.int x1)] 2 = mkF m 0 #[.val (.ref x0), .val (.int x1)] [] := by first | (simp [entryFrame, mkF, argsToLocals, Value.category]; done) | rfl
def Q6_1 (Z : State) (a1 : Addr) (p2 : Int32) (b : Addr) (kb : ClassId) (nz : Int32) (c0 : Int32) (c1 : Int32) (c2 : Int32) (c3 : Int32) (c4 : Int32) (c5 : Int32) (c6 : Int32) (c7 : Int32) (cs : Int32) (h0 : Heap) (n0 : Nat) (v : Option Value) (h : Heap) (L : List Loc) : Prop := v = some (.ref a1) ∧ Fr n0 L ∧ Keep h0 h [a1, b] ∧ Exa Z h a1 "java/lang/StringBuilder" ∧ Fld Z h a1 "java/lang/AbstractStringBuilder" "value" "[B" (.ref b) ∧ Fld Z h a1 "java/lang/AbstractStringBuilder" "coder" "B" (.int (0 : Int32)) ∧ Fld Z h a1 "java/lang/AbstractStringBuilder" "count" "I" (.int (2 : Int32)) ∧ Arv Z h b kb .byte nz [(.int c0), (.int (nar .byte p2.toInt8.toInt32)), (.int c2), (.int c3), (.int c4), (.int c5), (.int c6), (.int c7)] (.int (0 : Int32))
set_option maxRecDepth 65536 in
set_option maxHeartbeats 40000000 in
theorem rm6_1 (l : Launch) (Z : State) (a0 : Array Value) (hw : ∀ d ∈ tables_1, d.before a0 Z = true) (ws : List Jvm.Cond) (a1 : Addr) (p2 : Int32) (b : Addr) (kb : ClassId) (nz : Int32) (c0 : Int32) (c1 : Int32) (c2 : Int32) (c3 : Int32) (c4 : Int32) (c5 : Int32) (c6 : Int32) (c7 : Int32) (cs : Int32) (h0 : Heap) (n0 : Nat) (Z0 : n0 ≤ h0.size) (O0 : Old Z n0 h0) (E_a1 : Exa Z h0 a1 "java/lang/StringBuilder") (g_a1 : n0 ≤ a1) (g_b : n0 ≤ b) (F_v : Fld Z h0 a1 "java/lang/AbstractStringBuilder" "value" "[B" (.ref b)) (F_c : Fld Z h0 a1 "java/lang/AbstractStringBuilder" "coder" "B" (.int (0 : Int32))) (F_n : Fld Z h0 a1 "java/lang/AbstractStringBuilder" "count" "I" (.int (1 : Int32))) (V_b : Arv Z h0 b kb .byte nz [(.int c0), (.int c1), (.int c2), (.int c3), (.int c4), (.int c5), (.int c6), (.int c7)] (.int (0 : Int32))) (ne_a1_b : a1 ≠ b) (hi : (1 : Int32) < nz) (hl : ¬ (255 : Int32) < p2) (S_CS : Sta Z Z.heap "java/lang/String" "COMPACT_STRINGS" "Z" (.int cs)) (h_cs : ¬ cs = (0 : Int32)) :
    MetFree l (⟨"java/lang/StringBuilder", "append", "(C)Ljava/lang/StringBuilder;"⟩ : MethodName) (head1 (Jvm.Cond.code (⟨"java/lang/StringBuilder", "append", "(C)Ljava/lang/StringBuilder;"⟩ : MethodName) jdk_67_method_14_code 2 (some (.object "java/lang/StringBuilder")) :: ws) ({ frames := 2, cells := 0, slots := 0, locals := 27 } : Room)) (fun a U => a = #[(.ref a1), (.int p2)] ∧ Z.Warmed39 U.vm ∧ U.heap = h0) (fun _ _ _ _ _ => True) (fun _ U o U' => ∃ v L, o = .returned v ∧ Q6_1 Z a1 p2 b kb nz c0 c1 c2 c3 c4 c5 c6 c7 cs h0 n0 v U'.heap L ∧ FrameEnd U o U' L ({ frames := 2, cells := 0, slots := 0, locals := 27 } : Room).cells ({ frames := 2, cells := 0, slots := 0, locals := 27 } : Room).slots) := by
  refine MetFree.of_bodySF (plainFor_of_name pn_1) hisR ?_
  intro p e s m args below meth c s₁ Bd hml0 hP hK
  obtain ⟨rfl, hZ, hh⟩ := hP
  have hx := Bd.exec
  have hby := Bd.bytes
  have hml : c.maxLocals = 2 := hml0
  have hown : s.vm.findClass "java/lang/StringBuilder" = some m.cls := findClass_of_methodNamed Bd.named
  have hnm := (name_of_methodNamed Bd.named Bd.method).1
  have X0 : Stand p l e ({ frames := 2, cells := 0, slots := 0, locals := 27 } : Room) s m #[(.ref a1), (.int p2)] below meth c s₁ [] 0 0 := Stand.of_body Bd
  have e0 : s₁.heap = h0 := by rw [← hh, Bd.state]; rfl
  have N0 := Fr.nil n0
  have K0 := Keep.refl h0 [a1, b]
  have pre0 : ∀ t, Steps p.tables e below (s₁.setTop (mkF m 0 #[.val (.ref a1), .val (.int p2)] [])) t → Steps p.tables e below (s₁.setTop (entryFrame m #[(.ref a1), (.int p2)] 2)) t := fun t k => castTop (ef_6_1 m a1 p2) k
  obtain ⟨_, _, ⟨T1, L1, k1, n1⟩, -, X1, ⟨Lc1, hQ1, l1, y1, z1⟩, st1⟩ := superBack X0 hx hZ (y := (⟨"java/lang/AbstractStringBuilder", "append", "(C)Ljava/lang/AbstractStringBuilder;"⟩ : MethodName)) hown (hw _ (List.mem_of_getElem? (i := 37) rfl)) (own_same (hw _ (List.mem_of_getElem? (i := 38) rfl)) (own_nf (z := (⟨"java/lang/AbstractStringBuilder", "ensureCapacityInternal", "(I)V"⟩ : MethodName)) rfl (notFace_of_selects (hw _ (List.mem_of_getElem? (i := 47) rfl))) (hw _ (List.mem_of_getElem? (i := 45) rfl))) (by decide)) (hw _ (List.mem_of_getElem? (i := 38) rfl)) (hw _ (List.mem_of_getElem? (i := 39) rfl)) (by decide) (backOf (W := 0) (rm7_1 l Z a0 hw [] a1 p2 b kb nz c0 c1 c2 c3 c4 c5 c6 c7 cs h0 n0 (Nat.le_trans Z0 K0.1) O0 E_a1 g_a1 g_b F_v F_c F_n V_b ne_a1_b hi hl S_CS h_cs) hZ (hw _ (List.mem_of_getElem? (i := 41) rfl)) (hw _ (List.mem_of_getElem? (i := 16) rfl)) (by decide) (by decide)) e0 (Ins.self E_a1) (g := (mkF m 2 #[vR a1, vI p2] [iI p2, iR a1])) rfl (by rw [hml]; rfl) (hw _ (List.mem_of_getElem? (i := 41) rfl)) (argsL := [(.int p2)]) (rest := []) (lenOf pd_3 rfl) rfl (by show 2 * 0 + _ ≤ _; exact Nat.le_of_eq rfl) (hb hby d6_2) (fun _ _ => ⟨rfl, e0, (by decide : 0 + 0 ≤ _), (by decide : 0 + 0 ≤ _)⟩)
  dsimp only [Pt.U, Pt.locs, Pt.cells, Pt.slots] at X1 l1 y1 z1 st1 hQ1
  subst l1 y1 z1
  obtain ⟨rfl, N1q, K1q, E1q, Fv1q, Fc1q, Fn1q, V1q⟩ := hQ1
  have N1 := Fr.app N0 N1q
  have K1 : Keep h0 T1.heap [a1, b] := Keep.trans K0 K1q (allS (Or.inl (List.mem_of_getElem? (i := 0) rfl)) (allS (Or.inl (List.mem_of_getElem? (i := 1) rfl)) all0))
  obtain ⟨fs, hr, hrun, hended, hW, hsame⟩ := X1.leave (v := some (.ref a1)) (fun h => by rw [Bd.returns] at h; cases h)
  refine ⟨_, _, pre0 _ ?_, hrun, hended, _, _, rfl, ?_, ⟨_, rfl⟩, hW, hsame.mono (by decide) (by decide)⟩
  · show Steps _ _ _ (s₁.setTop (mkF m 0 #[vR a1, vI p2] [])) _
    refine XS.aloadN X0.here hx rfl (hb hby d6_0) rfl rfl ?_
    show Steps _ _ _ (s₁.setTop (mkF m 1 #[vR a1, vI p2] [iR a1])) _
    refine XS.iloadN X0.here hx rfl (hb hby d6_1) rfl ?_
    show Steps _ _ _ (s₁.setTop (mkF m 2 #[vR a1, vI p2] [iI p2, iR a1])) _
    refine st1.trans ?_
    show Steps _ _ _ (T1.setTop (mkF m 5 #[vR a1, vI p2] [iR a1])) _
    refine XS.pop X1.here hx rfl (hb hby d6_5) rfl rfl ?_
    show Steps _ _ _ (T1.setTop (mkF m 6 #[vR a1, vI p2] [])) _
    refine XS.aloadN X1.here hx rfl (hb hby d6_6) rfl rfl ?_
    show Steps _ _ _ (T1.setTop (mkF m 7 #[vR a1, vI p2] [iR a1])) _
    jvm_step X1.here [X1.here.top, hx, (hb hby d6_7), X1.method', Bd.returns, Value.isRef, FieldType.isReference]
    first | (intro acts; rw [hr _ acts rfl rfl rfl]) | rw [hr _ _ rfl rfl rfl]
    exact Steps.refl _
  · show Q6_1 Z a1 p2 b kb nz c0 c1 c2 c3 c4 c5 c6 c7 cs h0 n0 _ T1.heap _
    exact ⟨rfl, N1, K1, E1q, Fv1q, Fc1q, Fn1q, V1q⟩
theorem own_nle2 {nz : Int32} (h : (2 : Int32) < nz) : ¬ nz < (3 : Int32) := by
  have e1 : (2 : Int32).toInt = 2 := rfl
  have e2 : (3 : Int32).toInt = 3 := rfl
  rw [Int32.lt_iff_toInt_lt] at *; omega
theorem ef_7_2 (m : MethodId) (x0 : Addr) (x1 : Int32) : entryFrame m #[(.ref x0), (.int x1)] 2 = mkF m 0 #[.val (.ref x0), .val (.int x1)] [] := by first | (simp [entryFrame, mkF, argsToLocals, Value.category]; done) | rfl
def Q7_2 (Z : State) (a1 : Addr) (p2 : Int32) (b : Addr) (kb : ClassId) (nz : Int32) (c0 : Int32) (c1 : Int32) (c2 : Int32) (c3 : Int32) (c4 : Int32) (c5 : Int32) (c6 : Int32) (c7 : Int32) (cs : Int32) (h0 : Heap) (n0 : Nat) (v : Option Value) (h : Heap) (L : List Loc) : Prop := v = some (.ref a1) ∧ Fr n0 L ∧ Keep h0 h [a1, b] ∧ Exa Z h a1 "java/lang/StringBuilder" ∧ Fld Z h a1 "java/lang/AbstractStringBuilder" "value" "[B" (.ref b) ∧ Fld Z h a1 "java/lang/AbstractStringBuilder" "coder" "B" (.int (0 : Int32)) ∧ Fld Z h a1 "java/lang/AbstractStringBuilder" "count" "I" (.int (3 : Int32)) ∧ Arv Z h b kb .byte nz [(.int c0), (.int c1), (.int (nar .byte p2.toInt8.toInt32)), (.int c3), (.int c4), (.int c5), (.int c6), (.int c7)] (.int (0 : Int32))
set_option maxRecDepth 65536 in
set_option maxHeartbeats 40000000 in
theorem rm7_2 (l : Launch) (Z : State) (a0 : Array Value) (hw : ∀ d ∈ tables_1, d.before a0 Z = true) (ws : List Jvm.Cond) (a1 : Addr) (p2 : Int32) (b : Addr) (kb : ClassId) (nz : Int32) (c0 : Int32) (c1 : Int32) (c2 : Int32) (c3 : Int32) (c4 : Int32) (c5 : Int32) (c6 : Int32) (c7 : Int32) (cs : Int32) (h0 : Heap) (n0 : Nat) (Z0 : n0 ≤ h0.size) (O0 : Old Z n0 h0) (E_a1 : Exa Z h0 a1 "java/lang/StringBuilder") (g_a1 : n0 ≤ a1) (g_b : n0 ≤ b) (F_v : Fld Z h0 a1 "java/lang/AbstractStringBuilder" "value" "[B" (.ref b)) (F_c : Fld Z h0 a1 "java/lang/AbstractStringBuilder" "coder" "B" (.int (0 : Int32))) (F_n : Fld Z h0 a1 "java/lang/AbstractStringBuilder" "count" "I" (.int (2 : Int32))) (V_b : Arv Z h0 b kb .byte nz [(.int c0), (.int c1), (.int c2), (.int c3), (.int c4), (.int c5), (.int c6), (.int c7)] (.int (0 : Int32))) (ne_a1_b : a1 ≠ b) (hi : (2 : Int32) < nz) (hl : ¬ (255 : Int32) < p2) (S_CS : Sta Z Z.heap "java/lang/String" "COMPACT_STRINGS" "Z" (.int cs)) (h_cs : ¬ cs = (0 : Int32)) :
    MetFree l (⟨"java/lang/AbstractStringBuilder", "append", "(C)Ljava/lang/AbstractStringBuilder;"⟩ : MethodName) (head1 (Jvm.Cond.code (⟨"java/lang/AbstractStringBuilder", "append", "(C)Ljava/lang/AbstractStringBuilder;"⟩ : MethodName) jdk_68_method_31_code 2 (some (.object "java/lang/AbstractStringBuilder")) :: ws) ({ frames := 1, cells := 0, slots := 0, locals := 14 } : Room)) (fun a U => a = #[(.ref a1), (.int p2)] ∧ Z.Warmed39 U.vm ∧ U.heap = h0) (fun _ _ _ _ _ => True) (fun _ U o U' => ∃ v L, o = .returned v ∧ Q7_2 Z a1 p2 b kb nz c0 c1 c2 c3 c4 c5 c6 c7 cs h0 n0 v U'.heap L ∧ FrameEnd U o U' L ({ frames := 1, cells := 0, slots := 0, locals := 14 } : Room).cells ({ frames := 1, cells := 0, slots := 0, locals := 14 } : Room).slots) := by
  refine MetFree.of_bodySF (plainFor_of_name pn_0) hisR ?_
  intro p e s m args below meth c s₁ Bd hml0 hP hK
  obtain ⟨rfl, hZ, hh⟩ := hP
  have hx := Bd.exec
  have hby := Bd.bytes
  have hml : c.maxLocals = 2 := hml0
  have hown : s.vm.findClass "java/lang/AbstractStringBuilder" = some m.cls := findClass_of_methodNamed Bd.named
  have hnm := (name_of_methodNamed Bd.named Bd.method).1
  have X0 : Stand p l e ({ frames := 1, cells := 0, slots := 0, locals := 14 } : Room) s m #[(.ref a1), (.int p2)] below meth c s₁ [] 0 0 := Stand.of_body Bd
  have e0 : s₁.heap = h0 := by rw [← hh, Bd.state]; rfl
  have N0 := Fr.nil n0
  have K0 := Keep.refl h0 [a1, b]
  have pre0 : ∀ t, Steps p.tables e below (s₁.setTop (mkF m 0 #[.val (.ref a1), .val (.int p2)] [])) t → Steps p.tables e below (s₁.setTop (entryFrame m #[(.ref a1), (.int p2)] 2)) t := fun t k => castTop (ef_7_2 m a1 p2) k
  obtain ⟨T1, X1, e1, st1⟩ := getF X0 hx hZ hown (host := "") (Or.inl (hw _ (List.mem_of_getElem? (i := 42) rfl))) Via.refl e0 F_n (g := (mkF m 2 #[vR a1, vI p2] [iR a1, iR a1])) rfl rfl (hb hby d7_2)
  obtain ⟨cq2, q2, q2'⟩ := E_a1.cell
  obtain ⟨_, _, ⟨T2, L2, k2, n2⟩, -, X2, ⟨Lc2, hQ2, l2, y2, z2⟩, st2⟩ := X1.privateBack hx (y := (⟨"java/lang/AbstractStringBuilder", "ensureCapacityInternal", "(I)V"⟩ : MethodName)) hown (mvT hZ (hw _ (List.mem_of_getElem? (i := 44) rfl))) (mvT hZ (hw _ (List.mem_of_getElem? (i := 45) rfl))) (own_selPriv2 (own_nf (z := (⟨"java/lang/AbstractStringBuilder", "ensureCapacityInternal", "(I)V"⟩ : MethodName)) rfl (notFace_of_selects (args := #[]) (mvT hZ (hw _ (List.mem_of_getElem? (i := 47) rfl)))) (mvT hZ (hw _ (List.mem_of_getElem? (i := 45) rfl)) (args := #[]))) (Cond.privateMethod_at (mvP hZ (hw _ (List.mem_of_getElem? (i := 46) rfl)) (args := #[]))) (mvT hZ (hw _ (List.mem_of_getElem? (i := 45) rfl))) (by decide)) (Cond.privateMethod_at (mvP hZ (hw _ (List.mem_of_getElem? (i := 46) rfl)) (args := #[]))) (mvT hZ (hw _ (List.mem_of_getElem? (i := 48) rfl))) (by decide) (backOf (W := 0) (rm8 l Z a0 hw [] a1 (3 : Int32) b kb nz c0 c1 c2 c3 c4 c5 c6 c7 h0 F_v F_c V_b (own_nle2 hi) (by decide)) hZ (hw _ (List.mem_of_getElem? (i := 48) rfl)) (hw _ (List.mem_of_getElem? (i := 16) rfl)) (by decide) (by decide)) (g := (mkF m 7 #[vR a1, vI p2] [iI 3, iR a1])) rfl (by rw [hml]; rfl) (Steps.refl _) (a := a1) (by rw [e1]; exact q2) q2' (argsL := [(.int (3 : Int32))]) (rest := []) (lenOf pd_0 rfl) rfl (by show 2 * 0 + _ ≤ _; exact Nat.le_of_eq rfl) (hb hby d7_7) (fun _ _ => ⟨rfl, e1, (by decide : 0 + 0 ≤ _), (by decide : 0 + 0 ≤ _)⟩)
  dsimp only [Pt.U, Pt.locs, Pt.cells, Pt.slots] at X2 l2 y2 z2 st2 hQ2
  subst l2 y2 z2
  obtain ⟨rfl, rfl, e2⟩ := hQ2
  try rw [List.append_nil] at X2
  obtain ⟨cq3, kq3, q3a, q3b, q3c⟩ := isOf hZ e2 E_a1
  obtain ⟨_, _, ⟨T3, L3, k3, n3⟩, -, X3, ⟨Lc3, hQ3, l3, y3, z3⟩, st3⟩ := X2.virtualBack hx (y := (⟨"java/lang/AbstractStringBuilder", "isLatin1", "()Z"⟩ : MethodName)) (z := (⟨"java/lang/AbstractStringBuilder", "isLatin1", "()Z"⟩ : MethodName)) hown (mvT hZ (hw _ (List.mem_of_getElem? (i := 49) rfl))) (mvT hZ (hw _ (List.mem_of_getElem? (i := 50) rfl))) (notFace_of_selects (args := #[]) (mvT hZ (hw _ (List.mem_of_getElem? (i := 52) rfl)))) (mvT hZ (hw _ (List.mem_of_getElem? (i := 52) rfl))) (mvT hZ (hw _ (List.mem_of_getElem? (i := 51) rfl))) (by decide) (backOf (W := 0) (rm9 l Z a0 hw [] a1 cs h0 n0 O0 F_c S_CS h_cs) hZ (hw _ (List.mem_of_getElem? (i := 53) rfl)) (hw _ (List.mem_of_getElem? (i := 16) rfl)) (by decide) (by decide)) q3a q3c (g := (mkF m 11 #[vR a1, vI p2] [iR a1])) rfl (by rw [hml]; rfl) (Steps.refl _) (argsL := []) (rest := []) (lenOf pd_1 rfl) rfl (by show 2 * 0 + _ ≤ _; exact Nat.le_of_eq rfl) (hb hby d7_11) (fun _ _ => ⟨rfl, e2, (by decide : 0 + 0 ≤ _), (by decide : 0 + 0 ≤ _)⟩)
  dsimp only [Pt.U, Pt.locs, Pt.cells, Pt.slots] at X3 l3 y3 z3 st3 hQ3
  subst l3 y3 z3
  obtain ⟨rfl, rfl, e3⟩ := hQ3
  try rw [List.append_nil] at X3
  obtain ⟨_, _, ⟨T4, L4, k4, n4⟩, -, X4, ⟨Lc4, hQ4, l4, y4, z4⟩, st4⟩ := Jvm.LawKit.callS X3 hx (y := (⟨"java/lang/StringLatin1", "canEncode", "(C)Z"⟩ : MethodName)) hown (mvT hZ (hw _ (List.mem_of_getElem? (i := 54) rfl))) (mvT hZ (hw _ (List.mem_of_getElem? (i := 55) rfl))) (mvT hZ (hw _ (List.mem_of_getElem? (i := 56) rfl))) (mvT hZ (hw _ (List.mem_of_getElem? (i := 57) rfl))) (by decide) (backOf (W := 0) (rm10 l Z a0 hw [] p2 h0 ) hZ (hw _ (List.mem_of_getElem? (i := 57) rfl)) (hw _ (List.mem_of_getElem? (i := 56) rfl)) (by decide) (by decide)) (g := (mkF m 18 #[vR a1, vI p2] [iI p2])) rfl (by rw [hml]; rfl) (argsL := [(.int p2)]) (rest := []) (lenOf pd_2 rfl) rfl (by show 2 * 0 + _ ≤ _; exact Nat.le_of_eq rfl) (hb hby d7_18) (fun _ _ => ⟨rfl, e3, (by decide : 0 + 0 ≤ _), (by decide : 0 + 0 ≤ _)⟩)
  dsimp only [Pt.U, Pt.locs, Pt.cells, Pt.slots] at X4 l4 y4 z4 st4 hQ4
  subst l4 y4 z4
  obtain ⟨rfl, rfl, e4⟩ := hQ4
  try rw [List.append_nil] at X4
  have hh5 : ¬ ((own_can p2) = (0 : Int32)) := (by unfold own_can; rw [if_neg hl]; decide)
  obtain ⟨T6, X6, e6, st6⟩ := getF X4 hx hZ hown (host := "") (Or.inl (hw _ (List.mem_of_getElem? (i := 24) rfl))) Via.refl e4 F_v (g := (mkF m 25 #[vR a1, vI p2] [iR a1])) rfl rfl (hb hby d7_25)
  obtain ⟨T7, X7, e7, st7⟩ := getF X6 hx hZ hown (host := "") (Or.inl (hw _ (List.mem_of_getElem? (i := 42) rfl))) Via.refl e6 F_n (g := (mkF m 30 #[vR a1, vI p2] [iR a1, iR a1, iR b])) rfl rfl (hb hby d7_30)
  obtain ⟨T8, h8, X8, e8, W8, st8⟩ := putF X7 hx hZ hown (host := "") (Or.inl (hw _ (List.mem_of_getElem? (i := 42) rfl))) Via.refl e7 F_n E_a1 (Or.inl (hw _ (List.mem_of_getElem? (i := 43) rfl))) (hw _ (List.mem_of_getElem? (i := 7) rfl)) (ty := .int) (by decide) rfl rfl (g := (mkF m 36 #[vR a1, vI p2] [iI 3, iR a1, iI 2, iR b])) rfl rfl (hb hby d7_36)
  have Fw8 := F_n.same W8
  have K8 : Keep h0 h8 [a1, b] := K0.wr W8 (Or.inl (List.mem_of_getElem? (i := 0) rfl))
  have N8 := Fr.snoc X8 N0 g_a1
  have fk9 := (V_b.other W8 (Ne.symm ne_a1_b))
  obtain ⟨cl10, Ar10, q10, S10, M10, H10, G10⟩ := id fk9
  have hin11 : ¬ ((2 : Int32) < 0 ∨ cl10.slots.size ≤ ((2 : Int32)).toNatClampNeg) := inb_of S10 ⟨by decide, hi⟩
  obtain ⟨T12, h12, X12, e12, W12, st12⟩ := stB X8 hx hZ e8 Ar10 (j := (2 : Int32)) hin11 (g := (mkF m 41 #[vR a1, vI p2] [iI p2.toInt8.toInt32, iI 2, iR b])) rfl rfl (hb hby d7_41)
  have V12 : Arv Z h12 b kb .byte nz [(.int c0), (.int c1), (.int (nar .byte p2.toInt8.toInt32)), (.int c3), (.int c4), (.int c5), (.int c6), (.int c7)] (.int (0 : Int32)) := Arv.set Ar10 q10 S10 M10 H10 G10 (fits_nar_byte _) W12 2 rfl (Nat.le_of_ble_eq_true rfl)
  have K12 : Keep h0 h12 [a1, b] := K8.wr W12 (Or.inl (List.mem_of_getElem? (i := 1) rfl))
  have N12 := Fr.snoc X12 N8 g_b
  obtain ⟨fs, hr, hrun, hended, hW, hsame⟩ := X12.leave (v := some (.ref a1)) (fun h => by rw [Bd.returns] at h; cases h)
  have fk13 := ((E_a1.wr W8).wr W12)
  have fk14 := ((F_v.other W8 (Or.inr (slot_ne (Or.inl (hw _ (List.mem_of_getElem? (i := 25) rfl))) (Or.inl (hw _ (List.mem_of_getElem? (i := 43) rfl))) (by decide) (t := (.array .byte)) (t' := .int) (by decide) (by decide)))).other W12 (Or.inl ne_a1_b))
  have fk15 := ((F_c.other W8 (Or.inr (slot_ne (Or.inl (hw _ (List.mem_of_getElem? (i := 27) rfl))) (Or.inl (hw _ (List.mem_of_getElem? (i := 43) rfl))) (by decide) (t := .byte) (t' := .int) (by decide) (by decide)))).other W12 (Or.inl ne_a1_b))
  have fk16 := (Fw8.other W12 (Or.inl ne_a1_b))
  refine ⟨_, _, pre0 _ ?_, hrun, hended, _, _, rfl, ?_, ⟨_, rfl⟩, hW, hsame.mono (by decide) (by decide)⟩
  · show Steps _ _ _ (s₁.setTop (mkF m 0 #[vR a1, vI p2] [])) _
    refine XS.aloadN X0.here hx rfl (hb hby d7_0) rfl rfl ?_
    show Steps _ _ _ (s₁.setTop (mkF m 1 #[vR a1, vI p2] [iR a1])) _
    refine XS.aloadN X0.here hx rfl (hb hby d7_1) rfl rfl ?_
    show Steps _ _ _ (s₁.setTop (mkF m 2 #[vR a1, vI p2] [iR a1, iR a1])) _
    refine st1 _ ?_
    show Steps _ _ _ (T1.setTop (mkF m 5 #[vR a1, vI p2] [iI 2, iR a1])) _
    refine XS.iconst X1.here hx rfl (hb hby d7_5) ?_
    show Steps _ _ _ (T1.setTop (mkF m 6 #[vR a1, vI p2] [iI 1, iI 2, iR a1])) _
    refine XS.iadd X1.here hx rfl (hb hby d7_6) rfl ?_
    rw [(by decide : ((2 : Int32) + (1 : Int32)) = (3 : Int32))]
    show Steps _ _ _ (T1.setTop (mkF m 7 #[vR a1, vI p2] [iI 3, iR a1])) _
    refine st2.trans ?_
    show Steps _ _ _ (T2.setTop (mkF m 10 #[vR a1, vI p2] [])) _
    refine XS.aloadN X2.here hx rfl (hb hby d7_10) rfl rfl ?_
    show Steps _ _ _ (T2.setTop (mkF m 11 #[vR a1, vI p2] [iR a1])) _
    refine st3.trans ?_
    show Steps _ _ _ (T3.setTop (mkF m 14 #[vR a1, vI p2] [iI 1])) _
    refine XS.ifNo X3.here hx rfl (hb hby d7_14) rfl ((if0 _ _).trans (feq (by decide : ¬ ((1 : Int32) = (0 : Int32)))).1) ?_
    show Steps _ _ _ (T3.setTop (mkF m 17 #[vR a1, vI p2] [])) _
    refine XS.iloadN X3.here hx rfl (hb hby d7_17) rfl ?_
    show Steps _ _ _ (T3.setTop (mkF m 18 #[vR a1, vI p2] [iI p2])) _
    refine st4 _ ?_
    show Steps _ _ _ (T4.setTop (mkF m 21 #[vR a1, vI p2] [iI (own_can p2)])) _
    refine XS.ifNo X4.here hx rfl (hb hby d7_21) rfl ((if0 _ _).trans (feq hh5).1) ?_
    show Steps _ _ _ (T4.setTop (mkF m 24 #[vR a1, vI p2] [])) _
    refine XS.aloadN X4.here hx rfl (hb hby d7_24) rfl rfl ?_
    show Steps _ _ _ (T4.setTop (mkF m 25 #[vR a1, vI p2] [iR a1])) _
    refine st6 _ ?_
    show Steps _ _ _ (T6.setTop (mkF m 28 #[vR a1, vI p2] [iR b])) _
    refine XS.aloadN X6.here hx rfl (hb hby d7_28) rfl rfl ?_
    show Steps _ _ _ (T6.setTop (mkF m 29 #[vR a1, vI p2] [iR a1, iR b])) _
    refine XS.dup X6.here hx rfl (hb hby d7_29) rfl rfl ?_
    show Steps _ _ _ (T6.setTop (mkF m 30 #[vR a1, vI p2] [iR a1, iR a1, iR b])) _
    refine st7 _ ?_
    show Steps _ _ _ (T7.setTop (mkF m 33 #[vR a1, vI p2] [iI 2, iR a1, iR b])) _
    refine XS.dupX1 X7.here hx rfl (hb hby d7_33) rfl rfl rfl ?_
    show Steps _ _ _ (T7.setTop (mkF m 34 #[vR a1, vI p2] [iI 2, iR a1, iI 2, iR b])) _
    refine XS.iconst X7.here hx rfl (hb hby d7_34) ?_
    show Steps _ _ _ (T7.setTop (mkF m 35 #[vR a1, vI p2] [iI 1, iI 2, iR a1, iI 2, iR b])) _
    refine XS.iadd X7.here hx rfl (hb hby d7_35) rfl ?_
    rw [(by decide : ((2 : Int32) + (1 : Int32)) = (3 : Int32))]
    show Steps _ _ _ (T7.setTop (mkF m 36 #[vR a1, vI p2] [iI 3, iR a1, iI 2, iR b])) _
    refine st8 _ ?_
    show Steps _ _ _ (T8.setTop (mkF m 39 #[vR a1, vI p2] [iI 2, iR b])) _
    refine XS.iloadN X8.here hx rfl (hb hby d7_39) rfl ?_
    show Steps _ _ _ (T8.setTop (mkF m 40 #[vR a1, vI p2] [iI p2, iI 2, iR b])) _
    refine XS.i2b X8.here hx rfl (hb hby d7_40) rfl ?_
    show Steps _ _ _ (T8.setTop (mkF m 41 #[vR a1, vI p2] [iI p2.toInt8.toInt32, iI 2, iR b])) _
    refine st12 _ ?_
    show Steps _ _ _ (T12.setTop (mkF m 42 #[vR a1, vI p2] [])) _
    refine XS.goto X12.here hx rfl (pc0 := 42) (pc' := 75) rfl (hb hby d7_42) (by decide) (by decide) ?_
    show Steps _ _ _ (T12.setTop (mkF m 75 #[vR a1, vI p2] [])) _
    refine XS.aloadN X12.here hx rfl (hb hby d7_75) rfl rfl ?_
    show Steps _ _ _ (T12.setTop (mkF m 76 #[vR a1, vI p2] [iR a1])) _
    jvm_step X12.here [X12.here.top, hx, (hb hby d7_76), X12.method', Bd.returns, Value.isRef, FieldType.isReference]
    first | (intro acts; rw [hr _ acts rfl rfl rfl]) | rw [hr _ _ rfl rfl rfl]
    exact Steps.refl _
  · show Q7_2 Z a1 p2 b kb nz c0 c1 c2 c3 c4 c5 c6 c7 cs h0 n0 _ T12.heap _
    rw [e12]
    exact ⟨rfl, N12, K12, fk13, fk14, fk15, fk16, V12⟩
theorem ef_6_2 (m : MethodId) (x0 : Addr) (x1 : Int32) : entryFrame m #[(.ref x0), (.int x1)] 2 = mkF m 0 #[.val (.ref x0), .val (.int x1)] [] := by first | (simp [entryFrame, mkF, argsToLocals, Value.category]; done) | rfl
def Q6_2 (Z : State) (a1 : Addr) (p2 : Int32) (b : Addr) (kb : ClassId) (nz : Int32) (c0 : Int32) (c1 : Int32) (c2 : Int32) (c3 : Int32) (c4 : Int32) (c5 : Int32) (c6 : Int32) (c7 : Int32) (cs : Int32) (h0 : Heap) (n0 : Nat) (v : Option Value) (h : Heap) (L : List Loc) : Prop := v = some (.ref a1) ∧ Fr n0 L ∧ Keep h0 h [a1, b] ∧ Exa Z h a1 "java/lang/StringBuilder" ∧ Fld Z h a1 "java/lang/AbstractStringBuilder" "value" "[B" (.ref b) ∧ Fld Z h a1 "java/lang/AbstractStringBuilder" "coder" "B" (.int (0 : Int32)) ∧ Fld Z h a1 "java/lang/AbstractStringBuilder" "count" "I" (.int (3 : Int32)) ∧ Arv Z h b kb .byte nz [(.int c0), (.int c1), (.int (nar .byte p2.toInt8.toInt32)), (.int c3), (.int c4), (.int c5), (.int c6), (.int c7)] (.int (0 : Int32))
set_option maxRecDepth 65536 in
set_option maxHeartbeats 40000000 in
theorem rm6_2 (l : Launch) (Z : State) (a0 : Array Value) (hw : ∀ d ∈ tables_1, d.before a0 Z = true) (ws : List Jvm.Cond) (a1 : Addr) (p2 : Int32) (b : Addr) (kb : ClassId) (nz : Int32) (c0 : Int32) (c1 : Int32) (c2 : Int32) (c3 : Int32) (c4 : Int32) (c5 : Int32) (c6 : Int32) (c7 : Int32) (cs : Int32) (h0 : Heap) (n0 : Nat) (Z0 : n0 ≤ h0.size) (O0 : Old Z n0 h0) (E_a1 : Exa Z h0 a1 "java/lang/StringBuilder") (g_a1 : n0 ≤ a1) (g_b : n0 ≤ b) (F_v : Fld Z h0 a1 "java/lang/AbstractStringBuilder" "value" "[B" (.ref b)) (F_c : Fld Z h0 a1 "java/lang/AbstractStringBuilder" "coder" "B" (.int (0 : Int32))) (F_n : Fld Z h0 a1 "java/lang/AbstractStringBuilder" "count" "I" (.int (2 : Int32))) (V_b : Arv Z h0 b kb .byte nz [(.int c0), (.int c1), (.int c2), (.int c3), (.int c4), (.int c5), (.int c6), (.int c7)] (.int (0 : Int32))) (ne_a1_b : a1 ≠ b) (hi : (2 : Int32) < nz) (hl : ¬ (255 : Int32) < p2) (S_CS : Sta Z Z.heap "java/lang/String" "COMPACT_STRINGS" "Z" (.int cs)) (h_cs : ¬ cs = (0 : Int32)) :
    MetFree l (⟨"java/lang/StringBuilder", "append", "(C)Ljava/lang/StringBuilder;"⟩ : MethodName) (head1 (Jvm.Cond.code (⟨"java/lang/StringBuilder", "append", "(C)Ljava/lang/StringBuilder;"⟩ : MethodName) jdk_67_method_14_code 2 (some (.object "java/lang/StringBuilder")) :: ws) ({ frames := 2, cells := 0, slots := 0, locals := 27 } : Room)) (fun a U => a = #[(.ref a1), (.int p2)] ∧ Z.Warmed39 U.vm ∧ U.heap = h0) (fun _ _ _ _ _ => True) (fun _ U o U' => ∃ v L, o = .returned v ∧ Q6_2 Z a1 p2 b kb nz c0 c1 c2 c3 c4 c5 c6 c7 cs h0 n0 v U'.heap L ∧ FrameEnd U o U' L ({ frames := 2, cells := 0, slots := 0, locals := 27 } : Room).cells ({ frames := 2, cells := 0, slots := 0, locals := 27 } : Room).slots) := by
  refine MetFree.of_bodySF (plainFor_of_name pn_1) hisR ?_
  intro p e s m args below meth c s₁ Bd hml0 hP hK
  obtain ⟨rfl, hZ, hh⟩ := hP
  have hx := Bd.exec
  have hby := Bd.bytes
  have hml : c.maxLocals = 2 := hml0
  have hown : s.vm.findClass "java/lang/StringBuilder" = some m.cls := findClass_of_methodNamed Bd.named
  have hnm := (name_of_methodNamed Bd.named Bd.method).1
  have X0 : Stand p l e ({ frames := 2, cells := 0, slots := 0, locals := 27 } : Room) s m #[(.ref a1), (.int p2)] below meth c s₁ [] 0 0 := Stand.of_body Bd
  have e0 : s₁.heap = h0 := by rw [← hh, Bd.state]; rfl
  have N0 := Fr.nil n0
  have K0 := Keep.refl h0 [a1, b]
  have pre0 : ∀ t, Steps p.tables e below (s₁.setTop (mkF m 0 #[.val (.ref a1), .val (.int p2)] [])) t → Steps p.tables e below (s₁.setTop (entryFrame m #[(.ref a1), (.int p2)] 2)) t := fun t k => castTop (ef_6_2 m a1 p2) k
  obtain ⟨_, _, ⟨T1, L1, k1, n1⟩, -, X1, ⟨Lc1, hQ1, l1, y1, z1⟩, st1⟩ := superBack X0 hx hZ (y := (⟨"java/lang/AbstractStringBuilder", "append", "(C)Ljava/lang/AbstractStringBuilder;"⟩ : MethodName)) hown (hw _ (List.mem_of_getElem? (i := 37) rfl)) (own_same (hw _ (List.mem_of_getElem? (i := 38) rfl)) (own_nf (z := (⟨"java/lang/AbstractStringBuilder", "ensureCapacityInternal", "(I)V"⟩ : MethodName)) rfl (notFace_of_selects (hw _ (List.mem_of_getElem? (i := 47) rfl))) (hw _ (List.mem_of_getElem? (i := 45) rfl))) (by decide)) (hw _ (List.mem_of_getElem? (i := 38) rfl)) (hw _ (List.mem_of_getElem? (i := 39) rfl)) (by decide) (backOf (W := 0) (rm7_2 l Z a0 hw [] a1 p2 b kb nz c0 c1 c2 c3 c4 c5 c6 c7 cs h0 n0 (Nat.le_trans Z0 K0.1) O0 E_a1 g_a1 g_b F_v F_c F_n V_b ne_a1_b hi hl S_CS h_cs) hZ (hw _ (List.mem_of_getElem? (i := 41) rfl)) (hw _ (List.mem_of_getElem? (i := 16) rfl)) (by decide) (by decide)) e0 (Ins.self E_a1) (g := (mkF m 2 #[vR a1, vI p2] [iI p2, iR a1])) rfl (by rw [hml]; rfl) (hw _ (List.mem_of_getElem? (i := 41) rfl)) (argsL := [(.int p2)]) (rest := []) (lenOf pd_3 rfl) rfl (by show 2 * 0 + _ ≤ _; exact Nat.le_of_eq rfl) (hb hby d6_2) (fun _ _ => ⟨rfl, e0, (by decide : 0 + 0 ≤ _), (by decide : 0 + 0 ≤ _)⟩)
  dsimp only [Pt.U, Pt.locs, Pt.cells, Pt.slots] at X1 l1 y1 z1 st1 hQ1
  subst l1 y1 z1
  obtain ⟨rfl, N1q, K1q, E1q, Fv1q, Fc1q, Fn1q, V1q⟩ := hQ1
  have N1 := Fr.app N0 N1q
  have K1 : Keep h0 T1.heap [a1, b] := Keep.trans K0 K1q (allS (Or.inl (List.mem_of_getElem? (i := 0) rfl)) (allS (Or.inl (List.mem_of_getElem? (i := 1) rfl)) all0))
  obtain ⟨fs, hr, hrun, hended, hW, hsame⟩ := X1.leave (v := some (.ref a1)) (fun h => by rw [Bd.returns] at h; cases h)
  refine ⟨_, _, pre0 _ ?_, hrun, hended, _, _, rfl, ?_, ⟨_, rfl⟩, hW, hsame.mono (by decide) (by decide)⟩
  · show Steps _ _ _ (s₁.setTop (mkF m 0 #[vR a1, vI p2] [])) _
    refine XS.aloadN X0.here hx rfl (hb hby d6_0) rfl rfl ?_
    show Steps _ _ _ (s₁.setTop (mkF m 1 #[vR a1, vI p2] [iR a1])) _
    refine XS.iloadN X0.here hx rfl (hb hby d6_1) rfl ?_
    show Steps _ _ _ (s₁.setTop (mkF m 2 #[vR a1, vI p2] [iI p2, iR a1])) _
    refine st1.trans ?_
    show Steps _ _ _ (T1.setTop (mkF m 5 #[vR a1, vI p2] [iR a1])) _
    refine XS.pop X1.here hx rfl (hb hby d6_5) rfl rfl ?_
    show Steps _ _ _ (T1.setTop (mkF m 6 #[vR a1, vI p2] [])) _
    refine XS.aloadN X1.here hx rfl (hb hby d6_6) rfl rfl ?_
    show Steps _ _ _ (T1.setTop (mkF m 7 #[vR a1, vI p2] [iR a1])) _
    jvm_step X1.here [X1.here.top, hx, (hb hby d6_7), X1.method', Bd.returns, Value.isRef, FieldType.isReference]
    first | (intro acts; rw [hr _ acts rfl rfl rfl]) | rw [hr _ _ rfl rfl rfl]
    exact Steps.refl _
  · show Q6_2 Z a1 p2 b kb nz c0 c1 c2 c3 c4 c5 c6 c7 cs h0 n0 _ T1.heap _
    exact ⟨rfl, N1, K1, E1q, Fv1q, Fc1q, Fn1q, V1q⟩
theorem own_nle3 {nz : Int32} (h : (3 : Int32) < nz) : ¬ nz < (4 : Int32) := by
  have e1 : (3 : Int32).toInt = 3 := rfl
  have e2 : (4 : Int32).toInt = 4 := rfl
  rw [Int32.lt_iff_toInt_lt] at *; omega
theorem ef_7_3 (m : MethodId) (x0 : Addr) (x1 : Int32) : entryFrame m #[(.ref x0), (.int x1)] 2 = mkF m 0 #[.val (.ref x0), .val (.int x1)] [] := by first | (simp [entryFrame, mkF, argsToLocals, Value.category]; done) | rfl
def Q7_3 (Z : State) (a1 : Addr) (p2 : Int32) (b : Addr) (kb : ClassId) (nz : Int32) (c0 : Int32) (c1 : Int32) (c2 : Int32) (c3 : Int32) (c4 : Int32) (c5 : Int32) (c6 : Int32) (c7 : Int32) (cs : Int32) (h0 : Heap) (n0 : Nat) (v : Option Value) (h : Heap) (L : List Loc) : Prop := v = some (.ref a1) ∧ Fr n0 L ∧ Keep h0 h [a1, b] ∧ Exa Z h a1 "java/lang/StringBuilder" ∧ Fld Z h a1 "java/lang/AbstractStringBuilder" "value" "[B" (.ref b) ∧ Fld Z h a1 "java/lang/AbstractStringBuilder" "coder" "B" (.int (0 : Int32)) ∧ Fld Z h a1 "java/lang/AbstractStringBuilder" "count" "I" (.int (4 : Int32)) ∧ Arv Z h b kb .byte nz [(.int c0), (.int c1), (.int c2), (.int (nar .byte p2.toInt8.toInt32)), (.int c4), (.int c5), (.int c6), (.int c7)] (.int (0 : Int32))
set_option maxRecDepth 65536 in
set_option maxHeartbeats 40000000 in
theorem rm7_3 (l : Launch) (Z : State) (a0 : Array Value) (hw : ∀ d ∈ tables_1, d.before a0 Z = true) (ws : List Jvm.Cond) (a1 : Addr) (p2 : Int32) (b : Addr) (kb : ClassId) (nz : Int32) (c0 : Int32) (c1 : Int32) (c2 : Int32) (c3 : Int32) (c4 : Int32) (c5 : Int32) (c6 : Int32) (c7 : Int32) (cs : Int32) (h0 : Heap) (n0 : Nat) (Z0 : n0 ≤ h0.size) (O0 : Old Z n0 h0) (E_a1 : Exa Z h0 a1 "java/lang/StringBuilder") (g_a1 : n0 ≤ a1) (g_b : n0 ≤ b) (F_v : Fld Z h0 a1 "java/lang/AbstractStringBuilder" "value" "[B" (.ref b)) (F_c : Fld Z h0 a1 "java/lang/AbstractStringBuilder" "coder" "B" (.int (0 : Int32))) (F_n : Fld Z h0 a1 "java/lang/AbstractStringBuilder" "count" "I" (.int (3 : Int32))) (V_b : Arv Z h0 b kb .byte nz [(.int c0), (.int c1), (.int c2), (.int c3), (.int c4), (.int c5), (.int c6), (.int c7)] (.int (0 : Int32))) (ne_a1_b : a1 ≠ b) (hi : (3 : Int32) < nz) (hl : ¬ (255 : Int32) < p2) (S_CS : Sta Z Z.heap "java/lang/String" "COMPACT_STRINGS" "Z" (.int cs)) (h_cs : ¬ cs = (0 : Int32)) :
    MetFree l (⟨"java/lang/AbstractStringBuilder", "append", "(C)Ljava/lang/AbstractStringBuilder;"⟩ : MethodName) (head1 (Jvm.Cond.code (⟨"java/lang/AbstractStringBuilder", "append", "(C)Ljava/lang/AbstractStringBuilder;"⟩ : MethodName) jdk_68_method_31_code 2 (some (.object "java/lang/AbstractStringBuilder")) :: ws) ({ frames := 1, cells := 0, slots := 0, locals := 14 } : Room)) (fun a U => a = #[(.ref a1), (.int p2)] ∧ Z.Warmed39 U.vm ∧ U.heap = h0) (fun _ _ _ _ _ => True) (fun _ U o U' => ∃ v L, o = .returned v ∧ Q7_3 Z a1 p2 b kb nz c0 c1 c2 c3 c4 c5 c6 c7 cs h0 n0 v U'.heap L ∧ FrameEnd U o U' L ({ frames := 1, cells := 0, slots := 0, locals := 14 } : Room).cells ({ frames := 1, cells := 0, slots := 0, locals := 14 } : Room).slots) := by
  refine MetFree.of_bodySF (plainFor_of_name pn_0) hisR ?_
  intro p e s m args below meth c s₁ Bd hml0 hP hK
  obtain ⟨rfl, hZ, hh⟩ := hP
  have hx := Bd.exec
  have hby := Bd.bytes
  have hml : c.maxLocals = 2 := hml0
  have hown : s.vm.findClass "java/lang/AbstractStringBuilder" = some m.cls := findClass_of_methodNamed Bd.named
  have hnm := (name_of_methodNamed Bd.named Bd.method).1
  have X0 : Stand p l e ({ frames := 1, cells := 0, slots := 0, locals := 14 } : Room) s m #[(.ref a1), (.int p2)] below meth c s₁ [] 0 0 := Stand.of_body Bd
  have e0 : s₁.heap = h0 := by rw [← hh, Bd.state]; rfl
  have N0 := Fr.nil n0
  have K0 := Keep.refl h0 [a1, b]
  have pre0 : ∀ t, Steps p.tables e below (s₁.setTop (mkF m 0 #[.val (.ref a1), .val (.int p2)] [])) t → Steps p.tables e below (s₁.setTop (entryFrame m #[(.ref a1), (.int p2)] 2)) t := fun t k => castTop (ef_7_3 m a1 p2) k
  obtain ⟨T1, X1, e1, st1⟩ := getF X0 hx hZ hown (host := "") (Or.inl (hw _ (List.mem_of_getElem? (i := 42) rfl))) Via.refl e0 F_n (g := (mkF m 2 #[vR a1, vI p2] [iR a1, iR a1])) rfl rfl (hb hby d7_2)
  obtain ⟨cq2, q2, q2'⟩ := E_a1.cell
  obtain ⟨_, _, ⟨T2, L2, k2, n2⟩, -, X2, ⟨Lc2, hQ2, l2, y2, z2⟩, st2⟩ := X1.privateBack hx (y := (⟨"java/lang/AbstractStringBuilder", "ensureCapacityInternal", "(I)V"⟩ : MethodName)) hown (mvT hZ (hw _ (List.mem_of_getElem? (i := 44) rfl))) (mvT hZ (hw _ (List.mem_of_getElem? (i := 45) rfl))) (own_selPriv2 (own_nf (z := (⟨"java/lang/AbstractStringBuilder", "ensureCapacityInternal", "(I)V"⟩ : MethodName)) rfl (notFace_of_selects (args := #[]) (mvT hZ (hw _ (List.mem_of_getElem? (i := 47) rfl)))) (mvT hZ (hw _ (List.mem_of_getElem? (i := 45) rfl)) (args := #[]))) (Cond.privateMethod_at (mvP hZ (hw _ (List.mem_of_getElem? (i := 46) rfl)) (args := #[]))) (mvT hZ (hw _ (List.mem_of_getElem? (i := 45) rfl))) (by decide)) (Cond.privateMethod_at (mvP hZ (hw _ (List.mem_of_getElem? (i := 46) rfl)) (args := #[]))) (mvT hZ (hw _ (List.mem_of_getElem? (i := 48) rfl))) (by decide) (backOf (W := 0) (rm8 l Z a0 hw [] a1 (4 : Int32) b kb nz c0 c1 c2 c3 c4 c5 c6 c7 h0 F_v F_c V_b (own_nle3 hi) (by decide)) hZ (hw _ (List.mem_of_getElem? (i := 48) rfl)) (hw _ (List.mem_of_getElem? (i := 16) rfl)) (by decide) (by decide)) (g := (mkF m 7 #[vR a1, vI p2] [iI 4, iR a1])) rfl (by rw [hml]; rfl) (Steps.refl _) (a := a1) (by rw [e1]; exact q2) q2' (argsL := [(.int (4 : Int32))]) (rest := []) (lenOf pd_0 rfl) rfl (by show 2 * 0 + _ ≤ _; exact Nat.le_of_eq rfl) (hb hby d7_7) (fun _ _ => ⟨rfl, e1, (by decide : 0 + 0 ≤ _), (by decide : 0 + 0 ≤ _)⟩)
  dsimp only [Pt.U, Pt.locs, Pt.cells, Pt.slots] at X2 l2 y2 z2 st2 hQ2
  subst l2 y2 z2
  obtain ⟨rfl, rfl, e2⟩ := hQ2
  try rw [List.append_nil] at X2
  obtain ⟨cq3, kq3, q3a, q3b, q3c⟩ := isOf hZ e2 E_a1
  obtain ⟨_, _, ⟨T3, L3, k3, n3⟩, -, X3, ⟨Lc3, hQ3, l3, y3, z3⟩, st3⟩ := X2.virtualBack hx (y := (⟨"java/lang/AbstractStringBuilder", "isLatin1", "()Z"⟩ : MethodName)) (z := (⟨"java/lang/AbstractStringBuilder", "isLatin1", "()Z"⟩ : MethodName)) hown (mvT hZ (hw _ (List.mem_of_getElem? (i := 49) rfl))) (mvT hZ (hw _ (List.mem_of_getElem? (i := 50) rfl))) (notFace_of_selects (args := #[]) (mvT hZ (hw _ (List.mem_of_getElem? (i := 52) rfl)))) (mvT hZ (hw _ (List.mem_of_getElem? (i := 52) rfl))) (mvT hZ (hw _ (List.mem_of_getElem? (i := 51) rfl))) (by decide) (backOf (W := 0) (rm9 l Z a0 hw [] a1 cs h0 n0 O0 F_c S_CS h_cs) hZ (hw _ (List.mem_of_getElem? (i := 53) rfl)) (hw _ (List.mem_of_getElem? (i := 16) rfl)) (by decide) (by decide)) q3a q3c (g := (mkF m 11 #[vR a1, vI p2] [iR a1])) rfl (by rw [hml]; rfl) (Steps.refl _) (argsL := []) (rest := []) (lenOf pd_1 rfl) rfl (by show 2 * 0 + _ ≤ _; exact Nat.le_of_eq rfl) (hb hby d7_11) (fun _ _ => ⟨rfl, e2, (by decide : 0 + 0 ≤ _), (by decide : 0 + 0 ≤ _)⟩)
  dsimp only [Pt.U, Pt.locs, Pt.cells, Pt.slots] at X3 l3 y3 z3 st3 hQ3
  subst l3 y3 z3
  obtain ⟨rfl, rfl, e3⟩ := hQ3
  try rw [List.append_nil] at X3
  obtain ⟨_, _, ⟨T4, L4, k4, n4⟩, -, X4, ⟨Lc4, hQ4, l4, y4, z4⟩, st4⟩ := Jvm.LawKit.callS X3 hx (y := (⟨"java/lang/StringLatin1", "canEncode", "(C)Z"⟩ : MethodName)) hown (mvT hZ (hw _ (List.mem_of_getElem? (i := 54) rfl))) (mvT hZ (hw _ (List.mem_of_getElem? (i := 55) rfl))) (mvT hZ (hw _ (List.mem_of_getElem? (i := 56) rfl))) (mvT hZ (hw _ (List.mem_of_getElem? (i := 57) rfl))) (by decide) (backOf (W := 0) (rm10 l Z a0 hw [] p2 h0 ) hZ (hw _ (List.mem_of_getElem? (i := 57) rfl)) (hw _ (List.mem_of_getElem? (i := 56) rfl)) (by decide) (by decide)) (g := (mkF m 18 #[vR a1, vI p2] [iI p2])) rfl (by rw [hml]; rfl) (argsL := [(.int p2)]) (rest := []) (lenOf pd_2 rfl) rfl (by show 2 * 0 + _ ≤ _; exact Nat.le_of_eq rfl) (hb hby d7_18) (fun _ _ => ⟨rfl, e3, (by decide : 0 + 0 ≤ _), (by decide : 0 + 0 ≤ _)⟩)
  dsimp only [Pt.U, Pt.locs, Pt.cells, Pt.slots] at X4 l4 y4 z4 st4 hQ4
  subst l4 y4 z4
  obtain ⟨rfl, rfl, e4⟩ := hQ4
  try rw [List.append_nil] at X4
  have hh5 : ¬ ((own_can p2) = (0 : Int32)) := (by unfold own_can; rw [if_neg hl]; decide)
  obtain ⟨T6, X6, e6, st6⟩ := getF X4 hx hZ hown (host := "") (Or.inl (hw _ (List.mem_of_getElem? (i := 24) rfl))) Via.refl e4 F_v (g := (mkF m 25 #[vR a1, vI p2] [iR a1])) rfl rfl (hb hby d7_25)
  obtain ⟨T7, X7, e7, st7⟩ := getF X6 hx hZ hown (host := "") (Or.inl (hw _ (List.mem_of_getElem? (i := 42) rfl))) Via.refl e6 F_n (g := (mkF m 30 #[vR a1, vI p2] [iR a1, iR a1, iR b])) rfl rfl (hb hby d7_30)
  obtain ⟨T8, h8, X8, e8, W8, st8⟩ := putF X7 hx hZ hown (host := "") (Or.inl (hw _ (List.mem_of_getElem? (i := 42) rfl))) Via.refl e7 F_n E_a1 (Or.inl (hw _ (List.mem_of_getElem? (i := 43) rfl))) (hw _ (List.mem_of_getElem? (i := 7) rfl)) (ty := .int) (by decide) rfl rfl (g := (mkF m 36 #[vR a1, vI p2] [iI 4, iR a1, iI 3, iR b])) rfl rfl (hb hby d7_36)
  have Fw8 := F_n.same W8
  have K8 : Keep h0 h8 [a1, b] := K0.wr W8 (Or.inl (List.mem_of_getElem? (i := 0) rfl))
  have N8 := Fr.snoc X8 N0 g_a1
  have fk9 := (V_b.other W8 (Ne.symm ne_a1_b))
  obtain ⟨cl10, Ar10, q10, S10, M10, H10, G10⟩ := id fk9
  have hin11 : ¬ ((3 : Int32) < 0 ∨ cl10.slots.size ≤ ((3 : Int32)).toNatClampNeg) := inb_of S10 ⟨by decide, hi⟩
  obtain ⟨T12, h12, X12, e12, W12, st12⟩ := stB X8 hx hZ e8 Ar10 (j := (3 : Int32)) hin11 (g := (mkF m 41 #[vR a1, vI p2] [iI p2.toInt8.toInt32, iI 3, iR b])) rfl rfl (hb hby d7_41)
  have V12 : Arv Z h12 b kb .byte nz [(.int c0), (.int c1), (.int c2), (.int (nar .byte p2.toInt8.toInt32)), (.int c4), (.int c5), (.int c6), (.int c7)] (.int (0 : Int32)) := Arv.set Ar10 q10 S10 M10 H10 G10 (fits_nar_byte _) W12 3 rfl (Nat.le_of_ble_eq_true rfl)
  have K12 : Keep h0 h12 [a1, b] := K8.wr W12 (Or.inl (List.mem_of_getElem? (i := 1) rfl))
  have N12 := Fr.snoc X12 N8 g_b
  obtain ⟨fs, hr, hrun, hended, hW, hsame⟩ := X12.leave (v := some (.ref a1)) (fun h => by rw [Bd.returns] at h; cases h)
  have fk13 := ((E_a1.wr W8).wr W12)
  have fk14 := ((F_v.other W8 (Or.inr (slot_ne (Or.inl (hw _ (List.mem_of_getElem? (i := 25) rfl))) (Or.inl (hw _ (List.mem_of_getElem? (i := 43) rfl))) (by decide) (t := (.array .byte)) (t' := .int) (by decide) (by decide)))).other W12 (Or.inl ne_a1_b))
  have fk15 := ((F_c.other W8 (Or.inr (slot_ne (Or.inl (hw _ (List.mem_of_getElem? (i := 27) rfl))) (Or.inl (hw _ (List.mem_of_getElem? (i := 43) rfl))) (by decide) (t := .byte) (t' := .int) (by decide) (by decide)))).other W12 (Or.inl ne_a1_b))
  have fk16 := (Fw8.other W12 (Or.inl ne_a1_b))
  refine ⟨_, _, pre0 _ ?_, hrun, hended, _, _, rfl, ?_, ⟨_, rfl⟩, hW, hsame.mono (by decide) (by decide)⟩
  · show Steps _ _ _ (s₁.setTop (mkF m 0 #[vR a1, vI p2] [])) _
    refine XS.aloadN X0.here hx rfl (hb hby d7_0) rfl rfl ?_
    show Steps _ _ _ (s₁.setTop (mkF m 1 #[vR a1, vI p2] [iR a1])) _
    refine XS.aloadN X0.here hx rfl (hb hby d7_1) rfl rfl ?_
    show Steps _ _ _ (s₁.setTop (mkF m 2 #[vR a1, vI p2] [iR a1, iR a1])) _
    refine st1 _ ?_
    show Steps _ _ _ (T1.setTop (mkF m 5 #[vR a1, vI p2] [iI 3, iR a1])) _
    refine XS.iconst X1.here hx rfl (hb hby d7_5) ?_
    show Steps _ _ _ (T1.setTop (mkF m 6 #[vR a1, vI p2] [iI 1, iI 3, iR a1])) _
    refine XS.iadd X1.here hx rfl (hb hby d7_6) rfl ?_
    rw [(by decide : ((3 : Int32) + (1 : Int32)) = (4 : Int32))]
    show Steps _ _ _ (T1.setTop (mkF m 7 #[vR a1, vI p2] [iI 4, iR a1])) _
    refine st2.trans ?_
    show Steps _ _ _ (T2.setTop (mkF m 10 #[vR a1, vI p2] [])) _
    refine XS.aloadN X2.here hx rfl (hb hby d7_10) rfl rfl ?_
    show Steps _ _ _ (T2.setTop (mkF m 11 #[vR a1, vI p2] [iR a1])) _
    refine st3.trans ?_
    show Steps _ _ _ (T3.setTop (mkF m 14 #[vR a1, vI p2] [iI 1])) _
    refine XS.ifNo X3.here hx rfl (hb hby d7_14) rfl ((if0 _ _).trans (feq (by decide : ¬ ((1 : Int32) = (0 : Int32)))).1) ?_
    show Steps _ _ _ (T3.setTop (mkF m 17 #[vR a1, vI p2] [])) _
    refine XS.iloadN X3.here hx rfl (hb hby d7_17) rfl ?_
    show Steps _ _ _ (T3.setTop (mkF m 18 #[vR a1, vI p2] [iI p2])) _
    refine st4 _ ?_
    show Steps _ _ _ (T4.setTop (mkF m 21 #[vR a1, vI p2] [iI (own_can p2)])) _
    refine XS.ifNo X4.here hx rfl (hb hby d7_21) rfl ((if0 _ _).trans (feq hh5).1) ?_
    show Steps _ _ _ (T4.setTop (mkF m 24 #[vR a1, vI p2] [])) _
    refine XS.aloadN X4.here hx rfl (hb hby d7_24) rfl rfl ?_
    show Steps _ _ _ (T4.setTop (mkF m 25 #[vR a1, vI p2] [iR a1])) _
    refine st6 _ ?_
    show Steps _ _ _ (T6.setTop (mkF m 28 #[vR a1, vI p2] [iR b])) _
    refine XS.aloadN X6.here hx rfl (hb hby d7_28) rfl rfl ?_
    show Steps _ _ _ (T6.setTop (mkF m 29 #[vR a1, vI p2] [iR a1, iR b])) _
    refine XS.dup X6.here hx rfl (hb hby d7_29) rfl rfl ?_
    show Steps _ _ _ (T6.setTop (mkF m 30 #[vR a1, vI p2] [iR a1, iR a1, iR b])) _
    refine st7 _ ?_
    show Steps _ _ _ (T7.setTop (mkF m 33 #[vR a1, vI p2] [iI 3, iR a1, iR b])) _
    refine XS.dupX1 X7.here hx rfl (hb hby d7_33) rfl rfl rfl ?_
    show Steps _ _ _ (T7.setTop (mkF m 34 #[vR a1, vI p2] [iI 3, iR a1, iI 3, iR b])) _
    refine XS.iconst X7.here hx rfl (hb hby d7_34) ?_
    show Steps _ _ _ (T7.setTop (mkF m 35 #[vR a1, vI p2] [iI 1, iI 3, iR a1, iI 3, iR b])) _
    refine XS.iadd X7.here hx rfl (hb hby d7_35) rfl ?_
    rw [(by decide : ((3 : Int32) + (1 : Int32)) = (4 : Int32))]
    show Steps _ _ _ (T7.setTop (mkF m 36 #[vR a1, vI p2] [iI 4, iR a1, iI 3, iR b])) _
    refine st8 _ ?_
    show Steps _ _ _ (T8.setTop (mkF m 39 #[vR a1, vI p2] [iI 3, iR b])) _
    refine XS.iloadN X8.here hx rfl (hb hby d7_39) rfl ?_
    show Steps _ _ _ (T8.setTop (mkF m 40 #[vR a1, vI p2] [iI p2, iI 3, iR b])) _
    refine XS.i2b X8.here hx rfl (hb hby d7_40) rfl ?_
    show Steps _ _ _ (T8.setTop (mkF m 41 #[vR a1, vI p2] [iI p2.toInt8.toInt32, iI 3, iR b])) _
    refine st12 _ ?_
    show Steps _ _ _ (T12.setTop (mkF m 42 #[vR a1, vI p2] [])) _
    refine XS.goto X12.here hx rfl (pc0 := 42) (pc' := 75) rfl (hb hby d7_42) (by decide) (by decide) ?_
    show Steps _ _ _ (T12.setTop (mkF m 75 #[vR a1, vI p2] [])) _
    refine XS.aloadN X12.here hx rfl (hb hby d7_75) rfl rfl ?_
    show Steps _ _ _ (T12.setTop (mkF m 76 #[vR a1, vI p2] [iR a1])) _
    jvm_step X12.here [X12.here.top, hx, (hb hby d7_76), X12.method', Bd.returns, Value.isRef, FieldType.isReference]
    first | (intro acts; rw [hr _ acts rfl rfl rfl]) | rw [hr _ _ rfl rfl rfl]
    exact Steps.refl _
  · show Q7_3 Z a1 p2 b kb nz c0 c1 c2 c3 c4 c5 c6 c7 cs h0 n0 _ T12.heap _
    rw [e12]
    exact ⟨rfl, N12, K12, fk13, fk14, fk15, fk16, V12⟩
theorem ef_6_3 (m : MethodId) (x0 : Addr) (x1 : Int32) : entryFrame m #[(.ref x0), (.int x1)] 2 = mkF m 0 #[.val (.ref x0), .val (.int x1)] [] := by first | (simp [entryFrame, mkF, argsToLocals, Value.category]; done) | rfl
def Q6_3 (Z : State) (a1 : Addr) (p2 : Int32) (b : Addr) (kb : ClassId) (nz : Int32) (c0 : Int32) (c1 : Int32) (c2 : Int32) (c3 : Int32) (c4 : Int32) (c5 : Int32) (c6 : Int32) (c7 : Int32) (cs : Int32) (h0 : Heap) (n0 : Nat) (v : Option Value) (h : Heap) (L : List Loc) : Prop := v = some (.ref a1) ∧ Fr n0 L ∧ Keep h0 h [a1, b] ∧ Exa Z h a1 "java/lang/StringBuilder" ∧ Fld Z h a1 "java/lang/AbstractStringBuilder" "value" "[B" (.ref b) ∧ Fld Z h a1 "java/lang/AbstractStringBuilder" "coder" "B" (.int (0 : Int32)) ∧ Fld Z h a1 "java/lang/AbstractStringBuilder" "count" "I" (.int (4 : Int32)) ∧ Arv Z h b kb .byte nz [(.int c0), (.int c1), (.int c2), (.int (nar .byte p2.toInt8.toInt32)), (.int c4), (.int c5), (.int c6), (.int c7)] (.int (0 : Int32))
set_option maxRecDepth 65536 in
set_option maxHeartbeats 40000000 in
theorem rm6_3 (l : Launch) (Z : State) (a0 : Array Value) (hw : ∀ d ∈ tables_1, d.before a0 Z = true) (ws : List Jvm.Cond) (a1 : Addr) (p2 : Int32) (b : Addr) (kb : ClassId) (nz : Int32) (c0 : Int32) (c1 : Int32) (c2 : Int32) (c3 : Int32) (c4 : Int32) (c5 : Int32) (c6 : Int32) (c7 : Int32) (cs : Int32) (h0 : Heap) (n0 : Nat) (Z0 : n0 ≤ h0.size) (O0 : Old Z n0 h0) (E_a1 : Exa Z h0 a1 "java/lang/StringBuilder") (g_a1 : n0 ≤ a1) (g_b : n0 ≤ b) (F_v : Fld Z h0 a1 "java/lang/AbstractStringBuilder" "value" "[B" (.ref b)) (F_c : Fld Z h0 a1 "java/lang/AbstractStringBuilder" "coder" "B" (.int (0 : Int32))) (F_n : Fld Z h0 a1 "java/lang/AbstractStringBuilder" "count" "I" (.int (3 : Int32))) (V_b : Arv Z h0 b kb .byte nz [(.int c0), (.int c1), (.int c2), (.int c3), (.int c4), (.int c5), (.int c6), (.int c7)] (.int (0 : Int32))) (ne_a1_b : a1 ≠ b) (hi : (3 : Int32) < nz) (hl : ¬ (255 : Int32) < p2) (S_CS : Sta Z Z.heap "java/lang/String" "COMPACT_STRINGS" "Z" (.int cs)) (h_cs : ¬ cs = (0 : Int32)) :
    MetFree l (⟨"java/lang/StringBuilder", "append", "(C)Ljava/lang/StringBuilder;"⟩ : MethodName) (head1 (Jvm.Cond.code (⟨"java/lang/StringBuilder", "append", "(C)Ljava/lang/StringBuilder;"⟩ : MethodName) jdk_67_method_14_code 2 (some (.object "java/lang/StringBuilder")) :: ws) ({ frames := 2, cells := 0, slots := 0, locals := 27 } : Room)) (fun a U => a = #[(.ref a1), (.int p2)] ∧ Z.Warmed39 U.vm ∧ U.heap = h0) (fun _ _ _ _ _ => True) (fun _ U o U' => ∃ v L, o = .returned v ∧ Q6_3 Z a1 p2 b kb nz c0 c1 c2 c3 c4 c5 c6 c7 cs h0 n0 v U'.heap L ∧ FrameEnd U o U' L ({ frames := 2, cells := 0, slots := 0, locals := 27 } : Room).cells ({ frames := 2, cells := 0, slots := 0, locals := 27 } : Room).slots) := by
  refine MetFree.of_bodySF (plainFor_of_name pn_1) hisR ?_
  intro p e s m args below meth c s₁ Bd hml0 hP hK
  obtain ⟨rfl, hZ, hh⟩ := hP
  have hx := Bd.exec
  have hby := Bd.bytes
  have hml : c.maxLocals = 2 := hml0
  have hown : s.vm.findClass "java/lang/StringBuilder" = some m.cls := findClass_of_methodNamed Bd.named
  have hnm := (name_of_methodNamed Bd.named Bd.method).1
  have X0 : Stand p l e ({ frames := 2, cells := 0, slots := 0, locals := 27 } : Room) s m #[(.ref a1), (.int p2)] below meth c s₁ [] 0 0 := Stand.of_body Bd
  have e0 : s₁.heap = h0 := by rw [← hh, Bd.state]; rfl
  have N0 := Fr.nil n0
  have K0 := Keep.refl h0 [a1, b]
  have pre0 : ∀ t, Steps p.tables e below (s₁.setTop (mkF m 0 #[.val (.ref a1), .val (.int p2)] [])) t → Steps p.tables e below (s₁.setTop (entryFrame m #[(.ref a1), (.int p2)] 2)) t := fun t k => castTop (ef_6_3 m a1 p2) k
  obtain ⟨_, _, ⟨T1, L1, k1, n1⟩, -, X1, ⟨Lc1, hQ1, l1, y1, z1⟩, st1⟩ := superBack X0 hx hZ (y := (⟨"java/lang/AbstractStringBuilder", "append", "(C)Ljava/lang/AbstractStringBuilder;"⟩ : MethodName)) hown (hw _ (List.mem_of_getElem? (i := 37) rfl)) (own_same (hw _ (List.mem_of_getElem? (i := 38) rfl)) (own_nf (z := (⟨"java/lang/AbstractStringBuilder", "ensureCapacityInternal", "(I)V"⟩ : MethodName)) rfl (notFace_of_selects (hw _ (List.mem_of_getElem? (i := 47) rfl))) (hw _ (List.mem_of_getElem? (i := 45) rfl))) (by decide)) (hw _ (List.mem_of_getElem? (i := 38) rfl)) (hw _ (List.mem_of_getElem? (i := 39) rfl)) (by decide) (backOf (W := 0) (rm7_3 l Z a0 hw [] a1 p2 b kb nz c0 c1 c2 c3 c4 c5 c6 c7 cs h0 n0 (Nat.le_trans Z0 K0.1) O0 E_a1 g_a1 g_b F_v F_c F_n V_b ne_a1_b hi hl S_CS h_cs) hZ (hw _ (List.mem_of_getElem? (i := 41) rfl)) (hw _ (List.mem_of_getElem? (i := 16) rfl)) (by decide) (by decide)) e0 (Ins.self E_a1) (g := (mkF m 2 #[vR a1, vI p2] [iI p2, iR a1])) rfl (by rw [hml]; rfl) (hw _ (List.mem_of_getElem? (i := 41) rfl)) (argsL := [(.int p2)]) (rest := []) (lenOf pd_3 rfl) rfl (by show 2 * 0 + _ ≤ _; exact Nat.le_of_eq rfl) (hb hby d6_2) (fun _ _ => ⟨rfl, e0, (by decide : 0 + 0 ≤ _), (by decide : 0 + 0 ≤ _)⟩)
  dsimp only [Pt.U, Pt.locs, Pt.cells, Pt.slots] at X1 l1 y1 z1 st1 hQ1
  subst l1 y1 z1
  obtain ⟨rfl, N1q, K1q, E1q, Fv1q, Fc1q, Fn1q, V1q⟩ := hQ1
  have N1 := Fr.app N0 N1q
  have K1 : Keep h0 T1.heap [a1, b] := Keep.trans K0 K1q (allS (Or.inl (List.mem_of_getElem? (i := 0) rfl)) (allS (Or.inl (List.mem_of_getElem? (i := 1) rfl)) all0))
  obtain ⟨fs, hr, hrun, hended, hW, hsame⟩ := X1.leave (v := some (.ref a1)) (fun h => by rw [Bd.returns] at h; cases h)
  refine ⟨_, _, pre0 _ ?_, hrun, hended, _, _, rfl, ?_, ⟨_, rfl⟩, hW, hsame.mono (by decide) (by decide)⟩
  · show Steps _ _ _ (s₁.setTop (mkF m 0 #[vR a1, vI p2] [])) _
    refine XS.aloadN X0.here hx rfl (hb hby d6_0) rfl rfl ?_
    show Steps _ _ _ (s₁.setTop (mkF m 1 #[vR a1, vI p2] [iR a1])) _
    refine XS.iloadN X0.here hx rfl (hb hby d6_1) rfl ?_
    show Steps _ _ _ (s₁.setTop (mkF m 2 #[vR a1, vI p2] [iI p2, iR a1])) _
    refine st1.trans ?_
    show Steps _ _ _ (T1.setTop (mkF m 5 #[vR a1, vI p2] [iR a1])) _
    refine XS.pop X1.here hx rfl (hb hby d6_5) rfl rfl ?_
    show Steps _ _ _ (T1.setTop (mkF m 6 #[vR a1, vI p2] [])) _
    refine XS.aloadN X1.here hx rfl (hb hby d6_6) rfl rfl ?_
    show Steps _ _ _ (T1.setTop (mkF m 7 #[vR a1, vI p2] [iR a1])) _
    jvm_step X1.here [X1.here.top, hx, (hb hby d6_7), X1.method', Bd.returns, Value.isRef, FieldType.isReference]
    first | (intro acts; rw [hr _ acts rfl rfl rfl]) | rw [hr _ _ rfl rfl rfl]
    exact Steps.refl _
  · show Q6_3 Z a1 p2 b kb nz c0 c1 c2 c3 c4 c5 c6 c7 cs h0 n0 _ T1.heap _
    exact ⟨rfl, N1, K1, E1q, Fv1q, Fc1q, Fn1q, V1q⟩
theorem own_nle4 {nz : Int32} (h : (4 : Int32) < nz) : ¬ nz < (5 : Int32) := by
  have e1 : (4 : Int32).toInt = 4 := rfl
  have e2 : (5 : Int32).toInt = 5 := rfl
  rw [Int32.lt_iff_toInt_lt] at *; omega
theorem ef_7_4 (m : MethodId) (x0 : Addr) (x1 : Int32) : entryFrame m #[(.ref x0), (.int x1)] 2 = mkF m 0 #[.val (.ref x0), .val (.int x1)] [] := by first | (simp [entryFrame, mkF, argsToLocals, Value.category]; done) | rfl
def Q7_4 (Z : State) (a1 : Addr) (p2 : Int32) (b : Addr) (kb : ClassId) (nz : Int32) (c0 : Int32) (c1 : Int32) (c2 : Int32) (c3 : Int32) (c4 : Int32) (c5 : Int32) (c6 : Int32) (c7 : Int32) (cs : Int32) (h0 : Heap) (n0 : Nat) (v : Option Value) (h : Heap) (L : List Loc) : Prop := v = some (.ref a1) ∧ Fr n0 L ∧ Keep h0 h [a1, b] ∧ Exa Z h a1 "java/lang/StringBuilder" ∧ Fld Z h a1 "java/lang/AbstractStringBuilder" "value" "[B" (.ref b) ∧ Fld Z h a1 "java/lang/AbstractStringBuilder" "coder" "B" (.int (0 : Int32)) ∧ Fld Z h a1 "java/lang/AbstractStringBuilder" "count" "I" (.int (5 : Int32)) ∧ Arv Z h b kb .byte nz [(.int c0), (.int c1), (.int c2), (.int c3), (.int (nar .byte p2.toInt8.toInt32)), (.int c5), (.int c6), (.int c7)] (.int (0 : Int32))
set_option maxRecDepth 65536 in
set_option maxHeartbeats 40000000 in
theorem rm7_4 (l : Launch) (Z : State) (a0 : Array Value) (hw : ∀ d ∈ tables_1, d.before a0 Z = true) (ws : List Jvm.Cond) (a1 : Addr) (p2 : Int32) (b : Addr) (kb : ClassId) (nz : Int32) (c0 : Int32) (c1 : Int32) (c2 : Int32) (c3 : Int32) (c4 : Int32) (c5 : Int32) (c6 : Int32) (c7 : Int32) (cs : Int32) (h0 : Heap) (n0 : Nat) (Z0 : n0 ≤ h0.size) (O0 : Old Z n0 h0) (E_a1 : Exa Z h0 a1 "java/lang/StringBuilder") (g_a1 : n0 ≤ a1) (g_b : n0 ≤ b) (F_v : Fld Z h0 a1 "java/lang/AbstractStringBuilder" "value" "[B" (.ref b)) (F_c : Fld Z h0 a1 "java/lang/AbstractStringBuilder" "coder" "B" (.int (0 : Int32))) (F_n : Fld Z h0 a1 "java/lang/AbstractStringBuilder" "count" "I" (.int (4 : Int32))) (V_b : Arv Z h0 b kb .byte nz [(.int c0), (.int c1), (.int c2), (.int c3), (.int c4), (.int c5), (.int c6), (.int c7)] (.int (0 : Int32))) (ne_a1_b : a1 ≠ b) (hi : (4 : Int32) < nz) (hl : ¬ (255 : Int32) < p2) (S_CS : Sta Z Z.heap "java/lang/String" "COMPACT_STRINGS" "Z" (.int cs)) (h_cs : ¬ cs = (0 : Int32)) :
    MetFree l (⟨"java/lang/AbstractStringBuilder", "append", "(C)Ljava/lang/AbstractStringBuilder;"⟩ : MethodName) (head1 (Jvm.Cond.code (⟨"java/lang/AbstractStringBuilder", "append", "(C)Ljava/lang/AbstractStringBuilder;"⟩ : MethodName) jdk_68_method_31_code 2 (some (.object "java/lang/AbstractStringBuilder")) :: ws) ({ frames := 1, cells := 0, slots := 0, locals := 14 } : Room)) (fun a U => a = #[(.ref a1), (.int p2)] ∧ Z.Warmed39 U.vm ∧ U.heap = h0) (fun _ _ _ _ _ => True) (fun _ U o U' => ∃ v L, o = .returned v ∧ Q7_4 Z a1 p2 b kb nz c0 c1 c2 c3 c4 c5 c6 c7 cs h0 n0 v U'.heap L ∧ FrameEnd U o U' L ({ frames := 1, cells := 0, slots := 0, locals := 14 } : Room).cells ({ frames := 1, cells := 0, slots := 0, locals := 14 } : Room).slots) := by
  refine MetFree.of_bodySF (plainFor_of_name pn_0) hisR ?_
  intro p e s m args below meth c s₁ Bd hml0 hP hK
  obtain ⟨rfl, hZ, hh⟩ := hP
  have hx := Bd.exec
  have hby := Bd.bytes
  have hml : c.maxLocals = 2 := hml0
  have hown : s.vm.findClass "java/lang/AbstractStringBuilder" = some m.cls := findClass_of_methodNamed Bd.named
  have hnm := (name_of_methodNamed Bd.named Bd.method).1
  have X0 : Stand p l e ({ frames := 1, cells := 0, slots := 0, locals := 14 } : Room) s m #[(.ref a1), (.int p2)] below meth c s₁ [] 0 0 := Stand.of_body Bd
  have e0 : s₁.heap = h0 := by rw [← hh, Bd.state]; rfl
  have N0 := Fr.nil n0
  have K0 := Keep.refl h0 [a1, b]
  have pre0 : ∀ t, Steps p.tables e below (s₁.setTop (mkF m 0 #[.val (.ref a1), .val (.int p2)] [])) t → Steps p.tables e below (s₁.setTop (entryFrame m #[(.ref a1), (.int p2)] 2)) t := fun t k => castTop (ef_7_4 m a1 p2) k
  obtain ⟨T1, X1, e1, st1⟩ := getF X0 hx hZ hown (host := "") (Or.inl (hw _ (List.mem_of_getElem? (i := 42) rfl))) Via.refl e0 F_n (g := (mkF m 2 #[vR a1, vI p2] [iR a1, iR a1])) rfl rfl (hb hby d7_2)
  obtain ⟨cq2, q2, q2'⟩ := E_a1.cell
  obtain ⟨_, _, ⟨T2, L2, k2, n2⟩, -, X2, ⟨Lc2, hQ2, l2, y2, z2⟩, st2⟩ := X1.privateBack hx (y := (⟨"java/lang/AbstractStringBuilder", "ensureCapacityInternal", "(I)V"⟩ : MethodName)) hown (mvT hZ (hw _ (List.mem_of_getElem? (i := 44) rfl))) (mvT hZ (hw _ (List.mem_of_getElem? (i := 45) rfl))) (own_selPriv2 (own_nf (z := (⟨"java/lang/AbstractStringBuilder", "ensureCapacityInternal", "(I)V"⟩ : MethodName)) rfl (notFace_of_selects (args := #[]) (mvT hZ (hw _ (List.mem_of_getElem? (i := 47) rfl)))) (mvT hZ (hw _ (List.mem_of_getElem? (i := 45) rfl)) (args := #[]))) (Cond.privateMethod_at (mvP hZ (hw _ (List.mem_of_getElem? (i := 46) rfl)) (args := #[]))) (mvT hZ (hw _ (List.mem_of_getElem? (i := 45) rfl))) (by decide)) (Cond.privateMethod_at (mvP hZ (hw _ (List.mem_of_getElem? (i := 46) rfl)) (args := #[]))) (mvT hZ (hw _ (List.mem_of_getElem? (i := 48) rfl))) (by decide) (backOf (W := 0) (rm8 l Z a0 hw [] a1 (5 : Int32) b kb nz c0 c1 c2 c3 c4 c5 c6 c7 h0 F_v F_c V_b (own_nle4 hi) (by decide)) hZ (hw _ (List.mem_of_getElem? (i := 48) rfl)) (hw _ (List.mem_of_getElem? (i := 16) rfl)) (by decide) (by decide)) (g := (mkF m 7 #[vR a1, vI p2] [iI 5, iR a1])) rfl (by rw [hml]; rfl) (Steps.refl _) (a := a1) (by rw [e1]; exact q2) q2' (argsL := [(.int (5 : Int32))]) (rest := []) (lenOf pd_0 rfl) rfl (by show 2 * 0 + _ ≤ _; exact Nat.le_of_eq rfl) (hb hby d7_7) (fun _ _ => ⟨rfl, e1, (by decide : 0 + 0 ≤ _), (by decide : 0 + 0 ≤ _)⟩)
  dsimp only [Pt.U, Pt.locs, Pt.cells, Pt.slots] at X2 l2 y2 z2 st2 hQ2
  subst l2 y2 z2
  obtain ⟨rfl, rfl, e2⟩ := hQ2
  try rw [List.append_nil] at X2
  obtain ⟨cq3, kq3, q3a, q3b, q3c⟩ := isOf hZ e2 E_a1
  obtain ⟨_, _, ⟨T3, L3, k3, n3⟩, -, X3, ⟨Lc3, hQ3, l3, y3, z3⟩, st3⟩ := X2.virtualBack hx (y := (⟨"java/lang/AbstractStringBuilder", "isLatin1", "()Z"⟩ : MethodName)) (z := (⟨"java/lang/AbstractStringBuilder", "isLatin1", "()Z"⟩ : MethodName)) hown (mvT hZ (hw _ (List.mem_of_getElem? (i := 49) rfl))) (mvT hZ (hw _ (List.mem_of_getElem? (i := 50) rfl))) (notFace_of_selects (args := #[]) (mvT hZ (hw _ (List.mem_of_getElem? (i := 52) rfl)))) (mvT hZ (hw _ (List.mem_of_getElem? (i := 52) rfl))) (mvT hZ (hw _ (List.mem_of_getElem? (i := 51) rfl))) (by decide) (backOf (W := 0) (rm9 l Z a0 hw [] a1 cs h0 n0 O0 F_c S_CS h_cs) hZ (hw _ (List.mem_of_getElem? (i := 53) rfl)) (hw _ (List.mem_of_getElem? (i := 16) rfl)) (by decide) (by decide)) q3a q3c (g := (mkF m 11 #[vR a1, vI p2] [iR a1])) rfl (by rw [hml]; rfl) (Steps.refl _) (argsL := []) (rest := []) (lenOf pd_1 rfl) rfl (by show 2 * 0 + _ ≤ _; exact Nat.le_of_eq rfl) (hb hby d7_11) (fun _ _ => ⟨rfl, e2, (by decide : 0 + 0 ≤ _), (by decide : 0 + 0 ≤ _)⟩)
  dsimp only [Pt.U, Pt.locs, Pt.cells, Pt.slots] at X3 l3 y3 z3 st3 hQ3
  subst l3 y3 z3
  obtain ⟨rfl, rfl, e3⟩ := hQ3
  try rw [List.append_nil] at X3
  obtain ⟨_, _, ⟨T4, L4, k4, n4⟩, -, X4, ⟨Lc4, hQ4, l4, y4, z4⟩, st4⟩ := Jvm.LawKit.callS X3 hx (y := (⟨"java/lang/StringLatin1", "canEncode", "(C)Z"⟩ : MethodName)) hown (mvT hZ (hw _ (List.mem_of_getElem? (i := 54) rfl))) (mvT hZ (hw _ (List.mem_of_getElem? (i := 55) rfl))) (mvT hZ (hw _ (List.mem_of_getElem? (i := 56) rfl))) (mvT hZ (hw _ (List.mem_of_getElem? (i := 57) rfl))) (by decide) (backOf (W := 0) (rm10 l Z a0 hw [] p2 h0 ) hZ (hw _ (List.mem_of_getElem? (i := 57) rfl)) (hw _ (List.mem_of_getElem? (i := 56) rfl)) (by decide) (by decide)) (g := (mkF m 18 #[vR a1, vI p2] [iI p2])) rfl (by rw [hml]; rfl) (argsL := [(.int p2)]) (rest := []) (lenOf pd_2 rfl) rfl (by show 2 * 0 + _ ≤ _; exact Nat.le_of_eq rfl) (hb hby d7_18) (fun _ _ => ⟨rfl, e3, (by decide : 0 + 0 ≤ _), (by decide : 0 + 0 ≤ _)⟩)
  dsimp only [Pt.U, Pt.locs, Pt.cells, Pt.slots] at X4 l4 y4 z4 st4 hQ4
  subst l4 y4 z4
  obtain ⟨rfl, rfl, e4⟩ := hQ4
  try rw [List.append_nil] at X4
  have hh5 : ¬ ((own_can p2) = (0 : Int32)) := (by unfold own_can; rw [if_neg hl]; decide)
  obtain ⟨T6, X6, e6, st6⟩ := getF X4 hx hZ hown (host := "") (Or.inl (hw _ (List.mem_of_getElem? (i := 24) rfl))) Via.refl e4 F_v (g := (mkF m 25 #[vR a1, vI p2] [iR a1])) rfl rfl (hb hby d7_25)
  obtain ⟨T7, X7, e7, st7⟩ := getF X6 hx hZ hown (host := "") (Or.inl (hw _ (List.mem_of_getElem? (i := 42) rfl))) Via.refl e6 F_n (g := (mkF m 30 #[vR a1, vI p2] [iR a1, iR a1, iR b])) rfl rfl (hb hby d7_30)
  obtain ⟨T8, h8, X8, e8, W8, st8⟩ := putF X7 hx hZ hown (host := "") (Or.inl (hw _ (List.mem_of_getElem? (i := 42) rfl))) Via.refl e7 F_n E_a1 (Or.inl (hw _ (List.mem_of_getElem? (i := 43) rfl))) (hw _ (List.mem_of_getElem? (i := 7) rfl)) (ty := .int) (by decide) rfl rfl (g := (mkF m 36 #[vR a1, vI p2] [iI 5, iR a1, iI 4, iR b])) rfl rfl (hb hby d7_36)
  have Fw8 := F_n.same W8
  have K8 : Keep h0 h8 [a1, b] := K0.wr W8 (Or.inl (List.mem_of_getElem? (i := 0) rfl))
  have N8 := Fr.snoc X8 N0 g_a1
  have fk9 := (V_b.other W8 (Ne.symm ne_a1_b))
  obtain ⟨cl10, Ar10, q10, S10, M10, H10, G10⟩ := id fk9
  have hin11 : ¬ ((4 : Int32) < 0 ∨ cl10.slots.size ≤ ((4 : Int32)).toNatClampNeg) := inb_of S10 ⟨by decide, hi⟩
  obtain ⟨T12, h12, X12, e12, W12, st12⟩ := stB X8 hx hZ e8 Ar10 (j := (4 : Int32)) hin11 (g := (mkF m 41 #[vR a1, vI p2] [iI p2.toInt8.toInt32, iI 4, iR b])) rfl rfl (hb hby d7_41)
  have V12 : Arv Z h12 b kb .byte nz [(.int c0), (.int c1), (.int c2), (.int c3), (.int (nar .byte p2.toInt8.toInt32)), (.int c5), (.int c6), (.int c7)] (.int (0 : Int32)) := Arv.set Ar10 q10 S10 M10 H10 G10 (fits_nar_byte _) W12 4 rfl (Nat.le_of_ble_eq_true rfl)
  have K12 : Keep h0 h12 [a1, b] := K8.wr W12 (Or.inl (List.mem_of_getElem? (i := 1) rfl))
  have N12 := Fr.snoc X12 N8 g_b
  obtain ⟨fs, hr, hrun, hended, hW, hsame⟩ := X12.leave (v := some (.ref a1)) (fun h => by rw [Bd.returns] at h; cases h)
  have fk13 := ((E_a1.wr W8).wr W12)
  have fk14 := ((F_v.other W8 (Or.inr (slot_ne (Or.inl (hw _ (List.mem_of_getElem? (i := 25) rfl))) (Or.inl (hw _ (List.mem_of_getElem? (i := 43) rfl))) (by decide) (t := (.array .byte)) (t' := .int) (by decide) (by decide)))).other W12 (Or.inl ne_a1_b))
  have fk15 := ((F_c.other W8 (Or.inr (slot_ne (Or.inl (hw _ (List.mem_of_getElem? (i := 27) rfl))) (Or.inl (hw _ (List.mem_of_getElem? (i := 43) rfl))) (by decide) (t := .byte) (t' := .int) (by decide) (by decide)))).other W12 (Or.inl ne_a1_b))
  have fk16 := (Fw8.other W12 (Or.inl ne_a1_b))
  refine ⟨_, _, pre0 _ ?_, hrun, hended, _, _, rfl, ?_, ⟨_, rfl⟩, hW, hsame.mono (by decide) (by decide)⟩
  · show Steps _ _ _ (s₁.setTop (mkF m 0 #[vR a1, vI p2] [])) _
    refine XS.aloadN X0.here hx rfl (hb hby d7_0) rfl rfl ?_
    show Steps _ _ _ (s₁.setTop (mkF m 1 #[vR a1, vI p2] [iR a1])) _
    refine XS.aloadN X0.here hx rfl (hb hby d7_1) rfl rfl ?_
    show Steps _ _ _ (s₁.setTop (mkF m 2 #[vR a1, vI p2] [iR a1, iR a1])) _
    refine st1 _ ?_
    show Steps _ _ _ (T1.setTop (mkF m 5 #[vR a1, vI p2] [iI 4, iR a1])) _
    refine XS.iconst X1.here hx rfl (hb hby d7_5) ?_
    show Steps _ _ _ (T1.setTop (mkF m 6 #[vR a1, vI p2] [iI 1, iI 4, iR a1])) _
    refine XS.iadd X1.here hx rfl (hb hby d7_6) rfl ?_
    rw [(by decide : ((4 : Int32) + (1 : Int32)) = (5 : Int32))]
    show Steps _ _ _ (T1.setTop (mkF m 7 #[vR a1, vI p2] [iI 5, iR a1])) _
    refine st2.trans ?_
    show Steps _ _ _ (T2.setTop (mkF m 10 #[vR a1, vI p2] [])) _
    refine XS.aloadN X2.here hx rfl (hb hby d7_10) rfl rfl ?_
    show Steps _ _ _ (T2.setTop (mkF m 11 #[vR a1, vI p2] [iR a1])) _
    refine st3.trans ?_
    show Steps _ _ _ (T3.setTop (mkF m 14 #[vR a1, vI p2] [iI 1])) _
    refine XS.ifNo X3.here hx rfl (hb hby d7_14) rfl ((if0 _ _).trans (feq (by decide : ¬ ((1 : Int32) = (0 : Int32)))).1) ?_
    show Steps _ _ _ (T3.setTop (mkF m 17 #[vR a1, vI p2] [])) _
    refine XS.iloadN X3.here hx rfl (hb hby d7_17) rfl ?_
    show Steps _ _ _ (T3.setTop (mkF m 18 #[vR a1, vI p2] [iI p2])) _
    refine st4 _ ?_
    show Steps _ _ _ (T4.setTop (mkF m 21 #[vR a1, vI p2] [iI (own_can p2)])) _
    refine XS.ifNo X4.here hx rfl (hb hby d7_21) rfl ((if0 _ _).trans (feq hh5).1) ?_
    show Steps _ _ _ (T4.setTop (mkF m 24 #[vR a1, vI p2] [])) _
    refine XS.aloadN X4.here hx rfl (hb hby d7_24) rfl rfl ?_
    show Steps _ _ _ (T4.setTop (mkF m 25 #[vR a1, vI p2] [iR a1])) _
    refine st6 _ ?_
    show Steps _ _ _ (T6.setTop (mkF m 28 #[vR a1, vI p2] [iR b])) _
    refine XS.aloadN X6.here hx rfl (hb hby d7_28) rfl rfl ?_
    show Steps _ _ _ (T6.setTop (mkF m 29 #[vR a1, vI p2] [iR a1, iR b])) _
    refine XS.dup X6.here hx rfl (hb hby d7_29) rfl rfl ?_
    show Steps _ _ _ (T6.setTop (mkF m 30 #[vR a1, vI p2] [iR a1, iR a1, iR b])) _
    refine st7 _ ?_
    show Steps _ _ _ (T7.setTop (mkF m 33 #[vR a1, vI p2] [iI 4, iR a1, iR b])) _
    refine XS.dupX1 X7.here hx rfl (hb hby d7_33) rfl rfl rfl ?_
    show Steps _ _ _ (T7.setTop (mkF m 34 #[vR a1, vI p2] [iI 4, iR a1, iI 4, iR b])) _
    refine XS.iconst X7.here hx rfl (hb hby d7_34) ?_
    show Steps _ _ _ (T7.setTop (mkF m 35 #[vR a1, vI p2] [iI 1, iI 4, iR a1, iI 4, iR b])) _
    refine XS.iadd X7.here hx rfl (hb hby d7_35) rfl ?_
    rw [(by decide : ((4 : Int32) + (1 : Int32)) = (5 : Int32))]
    show Steps _ _ _ (T7.setTop (mkF m 36 #[vR a1, vI p2] [iI 5, iR a1, iI 4, iR b])) _
    refine st8 _ ?_
    show Steps _ _ _ (T8.setTop (mkF m 39 #[vR a1, vI p2] [iI 4, iR b])) _
    refine XS.iloadN X8.here hx rfl (hb hby d7_39) rfl ?_
    show Steps _ _ _ (T8.setTop (mkF m 40 #[vR a1, vI p2] [iI p2, iI 4, iR b])) _
    refine XS.i2b X8.here hx rfl (hb hby d7_40) rfl ?_
    show Steps _ _ _ (T8.setTop (mkF m 41 #[vR a1, vI p2] [iI p2.toInt8.toInt32, iI 4, iR b])) _
    refine st12 _ ?_
    show Steps _ _ _ (T12.setTop (mkF m 42 #[vR a1, vI p2] [])) _
    refine XS.goto X12.here hx rfl (pc0 := 42) (pc' := 75) rfl (hb hby d7_42) (by decide) (by decide) ?_
    show Steps _ _ _ (T12.setTop (mkF m 75 #[vR a1, vI p2] [])) _
    refine XS.aloadN X12.here hx rfl (hb hby d7_75) rfl rfl ?_
    show Steps _ _ _ (T12.setTop (mkF m 76 #[vR a1, vI p2] [iR a1])) _
    jvm_step X12.here [X12.here.top, hx, (hb hby d7_76), X12.method', Bd.returns, Value.isRef, FieldType.isReference]
    first | (intro acts; rw [hr _ acts rfl rfl rfl]) | rw [hr _ _ rfl rfl rfl]
    exact Steps.refl _
  · show Q7_4 Z a1 p2 b kb nz c0 c1 c2 c3 c4 c5 c6 c7 cs h0 n0 _ T12.heap _
    rw [e12]
    exact ⟨rfl, N12, K12, fk13, fk14, fk15, fk16, V12⟩
theorem ef_6_4 (m : MethodId) (x0 : Addr) (x1 : Int32) : entryFrame m #[(.ref x0), (.int x1)] 2 = mkF m 0 #[.val (.ref x0), .val (.int x1)] [] := by first | (simp [entryFrame, mkF, argsToLocals, Value.category]; done) | rfl
def Q6_4 (Z : State) (a1 : Addr) (p2 : Int32) (b : Addr) (kb : ClassId) (nz : Int32) (c0 : Int32) (c1 : Int32) (c2 : Int32) (c3 : Int32) (c4 : Int32) (c5 : Int32) (c6 : Int32) (c7 : Int32) (cs : Int32) (h0 : Heap) (n0 : Nat) (v : Option Value) (h : Heap) (L : List Loc) : Prop := v = some (.ref a1) ∧ Fr n0 L ∧ Keep h0 h [a1, b] ∧ Exa Z h a1 "java/lang/StringBuilder" ∧ Fld Z h a1 "java/lang/AbstractStringBuilder" "value" "[B" (.ref b) ∧ Fld Z h a1 "java/lang/AbstractStringBuilder" "coder" "B" (.int (0 : Int32)) ∧ Fld Z h a1 "java/lang/AbstractStringBuilder" "count" "I" (.int (5 : Int32)) ∧ Arv Z h b kb .byte nz [(.int c0), (.int c1), (.int c2), (.int c3), (.int (nar .byte p2.toInt8.toInt32)), (.int c5), (.int c6), (.int c7)] (.int (0 : Int32))
set_option maxRecDepth 65536 in
set_option maxHeartbeats 40000000 in
theorem rm6_4 (l : Launch) (Z : State) (a0 : Array Value) (hw : ∀ d ∈ tables_1, d.before a0 Z = true) (ws : List Jvm.Cond) (a1 : Addr) (p2 : Int32) (b : Addr) (kb : ClassId) (nz : Int32) (c0 : Int32) (c1 : Int32) (c2 : Int32) (c3 : Int32) (c4 : Int32) (c5 : Int32) (c6 : Int32) (c7 : Int32) (cs : Int32) (h0 : Heap) (n0 : Nat) (Z0 : n0 ≤ h0.size) (O0 : Old Z n0 h0) (E_a1 : Exa Z h0 a1 "java/lang/StringBuilder") (g_a1 : n0 ≤ a1) (g_b : n0 ≤ b) (F_v : Fld Z h0 a1 "java/lang/AbstractStringBuilder" "value" "[B" (.ref b)) (F_c : Fld Z h0 a1 "java/lang/AbstractStringBuilder" "coder" "B" (.int (0 : Int32))) (F_n : Fld Z h0 a1 "java/lang/AbstractStringBuilder" "count" "I" (.int (4 : Int32))) (V_b : Arv Z h0 b kb .byte nz [(.int c0), (.int c1), (.int c2), (.int c3), (.int c4), (.int c5), (.int c6), (.int c7)] (.int (0 : Int32))) (ne_a1_b : a1 ≠ b) (hi : (4 : Int32) < nz) (hl : ¬ (255 : Int32) < p2) (S_CS : Sta Z Z.heap "java/lang/String" "COMPACT_STRINGS" "Z" (.int cs)) (h_cs : ¬ cs = (0 : Int32)) :
    MetFree l (⟨"java/lang/StringBuilder", "append", "(C)Ljava/lang/StringBuilder;"⟩ : MethodName) (head1 (Jvm.Cond.code (⟨"java/lang/StringBuilder", "append", "(C)Ljava/lang/StringBuilder;"⟩ : MethodName) jdk_67_method_14_code 2 (some (.object "java/lang/StringBuilder")) :: ws) ({ frames := 2, cells := 0, slots := 0, locals := 27 } : Room)) (fun a U => a = #[(.ref a1), (.int p2)] ∧ Z.Warmed39 U.vm ∧ U.heap = h0) (fun _ _ _ _ _ => True) (fun _ U o U' => ∃ v L, o = .returned v ∧ Q6_4 Z a1 p2 b kb nz c0 c1 c2 c3 c4 c5 c6 c7 cs h0 n0 v U'.heap L ∧ FrameEnd U o U' L ({ frames := 2, cells := 0, slots := 0, locals := 27 } : Room).cells ({ frames := 2, cells := 0, slots := 0, locals := 27 } : Room).slots) := by
  refine MetFree.of_bodySF (plainFor_of_name pn_1) hisR ?_
  intro p e s m args below meth c s₁ Bd hml0 hP hK
  obtain ⟨rfl, hZ, hh⟩ := hP
  have hx := Bd.exec
  have hby := Bd.bytes
  have hml : c.maxLocals = 2 := hml0
  have hown : s.vm.findClass "java/lang/StringBuilder" = some m.cls := findClass_of_methodNamed Bd.named
  have hnm := (name_of_methodNamed Bd.named Bd.method).1
  have X0 : Stand p l e ({ frames := 2, cells := 0, slots := 0, locals := 27 } : Room) s m #[(.ref a1), (.int p2)] below meth c s₁ [] 0 0 := Stand.of_body Bd
  have e0 : s₁.heap = h0 := by rw [← hh, Bd.state]; rfl
  have N0 := Fr.nil n0
  have K0 := Keep.refl h0 [a1, b]
  have pre0 : ∀ t, Steps p.tables e below (s₁.setTop (mkF m 0 #[.val (.ref a1), .val (.int p2)] [])) t → Steps p.tables e below (s₁.setTop (entryFrame m #[(.ref a1), (.int p2)] 2)) t := fun t k => castTop (ef_6_4 m a1 p2) k
  obtain ⟨_, _, ⟨T1, L1, k1, n1⟩, -, X1, ⟨Lc1, hQ1, l1, y1, z1⟩, st1⟩ := superBack X0 hx hZ (y := (⟨"java/lang/AbstractStringBuilder", "append", "(C)Ljava/lang/AbstractStringBuilder;"⟩ : MethodName)) hown (hw _ (List.mem_of_getElem? (i := 37) rfl)) (own_same (hw _ (List.mem_of_getElem? (i := 38) rfl)) (own_nf (z := (⟨"java/lang/AbstractStringBuilder", "ensureCapacityInternal", "(I)V"⟩ : MethodName)) rfl (notFace_of_selects (hw _ (List.mem_of_getElem? (i := 47) rfl))) (hw _ (List.mem_of_getElem? (i := 45) rfl))) (by decide)) (hw _ (List.mem_of_getElem? (i := 38) rfl)) (hw _ (List.mem_of_getElem? (i := 39) rfl)) (by decide) (backOf (W := 0) (rm7_4 l Z a0 hw [] a1 p2 b kb nz c0 c1 c2 c3 c4 c5 c6 c7 cs h0 n0 (Nat.le_trans Z0 K0.1) O0 E_a1 g_a1 g_b F_v F_c F_n V_b ne_a1_b hi hl S_CS h_cs) hZ (hw _ (List.mem_of_getElem? (i := 41) rfl)) (hw _ (List.mem_of_getElem? (i := 16) rfl)) (by decide) (by decide)) e0 (Ins.self E_a1) (g := (mkF m 2 #[vR a1, vI p2] [iI p2, iR a1])) rfl (by rw [hml]; rfl) (hw _ (List.mem_of_getElem? (i := 41) rfl)) (argsL := [(.int p2)]) (rest := []) (lenOf pd_3 rfl) rfl (by show 2 * 0 + _ ≤ _; exact Nat.le_of_eq rfl) (hb hby d6_2) (fun _ _ => ⟨rfl, e0, (by decide : 0 + 0 ≤ _), (by decide : 0 + 0 ≤ _)⟩)
  dsimp only [Pt.U, Pt.locs, Pt.cells, Pt.slots] at X1 l1 y1 z1 st1 hQ1
  subst l1 y1 z1
  obtain ⟨rfl, N1q, K1q, E1q, Fv1q, Fc1q, Fn1q, V1q⟩ := hQ1
  have N1 := Fr.app N0 N1q
  have K1 : Keep h0 T1.heap [a1, b] := Keep.trans K0 K1q (allS (Or.inl (List.mem_of_getElem? (i := 0) rfl)) (allS (Or.inl (List.mem_of_getElem? (i := 1) rfl)) all0))
  obtain ⟨fs, hr, hrun, hended, hW, hsame⟩ := X1.leave (v := some (.ref a1)) (fun h => by rw [Bd.returns] at h; cases h)
  refine ⟨_, _, pre0 _ ?_, hrun, hended, _, _, rfl, ?_, ⟨_, rfl⟩, hW, hsame.mono (by decide) (by decide)⟩
  · show Steps _ _ _ (s₁.setTop (mkF m 0 #[vR a1, vI p2] [])) _
    refine XS.aloadN X0.here hx rfl (hb hby d6_0) rfl rfl ?_
    show Steps _ _ _ (s₁.setTop (mkF m 1 #[vR a1, vI p2] [iR a1])) _
    refine XS.iloadN X0.here hx rfl (hb hby d6_1) rfl ?_
    show Steps _ _ _ (s₁.setTop (mkF m 2 #[vR a1, vI p2] [iI p2, iR a1])) _
    refine st1.trans ?_
    show Steps _ _ _ (T1.setTop (mkF m 5 #[vR a1, vI p2] [iR a1])) _
    refine XS.pop X1.here hx rfl (hb hby d6_5) rfl rfl ?_
    show Steps _ _ _ (T1.setTop (mkF m 6 #[vR a1, vI p2] [])) _
    refine XS.aloadN X1.here hx rfl (hb hby d6_6) rfl rfl ?_
    show Steps _ _ _ (T1.setTop (mkF m 7 #[vR a1, vI p2] [iR a1])) _
    jvm_step X1.here [X1.here.top, hx, (hb hby d6_7), X1.method', Bd.returns, Value.isRef, FieldType.isReference]
    first | (intro acts; rw [hr _ acts rfl rfl rfl]) | rw [hr _ _ rfl rfl rfl]
    exact Steps.refl _
  · show Q6_4 Z a1 p2 b kb nz c0 c1 c2 c3 c4 c5 c6 c7 cs h0 n0 _ T1.heap _
    exact ⟨rfl, N1, K1, E1q, Fv1q, Fc1q, Fn1q, V1q⟩
theorem own_nle5 {nz : Int32} (h : (5 : Int32) < nz) : ¬ nz < (6 : Int32) := by
  have e1 : (5 : Int32).toInt = 5 := rfl
  have e2 : (6 : Int32).toInt = 6 := rfl
  rw [Int32.lt_iff_toInt_lt] at *; omega
theorem ef_7_5 (m : MethodId) (x0 : Addr) (x1 : Int32) : entryFrame m #[(.ref x0), (.int x1)] 2 = mkF m 0 #[.val (.ref x0), .val (.int x1)] [] := by first | (simp [entryFrame, mkF, argsToLocals, Value.category]; done) | rfl
def Q7_5 (Z : State) (a1 : Addr) (p2 : Int32) (b : Addr) (kb : ClassId) (nz : Int32) (c0 : Int32) (c1 : Int32) (c2 : Int32) (c3 : Int32) (c4 : Int32) (c5 : Int32) (c6 : Int32) (c7 : Int32) (cs : Int32) (h0 : Heap) (n0 : Nat) (v : Option Value) (h : Heap) (L : List Loc) : Prop := v = some (.ref a1) ∧ Fr n0 L ∧ Keep h0 h [a1, b] ∧ Exa Z h a1 "java/lang/StringBuilder" ∧ Fld Z h a1 "java/lang/AbstractStringBuilder" "value" "[B" (.ref b) ∧ Fld Z h a1 "java/lang/AbstractStringBuilder" "coder" "B" (.int (0 : Int32)) ∧ Fld Z h a1 "java/lang/AbstractStringBuilder" "count" "I" (.int (6 : Int32)) ∧ Arv Z h b kb .byte nz [(.int c0), (.int c1), (.int c2), (.int c3), (.int c4), (.int (nar .byte p2.toInt8.toInt32)), (.int c6), (.int c7)] (.int (0 : Int32))
set_option maxRecDepth 65536 in
set_option maxHeartbeats 40000000 in
theorem rm7_5 (l : Launch) (Z : State) (a0 : Array Value) (hw : ∀ d ∈ tables_1, d.before a0 Z = true) (ws : List Jvm.Cond) (a1 : Addr) (p2 : Int32) (b : Addr) (kb : ClassId) (nz : Int32) (c0 : Int32) (c1 : Int32) (c2 : Int32) (c3 : Int32) (c4 : Int32) (c5 : Int32) (c6 : Int32) (c7 : Int32) (cs : Int32) (h0 : Heap) (n0 : Nat) (Z0 : n0 ≤ h0.size) (O0 : Old Z n0 h0) (E_a1 : Exa Z h0 a1 "java/lang/StringBuilder") (g_a1 : n0 ≤ a1) (g_b : n0 ≤ b) (F_v : Fld Z h0 a1 "java/lang/AbstractStringBuilder" "value" "[B" (.ref b)) (F_c : Fld Z h0 a1 "java/lang/AbstractStringBuilder" "coder" "B" (.int (0 : Int32))) (F_n : Fld Z h0 a1 "java/lang/AbstractStringBuilder" "count" "I" (.int (5 : Int32))) (V_b : Arv Z h0 b kb .byte nz [(.int c0), (.int c1), (.int c2), (.int c3), (.int c4), (.int c5), (.int c6), (.int c7)] (.int (0 : Int32))) (ne_a1_b : a1 ≠ b) (hi : (5 : Int32) < nz) (hl : ¬ (255 : Int32) < p2) (S_CS : Sta Z Z.heap "java/lang/String" "COMPACT_STRINGS" "Z" (.int cs)) (h_cs : ¬ cs = (0 : Int32)) :
    MetFree l (⟨"java/lang/AbstractStringBuilder", "append", "(C)Ljava/lang/AbstractStringBuilder;"⟩ : MethodName) (head1 (Jvm.Cond.code (⟨"java/lang/AbstractStringBuilder", "append", "(C)Ljava/lang/AbstractStringBuilder;"⟩ : MethodName) jdk_68_method_31_code 2 (some (.object "java/lang/AbstractStringBuilder")) :: ws) ({ frames := 1, cells := 0, slots := 0, locals := 14 } : Room)) (fun a U => a = #[(.ref a1), (.int p2)] ∧ Z.Warmed39 U.vm ∧ U.heap = h0) (fun _ _ _ _ _ => True) (fun _ U o U' => ∃ v L, o = .returned v ∧ Q7_5 Z a1 p2 b kb nz c0 c1 c2 c3 c4 c5 c6 c7 cs h0 n0 v U'.heap L ∧ FrameEnd U o U' L ({ frames := 1, cells := 0, slots := 0, locals := 14 } : Room).cells ({ frames := 1, cells := 0, slots := 0, locals := 14 } : Room).slots) := by
  refine MetFree.of_bodySF (plainFor_of_name pn_0) hisR ?_
  intro p e s m args below meth c s₁ Bd hml0 hP hK
  obtain ⟨rfl, hZ, hh⟩ := hP
  have hx := Bd.exec
  have hby := Bd.bytes
  have hml : c.maxLocals = 2 := hml0
  have hown : s.vm.findClass "java/lang/AbstractStringBuilder" = some m.cls := findClass_of_methodNamed Bd.named
  have hnm := (name_of_methodNamed Bd.named Bd.method).1
  have X0 : Stand p l e ({ frames := 1, cells := 0, slots := 0, locals := 14 } : Room) s m #[(.ref a1), (.int p2)] below meth c s₁ [] 0 0 := Stand.of_body Bd
  have e0 : s₁.heap = h0 := by rw [← hh, Bd.state]; rfl
  have N0 := Fr.nil n0
  have K0 := Keep.refl h0 [a1, b]
  have pre0 : ∀ t, Steps p.tables e below (s₁.setTop (mkF m 0 #[.val (.ref a1), .val (.int p2)] [])) t → Steps p.tables e below (s₁.setTop (entryFrame m #[(.ref a1), (.int p2)] 2)) t := fun t k => castTop (ef_7_5 m a1 p2) k
  obtain ⟨T1, X1, e1, st1⟩ := getF X0 hx hZ hown (host := "") (Or.inl (hw _ (List.mem_of_getElem? (i := 42) rfl))) Via.refl e0 F_n (g := (mkF m 2 #[vR a1, vI p2] [iR a1, iR a1])) rfl rfl (hb hby d7_2)
  obtain ⟨cq2, q2, q2'⟩ := E_a1.cell
  obtain ⟨_, _, ⟨T2, L2, k2, n2⟩, -, X2, ⟨Lc2, hQ2, l2, y2, z2⟩, st2⟩ := X1.privateBack hx (y := (⟨"java/lang/AbstractStringBuilder", "ensureCapacityInternal", "(I)V"⟩ : MethodName)) hown (mvT hZ (hw _ (List.mem_of_getElem? (i := 44) rfl))) (mvT hZ (hw _ (List.mem_of_getElem? (i := 45) rfl))) (own_selPriv2 (own_nf (z := (⟨"java/lang/AbstractStringBuilder", "ensureCapacityInternal", "(I)V"⟩ : MethodName)) rfl (notFace_of_selects (args := #[]) (mvT hZ (hw _ (List.mem_of_getElem? (i := 47) rfl)))) (mvT hZ (hw _ (List.mem_of_getElem? (i := 45) rfl)) (args := #[]))) (Cond.privateMethod_at (mvP hZ (hw _ (List.mem_of_getElem? (i := 46) rfl)) (args := #[]))) (mvT hZ (hw _ (List.mem_of_getElem? (i := 45) rfl))) (by decide)) (Cond.privateMethod_at (mvP hZ (hw _ (List.mem_of_getElem? (i := 46) rfl)) (args := #[]))) (mvT hZ (hw _ (List.mem_of_getElem? (i := 48) rfl))) (by decide) (backOf (W := 0) (rm8 l Z a0 hw [] a1 (6 : Int32) b kb nz c0 c1 c2 c3 c4 c5 c6 c7 h0 F_v F_c V_b (own_nle5 hi) (by decide)) hZ (hw _ (List.mem_of_getElem? (i := 48) rfl)) (hw _ (List.mem_of_getElem? (i := 16) rfl)) (by decide) (by decide)) (g := (mkF m 7 #[vR a1, vI p2] [iI 6, iR a1])) rfl (by rw [hml]; rfl) (Steps.refl _) (a := a1) (by rw [e1]; exact q2) q2' (argsL := [(.int (6 : Int32))]) (rest := []) (lenOf pd_0 rfl) rfl (by show 2 * 0 + _ ≤ _; exact Nat.le_of_eq rfl) (hb hby d7_7) (fun _ _ => ⟨rfl, e1, (by decide : 0 + 0 ≤ _), (by decide : 0 + 0 ≤ _)⟩)
  dsimp only [Pt.U, Pt.locs, Pt.cells, Pt.slots] at X2 l2 y2 z2 st2 hQ2
  subst l2 y2 z2
  obtain ⟨rfl, rfl, e2⟩ := hQ2
  try rw [List.append_nil] at X2
  obtain ⟨cq3, kq3, q3a, q3b, q3c⟩ := isOf hZ e2 E_a1
  obtain ⟨_, _, ⟨T3, L3, k3, n3⟩, -, X3, ⟨Lc3, hQ3, l3, y3, z3⟩, st3⟩ := X2.virtualBack hx (y := (⟨"java/lang/AbstractStringBuilder", "isLatin1", "()Z"⟩ : MethodName)) (z := (⟨"java/lang/AbstractStringBuilder", "isLatin1", "()Z"⟩ : MethodName)) hown (mvT hZ (hw _ (List.mem_of_getElem? (i := 49) rfl))) (mvT hZ (hw _ (List.mem_of_getElem? (i := 50) rfl))) (notFace_of_selects (args := #[]) (mvT hZ (hw _ (List.mem_of_getElem? (i := 52) rfl)))) (mvT hZ (hw _ (List.mem_of_getElem? (i := 52) rfl))) (mvT hZ (hw _ (List.mem_of_getElem? (i := 51) rfl))) (by decide) (backOf (W := 0) (rm9 l Z a0 hw [] a1 cs h0 n0 O0 F_c S_CS h_cs) hZ (hw _ (List.mem_of_getElem? (i := 53) rfl)) (hw _ (List.mem_of_getElem? (i := 16) rfl)) (by decide) (by decide)) q3a q3c (g := (mkF m 11 #[vR a1, vI p2] [iR a1])) rfl (by rw [hml]; rfl) (Steps.refl _) (argsL := []) (rest := []) (lenOf pd_1 rfl) rfl (by show 2 * 0 + _ ≤ _; exact Nat.le_of_eq rfl) (hb hby d7_11) (fun _ _ => ⟨rfl, e2, (by decide : 0 + 0 ≤ _), (by decide : 0 + 0 ≤ _)⟩)
  dsimp only [Pt.U, Pt.locs, Pt.cells, Pt.slots] at X3 l3 y3 z3 st3 hQ3
  subst l3 y3 z3
  obtain ⟨rfl, rfl, e3⟩ := hQ3
  try rw [List.append_nil] at X3
  obtain ⟨_, _, ⟨T4, L4, k4, n4⟩, -, X4, ⟨Lc4, hQ4, l4, y4, z4⟩, st4⟩ := Jvm.LawKit.callS X3 hx (y := (⟨"java/lang/StringLatin1", "canEncode", "(C)Z"⟩ : MethodName)) hown (mvT hZ (hw _ (List.mem_of_getElem? (i := 54) rfl))) (mvT hZ (hw _ (List.mem_of_getElem? (i := 55) rfl))) (mvT hZ (hw _ (List.mem_of_getElem? (i := 56) rfl))) (mvT hZ (hw _ (List.mem_of_getElem? (i := 57) rfl))) (by decide) (backOf (W := 0) (rm10 l Z a0 hw [] p2 h0 ) hZ (hw _ (List.mem_of_getElem? (i := 57) rfl)) (hw _ (List.mem_of_getElem? (i := 56) rfl)) (by decide) (by decide)) (g := (mkF m 18 #[vR a1, vI p2] [iI p2])) rfl (by rw [hml]; rfl) (argsL := [(.int p2)]) (rest := []) (lenOf pd_2 rfl) rfl (by show 2 * 0 + _ ≤ _; exact Nat.le_of_eq rfl) (hb hby d7_18) (fun _ _ => ⟨rfl, e3, (by decide : 0 + 0 ≤ _), (by decide : 0 + 0 ≤ _)⟩)
  dsimp only [Pt.U, Pt.locs, Pt.cells, Pt.slots] at X4 l4 y4 z4 st4 hQ4
  subst l4 y4 z4
  obtain ⟨rfl, rfl, e4⟩ := hQ4
  try rw [List.append_nil] at X4
  have hh5 : ¬ ((own_can p2) = (0 : Int32)) := (by unfold own_can; rw [if_neg hl]; decide)
  obtain ⟨T6, X6, e6, st6⟩ := getF X4 hx hZ hown (host := "") (Or.inl (hw _ (List.mem_of_getElem? (i := 24) rfl))) Via.refl e4 F_v (g := (mkF m 25 #[vR a1, vI p2] [iR a1])) rfl rfl (hb hby d7_25)
  obtain ⟨T7, X7, e7, st7⟩ := getF X6 hx hZ hown (host := "") (Or.inl (hw _ (List.mem_of_getElem? (i := 42) rfl))) Via.refl e6 F_n (g := (mkF m 30 #[vR a1, vI p2] [iR a1, iR a1, iR b])) rfl rfl (hb hby d7_30)
  obtain ⟨T8, h8, X8, e8, W8, st8⟩ := putF X7 hx hZ hown (host := "") (Or.inl (hw _ (List.mem_of_getElem? (i := 42) rfl))) Via.refl e7 F_n E_a1 (Or.inl (hw _ (List.mem_of_getElem? (i := 43) rfl))) (hw _ (List.mem_of_getElem? (i := 7) rfl)) (ty := .int) (by decide) rfl rfl (g := (mkF m 36 #[vR a1, vI p2] [iI 6, iR a1, iI 5, iR b])) rfl rfl (hb hby d7_36)
  have Fw8 := F_n.same W8
  have K8 : Keep h0 h8 [a1, b] := K0.wr W8 (Or.inl (List.mem_of_getElem? (i := 0) rfl))
  have N8 := Fr.snoc X8 N0 g_a1
  have fk9 := (V_b.other W8 (Ne.symm ne_a1_b))
  obtain ⟨cl10, Ar10, q10, S10, M10, H10, G10⟩ := id fk9
  have hin11 : ¬ ((5 : Int32) < 0 ∨ cl10.slots.size ≤ ((5 : Int32)).toNatClampNeg) := inb_of S10 ⟨by decide, hi⟩
  obtain ⟨T12, h12, X12, e12, W12, st12⟩ := stB X8 hx hZ e8 Ar10 (j := (5 : Int32)) hin11 (g := (mkF m 41 #[vR a1, vI p2] [iI p2.toInt8.toInt32, iI 5, iR b])) rfl rfl (hb hby d7_41)
  have V12 : Arv Z h12 b kb .byte nz [(.int c0), (.int c1), (.int c2), (.int c3), (.int c4), (.int (nar .byte p2.toInt8.toInt32)), (.int c6), (.int c7)] (.int (0 : Int32)) := Arv.set Ar10 q10 S10 M10 H10 G10 (fits_nar_byte _) W12 5 rfl (Nat.le_of_ble_eq_true rfl)
  have K12 : Keep h0 h12 [a1, b] := K8.wr W12 (Or.inl (List.mem_of_getElem? (i := 1) rfl))
  have N12 := Fr.snoc X12 N8 g_b
  obtain ⟨fs, hr, hrun, hended, hW, hsame⟩ := X12.leave (v := some (.ref a1)) (fun h => by rw [Bd.returns] at h; cases h)
  have fk13 := ((E_a1.wr W8).wr W12)
  have fk14 := ((F_v.other W8 (Or.inr (slot_ne (Or.inl (hw _ (List.mem_of_getElem? (i := 25) rfl))) (Or.inl (hw _ (List.mem_of_getElem? (i := 43) rfl))) (by decide) (t := (.array .byte)) (t' := .int) (by decide) (by decide)))).other W12 (Or.inl ne_a1_b))
  have fk15 := ((F_c.other W8 (Or.inr (slot_ne (Or.inl (hw _ (List.mem_of_getElem? (i := 27) rfl))) (Or.inl (hw _ (List.mem_of_getElem? (i := 43) rfl))) (by decide) (t := .byte) (t' := .int) (by decide) (by decide)))).other W12 (Or.inl ne_a1_b))
  have fk16 := (Fw8.other W12 (Or.inl ne_a1_b))
  refine ⟨_, _, pre0 _ ?_, hrun, hended, _, _, rfl, ?_, ⟨_, rfl⟩, hW, hsame.mono (by decide) (by decide)⟩
  · show Steps _ _ _ (s₁.setTop (mkF m 0 #[vR a1, vI p2] [])) _
    refine XS.aloadN X0.here hx rfl (hb hby d7_0) rfl rfl ?_
    show Steps _ _ _ (s₁.setTop (mkF m 1 #[vR a1, vI p2] [iR a1])) _
    refine XS.aloadN X0.here hx rfl (hb hby d7_1) rfl rfl ?_
    show Steps _ _ _ (s₁.setTop (mkF m 2 #[vR a1, vI p2] [iR a1, iR a1])) _
    refine st1 _ ?_
    show Steps _ _ _ (T1.setTop (mkF m 5 #[vR a1, vI p2] [iI 5, iR a1])) _
    refine XS.iconst X1.here hx rfl (hb hby d7_5) ?_
    show Steps _ _ _ (T1.setTop (mkF m 6 #[vR a1, vI p2] [iI 1, iI 5, iR a1])) _
    refine XS.iadd X1.here hx rfl (hb hby d7_6) rfl ?_
    rw [(by decide : ((5 : Int32) + (1 : Int32)) = (6 : Int32))]
    show Steps _ _ _ (T1.setTop (mkF m 7 #[vR a1, vI p2] [iI 6, iR a1])) _
    refine st2.trans ?_
    show Steps _ _ _ (T2.setTop (mkF m 10 #[vR a1, vI p2] [])) _
    refine XS.aloadN X2.here hx rfl (hb hby d7_10) rfl rfl ?_
    show Steps _ _ _ (T2.setTop (mkF m 11 #[vR a1, vI p2] [iR a1])) _
    refine st3.trans ?_
    show Steps _ _ _ (T3.setTop (mkF m 14 #[vR a1, vI p2] [iI 1])) _
    refine XS.ifNo X3.here hx rfl (hb hby d7_14) rfl ((if0 _ _).trans (feq (by decide : ¬ ((1 : Int32) = (0 : Int32)))).1) ?_
    show Steps _ _ _ (T3.setTop (mkF m 17 #[vR a1, vI p2] [])) _
    refine XS.iloadN X3.here hx rfl (hb hby d7_17) rfl ?_
    show Steps _ _ _ (T3.setTop (mkF m 18 #[vR a1, vI p2] [iI p2])) _
    refine st4 _ ?_
    show Steps _ _ _ (T4.setTop (mkF m 21 #[vR a1, vI p2] [iI (own_can p2)])) _
    refine XS.ifNo X4.here hx rfl (hb hby d7_21) rfl ((if0 _ _).trans (feq hh5).1) ?_
    show Steps _ _ _ (T4.setTop (mkF m 24 #[vR a1, vI p2] [])) _
    refine XS.aloadN X4.here hx rfl (hb hby d7_24) rfl rfl ?_
    show Steps _ _ _ (T4.setTop (mkF m 25 #[vR a1, vI p2] [iR a1])) _
    refine st6 _ ?_
    show Steps _ _ _ (T6.setTop (mkF m 28 #[vR a1, vI p2] [iR b])) _
    refine XS.aloadN X6.here hx rfl (hb hby d7_28) rfl rfl ?_
    show Steps _ _ _ (T6.setTop (mkF m 29 #[vR a1, vI p2] [iR a1, iR b])) _
    refine XS.dup X6.here hx rfl (hb hby d7_29) rfl rfl ?_
    show Steps _ _ _ (T6.setTop (mkF m 30 #[vR a1, vI p2] [iR a1, iR a1, iR b])) _
    refine st7 _ ?_
    show Steps _ _ _ (T7.setTop (mkF m 33 #[vR a1, vI p2] [iI 5, iR a1, iR b])) _
    refine XS.dupX1 X7.here hx rfl (hb hby d7_33) rfl rfl rfl ?_
    show Steps _ _ _ (T7.setTop (mkF m 34 #[vR a1, vI p2] [iI 5, iR a1, iI 5, iR b])) _
    refine XS.iconst X7.here hx rfl (hb hby d7_34) ?_
    show Steps _ _ _ (T7.setTop (mkF m 35 #[vR a1, vI p2] [iI 1, iI 5, iR a1, iI 5, iR b])) _
    refine XS.iadd X7.here hx rfl (hb hby d7_35) rfl ?_
    rw [(by decide : ((5 : Int32) + (1 : Int32)) = (6 : Int32))]
    show Steps _ _ _ (T7.setTop (mkF m 36 #[vR a1, vI p2] [iI 6, iR a1, iI 5, iR b])) _
    refine st8 _ ?_
    show Steps _ _ _ (T8.setTop (mkF m 39 #[vR a1, vI p2] [iI 5, iR b])) _
    refine XS.iloadN X8.here hx rfl (hb hby d7_39) rfl ?_
    show Steps _ _ _ (T8.setTop (mkF m 40 #[vR a1, vI p2] [iI p2, iI 5, iR b])) _
    refine XS.i2b X8.here hx rfl (hb hby d7_40) rfl ?_
    show Steps _ _ _ (T8.setTop (mkF m 41 #[vR a1, vI p2] [iI p2.toInt8.toInt32, iI 5, iR b])) _
    refine st12 _ ?_
    show Steps _ _ _ (T12.setTop (mkF m 42 #[vR a1, vI p2] [])) _
    refine XS.goto X12.here hx rfl (pc0 := 42) (pc' := 75) rfl (hb hby d7_42) (by decide) (by decide) ?_
    show Steps _ _ _ (T12.setTop (mkF m 75 #[vR a1, vI p2] [])) _
    refine XS.aloadN X12.here hx rfl (hb hby d7_75) rfl rfl ?_
    show Steps _ _ _ (T12.setTop (mkF m 76 #[vR a1, vI p2] [iR a1])) _
    jvm_step X12.here [X12.here.top, hx, (hb hby d7_76), X12.method', Bd.returns, Value.isRef, FieldType.isReference]
    first | (intro acts; rw [hr _ acts rfl rfl rfl]) | rw [hr _ _ rfl rfl rfl]
    exact Steps.refl _
  · show Q7_5 Z a1 p2 b kb nz c0 c1 c2 c3 c4 c5 c6 c7 cs h0 n0 _ T12.heap _
    rw [e12]
    exact ⟨rfl, N12, K12, fk13, fk14, fk15, fk16, V12⟩
theorem ef_6_5 (m : MethodId) (x0 : Addr) (x1 : Int32) : entryFrame m #[(.ref x0), (.int x1)] 2 = mkF m 0 #[.val (.ref x0), .val (.int x1)] [] := by first | (simp [entryFrame, mkF, argsToLocals, Value.category]; done) | rfl
def Q6_5 (Z : State) (a1 : Addr) (p2 : Int32) (b : Addr) (kb : ClassId) (nz : Int32) (c0 : Int32) (c1 : Int32) (c2 : Int32) (c3 : Int32) (c4 : Int32) (c5 : Int32) (c6 : Int32) (c7 : Int32) (cs : Int32) (h0 : Heap) (n0 : Nat) (v : Option Value) (h : Heap) (L : List Loc) : Prop := v = some (.ref a1) ∧ Fr n0 L ∧ Keep h0 h [a1, b] ∧ Exa Z h a1 "java/lang/StringBuilder" ∧ Fld Z h a1 "java/lang/AbstractStringBuilder" "value" "[B" (.ref b) ∧ Fld Z h a1 "java/lang/AbstractStringBuilder" "coder" "B" (.int (0 : Int32)) ∧ Fld Z h a1 "java/lang/AbstractStringBuilder" "count" "I" (.int (6 : Int32)) ∧ Arv Z h b kb .byte nz [(.int c0), (.int c1), (.int c2), (.int c3), (.int c4), (.int (nar .byte p2.toInt8.toInt32)), (.int c6), (.int c7)] (.int (0 : Int32))
set_option maxRecDepth 65536 in
set_option maxHeartbeats 40000000 in
theorem rm6_5 (l : Launch) (Z : State) (a0 : Array Value) (hw : ∀ d ∈ tables_1, d.before a0 Z = true) (ws : List Jvm.Cond) (a1 : Addr) (p2 : Int32) (b : Addr) (kb : ClassId) (nz : Int32) (c0 : Int32) (c1 : Int32) (c2 : Int32) (c3 : Int32) (c4 : Int32) (c5 : Int32) (c6 : Int32) (c7 : Int32) (cs : Int32) (h0 : Heap) (n0 : Nat) (Z0 : n0 ≤ h0.size) (O0 : Old Z n0 h0) (E_a1 : Exa Z h0 a1 "java/lang/StringBuilder") (g_a1 : n0 ≤ a1) (g_b : n0 ≤ b) (F_v : Fld Z h0 a1 "java/lang/AbstractStringBuilder" "value" "[B" (.ref b)) (F_c : Fld Z h0 a1 "java/lang/AbstractStringBuilder" "coder" "B" (.int (0 : Int32))) (F_n : Fld Z h0 a1 "java/lang/AbstractStringBuilder" "count" "I" (.int (5 : Int32))) (V_b : Arv Z h0 b kb .byte nz [(.int c0), (.int c1), (.int c2), (.int c3), (.int c4), (.int c5), (.int c6), (.int c7)] (.int (0 : Int32))) (ne_a1_b : a1 ≠ b) (hi : (5 : Int32) < nz) (hl : ¬ (255 : Int32) < p2) (S_CS : Sta Z Z.heap "java/lang/String" "COMPACT_STRINGS" "Z" (.int cs)) (h_cs : ¬ cs = (0 : Int32)) :
    MetFree l (⟨"java/lang/StringBuilder", "append", "(C)Ljava/lang/StringBuilder;"⟩ : MethodName) (head1 (Jvm.Cond.code (⟨"java/lang/StringBuilder", "append", "(C)Ljava/lang/StringBuilder;"⟩ : MethodName) jdk_67_method_14_code 2 (some (.object "java/lang/StringBuilder")) :: ws) ({ frames := 2, cells := 0, slots := 0, locals := 27 } : Room)) (fun a U => a = #[(.ref a1), (.int p2)] ∧ Z.Warmed39 U.vm ∧ U.heap = h0) (fun _ _ _ _ _ => True) (fun _ U o U' => ∃ v L, o = .returned v ∧ Q6_5 Z a1 p2 b kb nz c0 c1 c2 c3 c4 c5 c6 c7 cs h0 n0 v U'.heap L ∧ FrameEnd U o U' L ({ frames := 2, cells := 0, slots := 0, locals := 27 } : Room).cells ({ frames := 2, cells := 0, slots := 0, locals := 27 } : Room).slots) := by
  refine MetFree.of_bodySF (plainFor_of_name pn_1) hisR ?_
  intro p e s m args below meth c s₁ Bd hml0 hP hK
  obtain ⟨rfl, hZ, hh⟩ := hP
  have hx := Bd.exec
  have hby := Bd.bytes
  have hml : c.maxLocals = 2 := hml0
  have hown : s.vm.findClass "java/lang/StringBuilder" = some m.cls := findClass_of_methodNamed Bd.named
  have hnm := (name_of_methodNamed Bd.named Bd.method).1
  have X0 : Stand p l e ({ frames := 2, cells := 0, slots := 0, locals := 27 } : Room) s m #[(.ref a1), (.int p2)] below meth c s₁ [] 0 0 := Stand.of_body Bd
  have e0 : s₁.heap = h0 := by rw [← hh, Bd.state]; rfl
  have N0 := Fr.nil n0
  have K0 := Keep.refl h0 [a1, b]
  have pre0 : ∀ t, Steps p.tables e below (s₁.setTop (mkF m 0 #[.val (.ref a1), .val (.int p2)] [])) t → Steps p.tables e below (s₁.setTop (entryFrame m #[(.ref a1), (.int p2)] 2)) t := fun t k => castTop (ef_6_5 m a1 p2) k
  obtain ⟨_, _, ⟨T1, L1, k1, n1⟩, -, X1, ⟨Lc1, hQ1, l1, y1, z1⟩, st1⟩ := superBack X0 hx hZ (y := (⟨"java/lang/AbstractStringBuilder", "append", "(C)Ljava/lang/AbstractStringBuilder;"⟩ : MethodName)) hown (hw _ (List.mem_of_getElem? (i := 37) rfl)) (own_same (hw _ (List.mem_of_getElem? (i := 38) rfl)) (own_nf (z := (⟨"java/lang/AbstractStringBuilder", "ensureCapacityInternal", "(I)V"⟩ : MethodName)) rfl (notFace_of_selects (hw _ (List.mem_of_getElem? (i := 47) rfl))) (hw _ (List.mem_of_getElem? (i := 45) rfl))) (by decide)) (hw _ (List.mem_of_getElem? (i := 38) rfl)) (hw _ (List.mem_of_getElem? (i := 39) rfl)) (by decide) (backOf (W := 0) (rm7_5 l Z a0 hw [] a1 p2 b kb nz c0 c1 c2 c3 c4 c5 c6 c7 cs h0 n0 (Nat.le_trans Z0 K0.1) O0 E_a1 g_a1 g_b F_v F_c F_n V_b ne_a1_b hi hl S_CS h_cs) hZ (hw _ (List.mem_of_getElem? (i := 41) rfl)) (hw _ (List.mem_of_getElem? (i := 16) rfl)) (by decide) (by decide)) e0 (Ins.self E_a1) (g := (mkF m 2 #[vR a1, vI p2] [iI p2, iR a1])) rfl (by rw [hml]; rfl) (hw _ (List.mem_of_getElem? (i := 41) rfl)) (argsL := [(.int p2)]) (rest := []) (lenOf pd_3 rfl) rfl (by show 2 * 0 + _ ≤ _; exact Nat.le_of_eq rfl) (hb hby d6_2) (fun _ _ => ⟨rfl, e0, (by decide : 0 + 0 ≤ _), (by decide : 0 + 0 ≤ _)⟩)
  dsimp only [Pt.U, Pt.locs, Pt.cells, Pt.slots] at X1 l1 y1 z1 st1 hQ1
  subst l1 y1 z1
  obtain ⟨rfl, N1q, K1q, E1q, Fv1q, Fc1q, Fn1q, V1q⟩ := hQ1
  have N1 := Fr.app N0 N1q
  have K1 : Keep h0 T1.heap [a1, b] := Keep.trans K0 K1q (allS (Or.inl (List.mem_of_getElem? (i := 0) rfl)) (allS (Or.inl (List.mem_of_getElem? (i := 1) rfl)) all0))
  obtain ⟨fs, hr, hrun, hended, hW, hsame⟩ := X1.leave (v := some (.ref a1)) (fun h => by rw [Bd.returns] at h; cases h)
  refine ⟨_, _, pre0 _ ?_, hrun, hended, _, _, rfl, ?_, ⟨_, rfl⟩, hW, hsame.mono (by decide) (by decide)⟩
  · show Steps _ _ _ (s₁.setTop (mkF m 0 #[vR a1, vI p2] [])) _
    refine XS.aloadN X0.here hx rfl (hb hby d6_0) rfl rfl ?_
    show Steps _ _ _ (s₁.setTop (mkF m 1 #[vR a1, vI p2] [iR a1])) _
    refine XS.iloadN X0.here hx rfl (hb hby d6_1) rfl ?_
    show Steps _ _ _ (s₁.setTop (mkF m 2 #[vR a1, vI p2] [iI p2, iR a1])) _
    refine st1.trans ?_
    show Steps _ _ _ (T1.setTop (mkF m 5 #[vR a1, vI p2] [iR a1])) _
    refine XS.pop X1.here hx rfl (hb hby d6_5) rfl rfl ?_
    show Steps _ _ _ (T1.setTop (mkF m 6 #[vR a1, vI p2] [])) _
    refine XS.aloadN X1.here hx rfl (hb hby d6_6) rfl rfl ?_
    show Steps _ _ _ (T1.setTop (mkF m 7 #[vR a1, vI p2] [iR a1])) _
    jvm_step X1.here [X1.here.top, hx, (hb hby d6_7), X1.method', Bd.returns, Value.isRef, FieldType.isReference]
    first | (intro acts; rw [hr _ acts rfl rfl rfl]) | rw [hr _ _ rfl rfl rfl]
    exact Steps.refl _
  · show Q6_5 Z a1 p2 b kb nz c0 c1 c2 c3 c4 c5 c6 c7 cs h0 n0 _ T1.heap _
    exact ⟨rfl, N1, K1, E1q, Fv1q, Fc1q, Fn1q, V1q⟩
theorem own_nle6 {nz : Int32} (h : (6 : Int32) < nz) : ¬ nz < (7 : Int32) := by
  have e1 : (6 : Int32).toInt = 6 := rfl
  have e2 : (7 : Int32).toInt = 7 := rfl
  rw [Int32.lt_iff_toInt_lt] at *; omega
theorem ef_7_6 (m : MethodId) (x0 : Addr) (x1 : Int32) : entryFrame m #[(.ref x0), (.int x1)] 2 = mkF m 0 #[.val (.ref x0), .val (.int x1)] [] := by first | (simp [entryFrame, mkF, argsToLocals, Value.category]; done) | rfl
def Q7_6 (Z : State) (a1 : Addr) (p2 : Int32) (b : Addr) (kb : ClassId) (nz : Int32) (c0 : Int32) (c1 : Int32) (c2 : Int32) (c3 : Int32) (c4 : Int32) (c5 : Int32) (c6 : Int32) (c7 : Int32) (cs : Int32) (h0 : Heap) (n0 : Nat) (v : Option Value) (h : Heap) (L : List Loc) : Prop := v = some (.ref a1) ∧ Fr n0 L ∧ Keep h0 h [a1, b] ∧ Exa Z h a1 "java/lang/StringBuilder" ∧ Fld Z h a1 "java/lang/AbstractStringBuilder" "value" "[B" (.ref b) ∧ Fld Z h a1 "java/lang/AbstractStringBuilder" "coder" "B" (.int (0 : Int32)) ∧ Fld Z h a1 "java/lang/AbstractStringBuilder" "count" "I" (.int (7 : Int32)) ∧ Arv Z h b kb .byte nz [(.int c0), (.int c1), (.int c2), (.int c3), (.int c4), (.int c5), (.int (nar .byte p2.toInt8.toInt32)), (.int c7)] (.int (0 : Int32))
set_option maxRecDepth 65536 in
set_option maxHeartbeats 40000000 in
theorem rm7_6 (l : Launch) (Z : State) (a0 : Array Value) (hw : ∀ d ∈ tables_1, d.before a0 Z = true) (ws : List Jvm.Cond) (a1 : Addr) (p2 : Int32) (b : Addr) (kb : ClassId) (nz : Int32) (c0 : Int32) (c1 : Int32) (c2 : Int32) (c3 : Int32) (c4 : Int32) (c5 : Int32) (c6 : Int32) (c7 : Int32) (cs : Int32) (h0 : Heap) (n0 : Nat) (Z0 : n0 ≤ h0.size) (O0 : Old Z n0 h0) (E_a1 : Exa Z h0 a1 "java/lang/StringBuilder") (g_a1 : n0 ≤ a1) (g_b : n0 ≤ b) (F_v : Fld Z h0 a1 "java/lang/AbstractStringBuilder" "value" "[B" (.ref b)) (F_c : Fld Z h0 a1 "java/lang/AbstractStringBuilder" "coder" "B" (.int (0 : Int32))) (F_n : Fld Z h0 a1 "java/lang/AbstractStringBuilder" "count" "I" (.int (6 : Int32))) (V_b : Arv Z h0 b kb .byte nz [(.int c0), (.int c1), (.int c2), (.int c3), (.int c4), (.int c5), (.int c6), (.int c7)] (.int (0 : Int32))) (ne_a1_b : a1 ≠ b) (hi : (6 : Int32) < nz) (hl : ¬ (255 : Int32) < p2) (S_CS : Sta Z Z.heap "java/lang/String" "COMPACT_STRINGS" "Z" (.int cs)) (h_cs : ¬ cs = (0 : Int32)) :
    MetFree l (⟨"java/lang/AbstractStringBuilder", "append", "(C)Ljava/lang/AbstractStringBuilder;"⟩ : MethodName) (head1 (Jvm.Cond.code (⟨"java/lang/AbstractStringBuilder", "append", "(C)Ljava/lang/AbstractStringBuilder;"⟩ : MethodName) jdk_68_method_31_code 2 (some (.object "java/lang/AbstractStringBuilder")) :: ws) ({ frames := 1, cells := 0, slots := 0, locals := 14 } : Room)) (fun a U => a = #[(.ref a1), (.int p2)] ∧ Z.Warmed39 U.vm ∧ U.heap = h0) (fun _ _ _ _ _ => True) (fun _ U o U' => ∃ v L, o = .returned v ∧ Q7_6 Z a1 p2 b kb nz c0 c1 c2 c3 c4 c5 c6 c7 cs h0 n0 v U'.heap L ∧ FrameEnd U o U' L ({ frames := 1, cells := 0, slots := 0, locals := 14 } : Room).cells ({ frames := 1, cells := 0, slots := 0, locals := 14 } : Room).slots) := by
  refine MetFree.of_bodySF (plainFor_of_name pn_0) hisR ?_
  intro p e s m args below meth c s₁ Bd hml0 hP hK
  obtain ⟨rfl, hZ, hh⟩ := hP
  have hx := Bd.exec
  have hby := Bd.bytes
  have hml : c.maxLocals = 2 := hml0
  have hown : s.vm.findClass "java/lang/AbstractStringBuilder" = some m.cls := findClass_of_methodNamed Bd.named
  have hnm := (name_of_methodNamed Bd.named Bd.method).1
  have X0 : Stand p l e ({ frames := 1, cells := 0, slots := 0, locals := 14 } : Room) s m #[(.ref a1), (.int p2)] below meth c s₁ [] 0 0 := Stand.of_body Bd
  have e0 : s₁.heap = h0 := by rw [← hh, Bd.state]; rfl
  have N0 := Fr.nil n0
  have K0 := Keep.refl h0 [a1, b]
  have pre0 : ∀ t, Steps p.tables e below (s₁.setTop (mkF m 0 #[.val (.ref a1), .val (.int p2)] [])) t → Steps p.tables e below (s₁.setTop (entryFrame m #[(.ref a1), (.int p2)] 2)) t := fun t k => castTop (ef_7_6 m a1 p2) k
  obtain ⟨T1, X1, e1, st1⟩ := getF X0 hx hZ hown (host := "") (Or.inl (hw _ (List.mem_of_getElem? (i := 42) rfl))) Via.refl e0 F_n (g := (mkF m 2 #[vR a1, vI p2] [iR a1, iR a1])) rfl rfl (hb hby d7_2)
  obtain ⟨cq2, q2, q2'⟩ := E_a1.cell
  obtain ⟨_, _, ⟨T2, L2, k2, n2⟩, -, X2, ⟨Lc2, hQ2, l2, y2, z2⟩, st2⟩ := X1.privateBack hx (y := (⟨"java/lang/AbstractStringBuilder", "ensureCapacityInternal", "(I)V"⟩ : MethodName)) hown (mvT hZ (hw _ (List.mem_of_getElem? (i := 44) rfl))) (mvT hZ (hw _ (List.mem_of_getElem? (i := 45) rfl))) (own_selPriv2 (own_nf (z := (⟨"java/lang/AbstractStringBuilder", "ensureCapacityInternal", "(I)V"⟩ : MethodName)) rfl (notFace_of_selects (args := #[]) (mvT hZ (hw _ (List.mem_of_getElem? (i := 47) rfl)))) (mvT hZ (hw _ (List.mem_of_getElem? (i := 45) rfl)) (args := #[]))) (Cond.privateMethod_at (mvP hZ (hw _ (List.mem_of_getElem? (i := 46) rfl)) (args := #[]))) (mvT hZ (hw _ (List.mem_of_getElem? (i := 45) rfl))) (by decide)) (Cond.privateMethod_at (mvP hZ (hw _ (List.mem_of_getElem? (i := 46) rfl)) (args := #[]))) (mvT hZ (hw _ (List.mem_of_getElem? (i := 48) rfl))) (by decide) (backOf (W := 0) (rm8 l Z a0 hw [] a1 (7 : Int32) b kb nz c0 c1 c2 c3 c4 c5 c6 c7 h0 F_v F_c V_b (own_nle6 hi) (by decide)) hZ (hw _ (List.mem_of_getElem? (i := 48) rfl)) (hw _ (List.mem_of_getElem? (i := 16) rfl)) (by decide) (by decide)) (g := (mkF m 7 #[vR a1, vI p2] [iI 7, iR a1])) rfl (by rw [hml]; rfl) (Steps.refl _) (a := a1) (by rw [e1]; exact q2) q2' (argsL := [(.int (7 : Int32))]) (rest := []) (lenOf pd_0 rfl) rfl (by show 2 * 0 + _ ≤ _; exact Nat.le_of_eq rfl) (hb hby d7_7) (fun _ _ => ⟨rfl, e1, (by decide : 0 + 0 ≤ _), (by decide : 0 + 0 ≤ _)⟩)
  dsimp only [Pt.U, Pt.locs, Pt.cells, Pt.slots] at X2 l2 y2 z2 st2 hQ2
  subst l2 y2 z2
  obtain ⟨rfl, rfl, e2⟩ := hQ2
  try rw [List.append_nil] at X2
  obtain ⟨cq3, kq3, q3a, q3b, q3c⟩ := isOf hZ e2 E_a1
  obtain ⟨_, _, ⟨T3, L3, k3, n3⟩, -, X3, ⟨Lc3, hQ3, l3, y3, z3⟩, st3⟩ := X2.virtualBack hx (y := (⟨"java/lang/AbstractStringBuilder", "isLatin1", "()Z"⟩ : MethodName)) (z := (⟨"java/lang/AbstractStringBuilder", "isLatin1", "()Z"⟩ : MethodName)) hown (mvT hZ (hw _ (List.mem_of_getElem? (i := 49) rfl))) (mvT hZ (hw _ (List.mem_of_getElem? (i := 50) rfl))) (notFace_of_selects (args := #[]) (mvT hZ (hw _ (List.mem_of_getElem? (i := 52) rfl)))) (mvT hZ (hw _ (List.mem_of_getElem? (i := 52) rfl))) (mvT hZ (hw _ (List.mem_of_getElem? (i := 51) rfl))) (by decide) (backOf (W := 0) (rm9 l Z a0 hw [] a1 cs h0 n0 O0 F_c S_CS h_cs) hZ (hw _ (List.mem_of_getElem? (i := 53) rfl)) (hw _ (List.mem_of_getElem? (i := 16) rfl)) (by decide) (by decide)) q3a q3c (g := (mkF m 11 #[vR a1, vI p2] [iR a1])) rfl (by rw [hml]; rfl) (Steps.refl _) (argsL := []) (rest := []) (lenOf pd_1 rfl) rfl (by show 2 * 0 + _ ≤ _; exact Nat.le_of_eq rfl) (hb hby d7_11) (fun _ _ => ⟨rfl, e2, (by decide : 0 + 0 ≤ _), (by decide : 0 + 0 ≤ _)⟩)
  dsimp only [Pt.U, Pt.locs, Pt.cells, Pt.slots] at X3 l3 y3 z3 st3 hQ3
  subst l3 y3 z3
  obtain ⟨rfl, rfl, e3⟩ := hQ3
  try rw [List.append_nil] at X3
  obtain ⟨_, _, ⟨T4, L4, k4, n4⟩, -, X4, ⟨Lc4, hQ4, l4, y4, z4⟩, st4⟩ := Jvm.LawKit.callS X3 hx (y := (⟨"java/lang/StringLatin1", "canEncode", "(C)Z"⟩ : MethodName)) hown (mvT hZ (hw _ (List.mem_of_getElem? (i := 54) rfl))) (mvT hZ (hw _ (List.mem_of_getElem? (i := 55) rfl))) (mvT hZ (hw _ (List.mem_of_getElem? (i := 56) rfl))) (mvT hZ (hw _ (List.mem_of_getElem? (i := 57) rfl))) (by decide) (backOf (W := 0) (rm10 l Z a0 hw [] p2 h0 ) hZ (hw _ (List.mem_of_getElem? (i := 57) rfl)) (hw _ (List.mem_of_getElem? (i := 56) rfl)) (by decide) (by decide)) (g := (mkF m 18 #[vR a1, vI p2] [iI p2])) rfl (by rw [hml]; rfl) (argsL := [(.int p2)]) (rest := []) (lenOf pd_2 rfl) rfl (by show 2 * 0 + _ ≤ _; exact Nat.le_of_eq rfl) (hb hby d7_18) (fun _ _ => ⟨rfl, e3, (by decide : 0 + 0 ≤ _), (by decide : 0 + 0 ≤ _)⟩)
  dsimp only [Pt.U, Pt.locs, Pt.cells, Pt.slots] at X4 l4 y4 z4 st4 hQ4
  subst l4 y4 z4
  obtain ⟨rfl, rfl, e4⟩ := hQ4
  try rw [List.append_nil] at X4
  have hh5 : ¬ ((own_can p2) = (0 : Int32)) := (by unfold own_can; rw [if_neg hl]; decide)
  obtain ⟨T6, X6, e6, st6⟩ := getF X4 hx hZ hown (host := "") (Or.inl (hw _ (List.mem_of_getElem? (i := 24) rfl))) Via.refl e4 F_v (g := (mkF m 25 #[vR a1, vI p2] [iR a1])) rfl rfl (hb hby d7_25)
  obtain ⟨T7, X7, e7, st7⟩ := getF X6 hx hZ hown (host := "") (Or.inl (hw _ (List.mem_of_getElem? (i := 42) rfl))) Via.refl e6 F_n (g := (mkF m 30 #[vR a1, vI p2] [iR a1, iR a1, iR b])) rfl rfl (hb hby d7_30)
  obtain ⟨T8, h8, X8, e8, W8, st8⟩ := putF X7 hx hZ hown (host := "") (Or.inl (hw _ (List.mem_of_getElem? (i := 42) rfl))) Via.refl e7 F_n E_a1 (Or.inl (hw _ (List.mem_of_getElem? (i := 43) rfl))) (hw _ (List.mem_of_getElem? (i := 7) rfl)) (ty := .int) (by decide) rfl rfl (g := (mkF m 36 #[vR a1, vI p2] [iI 7, iR a1, iI 6, iR b])) rfl rfl (hb hby d7_36)
  have Fw8 := F_n.same W8
  have K8 : Keep h0 h8 [a1, b] := K0.wr W8 (Or.inl (List.mem_of_getElem? (i := 0) rfl))
  have N8 := Fr.snoc X8 N0 g_a1
  have fk9 := (V_b.other W8 (Ne.symm ne_a1_b))
  obtain ⟨cl10, Ar10, q10, S10, M10, H10, G10⟩ := id fk9
  have hin11 : ¬ ((6 : Int32) < 0 ∨ cl10.slots.size ≤ ((6 : Int32)).toNatClampNeg) := inb_of S10 ⟨by decide, hi⟩
  obtain ⟨T12, h12, X12, e12, W12, st12⟩ := stB X8 hx hZ e8 Ar10 (j := (6 : Int32)) hin11 (g := (mkF m 41 #[vR a1, vI p2] [iI p2.toInt8.toInt32, iI 6, iR b])) rfl rfl (hb hby d7_41)
  have V12 : Arv Z h12 b kb .byte nz [(.int c0), (.int c1), (.int c2), (.int c3), (.int c4), (.int c5), (.int (nar .byte p2.toInt8.toInt32)), (.int c7)] (.int (0 : Int32)) := Arv.set Ar10 q10 S10 M10 H10 G10 (fits_nar_byte _) W12 6 rfl (Nat.le_of_ble_eq_true rfl)
  have K12 : Keep h0 h12 [a1, b] := K8.wr W12 (Or.inl (List.mem_of_getElem? (i := 1) rfl))
  have N12 := Fr.snoc X12 N8 g_b
  obtain ⟨fs, hr, hrun, hended, hW, hsame⟩ := X12.leave (v := some (.ref a1)) (fun h => by rw [Bd.returns] at h; cases h)
  have fk13 := ((E_a1.wr W8).wr W12)
  have fk14 := ((F_v.other W8 (Or.inr (slot_ne (Or.inl (hw _ (List.mem_of_getElem? (i := 25) rfl))) (Or.inl (hw _ (List.mem_of_getElem? (i := 43) rfl))) (by decide) (t := (.array .byte)) (t' := .int) (by decide) (by decide)))).other W12 (Or.inl ne_a1_b))
  have fk15 := ((F_c.other W8 (Or.inr (slot_ne (Or.inl (hw _ (List.mem_of_getElem? (i := 27) rfl))) (Or.inl (hw _ (List.mem_of_getElem? (i := 43) rfl))) (by decide) (t := .byte) (t' := .int) (by decide) (by decide)))).other W12 (Or.inl ne_a1_b))
  have fk16 := (Fw8.other W12 (Or.inl ne_a1_b))
  refine ⟨_, _, pre0 _ ?_, hrun, hended, _, _, rfl, ?_, ⟨_, rfl⟩, hW, hsame.mono (by decide) (by decide)⟩
  · show Steps _ _ _ (s₁.setTop (mkF m 0 #[vR a1, vI p2] [])) _
    refine XS.aloadN X0.here hx rfl (hb hby d7_0) rfl rfl ?_
    show Steps _ _ _ (s₁.setTop (mkF m 1 #[vR a1, vI p2] [iR a1])) _
    refine XS.aloadN X0.here hx rfl (hb hby d7_1) rfl rfl ?_
    show Steps _ _ _ (s₁.setTop (mkF m 2 #[vR a1, vI p2] [iR a1, iR a1])) _
    refine st1 _ ?_
    show Steps _ _ _ (T1.setTop (mkF m 5 #[vR a1, vI p2] [iI 6, iR a1])) _
    refine XS.iconst X1.here hx rfl (hb hby d7_5) ?_
    show Steps _ _ _ (T1.setTop (mkF m 6 #[vR a1, vI p2] [iI 1, iI 6, iR a1])) _
    refine XS.iadd X1.here hx rfl (hb hby d7_6) rfl ?_
    rw [(by decide : ((6 : Int32) + (1 : Int32)) = (7 : Int32))]
    show Steps _ _ _ (T1.setTop (mkF m 7 #[vR a1, vI p2] [iI 7, iR a1])) _
    refine st2.trans ?_
    show Steps _ _ _ (T2.setTop (mkF m 10 #[vR a1, vI p2] [])) _
    refine XS.aloadN X2.here hx rfl (hb hby d7_10) rfl rfl ?_
    show Steps _ _ _ (T2.setTop (mkF m 11 #[vR a1, vI p2] [iR a1])) _
    refine st3.trans ?_
    show Steps _ _ _ (T3.setTop (mkF m 14 #[vR a1, vI p2] [iI 1])) _
    refine XS.ifNo X3.here hx rfl (hb hby d7_14) rfl ((if0 _ _).trans (feq (by decide : ¬ ((1 : Int32) = (0 : Int32)))).1) ?_
    show Steps _ _ _ (T3.setTop (mkF m 17 #[vR a1, vI p2] [])) _
    refine XS.iloadN X3.here hx rfl (hb hby d7_17) rfl ?_
    show Steps _ _ _ (T3.setTop (mkF m 18 #[vR a1, vI p2] [iI p2])) _
    refine st4 _ ?_
    show Steps _ _ _ (T4.setTop (mkF m 21 #[vR a1, vI p2] [iI (own_can p2)])) _
    refine XS.ifNo X4.here hx rfl (hb hby d7_21) rfl ((if0 _ _).trans (feq hh5).1) ?_
    show Steps _ _ _ (T4.setTop (mkF m 24 #[vR a1, vI p2] [])) _
    refine XS.aloadN X4.here hx rfl (hb hby d7_24) rfl rfl ?_
    show Steps _ _ _ (T4.setTop (mkF m 25 #[vR a1, vI p2] [iR a1])) _
    refine st6 _ ?_
    show Steps _ _ _ (T6.setTop (mkF m 28 #[vR a1, vI p2] [iR b])) _
    refine XS.aloadN X6.here hx rfl (hb hby d7_28) rfl rfl ?_
    show Steps _ _ _ (T6.setTop (mkF m 29 #[vR a1, vI p2] [iR a1, iR b])) _
    refine XS.dup X6.here hx rfl (hb hby d7_29) rfl rfl ?_
    show Steps _ _ _ (T6.setTop (mkF m 30 #[vR a1, vI p2] [iR a1, iR a1, iR b])) _
    refine st7 _ ?_
    show Steps _ _ _ (T7.setTop (mkF m 33 #[vR a1, vI p2] [iI 6, iR a1, iR b])) _
    refine XS.dupX1 X7.here hx rfl (hb hby d7_33) rfl rfl rfl ?_
    show Steps _ _ _ (T7.setTop (mkF m 34 #[vR a1, vI p2] [iI 6, iR a1, iI 6, iR b])) _
    refine XS.iconst X7.here hx rfl (hb hby d7_34) ?_
    show Steps _ _ _ (T7.setTop (mkF m 35 #[vR a1, vI p2] [iI 1, iI 6, iR a1, iI 6, iR b])) _
    refine XS.iadd X7.here hx rfl (hb hby d7_35) rfl ?_
    rw [(by decide : ((6 : Int32) + (1 : Int32)) = (7 : Int32))]
    show Steps _ _ _ (T7.setTop (mkF m 36 #[vR a1, vI p2] [iI 7, iR a1, iI 6, iR b])) _
    refine st8 _ ?_
    show Steps _ _ _ (T8.setTop (mkF m 39 #[vR a1, vI p2] [iI 6, iR b])) _
    refine XS.iloadN X8.here hx rfl (hb hby d7_39) rfl ?_
    show Steps _ _ _ (T8.setTop (mkF m 40 #[vR a1, vI p2] [iI p2, iI 6, iR b])) _
    refine XS.i2b X8.here hx rfl (hb hby d7_40) rfl ?_
    show Steps _ _ _ (T8.setTop (mkF m 41 #[vR a1, vI p2] [iI p2.toInt8.toInt32, iI 6, iR b])) _
    refine st12 _ ?_
    show Steps _ _ _ (T12.setTop (mkF m 42 #[vR a1, vI p2] [])) _
    refine XS.goto X12.here hx rfl (pc0 := 42) (pc' := 75) rfl (hb hby d7_42) (by decide) (by decide) ?_
    show Steps _ _ _ (T12.setTop (mkF m 75 #[vR a1, vI p2] [])) _
    refine XS.aloadN X12.here hx rfl (hb hby d7_75) rfl rfl ?_
    show Steps _ _ _ (T12.setTop (mkF m 76 #[vR a1, vI p2] [iR a1])) _
    jvm_step X12.here [X12.here.top, hx, (hb hby d7_76), X12.method', Bd.returns, Value.isRef, FieldType.isReference]
    first | (intro acts; rw [hr _ acts rfl rfl rfl]) | rw [hr _ _ rfl rfl rfl]
    exact Steps.refl _
  · show Q7_6 Z a1 p2 b kb nz c0 c1 c2 c3 c4 c5 c6 c7 cs h0 n0 _ T12.heap _
    rw [e12]
    exact ⟨rfl, N12, K12, fk13, fk14, fk15, fk16, V12⟩
theorem ef_6_6 (m : MethodId) (x0 : Addr) (x1 : Int32) : entryFrame m #[(.ref x0), (.int x1)] 2 = mkF m 0 #[.val (.ref x0), .val (.int x1)] [] := by first | (simp [entryFrame, mkF, argsToLocals, Value.category]; done) | rfl
def Q6_6 (Z : State) (a1 : Addr) (p2 : Int32) (b : Addr) (kb : ClassId) (nz : Int32) (c0 : Int32) (c1 : Int32) (c2 : Int32) (c3 : Int32) (c4 : Int32) (c5 : Int32) (c6 : Int32) (c7 : Int32) (cs : Int32) (h0 : Heap) (n0 : Nat) (v : Option Value) (h : Heap) (L : List Loc) : Prop := v = some (.ref a1) ∧ Fr n0 L ∧ Keep h0 h [a1, b] ∧ Exa Z h a1 "java/lang/StringBuilder" ∧ Fld Z h a1 "java/lang/AbstractStringBuilder" "value" "[B" (.ref b) ∧ Fld Z h a1 "java/lang/AbstractStringBuilder" "coder" "B" (.int (0 : Int32)) ∧ Fld Z h a1 "java/lang/AbstractStringBuilder" "count" "I" (.int (7 : Int32)) ∧ Arv Z h b kb .byte nz [(.int c0), (.int c1), (.int c2), (.int c3), (.int c4), (.int c5), (.int (nar .byte p2.toInt8.toInt32)), (.int c7)] (.int (0 : Int32))
set_option maxRecDepth 65536 in
set_option maxHeartbeats 40000000 in
theorem rm6_6 (l : Launch) (Z : State) (a0 : Array Value) (hw : ∀ d ∈ tables_1, d.before a0 Z = true) (ws : List Jvm.Cond) (a1 : Addr) (p2 : Int32) (b : Addr) (kb : ClassId) (nz : Int32) (c0 : Int32) (c1 : Int32) (c2 : Int32) (c3 : Int32) (c4 : Int32) (c5 : Int32) (c6 : Int32) (c7 : Int32) (cs : Int32) (h0 : Heap) (n0 : Nat) (Z0 : n0 ≤ h0.size) (O0 : Old Z n0 h0) (E_a1 : Exa Z h0 a1 "java/lang/StringBuilder") (g_a1 : n0 ≤ a1) (g_b : n0 ≤ b) (F_v : Fld Z h0 a1 "java/lang/AbstractStringBuilder" "value" "[B" (.ref b)) (F_c : Fld Z h0 a1 "java/lang/AbstractStringBuilder" "coder" "B" (.int (0 : Int32))) (F_n : Fld Z h0 a1 "java/lang/AbstractStringBuilder" "count" "I" (.int (6 : Int32))) (V_b : Arv Z h0 b kb .byte nz [(.int c0), (.int c1), (.int c2), (.int c3), (.int c4), (.int c5), (.int c6), (.int c7)] (.int (0 : Int32))) (ne_a1_b : a1 ≠ b) (hi : (6 : Int32) < nz) (hl : ¬ (255 : Int32) < p2) (S_CS : Sta Z Z.heap "java/lang/String" "COMPACT_STRINGS" "Z" (.int cs)) (h_cs : ¬ cs = (0 : Int32)) :
    MetFree l (⟨"java/lang/StringBuilder", "append", "(C)Ljava/lang/StringBuilder;"⟩ : MethodName) (head1 (Jvm.Cond.code (⟨"java/lang/StringBuilder", "append", "(C)Ljava/lang/StringBuilder;"⟩ : MethodName) jdk_67_method_14_code 2 (some (.object "java/lang/StringBuilder")) :: ws) ({ frames := 2, cells := 0, slots := 0, locals := 27 } : Room)) (fun a U => a = #[(.ref a1), (.int p2)] ∧ Z.Warmed39 U.vm ∧ U.heap = h0) (fun _ _ _ _ _ => True) (fun _ U o U' => ∃ v L, o = .returned v ∧ Q6_6 Z a1 p2 b kb nz c0 c1 c2 c3 c4 c5 c6 c7 cs h0 n0 v U'.heap L ∧ FrameEnd U o U' L ({ frames := 2, cells := 0, slots := 0, locals := 27 } : Room).cells ({ frames := 2, cells := 0, slots := 0, locals := 27 } : Room).slots) := by
  refine MetFree.of_bodySF (plainFor_of_name pn_1) hisR ?_
  intro p e s m args below meth c s₁ Bd hml0 hP hK
  obtain ⟨rfl, hZ, hh⟩ := hP
  have hx := Bd.exec
  have hby := Bd.bytes
  have hml : c.maxLocals = 2 := hml0
  have hown : s.vm.findClass "java/lang/StringBuilder" = some m.cls := findClass_of_methodNamed Bd.named
  have hnm := (name_of_methodNamed Bd.named Bd.method).1
  have X0 : Stand p l e ({ frames := 2, cells := 0, slots := 0, locals := 27 } : Room) s m #[(.ref a1), (.int p2)] below meth c s₁ [] 0 0 := Stand.of_body Bd
  have e0 : s₁.heap = h0 := by rw [← hh, Bd.state]; rfl
  have N0 := Fr.nil n0
  have K0 := Keep.refl h0 [a1, b]
  have pre0 : ∀ t, Steps p.tables e below (s₁.setTop (mkF m 0 #[.val (.ref a1), .val (.int p2)] [])) t → Steps p.tables e below (s₁.setTop (entryFrame m #[(.ref a1), (.int p2)] 2)) t := fun t k => castTop (ef_6_6 m a1 p2) k
  obtain ⟨_, _, ⟨T1, L1, k1, n1⟩, -, X1, ⟨Lc1, hQ1, l1, y1, z1⟩, st1⟩ := superBack X0 hx hZ (y := (⟨"java/lang/AbstractStringBuilder", "append", "(C)Ljava/lang/AbstractStringBuilder;"⟩ : MethodName)) hown (hw _ (List.mem_of_getElem? (i := 37) rfl)) (own_same (hw _ (List.mem_of_getElem? (i := 38) rfl)) (own_nf (z := (⟨"java/lang/AbstractStringBuilder", "ensureCapacityInternal", "(I)V"⟩ : MethodName)) rfl (notFace_of_selects (hw _ (List.mem_of_getElem? (i := 47) rfl))) (hw _ (List.mem_of_getElem? (i := 45) rfl))) (by decide)) (hw _ (List.mem_of_getElem? (i := 38) rfl)) (hw _ (List.mem_of_getElem? (i := 39) rfl)) (by decide) (backOf (W := 0) (rm7_6 l Z a0 hw [] a1 p2 b kb nz c0 c1 c2 c3 c4 c5 c6 c7 cs h0 n0 (Nat.le_trans Z0 K0.1) O0 E_a1 g_a1 g_b F_v F_c F_n V_b ne_a1_b hi hl S_CS h_cs) hZ (hw _ (List.mem_of_getElem? (i := 41) rfl)) (hw _ (List.mem_of_getElem? (i := 16) rfl)) (by decide) (by decide)) e0 (Ins.self E_a1) (g := (mkF m 2 #[vR a1, vI p2] [iI p2, iR a1])) rfl (by rw [hml]; rfl) (hw _ (List.mem_of_getElem? (i := 41) rfl)) (argsL := [(.int p2)]) (rest := []) (lenOf pd_3 rfl) rfl (by show 2 * 0 + _ ≤ _; exact Nat.le_of_eq rfl) (hb hby d6_2) (fun _ _ => ⟨rfl, e0, (by decide : 0 + 0 ≤ _), (by decide : 0 + 0 ≤ _)⟩)
  dsimp only [Pt.U, Pt.locs, Pt.cells, Pt.slots] at X1 l1 y1 z1 st1 hQ1
  subst l1 y1 z1
  obtain ⟨rfl, N1q, K1q, E1q, Fv1q, Fc1q, Fn1q, V1q⟩ := hQ1
  have N1 := Fr.app N0 N1q
  have K1 : Keep h0 T1.heap [a1, b] := Keep.trans K0 K1q (allS (Or.inl (List.mem_of_getElem? (i := 0) rfl)) (allS (Or.inl (List.mem_of_getElem? (i := 1) rfl)) all0))
  obtain ⟨fs, hr, hrun, hended, hW, hsame⟩ := X1.leave (v := some (.ref a1)) (fun h => by rw [Bd.returns] at h; cases h)
  refine ⟨_, _, pre0 _ ?_, hrun, hended, _, _, rfl, ?_, ⟨_, rfl⟩, hW, hsame.mono (by decide) (by decide)⟩
  · show Steps _ _ _ (s₁.setTop (mkF m 0 #[vR a1, vI p2] [])) _
    refine XS.aloadN X0.here hx rfl (hb hby d6_0) rfl rfl ?_
    show Steps _ _ _ (s₁.setTop (mkF m 1 #[vR a1, vI p2] [iR a1])) _
    refine XS.iloadN X0.here hx rfl (hb hby d6_1) rfl ?_
    show Steps _ _ _ (s₁.setTop (mkF m 2 #[vR a1, vI p2] [iI p2, iR a1])) _
    refine st1.trans ?_
    show Steps _ _ _ (T1.setTop (mkF m 5 #[vR a1, vI p2] [iR a1])) _
    refine XS.pop X1.here hx rfl (hb hby d6_5) rfl rfl ?_
    show Steps _ _ _ (T1.setTop (mkF m 6 #[vR a1, vI p2] [])) _
    refine XS.aloadN X1.here hx rfl (hb hby d6_6) rfl rfl ?_
    show Steps _ _ _ (T1.setTop (mkF m 7 #[vR a1, vI p2] [iR a1])) _
    jvm_step X1.here [X1.here.top, hx, (hb hby d6_7), X1.method', Bd.returns, Value.isRef, FieldType.isReference]
    first | (intro acts; rw [hr _ acts rfl rfl rfl]) | rw [hr _ _ rfl rfl rfl]
    exact Steps.refl _
  · show Q6_6 Z a1 p2 b kb nz c0 c1 c2 c3 c4 c5 c6 c7 cs h0 n0 _ T1.heap _
    exact ⟨rfl, N1, K1, E1q, Fv1q, Fc1q, Fn1q, V1q⟩
theorem own_nle7 {nz : Int32} (h : (7 : Int32) < nz) : ¬ nz < (8 : Int32) := by
  have e1 : (7 : Int32).toInt = 7 := rfl
  have e2 : (8 : Int32).toInt = 8 := rfl
  rw [Int32.lt_iff_toInt_lt] at *; omega
theorem ef_7_7 (m : MethodId) (x0 : Addr) (x1 : Int32) : entryFrame m #[(.ref x0), (.int x1)] 2 = mkF m 0 #[.val (.ref x0), .val (.int x1)] [] := by first | (simp [entryFrame, mkF, argsToLocals, Value.category]; done) | rfl
def Q7_7 (Z : State) (a1 : Addr) (p2 : Int32) (b : Addr) (kb : ClassId) (nz : Int32) (c0 : Int32) (c1 : Int32) (c2 : Int32) (c3 : Int32) (c4 : Int32) (c5 : Int32) (c6 : Int32) (c7 : Int32) (cs : Int32) (h0 : Heap) (n0 : Nat) (v : Option Value) (h : Heap) (L : List Loc) : Prop := v = some (.ref a1) ∧ Fr n0 L ∧ Keep h0 h [a1, b] ∧ Exa Z h a1 "java/lang/StringBuilder" ∧ Fld Z h a1 "java/lang/AbstractStringBuilder" "value" "[B" (.ref b) ∧ Fld Z h a1 "java/lang/AbstractStringBuilder" "coder" "B" (.int (0 : Int32)) ∧ Fld Z h a1 "java/lang/AbstractStringBuilder" "count" "I" (.int (8 : Int32)) ∧ Arv Z h b kb .byte nz [(.int c0), (.int c1), (.int c2), (.int c3), (.int c4), (.int c5), (.int c6), (.int (nar .byte p2.toInt8.toInt32))] (.int (0 : Int32))
set_option maxRecDepth 65536 in
set_option maxHeartbeats 40000000 in
theorem rm7_7 (l : Launch) (Z : State) (a0 : Array Value) (hw : ∀ d ∈ tables_1, d.before a0 Z = true) (ws : List Jvm.Cond) (a1 : Addr) (p2 : Int32) (b : Addr) (kb : ClassId) (nz : Int32) (c0 : Int32) (c1 : Int32) (c2 : Int32) (c3 : Int32) (c4 : Int32) (c5 : Int32) (c6 : Int32) (c7 : Int32) (cs : Int32) (h0 : Heap) (n0 : Nat) (Z0 : n0 ≤ h0.size) (O0 : Old Z n0 h0) (E_a1 : Exa Z h0 a1 "java/lang/StringBuilder") (g_a1 : n0 ≤ a1) (g_b : n0 ≤ b) (F_v : Fld Z h0 a1 "java/lang/AbstractStringBuilder" "value" "[B" (.ref b)) (F_c : Fld Z h0 a1 "java/lang/AbstractStringBuilder" "coder" "B" (.int (0 : Int32))) (F_n : Fld Z h0 a1 "java/lang/AbstractStringBuilder" "count" "I" (.int (7 : Int32))) (V_b : Arv Z h0 b kb .byte nz [(.int c0), (.int c1), (.int c2), (.int c3), (.int c4), (.int c5), (.int c6), (.int c7)] (.int (0 : Int32))) (ne_a1_b : a1 ≠ b) (hi : (7 : Int32) < nz) (hl : ¬ (255 : Int32) < p2) (S_CS : Sta Z Z.heap "java/lang/String" "COMPACT_STRINGS" "Z" (.int cs)) (h_cs : ¬ cs = (0 : Int32)) :
    MetFree l (⟨"java/lang/AbstractStringBuilder", "append", "(C)Ljava/lang/AbstractStringBuilder;"⟩ : MethodName) (head1 (Jvm.Cond.code (⟨"java/lang/AbstractStringBuilder", "append", "(C)Ljava/lang/AbstractStringBuilder;"⟩ : MethodName) jdk_68_method_31_code 2 (some (.object "java/lang/AbstractStringBuilder")) :: ws) ({ frames := 1, cells := 0, slots := 0, locals := 14 } : Room)) (fun a U => a = #[(.ref a1), (.int p2)] ∧ Z.Warmed39 U.vm ∧ U.heap = h0) (fun _ _ _ _ _ => True) (fun _ U o U' => ∃ v L, o = .returned v ∧ Q7_7 Z a1 p2 b kb nz c0 c1 c2 c3 c4 c5 c6 c7 cs h0 n0 v U'.heap L ∧ FrameEnd U o U' L ({ frames := 1, cells := 0, slots := 0, locals := 14 } : Room).cells ({ frames := 1, cells := 0, slots := 0, locals := 14 } : Room).slots) := by
  refine MetFree.of_bodySF (plainFor_of_name pn_0) hisR ?_
  intro p e s m args below meth c s₁ Bd hml0 hP hK
  obtain ⟨rfl, hZ, hh⟩ := hP
  have hx := Bd.exec
  have hby := Bd.bytes
  have hml : c.maxLocals = 2 := hml0
  have hown : s.vm.findClass "java/lang/AbstractStringBuilder" = some m.cls := findClass_of_methodNamed Bd.named
  have hnm := (name_of_methodNamed Bd.named Bd.method).1
  have X0 : Stand p l e ({ frames := 1, cells := 0, slots := 0, locals := 14 } : Room) s m #[(.ref a1), (.int p2)] below meth c s₁ [] 0 0 := Stand.of_body Bd
  have e0 : s₁.heap = h0 := by rw [← hh, Bd.state]; rfl
  have N0 := Fr.nil n0
  have K0 := Keep.refl h0 [a1, b]
  have pre0 : ∀ t, Steps p.tables e below (s₁.setTop (mkF m 0 #[.val (.ref a1), .val (.int p2)] [])) t → Steps p.tables e below (s₁.setTop (entryFrame m #[(.ref a1), (.int p2)] 2)) t := fun t k => castTop (ef_7_7 m a1 p2) k
  obtain ⟨T1, X1, e1, st1⟩ := getF X0 hx hZ hown (host := "") (Or.inl (hw _ (List.mem_of_getElem? (i := 42) rfl))) Via.refl e0 F_n (g := (mkF m 2 #[vR a1, vI p2] [iR a1, iR a1])) rfl rfl (hb hby d7_2)
  obtain ⟨cq2, q2, q2'⟩ := E_a1.cell
  obtain ⟨_, _, ⟨T2, L2, k2, n2⟩, -, X2, ⟨Lc2, hQ2, l2, y2, z2⟩, st2⟩ := X1.privateBack hx (y := (⟨"java/lang/AbstractStringBuilder", "ensureCapacityInternal", "(I)V"⟩ : MethodName)) hown (mvT hZ (hw _ (List.mem_of_getElem? (i := 44) rfl))) (mvT hZ (hw _ (List.mem_of_getElem? (i := 45) rfl))) (own_selPriv2 (own_nf (z := (⟨"java/lang/AbstractStringBuilder", "ensureCapacityInternal", "(I)V"⟩ : MethodName)) rfl (notFace_of_selects (args := #[]) (mvT hZ (hw _ (List.mem_of_getElem? (i := 47) rfl)))) (mvT hZ (hw _ (List.mem_of_getElem? (i := 45) rfl)) (args := #[]))) (Cond.privateMethod_at (mvP hZ (hw _ (List.mem_of_getElem? (i := 46) rfl)) (args := #[]))) (mvT hZ (hw _ (List.mem_of_getElem? (i := 45) rfl))) (by decide)) (Cond.privateMethod_at (mvP hZ (hw _ (List.mem_of_getElem? (i := 46) rfl)) (args := #[]))) (mvT hZ (hw _ (List.mem_of_getElem? (i := 48) rfl))) (by decide) (backOf (W := 0) (rm8 l Z a0 hw [] a1 (8 : Int32) b kb nz c0 c1 c2 c3 c4 c5 c6 c7 h0 F_v F_c V_b (own_nle7 hi) (by decide)) hZ (hw _ (List.mem_of_getElem? (i := 48) rfl)) (hw _ (List.mem_of_getElem? (i := 16) rfl)) (by decide) (by decide)) (g := (mkF m 7 #[vR a1, vI p2] [iI 8, iR a1])) rfl (by rw [hml]; rfl) (Steps.refl _) (a := a1) (by rw [e1]; exact q2) q2' (argsL := [(.int (8 : Int32))]) (rest := []) (lenOf pd_0 rfl) rfl (by show 2 * 0 + _ ≤ _; exact Nat.le_of_eq rfl) (hb hby d7_7) (fun _ _ => ⟨rfl, e1, (by decide : 0 + 0 ≤ _), (by decide : 0 + 0 ≤ _)⟩)
  dsimp only [Pt.U, Pt.locs, Pt.cells, Pt.slots] at X2 l2 y2 z2 st2 hQ2
  subst l2 y2 z2
  obtain ⟨rfl, rfl, e2⟩ := hQ2
  try rw [List.append_nil] at X2
  obtain ⟨cq3, kq3, q3a, q3b, q3c⟩ := isOf hZ e2 E_a1
  obtain ⟨_, _, ⟨T3, L3, k3, n3⟩, -, X3, ⟨Lc3, hQ3, l3, y3, z3⟩, st3⟩ := X2.virtualBack hx (y := (⟨"java/lang/AbstractStringBuilder", "isLatin1", "()Z"⟩ : MethodName)) (z := (⟨"java/lang/AbstractStringBuilder", "isLatin1", "()Z"⟩ : MethodName)) hown (mvT hZ (hw _ (List.mem_of_getElem? (i := 49) rfl))) (mvT hZ (hw _ (List.mem_of_getElem? (i := 50) rfl))) (notFace_of_selects (args := #[]) (mvT hZ (hw _ (List.mem_of_getElem? (i := 52) rfl)))) (mvT hZ (hw _ (List.mem_of_getElem? (i := 52) rfl))) (mvT hZ (hw _ (List.mem_of_getElem? (i := 51) rfl))) (by decide) (backOf (W := 0) (rm9 l Z a0 hw [] a1 cs h0 n0 O0 F_c S_CS h_cs) hZ (hw _ (List.mem_of_getElem? (i := 53) rfl)) (hw _ (List.mem_of_getElem? (i := 16) rfl)) (by decide) (by decide)) q3a q3c (g := (mkF m 11 #[vR a1, vI p2] [iR a1])) rfl (by rw [hml]; rfl) (Steps.refl _) (argsL := []) (rest := []) (lenOf pd_1 rfl) rfl (by show 2 * 0 + _ ≤ _; exact Nat.le_of_eq rfl) (hb hby d7_11) (fun _ _ => ⟨rfl, e2, (by decide : 0 + 0 ≤ _), (by decide : 0 + 0 ≤ _)⟩)
  dsimp only [Pt.U, Pt.locs, Pt.cells, Pt.slots] at X3 l3 y3 z3 st3 hQ3
  subst l3 y3 z3
  obtain ⟨rfl, rfl, e3⟩ := hQ3
  try rw [List.append_nil] at X3
  obtain ⟨_, _, ⟨T4, L4, k4, n4⟩, -, X4, ⟨Lc4, hQ4, l4, y4, z4⟩, st4⟩ := Jvm.LawKit.callS X3 hx (y := (⟨"java/lang/StringLatin1", "canEncode", "(C)Z"⟩ : MethodName)) hown (mvT hZ (hw _ (List.mem_of_getElem? (i := 54) rfl))) (mvT hZ (hw _ (List.mem_of_getElem? (i := 55) rfl))) (mvT hZ (hw _ (List.mem_of_getElem? (i := 56) rfl))) (mvT hZ (hw _ (List.mem_of_getElem? (i := 57) rfl))) (by decide) (backOf (W := 0) (rm10 l Z a0 hw [] p2 h0 ) hZ (hw _ (List.mem_of_getElem? (i := 57) rfl)) (hw _ (List.mem_of_getElem? (i := 56) rfl)) (by decide) (by decide)) (g := (mkF m 18 #[vR a1, vI p2] [iI p2])) rfl (by rw [hml]; rfl) (argsL := [(.int p2)]) (rest := []) (lenOf pd_2 rfl) rfl (by show 2 * 0 + _ ≤ _; exact Nat.le_of_eq rfl) (hb hby d7_18) (fun _ _ => ⟨rfl, e3, (by decide : 0 + 0 ≤ _), (by decide : 0 + 0 ≤ _)⟩)
  dsimp only [Pt.U, Pt.locs, Pt.cells, Pt.slots] at X4 l4 y4 z4 st4 hQ4
  subst l4 y4 z4
  obtain ⟨rfl, rfl, e4⟩ := hQ4
  try rw [List.append_nil] at X4
  have hh5 : ¬ ((own_can p2) = (0 : Int32)) := (by unfold own_can; rw [if_neg hl]; decide)
  obtain ⟨T6, X6, e6, st6⟩ := getF X4 hx hZ hown (host := "") (Or.inl (hw _ (List.mem_of_getElem? (i := 24) rfl))) Via.refl e4 F_v (g := (mkF m 25 #[vR a1, vI p2] [iR a1])) rfl rfl (hb hby d7_25)
  obtain ⟨T7, X7, e7, st7⟩ := getF X6 hx hZ hown (host := "") (Or.inl (hw _ (List.mem_of_getElem? (i := 42) rfl))) Via.refl e6 F_n (g := (mkF m 30 #[vR a1, vI p2] [iR a1, iR a1, iR b])) rfl rfl (hb hby d7_30)
  obtain ⟨T8, h8, X8, e8, W8, st8⟩ := putF X7 hx hZ hown (host := "") (Or.inl (hw _ (List.mem_of_getElem? (i := 42) rfl))) Via.refl e7 F_n E_a1 (Or.inl (hw _ (List.mem_of_getElem? (i := 43) rfl))) (hw _ (List.mem_of_getElem? (i := 7) rfl)) (ty := .int) (by decide) rfl rfl (g := (mkF m 36 #[vR a1, vI p2] [iI 8, iR a1, iI 7, iR b])) rfl rfl (hb hby d7_36)
  have Fw8 := F_n.same W8
  have K8 : Keep h0 h8 [a1, b] := K0.wr W8 (Or.inl (List.mem_of_getElem? (i := 0) rfl))
  have N8 := Fr.snoc X8 N0 g_a1
  have fk9 := (V_b.other W8 (Ne.symm ne_a1_b))
  obtain ⟨cl10, Ar10, q10, S10, M10, H10, G10⟩ := id fk9
  have hin11 : ¬ ((7 : Int32) < 0 ∨ cl10.slots.size ≤ ((7 : Int32)).toNatClampNeg) := inb_of S10 ⟨by decide, hi⟩
  obtain ⟨T12, h12, X12, e12, W12, st12⟩ := stB X8 hx hZ e8 Ar10 (j := (7 : Int32)) hin11 (g := (mkF m 41 #[vR a1, vI p2] [iI p2.toInt8.toInt32, iI 7, iR b])) rfl rfl (hb hby d7_41)
  have V12 : Arv Z h12 b kb .byte nz [(.int c0), (.int c1), (.int c2), (.int c3), (.int c4), (.int c5), (.int c6), (.int (nar .byte p2.toInt8.toInt32))] (.int (0 : Int32)) := Arv.set Ar10 q10 S10 M10 H10 G10 (fits_nar_byte _) W12 7 rfl (Nat.le_of_ble_eq_true rfl)
  have K12 : Keep h0 h12 [a1, b] := K8.wr W12 (Or.inl (List.mem_of_getElem? (i := 1) rfl))
  have N12 := Fr.snoc X12 N8 g_b
  obtain ⟨fs, hr, hrun, hended, hW, hsame⟩ := X12.leave (v := some (.ref a1)) (fun h => by rw [Bd.returns] at h; cases h)
  have fk13 := ((E_a1.wr W8).wr W12)
  have fk14 := ((F_v.other W8 (Or.inr (slot_ne (Or.inl (hw _ (List.mem_of_getElem? (i := 25) rfl))) (Or.inl (hw _ (List.mem_of_getElem? (i := 43) rfl))) (by decide) (t := (.array .byte)) (t' := .int) (by decide) (by decide)))).other W12 (Or.inl ne_a1_b))
  have fk15 := ((F_c.other W8 (Or.inr (slot_ne (Or.inl (hw _ (List.mem_of_getElem? (i := 27) rfl))) (Or.inl (hw _ (List.mem_of_getElem? (i := 43) rfl))) (by decide) (t := .byte) (t' := .int) (by decide) (by decide)))).other W12 (Or.inl ne_a1_b))
  have fk16 := (Fw8.other W12 (Or.inl ne_a1_b))
  refine ⟨_, _, pre0 _ ?_, hrun, hended, _, _, rfl, ?_, ⟨_, rfl⟩, hW, hsame.mono (by decide) (by decide)⟩
  · show Steps _ _ _ (s₁.setTop (mkF m 0 #[vR a1, vI p2] [])) _
    refine XS.aloadN X0.here hx rfl (hb hby d7_0) rfl rfl ?_
    show Steps _ _ _ (s₁.setTop (mkF m 1 #[vR a1, vI p2] [iR a1])) _
    refine XS.aloadN X0.here hx rfl (hb hby d7_1) rfl rfl ?_
    show Steps _ _ _ (s₁.setTop (mkF m 2 #[vR a1, vI p2] [iR a1, iR a1])) _
    refine st1 _ ?_
    show Steps _ _ _ (T1.setTop (mkF m 5 #[vR a1, vI p2] [iI 7, iR a1])) _
    refine XS.iconst X1.here hx rfl (hb hby d7_5) ?_
    show Steps _ _ _ (T1.setTop (mkF m 6 #[vR a1, vI p2] [iI 1, iI 7, iR a1])) _
    refine XS.iadd X1.here hx rfl (hb hby d7_6) rfl ?_
    rw [(by decide : ((7 : Int32) + (1 : Int32)) = (8 : Int32))]
    show Steps _ _ _ (T1.setTop (mkF m 7 #[vR a1, vI p2] [iI 8, iR a1])) _
    refine st2.trans ?_
    show Steps _ _ _ (T2.setTop (mkF m 10 #[vR a1, vI p2] [])) _
    refine XS.aloadN X2.here hx rfl (hb hby d7_10) rfl rfl ?_
    show Steps _ _ _ (T2.setTop (mkF m 11 #[vR a1, vI p2] [iR a1])) _
    refine st3.trans ?_
    show Steps _ _ _ (T3.setTop (mkF m 14 #[vR a1, vI p2] [iI 1])) _
    refine XS.ifNo X3.here hx rfl (hb hby d7_14) rfl ((if0 _ _).trans (feq (by decide : ¬ ((1 : Int32) = (0 : Int32)))).1) ?_
    show Steps _ _ _ (T3.setTop (mkF m 17 #[vR a1, vI p2] [])) _
    refine XS.iloadN X3.here hx rfl (hb hby d7_17) rfl ?_
    show Steps _ _ _ (T3.setTop (mkF m 18 #[vR a1, vI p2] [iI p2])) _
    refine st4 _ ?_
    show Steps _ _ _ (T4.setTop (mkF m 21 #[vR a1, vI p2] [iI (own_can p2)])) _
    refine XS.ifNo X4.here hx rfl (hb hby d7_21) rfl ((if0 _ _).trans (feq hh5).1) ?_
    show Steps _ _ _ (T4.setTop (mkF m 24 #[vR a1, vI p2] [])) _
    refine XS.aloadN X4.here hx rfl (hb hby d7_24) rfl rfl ?_
    show Steps _ _ _ (T4.setTop (mkF m 25 #[vR a1, vI p2] [iR a1])) _
    refine st6 _ ?_
    show Steps _ _ _ (T6.setTop (mkF m 28 #[vR a1, vI p2] [iR b])) _
    refine XS.aloadN X6.here hx rfl (hb hby d7_28) rfl rfl ?_
    show Steps _ _ _ (T6.setTop (mkF m 29 #[vR a1, vI p2] [iR a1, iR b])) _
    refine XS.dup X6.here hx rfl (hb hby d7_29) rfl rfl ?_
    show Steps _ _ _ (T6.setTop (mkF m 30 #[vR a1, vI p2] [iR a1, iR a1, iR b])) _
    refine st7 _ ?_
    show Steps _ _ _ (T7.setTop (mkF m 33 #[vR a1, vI p2] [iI 7, iR a1, iR b])) _
    refine XS.dupX1 X7.here hx rfl (hb hby d7_33) rfl rfl rfl ?_
    show Steps _ _ _ (T7.setTop (mkF m 34 #[vR a1, vI p2] [iI 7, iR a1, iI 7, iR b])) _
    refine XS.iconst X7.here hx rfl (hb hby d7_34) ?_
    show Steps _ _ _ (T7.setTop (mkF m 35 #[vR a1, vI p2] [iI 1, iI 7, iR a1, iI 7, iR b])) _
    refine XS.iadd X7.here hx rfl (hb hby d7_35) rfl ?_
    rw [(by decide : ((7 : Int32) + (1 : Int32)) = (8 : Int32))]
    show Steps _ _ _ (T7.setTop (mkF m 36 #[vR a1, vI p2] [iI 8, iR a1, iI 7, iR b])) _
    refine st8 _ ?_
    show Steps _ _ _ (T8.setTop (mkF m 39 #[vR a1, vI p2] [iI 7, iR b])) _
    refine XS.iloadN X8.here hx rfl (hb hby d7_39) rfl ?_
    show Steps _ _ _ (T8.setTop (mkF m 40 #[vR a1, vI p2] [iI p2, iI 7, iR b])) _
    refine XS.i2b X8.here hx rfl (hb hby d7_40) rfl ?_
    show Steps _ _ _ (T8.setTop (mkF m 41 #[vR a1, vI p2] [iI p2.toInt8.toInt32, iI 7, iR b])) _
    refine st12 _ ?_
    show Steps _ _ _ (T12.setTop (mkF m 42 #[vR a1, vI p2] [])) _
    refine XS.goto X12.here hx rfl (pc0 := 42) (pc' := 75) rfl (hb hby d7_42) (by decide) (by decide) ?_
    show Steps _ _ _ (T12.setTop (mkF m 75 #[vR a1, vI p2] [])) _
    refine XS.aloadN X12.here hx rfl (hb hby d7_75) rfl rfl ?_
    show Steps _ _ _ (T12.setTop (mkF m 76 #[vR a1, vI p2] [iR a1])) _
    jvm_step X12.here [X12.here.top, hx, (hb hby d7_76), X12.method', Bd.returns, Value.isRef, FieldType.isReference]
    first | (intro acts; rw [hr _ acts rfl rfl rfl]) | rw [hr _ _ rfl rfl rfl]
    exact Steps.refl _
  · show Q7_7 Z a1 p2 b kb nz c0 c1 c2 c3 c4 c5 c6 c7 cs h0 n0 _ T12.heap _
    rw [e12]
    exact ⟨rfl, N12, K12, fk13, fk14, fk15, fk16, V12⟩
theorem ef_6_7 (m : MethodId) (x0 : Addr) (x1 : Int32) : entryFrame m #[(.ref x0), (.int x1)] 2 = mkF m 0 #[.val (.ref x0), .val (.int x1)] [] := by first | (simp [entryFrame, mkF, argsToLocals, Value.category]; done) | rfl
def Q6_7 (Z : State) (a1 : Addr) (p2 : Int32) (b : Addr) (kb : ClassId) (nz : Int32) (c0 : Int32) (c1 : Int32) (c2 : Int32) (c3 : Int32) (c4 : Int32) (c5 : Int32) (c6 : Int32) (c7 : Int32) (cs : Int32) (h0 : Heap) (n0 : Nat) (v : Option Value) (h : Heap) (L : List Loc) : Prop := v = some (.ref a1) ∧ Fr n0 L ∧ Keep h0 h [a1, b] ∧ Exa Z h a1 "java/lang/StringBuilder" ∧ Fld Z h a1 "java/lang/AbstractStringBuilder" "value" "[B" (.ref b) ∧ Fld Z h a1 "java/lang/AbstractStringBuilder" "coder" "B" (.int (0 : Int32)) ∧ Fld Z h a1 "java/lang/AbstractStringBuilder" "count" "I" (.int (8 : Int32)) ∧ Arv Z h b kb .byte nz [(.int c0), (.int c1), (.int c2), (.int c3), (.int c4), (.int c5), (.int c6), (.int (nar .byte p2.toInt8.toInt32))] (.int (0 : Int32))
set_option maxRecDepth 65536 in
set_option maxHeartbeats 40000000 in
theorem rm6_7 (l : Launch) (Z : State) (a0 : Array Value) (hw : ∀ d ∈ tables_1, d.before a0 Z = true) (ws : List Jvm.Cond) (a1 : Addr) (p2 : Int32) (b : Addr) (kb : ClassId) (nz : Int32) (c0 : Int32) (c1 : Int32) (c2 : Int32) (c3 : Int32) (c4 : Int32) (c5 : Int32) (c6 : Int32) (c7 : Int32) (cs : Int32) (h0 : Heap) (n0 : Nat) (Z0 : n0 ≤ h0.size) (O0 : Old Z n0 h0) (E_a1 : Exa Z h0 a1 "java/lang/StringBuilder") (g_a1 : n0 ≤ a1) (g_b : n0 ≤ b) (F_v : Fld Z h0 a1 "java/lang/AbstractStringBuilder" "value" "[B" (.ref b)) (F_c : Fld Z h0 a1 "java/lang/AbstractStringBuilder" "coder" "B" (.int (0 : Int32))) (F_n : Fld Z h0 a1 "java/lang/AbstractStringBuilder" "count" "I" (.int (7 : Int32))) (V_b : Arv Z h0 b kb .byte nz [(.int c0), (.int c1), (.int c2), (.int c3), (.int c4), (.int c5), (.int c6), (.int c7)] (.int (0 : Int32))) (ne_a1_b : a1 ≠ b) (hi : (7 : Int32) < nz) (hl : ¬ (255 : Int32) < p2) (S_CS : Sta Z Z.heap "java/lang/String" "COMPACT_STRINGS" "Z" (.int cs)) (h_cs : ¬ cs = (0 : Int32)) :
    MetFree l (⟨"java/lang/StringBuilder", "append", "(C)Ljava/lang/StringBuilder;"⟩ : MethodName) (head1 (Jvm.Cond.code (⟨"java/lang/StringBuilder", "append", "(C)Ljava/lang/StringBuilder;"⟩ : MethodName) jdk_67_method_14_code 2 (some (.object "java/lang/StringBuilder")) :: ws) ({ frames := 2, cells := 0, slots := 0, locals := 27 } : Room)) (fun a U => a = #[(.ref a1), (.int p2)] ∧ Z.Warmed39 U.vm ∧ U.heap = h0) (fun _ _ _ _ _ => True) (fun _ U o U' => ∃ v L, o = .returned v ∧ Q6_7 Z a1 p2 b kb nz c0 c1 c2 c3 c4 c5 c6 c7 cs h0 n0 v U'.heap L ∧ FrameEnd U o U' L ({ frames := 2, cells := 0, slots := 0, locals := 27 } : Room).cells ({ frames := 2, cells := 0, slots := 0, locals := 27 } : Room).slots) := by
  refine MetFree.of_bodySF (plainFor_of_name pn_1) hisR ?_
  intro p e s m args below meth c s₁ Bd hml0 hP hK
  obtain ⟨rfl, hZ, hh⟩ := hP
  have hx := Bd.exec
  have hby := Bd.bytes
  have hml : c.maxLocals = 2 := hml0
  have hown : s.vm.findClass "java/lang/StringBuilder" = some m.cls := findClass_of_methodNamed Bd.named
  have hnm := (name_of_methodNamed Bd.named Bd.method).1
  have X0 : Stand p l e ({ frames := 2, cells := 0, slots := 0, locals := 27 } : Room) s m #[(.ref a1), (.int p2)] below meth c s₁ [] 0 0 := Stand.of_body Bd
  have e0 : s₁.heap = h0 := by rw [← hh, Bd.state]; rfl
  have N0 := Fr.nil n0
  have K0 := Keep.refl h0 [a1, b]
  have pre0 : ∀ t, Steps p.tables e below (s₁.setTop (mkF m 0 #[.val (.ref a1), .val (.int p2)] [])) t → Steps p.tables e below (s₁.setTop (entryFrame m #[(.ref a1), (.int p2)] 2)) t := fun t k => castTop (ef_6_7 m a1 p2) k
  obtain ⟨_, _, ⟨T1, L1, k1, n1⟩, -, X1, ⟨Lc1, hQ1, l1, y1, z1⟩, st1⟩ := superBack X0 hx hZ (y := (⟨"java/lang/AbstractStringBuilder", "append", "(C)Ljava/lang/AbstractStringBuilder;"⟩ : MethodName)) hown (hw _ (List.mem_of_getElem? (i := 37) rfl)) (own_same (hw _ (List.mem_of_getElem? (i := 38) rfl)) (own_nf (z := (⟨"java/lang/AbstractStringBuilder", "ensureCapacityInternal", "(I)V"⟩ : MethodName)) rfl (notFace_of_selects (hw _ (List.mem_of_getElem? (i := 47) rfl))) (hw _ (List.mem_of_getElem? (i := 45) rfl))) (by decide)) (hw _ (List.mem_of_getElem? (i := 38) rfl)) (hw _ (List.mem_of_getElem? (i := 39) rfl)) (by decide) (backOf (W := 0) (rm7_7 l Z a0 hw [] a1 p2 b kb nz c0 c1 c2 c3 c4 c5 c6 c7 cs h0 n0 (Nat.le_trans Z0 K0.1) O0 E_a1 g_a1 g_b F_v F_c F_n V_b ne_a1_b hi hl S_CS h_cs) hZ (hw _ (List.mem_of_getElem? (i := 41) rfl)) (hw _ (List.mem_of_getElem? (i := 16) rfl)) (by decide) (by decide)) e0 (Ins.self E_a1) (g := (mkF m 2 #[vR a1, vI p2] [iI p2, iR a1])) rfl (by rw [hml]; rfl) (hw _ (List.mem_of_getElem? (i := 41) rfl)) (argsL := [(.int p2)]) (rest := []) (lenOf pd_3 rfl) rfl (by show 2 * 0 + _ ≤ _; exact Nat.le_of_eq rfl) (hb hby d6_2) (fun _ _ => ⟨rfl, e0, (by decide : 0 + 0 ≤ _), (by decide : 0 + 0 ≤ _)⟩)
  dsimp only [Pt.U, Pt.locs, Pt.cells, Pt.slots] at X1 l1 y1 z1 st1 hQ1
  subst l1 y1 z1
  obtain ⟨rfl, N1q, K1q, E1q, Fv1q, Fc1q, Fn1q, V1q⟩ := hQ1
  have N1 := Fr.app N0 N1q
  have K1 : Keep h0 T1.heap [a1, b] := Keep.trans K0 K1q (allS (Or.inl (List.mem_of_getElem? (i := 0) rfl)) (allS (Or.inl (List.mem_of_getElem? (i := 1) rfl)) all0))
  obtain ⟨fs, hr, hrun, hended, hW, hsame⟩ := X1.leave (v := some (.ref a1)) (fun h => by rw [Bd.returns] at h; cases h)
  refine ⟨_, _, pre0 _ ?_, hrun, hended, _, _, rfl, ?_, ⟨_, rfl⟩, hW, hsame.mono (by decide) (by decide)⟩
  · show Steps _ _ _ (s₁.setTop (mkF m 0 #[vR a1, vI p2] [])) _
    refine XS.aloadN X0.here hx rfl (hb hby d6_0) rfl rfl ?_
    show Steps _ _ _ (s₁.setTop (mkF m 1 #[vR a1, vI p2] [iR a1])) _
    refine XS.iloadN X0.here hx rfl (hb hby d6_1) rfl ?_
    show Steps _ _ _ (s₁.setTop (mkF m 2 #[vR a1, vI p2] [iI p2, iR a1])) _
    refine st1.trans ?_
    show Steps _ _ _ (T1.setTop (mkF m 5 #[vR a1, vI p2] [iR a1])) _
    refine XS.pop X1.here hx rfl (hb hby d6_5) rfl rfl ?_
    show Steps _ _ _ (T1.setTop (mkF m 6 #[vR a1, vI p2] [])) _
    refine XS.aloadN X1.here hx rfl (hb hby d6_6) rfl rfl ?_
    show Steps _ _ _ (T1.setTop (mkF m 7 #[vR a1, vI p2] [iR a1])) _
    jvm_step X1.here [X1.here.top, hx, (hb hby d6_7), X1.method', Bd.returns, Value.isRef, FieldType.isReference]
    first | (intro acts; rw [hr _ acts rfl rfl rfl]) | rw [hr _ _ rfl rfl rfl]
    exact Steps.refl _
  · show Q6_7 Z a1 p2 b kb nz c0 c1 c2 c3 c4 c5 c6 c7 cs h0 n0 _ T1.heap _
    exact ⟨rfl, N1, K1, E1q, Fv1q, Fc1q, Fn1q, V1q⟩
theorem d14_0 : decode jdk_68_method_64_code 0 = .ok (.aload_n 0, 1) := by decide +kernel
theorem d14_1 : decode jdk_68_method_64_code 1 = .ok (.getfield 15, 3) := by decide +kernel
theorem d14_4 : decode jdk_68_method_64_code 4 = .ok (.areturn, 1) := by decide +kernel
theorem ef_14 (m : MethodId) (x0 : Addr) : entryFrame m #[(.ref x0)] 1 = mkF m 0 #[.val (.ref x0)] [] := by first | (simp [entryFrame, mkF, argsToLocals, Value.category]; done) | rfl
def Q14 (Z : State) (a1 : Addr) (b : Addr) (h0 : Heap) (v : Option Value) (h : Heap) (L : List Loc) : Prop := v = some (.ref b) ∧ L = [] ∧ h = h0
set_option maxRecDepth 65536 in
set_option maxHeartbeats 40000000 in
theorem rm14 (l : Launch) (Z : State) (a0 : Array Value) (hw : ∀ d ∈ tables_1, d.before a0 Z = true) (ws : List Jvm.Cond) (a1 : Addr) (b : Addr) (h0 : Heap) (F_v : Fld Z h0 a1 "java/lang/AbstractStringBuilder" "value" "[B" (.ref b)) :
    MetFree l (⟨"java/lang/AbstractStringBuilder", "getValue", "()[B"⟩ : MethodName) (head1 (Jvm.Cond.code (⟨"java/lang/AbstractStringBuilder", "getValue", "()[B"⟩ : MethodName) jdk_68_method_64_code 1 (some (.array .byte)) :: ws) ({ frames := 0, cells := 0, slots := 0, locals := 0 } : Room)) (fun a U => a = #[(.ref a1)] ∧ Z.Warmed39 U.vm ∧ U.heap = h0) (fun _ _ _ _ _ => True) (fun _ U o U' => ∃ v L, o = .returned v ∧ Q14 Z a1 b h0 v U'.heap L ∧ FrameEnd U o U' L ({ frames := 0, cells := 0, slots := 0, locals := 0 } : Room).cells ({ frames := 0, cells := 0, slots := 0, locals := 0 } : Room).slots) := by
  refine MetFree.of_bodySF (plainFor_of_name pn_0) hisR ?_
  intro p e s m args below meth c s₁ Bd hml0 hP hK
  obtain ⟨rfl, hZ, hh⟩ := hP
  have hx := Bd.exec
  have hby := Bd.bytes
  have hml : c.maxLocals = 1 := hml0
  have hown : s.vm.findClass "java/lang/AbstractStringBuilder" = some m.cls := findClass_of_methodNamed Bd.named
  have hnm := (name_of_methodNamed Bd.named Bd.method).1
  have X0 : Stand p l e ({ frames := 0, cells := 0, slots := 0, locals := 0 } : Room) s m #[(.ref a1)] below meth c s₁ [] 0 0 := Stand.of_body Bd
  have e0 : s₁.heap = h0 := by rw [← hh, Bd.state]; rfl
  have pre0 : ∀ t, Steps p.tables e below (s₁.setTop (mkF m 0 #[.val (.ref a1)] [])) t → Steps p.tables e below (s₁.setTop (entryFrame m #[(.ref a1)] 1)) t := fun t k => castTop (ef_14 m a1) k
  obtain ⟨T1, X1, e1, st1⟩ := getF X0 hx hZ hown (host := "") (Or.inl (hw _ (List.mem_of_getElem? (i := 24) rfl))) Via.refl e0 F_v (g := (mkF m 1 #[vR a1] [iR a1])) rfl rfl (hb hby d14_1)
  obtain ⟨fs, hr, hrun, hended, hW, hsame⟩ := X1.leave (v := some (.ref b)) (fun h => by rw [Bd.returns] at h; cases h)
  refine ⟨_, _, pre0 _ ?_, hrun, hended, _, _, rfl, ?_, ⟨_, rfl⟩, hW, hsame.mono (by decide) (by decide)⟩
  · show Steps _ _ _ (s₁.setTop (mkF m 0 #[vR a1] [])) _
    refine XS.aloadN X0.here hx rfl (hb hby d14_0) rfl rfl ?_
    show Steps _ _ _ (s₁.setTop (mkF m 1 #[vR a1] [iR a1])) _
    refine st1 _ ?_
    show Steps _ _ _ (T1.setTop (mkF m 4 #[vR a1] [iR b])) _
    jvm_step X1.here [X1.here.top, hx, (hb hby d14_4), X1.method', Bd.returns, Value.isRef, FieldType.isReference]
    first | (intro acts; rw [hr _ acts rfl rfl rfl]) | rw [hr _ _ rfl rfl rfl]
    exact Steps.refl _
  · show Q14 Z a1 b h0 _ T1.heap _
    rw [e1]
    exact ⟨rfl, rfl, rfl⟩
theorem d16_0 : decode jdk_68_method_6_code 0 = .ok (.aload_n 0, 1) := by decide +kernel
theorem d16_1 : decode jdk_68_method_6_code 1 = .ok (.getfield 79, 3) := by decide +kernel
theorem d16_4 : decode jdk_68_method_6_code 4 = .ok (.ireturn, 1) := by decide +kernel
theorem ef_16 (m : MethodId) (x0 : Addr) : entryFrame m #[(.ref x0)] 1 = mkF m 0 #[.val (.ref x0)] [] := by first | (simp [entryFrame, mkF, argsToLocals, Value.category]; done) | rfl
def Q16 (Z : State) (a1 : Addr) (nz : Int32) (h0 : Heap) (v : Option Value) (h : Heap) (L : List Loc) : Prop := v = some (.int nz) ∧ L = [] ∧ h = h0
set_option maxRecDepth 65536 in
set_option maxHeartbeats 40000000 in
theorem rm16 (l : Launch) (Z : State) (a0 : Array Value) (hw : ∀ d ∈ tables_1, d.before a0 Z = true) (ws : List Jvm.Cond) (a1 : Addr) (nz : Int32) (h0 : Heap) (F_n : Fld Z h0 a1 "java/lang/AbstractStringBuilder" "count" "I" (.int nz)) :
    MetFree l (⟨"java/lang/AbstractStringBuilder", "length", "()I"⟩ : MethodName) (head1 (Jvm.Cond.code (⟨"java/lang/AbstractStringBuilder", "length", "()I"⟩ : MethodName) jdk_68_method_6_code 1 (some .int) :: ws) ({ frames := 0, cells := 0, slots := 0, locals := 0 } : Room)) (fun a U => a = #[(.ref a1)] ∧ Z.Warmed39 U.vm ∧ U.heap = h0) (fun _ _ _ _ _ => True) (fun _ U o U' => ∃ v L, o = .returned v ∧ Q16 Z a1 nz h0 v U'.heap L ∧ FrameEnd U o U' L ({ frames := 0, cells := 0, slots := 0, locals := 0 } : Room).cells ({ frames := 0, cells := 0, slots := 0, locals := 0 } : Room).slots) := by
  refine MetFree.of_bodySF (plainFor_of_name pn_0) hisR ?_
  intro p e s m args below meth c s₁ Bd hml0 hP hK
  obtain ⟨rfl, hZ, hh⟩ := hP
  have hx := Bd.exec
  have hby := Bd.bytes
  have hml : c.maxLocals = 1 := hml0
  have hown : s.vm.findClass "java/lang/AbstractStringBuilder" = some m.cls := findClass_of_methodNamed Bd.named
  have hnm := (name_of_methodNamed Bd.named Bd.method).1
  have X0 : Stand p l e ({ frames := 0, cells := 0, slots := 0, locals := 0 } : Room) s m #[(.ref a1)] below meth c s₁ [] 0 0 := Stand.of_body Bd
  have e0 : s₁.heap = h0 := by rw [← hh, Bd.state]; rfl
  have pre0 : ∀ t, Steps p.tables e below (s₁.setTop (mkF m 0 #[.val (.ref a1)] [])) t → Steps p.tables e below (s₁.setTop (entryFrame m #[(.ref a1)] 1)) t := fun t k => castTop (ef_16 m a1) k
  obtain ⟨T1, X1, e1, st1⟩ := getF X0 hx hZ hown (host := "") (Or.inl (hw _ (List.mem_of_getElem? (i := 42) rfl))) Via.refl e0 F_n (g := (mkF m 1 #[vR a1] [iR a1])) rfl rfl (hb hby d16_1)
  obtain ⟨fs, hr, hrun, hended, hW, hsame⟩ := X1.leave (v := some (.int nz)) (fun h => by rw [Bd.returns] at h; cases h)
  refine ⟨_, _, pre0 _ ?_, hrun, hended, _, _, rfl, ?_, ⟨_, rfl⟩, hW, hsame.mono (by decide) (by decide)⟩
  · show Steps _ _ _ (s₁.setTop (mkF m 0 #[vR a1] [])) _
    refine XS.aloadN X0.here hx rfl (hb hby d16_0) rfl rfl ?_
    show Steps _ _ _ (s₁.setTop (mkF m 1 #[vR a1] [iR a1])) _
    refine st1 _ ?_
    show Steps _ _ _ (T1.setTop (mkF m 4 #[vR a1] [iI nz])) _
    exact retI X1 hx Bd.returns (hb hby d16_4) hr
  · show Q16 Z a1 nz h0 _ T1.heap _
    rw [e1]
    exact ⟨rfl, rfl, rfl⟩
theorem d15_0 : decode jdk_67_method_93_code 0 = .ok (.aload_n 0, 1) := by decide +kernel
theorem d15_1 : decode jdk_67_method_93_code 1 = .ok (.invokespecial 343, 3) := by decide +kernel
theorem d15_4 : decode jdk_67_method_93_code 4 = .ok (.ireturn, 1) := by decide +kernel
theorem ef_15 (m : MethodId) (x0 : Addr) : entryFrame m #[(.ref x0)] 1 = mkF m 0 #[.val (.ref x0)] [] := by first | (simp [entryFrame, mkF, argsToLocals, Value.category]; done) | rfl
def Q15 (Z : State) (a1 : Addr) (nz : Int32) (h0 : Heap) (v : Option Value) (h : Heap) (L : List Loc) : Prop := v = some (.int nz) ∧ L = [] ∧ h = h0
set_option maxRecDepth 65536 in
set_option maxHeartbeats 40000000 in
theorem rm15 (l : Launch) (Z : State) (a0 : Array Value) (hw : ∀ d ∈ tables_1, d.before a0 Z = true) (ws : List Jvm.Cond) (a1 : Addr) (nz : Int32) (h0 : Heap) (E_a1 : Exa Z h0 a1 "java/lang/StringBuilder") (F_n : Fld Z h0 a1 "java/lang/AbstractStringBuilder" "count" "I" (.int nz)) :
    MetFree l (⟨"java/lang/StringBuilder", "length", "()I"⟩ : MethodName) (head1 (Jvm.Cond.code (⟨"java/lang/StringBuilder", "length", "()I"⟩ : MethodName) jdk_67_method_93_code 1 (some .int) :: ws) ({ frames := 1, cells := 0, slots := 0, locals := 12 } : Room)) (fun a U => a = #[(.ref a1)] ∧ Z.Warmed39 U.vm ∧ U.heap = h0) (fun _ _ _ _ _ => True) (fun _ U o U' => ∃ v L, o = .returned v ∧ Q15 Z a1 nz h0 v U'.heap L ∧ FrameEnd U o U' L ({ frames := 1, cells := 0, slots := 0, locals := 12 } : Room).cells ({ frames := 1, cells := 0, slots := 0, locals := 12 } : Room).slots) := by
  refine MetFree.of_bodySF (plainFor_of_name pn_1) hisR ?_
  intro p e s m args below meth c s₁ Bd hml0 hP hK
  obtain ⟨rfl, hZ, hh⟩ := hP
  have hx := Bd.exec
  have hby := Bd.bytes
  have hml : c.maxLocals = 1 := hml0
  have hown : s.vm.findClass "java/lang/StringBuilder" = some m.cls := findClass_of_methodNamed Bd.named
  have hnm := (name_of_methodNamed Bd.named Bd.method).1
  have X0 : Stand p l e ({ frames := 1, cells := 0, slots := 0, locals := 12 } : Room) s m #[(.ref a1)] below meth c s₁ [] 0 0 := Stand.of_body Bd
  have e0 : s₁.heap = h0 := by rw [← hh, Bd.state]; rfl
  have pre0 : ∀ t, Steps p.tables e below (s₁.setTop (mkF m 0 #[.val (.ref a1)] [])) t → Steps p.tables e below (s₁.setTop (entryFrame m #[(.ref a1)] 1)) t := fun t k => castTop (ef_15 m a1) k
  obtain ⟨_, _, ⟨T1, L1, k1, n1⟩, -, X1, ⟨Lc1, hQ1, l1, y1, z1⟩, st1⟩ := superBack X0 hx hZ (y := (⟨"java/lang/AbstractStringBuilder", "length", "()I"⟩ : MethodName)) hown (hw _ (List.mem_of_getElem? (i := 84) rfl)) (own_same (hw _ (List.mem_of_getElem? (i := 80) rfl)) (own_nf (z := (⟨"java/lang/AbstractStringBuilder", "ensureCapacityInternal", "(I)V"⟩ : MethodName)) rfl (notFace_of_selects (hw _ (List.mem_of_getElem? (i := 47) rfl))) (hw _ (List.mem_of_getElem? (i := 45) rfl))) (by decide)) (hw _ (List.mem_of_getElem? (i := 80) rfl)) (hw _ (List.mem_of_getElem? (i := 39) rfl)) (by decide) (backOf (W := 0) (rm16 l Z a0 hw [] a1 nz h0 F_n) hZ (hw _ (List.mem_of_getElem? (i := 85) rfl)) (hw _ (List.mem_of_getElem? (i := 16) rfl)) (by decide) (by decide)) e0 (Ins.self E_a1) (g := (mkF m 1 #[vR a1] [iR a1])) rfl (by rw [hml]; rfl) (hw _ (List.mem_of_getElem? (i := 85) rfl)) (argsL := []) (rest := []) (lenOf pd_4 rfl) rfl (by show 2 * 0 + _ ≤ _; exact Nat.le_of_eq rfl) (hb hby d15_1) (fun _ _ => ⟨rfl, e0, (by decide : 0 + 0 ≤ _), (by decide : 0 + 0 ≤ _)⟩)
  dsimp only [Pt.U, Pt.locs, Pt.cells, Pt.slots] at X1 l1 y1 z1 st1 hQ1
  subst l1 y1 z1
  obtain ⟨rfl, rfl, e1⟩ := hQ1
  try rw [List.append_nil] at X1
  obtain ⟨fs, hr, hrun, hended, hW, hsame⟩ := X1.leave (v := some (.int nz)) (fun h => by rw [Bd.returns] at h; cases h)
  refine ⟨_, _, pre0 _ ?_, hrun, hended, _, _, rfl, ?_, ⟨_, rfl⟩, hW, hsame.mono (by decide) (by decide)⟩
  · show Steps _ _ _ (s₁.setTop (mkF m 0 #[vR a1] [])) _
    refine XS.aloadN X0.here hx rfl (hb hby d15_0) rfl rfl ?_
    show Steps _ _ _ (s₁.setTop (mkF m 1 #[vR a1] [iR a1])) _
    refine st1.trans ?_
    show Steps _ _ _ (T1.setTop (mkF m 4 #[vR a1] [iI nz])) _
    exact retI X1 hx Bd.returns (hb hby d15_4) hr
  · show Q15 Z a1 nz h0 _ T1.heap _
    rw [e1]
    exact ⟨rfl, rfl, rfl⟩
theorem d17_0 : decode jdk_65_method_132_code 0 = .ok (.iload_n 1, 1) := by decide +kernel
theorem d17_1 : decode jdk_65_method_132_code 1 = .ok (.ifCond .ne 9, 3) := by decide +kernel
theorem d17_4 : decode jdk_65_method_132_code 4 = .ok (.iload_n 2, 1) := by decide +kernel
theorem d17_5 : decode jdk_65_method_132_code 5 = .ok (.aload_n 0, 1) := by decide +kernel
theorem d17_6 : decode jdk_65_method_132_code 6 = .ok (.arraylength, 1) := by decide +kernel
theorem d17_7 : decode jdk_65_method_132_code 7 = .ok (.if_icmp .eq 10, 3) := by decide +kernel
theorem d17_17 : decode jdk_65_method_132_code 17 = .ok (.aload_n 0, 1) := by decide +kernel
theorem d17_18 : decode jdk_65_method_132_code 18 = .ok (.invokevirtual 310, 3) := by decide +kernel
theorem d17_21 : decode jdk_65_method_132_code 21 = .ok (.checkcast 311, 3) := by decide +kernel
theorem d17_24 : decode jdk_65_method_132_code 24 = .ok (.areturn, 1) := by decide +kernel
theorem pn_3 : plainName "java/util/Arrays" = true := by first | (simp [plainName, overriddenIn]; done) | decide +kernel
theorem ef_17 (m : MethodId) (x0 : Addr) (x2 : Int32) : entryFrame m #[(.ref x0), (.int (0 : Int32)), (.int x2)] 3 = mkF m 0 #[.val (.ref x0), .val (.int (0 : Int32)), .val (.int x2)] [] := by first | (simp [entryFrame, mkF, argsToLocals, Value.category]; done) | rfl
def Q17 (Z : State) (a1 : Addr) (kb : ClassId) (nz : Int32) (c0 : Int32) (c1 : Int32) (c2 : Int32) (c3 : Int32) (c4 : Int32) (c5 : Int32) (c6 : Int32) (c7 : Int32) (h0 : Heap) (n0 : Nat) (v : Option Value) (h : Heap) (L : List Loc) : Prop := ∃ (o : Addr), v = some (.ref o) ∧ Fr n0 L ∧ Keep h0 h [] ∧ Arv Z h o kb .byte nz [(.int c0), (.int c1), (.int c2), (.int c3), (.int c4), (.int c5), (.int c6), (.int c7)] (.int (0 : Int32)) ∧ h0.size ≤ o
set_option maxRecDepth 65536 in
set_option maxHeartbeats 40000000 in
theorem rm17 (l : Launch) (Z : State) (a0 : Array Value) (hw : ∀ d ∈ tables_1, d.before a0 Z = true) (ws : List Jvm.Cond) (a1 : Addr) (kb : ClassId) (nz : Int32) (c0 : Int32) (c1 : Int32) (c2 : Int32) (c3 : Int32) (c4 : Int32) (c5 : Int32) (c6 : Int32) (c7 : Int32) (h0 : Heap) (n0 : Nat) (Z0 : n0 ≤ h0.size) (V_b : Arv Z h0 a1 kb .byte nz [(.int c0), (.int c1), (.int c2), (.int c3), (.int c4), (.int c5), (.int c6), (.int c7)] (.int (0 : Int32))) (G_b : Exa Z h0 a1 "[B") (hn8 : nz.toNatClampNeg ≤ 8) :
    MetFree l (⟨"java/util/Arrays", "copyOfRange", "([BII)[B"⟩ : MethodName) (head1 (Jvm.Cond.code (⟨"java/util/Arrays", "copyOfRange", "([BII)[B"⟩ : MethodName) jdk_65_method_132_code 3 (some (.array .byte)) :: ws) ({ frames := 1, cells := 1, slots := 8, locals := 14 } : Room)) (fun a U => a = #[(.ref a1), (.int (0 : Int32)), (.int nz)] ∧ Z.Warmed39 U.vm ∧ U.heap = h0) (fun _ _ _ _ _ => True) (fun _ U o U' => ∃ v L, o = .returned v ∧ Q17 Z a1 kb nz c0 c1 c2 c3 c4 c5 c6 c7 h0 n0 v U'.heap L ∧ FrameEnd U o U' L ({ frames := 1, cells := 1, slots := 8, locals := 14 } : Room).cells ({ frames := 1, cells := 1, slots := 8, locals := 14 } : Room).slots) := by
  refine MetFree.of_bodySF (plainFor_of_name pn_3) hisR ?_
  intro p e s m args below meth c s₁ Bd hml0 hP hK
  obtain ⟨rfl, hZ, hh⟩ := hP
  have hx := Bd.exec
  have hby := Bd.bytes
  have hml : c.maxLocals = 3 := hml0
  have hown : s.vm.findClass "java/util/Arrays" = some m.cls := findClass_of_methodNamed Bd.named
  have hnm := (name_of_methodNamed Bd.named Bd.method).1
  have X0 : Stand p l e ({ frames := 1, cells := 1, slots := 8, locals := 14 } : Room) s m #[(.ref a1), (.int (0 : Int32)), (.int nz)] below meth c s₁ [] 0 0 := Stand.of_body Bd
  have e0 : s₁.heap = h0 := by rw [← hh, Bd.state]; rfl
  have N0 := Fr.nil n0
  have K0 := Keep.refl h0 []
  have pre0 : ∀ t, Steps p.tables e below (s₁.setTop (mkF m 0 #[.val (.ref a1), .val (.int (0 : Int32)), .val (.int nz)] [])) t → Steps p.tables e below (s₁.setTop (entryFrame m #[(.ref a1), (.int (0 : Int32)), (.int nz)] 3)) t := fun t k => castTop (ef_17 m a1 nz) k
  obtain ⟨cl1, Ar1, q1, S1, M1, H1, G1⟩ := id V_b
  obtain ⟨T2, h2, X2, e2, E2, A2, B2, st2⟩ := cloneH X0 hx hZ hown (hw _ (List.mem_of_getElem? (i := 93) rfl)) (hw _ (List.mem_of_getElem? (i := 94) rfl)) (hw _ (List.mem_of_getElem? (i := 98) rfl)) (hw _ (List.mem_of_getElem? (i := 96) rfl)) (hw _ (List.mem_of_getElem? (i := 97) rfl)) (hw _ (List.mem_of_getElem? (i := 99) rfl)) e0 V_b.arh G_b (g := (mkF m 18 #[vR a1, vI 0, vI nz] [iR a1])) rfl (by rw [hml]; rfl) rfl (hb hby d17_18) (by decide) (W := 0) (cap := 8) (by show 2 * 0 + _ ≤ _; exact Nat.le_of_eq rfl) (by decide) hn8 (by decide) (by decide)
  obtain ⟨b2, g2⟩ : ∃ z, z = h0.size := ⟨_, rfl⟩
  rw [← g2] at A2 B2 st2
  have ne_a1_b2 : a1 ≠ b2 := Nat.ne_of_lt (Nat.lt_of_lt_of_le V_b.lt (Nat.le_of_eq g2.symm))
  have sz_b2 : h0.size ≤ b2 := Nat.le_trans K0.1 (Nat.le_of_eq g2.symm)
  have g_b2 : n0 ≤ b2 := Nat.le_trans Z0 sz_b2
  have K2 : Keep h0 h2 [] := K0.ext E2
  have V2 : Arv Z h2 b2 kb .byte nz [(.int c0), (.int c1), (.int c2), (.int c3), (.int c4), (.int c5), (.int c6), (.int c7)] (.int (0 : Int32)) := A2
  obtain ⟨T3, X3, e3, st3⟩ := castY X2 hx hZ hown (hw _ (List.mem_of_getElem? (i := 100) rfl)) e2 (Ins.self B2) (g := (mkF m 21 #[vR a1, vI 0, vI nz] [iR b2])) rfl rfl (hb hby d17_21)
  obtain ⟨fs, hr, hrun, hended, hW, hsame⟩ := X3.leave (v := some (.ref b2)) (fun h => by rw [Bd.returns] at h; cases h)
  refine ⟨_, _, pre0 _ ?_, hrun, hended, _, _, rfl, ?_, ⟨_, rfl⟩, hW, hsame.mono (by decide) (by decide)⟩
  · show Steps _ _ _ (s₁.setTop (mkF m 0 #[vR a1, vI 0, vI nz] [])) _
    refine XS.iloadN X0.here hx rfl (hb hby d17_0) rfl ?_
    show Steps _ _ _ (s₁.setTop (mkF m 1 #[vR a1, vI 0, vI nz] [iI 0])) _
    refine XS.ifNo X0.here hx rfl (hb hby d17_1) rfl ((if0 _ _).trans (teq (by decide : (0 : Int32) = (0 : Int32))).2) ?_
    show Steps _ _ _ (s₁.setTop (mkF m 4 #[vR a1, vI 0, vI nz] [])) _
    refine XS.iloadN X0.here hx rfl (hb hby d17_4) rfl ?_
    show Steps _ _ _ (s₁.setTop (mkF m 5 #[vR a1, vI 0, vI nz] [iI nz])) _
    refine XS.aloadN X0.here hx rfl (hb hby d17_5) rfl rfl ?_
    show Steps _ _ _ (s₁.setTop (mkF m 6 #[vR a1, vI 0, vI nz] [iR a1, iI nz])) _
    refine X0.arraylength hx (by rw [e0]; exact Ar1.1) (State.isArrayOf_alike hZ.alike Ar1.2.1) (g := (mkF m 6 #[vR a1, vI 0, vI nz] [iR a1, iI nz])) rfl rfl (hb hby d17_6) _ ?_
    rw [len_of S1 M1]
    show Steps _ _ _ (s₁.setTop (mkF m 7 #[vR a1, vI 0, vI nz] [iI nz, iI nz])) _
    refine XS.icmpYes X0.here hx rfl (pc0 := 7) (pc' := 17) rfl (hb hby d17_7) rfl (teq (rfl : nz = nz)).1 (by decide) (by decide) ?_
    show Steps _ _ _ (s₁.setTop (mkF m 17 #[vR a1, vI 0, vI nz] [])) _
    refine XS.aloadN X0.here hx rfl (hb hby d17_17) rfl rfl ?_
    show Steps _ _ _ (s₁.setTop (mkF m 18 #[vR a1, vI 0, vI nz] [iR a1])) _
    refine st2 _ ?_
    show Steps _ _ _ (T2.setTop (mkF m 21 #[vR a1, vI 0, vI nz] [iR b2])) _
    refine st3 _ ?_
    show Steps _ _ _ (T3.setTop (mkF m 24 #[vR a1, vI 0, vI nz] [iR b2])) _
    jvm_step X3.here [X3.here.top, hx, (hb hby d17_24), X3.method', Bd.returns, Value.isRef, FieldType.isReference]
    first | (intro acts; rw [hr _ acts rfl rfl rfl]) | rw [hr _ _ rfl rfl rfl]
    exact Steps.refl _
  · show Q17 Z a1 kb nz c0 c1 c2 c3 c4 c5 c6 c7 h0 n0 _ T3.heap _
    rw [e3]
    exact ⟨_, rfl, N0, K2, V2, sz_b2⟩
theorem d13_0 : decode jdk_42_method_150_code 0 = .ok (.aload_n 0, 1) := by decide +kernel
theorem d13_1 : decode jdk_42_method_150_code 1 = .ok (.invokespecial 1, 3) := by decide +kernel
theorem d13_4 : decode jdk_42_method_150_code 4 = .ok (.aload_n 1, 1) := by decide +kernel
theorem d13_5 : decode jdk_42_method_150_code 5 = .ok (.invokevirtual 552, 3) := by decide +kernel
theorem d13_8 : decode jdk_42_method_150_code 8 = .ok (.astore_n 3, 1) := by decide +kernel
theorem d13_9 : decode jdk_42_method_150_code 9 = .ok (.aload_n 1, 1) := by decide +kernel
theorem d13_10 : decode jdk_42_method_150_code 10 = .ok (.invokevirtual 549, 3) := by decide +kernel
theorem d13_13 : decode jdk_42_method_150_code 13 = .ok (.istore 4, 2) := by decide +kernel
theorem d13_15 : decode jdk_42_method_150_code 15 = .ok (.aload_n 1, 1) := by decide +kernel
theorem d13_16 : decode jdk_42_method_150_code 16 = .ok (.invokevirtual 1047, 3) := by decide +kernel
theorem d13_19 : decode jdk_42_method_150_code 19 = .ok (.ifCond .eq 22, 3) := by decide +kernel
theorem d13_22 : decode jdk_42_method_150_code 22 = .ok (.aload_n 0, 1) := by decide +kernel
theorem d13_23 : decode jdk_42_method_150_code 23 = .ok (.iconst 0, 1) := by decide +kernel
theorem d13_24 : decode jdk_42_method_150_code 24 = .ok (.putfield 15, 3) := by decide +kernel
theorem d13_27 : decode jdk_42_method_150_code 27 = .ok (.aload_n 0, 1) := by decide +kernel
theorem d13_28 : decode jdk_42_method_150_code 28 = .ok (.aload_n 3, 1) := by decide +kernel
theorem d13_29 : decode jdk_42_method_150_code 29 = .ok (.iconst 0, 1) := by decide +kernel
theorem d13_30 : decode jdk_42_method_150_code 30 = .ok (.iload 4, 2) := by decide +kernel
theorem d13_32 : decode jdk_42_method_150_code 32 = .ok (.invokestatic 54, 3) := by decide +kernel
theorem d13_35 : decode jdk_42_method_150_code 35 = .ok (.putfield 9, 3) := by decide +kernel
theorem d13_38 : decode jdk_42_method_150_code 38 = .ok (.goto 59, 3) := by decide +kernel
theorem d13_97 : decode jdk_42_method_150_code 97 = .ok (.return_, 1) := by decide +kernel
theorem pn_4 : plainName "java/lang/String" = true := by first | (simp [plainName, overriddenIn]; done) | decide +kernel
theorem ef_13 (m : MethodId) (x0 : Addr) (x1 : Addr) : entryFrame m #[(.ref x0), (.ref x1), .null] 5 = mkF m 0 #[.val (.ref x0), .val (.ref x1), .val .null, .unset, .unset] [] := by first | (simp [entryFrame, mkF, argsToLocals, Value.category]; done) | rfl
def Q13 (Z : State) (a1 : Addr) (a2 : Addr) (b : Addr) (kb : ClassId) (nz : Int32) (c0 : Int32) (c1 : Int32) (c2 : Int32) (c3 : Int32) (c4 : Int32) (c5 : Int32) (c6 : Int32) (c7 : Int32) (cs : Int32) (h0 : Heap) (n0 : Nat) (v : Option Value) (h : Heap) (L : List Loc) : Prop := ∃ (o : Addr), v = none ∧ Fr n0 L ∧ Keep h0 h [a1] ∧ Exa Z h a1 "java/lang/String" ∧ Fld Z h a1 "java/lang/String" "coder" "B" (.int (0 : Int32)) ∧ Fld Z h a1 "java/lang/String" "value" "[B" (.ref o) ∧ Arv Z h o kb .byte nz [(.int c0), (.int c1), (.int c2), (.int c3), (.int c4), (.int c5), (.int c6), (.int c7)] (.int (0 : Int32)) ∧ h0.size ≤ o
set_option maxRecDepth 65536 in
set_option maxHeartbeats 40000000 in
theorem rm13 (l : Launch) (Z : State) (a0 : Array Value) (hw : ∀ d ∈ tables_1, d.before a0 Z = true) (ws : List Jvm.Cond) (a1 : Addr) (a2 : Addr) (b : Addr) (kb : ClassId) (nz : Int32) (c0 : Int32) (c1 : Int32) (c2 : Int32) (c3 : Int32) (c4 : Int32) (c5 : Int32) (c6 : Int32) (c7 : Int32) (cs : Int32) (h0 : Heap) (n0 : Nat) (Z0 : n0 ≤ h0.size) (O0 : Old Z n0 h0) (E_a1 : Exa Z h0 a1 "java/lang/String") (g_a1 : n0 ≤ a1) (H_v : Fld Z h0 a1 "java/lang/String" "value" "[B" .null) (H_c : Fld Z h0 a1 "java/lang/String" "coder" "B" (.int (0 : Int32))) (ne_a1_a2 : a1 ≠ a2) (ne_a1_b : a1 ≠ b) (E_a2 : Exa Z h0 a2 "java/lang/StringBuilder") (F_v : Fld Z h0 a2 "java/lang/AbstractStringBuilder" "value" "[B" (.ref b)) (F_c : Fld Z h0 a2 "java/lang/AbstractStringBuilder" "coder" "B" (.int (0 : Int32))) (F_n : Fld Z h0 a2 "java/lang/AbstractStringBuilder" "count" "I" (.int nz)) (V_b : Arv Z h0 b kb .byte nz [(.int c0), (.int c1), (.int c2), (.int c3), (.int c4), (.int c5), (.int c6), (.int c7)] (.int (0 : Int32))) (G_b : Exa Z h0 b "[B") (hn0 : ¬ nz < 0) (hn8 : nz.toNatClampNeg ≤ 8) (S_CS : Sta Z Z.heap "java/lang/String" "COMPACT_STRINGS" "Z" (.int cs)) (h_cs : ¬ cs = (0 : Int32)) :
    MetFree l (⟨"java/lang/String", "<init>", "(Ljava/lang/AbstractStringBuilder;Ljava/lang/Void;)V"⟩ : MethodName) (head1 (Jvm.Cond.code (⟨"java/lang/String", "<init>", "(Ljava/lang/AbstractStringBuilder;Ljava/lang/Void;)V"⟩ : MethodName) jdk_42_method_150_code 5 none :: ws) ({ frames := 2, cells := 1, slots := 8, locals := 29 } : Room)) (fun a U => a = #[(.ref a1), (.ref a2), .null] ∧ Z.Warmed39 U.vm ∧ U.heap = h0) (fun _ _ _ _ _ => True) (fun _ U o U' => ∃ v L, o = .returned v ∧ Q13 Z a1 a2 b kb nz c0 c1 c2 c3 c4 c5 c6 c7 cs h0 n0 v U'.heap L ∧ FrameEnd U o U' L ({ frames := 2, cells := 1, slots := 8, locals := 29 } : Room).cells ({ frames := 2, cells := 1, slots := 8, locals := 29 } : Room).slots) := by
  refine MetFree.of_bodySF (plainFor_of_name pn_4) hisR ?_
  intro p e s m args below meth c s₁ Bd hml0 hP hK
  obtain ⟨rfl, hZ, hh⟩ := hP
  have hx := Bd.exec
  have hby := Bd.bytes
  have hml : c.maxLocals = 5 := hml0
  have hown : s.vm.findClass "java/lang/String" = some m.cls := findClass_of_methodNamed Bd.named
  have hnm := (name_of_methodNamed Bd.named Bd.method).1
  have X0 : Stand p l e ({ frames := 2, cells := 1, slots := 8, locals := 29 } : Room) s m #[(.ref a1), (.ref a2), .null] below meth c s₁ [] 0 0 := Stand.of_body Bd
  have e0 : s₁.heap = h0 := by rw [← hh, Bd.state]; rfl
  have N0 := Fr.nil n0
  have K0 := Keep.refl h0 [a1]
  have pre0 : ∀ t, Steps p.tables e below (s₁.setTop (mkF m 0 #[.val (.ref a1), .val (.ref a2), .val .null, .unset, .unset] [])) t → Steps p.tables e below (s₁.setTop (entryFrame m #[(.ref a1), (.ref a2), .null] 5)) t := fun t k => castTop (ef_13 m a1 a2) k
  obtain ⟨T1, X1, e1, st1⟩ := initO X0 hx hZ hown (hw _ (List.mem_of_getElem? (i := 72) rfl)) (hw _ (List.mem_of_getElem? (i := 19) rfl)) (hw _ (List.mem_of_getElem? (i := 20) rfl)) e0 (g := (mkF m 1 #[vR a1, vR a2, .val .null, .unset, .unset] [iR a1])) rfl (by rw [hml]; rfl) rfl (hb hby d13_1) (by decide) (W := 0) (by show 2 * 0 + _ ≤ _; exact Nat.le_of_eq rfl) (by decide)
  obtain ⟨cq2, kq2, q2a, q2b, q2c⟩ := isOf hZ e1 E_a2
  obtain ⟨_, _, ⟨T2, L2, k2, n2⟩, -, X2, ⟨Lc2, hQ2, l2, y2, z2⟩, st2⟩ := X1.virtualBack hx (y := (⟨"java/lang/AbstractStringBuilder", "getValue", "()[B"⟩ : MethodName)) (z := (⟨"java/lang/AbstractStringBuilder", "getValue", "()[B"⟩ : MethodName)) hown (mvT hZ (hw _ (List.mem_of_getElem? (i := 73) rfl))) (mvT hZ (hw _ (List.mem_of_getElem? (i := 74) rfl))) (notFace_of_selects (args := #[]) (mvT hZ (hw _ (List.mem_of_getElem? (i := 76) rfl)))) (mvT hZ (hw _ (List.mem_of_getElem? (i := 76) rfl))) (mvT hZ (hw _ (List.mem_of_getElem? (i := 75) rfl))) (by decide) (backOf (W := 0) (rm14 l Z a0 hw [] a2 b h0 F_v) hZ (hw _ (List.mem_of_getElem? (i := 77) rfl)) (hw _ (List.mem_of_getElem? (i := 16) rfl)) (by decide) (by decide)) q2a q2c (g := (mkF m 5 #[vR a1, vR a2, .val .null, .unset, .unset] [iR a2])) rfl (by rw [hml]; rfl) (Steps.refl _) (argsL := []) (rest := []) (lenOf pd_5 rfl) rfl (by show 2 * 0 + _ ≤ _; exact Nat.le_of_eq rfl) (hb hby d13_5) (fun _ _ => ⟨rfl, e1, (by decide : 0 + 0 ≤ _), (by decide : 0 + 0 ≤ _)⟩)
  dsimp only [Pt.U, Pt.locs, Pt.cells, Pt.slots] at X2 l2 y2 z2 st2 hQ2
  subst l2 y2 z2
  obtain ⟨rfl, rfl, e2⟩ := hQ2
  try rw [List.append_nil] at X2
  obtain ⟨cq3, kq3, q3a, q3b, q3c⟩ := isOf hZ e2 E_a2
  obtain ⟨_, _, ⟨T3, L3, k3, n3⟩, -, X3, ⟨Lc3, hQ3, l3, y3, z3⟩, st3⟩ := X2.virtualBack hx (y := (⟨"java/lang/AbstractStringBuilder", "length", "()I"⟩ : MethodName)) (z := (⟨"java/lang/StringBuilder", "length", "()I"⟩ : MethodName)) hown (mvT hZ (hw _ (List.mem_of_getElem? (i := 78) rfl))) (mvT hZ (hw _ (List.mem_of_getElem? (i := 79) rfl))) (own_nf (z := (⟨"java/lang/AbstractStringBuilder", "ensureCapacityInternal", "(I)V"⟩ : MethodName)) rfl (notFace_of_selects (args := #[]) (mvT hZ (hw _ (List.mem_of_getElem? (i := 47) rfl)))) (mvT hZ (hw _ (List.mem_of_getElem? (i := 45) rfl)) (args := #[]))) (mvT hZ (hw _ (List.mem_of_getElem? (i := 81) rfl))) (mvT hZ (hw _ (List.mem_of_getElem? (i := 82) rfl))) (by decide) (backOf (W := 0) (rm15 l Z a0 hw [] a2 nz h0 E_a2 F_n) hZ (hw _ (List.mem_of_getElem? (i := 83) rfl)) (hw _ (List.mem_of_getElem? (i := 8) rfl)) (by decide) (by decide)) q3a q3c (g := (mkF m 10 #[vR a1, vR a2, .val .null, vR b, .unset] [iR a2])) rfl (by rw [hml]; rfl) (Steps.refl _) (argsL := []) (rest := []) (lenOf pd_4 rfl) rfl (by show 2 * 0 + _ ≤ _; exact Nat.le_of_eq rfl) (hb hby d13_10) (fun _ _ => ⟨rfl, e2, (by decide : 0 + 0 ≤ _), (by decide : 0 + 0 ≤ _)⟩)
  dsimp only [Pt.U, Pt.locs, Pt.cells, Pt.slots] at X3 l3 y3 z3 st3 hQ3
  subst l3 y3 z3
  obtain ⟨rfl, rfl, e3⟩ := hQ3
  try rw [List.append_nil] at X3
  obtain ⟨cq4, kq4, q4a, q4b, q4c⟩ := isOf hZ e3 E_a2
  obtain ⟨_, _, ⟨T4, L4, k4, n4⟩, -, X4, ⟨Lc4, hQ4, l4, y4, z4⟩, st4⟩ := X3.virtualBack hx (y := (⟨"java/lang/AbstractStringBuilder", "isLatin1", "()Z"⟩ : MethodName)) (z := (⟨"java/lang/AbstractStringBuilder", "isLatin1", "()Z"⟩ : MethodName)) hown (mvT hZ (hw _ (List.mem_of_getElem? (i := 86) rfl))) (mvT hZ (hw _ (List.mem_of_getElem? (i := 50) rfl))) (notFace_of_selects (args := #[]) (mvT hZ (hw _ (List.mem_of_getElem? (i := 52) rfl)))) (mvT hZ (hw _ (List.mem_of_getElem? (i := 52) rfl))) (mvT hZ (hw _ (List.mem_of_getElem? (i := 51) rfl))) (by decide) (backOf (W := 0) (rm9 l Z a0 hw [] a2 cs h0 n0 O0 F_c S_CS h_cs) hZ (hw _ (List.mem_of_getElem? (i := 53) rfl)) (hw _ (List.mem_of_getElem? (i := 16) rfl)) (by decide) (by decide)) q4a q4c (g := (mkF m 16 #[vR a1, vR a2, .val .null, vR b, vI nz] [iR a2])) rfl (by rw [hml]; rfl) (Steps.refl _) (argsL := []) (rest := []) (lenOf pd_1 rfl) rfl (by show 2 * 0 + _ ≤ _; exact Nat.le_of_eq rfl) (hb hby d13_16) (fun _ _ => ⟨rfl, e3, (by decide : 0 + 0 ≤ _), (by decide : 0 + 0 ≤ _)⟩)
  dsimp only [Pt.U, Pt.locs, Pt.cells, Pt.slots] at X4 l4 y4 z4 st4 hQ4
  subst l4 y4 z4
  obtain ⟨rfl, rfl, e4⟩ := hQ4
  try rw [List.append_nil] at X4
  obtain ⟨T5, h5, X5, e5, W5, st5⟩ := putFN X4 hx hZ hown (hw _ (List.mem_of_getElem? (i := 87) rfl)) Via.refl e4 H_c E_a1 (Or.inr ⟨(hw _ (List.mem_of_getElem? (i := 88) rfl)), rfl, hnm⟩) (hw _ (List.mem_of_getElem? (i := 64) rfl)) (ty := .byte) (v' := (.int (0 : Int32))) (by decide) rfl (by decide) (g := (mkF m 24 #[vR a1, vR a2, .val .null, vR b, vI nz] [iI 0, iR a1])) rfl rfl (hb hby d13_24)
  have Fw5 := H_c.same W5
  have K5 : Keep h0 h5 [a1] := K0.wr W5 (Or.inl (List.mem_of_getElem? (i := 0) rfl))
  have N5 := Fr.snoc X5 N0 g_a1
  have fk7 := (V_b.other W5 (Ne.symm ne_a1_b))
  have fk8 := (G_b.wr W5)
  obtain ⟨_, _, ⟨T6, L6, k6, n6⟩, -, X6, ⟨Lc6, hQ6, l6, y6, z6⟩, st6⟩ := Jvm.LawKit.callS X5 hx (y := (⟨"java/util/Arrays", "copyOfRange", "([BII)[B"⟩ : MethodName)) hown (mvT hZ (hw _ (List.mem_of_getElem? (i := 89) rfl))) (mvT hZ (hw _ (List.mem_of_getElem? (i := 90) rfl))) (mvT hZ (hw _ (List.mem_of_getElem? (i := 91) rfl))) (mvT hZ (hw _ (List.mem_of_getElem? (i := 92) rfl))) (by decide) (backOf (W := 1) (rm17 l Z a0 hw [] b kb nz c0 c1 c2 c3 c4 c5 c6 c7 h5 n0 (Nat.le_trans Z0 K5.1) fk7 fk8 hn8) hZ (hw _ (List.mem_of_getElem? (i := 92) rfl)) (hw _ (List.mem_of_getElem? (i := 91) rfl)) (by decide) (by decide)) (g := (mkF m 32 #[vR a1, vR a2, .val .null, vR b, vI nz] [iI nz, iI 0, iR b, iR a1])) rfl (by rw [hml]; rfl) (argsL := [(.ref b), (.int (0 : Int32)), (.int nz)]) (rest := [(.ref a1)]) (lenOf pd_6 rfl) rfl (by show 2 * 0 + _ ≤ _; exact Nat.le_of_eq rfl) (hb hby d13_32) (fun _ _ => ⟨rfl, e5, (by decide : 0 + 1 ≤ _), (by decide : 0 + 8 ≤ _)⟩)
  dsimp only [Pt.U, Pt.locs, Pt.cells, Pt.slots] at X6 l6 y6 z6 st6 hQ6
  subst l6 y6 z6
  obtain ⟨d6, rfl, N6q, K6q, V6q, z_d6⟩ := hQ6
  have fk9 := (E_a1.wr W5)
  have fk10 := (E_a2.wr W5)
  have ne_a1_d6 : a1 ≠ d6 := Nat.ne_of_lt (Nat.lt_of_lt_of_le fk9.lt z_d6)
  have ne_a2_d6 : a2 ≠ d6 := Nat.ne_of_lt (Nat.lt_of_lt_of_le fk10.lt z_d6)
  have ne_b_d6 : b ≠ d6 := Nat.ne_of_lt (Nat.lt_of_lt_of_le fk7.lt z_d6)
  have sz_d6 : h0.size ≤ d6 := Nat.le_trans K5.1 z_d6
  have g_d6 : n0 ≤ d6 := Nat.le_trans Z0 sz_d6
  have N6 := Fr.app N5 N6q
  have K6 : Keep h0 T6.heap [a1] := Keep.trans K5 K6q all0
  have fk11 := ((H_v.other W5 (Or.inr (slot_ne (Or.inr (hw _ (List.mem_of_getElem? (i := 103) rfl))) (Or.inr (hw _ (List.mem_of_getElem? (i := 88) rfl))) (by decide) (t := (.array .byte)) (t' := .byte) (by decide) (by decide)))).keep K6q nin0)
  have fk12 := (fk9.keep K6q)
  obtain ⟨T13, h13, X13, e13, W13, st13⟩ := putF X6 hx hZ hown (host := "") (Or.inl (hw _ (List.mem_of_getElem? (i := 102) rfl))) Via.refl rfl fk11 fk12 (Or.inr ⟨(hw _ (List.mem_of_getElem? (i := 103) rfl)), rfl, hnm⟩) (hw _ (List.mem_of_getElem? (i := 64) rfl)) (ty := (.array .byte)) (by decide) rfl rfl (g := (mkF m 35 #[vR a1, vR a2, .val .null, vR b, vI nz] [iR d6, iR a1])) rfl rfl (hb hby d13_35)
  have Fw13 := fk11.same W13
  have K13 : Keep h0 h13 [a1] := K6.wr W13 (Or.inl (List.mem_of_getElem? (i := 0) rfl))
  have N13 := Fr.snoc X13 N6 g_a1
  obtain ⟨fs, hr, hrun, hended, hW, hsame⟩ := X13.leave (v := none) (fun _ => rfl)
  have fk14 := (fk12.wr W13)
  have fk15 := ((Fw5.keep K6q nin0).other W13 (Or.inr (slot_ne (Or.inr (hw _ (List.mem_of_getElem? (i := 88) rfl))) (Or.inr (hw _ (List.mem_of_getElem? (i := 103) rfl))) (by decide) (t := .byte) (t' := (.array .byte)) (by decide) (by decide))))
  have fk16 := (V6q.other W13 (Ne.symm ne_a1_d6))
  refine ⟨_, _, pre0 _ ?_, hrun, hended, _, _, rfl, ?_, ⟨_, rfl⟩, hW, hsame.mono (by decide) (by decide)⟩
  · show Steps _ _ _ (s₁.setTop (mkF m 0 #[vR a1, vR a2, .val .null, .unset, .unset] [])) _
    refine XS.aloadN X0.here hx rfl (hb hby d13_0) rfl rfl ?_
    show Steps _ _ _ (s₁.setTop (mkF m 1 #[vR a1, vR a2, .val .null, .unset, .unset] [iR a1])) _
    refine st1 _ ?_
    show Steps _ _ _ (T1.setTop (mkF m 4 #[vR a1, vR a2, .val .null, .unset, .unset] [])) _
    refine XS.aloadN X1.here hx rfl (hb hby d13_4) rfl rfl ?_
    show Steps _ _ _ (T1.setTop (mkF m 5 #[vR a1, vR a2, .val .null, .unset, .unset] [iR a2])) _
    refine st2.trans ?_
    show Steps _ _ _ (T2.setTop (mkF m 8 #[vR a1, vR a2, .val .null, .unset, .unset] [iR b])) _
    refine XS.astoreN X2.here hx rfl (hb hby d13_8) rfl rfl (l' := #[vR a1, vR a2, .val .null, vR b, .unset]) rfl ?_
    show Steps _ _ _ (T2.setTop (mkF m 9 #[vR a1, vR a2, .val .null, vR b, .unset] [])) _
    refine XS.aloadN X2.here hx rfl (hb hby d13_9) rfl rfl ?_
    show Steps _ _ _ (T2.setTop (mkF m 10 #[vR a1, vR a2, .val .null, vR b, .unset] [iR a2])) _
    refine st3.trans ?_
    show Steps _ _ _ (T3.setTop (mkF m 13 #[vR a1, vR a2, .val .null, vR b, .unset] [iI nz])) _
    refine XS.istore X3.here hx rfl (hb hby d13_13) rfl (l' := #[vR a1, vR a2, .val .null, vR b, vI nz]) rfl ?_
    show Steps _ _ _ (T3.setTop (mkF m 15 #[vR a1, vR a2, .val .null, vR b, vI nz] [])) _
    refine XS.aloadN X3.here hx rfl (hb hby d13_15) rfl rfl ?_
    show Steps _ _ _ (T3.setTop (mkF m 16 #[vR a1, vR a2, .val .null, vR b, vI nz] [iR a2])) _
    refine st4.trans ?_
    show Steps _ _ _ (T4.setTop (mkF m 19 #[vR a1, vR a2, .val .null, vR b, vI nz] [iI 1])) _
    refine XS.ifNo X4.here hx rfl (hb hby d13_19) rfl ((if0 _ _).trans (feq (by decide : ¬ ((1 : Int32) = (0 : Int32)))).1) ?_
    show Steps _ _ _ (T4.setTop (mkF m 22 #[vR a1, vR a2, .val .null, vR b, vI nz] [])) _
    refine XS.aloadN X4.here hx rfl (hb hby d13_22) rfl rfl ?_
    show Steps _ _ _ (T4.setTop (mkF m 23 #[vR a1, vR a2, .val .null, vR b, vI nz] [iR a1])) _
    refine XS.iconst X4.here hx rfl (hb hby d13_23) ?_
    show Steps _ _ _ (T4.setTop (mkF m 24 #[vR a1, vR a2, .val .null, vR b, vI nz] [iI 0, iR a1])) _
    refine st5 _ ?_
    show Steps _ _ _ (T5.setTop (mkF m 27 #[vR a1, vR a2, .val .null, vR b, vI nz] [])) _
    refine XS.aloadN X5.here hx rfl (hb hby d13_27) rfl rfl ?_
    show Steps _ _ _ (T5.setTop (mkF m 28 #[vR a1, vR a2, .val .null, vR b, vI nz] [iR a1])) _
    refine XS.aloadN X5.here hx rfl (hb hby d13_28) rfl rfl ?_
    show Steps _ _ _ (T5.setTop (mkF m 29 #[vR a1, vR a2, .val .null, vR b, vI nz] [iR b, iR a1])) _
    refine XS.iconst X5.here hx rfl (hb hby d13_29) ?_
    show Steps _ _ _ (T5.setTop (mkF m 30 #[vR a1, vR a2, .val .null, vR b, vI nz] [iI 0, iR b, iR a1])) _
    refine XS.iload X5.here hx rfl (hb hby d13_30) rfl ?_
    show Steps _ _ _ (T5.setTop (mkF m 32 #[vR a1, vR a2, .val .null, vR b, vI nz] [iI nz, iI 0, iR b, iR a1])) _
    refine st6 _ ?_
    show Steps _ _ _ (T6.setTop (mkF m 35 #[vR a1, vR a2, .val .null, vR b, vI nz] [iR d6, iR a1])) _
    refine st13 _ ?_
    show Steps _ _ _ (T13.setTop (mkF m 38 #[vR a1, vR a2, .val .null, vR b, vI nz] [])) _
    refine XS.goto X13.here hx rfl (pc0 := 38) (pc' := 97) rfl (hb hby d13_38) (by decide) (by decide) ?_
    show Steps _ _ _ (T13.setTop (mkF m 97 #[vR a1, vR a2, .val .null, vR b, vI nz] [])) _
    exact X13.returnOut hx Bd.returns (hb hby d13_97) hr
  · show Q13 Z a1 a2 b kb nz c0 c1 c2 c3 c4 c5 c6 c7 cs h0 n0 _ T13.heap _
    rw [e13]
    exact ⟨_, rfl, N13, K13, fk14, fk15, Fw13, fk16, sz_d6⟩
theorem d12_0 : decode jdk_42_method_53_code 0 = .ok (.aload_n 0, 1) := by decide +kernel
theorem d12_1 : decode jdk_42_method_53_code 1 = .ok (.aload_n 1, 1) := by decide +kernel
theorem d12_2 : decode jdk_42_method_53_code 2 = .ok (.aconst_null, 1) := by decide +kernel
theorem d12_3 : decode jdk_42_method_53_code 3 = .ok (.invokespecial 489, 3) := by decide +kernel
theorem d12_6 : decode jdk_42_method_53_code 6 = .ok (.return_, 1) := by decide +kernel
theorem ef_12 (m : MethodId) (x0 : Addr) (x1 : Addr) : entryFrame m #[(.ref x0), (.ref x1)] 2 = mkF m 0 #[.val (.ref x0), .val (.ref x1)] [] := by first | (simp [entryFrame, mkF, argsToLocals, Value.category]; done) | rfl
def Q12 (Z : State) (a1 : Addr) (a2 : Addr) (b : Addr) (kb : ClassId) (nz : Int32) (c0 : Int32) (c1 : Int32) (c2 : Int32) (c3 : Int32) (c4 : Int32) (c5 : Int32) (c6 : Int32) (c7 : Int32) (cs : Int32) (h0 : Heap) (n0 : Nat) (v : Option Value) (h : Heap) (L : List Loc) : Prop := ∃ (o : Addr), v = none ∧ Fr n0 L ∧ Keep h0 h [a1] ∧ Exa Z h a1 "java/lang/String" ∧ Fld Z h a1 "java/lang/String" "coder" "B" (.int (0 : Int32)) ∧ Fld Z h a1 "java/lang/String" "value" "[B" (.ref o) ∧ Arv Z h o kb .byte nz [(.int c0), (.int c1), (.int c2), (.int c3), (.int c4), (.int c5), (.int c6), (.int c7)] (.int (0 : Int32)) ∧ h0.size ≤ o
set_option maxRecDepth 65536 in
set_option maxHeartbeats 40000000 in
theorem rm12 (l : Launch) (Z : State) (a0 : Array Value) (hw : ∀ d ∈ tables_1, d.before a0 Z = true) (ws : List Jvm.Cond) (a1 : Addr) (a2 : Addr) (b : Addr) (kb : ClassId) (nz : Int32) (c0 : Int32) (c1 : Int32) (c2 : Int32) (c3 : Int32) (c4 : Int32) (c5 : Int32) (c6 : Int32) (c7 : Int32) (cs : Int32) (h0 : Heap) (n0 : Nat) (Z0 : n0 ≤ h0.size) (O0 : Old Z n0 h0) (E_a1 : Exa Z h0 a1 "java/lang/String") (g_a1 : n0 ≤ a1) (H_v : Fld Z h0 a1 "java/lang/String" "value" "[B" .null) (H_c : Fld Z h0 a1 "java/lang/String" "coder" "B" (.int (0 : Int32))) (ne_a1_a2 : a1 ≠ a2) (ne_a1_b : a1 ≠ b) (E_a2 : Exa Z h0 a2 "java/lang/StringBuilder") (F_v : Fld Z h0 a2 "java/lang/AbstractStringBuilder" "value" "[B" (.ref b)) (F_c : Fld Z h0 a2 "java/lang/AbstractStringBuilder" "coder" "B" (.int (0 : Int32))) (F_n : Fld Z h0 a2 "java/lang/AbstractStringBuilder" "count" "I" (.int nz)) (V_b : Arv Z h0 b kb .byte nz [(.int c0), (.int c1), (.int c2), (.int c3), (.int c4), (.int c5), (.int c6), (.int c7)] (.int (0 : Int32))) (G_b : Exa Z h0 b "[B") (hn0 : ¬ nz < 0) (hn8 : nz.toNatClampNeg ≤ 8) (S_CS : Sta Z Z.heap "java/lang/String" "COMPACT_STRINGS" "Z" (.int cs)) (h_cs : ¬ cs = (0 : Int32)) :
    MetFree l (⟨"java/lang/String", "<init>", "(Ljava/lang/StringBuilder;)V"⟩ : MethodName) (head1 (Jvm.Cond.code (⟨"java/lang/String", "<init>", "(Ljava/lang/StringBuilder;)V"⟩ : MethodName) jdk_42_method_53_code 2 none :: ws) ({ frames := 3, cells := 1, slots := 8, locals := 45 } : Room)) (fun a U => a = #[(.ref a1), (.ref a2)] ∧ Z.Warmed39 U.vm ∧ U.heap = h0) (fun _ _ _ _ _ => True) (fun _ U o U' => ∃ v L, o = .returned v ∧ Q12 Z a1 a2 b kb nz c0 c1 c2 c3 c4 c5 c6 c7 cs h0 n0 v U'.heap L ∧ FrameEnd U o U' L ({ frames := 3, cells := 1, slots := 8, locals := 45 } : Room).cells ({ frames := 3, cells := 1, slots := 8, locals := 45 } : Room).slots) := by
  refine MetFree.of_bodySF (plainFor_of_name pn_4) hisR ?_
  intro p e s m args below meth c s₁ Bd hml0 hP hK
  obtain ⟨rfl, hZ, hh⟩ := hP
  have hx := Bd.exec
  have hby := Bd.bytes
  have hml : c.maxLocals = 2 := hml0
  have hown : s.vm.findClass "java/lang/String" = some m.cls := findClass_of_methodNamed Bd.named
  have hnm := (name_of_methodNamed Bd.named Bd.method).1
  have X0 : Stand p l e ({ frames := 3, cells := 1, slots := 8, locals := 45 } : Room) s m #[(.ref a1), (.ref a2)] below meth c s₁ [] 0 0 := Stand.of_body Bd
  have e0 : s₁.heap = h0 := by rw [← hh, Bd.state]; rfl
  have N0 := Fr.nil n0
  have K0 := Keep.refl h0 [a1]
  have pre0 : ∀ t, Steps p.tables e below (s₁.setTop (mkF m 0 #[.val (.ref a1), .val (.ref a2)] [])) t → Steps p.tables e below (s₁.setTop (entryFrame m #[(.ref a1), (.ref a2)] 2)) t := fun t k => castTop (ef_12 m a1 a2) k
  obtain ⟨_, _, ⟨T1, L1, k1, n1⟩, -, X1, ⟨Lc1, hQ1, l1, y1, z1⟩, st1⟩ := X0.specialBack hx (y := (⟨"java/lang/String", "<init>", "(Ljava/lang/AbstractStringBuilder;Ljava/lang/Void;)V"⟩ : MethodName)) rfl hown (mvT hZ (hw _ (List.mem_of_getElem? (i := 69) rfl))) (mvT hZ (hw _ (List.mem_of_getElem? (i := 70) rfl))) (mvT hZ (hw _ (List.mem_of_getElem? (i := 71) rfl))) (by decide) (backOf (W := 0) (rm13 l Z a0 hw [] a1 a2 b kb nz c0 c1 c2 c3 c4 c5 c6 c7 cs h0 n0 (Nat.le_trans Z0 K0.1) O0 E_a1 g_a1 H_v H_c ne_a1_a2 ne_a1_b E_a2 F_v F_c F_n V_b G_b hn0 hn8 S_CS h_cs) hZ (hw _ (List.mem_of_getElem? (i := 71) rfl)) (hw _ (List.mem_of_getElem? (i := 22) rfl)) (by decide) (by decide)) (g := (mkF m 3 #[vR a1, vR a2] [.null, iR a2, iR a1])) rfl (by rw [hml]; rfl) (Steps.refl _) (a := a1) (argsL := [(.ref a2), .null]) (rest := []) (lenOf pd_7 rfl) rfl (by show 2 * 0 + _ ≤ _; exact Nat.le_of_eq rfl) (hb hby d12_3) (fun _ _ => ⟨rfl, e0, (by decide : 0 + 1 ≤ _), (by decide : 0 + 8 ≤ _)⟩)
  dsimp only [Pt.U, Pt.locs, Pt.cells, Pt.slots] at X1 l1 y1 z1 st1 hQ1
  subst l1 y1 z1
  obtain ⟨d1, rfl, N1q, K1q, E1q, C1q, F1q, V1q, z_d1⟩ := hQ1
  have ne_a1_d1 : a1 ≠ d1 := Nat.ne_of_lt (Nat.lt_of_lt_of_le E_a1.lt z_d1)
  have ne_a2_d1 : a2 ≠ d1 := Nat.ne_of_lt (Nat.lt_of_lt_of_le E_a2.lt z_d1)
  have ne_b_d1 : b ≠ d1 := Nat.ne_of_lt (Nat.lt_of_lt_of_le V_b.lt z_d1)
  have sz_d1 : h0.size ≤ d1 := Nat.le_trans K0.1 z_d1
  have g_d1 : n0 ≤ d1 := Nat.le_trans Z0 sz_d1
  have N1 := Fr.app N0 N1q
  have K1 : Keep h0 T1.heap [a1] := Keep.trans K0 K1q (allS (Or.inl (List.mem_of_getElem? (i := 0) rfl)) all0)
  obtain ⟨fs, hr, hrun, hended, hW, hsame⟩ := X1.leave (v := none) (fun _ => rfl)
  refine ⟨_, _, pre0 _ ?_, hrun, hended, _, _, rfl, ?_, ⟨_, rfl⟩, hW, hsame.mono (by decide) (by decide)⟩
  · show Steps _ _ _ (s₁.setTop (mkF m 0 #[vR a1, vR a2] [])) _
    refine XS.aloadN X0.here hx rfl (hb hby d12_0) rfl rfl ?_
    show Steps _ _ _ (s₁.setTop (mkF m 1 #[vR a1, vR a2] [iR a1])) _
    refine XS.aloadN X0.here hx rfl (hb hby d12_1) rfl rfl ?_
    show Steps _ _ _ (s₁.setTop (mkF m 2 #[vR a1, vR a2] [iR a2, iR a1])) _
    refine XS.aconstNull X0.here hx rfl (hb hby d12_2) ?_
    show Steps _ _ _ (s₁.setTop (mkF m 3 #[vR a1, vR a2] [.null, iR a2, iR a1])) _
    refine st1.trans ?_
    show Steps _ _ _ (T1.setTop (mkF m 6 #[vR a1, vR a2] [])) _
    exact X1.returnOut hx Bd.returns (hb hby d12_6) hr
  · show Q12 Z a1 a2 b kb nz c0 c1 c2 c3 c4 c5 c6 c7 cs h0 n0 _ T1.heap _
    exact ⟨_, rfl, N1, K1, E1q, C1q, F1q, V1q, sz_d1⟩
theorem d11_0 : decode jdk_67_method_42_code 0 = .ok (.new 18, 3) := by decide +kernel
theorem d11_3 : decode jdk_67_method_42_code 3 = .ok (.dup, 1) := by decide +kernel
theorem d11_4 : decode jdk_67_method_42_code 4 = .ok (.aload_n 0, 1) := by decide +kernel
theorem d11_5 : decode jdk_67_method_42_code 5 = .ok (.invokespecial 137, 3) := by decide +kernel
theorem d11_8 : decode jdk_67_method_42_code 8 = .ok (.areturn, 1) := by decide +kernel
theorem ef_11 (m : MethodId) (x0 : Addr) : entryFrame m #[(.ref x0)] 1 = mkF m 0 #[.val (.ref x0)] [] := by first | (simp [entryFrame, mkF, argsToLocals, Value.category]; done) | rfl
def Q11 (Z : State) (a1 : Addr) (b : Addr) (kb : ClassId) (nz : Int32) (c0 : Int32) (c1 : Int32) (c2 : Int32) (c3 : Int32) (c4 : Int32) (c5 : Int32) (c6 : Int32) (c7 : Int32) (cs : Int32) (h0 : Heap) (n0 : Nat) (v : Option Value) (h : Heap) (L : List Loc) : Prop := ∃ (o d : Addr), v = some (.ref o) ∧ Fr n0 L ∧ Keep h0 h [] ∧ Exa Z h o "java/lang/String" ∧ Fld Z h o "java/lang/String" "coder" "B" (.int (0 : Int32)) ∧ Fld Z h o "java/lang/String" "value" "[B" (.ref d) ∧ Arv Z h d kb .byte nz [(.int c0), (.int c1), (.int c2), (.int c3), (.int c4), (.int c5), (.int c6), (.int c7)] (.int (0 : Int32))
set_option maxRecDepth 65536 in
set_option maxHeartbeats 40000000 in
theorem rm11 (l : Launch) (Z : State) (a0 : Array Value) (hw : ∀ d ∈ tables_1, d.before a0 Z = true) (ws : List Jvm.Cond) (a1 : Addr) (b : Addr) (kb : ClassId) (nz : Int32) (c0 : Int32) (c1 : Int32) (c2 : Int32) (c3 : Int32) (c4 : Int32) (c5 : Int32) (c6 : Int32) (c7 : Int32) (cs : Int32) (h0 : Heap) (n0 : Nat) (Z0 : n0 ≤ h0.size) (O0 : Old Z n0 h0) (E_a1 : Exa Z h0 a1 "java/lang/StringBuilder") (F_v : Fld Z h0 a1 "java/lang/AbstractStringBuilder" "value" "[B" (.ref b)) (F_c : Fld Z h0 a1 "java/lang/AbstractStringBuilder" "coder" "B" (.int (0 : Int32))) (F_n : Fld Z h0 a1 "java/lang/AbstractStringBuilder" "count" "I" (.int nz)) (V_b : Arv Z h0 b kb .byte nz [(.int c0), (.int c1), (.int c2), (.int c3), (.int c4), (.int c5), (.int c6), (.int c7)] (.int (0 : Int32))) (G_b : Exa Z h0 b "[B") (hn0 : ¬ nz < 0) (hn8 : nz.toNatClampNeg ≤ 8) (S_CS : Sta Z Z.heap "java/lang/String" "COMPACT_STRINGS" "Z" (.int cs)) (h_cs : ¬ cs = (0 : Int32)) :
    MetFree l (⟨"java/lang/StringBuilder", "toString", "()Ljava/lang/String;"⟩ : MethodName) (head1 (Jvm.Cond.code (⟨"java/lang/StringBuilder", "toString", "()Ljava/lang/String;"⟩ : MethodName) jdk_67_method_42_code 1 (some (.object "java/lang/String")) :: ws) ({ frames := 4, cells := 2, slots := 12, locals := 59 } : Room)) (fun a U => a = #[(.ref a1)] ∧ Z.Warmed39 U.vm ∧ U.heap = h0) (fun _ _ _ _ _ => True) (fun _ U o U' => ∃ v L, o = .returned v ∧ Q11 Z a1 b kb nz c0 c1 c2 c3 c4 c5 c6 c7 cs h0 n0 v U'.heap L ∧ FrameEnd U o U' L ({ frames := 4, cells := 2, slots := 12, locals := 59 } : Room).cells ({ frames := 4, cells := 2, slots := 12, locals := 59 } : Room).slots) := by
  refine MetFree.of_bodySF (plainFor_of_name pn_1) hisR ?_
  intro p e s m args below meth c s₁ Bd hml0 hP hK
  obtain ⟨rfl, hZ, hh⟩ := hP
  have hx := Bd.exec
  have hby := Bd.bytes
  have hml : c.maxLocals = 1 := hml0
  have hown : s.vm.findClass "java/lang/StringBuilder" = some m.cls := findClass_of_methodNamed Bd.named
  have hnm := (name_of_methodNamed Bd.named Bd.method).1
  have X0 : Stand p l e ({ frames := 4, cells := 2, slots := 12, locals := 59 } : Room) s m #[(.ref a1)] below meth c s₁ [] 0 0 := Stand.of_body Bd
  have e0 : s₁.heap = h0 := by rw [← hh, Bd.state]; rfl
  have N0 := Fr.nil n0
  have K0 := Keep.refl h0 []
  have pre0 : ∀ t, Steps p.tables e below (s₁.setTop (mkF m 0 #[.val (.ref a1)] [])) t → Steps p.tables e below (s₁.setTop (entryFrame m #[(.ref a1)] 1)) t := fun t k => castTop (ef_11 m a1) k
  obtain ⟨T1, h1, X1, e1, E1, A1, D1, -, st1⟩ := newO X0 hx hZ hown (hw _ (List.mem_of_getElem? (i := 63) rfl)) (hw _ (List.mem_of_getElem? (i := 64) rfl)) (hw _ (List.mem_of_getElem? (i := 22) rfl)) e0 (g := (mkF m 0 #[vR a1] [])) rfl (hb hby d11_0) (by decide) (by decide)
  obtain ⟨b1, g1⟩ : ∃ z, z = h0.size := ⟨_, rfl⟩
  rw [← g1] at A1 D1 st1
  have ne_a1_b1 : a1 ≠ b1 := Nat.ne_of_lt (Nat.lt_of_lt_of_le E_a1.lt (Nat.le_of_eq g1.symm))
  have ne_b_b1 : b ≠ b1 := Nat.ne_of_lt (Nat.lt_of_lt_of_le V_b.lt (Nat.le_of_eq g1.symm))
  have sz_b1 : h0.size ≤ b1 := Nat.le_trans K0.1 (Nat.le_of_eq g1.symm)
  have g_b1 : n0 ≤ b1 := Nat.le_trans Z0 sz_b1
  have K1 : Keep h0 h1 [] := K0.ext E1
  have F_coder_b1 : Fld Z h1 b1 "java/lang/String" "coder" "B" (.int (0 : Int32)) := D1 (Or.inr (hw _ (List.mem_of_getElem? (i := 88) rfl))) (ty := .byte) (by decide)
  have F_value_b1 : Fld Z h1 b1 "java/lang/String" "value" "[B" .null := D1 (Or.inr (hw _ (List.mem_of_getElem? (i := 103) rfl))) (ty := (.array .byte)) (by decide)
  have fk3 := (E_a1.ext E1)
  have fk4 := (F_v.ext E1)
  have fk5 := (F_c.ext E1)
  have fk6 := (F_n.ext E1)
  have fk7 := (V_b.ext E1)
  have fk8 := (G_b.ext E1)
  have Oh9 := O0.keep K1 all0
  obtain ⟨_, _, ⟨T2, L2, k2, n2⟩, -, X2, ⟨Lc2, hQ2, l2, y2, z2⟩, st2⟩ := X1.specialBack hx (y := (⟨"java/lang/String", "<init>", "(Ljava/lang/StringBuilder;)V"⟩ : MethodName)) rfl hown (mvT hZ (hw _ (List.mem_of_getElem? (i := 65) rfl))) (mvT hZ (hw _ (List.mem_of_getElem? (i := 66) rfl))) (mvT hZ (hw _ (List.mem_of_getElem? (i := 68) rfl))) (by decide) (backOf (W := 1) (rm12 l Z a0 hw [] b1 a1 b kb nz c0 c1 c2 c3 c4 c5 c6 c7 cs h1 n0 (Nat.le_trans Z0 K1.1) Oh9 A1 g_b1 F_value_b1 F_coder_b1 (Ne.symm ne_a1_b1) (Ne.symm ne_b_b1) fk3 fk4 fk5 fk6 fk7 fk8 hn0 hn8 S_CS h_cs) hZ (hw _ (List.mem_of_getElem? (i := 68) rfl)) (hw _ (List.mem_of_getElem? (i := 22) rfl)) (by decide) (by decide)) (g := (mkF m 5 #[vR a1] [iR a1, iR b1, iR b1])) rfl (by rw [hml]; rfl) (Steps.refl _) (a := b1) (argsL := [(.ref a1)]) (rest := [(.ref b1)]) (lenOf pd_8 rfl) rfl (by show 2 * 0 + _ ≤ _; exact Nat.le_of_eq rfl) (hb hby d11_5) (fun _ _ => ⟨rfl, e1, (by decide : 1 + 1 ≤ _), (by decide : 4 + 8 ≤ _)⟩)
  dsimp only [Pt.U, Pt.locs, Pt.cells, Pt.slots] at X2 l2 y2 z2 st2 hQ2
  subst l2 y2 z2
  obtain ⟨d2, rfl, N2q, K2q, E2q, C2q, F2q, V2q, z_d2⟩ := hQ2
  have ne_a1_d2 : a1 ≠ d2 := Nat.ne_of_lt (Nat.lt_of_lt_of_le fk3.lt z_d2)
  have ne_b_d2 : b ≠ d2 := Nat.ne_of_lt (Nat.lt_of_lt_of_le fk7.lt z_d2)
  have ne_b1_d2 : b1 ≠ d2 := Nat.ne_of_lt (Nat.lt_of_lt_of_le A1.lt z_d2)
  have sz_d2 : h0.size ≤ d2 := Nat.le_trans K1.1 z_d2
  have g_d2 : n0 ≤ d2 := Nat.le_trans Z0 sz_d2
  have N2 := Fr.app N0 N2q
  have K2 : Keep h0 T2.heap [] := Keep.trans K1 K2q (allS (Or.inr sz_b1) all0)
  obtain ⟨fs, hr, hrun, hended, hW, hsame⟩ := X2.leave (v := some (.ref b1)) (fun h => by rw [Bd.returns] at h; cases h)
  refine ⟨_, _, pre0 _ ?_, hrun, hended, _, _, rfl, ?_, ⟨_, rfl⟩, hW, hsame.mono (by decide) (by decide)⟩
  · show Steps _ _ _ (s₁.setTop (mkF m 0 #[vR a1] [])) _
    refine st1 _ ?_
    show Steps _ _ _ (T1.setTop (mkF m 3 #[vR a1] [iR b1])) _
    refine XS.dup X1.here hx rfl (hb hby d11_3) rfl rfl ?_
    show Steps _ _ _ (T1.setTop (mkF m 4 #[vR a1] [iR b1, iR b1])) _
    refine XS.aloadN X1.here hx rfl (hb hby d11_4) rfl rfl ?_
    show Steps _ _ _ (T1.setTop (mkF m 5 #[vR a1] [iR a1, iR b1, iR b1])) _
    refine st2.trans ?_
    show Steps _ _ _ (T2.setTop (mkF m 8 #[vR a1] [iR b1])) _
    jvm_step X2.here [X2.here.top, hx, (hb hby d11_8), X2.method', Bd.returns, Value.isRef, FieldType.isReference]
    first | (intro acts; rw [hr _ acts rfl rfl rfl]) | rw [hr _ _ rfl rfl rfl]
    exact Steps.refl _
  · show Q11 Z a1 b kb nz c0 c1 c2 c3 c4 c5 c6 c7 cs h0 n0 _ T2.heap _
    exact ⟨_, _, rfl, N2, K2, E2q, C2q, F2q, V2q⟩
theorem d20_0 : decode jdk_42_method_152_code 0 = .ok (.getstatic 38, 3) := by decide +kernel
theorem d20_3 : decode jdk_42_method_152_code 3 = .ok (.ifCond .eq 10, 3) := by decide +kernel
theorem d20_6 : decode jdk_42_method_152_code 6 = .ok (.aload_n 0, 1) := by decide +kernel
theorem d20_7 : decode jdk_42_method_152_code 7 = .ok (.getfield 15, 3) := by decide +kernel
theorem d20_10 : decode jdk_42_method_152_code 10 = .ok (.goto 4, 3) := by decide +kernel
theorem d20_14 : decode jdk_42_method_152_code 14 = .ok (.ireturn, 1) := by decide +kernel
theorem ef_20 (m : MethodId) (x0 : Addr) : entryFrame m #[(.ref x0)] 1 = mkF m 0 #[.val (.ref x0)] [] := by first | (simp [entryFrame, mkF, argsToLocals, Value.category]; done) | rfl
def Q20 (Z : State) (a1 : Addr) (cs : Int32) (h0 : Heap) (v : Option Value) (h : Heap) (L : List Loc) : Prop := v = some (.int (0 : Int32)) ∧ L = [] ∧ h = h0
set_option maxRecDepth 65536 in
set_option maxHeartbeats 40000000 in
theorem rm20 (l : Launch) (Z : State) (a0 : Array Value) (hw : ∀ d ∈ tables_1, d.before a0 Z = true) (ws : List Jvm.Cond) (a1 : Addr) (cs : Int32) (h0 : Heap) (n0 : Nat) (O0 : Old Z n0 h0) (F_c : Fld Z h0 a1 "java/lang/String" "coder" "B" (.int (0 : Int32))) (S_CS : Sta Z Z.heap "java/lang/String" "COMPACT_STRINGS" "Z" (.int cs)) (h_cs : ¬ cs = (0 : Int32)) :
    MetFree l (⟨"java/lang/String", "coder", "()B"⟩ : MethodName) (head1 (Jvm.Cond.code (⟨"java/lang/String", "coder", "()B"⟩ : MethodName) jdk_42_method_152_code 1 (some .byte) :: ws) ({ frames := 0, cells := 0, slots := 0, locals := 0 } : Room)) (fun a U => a = #[(.ref a1)] ∧ Z.Warmed39 U.vm ∧ U.heap = h0) (fun _ _ _ _ _ => True) (fun _ U o U' => ∃ v L, o = .returned v ∧ Q20 Z a1 cs h0 v U'.heap L ∧ FrameEnd U o U' L ({ frames := 0, cells := 0, slots := 0, locals := 0 } : Room).cells ({ frames := 0, cells := 0, slots := 0, locals := 0 } : Room).slots) := by
  refine MetFree.of_bodySF (plainFor_of_name pn_4) hisR ?_
  intro p e s m args below meth c s₁ Bd hml0 hP hK
  obtain ⟨rfl, hZ, hh⟩ := hP
  have hx := Bd.exec
  have hby := Bd.bytes
  have hml : c.maxLocals = 1 := hml0
  have hown : s.vm.findClass "java/lang/String" = some m.cls := findClass_of_methodNamed Bd.named
  have hnm := (name_of_methodNamed Bd.named Bd.method).1
  have X0 : Stand p l e ({ frames := 0, cells := 0, slots := 0, locals := 0 } : Room) s m #[(.ref a1)] below meth c s₁ [] 0 0 := Stand.of_body Bd
  have e0 : s₁.heap = h0 := by rw [← hh, Bd.state]; rfl
  have pre0 : ∀ t, Steps p.tables e below (s₁.setTop (mkF m 0 #[.val (.ref a1)] [])) t → Steps p.tables e below (s₁.setTop (entryFrame m #[(.ref a1)] 1)) t := fun t k => castTop (ef_20 m a1) k
  obtain ⟨T1, X1, e1, st1⟩ := getS2 X0 hx hZ hown (host := "") (Or.inl (hw _ (List.mem_of_getElem? (i := 125) rfl))) Via.refl e0 (S_CS.ext O0.2) (g := (mkF m 0 #[vR a1] [])) rfl (hb hby d20_0)
  obtain ⟨T2, X2, e2, st2⟩ := getF X1 hx hZ hown (host := "") (Or.inl (hw _ (List.mem_of_getElem? (i := 87) rfl))) Via.refl e1 F_c (g := (mkF m 7 #[vR a1] [iR a1])) rfl rfl (hb hby d20_7)
  obtain ⟨fs, hr, hrun, hended, hW, hsame⟩ := X2.leave (v := some (.int (0 : Int32))) (fun h => by rw [Bd.returns] at h; cases h)
  refine ⟨_, _, pre0 _ ?_, hrun, hended, _, _, rfl, ?_, ⟨_, rfl⟩, hW, hsame.mono (by decide) (by decide)⟩
  · show Steps _ _ _ (s₁.setTop (mkF m 0 #[vR a1] [])) _
    refine st1 _ ?_
    show Steps _ _ _ (T1.setTop (mkF m 3 #[vR a1] [iI cs])) _
    refine XS.ifNo X1.here hx rfl (hb hby d20_3) rfl ((if0 _ _).trans (feq h_cs).1) ?_
    show Steps _ _ _ (T1.setTop (mkF m 6 #[vR a1] [])) _
    refine XS.aloadN X1.here hx rfl (hb hby d20_6) rfl rfl ?_
    show Steps _ _ _ (T1.setTop (mkF m 7 #[vR a1] [iR a1])) _
    refine st2 _ ?_
    show Steps _ _ _ (T2.setTop (mkF m 10 #[vR a1] [iI 0])) _
    refine XS.goto X2.here hx rfl (pc0 := 10) (pc' := 14) rfl (hb hby d20_10) (by decide) (by decide) ?_
    show Steps _ _ _ (T2.setTop (mkF m 14 #[vR a1] [iI 0])) _
    exact retN X2 hx (t := .byte) Bd.returns (by simp) (hb hby d20_14) hr
  · show Q20 Z a1 cs h0 _ T2.heap _
    rw [e2]
    exact ⟨rfl, rfl, rfl⟩
theorem d23_0 : decode jdk_42_method_154_code 0 = .ok (.getstatic 38, 3) := by decide +kernel
theorem d23_3 : decode jdk_42_method_154_code 3 = .ok (.ifCond .eq 14, 3) := by decide +kernel
theorem d23_6 : decode jdk_42_method_154_code 6 = .ok (.aload_n 0, 1) := by decide +kernel
theorem d23_7 : decode jdk_42_method_154_code 7 = .ok (.getfield 15, 3) := by decide +kernel
theorem d23_10 : decode jdk_42_method_154_code 10 = .ok (.ifCond .ne 7, 3) := by decide +kernel
theorem d23_13 : decode jdk_42_method_154_code 13 = .ok (.iconst 1, 1) := by decide +kernel
theorem d23_14 : decode jdk_42_method_154_code 14 = .ok (.goto 4, 3) := by decide +kernel
theorem d23_18 : decode jdk_42_method_154_code 18 = .ok (.ireturn, 1) := by decide +kernel
theorem ef_23 (m : MethodId) (x0 : Addr) : entryFrame m #[(.ref x0)] 1 = mkF m 0 #[.val (.ref x0)] [] := by first | (simp [entryFrame, mkF, argsToLocals, Value.category]; done) | rfl
def Q23 (Z : State) (a1 : Addr) (cs : Int32) (h0 : Heap) (v : Option Value) (h : Heap) (L : List Loc) : Prop := v = some (.int (1 : Int32)) ∧ L = [] ∧ h = h0
set_option maxRecDepth 65536 in
set_option maxHeartbeats 40000000 in
theorem rm23 (l : Launch) (Z : State) (a0 : Array Value) (hw : ∀ d ∈ tables_1, d.before a0 Z = true) (ws : List Jvm.Cond) (a1 : Addr) (cs : Int32) (h0 : Heap) (n0 : Nat) (O0 : Old Z n0 h0) (F_c : Fld Z h0 a1 "java/lang/String" "coder" "B" (.int (0 : Int32))) (S_CS : Sta Z Z.heap "java/lang/String" "COMPACT_STRINGS" "Z" (.int cs)) (h_cs : ¬ cs = (0 : Int32)) :
    MetFree l (⟨"java/lang/String", "isLatin1", "()Z"⟩ : MethodName) (head1 (Jvm.Cond.code (⟨"java/lang/String", "isLatin1", "()Z"⟩ : MethodName) jdk_42_method_154_code 1 (some .boolean) :: ws) ({ frames := 0, cells := 0, slots := 0, locals := 0 } : Room)) (fun a U => a = #[(.ref a1)] ∧ Z.Warmed39 U.vm ∧ U.heap = h0) (fun _ _ _ _ _ => True) (fun _ U o U' => ∃ v L, o = .returned v ∧ Q23 Z a1 cs h0 v U'.heap L ∧ FrameEnd U o U' L ({ frames := 0, cells := 0, slots := 0, locals := 0 } : Room).cells ({ frames := 0, cells := 0, slots := 0, locals := 0 } : Room).slots) := by
  refine MetFree.of_bodySF (plainFor_of_name pn_4) hisR ?_
  intro p e s m args below meth c s₁ Bd hml0 hP hK
  obtain ⟨rfl, hZ, hh⟩ := hP
  have hx := Bd.exec
  have hby := Bd.bytes
  have hml : c.maxLocals = 1 := hml0
  have hown : s.vm.findClass "java/lang/String" = some m.cls := findClass_of_methodNamed Bd.named
  have hnm := (name_of_methodNamed Bd.named Bd.method).1
  have X0 : Stand p l e ({ frames := 0, cells := 0, slots := 0, locals := 0 } : Room) s m #[(.ref a1)] below meth c s₁ [] 0 0 := Stand.of_body Bd
  have e0 : s₁.heap = h0 := by rw [← hh, Bd.state]; rfl
  have pre0 : ∀ t, Steps p.tables e below (s₁.setTop (mkF m 0 #[.val (.ref a1)] [])) t → Steps p.tables e below (s₁.setTop (entryFrame m #[(.ref a1)] 1)) t := fun t k => castTop (ef_23 m a1) k
  obtain ⟨T1, X1, e1, st1⟩ := getS2 X0 hx hZ hown (host := "") (Or.inl (hw _ (List.mem_of_getElem? (i := 125) rfl))) Via.refl e0 (S_CS.ext O0.2) (g := (mkF m 0 #[vR a1] [])) rfl (hb hby d23_0)
  obtain ⟨T2, X2, e2, st2⟩ := getF X1 hx hZ hown (host := "") (Or.inl (hw _ (List.mem_of_getElem? (i := 87) rfl))) Via.refl e1 F_c (g := (mkF m 7 #[vR a1] [iR a1])) rfl rfl (hb hby d23_7)
  obtain ⟨fs, hr, hrun, hended, hW, hsame⟩ := X2.leave (v := some (.int (1 : Int32))) (fun h => by rw [Bd.returns] at h; cases h)
  refine ⟨_, _, pre0 _ ?_, hrun, hended, _, _, rfl, ?_, ⟨_, rfl⟩, hW, hsame.mono (by decide) (by decide)⟩
  · show Steps _ _ _ (s₁.setTop (mkF m 0 #[vR a1] [])) _
    refine st1 _ ?_
    show Steps _ _ _ (T1.setTop (mkF m 3 #[vR a1] [iI cs])) _
    refine XS.ifNo X1.here hx rfl (hb hby d23_3) rfl ((if0 _ _).trans (feq h_cs).1) ?_
    show Steps _ _ _ (T1.setTop (mkF m 6 #[vR a1] [])) _
    refine XS.aloadN X1.here hx rfl (hb hby d23_6) rfl rfl ?_
    show Steps _ _ _ (T1.setTop (mkF m 7 #[vR a1] [iR a1])) _
    refine st2 _ ?_
    show Steps _ _ _ (T2.setTop (mkF m 10 #[vR a1] [iI 0])) _
    refine XS.ifNo X2.here hx rfl (hb hby d23_10) rfl ((if0 _ _).trans (teq (by decide : (0 : Int32) = (0 : Int32))).2) ?_
    show Steps _ _ _ (T2.setTop (mkF m 13 #[vR a1] [])) _
    refine XS.iconst X2.here hx rfl (hb hby d23_13) ?_
    show Steps _ _ _ (T2.setTop (mkF m 14 #[vR a1] [iI 1])) _
    refine XS.goto X2.here hx rfl (pc0 := 14) (pc' := 18) rfl (hb hby d23_14) (by decide) (by decide) ?_
    show Steps _ _ _ (T2.setTop (mkF m 18 #[vR a1] [iI 1])) _
    exact retN X2 hx (t := .boolean) Bd.returns (by simp) (hb hby d23_18) hr
  · show Q23 Z a1 cs h0 _ T2.heap _
    rw [e2]
    exact ⟨rfl, rfl, rfl⟩
theorem d19_0 : decode jdk_42_method_54_code 0 = .ok (.aload_n 0, 1) := by decide +kernel
theorem d19_1 : decode jdk_42_method_54_code 1 = .ok (.getfield 9, 3) := by decide +kernel
theorem d19_4 : decode jdk_42_method_54_code 4 = .ok (.arraylength, 1) := by decide +kernel
theorem d19_5 : decode jdk_42_method_54_code 5 = .ok (.aload_n 0, 1) := by decide +kernel
theorem d19_6 : decode jdk_42_method_54_code 6 = .ok (.invokevirtual 335, 3) := by decide +kernel
theorem d19_9 : decode jdk_42_method_54_code 9 = .ok (.ishr, 1) := by decide +kernel
theorem d19_10 : decode jdk_42_method_54_code 10 = .ok (.ireturn, 1) := by decide +kernel
theorem ef_19 (m : MethodId) (x0 : Addr) : entryFrame m #[(.ref x0)] 1 = mkF m 0 #[.val (.ref x0)] [] := by first | (simp [entryFrame, mkF, argsToLocals, Value.category]; done) | rfl
def Q19 (Z : State) (a1 : Addr) (b : Addr) (kb : ClassId) (nz : Int32) (c0 : Int32) (c1 : Int32) (c2 : Int32) (c3 : Int32) (c4 : Int32) (c5 : Int32) (c6 : Int32) (c7 : Int32) (cs : Int32) (h0 : Heap) (v : Option Value) (h : Heap) (L : List Loc) : Prop := v = some (.int nz) ∧ L = [] ∧ h = h0
set_option maxRecDepth 65536 in
set_option maxHeartbeats 40000000 in
theorem rm19 (l : Launch) (Z : State) (a0 : Array Value) (hw : ∀ d ∈ tables_1, d.before a0 Z = true) (ws : List Jvm.Cond) (a1 : Addr) (b : Addr) (kb : ClassId) (nz : Int32) (c0 : Int32) (c1 : Int32) (c2 : Int32) (c3 : Int32) (c4 : Int32) (c5 : Int32) (c6 : Int32) (c7 : Int32) (cs : Int32) (h0 : Heap) (n0 : Nat) (O0 : Old Z n0 h0) (E_a1 : Exa Z h0 a1 "java/lang/String") (F_c : Fld Z h0 a1 "java/lang/String" "coder" "B" (.int (0 : Int32))) (F_v : Fld Z h0 a1 "java/lang/String" "value" "[B" (.ref b)) (V_b : Arv Z h0 b kb .byte nz [(.int c0), (.int c1), (.int c2), (.int c3), (.int c4), (.int c5), (.int c6), (.int c7)] (.int (0 : Int32))) (S_CS : Sta Z Z.heap "java/lang/String" "COMPACT_STRINGS" "Z" (.int cs)) (h_cs : ¬ cs = (0 : Int32)) :
    MetFree l (⟨"java/lang/String", "length", "()I"⟩ : MethodName) (head1 (Jvm.Cond.code (⟨"java/lang/String", "length", "()I"⟩ : MethodName) jdk_42_method_54_code 1 (some .int) :: ws) ({ frames := 1, cells := 0, slots := 0, locals := 13 } : Room)) (fun a U => a = #[(.ref a1)] ∧ Z.Warmed39 U.vm ∧ U.heap = h0) (fun _ _ _ _ _ => True) (fun _ U o U' => ∃ v L, o = .returned v ∧ Q19 Z a1 b kb nz c0 c1 c2 c3 c4 c5 c6 c7 cs h0 v U'.heap L ∧ FrameEnd U o U' L ({ frames := 1, cells := 0, slots := 0, locals := 13 } : Room).cells ({ frames := 1, cells := 0, slots := 0, locals := 13 } : Room).slots) := by
  refine MetFree.of_bodySF (plainFor_of_name pn_4) hisR ?_
  intro p e s m args below meth c s₁ Bd hml0 hP hK
  obtain ⟨rfl, hZ, hh⟩ := hP
  have hx := Bd.exec
  have hby := Bd.bytes
  have hml : c.maxLocals = 1 := hml0
  have hown : s.vm.findClass "java/lang/String" = some m.cls := findClass_of_methodNamed Bd.named
  have hnm := (name_of_methodNamed Bd.named Bd.method).1
  have X0 : Stand p l e ({ frames := 1, cells := 0, slots := 0, locals := 13 } : Room) s m #[(.ref a1)] below meth c s₁ [] 0 0 := Stand.of_body Bd
  have e0 : s₁.heap = h0 := by rw [← hh, Bd.state]; rfl
  have pre0 : ∀ t, Steps p.tables e below (s₁.setTop (mkF m 0 #[.val (.ref a1)] [])) t → Steps p.tables e below (s₁.setTop (entryFrame m #[(.ref a1)] 1)) t := fun t k => castTop (ef_19 m a1) k
  obtain ⟨T1, X1, e1, st1⟩ := getF X0 hx hZ hown (host := "") (Or.inl (hw _ (List.mem_of_getElem? (i := 102) rfl))) Via.refl e0 F_v (g := (mkF m 1 #[vR a1] [iR a1])) rfl rfl (hb hby d19_1)
  obtain ⟨cl2, Ar2, q2, S2, M2, H2, G2⟩ := id V_b
  obtain ⟨cq3, kq3, q3a, q3b, q3c⟩ := isOf hZ e1 E_a1
  obtain ⟨_, _, ⟨T3, L3, k3, n3⟩, -, X3, ⟨Lc3, hQ3, l3, y3, z3⟩, st3⟩ := X1.virtualBack hx (y := (⟨"java/lang/String", "coder", "()B"⟩ : MethodName)) (z := (⟨"java/lang/String", "coder", "()B"⟩ : MethodName)) hown (mvT hZ (hw _ (List.mem_of_getElem? (i := 120) rfl))) (mvT hZ (hw _ (List.mem_of_getElem? (i := 121) rfl))) (notFace_of_selects (args := #[]) (mvT hZ (hw _ (List.mem_of_getElem? (i := 123) rfl)))) (mvT hZ (hw _ (List.mem_of_getElem? (i := 123) rfl))) (mvT hZ (hw _ (List.mem_of_getElem? (i := 122) rfl))) (by decide) (backOf (W := 1) (rm20 l Z a0 hw [] a1 cs h0 n0 O0 F_c S_CS h_cs) hZ (hw _ (List.mem_of_getElem? (i := 124) rfl)) (hw _ (List.mem_of_getElem? (i := 22) rfl)) (by decide) (by decide)) q3a q3c (g := (mkF m 6 #[vR a1] [iR a1, iI nz])) rfl (by rw [hml]; rfl) (Steps.refl _) (argsL := []) (rest := [(.int nz)]) (lenOf pd_9 rfl) rfl (by show 2 * 0 + _ ≤ _; exact Nat.le_of_eq rfl) (hb hby d19_6) (fun _ _ => ⟨rfl, e1, (by decide : 0 + 0 ≤ _), (by decide : 0 + 0 ≤ _)⟩)
  dsimp only [Pt.U, Pt.locs, Pt.cells, Pt.slots] at X3 l3 y3 z3 st3 hQ3
  subst l3 y3 z3
  obtain ⟨rfl, rfl, e3⟩ := hQ3
  try rw [List.append_nil] at X3
  obtain ⟨fs, hr, hrun, hended, hW, hsame⟩ := X3.leave (v := some (.int (nz >>> ((0 : Int32) &&& 31)))) (fun h => by rw [Bd.returns] at h; cases h)
  refine ⟨_, _, pre0 _ ?_, hrun, hended, _, _, rfl, ?_, ⟨_, rfl⟩, hW, hsame.mono (by decide) (by decide)⟩
  · show Steps _ _ _ (s₁.setTop (mkF m 0 #[vR a1] [])) _
    refine XS.aloadN X0.here hx rfl (hb hby d19_0) rfl rfl ?_
    show Steps _ _ _ (s₁.setTop (mkF m 1 #[vR a1] [iR a1])) _
    refine st1 _ ?_
    show Steps _ _ _ (T1.setTop (mkF m 4 #[vR a1] [iR b])) _
    refine X1.arraylength hx (by rw [e1]; exact Ar2.1) (State.isArrayOf_alike hZ.alike Ar2.2.1) (g := (mkF m 4 #[vR a1] [iR b])) rfl rfl (hb hby d19_4) _ ?_
    rw [len_of S2 M2]
    show Steps _ _ _ (T1.setTop (mkF m 5 #[vR a1] [iI nz])) _
    refine XS.aloadN X1.here hx rfl (hb hby d19_5) rfl rfl ?_
    show Steps _ _ _ (T1.setTop (mkF m 6 #[vR a1] [iR a1, iI nz])) _
    refine st3.trans ?_
    show Steps _ _ _ (T3.setTop (mkF m 9 #[vR a1] [iI 0, iI nz])) _
    refine XS.ishr X3.here hx rfl (hb hby d19_9) rfl ?_
    show Steps _ _ _ (T3.setTop (mkF m 10 #[vR a1] [iI (nz >>> ((0 : Int32) &&& 31))])) _
    exact retI X3 hx Bd.returns (hb hby d19_10) hr
  · show Q19 Z a1 b kb nz c0 c1 c2 c3 c4 c5 c6 c7 cs h0 _ T3.heap _
    rw [e3]
    exact ⟨by rw [own_shr0], rfl, rfl⟩
theorem d26_0 : decode jdk_41_method_11_code 0 = .ok (.iload_n 0, 1) := by decide +kernel
theorem d26_1 : decode jdk_41_method_11_code 1 = .ok (.ifCond .lt 8, 3) := by decide +kernel
theorem d26_4 : decode jdk_41_method_11_code 4 = .ok (.iload_n 0, 1) := by decide +kernel
theorem d26_5 : decode jdk_41_method_11_code 5 = .ok (.iload_n 1, 1) := by decide +kernel
theorem d26_6 : decode jdk_41_method_11_code 6 = .ok (.if_icmp .lt 10, 3) := by decide +kernel
theorem d26_16 : decode jdk_41_method_11_code 16 = .ok (.iload_n 0, 1) := by decide +kernel
theorem d26_17 : decode jdk_41_method_11_code 17 = .ok (.ireturn, 1) := by decide +kernel
theorem pn_5 : plainName "jdk/internal/util/Preconditions" = true := by first | (simp [plainName, overriddenIn]; done) | decide +kernel
theorem ef_26_n (m : MethodId) (x0 : Int32) (x1 : Int32) : entryFrame m #[(.int x0), (.int x1), .null] 3 = mkF m 0 #[.val (.int x0), .val (.int x1), .val .null] [] := by first | (simp [entryFrame, mkF, argsToLocals, Value.category]; done) | rfl
def Q26_n (Z : State) (p1 : Int32) (p2 : Int32) (h0 : Heap) (v : Option Value) (h : Heap) (L : List Loc) : Prop := v = some (.int p1) ∧ L = [] ∧ h = h0
set_option maxRecDepth 65536 in
set_option maxHeartbeats 40000000 in
theorem rm26_n (l : Launch) (Z : State) (a0 : Array Value) (hw : ∀ d ∈ tables_1, d.before a0 Z = true) (ws : List Jvm.Cond) (p1 : Int32) (p2 : Int32) (h0 : Heap) (hj0 : ¬ p1 < (0 : Int32)) (hj1 : p1 < p2) :
    MetFree l (⟨"jdk/internal/util/Preconditions", "checkIndex", "(IILjava/util/function/BiFunction;)I"⟩ : MethodName) (head1 (Jvm.Cond.code (⟨"jdk/internal/util/Preconditions", "checkIndex", "(IILjava/util/function/BiFunction;)I"⟩ : MethodName) jdk_41_method_11_code 3 (some .int) :: ws) ({ frames := 0, cells := 0, slots := 0, locals := 0 } : Room)) (fun a U => a = #[(.int p1), (.int p2), .null] ∧ Z.Warmed39 U.vm ∧ U.heap = h0) (fun _ _ _ _ _ => True) (fun _ U o U' => ∃ v L, o = .returned v ∧ Q26_n Z p1 p2 h0 v U'.heap L ∧ FrameEnd U o U' L ({ frames := 0, cells := 0, slots := 0, locals := 0 } : Room).cells ({ frames := 0, cells := 0, slots := 0, locals := 0 } : Room).slots) := by
  refine MetFree.of_bodySF (plainFor_of_name pn_5) hisR ?_
  intro p e s m args below meth c s₁ Bd hml0 hP hK
  obtain ⟨rfl, hZ, hh⟩ := hP
  have hx := Bd.exec
  have hby := Bd.bytes
  have hml : c.maxLocals = 3 := hml0
  have hown : s.vm.findClass "jdk/internal/util/Preconditions" = some m.cls := findClass_of_methodNamed Bd.named
  have hnm := (name_of_methodNamed Bd.named Bd.method).1
  have X0 : Stand p l e ({ frames := 0, cells := 0, slots := 0, locals := 0 } : Room) s m #[(.int p1), (.int p2), .null] below meth c s₁ [] 0 0 := Stand.of_body Bd
  have e0 : s₁.heap = h0 := by rw [← hh, Bd.state]; rfl
  have pre0 : ∀ t, Steps p.tables e below (s₁.setTop (mkF m 0 #[.val (.int p1), .val (.int p2), .val .null] [])) t → Steps p.tables e below (s₁.setTop (entryFrame m #[(.int p1), (.int p2), .null] 3)) t := fun t k => castTop (ef_26_n m p1 p2) k
  obtain ⟨fs, hr, hrun, hended, hW, hsame⟩ := X0.leave (v := some (.int p1)) (fun h => by rw [Bd.returns] at h; cases h)
  refine ⟨_, _, pre0 _ ?_, hrun, hended, _, _, rfl, ?_, ⟨_, rfl⟩, hW, hsame.mono (by decide) (by decide)⟩
  · show Steps _ _ _ (s₁.setTop (mkF m 0 #[vI p1, vI p2, .val .null] [])) _
    refine XS.iloadN X0.here hx rfl (hb hby d26_0) rfl ?_
    show Steps _ _ _ (s₁.setTop (mkF m 1 #[vI p1, vI p2, .val .null] [iI p1])) _
    refine XS.ifNo X0.here hx rfl (hb hby d26_1) rfl ((if0 _ _).trans (flt hj0).1) ?_
    show Steps _ _ _ (s₁.setTop (mkF m 4 #[vI p1, vI p2, .val .null] [])) _
    refine XS.iloadN X0.here hx rfl (hb hby d26_4) rfl ?_
    show Steps _ _ _ (s₁.setTop (mkF m 5 #[vI p1, vI p2, .val .null] [iI p1])) _
    refine XS.iloadN X0.here hx rfl (hb hby d26_5) rfl ?_
    show Steps _ _ _ (s₁.setTop (mkF m 6 #[vI p1, vI p2, .val .null] [iI p2, iI p1])) _
    refine XS.icmpYes X0.here hx rfl (pc0 := 6) (pc' := 16) rfl (hb hby d26_6) rfl (tlt hj1).1 (by decide) (by decide) ?_
    show Steps _ _ _ (s₁.setTop (mkF m 16 #[vI p1, vI p2, .val .null] [])) _
    refine XS.iloadN X0.here hx rfl (hb hby d26_16) rfl ?_
    show Steps _ _ _ (s₁.setTop (mkF m 17 #[vI p1, vI p2, .val .null] [iI p1])) _
    exact retI X0 hx Bd.returns (hb hby d26_17) hr
  · show Q26_n Z p1 p2 h0 _ s₁.heap _
    rw [e0]
    exact ⟨rfl, rfl, rfl⟩
theorem d25_0 : decode jdk_42_method_155_code 0 = .ok (.iload_n 0, 1) := by decide +kernel
theorem d25_1 : decode jdk_42_method_155_code 1 = .ok (.iload_n 1, 1) := by decide +kernel
theorem d25_2 : decode jdk_42_method_155_code 2 = .ok (.getstatic 1053, 3) := by decide +kernel
theorem d25_5 : decode jdk_42_method_155_code 5 = .ok (.invokestatic 1059, 3) := by decide +kernel
theorem d25_8 : decode jdk_42_method_155_code 8 = .ok (.pop, 1) := by decide +kernel
theorem d25_9 : decode jdk_42_method_155_code 9 = .ok (.return_, 1) := by decide +kernel
theorem ef_25_n (m : MethodId) (x0 : Int32) (x1 : Int32) : entryFrame m #[(.int x0), (.int x1)] 2 = mkF m 0 #[.val (.int x0), .val (.int x1)] [] := by first | (simp [entryFrame, mkF, argsToLocals, Value.category]; done) | rfl
def Q25_n (Z : State) (p1 : Int32) (p2 : Int32) (h0 : Heap) (v : Option Value) (h : Heap) (L : List Loc) : Prop := v = none ∧ L = [] ∧ h = h0
set_option maxRecDepth 65536 in
set_option maxHeartbeats 40000000 in
theorem rm25_n (l : Launch) (Z : State) (a0 : Array Value) (hw : ∀ d ∈ tables_1, d.before a0 Z = true) (ws : List Jvm.Cond) (p1 : Int32) (p2 : Int32) (h0 : Heap) (n0 : Nat) (O0 : Old Z n0 h0) (S_F : Sta Z Z.heap "jdk/internal/util/Preconditions" "SIOOBE_FORMATTER" "Ljava/util/function/BiFunction;" .null) (hj0 : ¬ p1 < (0 : Int32)) (hj1 : p1 < p2) :
    MetFree l (⟨"java/lang/String", "checkIndex", "(II)V"⟩ : MethodName) (head1 (Jvm.Cond.code (⟨"java/lang/String", "checkIndex", "(II)V"⟩ : MethodName) jdk_42_method_155_code 2 none :: ws) ({ frames := 1, cells := 0, slots := 0, locals := 14 } : Room)) (fun a U => a = #[(.int p1), (.int p2)] ∧ Z.Warmed39 U.vm ∧ U.heap = h0) (fun _ _ _ _ _ => True) (fun _ U o U' => ∃ v L, o = .returned v ∧ Q25_n Z p1 p2 h0 v U'.heap L ∧ FrameEnd U o U' L ({ frames := 1, cells := 0, slots := 0, locals := 14 } : Room).cells ({ frames := 1, cells := 0, slots := 0, locals := 14 } : Room).slots) := by
  refine MetFree.of_bodySF (plainFor_of_name pn_4) hisR ?_
  intro p e s m args below meth c s₁ Bd hml0 hP hK
  obtain ⟨rfl, hZ, hh⟩ := hP
  have hx := Bd.exec
  have hby := Bd.bytes
  have hml : c.maxLocals = 2 := hml0
  have hown : s.vm.findClass "java/lang/String" = some m.cls := findClass_of_methodNamed Bd.named
  have hnm := (name_of_methodNamed Bd.named Bd.method).1
  have X0 : Stand p l e ({ frames := 1, cells := 0, slots := 0, locals := 14 } : Room) s m #[(.int p1), (.int p2)] below meth c s₁ [] 0 0 := Stand.of_body Bd
  have e0 : s₁.heap = h0 := by rw [← hh, Bd.state]; rfl
  have pre0 : ∀ t, Steps p.tables e below (s₁.setTop (mkF m 0 #[.val (.int p1), .val (.int p2)] [])) t → Steps p.tables e below (s₁.setTop (entryFrame m #[(.int p1), (.int p2)] 2)) t := fun t k => castTop (ef_25_n m p1 p2) k
  obtain ⟨T1, X1, e1, st1⟩ := getS2 X0 hx hZ hown (host := "") (Or.inl (hw _ (List.mem_of_getElem? (i := 146) rfl))) Via.refl e0 (S_F.ext O0.2) (g := (mkF m 2 #[vI p1, vI p2] [iI p2, iI p1])) rfl (hb hby d25_2)
  obtain ⟨_, _, ⟨T2, L2, k2, n2⟩, -, X2, ⟨Lc2, hQ2, l2, y2, z2⟩, st2⟩ := Jvm.LawKit.callS X1 hx (y := (⟨"jdk/internal/util/Preconditions", "checkIndex", "(IILjava/util/function/BiFunction;)I"⟩ : MethodName)) hown (mvT hZ (hw _ (List.mem_of_getElem? (i := 148) rfl))) (mvT hZ (hw _ (List.mem_of_getElem? (i := 149) rfl))) (mvT hZ (hw _ (List.mem_of_getElem? (i := 147) rfl))) (mvT hZ (hw _ (List.mem_of_getElem? (i := 150) rfl))) (by decide) (backOf (W := 0) (rm26_n l Z a0 hw [] p1 p2  h0 hj0 hj1) hZ (hw _ (List.mem_of_getElem? (i := 150) rfl)) (hw _ (List.mem_of_getElem? (i := 147) rfl)) (by decide) (by decide)) (g := (mkF m 5 #[vI p1, vI p2] [.null, iI p2, iI p1])) rfl (by rw [hml]; rfl) (argsL := [(.int p1), (.int p2), .null]) (rest := []) (lenOf pd_10 rfl) rfl (by show 2 * 0 + _ ≤ _; exact Nat.le_of_eq rfl) (hb hby d25_5) (fun _ _ => ⟨rfl, e1, (by decide : 0 + 0 ≤ _), (by decide : 0 + 0 ≤ _)⟩)
  dsimp only [Pt.U, Pt.locs, Pt.cells, Pt.slots] at X2 l2 y2 z2 st2 hQ2
  subst l2 y2 z2
  obtain ⟨rfl, rfl, e2⟩ := hQ2
  try rw [List.append_nil] at X2
  obtain ⟨fs, hr, hrun, hended, hW, hsame⟩ := X2.leave (v := none) (fun _ => rfl)
  refine ⟨_, _, pre0 _ ?_, hrun, hended, _, _, rfl, ?_, ⟨_, rfl⟩, hW, hsame.mono (by decide) (by decide)⟩
  · show Steps _ _ _ (s₁.setTop (mkF m 0 #[vI p1, vI p2] [])) _
    refine XS.iloadN X0.here hx rfl (hb hby d25_0) rfl ?_
    show Steps _ _ _ (s₁.setTop (mkF m 1 #[vI p1, vI p2] [iI p1])) _
    refine XS.iloadN X0.here hx rfl (hb hby d25_1) rfl ?_
    show Steps _ _ _ (s₁.setTop (mkF m 2 #[vI p1, vI p2] [iI p2, iI p1])) _
    refine st1 _ ?_
    show Steps _ _ _ (T1.setTop (mkF m 5 #[vI p1, vI p2] [.null, iI p2, iI p1])) _
    refine st2 _ ?_
    show Steps _ _ _ (T2.setTop (mkF m 8 #[vI p1, vI p2] [iI p1])) _
    refine XS.pop X2.here hx rfl (hb hby d25_8) rfl rfl ?_
    show Steps _ _ _ (T2.setTop (mkF m 9 #[vI p1, vI p2] [])) _
    exact X2.returnOut hx Bd.returns (hb hby d25_9) hr
  · show Q25_n Z p1 p2 h0 _ T2.heap _
    rw [e2]
    exact ⟨rfl, rfl, rfl⟩
theorem ef_26_r (m : MethodId) (x0 : Int32) (x1 : Int32) (x2 : Addr) : entryFrame m #[(.int x0), (.int x1), (.ref x2)] 3 = mkF m 0 #[.val (.int x0), .val (.int x1), .val (.ref x2)] [] := by first | (simp [entryFrame, mkF, argsToLocals, Value.category]; done) | rfl
def Q26_r (Z : State) (p1 : Int32) (p2 : Int32) (fa : Addr) (h0 : Heap) (v : Option Value) (h : Heap) (L : List Loc) : Prop := v = some (.int p1) ∧ L = [] ∧ h = h0
set_option maxRecDepth 65536 in
set_option maxHeartbeats 40000000 in
theorem rm26_r (l : Launch) (Z : State) (a0 : Array Value) (hw : ∀ d ∈ tables_1, d.before a0 Z = true) (ws : List Jvm.Cond) (p1 : Int32) (p2 : Int32) (fa : Addr) (h0 : Heap) (hj0 : ¬ p1 < (0 : Int32)) (hj1 : p1 < p2) :
    MetFree l (⟨"jdk/internal/util/Preconditions", "checkIndex", "(IILjava/util/function/BiFunction;)I"⟩ : MethodName) (head1 (Jvm.Cond.code (⟨"jdk/internal/util/Preconditions", "checkIndex", "(IILjava/util/function/BiFunction;)I"⟩ : MethodName) jdk_41_method_11_code 3 (some .int) :: ws) ({ frames := 0, cells := 0, slots := 0, locals := 0 } : Room)) (fun a U => a = #[(.int p1), (.int p2), (.ref fa)] ∧ Z.Warmed39 U.vm ∧ U.heap = h0) (fun _ _ _ _ _ => True) (fun _ U o U' => ∃ v L, o = .returned v ∧ Q26_r Z p1 p2 fa h0 v U'.heap L ∧ FrameEnd U o U' L ({ frames := 0, cells := 0, slots := 0, locals := 0 } : Room).cells ({ frames := 0, cells := 0, slots := 0, locals := 0 } : Room).slots) := by
  refine MetFree.of_bodySF (plainFor_of_name pn_5) hisR ?_
  intro p e s m args below meth c s₁ Bd hml0 hP hK
  obtain ⟨rfl, hZ, hh⟩ := hP
  have hx := Bd.exec
  have hby := Bd.bytes
  have hml : c.maxLocals = 3 := hml0
  have hown : s.vm.findClass "jdk/internal/util/Preconditions" = some m.cls := findClass_of_methodNamed Bd.named
  have hnm := (name_of_methodNamed Bd.named Bd.method).1
  have X0 : Stand p l e ({ frames := 0, cells := 0, slots := 0, locals := 0 } : Room) s m #[(.int p1), (.int p2), (.ref fa)] below meth c s₁ [] 0 0 := Stand.of_body Bd
  have e0 : s₁.heap = h0 := by rw [← hh, Bd.state]; rfl
  have pre0 : ∀ t, Steps p.tables e below (s₁.setTop (mkF m 0 #[.val (.int p1), .val (.int p2), .val (.ref fa)] [])) t → Steps p.tables e below (s₁.setTop (entryFrame m #[(.int p1), (.int p2), (.ref fa)] 3)) t := fun t k => castTop (ef_26_r m p1 p2 fa) k
  obtain ⟨fs, hr, hrun, hended, hW, hsame⟩ := X0.leave (v := some (.int p1)) (fun h => by rw [Bd.returns] at h; cases h)
  refine ⟨_, _, pre0 _ ?_, hrun, hended, _, _, rfl, ?_, ⟨_, rfl⟩, hW, hsame.mono (by decide) (by decide)⟩
  · show Steps _ _ _ (s₁.setTop (mkF m 0 #[vI p1, vI p2, vR fa] [])) _
    refine XS.iloadN X0.here hx rfl (hb hby d26_0) rfl ?_
    show Steps _ _ _ (s₁.setTop (mkF m 1 #[vI p1, vI p2, vR fa] [iI p1])) _
    refine XS.ifNo X0.here hx rfl (hb hby d26_1) rfl ((if0 _ _).trans (flt hj0).1) ?_
    show Steps _ _ _ (s₁.setTop (mkF m 4 #[vI p1, vI p2, vR fa] [])) _
    refine XS.iloadN X0.here hx rfl (hb hby d26_4) rfl ?_
    show Steps _ _ _ (s₁.setTop (mkF m 5 #[vI p1, vI p2, vR fa] [iI p1])) _
    refine XS.iloadN X0.here hx rfl (hb hby d26_5) rfl ?_
    show Steps _ _ _ (s₁.setTop (mkF m 6 #[vI p1, vI p2, vR fa] [iI p2, iI p1])) _
    refine XS.icmpYes X0.here hx rfl (pc0 := 6) (pc' := 16) rfl (hb hby d26_6) rfl (tlt hj1).1 (by decide) (by decide) ?_
    show Steps _ _ _ (s₁.setTop (mkF m 16 #[vI p1, vI p2, vR fa] [])) _
    refine XS.iloadN X0.here hx rfl (hb hby d26_16) rfl ?_
    show Steps _ _ _ (s₁.setTop (mkF m 17 #[vI p1, vI p2, vR fa] [iI p1])) _
    exact retI X0 hx Bd.returns (hb hby d26_17) hr
  · show Q26_r Z p1 p2 fa h0 _ s₁.heap _
    rw [e0]
    exact ⟨rfl, rfl, rfl⟩
theorem ef_25_r (m : MethodId) (x0 : Int32) (x1 : Int32) : entryFrame m #[(.int x0), (.int x1)] 2 = mkF m 0 #[.val (.int x0), .val (.int x1)] [] := by first | (simp [entryFrame, mkF, argsToLocals, Value.category]; done) | rfl
def Q25_r (Z : State) (p1 : Int32) (p2 : Int32) (fa : Addr) (h0 : Heap) (v : Option Value) (h : Heap) (L : List Loc) : Prop := v = none ∧ L = [] ∧ h = h0
set_option maxRecDepth 65536 in
set_option maxHeartbeats 40000000 in
theorem rm25_r (l : Launch) (Z : State) (a0 : Array Value) (hw : ∀ d ∈ tables_1, d.before a0 Z = true) (ws : List Jvm.Cond) (p1 : Int32) (p2 : Int32) (fa : Addr) (h0 : Heap) (n0 : Nat) (O0 : Old Z n0 h0) (S_F : Sta Z Z.heap "jdk/internal/util/Preconditions" "SIOOBE_FORMATTER" "Ljava/util/function/BiFunction;" (.ref fa)) (hj0 : ¬ p1 < (0 : Int32)) (hj1 : p1 < p2) :
    MetFree l (⟨"java/lang/String", "checkIndex", "(II)V"⟩ : MethodName) (head1 (Jvm.Cond.code (⟨"java/lang/String", "checkIndex", "(II)V"⟩ : MethodName) jdk_42_method_155_code 2 none :: ws) ({ frames := 1, cells := 0, slots := 0, locals := 14 } : Room)) (fun a U => a = #[(.int p1), (.int p2)] ∧ Z.Warmed39 U.vm ∧ U.heap = h0) (fun _ _ _ _ _ => True) (fun _ U o U' => ∃ v L, o = .returned v ∧ Q25_r Z p1 p2 fa h0 v U'.heap L ∧ FrameEnd U o U' L ({ frames := 1, cells := 0, slots := 0, locals := 14 } : Room).cells ({ frames := 1, cells := 0, slots := 0, locals := 14 } : Room).slots) := by
  refine MetFree.of_bodySF (plainFor_of_name pn_4) hisR ?_
  intro p e s m args below meth c s₁ Bd hml0 hP hK
  obtain ⟨rfl, hZ, hh⟩ := hP
  have hx := Bd.exec
  have hby := Bd.bytes
  have hml : c.maxLocals = 2 := hml0
  have hown : s.vm.findClass "java/lang/String" = some m.cls := findClass_of_methodNamed Bd.named
  have hnm := (name_of_methodNamed Bd.named Bd.method).1
  have X0 : Stand p l e ({ frames := 1, cells := 0, slots := 0, locals := 14 } : Room) s m #[(.int p1), (.int p2)] below meth c s₁ [] 0 0 := Stand.of_body Bd
  have e0 : s₁.heap = h0 := by rw [← hh, Bd.state]; rfl
  have pre0 : ∀ t, Steps p.tables e below (s₁.setTop (mkF m 0 #[.val (.int p1), .val (.int p2)] [])) t → Steps p.tables e below (s₁.setTop (entryFrame m #[(.int p1), (.int p2)] 2)) t := fun t k => castTop (ef_25_r m p1 p2) k
  obtain ⟨T1, X1, e1, st1⟩ := getS2 X0 hx hZ hown (host := "") (Or.inl (hw _ (List.mem_of_getElem? (i := 146) rfl))) Via.refl e0 (S_F.ext O0.2) (g := (mkF m 2 #[vI p1, vI p2] [iI p2, iI p1])) rfl (hb hby d25_2)
  obtain ⟨_, _, ⟨T2, L2, k2, n2⟩, -, X2, ⟨Lc2, hQ2, l2, y2, z2⟩, st2⟩ := Jvm.LawKit.callS X1 hx (y := (⟨"jdk/internal/util/Preconditions", "checkIndex", "(IILjava/util/function/BiFunction;)I"⟩ : MethodName)) hown (mvT hZ (hw _ (List.mem_of_getElem? (i := 148) rfl))) (mvT hZ (hw _ (List.mem_of_getElem? (i := 149) rfl))) (mvT hZ (hw _ (List.mem_of_getElem? (i := 147) rfl))) (mvT hZ (hw _ (List.mem_of_getElem? (i := 150) rfl))) (by decide) (backOf (W := 0) (rm26_r l Z a0 hw [] p1 p2 fa h0 hj0 hj1) hZ (hw _ (List.mem_of_getElem? (i := 150) rfl)) (hw _ (List.mem_of_getElem? (i := 147) rfl)) (by decide) (by decide)) (g := (mkF m 5 #[vI p1, vI p2] [iR fa, iI p2, iI p1])) rfl (by rw [hml]; rfl) (argsL := [(.int p1), (.int p2), (.ref fa)]) (rest := []) (lenOf pd_10 rfl) rfl (by show 2 * 0 + _ ≤ _; exact Nat.le_of_eq rfl) (hb hby d25_5) (fun _ _ => ⟨rfl, e1, (by decide : 0 + 0 ≤ _), (by decide : 0 + 0 ≤ _)⟩)
  dsimp only [Pt.U, Pt.locs, Pt.cells, Pt.slots] at X2 l2 y2 z2 st2 hQ2
  subst l2 y2 z2
  obtain ⟨rfl, rfl, e2⟩ := hQ2
  try rw [List.append_nil] at X2
  obtain ⟨fs, hr, hrun, hended, hW, hsame⟩ := X2.leave (v := none) (fun _ => rfl)
  refine ⟨_, _, pre0 _ ?_, hrun, hended, _, _, rfl, ?_, ⟨_, rfl⟩, hW, hsame.mono (by decide) (by decide)⟩
  · show Steps _ _ _ (s₁.setTop (mkF m 0 #[vI p1, vI p2] [])) _
    refine XS.iloadN X0.here hx rfl (hb hby d25_0) rfl ?_
    show Steps _ _ _ (s₁.setTop (mkF m 1 #[vI p1, vI p2] [iI p1])) _
    refine XS.iloadN X0.here hx rfl (hb hby d25_1) rfl ?_
    show Steps _ _ _ (s₁.setTop (mkF m 2 #[vI p1, vI p2] [iI p2, iI p1])) _
    refine st1 _ ?_
    show Steps _ _ _ (T1.setTop (mkF m 5 #[vI p1, vI p2] [iR fa, iI p2, iI p1])) _
    refine st2 _ ?_
    show Steps _ _ _ (T2.setTop (mkF m 8 #[vI p1, vI p2] [iI p1])) _
    refine XS.pop X2.here hx rfl (hb hby d25_8) rfl rfl ?_
    show Steps _ _ _ (T2.setTop (mkF m 9 #[vI p1, vI p2] [])) _
    exact X2.returnOut hx Bd.returns (hb hby d25_9) hr
  · show Q25_r Z p1 p2 fa h0 _ T2.heap _
    rw [e2]
    exact ⟨rfl, rfl, rfl⟩
def Q25 (Z : State) (p1 : Int32) (p2 : Int32) (fm : Value) (h0 : Heap) (v : Option Value) (h : Heap) (L : List Loc) : Prop := v = none ∧ L = [] ∧ h = h0
set_option maxRecDepth 65536 in
set_option maxHeartbeats 40000000 in
theorem rm25 (l : Launch) (Z : State) (a0 : Array Value) (hw : ∀ d ∈ tables_1, d.before a0 Z = true) (ws : List Jvm.Cond) (p1 : Int32) (p2 : Int32) (fm : Value) (h0 : Heap) (n0 : Nat) (O0 : Old Z n0 h0) (S_F : Sta Z Z.heap "jdk/internal/util/Preconditions" "SIOOBE_FORMATTER" "Ljava/util/function/BiFunction;" fm) (h_fm : fm.isRef = true) (hj0 : ¬ p1 < (0 : Int32)) (hj1 : p1 < p2) :
    MetFree l (⟨"java/lang/String", "checkIndex", "(II)V"⟩ : MethodName) (head1 (Jvm.Cond.code (⟨"java/lang/String", "checkIndex", "(II)V"⟩ : MethodName) jdk_42_method_155_code 2 none :: ws) ({ frames := 1, cells := 0, slots := 0, locals := 14 } : Room)) (fun a U => a = #[(.int p1), (.int p2)] ∧ Z.Warmed39 U.vm ∧ U.heap = h0) (fun _ _ _ _ _ => True) (fun _ U o U' => ∃ v L, o = .returned v ∧ Q25 Z p1 p2 fm h0 v U'.heap L ∧ FrameEnd U o U' L ({ frames := 1, cells := 0, slots := 0, locals := 14 } : Room).cells ({ frames := 1, cells := 0, slots := 0, locals := 14 } : Room).slots) := by
  rcases ref_cases h_fm with rfl | ⟨fa, rfl⟩
  · exact rm25_n l Z a0 hw ws p1 p2 h0 n0 O0 S_F hj0 hj1
  · exact rm25_r l Z a0 hw ws p1 p2 fa h0 n0 O0 S_F hj0 hj1
def own_at8 (c0 c1 c2 c3 c4 c5 c6 c7 j : Int32) : Int32 := if j = 0 then c0 else if j = 1 then c1 else if j = 2 then c2 else if j = 3 then c3 else if j = 4 then c4 else if j = 5 then c5 else if j = 6 then c6 else c7
theorem own_at8L {c0 c1 c2 c3 c4 c5 c6 c7 j : Int32} (h0 : ¬ j < 0) (h1 : j.toInt < 8) : ([(.int c0), (.int c1), (.int c2), (.int c3), (.int c4), (.int c5), (.int c6), (.int c7)] : List Value).getD j.toNatClampNeg (.int (0 : Int32)) = .int (own_at8 c0 c1 c2 c3 c4 c5 c6 c7 j) := by
  have e0 : (0 : Int32).toInt = 0 := rfl
  rw [Int32.lt_iff_toInt_lt, e0] at h0
  rcases own_small8 j (by omega) h1 with rfl | rfl | rfl | rfl | rfl | rfl | rfl | rfl <;> rfl
theorem own_lt8 {j nz : Int32} (h1 : j < nz) (h0 : ¬ nz < 0) (h8 : nz.toNatClampNeg ≤ 8) : j.toInt < 8 := by
  have e0 : (0 : Int32).toInt = 0 := rfl
  rw [Int32.lt_iff_toInt_lt] at h1 h0
  rw [e0] at h0
  simp only [Int32.toNatClampNeg] at h8
  omega
def own_chr (x : Int32) : Int32 := nar .char ((x &&& (255 : Int32)).toUInt32.toUInt16.toUInt32.toInt32)
theorem d24_0 : decode jdk_43_method_2_code 0 = .ok (.iload_n 1, 1) := by decide +kernel
theorem d24_1 : decode jdk_43_method_2_code 1 = .ok (.aload_n 0, 1) := by decide +kernel
theorem d24_2 : decode jdk_43_method_2_code 2 = .ok (.arraylength, 1) := by decide +kernel
theorem d24_3 : decode jdk_43_method_2_code 3 = .ok (.invokestatic 9, 3) := by decide +kernel
theorem d24_6 : decode jdk_43_method_2_code 6 = .ok (.aload_n 0, 1) := by decide +kernel
theorem d24_7 : decode jdk_43_method_2_code 7 = .ok (.iload_n 1, 1) := by decide +kernel
theorem d24_8 : decode jdk_43_method_2_code 8 = .ok (.baload, 1) := by decide +kernel
theorem d24_9 : decode jdk_43_method_2_code 9 = .ok (.sipush 255, 3) := by decide +kernel
theorem d24_12 : decode jdk_43_method_2_code 12 = .ok (.iand, 1) := by decide +kernel
theorem d24_13 : decode jdk_43_method_2_code 13 = .ok (.i2c, 1) := by decide +kernel
theorem d24_14 : decode jdk_43_method_2_code 14 = .ok (.ireturn, 1) := by decide +kernel
theorem ef_24 (m : MethodId) (x0 : Addr) (x1 : Int32) : entryFrame m #[(.ref x0), (.int x1)] 2 = mkF m 0 #[.val (.ref x0), .val (.int x1)] [] := by first | (simp [entryFrame, mkF, argsToLocals, Value.category]; done) | rfl
def Q24 (Z : State) (a1 : Addr) (p2 : Int32) (kb : ClassId) (nz : Int32) (c0 : Int32) (c1 : Int32) (c2 : Int32) (c3 : Int32) (c4 : Int32) (c5 : Int32) (c6 : Int32) (c7 : Int32) (fm : Value) (h0 : Heap) (v : Option Value) (h : Heap) (L : List Loc) : Prop := v = some (.int (own_chr (own_at8 c0 c1 c2 c3 c4 c5 c6 c7 p2))) ∧ L = [] ∧ h = h0
set_option maxRecDepth 65536 in
set_option maxHeartbeats 40000000 in
theorem rm24 (l : Launch) (Z : State) (a0 : Array Value) (hw : ∀ d ∈ tables_1, d.before a0 Z = true) (ws : List Jvm.Cond) (a1 : Addr) (p2 : Int32) (kb : ClassId) (nz : Int32) (c0 : Int32) (c1 : Int32) (c2 : Int32) (c3 : Int32) (c4 : Int32) (c5 : Int32) (c6 : Int32) (c7 : Int32) (fm : Value) (h0 : Heap) (n0 : Nat) (O0 : Old Z n0 h0) (V_b : Arv Z h0 a1 kb .byte nz [(.int c0), (.int c1), (.int c2), (.int c3), (.int c4), (.int c5), (.int c6), (.int c7)] (.int (0 : Int32))) (hj0 : ¬ p2 < (0 : Int32)) (hj1 : p2 < nz) (hn0 : ¬ nz < 0) (hn8 : nz.toNatClampNeg ≤ 8) (S_F : Sta Z Z.heap "jdk/internal/util/Preconditions" "SIOOBE_FORMATTER" "Ljava/util/function/BiFunction;" fm) (h_fm : fm.isRef = true) :
    MetFree l (⟨"java/lang/StringLatin1", "charAt", "([BI)C"⟩ : MethodName) (head1 (Jvm.Cond.code (⟨"java/lang/StringLatin1", "charAt", "([BI)C"⟩ : MethodName) jdk_43_method_2_code 2 (some .char) :: ws) ({ frames := 2, cells := 0, slots := 0, locals := 27 } : Room)) (fun a U => a = #[(.ref a1), (.int p2)] ∧ Z.Warmed39 U.vm ∧ U.heap = h0) (fun _ _ _ _ _ => True) (fun _ U o U' => ∃ v L, o = .returned v ∧ Q24 Z a1 p2 kb nz c0 c1 c2 c3 c4 c5 c6 c7 fm h0 v U'.heap L ∧ FrameEnd U o U' L ({ frames := 2, cells := 0, slots := 0, locals := 27 } : Room).cells ({ frames := 2, cells := 0, slots := 0, locals := 27 } : Room).slots) := by
  refine MetFree.of_bodySF (plainFor_of_name pn_2) hisR ?_
  intro p e s m args below meth c s₁ Bd hml0 hP hK
  obtain ⟨rfl, hZ, hh⟩ := hP
  have hx := Bd.exec
  have hby := Bd.bytes
  have hml : c.maxLocals = 2 := hml0
  have hown : s.vm.findClass "java/lang/StringLatin1" = some m.cls := findClass_of_methodNamed Bd.named
  have hnm := (name_of_methodNamed Bd.named Bd.method).1
  have X0 : Stand p l e ({ frames := 2, cells := 0, slots := 0, locals := 27 } : Room) s m #[(.ref a1), (.int p2)] below meth c s₁ [] 0 0 := Stand.of_body Bd
  have e0 : s₁.heap = h0 := by rw [← hh, Bd.state]; rfl
  have pre0 : ∀ t, Steps p.tables e below (s₁.setTop (mkF m 0 #[.val (.ref a1), .val (.int p2)] [])) t → Steps p.tables e below (s₁.setTop (entryFrame m #[(.ref a1), (.int p2)] 2)) t := fun t k => castTop (ef_24 m a1 p2) k
  obtain ⟨cl1, Ar1, q1, S1, M1, H1, G1⟩ := id V_b
  obtain ⟨_, _, ⟨T2, L2, k2, n2⟩, -, X2, ⟨Lc2, hQ2, l2, y2, z2⟩, st2⟩ := Jvm.LawKit.callS X0 hx (y := (⟨"java/lang/String", "checkIndex", "(II)V"⟩ : MethodName)) hown (mvT hZ (hw _ (List.mem_of_getElem? (i := 143) rfl))) (mvT hZ (hw _ (List.mem_of_getElem? (i := 144) rfl))) (mvT hZ (hw _ (List.mem_of_getElem? (i := 22) rfl))) (mvT hZ (hw _ (List.mem_of_getElem? (i := 145) rfl))) (by decide) (backOf (W := 0) (rm25 l Z a0 hw [] p2 nz fm h0 n0 O0 S_F h_fm hj0 hj1) hZ (hw _ (List.mem_of_getElem? (i := 145) rfl)) (hw _ (List.mem_of_getElem? (i := 22) rfl)) (by decide) (by decide)) (g := (mkF m 3 #[vR a1, vI p2] [iI nz, iI p2])) rfl (by rw [hml]; rfl) (argsL := [(.int p2), (.int nz)]) (rest := []) (lenOf pd_11 rfl) rfl (by show 2 * 0 + _ ≤ _; exact Nat.le_of_eq rfl) (hb hby d24_3) (fun _ _ => ⟨rfl, e0, (by decide : 0 + 0 ≤ _), (by decide : 0 + 0 ≤ _)⟩)
  dsimp only [Pt.U, Pt.locs, Pt.cells, Pt.slots] at X2 l2 y2 z2 st2 hQ2
  subst l2 y2 z2
  obtain ⟨rfl, rfl, e2⟩ := hQ2
  try rw [List.append_nil] at X2
  have hin3 : ¬ (p2 < 0 ∨ cl1.slots.size ≤ (p2).toNatClampNeg) := inb_of S1 ⟨hj0, hj1⟩
  have hat4 : cl1.slots[(p2).toNatClampNeg]? = some (.int (own_at8 c0 c1 c2 c3 c4 c5 c6 c7 p2)) := Has.at H1 hin3 (own_at8L hj0 (own_lt8 hj1 hn0 hn8))
  obtain ⟨fs, hr, hrun, hended, hW, hsame⟩ := X2.leave (v := some (.int (nar .char ((own_at8 c0 c1 c2 c3 c4 c5 c6 c7 p2) &&& (255 : Int32)).toUInt32.toUInt16.toUInt32.toInt32))) (fun h => by rw [Bd.returns] at h; cases h)
  refine ⟨_, _, pre0 _ ?_, hrun, hended, _, _, rfl, ?_, ⟨_, rfl⟩, hW, hsame.mono (by decide) (by decide)⟩
  · show Steps _ _ _ (s₁.setTop (mkF m 0 #[vR a1, vI p2] [])) _
    refine XS.iloadN X0.here hx rfl (hb hby d24_0) rfl ?_
    show Steps _ _ _ (s₁.setTop (mkF m 1 #[vR a1, vI p2] [iI p2])) _
    refine XS.aloadN X0.here hx rfl (hb hby d24_1) rfl rfl ?_
    show Steps _ _ _ (s₁.setTop (mkF m 2 #[vR a1, vI p2] [iR a1, iI p2])) _
    refine X0.arraylength hx (by rw [e0]; exact Ar1.1) (State.isArrayOf_alike hZ.alike Ar1.2.1) (g := (mkF m 2 #[vR a1, vI p2] [iR a1, iI p2])) rfl rfl (hb hby d24_2) _ ?_
    rw [len_of S1 M1]
    show Steps _ _ _ (s₁.setTop (mkF m 3 #[vR a1, vI p2] [iI nz, iI p2])) _
    refine st2 _ ?_
    show Steps _ _ _ (T2.setTop (mkF m 6 #[vR a1, vI p2] [])) _
    refine XS.aloadN X2.here hx rfl (hb hby d24_6) rfl rfl ?_
    show Steps _ _ _ (T2.setTop (mkF m 7 #[vR a1, vI p2] [iR a1])) _
    refine XS.iloadN X2.here hx rfl (hb hby d24_7) rfl ?_
    show Steps _ _ _ (T2.setTop (mkF m 8 #[vR a1, vI p2] [iI p2, iR a1])) _
    refine X2.baloadBytes hx (j := p2) (v := (.int (own_at8 c0 c1 c2 c3 c4 c5 c6 c7 p2))) (by rw [e2]; exact Ar1.1) (State.isArrayOf_alike hZ.alike Ar1.2.1) Ar1.2.2 hin3 hat4 (g := (mkF m 8 #[vR a1, vI p2] [iI p2, iR a1])) rfl rfl (hb hby d24_8) _ ?_
    show Steps _ _ _ (T2.setTop (mkF m 9 #[vR a1, vI p2] [iI (own_at8 c0 c1 c2 c3 c4 c5 c6 c7 p2)])) _
    refine XS.sipush X2.here hx rfl (hb hby d24_9) ?_
    show Steps _ _ _ (T2.setTop (mkF m 12 #[vR a1, vI p2] [iI 255, iI (own_at8 c0 c1 c2 c3 c4 c5 c6 c7 p2)])) _
    refine XS.iand X2.here hx rfl (hb hby d24_12) rfl ?_
    show Steps _ _ _ (T2.setTop (mkF m 13 #[vR a1, vI p2] [iI ((own_at8 c0 c1 c2 c3 c4 c5 c6 c7 p2) &&& (255 : Int32))])) _
    refine XS.i2c X2.here hx rfl (hb hby d24_13) rfl ?_
    show Steps _ _ _ (T2.setTop (mkF m 14 #[vR a1, vI p2] [iI ((own_at8 c0 c1 c2 c3 c4 c5 c6 c7 p2) &&& (255 : Int32)).toUInt32.toUInt16.toUInt32.toInt32])) _
    exact retN X2 hx (t := .char) Bd.returns (by simp) (hb hby d24_14) hr
  · show Q24 Z a1 p2 kb nz c0 c1 c2 c3 c4 c5 c6 c7 fm h0 _ T2.heap _
    rw [e2]
    exact ⟨rfl, rfl, rfl⟩
theorem own_chr2 (x : Int32) : nar .char (own_chr x) = own_chr x := by
  have h1 := c_i2c (x &&& (255 : Int32))
  have h2 := c_i2c ((x &&& (255 : Int32)).toUInt32.toUInt16.toUInt32.toInt32)
  have h3 := c_i2c (own_chr x)
  have e2 : own_chr x = ((x &&& (255 : Int32)).toUInt32.toUInt16.toUInt32.toInt32).toUInt32.toUInt16.toUInt32.toInt32 := rfl
  rw [← e2] at h2
  show (own_chr x).toUInt32.toUInt16.toUInt32.toInt32 = own_chr x
  apply Int32.toInt_inj.mp
  omega
theorem d22_0 : decode jdk_42_method_56_code 0 = .ok (.aload_n 0, 1) := by decide +kernel
theorem d22_1 : decode jdk_42_method_56_code 1 = .ok (.invokevirtual 492, 3) := by decide +kernel
theorem d22_4 : decode jdk_42_method_56_code 4 = .ok (.ifCond .eq 12, 3) := by decide +kernel
theorem d22_7 : decode jdk_42_method_56_code 7 = .ok (.aload_n 0, 1) := by decide +kernel
theorem d22_8 : decode jdk_42_method_56_code 8 = .ok (.getfield 9, 3) := by decide +kernel
theorem d22_11 : decode jdk_42_method_56_code 11 = .ok (.iload_n 1, 1) := by decide +kernel
theorem d22_12 : decode jdk_42_method_56_code 12 = .ok (.invokestatic 495, 3) := by decide +kernel
theorem d22_15 : decode jdk_42_method_56_code 15 = .ok (.ireturn, 1) := by decide +kernel
theorem ef_22 (m : MethodId) (x0 : Addr) (x1 : Int32) : entryFrame m #[(.ref x0), (.int x1)] 2 = mkF m 0 #[.val (.ref x0), .val (.int x1)] [] := by first | (simp [entryFrame, mkF, argsToLocals, Value.category]; done) | rfl
def Q22 (Z : State) (a1 : Addr) (p2 : Int32) (b : Addr) (kb : ClassId) (nz : Int32) (c0 : Int32) (c1 : Int32) (c2 : Int32) (c3 : Int32) (c4 : Int32) (c5 : Int32) (c6 : Int32) (c7 : Int32) (cs : Int32) (fm : Value) (h0 : Heap) (v : Option Value) (h : Heap) (L : List Loc) : Prop := v = some (.int (own_chr (own_at8 c0 c1 c2 c3 c4 c5 c6 c7 p2))) ∧ L = [] ∧ h = h0
set_option maxRecDepth 65536 in
set_option maxHeartbeats 40000000 in
theorem rm22 (l : Launch) (Z : State) (a0 : Array Value) (hw : ∀ d ∈ tables_1, d.before a0 Z = true) (ws : List Jvm.Cond) (a1 : Addr) (p2 : Int32) (b : Addr) (kb : ClassId) (nz : Int32) (c0 : Int32) (c1 : Int32) (c2 : Int32) (c3 : Int32) (c4 : Int32) (c5 : Int32) (c6 : Int32) (c7 : Int32) (cs : Int32) (fm : Value) (h0 : Heap) (n0 : Nat) (O0 : Old Z n0 h0) (E_a1 : Exa Z h0 a1 "java/lang/String") (F_c : Fld Z h0 a1 "java/lang/String" "coder" "B" (.int (0 : Int32))) (F_v : Fld Z h0 a1 "java/lang/String" "value" "[B" (.ref b)) (V_b : Arv Z h0 b kb .byte nz [(.int c0), (.int c1), (.int c2), (.int c3), (.int c4), (.int c5), (.int c6), (.int c7)] (.int (0 : Int32))) (hj0 : ¬ p2 < (0 : Int32)) (hj1 : p2 < nz) (hn0 : ¬ nz < 0) (hn8 : nz.toNatClampNeg ≤ 8) (S_CS : Sta Z Z.heap "java/lang/String" "COMPACT_STRINGS" "Z" (.int cs)) (h_cs : ¬ cs = (0 : Int32)) (S_F : Sta Z Z.heap "jdk/internal/util/Preconditions" "SIOOBE_FORMATTER" "Ljava/util/function/BiFunction;" fm) (h_fm : fm.isRef = true) :
    MetFree l (⟨"java/lang/String", "charAt", "(I)C"⟩ : MethodName) (head1 (Jvm.Cond.code (⟨"java/lang/String", "charAt", "(I)C"⟩ : MethodName) jdk_42_method_56_code 2 (some .char) :: ws) ({ frames := 3, cells := 0, slots := 0, locals := 40 } : Room)) (fun a U => a = #[(.ref a1), (.int p2)] ∧ Z.Warmed39 U.vm ∧ U.heap = h0) (fun _ _ _ _ _ => True) (fun _ U o U' => ∃ v L, o = .returned v ∧ Q22 Z a1 p2 b kb nz c0 c1 c2 c3 c4 c5 c6 c7 cs fm h0 v U'.heap L ∧ FrameEnd U o U' L ({ frames := 3, cells := 0, slots := 0, locals := 40 } : Room).cells ({ frames := 3, cells := 0, slots := 0, locals := 40 } : Room).slots) := by
  refine MetFree.of_bodySF (plainFor_of_name pn_4) hisR ?_
  intro p e s m args below meth c s₁ Bd hml0 hP hK
  obtain ⟨rfl, hZ, hh⟩ := hP
  have hx := Bd.exec
  have hby := Bd.bytes
  have hml : c.maxLocals = 2 := hml0
  have hown : s.vm.findClass "java/lang/String" = some m.cls := findClass_of_methodNamed Bd.named
  have hnm := (name_of_methodNamed Bd.named Bd.method).1
  have X0 : Stand p l e ({ frames := 3, cells := 0, slots := 0, locals := 40 } : Room) s m #[(.ref a1), (.int p2)] below meth c s₁ [] 0 0 := Stand.of_body Bd
  have e0 : s₁.heap = h0 := by rw [← hh, Bd.state]; rfl
  have pre0 : ∀ t, Steps p.tables e below (s₁.setTop (mkF m 0 #[.val (.ref a1), .val (.int p2)] [])) t → Steps p.tables e below (s₁.setTop (entryFrame m #[(.ref a1), (.int p2)] 2)) t := fun t k => castTop (ef_22 m a1 p2) k
  obtain ⟨cq1, kq1, q1a, q1b, q1c⟩ := isOf hZ e0 E_a1
  obtain ⟨_, _, ⟨T1, L1, k1, n1⟩, -, X1, ⟨Lc1, hQ1, l1, y1, z1⟩, st1⟩ := X0.virtualBack hx (y := (⟨"java/lang/String", "isLatin1", "()Z"⟩ : MethodName)) (z := (⟨"java/lang/String", "isLatin1", "()Z"⟩ : MethodName)) hown (mvT hZ (hw _ (List.mem_of_getElem? (i := 135) rfl))) (mvT hZ (hw _ (List.mem_of_getElem? (i := 136) rfl))) (notFace_of_selects (args := #[]) (mvT hZ (hw _ (List.mem_of_getElem? (i := 138) rfl)))) (mvT hZ (hw _ (List.mem_of_getElem? (i := 138) rfl))) (mvT hZ (hw _ (List.mem_of_getElem? (i := 137) rfl))) (by decide) (backOf (W := 0) (rm23 l Z a0 hw [] a1 cs h0 n0 O0 F_c S_CS h_cs) hZ (hw _ (List.mem_of_getElem? (i := 139) rfl)) (hw _ (List.mem_of_getElem? (i := 22) rfl)) (by decide) (by decide)) q1a q1c (g := (mkF m 1 #[vR a1, vI p2] [iR a1])) rfl (by rw [hml]; rfl) (Steps.refl _) (argsL := []) (rest := []) (lenOf pd_1 rfl) rfl (by show 2 * 0 + _ ≤ _; exact Nat.le_of_eq rfl) (hb hby d22_1) (fun _ _ => ⟨rfl, e0, (by decide : 0 + 0 ≤ _), (by decide : 0 + 0 ≤ _)⟩)
  dsimp only [Pt.U, Pt.locs, Pt.cells, Pt.slots] at X1 l1 y1 z1 st1 hQ1
  subst l1 y1 z1
  obtain ⟨rfl, rfl, e1⟩ := hQ1
  try rw [List.append_nil] at X1
  obtain ⟨T2, X2, e2, st2⟩ := getF X1 hx hZ hown (host := "") (Or.inl (hw _ (List.mem_of_getElem? (i := 102) rfl))) Via.refl e1 F_v (g := (mkF m 8 #[vR a1, vI p2] [iR a1])) rfl rfl (hb hby d22_8)
  obtain ⟨_, _, ⟨T3, L3, k3, n3⟩, -, X3, ⟨Lc3, hQ3, l3, y3, z3⟩, st3⟩ := Jvm.LawKit.callS X2 hx (y := (⟨"java/lang/StringLatin1", "charAt", "([BI)C"⟩ : MethodName)) hown (mvT hZ (hw _ (List.mem_of_getElem? (i := 140) rfl))) (mvT hZ (hw _ (List.mem_of_getElem? (i := 141) rfl))) (mvT hZ (hw _ (List.mem_of_getElem? (i := 56) rfl))) (mvT hZ (hw _ (List.mem_of_getElem? (i := 142) rfl))) (by decide) (backOf (W := 0) (rm24 l Z a0 hw [] b p2 kb nz c0 c1 c2 c3 c4 c5 c6 c7 fm h0 n0 O0 V_b hj0 hj1 hn0 hn8 S_F h_fm) hZ (hw _ (List.mem_of_getElem? (i := 142) rfl)) (hw _ (List.mem_of_getElem? (i := 56) rfl)) (by decide) (by decide)) (g := (mkF m 12 #[vR a1, vI p2] [iI p2, iR b])) rfl (by rw [hml]; rfl) (argsL := [(.ref b), (.int p2)]) (rest := []) (lenOf pd_12 rfl) rfl (by show 2 * 0 + _ ≤ _; exact Nat.le_of_eq rfl) (hb hby d22_12) (fun _ _ => ⟨rfl, e2, (by decide : 0 + 0 ≤ _), (by decide : 0 + 0 ≤ _)⟩)
  dsimp only [Pt.U, Pt.locs, Pt.cells, Pt.slots] at X3 l3 y3 z3 st3 hQ3
  subst l3 y3 z3
  obtain ⟨rfl, rfl, e3⟩ := hQ3
  try rw [List.append_nil] at X3
  obtain ⟨fs, hr, hrun, hended, hW, hsame⟩ := X3.leave (v := some (.int (nar .char (own_chr (own_at8 c0 c1 c2 c3 c4 c5 c6 c7 p2))))) (fun h => by rw [Bd.returns] at h; cases h)
  refine ⟨_, _, pre0 _ ?_, hrun, hended, _, _, rfl, ?_, ⟨_, rfl⟩, hW, hsame.mono (by decide) (by decide)⟩
  · show Steps _ _ _ (s₁.setTop (mkF m 0 #[vR a1, vI p2] [])) _
    refine XS.aloadN X0.here hx rfl (hb hby d22_0) rfl rfl ?_
    show Steps _ _ _ (s₁.setTop (mkF m 1 #[vR a1, vI p2] [iR a1])) _
    refine st1.trans ?_
    show Steps _ _ _ (T1.setTop (mkF m 4 #[vR a1, vI p2] [iI 1])) _
    refine XS.ifNo X1.here hx rfl (hb hby d22_4) rfl ((if0 _ _).trans (feq (by decide : ¬ ((1 : Int32) = (0 : Int32)))).1) ?_
    show Steps _ _ _ (T1.setTop (mkF m 7 #[vR a1, vI p2] [])) _
    refine XS.aloadN X1.here hx rfl (hb hby d22_7) rfl rfl ?_
    show Steps _ _ _ (T1.setTop (mkF m 8 #[vR a1, vI p2] [iR a1])) _
    refine st2 _ ?_
    show Steps _ _ _ (T2.setTop (mkF m 11 #[vR a1, vI p2] [iR b])) _
    refine XS.iloadN X2.here hx rfl (hb hby d22_11) rfl ?_
    show Steps _ _ _ (T2.setTop (mkF m 12 #[vR a1, vI p2] [iI p2, iR b])) _
    refine st3 _ ?_
    show Steps _ _ _ (T3.setTop (mkF m 15 #[vR a1, vI p2] [iI (own_chr (own_at8 c0 c1 c2 c3 c4 c5 c6 c7 p2))])) _
    exact retN X3 hx (t := .char) Bd.returns (by simp) (hb hby d22_15) hr
  · show Q22 Z a1 p2 b kb nz c0 c1 c2 c3 c4 c5 c6 c7 cs fm h0 _ T3.heap _
    rw [e3]
    exact ⟨by rw [own_chr2], rfl, rfl⟩
def own_max (p1 : Int32) (p2 : Int32) : Int32 := (if p1 < p2 then p2 else p1)
theorem d28_0 : decode jdk_29_method_65_code 0 = .ok (.iload_n 0, 1) := by decide +kernel
theorem d28_1 : decode jdk_29_method_65_code 1 = .ok (.iload_n 1, 1) := by decide +kernel
theorem d28_2 : decode jdk_29_method_65_code 2 = .ok (.if_icmp .lt 7, 3) := by decide +kernel
theorem d28_5 : decode jdk_29_method_65_code 5 = .ok (.iload_n 0, 1) := by decide +kernel
theorem d28_6 : decode jdk_29_method_65_code 6 = .ok (.goto 4, 3) := by decide +kernel
theorem d28_9 : decode jdk_29_method_65_code 9 = .ok (.iload_n 1, 1) := by decide +kernel
theorem d28_10 : decode jdk_29_method_65_code 10 = .ok (.ireturn, 1) := by decide +kernel
theorem ef_28 (m : MethodId) (x0 : Int32) (x1 : Int32) : entryFrame m #[(.int x0), (.int x1)] 2 = mkF m 0 #[.val (.int x0), .val (.int x1)] [] := by first | (simp [entryFrame, mkF, argsToLocals, Value.category]; done) | rfl
def Q28 (Z : State) (p1 : Int32) (p2 : Int32) (h0 : Heap) (v : Option Value) (h : Heap) (L : List Loc) : Prop := v = some (.int (own_max p1 p2)) ∧ L = [] ∧ h = h0
set_option maxRecDepth 65536 in
set_option maxHeartbeats 40000000 in
theorem rm28 (l : Launch) (Z : State) (a0 : Array Value) (hw : ∀ d ∈ tables_1, d.before a0 Z = true) (ws : List Jvm.Cond) (p1 : Int32) (p2 : Int32) (h0 : Heap) :
    MetFree l (⟨"java/lang/Math", "max", "(II)I"⟩ : MethodName) (head1 (Jvm.Cond.code (⟨"java/lang/Math", "max", "(II)I"⟩ : MethodName) jdk_29_method_65_code 2 (some .int) :: ws) ({ frames := 0, cells := 0, slots := 0, locals := 0 } : Room)) (fun a U => a = #[(.int p1), (.int p2)] ∧ Z.Warmed39 U.vm ∧ U.heap = h0) (fun _ _ _ _ _ => True) (fun _ U o U' => ∃ v L, o = .returned v ∧ Q28 Z p1 p2 h0 v U'.heap L ∧ FrameEnd U o U' L ({ frames := 0, cells := 0, slots := 0, locals := 0 } : Room).cells ({ frames := 0, cells := 0, slots := 0, locals := 0 } : Room).slots) := by
  refine MetFree.of_bodySF (Jvm.Free.JP.mathPlain rfl (by decide +kernel)) hisR ?_
  intro p e s m args below meth c s₁ Bd hml0 hP hK
  obtain ⟨rfl, hZ, hh⟩ := hP
  have hx := Bd.exec
  have hby := Bd.bytes
  have hml : c.maxLocals = 2 := hml0
  have hown : s.vm.findClass "java/lang/Math" = some m.cls := findClass_of_methodNamed Bd.named
  have hnm := (name_of_methodNamed Bd.named Bd.method).1
  have X0 : Stand p l e ({ frames := 0, cells := 0, slots := 0, locals := 0 } : Room) s m #[(.int p1), (.int p2)] below meth c s₁ [] 0 0 := Stand.of_body Bd
  have e0 : s₁.heap = h0 := by rw [← hh, Bd.state]; rfl
  have pre0 : ∀ t, Steps p.tables e below (s₁.setTop (mkF m 0 #[.val (.int p1), .val (.int p2)] [])) t → Steps p.tables e below (s₁.setTop (entryFrame m #[(.int p1), (.int p2)] 2)) t := fun t k => castTop (ef_28 m p1 p2) k
  obtain ⟨v1, hv1⟩ : ∃ z : Int32, z = (if p1 < p2 then p2 else p1) := ⟨_, rfl⟩
  obtain ⟨T2, X2, e2, st2⟩ : own_Mid X0 h0 (mkF m 2 #[vI p1, vI p2] [iI p2, iI p1]) (mkF m 10 #[vI p1, vI p2] [iI v1]) := by
    by_cases hc3 : p1 < p2
    · refine ⟨s₁, X0, e0, fun t kt => ?_⟩
      subst hv1
      simp only [if_pos hc3] at kt
      show Steps _ _ _ (s₁.setTop (mkF m 2 #[vI p1, vI p2] [iI p2, iI p1])) _
      refine XS.icmpYes X0.here hx rfl (pc0 := 2) (pc' := 9) rfl (hb hby d28_2) rfl (tlt hc3).1 (by decide) (by decide) ?_
      show Steps _ _ _ (s₁.setTop (mkF m 9 #[vI p1, vI p2] [])) _
      refine XS.iloadN X0.here hx rfl (hb hby d28_9) rfl ?_
      exact kt
    · refine ⟨s₁, X0, e0, fun t kt => ?_⟩
      subst hv1
      simp only [if_neg hc3] at kt
      show Steps _ _ _ (s₁.setTop (mkF m 2 #[vI p1, vI p2] [iI p2, iI p1])) _
      refine XS.icmpNo X0.here hx rfl (hb hby d28_2) rfl (flt hc3).1 ?_
      show Steps _ _ _ (s₁.setTop (mkF m 5 #[vI p1, vI p2] [])) _
      refine XS.iloadN X0.here hx rfl (hb hby d28_5) rfl ?_
      show Steps _ _ _ (s₁.setTop (mkF m 6 #[vI p1, vI p2] [iI p1])) _
      refine XS.goto X0.here hx rfl (pc0 := 6) (pc' := 10) rfl (hb hby d28_6) (by decide) (by decide) ?_
      exact kt
  obtain ⟨fs, hr, hrun, hended, hW, hsame⟩ := X2.leave (v := some (.int v1)) (fun h => by rw [Bd.returns] at h; cases h)
  refine ⟨_, _, pre0 _ ?_, hrun, hended, _, _, rfl, ?_, ⟨_, rfl⟩, hW, hsame.mono (by decide) (by decide)⟩
  · show Steps _ _ _ (s₁.setTop (mkF m 0 #[vI p1, vI p2] [])) _
    refine XS.iloadN X0.here hx rfl (hb hby d28_0) rfl ?_
    show Steps _ _ _ (s₁.setTop (mkF m 1 #[vI p1, vI p2] [iI p1])) _
    refine XS.iloadN X0.here hx rfl (hb hby d28_1) rfl ?_
    show Steps _ _ _ (s₁.setTop (mkF m 2 #[vI p1, vI p2] [iI p2, iI p1])) _
    refine st2 _ ?_
    show Steps _ _ _ (T2.setTop (mkF m 10 #[vI p1, vI p2] [iI v1])) _
    exact retI X2 hx Bd.returns (hb hby d28_10) hr
  · show Q28 Z p1 p2 h0 _ T2.heap _
    rw [e2]
    exact ⟨by subst hv1; first | rfl | (simp only [own_max]; done) | (simp only [own_max]; rfl) | (simp only [own_max, nar] ; first | rfl | (simp; done) | decide), rfl, rfl⟩
def own_fd (p1 : Int32) : Int32 := (if p1 < (16 : Int32) then (if p1 < (0 : Int32) then (0 : Int32) else (if p1 < (10 : Int32) then (nar .char ((48 : Int32) + p1).toUInt32.toUInt16.toUInt32.toInt32) else (nar .char ((87 : Int32) + p1).toUInt32.toUInt16.toUInt32.toInt32))) else (0 : Int32))
theorem d5_0 : decode jdk_89_method_92_code 0 = .ok (.iload_n 0, 1) := by decide +kernel
theorem d5_1 : decode jdk_89_method_92_code 1 = .ok (.iload_n 1, 1) := by decide +kernel
theorem d5_2 : decode jdk_89_method_92_code 2 = .ok (.if_icmp .ge 7, 3) := by decide +kernel
theorem d5_5 : decode jdk_89_method_92_code 5 = .ok (.iload_n 0, 1) := by decide +kernel
theorem d5_6 : decode jdk_89_method_92_code 6 = .ok (.ifCond .ge 5, 3) := by decide +kernel
theorem d5_9 : decode jdk_89_method_92_code 9 = .ok (.iconst 0, 1) := by decide +kernel
theorem d5_10 : decode jdk_89_method_92_code 10 = .ok (.ireturn, 1) := by decide +kernel
theorem d5_11 : decode jdk_89_method_92_code 11 = .ok (.iload_n 1, 1) := by decide +kernel
theorem d5_12 : decode jdk_89_method_92_code 12 = .ok (.iconst 2, 1) := by decide +kernel
theorem d5_13 : decode jdk_89_method_92_code 13 = .ok (.if_icmp .lt 9, 3) := by decide +kernel
theorem d5_16 : decode jdk_89_method_92_code 16 = .ok (.iload_n 1, 1) := by decide +kernel
theorem d5_17 : decode jdk_89_method_92_code 17 = .ok (.bipush 36, 2) := by decide +kernel
theorem d5_19 : decode jdk_89_method_92_code 19 = .ok (.if_icmp .le 5, 3) := by decide +kernel
theorem d5_24 : decode jdk_89_method_92_code 24 = .ok (.iload_n 0, 1) := by decide +kernel
theorem d5_25 : decode jdk_89_method_92_code 25 = .ok (.bipush 10, 2) := by decide +kernel
theorem d5_27 : decode jdk_89_method_92_code 27 = .ok (.if_icmp .ge 9, 3) := by decide +kernel
theorem d5_30 : decode jdk_89_method_92_code 30 = .ok (.bipush 48, 2) := by decide +kernel
theorem d5_32 : decode jdk_89_method_92_code 32 = .ok (.iload_n 0, 1) := by decide +kernel
theorem d5_33 : decode jdk_89_method_92_code 33 = .ok (.iadd, 1) := by decide +kernel
theorem d5_34 : decode jdk_89_method_92_code 34 = .ok (.i2c, 1) := by decide +kernel
theorem d5_35 : decode jdk_89_method_92_code 35 = .ok (.ireturn, 1) := by decide +kernel
theorem d5_36 : decode jdk_89_method_92_code 36 = .ok (.bipush 87, 2) := by decide +kernel
theorem d5_38 : decode jdk_89_method_92_code 38 = .ok (.iload_n 0, 1) := by decide +kernel
theorem d5_39 : decode jdk_89_method_92_code 39 = .ok (.iadd, 1) := by decide +kernel
theorem d5_40 : decode jdk_89_method_92_code 40 = .ok (.i2c, 1) := by decide +kernel
theorem d5_41 : decode jdk_89_method_92_code 41 = .ok (.ireturn, 1) := by decide +kernel
theorem pn_6 : plainName "java/lang/Character" = true := by first | (simp [plainName, overriddenIn]; done) | decide +kernel
theorem ef_5 (m : MethodId) (x0 : Int32) : entryFrame m #[(.int x0), (.int (16 : Int32))] 2 = mkF m 0 #[.val (.int x0), .val (.int (16 : Int32))] [] := by first | (simp [entryFrame, mkF, argsToLocals, Value.category]; done) | rfl
def Q5 (Z : State) (p1 : Int32) (h0 : Heap) (v : Option Value) (h : Heap) (L : List Loc) : Prop := v = some (.int (own_fd p1)) ∧ L = [] ∧ h = h0
set_option maxRecDepth 65536 in
set_option maxHeartbeats 40000000 in
theorem rm5 (l : Launch) (Z : State) (a0 : Array Value) (hw : ∀ d ∈ tables_1, d.before a0 Z = true) (ws : List Jvm.Cond) (p1 : Int32) (h0 : Heap) :
    MetFree l (⟨"java/lang/Character", "forDigit", "(II)C"⟩ : MethodName) (head1 (Jvm.Cond.code (⟨"java/lang/Character", "forDigit", "(II)C"⟩ : MethodName) jdk_89_method_92_code 2 (some .char) :: ws) ({ frames := 0, cells := 0, slots := 0, locals := 0 } : Room)) (fun a U => a = #[(.int p1), (.int (16 : Int32))] ∧ Z.Warmed39 U.vm ∧ U.heap = h0) (fun _ _ _ _ _ => True) (fun _ U o U' => ∃ v L, o = .returned v ∧ Q5 Z p1 h0 v U'.heap L ∧ FrameEnd U o U' L ({ frames := 0, cells := 0, slots := 0, locals := 0 } : Room).cells ({ frames := 0, cells := 0, slots := 0, locals := 0 } : Room).slots) := by
  refine MetFree.of_bodySF (plainFor_of_name pn_6) hisR ?_
  intro p e s m args below meth c s₁ Bd hml0 hP hK
  obtain ⟨rfl, hZ, hh⟩ := hP
  have hx := Bd.exec
  have hby := Bd.bytes
  have hml : c.maxLocals = 2 := hml0
  have hown : s.vm.findClass "java/lang/Character" = some m.cls := findClass_of_methodNamed Bd.named
  have hnm := (name_of_methodNamed Bd.named Bd.method).1
  have X0 : Stand p l e ({ frames := 0, cells := 0, slots := 0, locals := 0 } : Room) s m #[(.int p1), (.int (16 : Int32))] below meth c s₁ [] 0 0 := Stand.of_body Bd
  have e0 : s₁.heap = h0 := by rw [← hh, Bd.state]; rfl
  have pre0 : ∀ t, Steps p.tables e below (s₁.setTop (mkF m 0 #[.val (.int p1), .val (.int (16 : Int32))] [])) t → Steps p.tables e below (s₁.setTop (entryFrame m #[(.int p1), (.int (16 : Int32))] 2)) t := fun t k => castTop (ef_5 m p1) k
  have pre2 : ∀ t, Steps p.tables e below (s₁.setTop (mkF m 2 #[vI p1, vI 16] [iI 16, iI p1])) t → Steps p.tables e below (s₁.setTop (entryFrame m #[(.int p1), (.int (16 : Int32))] 2)) t := by
    intro t kt
    refine pre0 t ?_
    show Steps _ _ _ (s₁.setTop (mkF m 0 #[vI p1, vI 16] [])) _
    refine XS.iloadN X0.here hx rfl (hb hby d5_0) rfl ?_
    show Steps _ _ _ (s₁.setTop (mkF m 1 #[vI p1, vI 16] [iI p1])) _
    refine XS.iloadN X0.here hx rfl (hb hby d5_1) rfl ?_
    exact kt
  by_cases hc1 : p1 < (16 : Int32)
  · have pre4 : ∀ t, Steps p.tables e below (s₁.setTop (mkF m 6 #[vI p1, vI 16] [iI p1])) t → Steps p.tables e below (s₁.setTop (entryFrame m #[(.int p1), (.int (16 : Int32))] 2)) t := by
      intro t kt
      refine pre2 t ?_
      show Steps _ _ _ (s₁.setTop (mkF m 2 #[vI p1, vI 16] [iI 16, iI p1])) _
      refine XS.icmpNo X0.here hx rfl (hb hby d5_2) rfl (tlt hc1).2.1 ?_
      show Steps _ _ _ (s₁.setTop (mkF m 5 #[vI p1, vI 16] [])) _
      refine XS.iloadN X0.here hx rfl (hb hby d5_5) rfl ?_
      exact kt
    by_cases hc3 : p1 < (0 : Int32)
    · obtain ⟨fs, hr, hrun, hended, hW, hsame⟩ := X0.leave (v := some (.int (0 : Int32))) (fun h => by rw [Bd.returns] at h; cases h)
      refine ⟨_, _, pre4 _ ?_, hrun, hended, _, _, rfl, ?_, ⟨_, rfl⟩, hW, hsame.mono (by decide) (by decide)⟩
      · show Steps _ _ _ (s₁.setTop (mkF m 6 #[vI p1, vI 16] [iI p1])) _
        refine XS.ifNo X0.here hx rfl (hb hby d5_6) rfl ((if0 _ _).trans (tlt hc3).2.1) ?_
        show Steps _ _ _ (s₁.setTop (mkF m 9 #[vI p1, vI 16] [])) _
        refine XS.iconst X0.here hx rfl (hb hby d5_9) ?_
        show Steps _ _ _ (s₁.setTop (mkF m 10 #[vI p1, vI 16] [iI 0])) _
        exact retN X0 hx (t := .char) Bd.returns (by simp) (hb hby d5_10) hr
      · show Q5 Z p1 h0 _ s₁.heap _
        rw [e0]
        exact ⟨by first | rfl | (simp only [own_fd, if_pos hc1, if_pos hc3]; done) | (simp only [own_fd, if_pos hc1, if_pos hc3]; rfl) | (simp only [own_fd, if_pos hc1, if_pos hc3, nar] ; first | rfl | (simp; done) | decide), rfl, rfl⟩
    · have pre6 : ∀ t, Steps p.tables e below (s₁.setTop (mkF m 27 #[vI p1, vI 16] [iI 10, iI p1])) t → Steps p.tables e below (s₁.setTop (entryFrame m #[(.int p1), (.int (16 : Int32))] 2)) t := by
        intro t kt
        refine pre4 t ?_
        show Steps _ _ _ (s₁.setTop (mkF m 6 #[vI p1, vI 16] [iI p1])) _
        refine XS.ifYes X0.here hx rfl (pc0 := 6) (pc' := 11) rfl (hb hby d5_6) rfl ((if0 _ _).trans (flt hc3).2.1) (by decide) (by decide) ?_
        show Steps _ _ _ (s₁.setTop (mkF m 11 #[vI p1, vI 16] [])) _
        refine XS.iloadN X0.here hx rfl (hb hby d5_11) rfl ?_
        show Steps _ _ _ (s₁.setTop (mkF m 12 #[vI p1, vI 16] [iI 16])) _
        refine XS.iconst X0.here hx rfl (hb hby d5_12) ?_
        show Steps _ _ _ (s₁.setTop (mkF m 13 #[vI p1, vI 16] [iI 2, iI 16])) _
        refine XS.icmpNo X0.here hx rfl (hb hby d5_13) rfl (flt (by decide : ¬ ((16 : Int32) < (2 : Int32)))).1 ?_
        show Steps _ _ _ (s₁.setTop (mkF m 16 #[vI p1, vI 16] [])) _
        refine XS.iloadN X0.here hx rfl (hb hby d5_16) rfl ?_
        show Steps _ _ _ (s₁.setTop (mkF m 17 #[vI p1, vI 16] [iI 16])) _
        refine XS.bipush X0.here hx rfl (hb hby d5_17) ?_
        show Steps _ _ _ (s₁.setTop (mkF m 19 #[vI p1, vI 16] [iI 36, iI 16])) _
        refine XS.icmpYes X0.here hx rfl (pc0 := 19) (pc' := 24) rfl (hb hby d5_19) rfl (flt (by decide : ¬ ((36 : Int32) < (16 : Int32)))).2.2.2 (by decide) (by decide) ?_
        show Steps _ _ _ (s₁.setTop (mkF m 24 #[vI p1, vI 16] [])) _
        refine XS.iloadN X0.here hx rfl (hb hby d5_24) rfl ?_
        show Steps _ _ _ (s₁.setTop (mkF m 25 #[vI p1, vI 16] [iI p1])) _
        refine XS.bipush X0.here hx rfl (hb hby d5_25) ?_
        exact kt
      by_cases hc5 : p1 < (10 : Int32)
      · obtain ⟨fs, hr, hrun, hended, hW, hsame⟩ := X0.leave (v := some (.int (nar .char ((48 : Int32) + p1).toUInt32.toUInt16.toUInt32.toInt32))) (fun h => by rw [Bd.returns] at h; cases h)
        refine ⟨_, _, pre6 _ ?_, hrun, hended, _, _, rfl, ?_, ⟨_, rfl⟩, hW, hsame.mono (by decide) (by decide)⟩
        · show Steps _ _ _ (s₁.setTop (mkF m 27 #[vI p1, vI 16] [iI 10, iI p1])) _
          refine XS.icmpNo X0.here hx rfl (hb hby d5_27) rfl (tlt hc5).2.1 ?_
          show Steps _ _ _ (s₁.setTop (mkF m 30 #[vI p1, vI 16] [])) _
          refine XS.bipush X0.here hx rfl (hb hby d5_30) ?_
          show Steps _ _ _ (s₁.setTop (mkF m 32 #[vI p1, vI 16] [iI 48])) _
          refine XS.iloadN X0.here hx rfl (hb hby d5_32) rfl ?_
          show Steps _ _ _ (s₁.setTop (mkF m 33 #[vI p1, vI 16] [iI p1, iI 48])) _
          refine XS.iadd X0.here hx rfl (hb hby d5_33) rfl ?_
          show Steps _ _ _ (s₁.setTop (mkF m 34 #[vI p1, vI 16] [iI ((48 : Int32) + p1)])) _
          refine XS.i2c X0.here hx rfl (hb hby d5_34) rfl ?_
          show Steps _ _ _ (s₁.setTop (mkF m 35 #[vI p1, vI 16] [iI ((48 : Int32) + p1).toUInt32.toUInt16.toUInt32.toInt32])) _
          exact retN X0 hx (t := .char) Bd.returns (by simp) (hb hby d5_35) hr
        · show Q5 Z p1 h0 _ s₁.heap _
          rw [e0]
          exact ⟨by first | rfl | (simp only [own_fd, if_pos hc1, if_neg hc3, if_pos hc5]; done) | (simp only [own_fd, if_pos hc1, if_neg hc3, if_pos hc5]; rfl) | (simp only [own_fd, if_pos hc1, if_neg hc3, if_pos hc5, nar] ; first | rfl | (simp; done) | decide), rfl, rfl⟩
      · obtain ⟨fs, hr, hrun, hended, hW, hsame⟩ := X0.leave (v := some (.int (nar .char ((87 : Int32) + p1).toUInt32.toUInt16.toUInt32.toInt32))) (fun h => by rw [Bd.returns] at h; cases h)
        refine ⟨_, _, pre6 _ ?_, hrun, hended, _, _, rfl, ?_, ⟨_, rfl⟩, hW, hsame.mono (by decide) (by decide)⟩
        · show Steps _ _ _ (s₁.setTop (mkF m 27 #[vI p1, vI 16] [iI 10, iI p1])) _
          refine XS.icmpYes X0.here hx rfl (pc0 := 27) (pc' := 36) rfl (hb hby d5_27) rfl (flt hc5).2.1 (by decide) (by decide) ?_
          show Steps _ _ _ (s₁.setTop (mkF m 36 #[vI p1, vI 16] [])) _
          refine XS.bipush X0.here hx rfl (hb hby d5_36) ?_
          show Steps _ _ _ (s₁.setTop (mkF m 38 #[vI p1, vI 16] [iI 87])) _
          refine XS.iloadN X0.here hx rfl (hb hby d5_38) rfl ?_
          show Steps _ _ _ (s₁.setTop (mkF m 39 #[vI p1, vI 16] [iI p1, iI 87])) _
          refine XS.iadd X0.here hx rfl (hb hby d5_39) rfl ?_
          show Steps _ _ _ (s₁.setTop (mkF m 40 #[vI p1, vI 16] [iI ((87 : Int32) + p1)])) _
          refine XS.i2c X0.here hx rfl (hb hby d5_40) rfl ?_
          show Steps _ _ _ (s₁.setTop (mkF m 41 #[vI p1, vI 16] [iI ((87 : Int32) + p1).toUInt32.toUInt16.toUInt32.toInt32])) _
          exact retN X0 hx (t := .char) Bd.returns (by simp) (hb hby d5_41) hr
        · show Q5 Z p1 h0 _ s₁.heap _
          rw [e0]
          exact ⟨by first | rfl | (simp only [own_fd, if_pos hc1, if_neg hc3, if_neg hc5]; done) | (simp only [own_fd, if_pos hc1, if_neg hc3, if_neg hc5]; rfl) | (simp only [own_fd, if_pos hc1, if_neg hc3, if_neg hc5, nar] ; first | rfl | (simp; done) | decide), rfl, rfl⟩
  · obtain ⟨fs, hr, hrun, hended, hW, hsame⟩ := X0.leave (v := some (.int (0 : Int32))) (fun h => by rw [Bd.returns] at h; cases h)
    refine ⟨_, _, pre2 _ ?_, hrun, hended, _, _, rfl, ?_, ⟨_, rfl⟩, hW, hsame.mono (by decide) (by decide)⟩
    · show Steps _ _ _ (s₁.setTop (mkF m 2 #[vI p1, vI 16] [iI 16, iI p1])) _
      refine XS.icmpYes X0.here hx rfl (pc0 := 2) (pc' := 9) rfl (hb hby d5_2) rfl (flt hc1).2.1 (by decide) (by decide) ?_
      show Steps _ _ _ (s₁.setTop (mkF m 9 #[vI p1, vI 16] [])) _
      refine XS.iconst X0.here hx rfl (hb hby d5_9) ?_
      show Steps _ _ _ (s₁.setTop (mkF m 10 #[vI p1, vI 16] [iI 0])) _
      exact retN X0 hx (t := .char) Bd.returns (by simp) (hb hby d5_10) hr
    · show Q5 Z p1 h0 _ s₁.heap _
      rw [e0]
      exact ⟨by first | rfl | (simp only [own_fd, if_neg hc1]; done) | (simp only [own_fd, if_neg hc1]; rfl) | (simp only [own_fd, if_neg hc1, nar] ; first | rfl | (simp; done) | decide), rfl, rfl⟩
def own_bit (p1 : Int32) : Int64 := ((1 : Int64) <<< ((p1 - (1 : Int32)) &&& 0x3f).toInt64)
theorem d27_0 : decode method_3_code 0 = .ok (.lconst 1, 1) := by decide +kernel
theorem d27_1 : decode method_3_code 1 = .ok (.iload_n 0, 1) := by decide +kernel
theorem d27_2 : decode method_3_code 2 = .ok (.iconst 1, 1) := by decide +kernel
theorem d27_3 : decode method_3_code 3 = .ok (.isub, 1) := by decide +kernel
theorem d27_4 : decode method_3_code 4 = .ok (.lshl, 1) := by decide +kernel
theorem d27_5 : decode method_3_code 5 = .ok (.lreturn, 1) := by decide +kernel
theorem pn_7 : plainName "com/example/cloud_to_core/cloudtocore/model/SupportedFeaturesOfPinLaw" = true := by first | (simp [plainName, overriddenIn]; done) | decide +kernel
theorem ef_27 (m : MethodId) (x0 : Int32) : entryFrame m #[(.int x0)] 1 = mkF m 0 #[.val (.int x0)] [] := by first | (simp [entryFrame, mkF, argsToLocals, Value.category]; done) | rfl
def Q27 (Z : State) (p1 : Int32) (h0 : Heap) (v : Option Value) (h : Heap) (L : List Loc) : Prop := v = some (.long (own_bit p1)) ∧ L = [] ∧ h = h0
set_option maxRecDepth 65536 in
set_option maxHeartbeats 40000000 in
theorem rm27 (l : Launch) (Z : State) (a0 : Array Value) (hw : ∀ d ∈ tables_1, d.before a0 Z = true) (ws : List Jvm.Cond) (p1 : Int32) (h0 : Heap) :
    MetFree l (⟨"com/example/cloud_to_core/cloudtocore/model/SupportedFeaturesOfPinLaw", "bit", "(I)J"⟩ : MethodName) (head1 (Jvm.Cond.code (⟨"com/example/cloud_to_core/cloudtocore/model/SupportedFeaturesOfPinLaw", "bit", "(I)J"⟩ : MethodName) method_3_code 1 (some .long) :: ws) ({ frames := 0, cells := 0, slots := 0, locals := 0 } : Room)) (fun a U => a = #[(.int p1)] ∧ Z.Warmed39 U.vm ∧ U.heap = h0) (fun _ _ _ _ _ => True) (fun _ U o U' => ∃ v L, o = .returned v ∧ Q27 Z p1 h0 v U'.heap L ∧ FrameEnd U o U' L ({ frames := 0, cells := 0, slots := 0, locals := 0 } : Room).cells ({ frames := 0, cells := 0, slots := 0, locals := 0 } : Room).slots) := by
  refine MetFree.of_bodySF (plainFor_of_name pn_7) hisR ?_
  intro p e s m args below meth c s₁ Bd hml0 hP hK
  obtain ⟨rfl, hZ, hh⟩ := hP
  have hx := Bd.exec
  have hby := Bd.bytes
  have hml : c.maxLocals = 1 := hml0
  have hown : s.vm.findClass "com/example/cloud_to_core/cloudtocore/model/SupportedFeaturesOfPinLaw" = some m.cls := findClass_of_methodNamed Bd.named
  have hnm := (name_of_methodNamed Bd.named Bd.method).1
  have X0 : Stand p l e ({ frames := 0, cells := 0, slots := 0, locals := 0 } : Room) s m #[(.int p1)] below meth c s₁ [] 0 0 := Stand.of_body Bd
  have e0 : s₁.heap = h0 := by rw [← hh, Bd.state]; rfl
  have pre0 : ∀ t, Steps p.tables e below (s₁.setTop (mkF m 0 #[.val (.int p1)] [])) t → Steps p.tables e below (s₁.setTop (entryFrame m #[(.int p1)] 1)) t := fun t k => castTop (ef_27 m p1) k
  obtain ⟨fs, hr, hrun, hended, hW, hsame⟩ := X0.leave (v := some (.long ((1 : Int64) <<< ((p1 - (1 : Int32)) &&& 0x3f).toInt64))) (fun h => by rw [Bd.returns] at h; cases h)
  refine ⟨_, _, pre0 _ ?_, hrun, hended, _, _, rfl, ?_, ⟨_, rfl⟩, hW, hsame.mono (by decide) (by decide)⟩
  · show Steps _ _ _ (s₁.setTop (mkF m 0 #[vI p1] [])) _
    refine XS.lconst X0.here hx rfl (hb hby d27_0) ?_
    show Steps _ _ _ (s₁.setTop (mkF m 1 #[vI p1] [iJ 1])) _
    refine XS.iloadN X0.here hx rfl (hb hby d27_1) rfl ?_
    show Steps _ _ _ (s₁.setTop (mkF m 2 #[vI p1] [iI p1, iJ 1])) _
    refine XS.iconst X0.here hx rfl (hb hby d27_2) ?_
    show Steps _ _ _ (s₁.setTop (mkF m 3 #[vI p1] [iI 1, iI p1, iJ 1])) _
    refine XS.isub X0.here hx rfl (hb hby d27_3) rfl ?_
    show Steps _ _ _ (s₁.setTop (mkF m 4 #[vI p1] [iI (p1 - (1 : Int32)), iJ 1])) _
    refine XS.lshl X0.here hx rfl (hb hby d27_4) rfl ?_
    show Steps _ _ _ (s₁.setTop (mkF m 5 #[vI p1] [iJ ((1 : Int64) <<< ((p1 - (1 : Int32)) &&& 0x3f).toInt64)])) _
    exact X0.lreturnOut hx Bd.returns (hb hby d27_5) hr
  · show Q27 Z p1 h0 _ s₁.heap _
    rw [e0]
    exact ⟨by first | rfl | (simp only [own_bit]; done) | (simp only [own_bit]; rfl) | (simp only [own_bit, nar] ; first | rfl | (simp; done) | decide), rfl, rfl⟩
def own_hex (q1 : Int64) : Int32 := (if q1 < (268435456 : Int64) then (if q1 < (16777216 : Int64) then (if q1 < (1048576 : Int64) then (if q1 < (65536 : Int64) then (if q1 < (4096 : Int64) then (if q1 < (256 : Int64) then (if q1 < (16 : Int64) then (1 : Int32) else (2 : Int32)) else (3 : Int32)) else (4 : Int32)) else (5 : Int32)) else (6 : Int32)) else (7 : Int32)) else (8 : Int32))
theorem d18_0 : decode method_4_code 0 = .ok (.lload_n 0, 1) := by decide +kernel
theorem d18_1 : decode method_4_code 1 = .ok (.ldc2_w 34, 3) := by decide +kernel
theorem d18_4 : decode method_4_code 4 = .ok (.lcmp, 1) := by decide +kernel
theorem d18_5 : decode method_4_code 5 = .ok (.ifCond .lt 6, 3) := by decide +kernel
theorem d18_8 : decode method_4_code 8 = .ok (.bipush 8, 2) := by decide +kernel
theorem d18_10 : decode method_4_code 10 = .ok (.ireturn, 1) := by decide +kernel
theorem d18_11 : decode method_4_code 11 = .ok (.lload_n 0, 1) := by decide +kernel
theorem d18_12 : decode method_4_code 12 = .ok (.ldc2_w 36, 3) := by decide +kernel
theorem d18_15 : decode method_4_code 15 = .ok (.lcmp, 1) := by decide +kernel
theorem d18_16 : decode method_4_code 16 = .ok (.ifCond .lt 6, 3) := by decide +kernel
theorem d18_19 : decode method_4_code 19 = .ok (.bipush 7, 2) := by decide +kernel
theorem d18_21 : decode method_4_code 21 = .ok (.ireturn, 1) := by decide +kernel
theorem d18_22 : decode method_4_code 22 = .ok (.lload_n 0, 1) := by decide +kernel
theorem d18_23 : decode method_4_code 23 = .ok (.ldc2_w 38, 3) := by decide +kernel
theorem d18_26 : decode method_4_code 26 = .ok (.lcmp, 1) := by decide +kernel
theorem d18_27 : decode method_4_code 27 = .ok (.ifCond .lt 6, 3) := by decide +kernel
theorem d18_30 : decode method_4_code 30 = .ok (.bipush 6, 2) := by decide +kernel
theorem d18_32 : decode method_4_code 32 = .ok (.ireturn, 1) := by decide +kernel
theorem d18_33 : decode method_4_code 33 = .ok (.lload_n 0, 1) := by decide +kernel
theorem d18_34 : decode method_4_code 34 = .ok (.ldc2_w 40, 3) := by decide +kernel
theorem d18_37 : decode method_4_code 37 = .ok (.lcmp, 1) := by decide +kernel
theorem d18_38 : decode method_4_code 38 = .ok (.ifCond .lt 5, 3) := by decide +kernel
theorem d18_41 : decode method_4_code 41 = .ok (.iconst 5, 1) := by decide +kernel
theorem d18_42 : decode method_4_code 42 = .ok (.ireturn, 1) := by decide +kernel
theorem d18_43 : decode method_4_code 43 = .ok (.lload_n 0, 1) := by decide +kernel
theorem d18_44 : decode method_4_code 44 = .ok (.ldc2_w 42, 3) := by decide +kernel
theorem d18_47 : decode method_4_code 47 = .ok (.lcmp, 1) := by decide +kernel
theorem d18_48 : decode method_4_code 48 = .ok (.ifCond .lt 5, 3) := by decide +kernel
theorem d18_51 : decode method_4_code 51 = .ok (.iconst 4, 1) := by decide +kernel
theorem d18_52 : decode method_4_code 52 = .ok (.ireturn, 1) := by decide +kernel
theorem d18_53 : decode method_4_code 53 = .ok (.lload_n 0, 1) := by decide +kernel
theorem d18_54 : decode method_4_code 54 = .ok (.ldc2_w 44, 3) := by decide +kernel
theorem d18_57 : decode method_4_code 57 = .ok (.lcmp, 1) := by decide +kernel
theorem d18_58 : decode method_4_code 58 = .ok (.ifCond .lt 5, 3) := by decide +kernel
theorem d18_61 : decode method_4_code 61 = .ok (.iconst 3, 1) := by decide +kernel
theorem d18_62 : decode method_4_code 62 = .ok (.ireturn, 1) := by decide +kernel
theorem d18_63 : decode method_4_code 63 = .ok (.lload_n 0, 1) := by decide +kernel
theorem d18_64 : decode method_4_code 64 = .ok (.ldc2_w 46, 3) := by decide +kernel
theorem d18_67 : decode method_4_code 67 = .ok (.lcmp, 1) := by decide +kernel
theorem d18_68 : decode method_4_code 68 = .ok (.ifCond .lt 5, 3) := by decide +kernel
theorem d18_71 : decode method_4_code 71 = .ok (.iconst 2, 1) := by decide +kernel
theorem d18_72 : decode method_4_code 72 = .ok (.ireturn, 1) := by decide +kernel
theorem d18_73 : decode method_4_code 73 = .ok (.iconst 1, 1) := by decide +kernel
theorem d18_74 : decode method_4_code 74 = .ok (.ireturn, 1) := by decide +kernel
theorem ef_18 (m : MethodId) (x0 : Int64) : entryFrame m #[(.long x0)] 2 = mkF m 0 #[.val (.long x0), .second] [] := by first | (simp [entryFrame, mkF, argsToLocals, Value.category]; done) | rfl
def Q18 (Z : State) (q1 : Int64) (h0 : Heap) (v : Option Value) (h : Heap) (L : List Loc) : Prop := v = some (.int (own_hex q1)) ∧ L = [] ∧ h = h0
set_option maxRecDepth 65536 in
set_option maxHeartbeats 40000000 in
theorem rm18 (l : Launch) (Z : State) (a0 : Array Value) (hw : ∀ d ∈ tables_1, d.before a0 Z = true) (ws : List Jvm.Cond) (q1 : Int64) (h0 : Heap) :
    MetFree l (⟨"com/example/cloud_to_core/cloudtocore/model/SupportedFeaturesOfPinLaw", "hexLength", "(J)I"⟩ : MethodName) (head1 (Jvm.Cond.code (⟨"com/example/cloud_to_core/cloudtocore/model/SupportedFeaturesOfPinLaw", "hexLength", "(J)I"⟩ : MethodName) method_4_code 2 (some .int) :: ws) ({ frames := 0, cells := 0, slots := 0, locals := 0 } : Room)) (fun a U => a = #[(.long q1)] ∧ Z.Warmed39 U.vm ∧ U.heap = h0) (fun _ _ _ _ _ => True) (fun _ U o U' => ∃ v L, o = .returned v ∧ Q18 Z q1 h0 v U'.heap L ∧ FrameEnd U o U' L ({ frames := 0, cells := 0, slots := 0, locals := 0 } : Room).cells ({ frames := 0, cells := 0, slots := 0, locals := 0 } : Room).slots) := by
  refine MetFree.of_bodySF (plainFor_of_name pn_7) hisR ?_
  intro p e s m args below meth c s₁ Bd hml0 hP hK
  obtain ⟨rfl, hZ, hh⟩ := hP
  have hx := Bd.exec
  have hby := Bd.bytes
  have hml : c.maxLocals = 2 := hml0
  have hown : s.vm.findClass "com/example/cloud_to_core/cloudtocore/model/SupportedFeaturesOfPinLaw" = some m.cls := findClass_of_methodNamed Bd.named
  have hnm := (name_of_methodNamed Bd.named Bd.method).1
  have X0 : Stand p l e ({ frames := 0, cells := 0, slots := 0, locals := 0 } : Room) s m #[(.long q1)] below meth c s₁ [] 0 0 := Stand.of_body Bd
  have e0 : s₁.heap = h0 := by rw [← hh, Bd.state]; rfl
  have pre0 : ∀ t, Steps p.tables e below (s₁.setTop (mkF m 0 #[.val (.long q1), .second] [])) t → Steps p.tables e below (s₁.setTop (entryFrame m #[(.long q1)] 2)) t := fun t k => castTop (ef_18 m q1) k
  have pre2 : ∀ t, Steps p.tables e below (s₁.setTop (mkF m 5 #[vJ q1, .second] [iI (lcmpW q1 (268435456 : Int64))])) t → Steps p.tables e below (s₁.setTop (entryFrame m #[(.long q1)] 2)) t := by
    intro t kt
    refine pre0 t ?_
    show Steps _ _ _ (s₁.setTop (mkF m 0 #[vJ q1, .second] [])) _
    refine XS.lloadN X0.here hx rfl (hb hby d18_0) rfl ?_
    show Steps _ _ _ (s₁.setTop (mkF m 1 #[vJ q1, .second] [iJ q1])) _
    refine X0.ldc2Long hx hown (mvT hZ (hw _ (List.mem_of_getElem? (i := 108) rfl))) (g := (mkF m 1 #[vJ q1, .second] [iJ q1])) rfl (hb hby d18_1) _ ?_
    show Steps _ _ _ (s₁.setTop (mkF m 4 #[vJ q1, .second] [iJ 268435456, iJ q1])) _
    refine XS.lcmp X0.here hx rfl (hb hby d18_4) rfl ?_
    exact kt
  by_cases hc1 : q1 < (268435456 : Int64)
  · have pre4 : ∀ t, Steps p.tables e below (s₁.setTop (mkF m 16 #[vJ q1, .second] [iI (lcmpW q1 (16777216 : Int64))])) t → Steps p.tables e below (s₁.setTop (entryFrame m #[(.long q1)] 2)) t := by
      intro t kt
      refine pre2 t ?_
      show Steps _ _ _ (s₁.setTop (mkF m 5 #[vJ q1, .second] [iI (lcmpW q1 (268435456 : Int64))])) _
      refine XS.ifYes X0.here hx rfl (pc0 := 5) (pc' := 11) rfl (hb hby d18_5) rfl ((if0 _ _).trans (tlt ((lw_lt _ _).mpr hc1)).1) (by decide) (by decide) ?_
      show Steps _ _ _ (s₁.setTop (mkF m 11 #[vJ q1, .second] [])) _
      refine XS.lloadN X0.here hx rfl (hb hby d18_11) rfl ?_
      show Steps _ _ _ (s₁.setTop (mkF m 12 #[vJ q1, .second] [iJ q1])) _
      refine X0.ldc2Long hx hown (mvT hZ (hw _ (List.mem_of_getElem? (i := 109) rfl))) (g := (mkF m 12 #[vJ q1, .second] [iJ q1])) rfl (hb hby d18_12) _ ?_
      show Steps _ _ _ (s₁.setTop (mkF m 15 #[vJ q1, .second] [iJ 16777216, iJ q1])) _
      refine XS.lcmp X0.here hx rfl (hb hby d18_15) rfl ?_
      exact kt
    by_cases hc3 : q1 < (16777216 : Int64)
    · have pre6 : ∀ t, Steps p.tables e below (s₁.setTop (mkF m 27 #[vJ q1, .second] [iI (lcmpW q1 (1048576 : Int64))])) t → Steps p.tables e below (s₁.setTop (entryFrame m #[(.long q1)] 2)) t := by
        intro t kt
        refine pre4 t ?_
        show Steps _ _ _ (s₁.setTop (mkF m 16 #[vJ q1, .second] [iI (lcmpW q1 (16777216 : Int64))])) _
        refine XS.ifYes X0.here hx rfl (pc0 := 16) (pc' := 22) rfl (hb hby d18_16) rfl ((if0 _ _).trans (tlt ((lw_lt _ _).mpr hc3)).1) (by decide) (by decide) ?_
        show Steps _ _ _ (s₁.setTop (mkF m 22 #[vJ q1, .second] [])) _
        refine XS.lloadN X0.here hx rfl (hb hby d18_22) rfl ?_
        show Steps _ _ _ (s₁.setTop (mkF m 23 #[vJ q1, .second] [iJ q1])) _
        refine X0.ldc2Long hx hown (mvT hZ (hw _ (List.mem_of_getElem? (i := 110) rfl))) (g := (mkF m 23 #[vJ q1, .second] [iJ q1])) rfl (hb hby d18_23) _ ?_
        show Steps _ _ _ (s₁.setTop (mkF m 26 #[vJ q1, .second] [iJ 1048576, iJ q1])) _
        refine XS.lcmp X0.here hx rfl (hb hby d18_26) rfl ?_
        exact kt
      by_cases hc5 : q1 < (1048576 : Int64)
      · have pre8 : ∀ t, Steps p.tables e below (s₁.setTop (mkF m 38 #[vJ q1, .second] [iI (lcmpW q1 (65536 : Int64))])) t → Steps p.tables e below (s₁.setTop (entryFrame m #[(.long q1)] 2)) t := by
          intro t kt
          refine pre6 t ?_
          show Steps _ _ _ (s₁.setTop (mkF m 27 #[vJ q1, .second] [iI (lcmpW q1 (1048576 : Int64))])) _
          refine XS.ifYes X0.here hx rfl (pc0 := 27) (pc' := 33) rfl (hb hby d18_27) rfl ((if0 _ _).trans (tlt ((lw_lt _ _).mpr hc5)).1) (by decide) (by decide) ?_
          show Steps _ _ _ (s₁.setTop (mkF m 33 #[vJ q1, .second] [])) _
          refine XS.lloadN X0.here hx rfl (hb hby d18_33) rfl ?_
          show Steps _ _ _ (s₁.setTop (mkF m 34 #[vJ q1, .second] [iJ q1])) _
          refine X0.ldc2Long hx hown (mvT hZ (hw _ (List.mem_of_getElem? (i := 111) rfl))) (g := (mkF m 34 #[vJ q1, .second] [iJ q1])) rfl (hb hby d18_34) _ ?_
          show Steps _ _ _ (s₁.setTop (mkF m 37 #[vJ q1, .second] [iJ 65536, iJ q1])) _
          refine XS.lcmp X0.here hx rfl (hb hby d18_37) rfl ?_
          exact kt
        by_cases hc7 : q1 < (65536 : Int64)
        · have pre10 : ∀ t, Steps p.tables e below (s₁.setTop (mkF m 48 #[vJ q1, .second] [iI (lcmpW q1 (4096 : Int64))])) t → Steps p.tables e below (s₁.setTop (entryFrame m #[(.long q1)] 2)) t := by
            intro t kt
            refine pre8 t ?_
            show Steps _ _ _ (s₁.setTop (mkF m 38 #[vJ q1, .second] [iI (lcmpW q1 (65536 : Int64))])) _
            refine XS.ifYes X0.here hx rfl (pc0 := 38) (pc' := 43) rfl (hb hby d18_38) rfl ((if0 _ _).trans (tlt ((lw_lt _ _).mpr hc7)).1) (by decide) (by decide) ?_
            show Steps _ _ _ (s₁.setTop (mkF m 43 #[vJ q1, .second] [])) _
            refine XS.lloadN X0.here hx rfl (hb hby d18_43) rfl ?_
            show Steps _ _ _ (s₁.setTop (mkF m 44 #[vJ q1, .second] [iJ q1])) _
            refine X0.ldc2Long hx hown (mvT hZ (hw _ (List.mem_of_getElem? (i := 112) rfl))) (g := (mkF m 44 #[vJ q1, .second] [iJ q1])) rfl (hb hby d18_44) _ ?_
            show Steps _ _ _ (s₁.setTop (mkF m 47 #[vJ q1, .second] [iJ 4096, iJ q1])) _
            refine XS.lcmp X0.here hx rfl (hb hby d18_47) rfl ?_
            exact kt
          by_cases hc9 : q1 < (4096 : Int64)
          · have pre12 : ∀ t, Steps p.tables e below (s₁.setTop (mkF m 58 #[vJ q1, .second] [iI (lcmpW q1 (256 : Int64))])) t → Steps p.tables e below (s₁.setTop (entryFrame m #[(.long q1)] 2)) t := by
              intro t kt
              refine pre10 t ?_
              show Steps _ _ _ (s₁.setTop (mkF m 48 #[vJ q1, .second] [iI (lcmpW q1 (4096 : Int64))])) _
              refine XS.ifYes X0.here hx rfl (pc0 := 48) (pc' := 53) rfl (hb hby d18_48) rfl ((if0 _ _).trans (tlt ((lw_lt _ _).mpr hc9)).1) (by decide) (by decide) ?_
              show Steps _ _ _ (s₁.setTop (mkF m 53 #[vJ q1, .second] [])) _
              refine XS.lloadN X0.here hx rfl (hb hby d18_53) rfl ?_
              show Steps _ _ _ (s₁.setTop (mkF m 54 #[vJ q1, .second] [iJ q1])) _
              refine X0.ldc2Long hx hown (mvT hZ (hw _ (List.mem_of_getElem? (i := 113) rfl))) (g := (mkF m 54 #[vJ q1, .second] [iJ q1])) rfl (hb hby d18_54) _ ?_
              show Steps _ _ _ (s₁.setTop (mkF m 57 #[vJ q1, .second] [iJ 256, iJ q1])) _
              refine XS.lcmp X0.here hx rfl (hb hby d18_57) rfl ?_
              exact kt
            by_cases hc11 : q1 < (256 : Int64)
            · have pre14 : ∀ t, Steps p.tables e below (s₁.setTop (mkF m 68 #[vJ q1, .second] [iI (lcmpW q1 (16 : Int64))])) t → Steps p.tables e below (s₁.setTop (entryFrame m #[(.long q1)] 2)) t := by
                intro t kt
                refine pre12 t ?_
                show Steps _ _ _ (s₁.setTop (mkF m 58 #[vJ q1, .second] [iI (lcmpW q1 (256 : Int64))])) _
                refine XS.ifYes X0.here hx rfl (pc0 := 58) (pc' := 63) rfl (hb hby d18_58) rfl ((if0 _ _).trans (tlt ((lw_lt _ _).mpr hc11)).1) (by decide) (by decide) ?_
                show Steps _ _ _ (s₁.setTop (mkF m 63 #[vJ q1, .second] [])) _
                refine XS.lloadN X0.here hx rfl (hb hby d18_63) rfl ?_
                show Steps _ _ _ (s₁.setTop (mkF m 64 #[vJ q1, .second] [iJ q1])) _
                refine X0.ldc2Long hx hown (mvT hZ (hw _ (List.mem_of_getElem? (i := 114) rfl))) (g := (mkF m 64 #[vJ q1, .second] [iJ q1])) rfl (hb hby d18_64) _ ?_
                show Steps _ _ _ (s₁.setTop (mkF m 67 #[vJ q1, .second] [iJ 16, iJ q1])) _
                refine XS.lcmp X0.here hx rfl (hb hby d18_67) rfl ?_
                exact kt
              by_cases hc13 : q1 < (16 : Int64)
              · obtain ⟨fs, hr, hrun, hended, hW, hsame⟩ := X0.leave (v := some (.int (1 : Int32))) (fun h => by rw [Bd.returns] at h; cases h)
                refine ⟨_, _, pre14 _ ?_, hrun, hended, _, _, rfl, ?_, ⟨_, rfl⟩, hW, hsame.mono (by decide) (by decide)⟩
                · show Steps _ _ _ (s₁.setTop (mkF m 68 #[vJ q1, .second] [iI (lcmpW q1 (16 : Int64))])) _
                  refine XS.ifYes X0.here hx rfl (pc0 := 68) (pc' := 73) rfl (hb hby d18_68) rfl ((if0 _ _).trans (tlt ((lw_lt _ _).mpr hc13)).1) (by decide) (by decide) ?_
                  show Steps _ _ _ (s₁.setTop (mkF m 73 #[vJ q1, .second] [])) _
                  refine XS.iconst X0.here hx rfl (hb hby d18_73) ?_
                  show Steps _ _ _ (s₁.setTop (mkF m 74 #[vJ q1, .second] [iI 1])) _
                  exact retI X0 hx Bd.returns (hb hby d18_74) hr
                · show Q18 Z q1 h0 _ s₁.heap _
                  rw [e0]
                  exact ⟨by first | rfl | (simp only [own_hex, if_pos hc1, if_pos hc3, if_pos hc5, if_pos hc7, if_pos hc9, if_pos hc11, if_pos hc13]; done) | (simp only [own_hex, if_pos hc1, if_pos hc3, if_pos hc5, if_pos hc7, if_pos hc9, if_pos hc11, if_pos hc13]; rfl) | (simp only [own_hex, if_pos hc1, if_pos hc3, if_pos hc5, if_pos hc7, if_pos hc9, if_pos hc11, if_pos hc13, nar] ; first | rfl | (simp; done) | decide), rfl, rfl⟩
              · obtain ⟨fs, hr, hrun, hended, hW, hsame⟩ := X0.leave (v := some (.int (2 : Int32))) (fun h => by rw [Bd.returns] at h; cases h)
                refine ⟨_, _, pre14 _ ?_, hrun, hended, _, _, rfl, ?_, ⟨_, rfl⟩, hW, hsame.mono (by decide) (by decide)⟩
                · show Steps _ _ _ (s₁.setTop (mkF m 68 #[vJ q1, .second] [iI (lcmpW q1 (16 : Int64))])) _
                  refine XS.ifNo X0.here hx rfl (hb hby d18_68) rfl ((if0 _ _).trans (flt (mt (lw_lt _ _).mp hc13)).1) ?_
                  show Steps _ _ _ (s₁.setTop (mkF m 71 #[vJ q1, .second] [])) _
                  refine XS.iconst X0.here hx rfl (hb hby d18_71) ?_
                  show Steps _ _ _ (s₁.setTop (mkF m 72 #[vJ q1, .second] [iI 2])) _
                  exact retI X0 hx Bd.returns (hb hby d18_72) hr
                · show Q18 Z q1 h0 _ s₁.heap _
                  rw [e0]
                  exact ⟨by first | rfl | (simp only [own_hex, if_pos hc1, if_pos hc3, if_pos hc5, if_pos hc7, if_pos hc9, if_pos hc11, if_neg hc13]; done) | (simp only [own_hex, if_pos hc1, if_pos hc3, if_pos hc5, if_pos hc7, if_pos hc9, if_pos hc11, if_neg hc13]; rfl) | (simp only [own_hex, if_pos hc1, if_pos hc3, if_pos hc5, if_pos hc7, if_pos hc9, if_pos hc11, if_neg hc13, nar] ; first | rfl | (simp; done) | decide), rfl, rfl⟩
            · obtain ⟨fs, hr, hrun, hended, hW, hsame⟩ := X0.leave (v := some (.int (3 : Int32))) (fun h => by rw [Bd.returns] at h; cases h)
              refine ⟨_, _, pre12 _ ?_, hrun, hended, _, _, rfl, ?_, ⟨_, rfl⟩, hW, hsame.mono (by decide) (by decide)⟩
              · show Steps _ _ _ (s₁.setTop (mkF m 58 #[vJ q1, .second] [iI (lcmpW q1 (256 : Int64))])) _
                refine XS.ifNo X0.here hx rfl (hb hby d18_58) rfl ((if0 _ _).trans (flt (mt (lw_lt _ _).mp hc11)).1) ?_
                show Steps _ _ _ (s₁.setTop (mkF m 61 #[vJ q1, .second] [])) _
                refine XS.iconst X0.here hx rfl (hb hby d18_61) ?_
                show Steps _ _ _ (s₁.setTop (mkF m 62 #[vJ q1, .second] [iI 3])) _
                exact retI X0 hx Bd.returns (hb hby d18_62) hr
              · show Q18 Z q1 h0 _ s₁.heap _
                rw [e0]
                exact ⟨by first | rfl | (simp only [own_hex, if_pos hc1, if_pos hc3, if_pos hc5, if_pos hc7, if_pos hc9, if_neg hc11]; done) | (simp only [own_hex, if_pos hc1, if_pos hc3, if_pos hc5, if_pos hc7, if_pos hc9, if_neg hc11]; rfl) | (simp only [own_hex, if_pos hc1, if_pos hc3, if_pos hc5, if_pos hc7, if_pos hc9, if_neg hc11, nar] ; first | rfl | (simp; done) | decide), rfl, rfl⟩
          · obtain ⟨fs, hr, hrun, hended, hW, hsame⟩ := X0.leave (v := some (.int (4 : Int32))) (fun h => by rw [Bd.returns] at h; cases h)
            refine ⟨_, _, pre10 _ ?_, hrun, hended, _, _, rfl, ?_, ⟨_, rfl⟩, hW, hsame.mono (by decide) (by decide)⟩
            · show Steps _ _ _ (s₁.setTop (mkF m 48 #[vJ q1, .second] [iI (lcmpW q1 (4096 : Int64))])) _
              refine XS.ifNo X0.here hx rfl (hb hby d18_48) rfl ((if0 _ _).trans (flt (mt (lw_lt _ _).mp hc9)).1) ?_
              show Steps _ _ _ (s₁.setTop (mkF m 51 #[vJ q1, .second] [])) _
              refine XS.iconst X0.here hx rfl (hb hby d18_51) ?_
              show Steps _ _ _ (s₁.setTop (mkF m 52 #[vJ q1, .second] [iI 4])) _
              exact retI X0 hx Bd.returns (hb hby d18_52) hr
            · show Q18 Z q1 h0 _ s₁.heap _
              rw [e0]
              exact ⟨by first | rfl | (simp only [own_hex, if_pos hc1, if_pos hc3, if_pos hc5, if_pos hc7, if_neg hc9]; done) | (simp only [own_hex, if_pos hc1, if_pos hc3, if_pos hc5, if_pos hc7, if_neg hc9]; rfl) | (simp only [own_hex, if_pos hc1, if_pos hc3, if_pos hc5, if_pos hc7, if_neg hc9, nar] ; first | rfl | (simp; done) | decide), rfl, rfl⟩
        · obtain ⟨fs, hr, hrun, hended, hW, hsame⟩ := X0.leave (v := some (.int (5 : Int32))) (fun h => by rw [Bd.returns] at h; cases h)
          refine ⟨_, _, pre8 _ ?_, hrun, hended, _, _, rfl, ?_, ⟨_, rfl⟩, hW, hsame.mono (by decide) (by decide)⟩
          · show Steps _ _ _ (s₁.setTop (mkF m 38 #[vJ q1, .second] [iI (lcmpW q1 (65536 : Int64))])) _
            refine XS.ifNo X0.here hx rfl (hb hby d18_38) rfl ((if0 _ _).trans (flt (mt (lw_lt _ _).mp hc7)).1) ?_
            show Steps _ _ _ (s₁.setTop (mkF m 41 #[vJ q1, .second] [])) _
            refine XS.iconst X0.here hx rfl (hb hby d18_41) ?_
            show Steps _ _ _ (s₁.setTop (mkF m 42 #[vJ q1, .second] [iI 5])) _
            exact retI X0 hx Bd.returns (hb hby d18_42) hr
          · show Q18 Z q1 h0 _ s₁.heap _
            rw [e0]
            exact ⟨by first | rfl | (simp only [own_hex, if_pos hc1, if_pos hc3, if_pos hc5, if_neg hc7]; done) | (simp only [own_hex, if_pos hc1, if_pos hc3, if_pos hc5, if_neg hc7]; rfl) | (simp only [own_hex, if_pos hc1, if_pos hc3, if_pos hc5, if_neg hc7, nar] ; first | rfl | (simp; done) | decide), rfl, rfl⟩
      · obtain ⟨fs, hr, hrun, hended, hW, hsame⟩ := X0.leave (v := some (.int (6 : Int32))) (fun h => by rw [Bd.returns] at h; cases h)
        refine ⟨_, _, pre6 _ ?_, hrun, hended, _, _, rfl, ?_, ⟨_, rfl⟩, hW, hsame.mono (by decide) (by decide)⟩
        · show Steps _ _ _ (s₁.setTop (mkF m 27 #[vJ q1, .second] [iI (lcmpW q1 (1048576 : Int64))])) _
          refine XS.ifNo X0.here hx rfl (hb hby d18_27) rfl ((if0 _ _).trans (flt (mt (lw_lt _ _).mp hc5)).1) ?_
          show Steps _ _ _ (s₁.setTop (mkF m 30 #[vJ q1, .second] [])) _
          refine XS.bipush X0.here hx rfl (hb hby d18_30) ?_
          show Steps _ _ _ (s₁.setTop (mkF m 32 #[vJ q1, .second] [iI 6])) _
          exact retI X0 hx Bd.returns (hb hby d18_32) hr
        · show Q18 Z q1 h0 _ s₁.heap _
          rw [e0]
          exact ⟨by first | rfl | (simp only [own_hex, if_pos hc1, if_pos hc3, if_neg hc5]; done) | (simp only [own_hex, if_pos hc1, if_pos hc3, if_neg hc5]; rfl) | (simp only [own_hex, if_pos hc1, if_pos hc3, if_neg hc5, nar] ; first | rfl | (simp; done) | decide), rfl, rfl⟩
    · obtain ⟨fs, hr, hrun, hended, hW, hsame⟩ := X0.leave (v := some (.int (7 : Int32))) (fun h => by rw [Bd.returns] at h; cases h)
      refine ⟨_, _, pre4 _ ?_, hrun, hended, _, _, rfl, ?_, ⟨_, rfl⟩, hW, hsame.mono (by decide) (by decide)⟩
      · show Steps _ _ _ (s₁.setTop (mkF m 16 #[vJ q1, .second] [iI (lcmpW q1 (16777216 : Int64))])) _
        refine XS.ifNo X0.here hx rfl (hb hby d18_16) rfl ((if0 _ _).trans (flt (mt (lw_lt _ _).mp hc3)).1) ?_
        show Steps _ _ _ (s₁.setTop (mkF m 19 #[vJ q1, .second] [])) _
        refine XS.bipush X0.here hx rfl (hb hby d18_19) ?_
        show Steps _ _ _ (s₁.setTop (mkF m 21 #[vJ q1, .second] [iI 7])) _
        exact retI X0 hx Bd.returns (hb hby d18_21) hr
      · show Q18 Z q1 h0 _ s₁.heap _
        rw [e0]
        exact ⟨by first | rfl | (simp only [own_hex, if_pos hc1, if_neg hc3]; done) | (simp only [own_hex, if_pos hc1, if_neg hc3]; rfl) | (simp only [own_hex, if_pos hc1, if_neg hc3, nar] ; first | rfl | (simp; done) | decide), rfl, rfl⟩
  · obtain ⟨fs, hr, hrun, hended, hW, hsame⟩ := X0.leave (v := some (.int (8 : Int32))) (fun h => by rw [Bd.returns] at h; cases h)
    refine ⟨_, _, pre2 _ ?_, hrun, hended, _, _, rfl, ?_, ⟨_, rfl⟩, hW, hsame.mono (by decide) (by decide)⟩
    · show Steps _ _ _ (s₁.setTop (mkF m 5 #[vJ q1, .second] [iI (lcmpW q1 (268435456 : Int64))])) _
      refine XS.ifNo X0.here hx rfl (hb hby d18_5) rfl ((if0 _ _).trans (flt (mt (lw_lt _ _).mp hc1)).1) ?_
      show Steps _ _ _ (s₁.setTop (mkF m 8 #[vJ q1, .second] [])) _
      refine XS.bipush X0.here hx rfl (hb hby d18_8) ?_
      show Steps _ _ _ (s₁.setTop (mkF m 10 #[vJ q1, .second] [iI 8])) _
      exact retI X0 hx Bd.returns (hb hby d18_10) hr
    · show Q18 Z q1 h0 _ s₁.heap _
      rw [e0]
      exact ⟨by first | rfl | (simp only [own_hex, if_neg hc1]; done) | (simp only [own_hex, if_neg hc1]; rfl) | (simp only [own_hex, if_neg hc1, nar] ; first | rfl | (simp; done) | decide), rfl, rfl⟩
def own_QT (Z : State) (nz d0_ d1_ d2_ d3_ d4_ d5_ d6_ d7_ : Int32) (h0 : Heap) (n0 : Nat) (v : Option Value) (h : Heap) (L : List Loc) : Prop := ∃ (o d : Addr) (kb : ClassId), v = some (.ref o) ∧ Fr n0 L ∧ Keep h0 h [] ∧ Exa Z h o "java/lang/String" ∧ Fld Z h o "java/lang/String" "coder" "B" (.int (0 : Int32)) ∧ Fld Z h o "java/lang/String" "value" "[B" (.ref d) ∧ Arv Z h d kb .byte nz [(.int (nar .byte (own_fd d0_).toInt8.toInt32)), (.int (nar .byte (own_fd d1_).toInt8.toInt32)), (.int (nar .byte (own_fd d2_).toInt8.toInt32)), (.int (nar .byte (own_fd d3_).toInt8.toInt32)), (.int (nar .byte (own_fd d4_).toInt8.toInt32)), (.int (nar .byte (own_fd d5_).toInt8.toInt32)), (.int (nar .byte (own_fd d6_).toInt8.toInt32)), (.int (nar .byte (own_fd d7_).toInt8.toInt32))] (.int (0 : Int32))
theorem own_cut {Z : State} {h : Heap} {a : Addr} {k : ClassId} {z : Int32} {vs vs' : List Value} {dv : Value} (F : Arv Z h a k .byte z vs dv) (q : ∀ i, i < z.toNatClampNeg → vs'.getD i dv = vs.getD i dv) : Arv Z h a k .byte z vs' dv := by
  obtain ⟨c, A, r1, r2, r3, H, G⟩ := F
  exact ⟨c, A, r1, r2, r3, fun i hi => by rw [q i (r2 ▸ hi)]; exact H i hi, fun i hi => by rw [q i (r2 ▸ hi)]; exact G i hi⟩
theorem own_fdl (d : Int32) : ¬ (255 : Int32) < own_fd d := by
  have e5 : (255 : Int32).toInt = 255 := rfl
  have e0 : (0 : Int32).toInt = 0 := rfl
  have e1 : (16 : Int32).toInt = 16 := rfl
  have e2 : (10 : Int32).toInt = 10 := rfl
  have e3 : (48 : Int32).toInt = 48 := rfl
  have e4 : (87 : Int32).toInt = 87 := rfl
  have f1 := c_iadd 48 d
  have f2 := c_iadd 87 d
  have f3 := c_i2c ((48 : Int32) + d)
  have f4 := c_i2c ((87 : Int32) + d)
  have f5 := c_i2c (((48 : Int32) + d).toUInt32.toUInt16.toUInt32.toInt32)
  have f6 := c_i2c (((87 : Int32) + d).toUInt32.toUInt16.toUInt32.toInt32)
  have r1 := rng32 ((48 : Int32) + d)
  have r2 := rng32 ((87 : Int32) + d)
  rw [Int32.lt_iff_toInt_lt, e5]
  unfold own_fd
  simp only [nar, Int32.lt_iff_toInt_lt, e0, e1, e2]
  rw [e3] at f1; rw [e4] at f2
  repeat' split
  all_goals first | decide | omega

theorem own_is1 {nz : Int32} (h : ¬ (1 : Int32) < nz) (h' : (0 : Int32) < nz) : nz = 1 := by
  have e1 : (1 : Int32).toInt = 1 := rfl
  have e2 : (0 : Int32).toInt = 0 := rfl
  rw [Int32.lt_iff_toInt_lt] at h h'
  apply Int32.toInt_inj.mp; omega
theorem own_is2 {nz : Int32} (h : ¬ (2 : Int32) < nz) (h' : (1 : Int32) < nz) : nz = 2 := by
  have e1 : (2 : Int32).toInt = 2 := rfl
  have e2 : (1 : Int32).toInt = 1 := rfl
  rw [Int32.lt_iff_toInt_lt] at h h'
  apply Int32.toInt_inj.mp; omega
theorem own_is3 {nz : Int32} (h : ¬ (3 : Int32) < nz) (h' : (2 : Int32) < nz) : nz = 3 := by
  have e1 : (3 : Int32).toInt = 3 := rfl
  have e2 : (2 : Int32).toInt = 2 := rfl
  rw [Int32.lt_iff_toInt_lt] at h h'
  apply Int32.toInt_inj.mp; omega
theorem own_is4 {nz : Int32} (h : ¬ (4 : Int32) < nz) (h' : (3 : Int32) < nz) : nz = 4 := by
  have e1 : (4 : Int32).toInt = 4 := rfl
  have e2 : (3 : Int32).toInt = 3 := rfl
  rw [Int32.lt_iff_toInt_lt] at h h'
  apply Int32.toInt_inj.mp; omega
theorem own_is5 {nz : Int32} (h : ¬ (5 : Int32) < nz) (h' : (4 : Int32) < nz) : nz = 5 := by
  have e1 : (5 : Int32).toInt = 5 := rfl
  have e2 : (4 : Int32).toInt = 4 := rfl
  rw [Int32.lt_iff_toInt_lt] at h h'
  apply Int32.toInt_inj.mp; omega
theorem own_is6 {nz : Int32} (h : ¬ (6 : Int32) < nz) (h' : (5 : Int32) < nz) : nz = 6 := by
  have e1 : (6 : Int32).toInt = 6 := rfl
  have e2 : (5 : Int32).toInt = 5 := rfl
  rw [Int32.lt_iff_toInt_lt] at h h'
  apply Int32.toInt_inj.mp; omega
theorem own_is7 {nz : Int32} (h : ¬ (7 : Int32) < nz) (h' : (6 : Int32) < nz) : nz = 7 := by
  have e1 : (7 : Int32).toInt = 7 := rfl
  have e2 : (6 : Int32).toInt = 6 := rfl
  rw [Int32.lt_iff_toInt_lt] at h h'
  apply Int32.toInt_inj.mp; omega
theorem own_is8 {nz : Int32} (h : ¬ (8 : Int32) < nz) (h' : (7 : Int32) < nz) : nz = 8 := by
  have e1 : (8 : Int32).toInt = 8 := rfl
  have e2 : (7 : Int32).toInt = 7 := rfl
  rw [Int32.lt_iff_toInt_lt] at h h'
  apply Int32.toInt_inj.mp; omega
theorem own_n8 {nz : Int32} (h0 : ¬ nz < 0) (h8 : nz.toNatClampNeg ≤ 8) : ¬ (8 : Int32) < nz := by
  have e0 : (0 : Int32).toInt = 0 := rfl
  have e8 : (8 : Int32).toInt = 8 := rfl
  rw [Int32.lt_iff_toInt_lt] at *
  rw [e0] at h0
  rw [e8]
  simp only [Int32.toNatClampNeg] at h8
  omega
theorem d1_115 : decode prog_29_method_3_code 115 = .ok (.new 40, 3) := by decide +kernel
theorem d1_118 : decode prog_29_method_3_code 118 = .ok (.dup, 1) := by decide +kernel
theorem d1_119 : decode prog_29_method_3_code 119 = .ok (.iload_n 1, 1) := by decide +kernel
theorem d1_120 : decode prog_29_method_3_code 120 = .ok (.invokespecial 42, 3) := by decide +kernel
theorem d1_123 : decode prog_29_method_3_code 123 = .ok (.astore_n 3, 1) := by decide +kernel
theorem d1_124 : decode prog_29_method_3_code 124 = .ok (.aload_n 2, 1) := by decide +kernel
theorem d1_125 : decode prog_29_method_3_code 125 = .ok (.astore 4, 2) := by decide +kernel
theorem d1_127 : decode prog_29_method_3_code 127 = .ok (.aload 4, 2) := by decide +kernel
theorem d1_129 : decode prog_29_method_3_code 129 = .ok (.arraylength, 1) := by decide +kernel
theorem d1_130 : decode prog_29_method_3_code 130 = .ok (.istore 5, 2) := by decide +kernel
theorem d1_132 : decode prog_29_method_3_code 132 = .ok (.iconst 0, 1) := by decide +kernel
theorem d1_133 : decode prog_29_method_3_code 133 = .ok (.istore 6, 2) := by decide +kernel
theorem d1_135 : decode prog_29_method_3_code 135 = .ok (.iload 6, 2) := by decide +kernel
theorem d1_137 : decode prog_29_method_3_code 137 = .ok (.iload 5, 2) := by decide +kernel
theorem d1_139 : decode prog_29_method_3_code 139 = .ok (.if_icmp .ge 28, 3) := by decide +kernel
theorem d1_142 : decode prog_29_method_3_code 142 = .ok (.aload 4, 2) := by decide +kernel
theorem d1_144 : decode prog_29_method_3_code 144 = .ok (.iload 6, 2) := by decide +kernel
theorem d1_146 : decode prog_29_method_3_code 146 = .ok (.iaload, 1) := by decide +kernel
theorem d1_147 : decode prog_29_method_3_code 147 = .ok (.istore 7, 2) := by decide +kernel
theorem d1_149 : decode prog_29_method_3_code 149 = .ok (.aload_n 3, 1) := by decide +kernel
theorem d1_150 : decode prog_29_method_3_code 150 = .ok (.iload 7, 2) := by decide +kernel
theorem d1_152 : decode prog_29_method_3_code 152 = .ok (.bipush 16, 2) := by decide +kernel
theorem d1_154 : decode prog_29_method_3_code 154 = .ok (.invokestatic 45, 3) := by decide +kernel
theorem d1_157 : decode prog_29_method_3_code 157 = .ok (.invokevirtual 51, 3) := by decide +kernel
theorem d1_160 : decode prog_29_method_3_code 160 = .ok (.pop, 1) := by decide +kernel
theorem d1_161 : decode prog_29_method_3_code 161 = .ok (.iinc 6 1, 3) := by decide +kernel
theorem d1_164 : decode prog_29_method_3_code 164 = .ok (.goto (-29), 3) := by decide +kernel
theorem d1_167 : decode prog_29_method_3_code 167 = .ok (.aload_n 3, 1) := by decide +kernel
theorem d1_168 : decode prog_29_method_3_code 168 = .ok (.invokevirtual 55, 3) := by decide +kernel
theorem d1_171 : decode prog_29_method_3_code 171 = .ok (.areturn, 1) := by decide +kernel
set_option maxRecDepth 65536 in
set_option maxHeartbeats 40000000 in
theorem own_turn8 {p : Program} {l : Launch} {e : Env} {s : State} {m : MethodId} {below : List Frame} {meth : Method} {c : Code} {T0 : State} {locs : List Loc} {Z : State} {a0 : Array Value} {h0 hT : Heap} {n0 : Nat} {a1 b2 : Addr} {k2 : ClassId} {nz : Int32} {d0_ : Int32} {d1_ : Int32} {d2_ : Int32} {d3_ : Int32} {d4_ : Int32} {d5_ : Int32} {d6_ : Int32} {d7_ : Int32} {cs : Int32} {s3 b4 : Addr} {k4 : ClassId}
    (X0 : Stand p l e ({ frames := 5, cells := 5, slots := 32, locals := 71 } : Room) s m #[(.ref a1)] below meth c T0 locs 3 20) (hx : p.tables.exec = Jvm.exec) (hZ : Z.Warmed39 s.vm) (hw : ∀ d ∈ tables_1, d.before a0 Z = true) (hby : c.code = prog_29_method_3_code) (hml : c.maxLocals = 8) (hown : s.vm.findClass "com/example/cloud_to_core/cloudtocore/model/SupportedFeatures" = some m.cls) (hret : meth.sig.returnType = some (.object "java/lang/String")) (hlocks : meth.locks = false) (e0 : T0.heap = hT) (Kt0 : Keep h0 hT []) (N0 : Fr n0 locs) (Z0 : n0 ≤ h0.size) (O0 : Old Z n0 h0) (V_2 : Arv Z hT b2 k2 .int nz [(.int d0_), (.int d1_), (.int d2_), (.int d3_), (.int d4_), (.int d5_), (.int d6_), (.int d7_)] (.int (0 : Int32))) (g_b2 : n0 ≤ b2) (sz_b2 : h0.size ≤ b2) (E_3 : Exa Z hT s3 "java/lang/StringBuilder") (F_value : Fld Z hT s3 "java/lang/AbstractStringBuilder" "value" "[B" (.ref b4)) (F_coder : Fld Z hT s3 "java/lang/AbstractStringBuilder" "coder" "B" (.int (0 : Int32))) (F_count : Fld Z hT s3 "java/lang/AbstractStringBuilder" "count" "I" (.int (8 : Int32))) (V_4 : Arv Z hT b4 k4 .byte nz [(.int (nar .byte (own_fd d0_).toInt8.toInt32)), (.int (nar .byte (own_fd d1_).toInt8.toInt32)), (.int (nar .byte (own_fd d2_).toInt8.toInt32)), (.int (nar .byte (own_fd d3_).toInt8.toInt32)), (.int (nar .byte (own_fd d4_).toInt8.toInt32)), (.int (nar .byte (own_fd d5_).toInt8.toInt32)), (.int (nar .byte (own_fd d6_).toInt8.toInt32)), (.int (nar .byte (own_fd d7_).toInt8.toInt32))] (.int (0 : Int32))) (G_4 : Exa Z hT b4 "[B") (g_s3 : n0 ≤ s3) (sz_s3 : h0.size ≤ s3) (g_b4 : n0 ≤ b4) (sz_b4 : h0.size ≤ b4) (ne_s3_b4 : s3 ≠ b4) (ne_s3_b2 : s3 ≠ b2) (ne_b4_b2 : b4 ≠ b2) (hn0 : ¬ nz < 0) (hn8 : nz.toNatClampNeg ≤ 8) (hn1 : (0 : Int32) < nz) (hlo : (7 : Int32) < nz) (S_CS : Sta Z Z.heap "java/lang/String" "COMPACT_STRINGS" "Z" (.int cs)) (h_cs : ¬ cs = (0 : Int32)) :
    ∃ s₂ o, Steps p.tables e below (T0.setTop (mkF m 135 #[vR a1, vI nz, vR b2, vR s3, vR b2, vI nz, vI 8, vI d7_] [])) s₂ ∧ s₂.status = .running ∧ Ended s₂ below o ∧ ∃ v L, o = .returned v ∧ own_QT Z nz d0_ d1_ d2_ d3_ d4_ d5_ d6_ d7_ h0 n0 v s₂.heap L ∧ FrameEnd s o s₂ L ({ frames := 5, cells := 5, slots := 32, locals := 71 } : Room).cells ({ frames := 5, cells := 5, slots := 32, locals := 71 } : Room).slots := by
  have qz : nz = (8 : Int32) := own_is8 (own_n8 hn0 hn8) hlo
  have pre122 : ∀ t, Steps p.tables e below (T0.setTop (mkF m 167 #[vR a1, vI nz, vR b2, vR s3, vR b2, vI nz, vI 8, vI d7_] [])) t → Steps p.tables e below (T0.setTop (mkF m 135 #[vR a1, vI nz, vR b2, vR s3, vR b2, vI nz, vI 8, vI d7_] [])) t := by
    intro t kt
    show Steps _ _ _ (T0.setTop (mkF m 135 #[vR a1, vI nz, vR b2, vR s3, vR b2, vI nz, vI 8, vI d7_] [])) _
    refine XS.iload X0.here hx rfl (hb hby d1_135) rfl ?_
    show Steps _ _ _ (T0.setTop (mkF m 137 #[vR a1, vI nz, vR b2, vR s3, vR b2, vI nz, vI 8, vI d7_] [iI 8])) _
    refine XS.iload X0.here hx rfl (hb hby d1_137) rfl ?_
    show Steps _ _ _ (T0.setTop (mkF m 139 #[vR a1, vI nz, vR b2, vR s3, vR b2, vI nz, vI 8, vI d7_] [iI nz, iI 8])) _
    refine XS.icmpYes X0.here hx rfl (pc0 := 139) (pc' := 167) rfl (hb hby d1_139) rfl (flt (own_n8 hn0 hn8)).2.1 (by decide) (by decide) ?_
    exact kt
  rcases qz with rfl
  · have Oh124 := O0.keep Kt0 all0
    obtain ⟨cq123, kq123, q123a, q123b, q123c⟩ := isOf hZ e0 E_3
    obtain ⟨_, _, ⟨T123, L123, k123, n123⟩, -, X123, ⟨Lc123, hQ123, l123, y123, z123⟩, st123⟩ := X0.virtualBack hx (y := (⟨"java/lang/StringBuilder", "toString", "()Ljava/lang/String;"⟩ : MethodName)) (z := (⟨"java/lang/StringBuilder", "toString", "()Ljava/lang/String;"⟩ : MethodName)) hown (mvT hZ (hw _ (List.mem_of_getElem? (i := 58) rfl))) (mvT hZ (hw _ (List.mem_of_getElem? (i := 59) rfl))) (notFace_of_selects (args := #[]) (mvT hZ (hw _ (List.mem_of_getElem? (i := 61) rfl)))) (mvT hZ (hw _ (List.mem_of_getElem? (i := 61) rfl))) (mvT hZ (hw _ (List.mem_of_getElem? (i := 60) rfl))) (by decide) (backOf (W := 0) (rm11 l Z a0 hw [] s3 b4 k4 (8 : Int32) (nar .byte (own_fd d0_).toInt8.toInt32) (nar .byte (own_fd d1_).toInt8.toInt32) (nar .byte (own_fd d2_).toInt8.toInt32) (nar .byte (own_fd d3_).toInt8.toInt32) (nar .byte (own_fd d4_).toInt8.toInt32) (nar .byte (own_fd d5_).toInt8.toInt32) (nar .byte (own_fd d6_).toInt8.toInt32) (nar .byte (own_fd d7_).toInt8.toInt32) cs hT n0 (Nat.le_trans Z0 Kt0.1) Oh124 E_3 F_value F_coder F_count V_4 G_4 hn0 hn8 S_CS h_cs) hZ (hw _ (List.mem_of_getElem? (i := 62) rfl)) (hw _ (List.mem_of_getElem? (i := 8) rfl)) (by decide) (by decide)) q123a q123c (g := (mkF m 168 #[vR a1, vI 8, vR b2, vR s3, vR b2, vI 8, vI 8, vI d7_] [iR s3])) rfl (by rw [hml]; rfl) (Steps.refl _) (argsL := []) (rest := []) (lenOf pd_15 rfl) rfl (by show 2 * 0 + _ ≤ _; exact Nat.le_of_eq rfl) (hb hby d1_168) (fun _ _ => ⟨rfl, e0, (by decide : 3 + 2 ≤ _), (by decide : 20 + 12 ≤ _)⟩)
    dsimp only [Pt.U, Pt.locs, Pt.cells, Pt.slots] at X123 l123 y123 z123 st123 hQ123
    subst l123 y123 z123
    obtain ⟨o123, d123, rfl, N123q, K123q, E123q, C123q, F123q, V123q⟩ := hQ123
    have N123 := Fr.app N0 N123q
    have K123 : Keep h0 T123.heap [] := Keep.trans Kt0 K123q all0
    obtain ⟨fs, hr, hrun, hended, hW, hsame⟩ := X123.leave (v := some (.ref o123)) (fun h => by rw [hret] at h; cases h)
    refine ⟨_, _, pre122 _ ?_, hrun, hended, _, _, rfl, ?_, ⟨_, rfl⟩, hW, hsame.mono (by decide) (by decide)⟩
    · show Steps _ _ _ (T0.setTop (mkF m 167 #[vR a1, vI 8, vR b2, vR s3, vR b2, vI 8, vI 8, vI d7_] [])) _
      refine XS.aloadN X0.here hx rfl (hb hby d1_167) rfl rfl ?_
      show Steps _ _ _ (T0.setTop (mkF m 168 #[vR a1, vI 8, vR b2, vR s3, vR b2, vI 8, vI 8, vI d7_] [iR s3])) _
      refine st123.trans ?_
      show Steps _ _ _ (T123.setTop (mkF m 171 #[vR a1, vI 8, vR b2, vR s3, vR b2, vI 8, vI 8, vI d7_] [iR o123])) _
      jvm_step X123.here [X123.here.top, hx, (hb hby d1_171), X123.method', hret, Value.isRef, FieldType.isReference]
      first | (intro acts; rw [hr _ acts rfl rfl rfl]) | rw [hr _ _ rfl rfl rfl]
      exact Steps.refl _
    · show own_QT Z (8 : Int32) d0_ d1_ d2_ d3_ d4_ d5_ d6_ d7_ h0 n0 _ T123.heap _
      exact ⟨_, _, _, rfl, N123, K123, E123q, C123q, F123q, (own_cut V123q (fun i hi => by match i, hi with | 0, _ => rfl | 1, _ => rfl | 2, _ => rfl | 3, _ => rfl | 4, _ => rfl | 5, _ => rfl | 6, _ => rfl | 7, _ => rfl | _ + 8, h => exact absurd h (by simp [Int32.toNatClampNeg])))⟩
set_option maxRecDepth 65536 in
set_option maxHeartbeats 40000000 in
theorem own_turn7 {p : Program} {l : Launch} {e : Env} {s : State} {m : MethodId} {below : List Frame} {meth : Method} {c : Code} {T0 : State} {locs : List Loc} {Z : State} {a0 : Array Value} {h0 hT : Heap} {n0 : Nat} {a1 b2 : Addr} {k2 : ClassId} {nz : Int32} {d0_ : Int32} {d1_ : Int32} {d2_ : Int32} {d3_ : Int32} {d4_ : Int32} {d5_ : Int32} {d6_ : Int32} {d7_ : Int32} {cs : Int32} {s3 b4 : Addr} {k4 : ClassId}
    (X0 : Stand p l e ({ frames := 5, cells := 5, slots := 32, locals := 71 } : Room) s m #[(.ref a1)] below meth c T0 locs 3 20) (hx : p.tables.exec = Jvm.exec) (hZ : Z.Warmed39 s.vm) (hw : ∀ d ∈ tables_1, d.before a0 Z = true) (hby : c.code = prog_29_method_3_code) (hml : c.maxLocals = 8) (hown : s.vm.findClass "com/example/cloud_to_core/cloudtocore/model/SupportedFeatures" = some m.cls) (hret : meth.sig.returnType = some (.object "java/lang/String")) (hlocks : meth.locks = false) (e0 : T0.heap = hT) (Kt0 : Keep h0 hT []) (N0 : Fr n0 locs) (Z0 : n0 ≤ h0.size) (O0 : Old Z n0 h0) (V_2 : Arv Z hT b2 k2 .int nz [(.int d0_), (.int d1_), (.int d2_), (.int d3_), (.int d4_), (.int d5_), (.int d6_), (.int d7_)] (.int (0 : Int32))) (g_b2 : n0 ≤ b2) (sz_b2 : h0.size ≤ b2) (E_3 : Exa Z hT s3 "java/lang/StringBuilder") (F_value : Fld Z hT s3 "java/lang/AbstractStringBuilder" "value" "[B" (.ref b4)) (F_coder : Fld Z hT s3 "java/lang/AbstractStringBuilder" "coder" "B" (.int (0 : Int32))) (F_count : Fld Z hT s3 "java/lang/AbstractStringBuilder" "count" "I" (.int (7 : Int32))) (V_4 : Arv Z hT b4 k4 .byte nz [(.int (nar .byte (own_fd d0_).toInt8.toInt32)), (.int (nar .byte (own_fd d1_).toInt8.toInt32)), (.int (nar .byte (own_fd d2_).toInt8.toInt32)), (.int (nar .byte (own_fd d3_).toInt8.toInt32)), (.int (nar .byte (own_fd d4_).toInt8.toInt32)), (.int (nar .byte (own_fd d5_).toInt8.toInt32)), (.int (nar .byte (own_fd d6_).toInt8.toInt32)), (.int (0 : Int32))] (.int (0 : Int32))) (G_4 : Exa Z hT b4 "[B") (g_s3 : n0 ≤ s3) (sz_s3 : h0.size ≤ s3) (g_b4 : n0 ≤ b4) (sz_b4 : h0.size ≤ b4) (ne_s3_b4 : s3 ≠ b4) (ne_s3_b2 : s3 ≠ b2) (ne_b4_b2 : b4 ≠ b2) (hn0 : ¬ nz < 0) (hn8 : nz.toNatClampNeg ≤ 8) (hn1 : (0 : Int32) < nz) (hlo : (6 : Int32) < nz) (S_CS : Sta Z Z.heap "java/lang/String" "COMPACT_STRINGS" "Z" (.int cs)) (h_cs : ¬ cs = (0 : Int32)) :
    ∃ s₂ o, Steps p.tables e below (T0.setTop (mkF m 135 #[vR a1, vI nz, vR b2, vR s3, vR b2, vI nz, vI 7, vI d6_] [])) s₂ ∧ s₂.status = .running ∧ Ended s₂ below o ∧ ∃ v L, o = .returned v ∧ own_QT Z nz d0_ d1_ d2_ d3_ d4_ d5_ d6_ d7_ h0 n0 v s₂.heap L ∧ FrameEnd s o s₂ L ({ frames := 5, cells := 5, slots := 32, locals := 71 } : Room).cells ({ frames := 5, cells := 5, slots := 32, locals := 71 } : Room).slots := by
  have pre109 : ∀ t, Steps p.tables e below (T0.setTop (mkF m 139 #[vR a1, vI nz, vR b2, vR s3, vR b2, vI nz, vI 7, vI d6_] [iI nz, iI 7])) t → Steps p.tables e below (T0.setTop (mkF m 135 #[vR a1, vI nz, vR b2, vR s3, vR b2, vI nz, vI 7, vI d6_] [])) t := by
    intro t kt
    show Steps _ _ _ (T0.setTop (mkF m 135 #[vR a1, vI nz, vR b2, vR s3, vR b2, vI nz, vI 7, vI d6_] [])) _
    refine XS.iload X0.here hx rfl (hb hby d1_135) rfl ?_
    show Steps _ _ _ (T0.setTop (mkF m 137 #[vR a1, vI nz, vR b2, vR s3, vR b2, vI nz, vI 7, vI d6_] [iI 7])) _
    refine XS.iload X0.here hx rfl (hb hby d1_137) rfl ?_
    exact kt
  by_cases hc108 : (7 : Int32) < nz
  · obtain ⟨cl110, Ar110, q110, S110, M110, H110, G110⟩ := id V_2
    have hin111 : ¬ ((7 : Int32) < 0 ∨ cl110.slots.size ≤ ((7 : Int32)).toNatClampNeg) := inb_of S110 ⟨by decide, hc108⟩
    have hat112 : cl110.slots[((7 : Int32)).toNatClampNeg]? = some (.int d7_) := Has.at H110 hin111 rfl
    obtain ⟨_, _, ⟨T113, L113, k113, n113⟩, -, X113, ⟨Lc113, hQ113, l113, y113, z113⟩, st113⟩ := Jvm.LawKit.callS X0 hx (y := (⟨"java/lang/Character", "forDigit", "(II)C"⟩ : MethodName)) hown (mvT hZ (hw _ (List.mem_of_getElem? (i := 28) rfl))) (mvT hZ (hw _ (List.mem_of_getElem? (i := 29) rfl))) (mvT hZ (hw _ (List.mem_of_getElem? (i := 30) rfl))) (mvT hZ (hw _ (List.mem_of_getElem? (i := 31) rfl))) (by decide) (backOf (W := 1) (rm5 l Z a0 hw [] d7_ hT ) hZ (hw _ (List.mem_of_getElem? (i := 31) rfl)) (hw _ (List.mem_of_getElem? (i := 30) rfl)) (by decide) (by decide)) (g := (mkF m 154 #[vR a1, vI nz, vR b2, vR s3, vR b2, vI nz, vI 7, vI d7_] [iI 16, iI d7_, iR s3])) rfl (by rw [hml]; rfl) (argsL := [(.int d7_), (.int (16 : Int32))]) (rest := [(.ref s3)]) (lenOf pd_13 rfl) rfl (by show 2 * 0 + _ ≤ _; exact Nat.le_of_eq rfl) (hb hby d1_154) (fun _ _ => ⟨rfl, e0, (by decide : 3 + 0 ≤ _), (by decide : 20 + 0 ≤ _)⟩)
    dsimp only [Pt.U, Pt.locs, Pt.cells, Pt.slots] at X113 l113 y113 z113 st113 hQ113
    subst l113 y113 z113
    obtain ⟨rfl, rfl, e113⟩ := hQ113
    try rw [List.append_nil] at X113
    have Oh115 := O0.keep Kt0 all0
    obtain ⟨cq114, kq114, q114a, q114b, q114c⟩ := isOf hZ e113 E_3
    obtain ⟨_, _, ⟨T114, L114, k114, n114⟩, -, X114, ⟨Lc114, hQ114, l114, y114, z114⟩, st114⟩ := X113.virtualBack hx (y := (⟨"java/lang/StringBuilder", "append", "(C)Ljava/lang/StringBuilder;"⟩ : MethodName)) (z := (⟨"java/lang/StringBuilder", "append", "(C)Ljava/lang/StringBuilder;"⟩ : MethodName)) hown (mvT hZ (hw _ (List.mem_of_getElem? (i := 32) rfl))) (mvT hZ (hw _ (List.mem_of_getElem? (i := 33) rfl))) (notFace_of_selects (args := #[]) (mvT hZ (hw _ (List.mem_of_getElem? (i := 35) rfl)))) (mvT hZ (hw _ (List.mem_of_getElem? (i := 35) rfl))) (mvT hZ (hw _ (List.mem_of_getElem? (i := 34) rfl))) (by decide) (backOf (W := 0) (rm6_7 l Z a0 hw [] s3 (own_fd d7_) b4 k4 nz (nar .byte (own_fd d0_).toInt8.toInt32) (nar .byte (own_fd d1_).toInt8.toInt32) (nar .byte (own_fd d2_).toInt8.toInt32) (nar .byte (own_fd d3_).toInt8.toInt32) (nar .byte (own_fd d4_).toInt8.toInt32) (nar .byte (own_fd d5_).toInt8.toInt32) (nar .byte (own_fd d6_).toInt8.toInt32) (0 : Int32) cs hT n0 (Nat.le_trans Z0 Kt0.1) Oh115 E_3 g_s3 g_b4 F_value F_coder F_count V_4 ne_s3_b4 hc108 (own_fdl _) S_CS h_cs) hZ (hw _ (List.mem_of_getElem? (i := 36) rfl)) (hw _ (List.mem_of_getElem? (i := 8) rfl)) (by decide) (by decide)) q114a q114c (g := (mkF m 157 #[vR a1, vI nz, vR b2, vR s3, vR b2, vI nz, vI 7, vI d7_] [iI (own_fd d7_), iR s3])) rfl (by rw [hml]; rfl) (Steps.refl _) (argsL := [(.int (own_fd d7_))]) (rest := []) (lenOf pd_14 rfl) rfl (by show 2 * 0 + _ ≤ _; exact Nat.le_of_eq rfl) (hb hby d1_157) (fun _ _ => ⟨rfl, e113, (by decide : 3 + 0 ≤ _), (by decide : 20 + 0 ≤ _)⟩)
    dsimp only [Pt.U, Pt.locs, Pt.cells, Pt.slots] at X114 l114 y114 z114 st114 hQ114
    subst l114 y114 z114
    obtain ⟨rfl, N114q, K114q, E114q, Fv114q, Fc114q, Fn114q, V114q⟩ := hQ114
    have N114 := Fr.app N0 N114q
    have K114 : Keep h0 T114.heap [] := Keep.trans Kt0 K114q (allS (Or.inr sz_s3) (allS (Or.inr sz_b4) all0))
    have fk116 := (V_2.keep K114q (ninS (Ne.symm ne_s3_b2) (ninS (Ne.symm ne_b4_b2) nin0)))
    have fk117 := (G_4.keep K114q)
    have pre118 : ∀ t, Steps p.tables e below (T114.setTop (mkF m 135 #[vR a1, vI nz, vR b2, vR s3, vR b2, vI nz, vI 8, vI d7_] [])) t → Steps p.tables e below (T0.setTop (mkF m 135 #[vR a1, vI nz, vR b2, vR s3, vR b2, vI nz, vI 7, vI d6_] [])) t := by
      intro t kt
      refine pre109 t ?_
      show Steps _ _ _ (T0.setTop (mkF m 139 #[vR a1, vI nz, vR b2, vR s3, vR b2, vI nz, vI 7, vI d6_] [iI nz, iI 7])) _
      refine XS.icmpNo X0.here hx rfl (hb hby d1_139) rfl (tlt hc108).2.1 ?_
      show Steps _ _ _ (T0.setTop (mkF m 142 #[vR a1, vI nz, vR b2, vR s3, vR b2, vI nz, vI 7, vI d6_] [])) _
      refine XS.aload X0.here hx rfl (hb hby d1_142) rfl rfl ?_
      show Steps _ _ _ (T0.setTop (mkF m 144 #[vR a1, vI nz, vR b2, vR s3, vR b2, vI nz, vI 7, vI d6_] [iR b2])) _
      refine XS.iload X0.here hx rfl (hb hby d1_144) rfl ?_
      show Steps _ _ _ (T0.setTop (mkF m 146 #[vR a1, vI nz, vR b2, vR s3, vR b2, vI nz, vI 7, vI d6_] [iI 7, iR b2])) _
      refine X0.iaload hx (j := (7 : Int32)) (v := (.int d7_)) (by rw [e0]; exact Ar110.1) (State.isArrayOf_alike hZ.alike Ar110.2.1) Ar110.2.2 hin111 hat112 (g := (mkF m 146 #[vR a1, vI nz, vR b2, vR s3, vR b2, vI nz, vI 7, vI d6_] [iI 7, iR b2])) rfl rfl (hb hby d1_146) _ ?_
      show Steps _ _ _ (T0.setTop (mkF m 147 #[vR a1, vI nz, vR b2, vR s3, vR b2, vI nz, vI 7, vI d6_] [iI d7_])) _
      refine XS.istore X0.here hx rfl (hb hby d1_147) rfl (l' := #[vR a1, vI nz, vR b2, vR s3, vR b2, vI nz, vI 7, vI d7_]) rfl ?_
      show Steps _ _ _ (T0.setTop (mkF m 149 #[vR a1, vI nz, vR b2, vR s3, vR b2, vI nz, vI 7, vI d7_] [])) _
      refine XS.aloadN X0.here hx rfl (hb hby d1_149) rfl rfl ?_
      show Steps _ _ _ (T0.setTop (mkF m 150 #[vR a1, vI nz, vR b2, vR s3, vR b2, vI nz, vI 7, vI d7_] [iR s3])) _
      refine XS.iload X0.here hx rfl (hb hby d1_150) rfl ?_
      show Steps _ _ _ (T0.setTop (mkF m 152 #[vR a1, vI nz, vR b2, vR s3, vR b2, vI nz, vI 7, vI d7_] [iI d7_, iR s3])) _
      refine XS.bipush X0.here hx rfl (hb hby d1_152) ?_
      show Steps _ _ _ (T0.setTop (mkF m 154 #[vR a1, vI nz, vR b2, vR s3, vR b2, vI nz, vI 7, vI d7_] [iI 16, iI d7_, iR s3])) _
      refine st113 _ ?_
      show Steps _ _ _ (T113.setTop (mkF m 157 #[vR a1, vI nz, vR b2, vR s3, vR b2, vI nz, vI 7, vI d7_] [iI (own_fd d7_), iR s3])) _
      refine st114.trans ?_
      show Steps _ _ _ (T114.setTop (mkF m 160 #[vR a1, vI nz, vR b2, vR s3, vR b2, vI nz, vI 7, vI d7_] [iR s3])) _
      refine XS.pop X114.here hx rfl (hb hby d1_160) rfl rfl ?_
      show Steps _ _ _ (T114.setTop (mkF m 161 #[vR a1, vI nz, vR b2, vR s3, vR b2, vI nz, vI 7, vI d7_] [])) _
      refine XS.iinc X114.here hx rfl (hb hby d1_161) rfl (l' := #[vR a1, vI nz, vR b2, vR s3, vR b2, vI nz, vI ((7 : Int32) + (1 : Int32)), vI d7_]) rfl ?_
      rw [(by decide : ((7 : Int32) + (1 : Int32)) = (8 : Int32))]
      show Steps _ _ _ (T114.setTop (mkF m 164 #[vR a1, vI nz, vR b2, vR s3, vR b2, vI nz, vI 8, vI d7_] [])) _
      refine XS.goto X114.here hx rfl (pc0 := 164) (pc' := 135) rfl (hb hby d1_164) (by decide) (by decide) ?_
      exact kt
    obtain ⟨s₂, o₂, hs₂, hr₂⟩ := own_turn8 X114 hx hZ hw hby hml hown hret (by first | assumption | exact BodyLoose.notSynchronized (by assumption) | exact Body.notSynchronized (by assumption)) (rfl : T114.heap = _) K114 N114 Z0 O0 fk116 g_b2 sz_b2 E114q Fv114q Fc114q Fn114q V114q fk117 g_s3 sz_s3 g_b4 sz_b4 ne_s3_b4 ne_s3_b2 ne_b4_b2 hn0 hn8 hn1 hc108 S_CS h_cs
    exact ⟨s₂, o₂, pre118 _ hs₂, hr₂⟩
  · have qz : nz = (7 : Int32) := own_is7 hc108 hlo
    have pre119 : ∀ t, Steps p.tables e below (T0.setTop (mkF m 167 #[vR a1, vI nz, vR b2, vR s3, vR b2, vI nz, vI 7, vI d6_] [])) t → Steps p.tables e below (T0.setTop (mkF m 135 #[vR a1, vI nz, vR b2, vR s3, vR b2, vI nz, vI 7, vI d6_] [])) t := by
      intro t kt
      refine pre109 t ?_
      show Steps _ _ _ (T0.setTop (mkF m 139 #[vR a1, vI nz, vR b2, vR s3, vR b2, vI nz, vI 7, vI d6_] [iI nz, iI 7])) _
      refine XS.icmpYes X0.here hx rfl (pc0 := 139) (pc' := 167) rfl (hb hby d1_139) rfl (flt hc108).2.1 (by decide) (by decide) ?_
      exact kt
    rcases qz with rfl
    · have Oh121 := O0.keep Kt0 all0
      obtain ⟨cq120, kq120, q120a, q120b, q120c⟩ := isOf hZ e0 E_3
      obtain ⟨_, _, ⟨T120, L120, k120, n120⟩, -, X120, ⟨Lc120, hQ120, l120, y120, z120⟩, st120⟩ := X0.virtualBack hx (y := (⟨"java/lang/StringBuilder", "toString", "()Ljava/lang/String;"⟩ : MethodName)) (z := (⟨"java/lang/StringBuilder", "toString", "()Ljava/lang/String;"⟩ : MethodName)) hown (mvT hZ (hw _ (List.mem_of_getElem? (i := 58) rfl))) (mvT hZ (hw _ (List.mem_of_getElem? (i := 59) rfl))) (notFace_of_selects (args := #[]) (mvT hZ (hw _ (List.mem_of_getElem? (i := 61) rfl)))) (mvT hZ (hw _ (List.mem_of_getElem? (i := 61) rfl))) (mvT hZ (hw _ (List.mem_of_getElem? (i := 60) rfl))) (by decide) (backOf (W := 0) (rm11 l Z a0 hw [] s3 b4 k4 (7 : Int32) (nar .byte (own_fd d0_).toInt8.toInt32) (nar .byte (own_fd d1_).toInt8.toInt32) (nar .byte (own_fd d2_).toInt8.toInt32) (nar .byte (own_fd d3_).toInt8.toInt32) (nar .byte (own_fd d4_).toInt8.toInt32) (nar .byte (own_fd d5_).toInt8.toInt32) (nar .byte (own_fd d6_).toInt8.toInt32) (0 : Int32) cs hT n0 (Nat.le_trans Z0 Kt0.1) Oh121 E_3 F_value F_coder F_count V_4 G_4 hn0 hn8 S_CS h_cs) hZ (hw _ (List.mem_of_getElem? (i := 62) rfl)) (hw _ (List.mem_of_getElem? (i := 8) rfl)) (by decide) (by decide)) q120a q120c (g := (mkF m 168 #[vR a1, vI 7, vR b2, vR s3, vR b2, vI 7, vI 7, vI d6_] [iR s3])) rfl (by rw [hml]; rfl) (Steps.refl _) (argsL := []) (rest := []) (lenOf pd_15 rfl) rfl (by show 2 * 0 + _ ≤ _; exact Nat.le_of_eq rfl) (hb hby d1_168) (fun _ _ => ⟨rfl, e0, (by decide : 3 + 2 ≤ _), (by decide : 20 + 12 ≤ _)⟩)
      dsimp only [Pt.U, Pt.locs, Pt.cells, Pt.slots] at X120 l120 y120 z120 st120 hQ120
      subst l120 y120 z120
      obtain ⟨o120, d120, rfl, N120q, K120q, E120q, C120q, F120q, V120q⟩ := hQ120
      have N120 := Fr.app N0 N120q
      have K120 : Keep h0 T120.heap [] := Keep.trans Kt0 K120q all0
      obtain ⟨fs, hr, hrun, hended, hW, hsame⟩ := X120.leave (v := some (.ref o120)) (fun h => by rw [hret] at h; cases h)
      refine ⟨_, _, pre119 _ ?_, hrun, hended, _, _, rfl, ?_, ⟨_, rfl⟩, hW, hsame.mono (by decide) (by decide)⟩
      · show Steps _ _ _ (T0.setTop (mkF m 167 #[vR a1, vI 7, vR b2, vR s3, vR b2, vI 7, vI 7, vI d6_] [])) _
        refine XS.aloadN X0.here hx rfl (hb hby d1_167) rfl rfl ?_
        show Steps _ _ _ (T0.setTop (mkF m 168 #[vR a1, vI 7, vR b2, vR s3, vR b2, vI 7, vI 7, vI d6_] [iR s3])) _
        refine st120.trans ?_
        show Steps _ _ _ (T120.setTop (mkF m 171 #[vR a1, vI 7, vR b2, vR s3, vR b2, vI 7, vI 7, vI d6_] [iR o120])) _
        jvm_step X120.here [X120.here.top, hx, (hb hby d1_171), X120.method', hret, Value.isRef, FieldType.isReference]
        first | (intro acts; rw [hr _ acts rfl rfl rfl]) | rw [hr _ _ rfl rfl rfl]
        exact Steps.refl _
      · show own_QT Z (7 : Int32) d0_ d1_ d2_ d3_ d4_ d5_ d6_ d7_ h0 n0 _ T120.heap _
        exact ⟨_, _, _, rfl, N120, K120, E120q, C120q, F120q, (own_cut V120q (fun i hi => by match i, hi with | 0, _ => rfl | 1, _ => rfl | 2, _ => rfl | 3, _ => rfl | 4, _ => rfl | 5, _ => rfl | 6, _ => rfl | _ + 7, h => exact absurd h (by simp [Int32.toNatClampNeg])))⟩
set_option maxRecDepth 65536 in
set_option maxHeartbeats 40000000 in
theorem own_turn6 {p : Program} {l : Launch} {e : Env} {s : State} {m : MethodId} {below : List Frame} {meth : Method} {c : Code} {T0 : State} {locs : List Loc} {Z : State} {a0 : Array Value} {h0 hT : Heap} {n0 : Nat} {a1 b2 : Addr} {k2 : ClassId} {nz : Int32} {d0_ : Int32} {d1_ : Int32} {d2_ : Int32} {d3_ : Int32} {d4_ : Int32} {d5_ : Int32} {d6_ : Int32} {d7_ : Int32} {cs : Int32} {s3 b4 : Addr} {k4 : ClassId}
    (X0 : Stand p l e ({ frames := 5, cells := 5, slots := 32, locals := 71 } : Room) s m #[(.ref a1)] below meth c T0 locs 3 20) (hx : p.tables.exec = Jvm.exec) (hZ : Z.Warmed39 s.vm) (hw : ∀ d ∈ tables_1, d.before a0 Z = true) (hby : c.code = prog_29_method_3_code) (hml : c.maxLocals = 8) (hown : s.vm.findClass "com/example/cloud_to_core/cloudtocore/model/SupportedFeatures" = some m.cls) (hret : meth.sig.returnType = some (.object "java/lang/String")) (hlocks : meth.locks = false) (e0 : T0.heap = hT) (Kt0 : Keep h0 hT []) (N0 : Fr n0 locs) (Z0 : n0 ≤ h0.size) (O0 : Old Z n0 h0) (V_2 : Arv Z hT b2 k2 .int nz [(.int d0_), (.int d1_), (.int d2_), (.int d3_), (.int d4_), (.int d5_), (.int d6_), (.int d7_)] (.int (0 : Int32))) (g_b2 : n0 ≤ b2) (sz_b2 : h0.size ≤ b2) (E_3 : Exa Z hT s3 "java/lang/StringBuilder") (F_value : Fld Z hT s3 "java/lang/AbstractStringBuilder" "value" "[B" (.ref b4)) (F_coder : Fld Z hT s3 "java/lang/AbstractStringBuilder" "coder" "B" (.int (0 : Int32))) (F_count : Fld Z hT s3 "java/lang/AbstractStringBuilder" "count" "I" (.int (6 : Int32))) (V_4 : Arv Z hT b4 k4 .byte nz [(.int (nar .byte (own_fd d0_).toInt8.toInt32)), (.int (nar .byte (own_fd d1_).toInt8.toInt32)), (.int (nar .byte (own_fd d2_).toInt8.toInt32)), (.int (nar .byte (own_fd d3_).toInt8.toInt32)), (.int (nar .byte (own_fd d4_).toInt8.toInt32)), (.int (nar .byte (own_fd d5_).toInt8.toInt32)), (.int (0 : Int32)), (.int (0 : Int32))] (.int (0 : Int32))) (G_4 : Exa Z hT b4 "[B") (g_s3 : n0 ≤ s3) (sz_s3 : h0.size ≤ s3) (g_b4 : n0 ≤ b4) (sz_b4 : h0.size ≤ b4) (ne_s3_b4 : s3 ≠ b4) (ne_s3_b2 : s3 ≠ b2) (ne_b4_b2 : b4 ≠ b2) (hn0 : ¬ nz < 0) (hn8 : nz.toNatClampNeg ≤ 8) (hn1 : (0 : Int32) < nz) (hlo : (5 : Int32) < nz) (S_CS : Sta Z Z.heap "java/lang/String" "COMPACT_STRINGS" "Z" (.int cs)) (h_cs : ¬ cs = (0 : Int32)) :
    ∃ s₂ o, Steps p.tables e below (T0.setTop (mkF m 135 #[vR a1, vI nz, vR b2, vR s3, vR b2, vI nz, vI 6, vI d5_] [])) s₂ ∧ s₂.status = .running ∧ Ended s₂ below o ∧ ∃ v L, o = .returned v ∧ own_QT Z nz d0_ d1_ d2_ d3_ d4_ d5_ d6_ d7_ h0 n0 v s₂.heap L ∧ FrameEnd s o s₂ L ({ frames := 5, cells := 5, slots := 32, locals := 71 } : Room).cells ({ frames := 5, cells := 5, slots := 32, locals := 71 } : Room).slots := by
  have pre95 : ∀ t, Steps p.tables e below (T0.setTop (mkF m 139 #[vR a1, vI nz, vR b2, vR s3, vR b2, vI nz, vI 6, vI d5_] [iI nz, iI 6])) t → Steps p.tables e below (T0.setTop (mkF m 135 #[vR a1, vI nz, vR b2, vR s3, vR b2, vI nz, vI 6, vI d5_] [])) t := by
    intro t kt
    show Steps _ _ _ (T0.setTop (mkF m 135 #[vR a1, vI nz, vR b2, vR s3, vR b2, vI nz, vI 6, vI d5_] [])) _
    refine XS.iload X0.here hx rfl (hb hby d1_135) rfl ?_
    show Steps _ _ _ (T0.setTop (mkF m 137 #[vR a1, vI nz, vR b2, vR s3, vR b2, vI nz, vI 6, vI d5_] [iI 6])) _
    refine XS.iload X0.here hx rfl (hb hby d1_137) rfl ?_
    exact kt
  by_cases hc94 : (6 : Int32) < nz
  · obtain ⟨cl96, Ar96, q96, S96, M96, H96, G96⟩ := id V_2
    have hin97 : ¬ ((6 : Int32) < 0 ∨ cl96.slots.size ≤ ((6 : Int32)).toNatClampNeg) := inb_of S96 ⟨by decide, hc94⟩
    have hat98 : cl96.slots[((6 : Int32)).toNatClampNeg]? = some (.int d6_) := Has.at H96 hin97 rfl
    obtain ⟨_, _, ⟨T99, L99, k99, n99⟩, -, X99, ⟨Lc99, hQ99, l99, y99, z99⟩, st99⟩ := Jvm.LawKit.callS X0 hx (y := (⟨"java/lang/Character", "forDigit", "(II)C"⟩ : MethodName)) hown (mvT hZ (hw _ (List.mem_of_getElem? (i := 28) rfl))) (mvT hZ (hw _ (List.mem_of_getElem? (i := 29) rfl))) (mvT hZ (hw _ (List.mem_of_getElem? (i := 30) rfl))) (mvT hZ (hw _ (List.mem_of_getElem? (i := 31) rfl))) (by decide) (backOf (W := 1) (rm5 l Z a0 hw [] d6_ hT ) hZ (hw _ (List.mem_of_getElem? (i := 31) rfl)) (hw _ (List.mem_of_getElem? (i := 30) rfl)) (by decide) (by decide)) (g := (mkF m 154 #[vR a1, vI nz, vR b2, vR s3, vR b2, vI nz, vI 6, vI d6_] [iI 16, iI d6_, iR s3])) rfl (by rw [hml]; rfl) (argsL := [(.int d6_), (.int (16 : Int32))]) (rest := [(.ref s3)]) (lenOf pd_13 rfl) rfl (by show 2 * 0 + _ ≤ _; exact Nat.le_of_eq rfl) (hb hby d1_154) (fun _ _ => ⟨rfl, e0, (by decide : 3 + 0 ≤ _), (by decide : 20 + 0 ≤ _)⟩)
    dsimp only [Pt.U, Pt.locs, Pt.cells, Pt.slots] at X99 l99 y99 z99 st99 hQ99
    subst l99 y99 z99
    obtain ⟨rfl, rfl, e99⟩ := hQ99
    try rw [List.append_nil] at X99
    have Oh101 := O0.keep Kt0 all0
    obtain ⟨cq100, kq100, q100a, q100b, q100c⟩ := isOf hZ e99 E_3
    obtain ⟨_, _, ⟨T100, L100, k100, n100⟩, -, X100, ⟨Lc100, hQ100, l100, y100, z100⟩, st100⟩ := X99.virtualBack hx (y := (⟨"java/lang/StringBuilder", "append", "(C)Ljava/lang/StringBuilder;"⟩ : MethodName)) (z := (⟨"java/lang/StringBuilder", "append", "(C)Ljava/lang/StringBuilder;"⟩ : MethodName)) hown (mvT hZ (hw _ (List.mem_of_getElem? (i := 32) rfl))) (mvT hZ (hw _ (List.mem_of_getElem? (i := 33) rfl))) (notFace_of_selects (args := #[]) (mvT hZ (hw _ (List.mem_of_getElem? (i := 35) rfl)))) (mvT hZ (hw _ (List.mem_of_getElem? (i := 35) rfl))) (mvT hZ (hw _ (List.mem_of_getElem? (i := 34) rfl))) (by decide) (backOf (W := 0) (rm6_6 l Z a0 hw [] s3 (own_fd d6_) b4 k4 nz (nar .byte (own_fd d0_).toInt8.toInt32) (nar .byte (own_fd d1_).toInt8.toInt32) (nar .byte (own_fd d2_).toInt8.toInt32) (nar .byte (own_fd d3_).toInt8.toInt32) (nar .byte (own_fd d4_).toInt8.toInt32) (nar .byte (own_fd d5_).toInt8.toInt32) (0 : Int32) (0 : Int32) cs hT n0 (Nat.le_trans Z0 Kt0.1) Oh101 E_3 g_s3 g_b4 F_value F_coder F_count V_4 ne_s3_b4 hc94 (own_fdl _) S_CS h_cs) hZ (hw _ (List.mem_of_getElem? (i := 36) rfl)) (hw _ (List.mem_of_getElem? (i := 8) rfl)) (by decide) (by decide)) q100a q100c (g := (mkF m 157 #[vR a1, vI nz, vR b2, vR s3, vR b2, vI nz, vI 6, vI d6_] [iI (own_fd d6_), iR s3])) rfl (by rw [hml]; rfl) (Steps.refl _) (argsL := [(.int (own_fd d6_))]) (rest := []) (lenOf pd_14 rfl) rfl (by show 2 * 0 + _ ≤ _; exact Nat.le_of_eq rfl) (hb hby d1_157) (fun _ _ => ⟨rfl, e99, (by decide : 3 + 0 ≤ _), (by decide : 20 + 0 ≤ _)⟩)
    dsimp only [Pt.U, Pt.locs, Pt.cells, Pt.slots] at X100 l100 y100 z100 st100 hQ100
    subst l100 y100 z100
    obtain ⟨rfl, N100q, K100q, E100q, Fv100q, Fc100q, Fn100q, V100q⟩ := hQ100
    have N100 := Fr.app N0 N100q
    have K100 : Keep h0 T100.heap [] := Keep.trans Kt0 K100q (allS (Or.inr sz_s3) (allS (Or.inr sz_b4) all0))
    have fk102 := (V_2.keep K100q (ninS (Ne.symm ne_s3_b2) (ninS (Ne.symm ne_b4_b2) nin0)))
    have fk103 := (G_4.keep K100q)
    have pre104 : ∀ t, Steps p.tables e below (T100.setTop (mkF m 135 #[vR a1, vI nz, vR b2, vR s3, vR b2, vI nz, vI 7, vI d6_] [])) t → Steps p.tables e below (T0.setTop (mkF m 135 #[vR a1, vI nz, vR b2, vR s3, vR b2, vI nz, vI 6, vI d5_] [])) t := by
      intro t kt
      refine pre95 t ?_
      show Steps _ _ _ (T0.setTop (mkF m 139 #[vR a1, vI nz, vR b2, vR s3, vR b2, vI nz, vI 6, vI d5_] [iI nz, iI 6])) _
      refine XS.icmpNo X0.here hx rfl (hb hby d1_139) rfl (tlt hc94).2.1 ?_
      show Steps _ _ _ (T0.setTop (mkF m 142 #[vR a1, vI nz, vR b2, vR s3, vR b2, vI nz, vI 6, vI d5_] [])) _
      refine XS.aload X0.here hx rfl (hb hby d1_142) rfl rfl ?_
      show Steps _ _ _ (T0.setTop (mkF m 144 #[vR a1, vI nz, vR b2, vR s3, vR b2, vI nz, vI 6, vI d5_] [iR b2])) _
      refine XS.iload X0.here hx rfl (hb hby d1_144) rfl ?_
      show Steps _ _ _ (T0.setTop (mkF m 146 #[vR a1, vI nz, vR b2, vR s3, vR b2, vI nz, vI 6, vI d5_] [iI 6, iR b2])) _
      refine X0.iaload hx (j := (6 : Int32)) (v := (.int d6_)) (by rw [e0]; exact Ar96.1) (State.isArrayOf_alike hZ.alike Ar96.2.1) Ar96.2.2 hin97 hat98 (g := (mkF m 146 #[vR a1, vI nz, vR b2, vR s3, vR b2, vI nz, vI 6, vI d5_] [iI 6, iR b2])) rfl rfl (hb hby d1_146) _ ?_
      show Steps _ _ _ (T0.setTop (mkF m 147 #[vR a1, vI nz, vR b2, vR s3, vR b2, vI nz, vI 6, vI d5_] [iI d6_])) _
      refine XS.istore X0.here hx rfl (hb hby d1_147) rfl (l' := #[vR a1, vI nz, vR b2, vR s3, vR b2, vI nz, vI 6, vI d6_]) rfl ?_
      show Steps _ _ _ (T0.setTop (mkF m 149 #[vR a1, vI nz, vR b2, vR s3, vR b2, vI nz, vI 6, vI d6_] [])) _
      refine XS.aloadN X0.here hx rfl (hb hby d1_149) rfl rfl ?_
      show Steps _ _ _ (T0.setTop (mkF m 150 #[vR a1, vI nz, vR b2, vR s3, vR b2, vI nz, vI 6, vI d6_] [iR s3])) _
      refine XS.iload X0.here hx rfl (hb hby d1_150) rfl ?_
      show Steps _ _ _ (T0.setTop (mkF m 152 #[vR a1, vI nz, vR b2, vR s3, vR b2, vI nz, vI 6, vI d6_] [iI d6_, iR s3])) _
      refine XS.bipush X0.here hx rfl (hb hby d1_152) ?_
      show Steps _ _ _ (T0.setTop (mkF m 154 #[vR a1, vI nz, vR b2, vR s3, vR b2, vI nz, vI 6, vI d6_] [iI 16, iI d6_, iR s3])) _
      refine st99 _ ?_
      show Steps _ _ _ (T99.setTop (mkF m 157 #[vR a1, vI nz, vR b2, vR s3, vR b2, vI nz, vI 6, vI d6_] [iI (own_fd d6_), iR s3])) _
      refine st100.trans ?_
      show Steps _ _ _ (T100.setTop (mkF m 160 #[vR a1, vI nz, vR b2, vR s3, vR b2, vI nz, vI 6, vI d6_] [iR s3])) _
      refine XS.pop X100.here hx rfl (hb hby d1_160) rfl rfl ?_
      show Steps _ _ _ (T100.setTop (mkF m 161 #[vR a1, vI nz, vR b2, vR s3, vR b2, vI nz, vI 6, vI d6_] [])) _
      refine XS.iinc X100.here hx rfl (hb hby d1_161) rfl (l' := #[vR a1, vI nz, vR b2, vR s3, vR b2, vI nz, vI ((6 : Int32) + (1 : Int32)), vI d6_]) rfl ?_
      rw [(by decide : ((6 : Int32) + (1 : Int32)) = (7 : Int32))]
      show Steps _ _ _ (T100.setTop (mkF m 164 #[vR a1, vI nz, vR b2, vR s3, vR b2, vI nz, vI 7, vI d6_] [])) _
      refine XS.goto X100.here hx rfl (pc0 := 164) (pc' := 135) rfl (hb hby d1_164) (by decide) (by decide) ?_
      exact kt
    obtain ⟨s₂, o₂, hs₂, hr₂⟩ := own_turn7 X100 hx hZ hw hby hml hown hret (by first | assumption | exact BodyLoose.notSynchronized (by assumption) | exact Body.notSynchronized (by assumption)) (rfl : T100.heap = _) K100 N100 Z0 O0 fk102 g_b2 sz_b2 E100q Fv100q Fc100q Fn100q V100q fk103 g_s3 sz_s3 g_b4 sz_b4 ne_s3_b4 ne_s3_b2 ne_b4_b2 hn0 hn8 hn1 hc94 S_CS h_cs
    exact ⟨s₂, o₂, pre104 _ hs₂, hr₂⟩
  · have qz : nz = (6 : Int32) := own_is6 hc94 hlo
    have pre105 : ∀ t, Steps p.tables e below (T0.setTop (mkF m 167 #[vR a1, vI nz, vR b2, vR s3, vR b2, vI nz, vI 6, vI d5_] [])) t → Steps p.tables e below (T0.setTop (mkF m 135 #[vR a1, vI nz, vR b2, vR s3, vR b2, vI nz, vI 6, vI d5_] [])) t := by
      intro t kt
      refine pre95 t ?_
      show Steps _ _ _ (T0.setTop (mkF m 139 #[vR a1, vI nz, vR b2, vR s3, vR b2, vI nz, vI 6, vI d5_] [iI nz, iI 6])) _
      refine XS.icmpYes X0.here hx rfl (pc0 := 139) (pc' := 167) rfl (hb hby d1_139) rfl (flt hc94).2.1 (by decide) (by decide) ?_
      exact kt
    rcases qz with rfl
    · have Oh107 := O0.keep Kt0 all0
      obtain ⟨cq106, kq106, q106a, q106b, q106c⟩ := isOf hZ e0 E_3
      obtain ⟨_, _, ⟨T106, L106, k106, n106⟩, -, X106, ⟨Lc106, hQ106, l106, y106, z106⟩, st106⟩ := X0.virtualBack hx (y := (⟨"java/lang/StringBuilder", "toString", "()Ljava/lang/String;"⟩ : MethodName)) (z := (⟨"java/lang/StringBuilder", "toString", "()Ljava/lang/String;"⟩ : MethodName)) hown (mvT hZ (hw _ (List.mem_of_getElem? (i := 58) rfl))) (mvT hZ (hw _ (List.mem_of_getElem? (i := 59) rfl))) (notFace_of_selects (args := #[]) (mvT hZ (hw _ (List.mem_of_getElem? (i := 61) rfl)))) (mvT hZ (hw _ (List.mem_of_getElem? (i := 61) rfl))) (mvT hZ (hw _ (List.mem_of_getElem? (i := 60) rfl))) (by decide) (backOf (W := 0) (rm11 l Z a0 hw [] s3 b4 k4 (6 : Int32) (nar .byte (own_fd d0_).toInt8.toInt32) (nar .byte (own_fd d1_).toInt8.toInt32) (nar .byte (own_fd d2_).toInt8.toInt32) (nar .byte (own_fd d3_).toInt8.toInt32) (nar .byte (own_fd d4_).toInt8.toInt32) (nar .byte (own_fd d5_).toInt8.toInt32) (0 : Int32) (0 : Int32) cs hT n0 (Nat.le_trans Z0 Kt0.1) Oh107 E_3 F_value F_coder F_count V_4 G_4 hn0 hn8 S_CS h_cs) hZ (hw _ (List.mem_of_getElem? (i := 62) rfl)) (hw _ (List.mem_of_getElem? (i := 8) rfl)) (by decide) (by decide)) q106a q106c (g := (mkF m 168 #[vR a1, vI 6, vR b2, vR s3, vR b2, vI 6, vI 6, vI d5_] [iR s3])) rfl (by rw [hml]; rfl) (Steps.refl _) (argsL := []) (rest := []) (lenOf pd_15 rfl) rfl (by show 2 * 0 + _ ≤ _; exact Nat.le_of_eq rfl) (hb hby d1_168) (fun _ _ => ⟨rfl, e0, (by decide : 3 + 2 ≤ _), (by decide : 20 + 12 ≤ _)⟩)
      dsimp only [Pt.U, Pt.locs, Pt.cells, Pt.slots] at X106 l106 y106 z106 st106 hQ106
      subst l106 y106 z106
      obtain ⟨o106, d106, rfl, N106q, K106q, E106q, C106q, F106q, V106q⟩ := hQ106
      have N106 := Fr.app N0 N106q
      have K106 : Keep h0 T106.heap [] := Keep.trans Kt0 K106q all0
      obtain ⟨fs, hr, hrun, hended, hW, hsame⟩ := X106.leave (v := some (.ref o106)) (fun h => by rw [hret] at h; cases h)
      refine ⟨_, _, pre105 _ ?_, hrun, hended, _, _, rfl, ?_, ⟨_, rfl⟩, hW, hsame.mono (by decide) (by decide)⟩
      · show Steps _ _ _ (T0.setTop (mkF m 167 #[vR a1, vI 6, vR b2, vR s3, vR b2, vI 6, vI 6, vI d5_] [])) _
        refine XS.aloadN X0.here hx rfl (hb hby d1_167) rfl rfl ?_
        show Steps _ _ _ (T0.setTop (mkF m 168 #[vR a1, vI 6, vR b2, vR s3, vR b2, vI 6, vI 6, vI d5_] [iR s3])) _
        refine st106.trans ?_
        show Steps _ _ _ (T106.setTop (mkF m 171 #[vR a1, vI 6, vR b2, vR s3, vR b2, vI 6, vI 6, vI d5_] [iR o106])) _
        jvm_step X106.here [X106.here.top, hx, (hb hby d1_171), X106.method', hret, Value.isRef, FieldType.isReference]
        first | (intro acts; rw [hr _ acts rfl rfl rfl]) | rw [hr _ _ rfl rfl rfl]
        exact Steps.refl _
      · show own_QT Z (6 : Int32) d0_ d1_ d2_ d3_ d4_ d5_ d6_ d7_ h0 n0 _ T106.heap _
        exact ⟨_, _, _, rfl, N106, K106, E106q, C106q, F106q, (own_cut V106q (fun i hi => by match i, hi with | 0, _ => rfl | 1, _ => rfl | 2, _ => rfl | 3, _ => rfl | 4, _ => rfl | 5, _ => rfl | _ + 6, h => exact absurd h (by simp [Int32.toNatClampNeg])))⟩
set_option maxRecDepth 65536 in
set_option maxHeartbeats 40000000 in
theorem own_turn5 {p : Program} {l : Launch} {e : Env} {s : State} {m : MethodId} {below : List Frame} {meth : Method} {c : Code} {T0 : State} {locs : List Loc} {Z : State} {a0 : Array Value} {h0 hT : Heap} {n0 : Nat} {a1 b2 : Addr} {k2 : ClassId} {nz : Int32} {d0_ : Int32} {d1_ : Int32} {d2_ : Int32} {d3_ : Int32} {d4_ : Int32} {d5_ : Int32} {d6_ : Int32} {d7_ : Int32} {cs : Int32} {s3 b4 : Addr} {k4 : ClassId}
    (X0 : Stand p l e ({ frames := 5, cells := 5, slots := 32, locals := 71 } : Room) s m #[(.ref a1)] below meth c T0 locs 3 20) (hx : p.tables.exec = Jvm.exec) (hZ : Z.Warmed39 s.vm) (hw : ∀ d ∈ tables_1, d.before a0 Z = true) (hby : c.code = prog_29_method_3_code) (hml : c.maxLocals = 8) (hown : s.vm.findClass "com/example/cloud_to_core/cloudtocore/model/SupportedFeatures" = some m.cls) (hret : meth.sig.returnType = some (.object "java/lang/String")) (hlocks : meth.locks = false) (e0 : T0.heap = hT) (Kt0 : Keep h0 hT []) (N0 : Fr n0 locs) (Z0 : n0 ≤ h0.size) (O0 : Old Z n0 h0) (V_2 : Arv Z hT b2 k2 .int nz [(.int d0_), (.int d1_), (.int d2_), (.int d3_), (.int d4_), (.int d5_), (.int d6_), (.int d7_)] (.int (0 : Int32))) (g_b2 : n0 ≤ b2) (sz_b2 : h0.size ≤ b2) (E_3 : Exa Z hT s3 "java/lang/StringBuilder") (F_value : Fld Z hT s3 "java/lang/AbstractStringBuilder" "value" "[B" (.ref b4)) (F_coder : Fld Z hT s3 "java/lang/AbstractStringBuilder" "coder" "B" (.int (0 : Int32))) (F_count : Fld Z hT s3 "java/lang/AbstractStringBuilder" "count" "I" (.int (5 : Int32))) (V_4 : Arv Z hT b4 k4 .byte nz [(.int (nar .byte (own_fd d0_).toInt8.toInt32)), (.int (nar .byte (own_fd d1_).toInt8.toInt32)), (.int (nar .byte (own_fd d2_).toInt8.toInt32)), (.int (nar .byte (own_fd d3_).toInt8.toInt32)), (.int (nar .byte (own_fd d4_).toInt8.toInt32)), (.int (0 : Int32)), (.int (0 : Int32)), (.int (0 : Int32))] (.int (0 : Int32))) (G_4 : Exa Z hT b4 "[B") (g_s3 : n0 ≤ s3) (sz_s3 : h0.size ≤ s3) (g_b4 : n0 ≤ b4) (sz_b4 : h0.size ≤ b4) (ne_s3_b4 : s3 ≠ b4) (ne_s3_b2 : s3 ≠ b2) (ne_b4_b2 : b4 ≠ b2) (hn0 : ¬ nz < 0) (hn8 : nz.toNatClampNeg ≤ 8) (hn1 : (0 : Int32) < nz) (hlo : (4 : Int32) < nz) (S_CS : Sta Z Z.heap "java/lang/String" "COMPACT_STRINGS" "Z" (.int cs)) (h_cs : ¬ cs = (0 : Int32)) :
    ∃ s₂ o, Steps p.tables e below (T0.setTop (mkF m 135 #[vR a1, vI nz, vR b2, vR s3, vR b2, vI nz, vI 5, vI d4_] [])) s₂ ∧ s₂.status = .running ∧ Ended s₂ below o ∧ ∃ v L, o = .returned v ∧ own_QT Z nz d0_ d1_ d2_ d3_ d4_ d5_ d6_ d7_ h0 n0 v s₂.heap L ∧ FrameEnd s o s₂ L ({ frames := 5, cells := 5, slots := 32, locals := 71 } : Room).cells ({ frames := 5, cells := 5, slots := 32, locals := 71 } : Room).slots := by
  have pre81 : ∀ t, Steps p.tables e below (T0.setTop (mkF m 139 #[vR a1, vI nz, vR b2, vR s3, vR b2, vI nz, vI 5, vI d4_] [iI nz, iI 5])) t → Steps p.tables e below (T0.setTop (mkF m 135 #[vR a1, vI nz, vR b2, vR s3, vR b2, vI nz, vI 5, vI d4_] [])) t := by
    intro t kt
    show Steps _ _ _ (T0.setTop (mkF m 135 #[vR a1, vI nz, vR b2, vR s3, vR b2, vI nz, vI 5, vI d4_] [])) _
    refine XS.iload X0.here hx rfl (hb hby d1_135) rfl ?_
    show Steps _ _ _ (T0.setTop (mkF m 137 #[vR a1, vI nz, vR b2, vR s3, vR b2, vI nz, vI 5, vI d4_] [iI 5])) _
    refine XS.iload X0.here hx rfl (hb hby d1_137) rfl ?_
    exact kt
  by_cases hc80 : (5 : Int32) < nz
  · obtain ⟨cl82, Ar82, q82, S82, M82, H82, G82⟩ := id V_2
    have hin83 : ¬ ((5 : Int32) < 0 ∨ cl82.slots.size ≤ ((5 : Int32)).toNatClampNeg) := inb_of S82 ⟨by decide, hc80⟩
    have hat84 : cl82.slots[((5 : Int32)).toNatClampNeg]? = some (.int d5_) := Has.at H82 hin83 rfl
    obtain ⟨_, _, ⟨T85, L85, k85, n85⟩, -, X85, ⟨Lc85, hQ85, l85, y85, z85⟩, st85⟩ := Jvm.LawKit.callS X0 hx (y := (⟨"java/lang/Character", "forDigit", "(II)C"⟩ : MethodName)) hown (mvT hZ (hw _ (List.mem_of_getElem? (i := 28) rfl))) (mvT hZ (hw _ (List.mem_of_getElem? (i := 29) rfl))) (mvT hZ (hw _ (List.mem_of_getElem? (i := 30) rfl))) (mvT hZ (hw _ (List.mem_of_getElem? (i := 31) rfl))) (by decide) (backOf (W := 1) (rm5 l Z a0 hw [] d5_ hT ) hZ (hw _ (List.mem_of_getElem? (i := 31) rfl)) (hw _ (List.mem_of_getElem? (i := 30) rfl)) (by decide) (by decide)) (g := (mkF m 154 #[vR a1, vI nz, vR b2, vR s3, vR b2, vI nz, vI 5, vI d5_] [iI 16, iI d5_, iR s3])) rfl (by rw [hml]; rfl) (argsL := [(.int d5_), (.int (16 : Int32))]) (rest := [(.ref s3)]) (lenOf pd_13 rfl) rfl (by show 2 * 0 + _ ≤ _; exact Nat.le_of_eq rfl) (hb hby d1_154) (fun _ _ => ⟨rfl, e0, (by decide : 3 + 0 ≤ _), (by decide : 20 + 0 ≤ _)⟩)
    dsimp only [Pt.U, Pt.locs, Pt.cells, Pt.slots] at X85 l85 y85 z85 st85 hQ85
    subst l85 y85 z85
    obtain ⟨rfl, rfl, e85⟩ := hQ85
    try rw [List.append_nil] at X85
    have Oh87 := O0.keep Kt0 all0
    obtain ⟨cq86, kq86, q86a, q86b, q86c⟩ := isOf hZ e85 E_3
    obtain ⟨_, _, ⟨T86, L86, k86, n86⟩, -, X86, ⟨Lc86, hQ86, l86, y86, z86⟩, st86⟩ := X85.virtualBack hx (y := (⟨"java/lang/StringBuilder", "append", "(C)Ljava/lang/StringBuilder;"⟩ : MethodName)) (z := (⟨"java/lang/StringBuilder", "append", "(C)Ljava/lang/StringBuilder;"⟩ : MethodName)) hown (mvT hZ (hw _ (List.mem_of_getElem? (i := 32) rfl))) (mvT hZ (hw _ (List.mem_of_getElem? (i := 33) rfl))) (notFace_of_selects (args := #[]) (mvT hZ (hw _ (List.mem_of_getElem? (i := 35) rfl)))) (mvT hZ (hw _ (List.mem_of_getElem? (i := 35) rfl))) (mvT hZ (hw _ (List.mem_of_getElem? (i := 34) rfl))) (by decide) (backOf (W := 0) (rm6_5 l Z a0 hw [] s3 (own_fd d5_) b4 k4 nz (nar .byte (own_fd d0_).toInt8.toInt32) (nar .byte (own_fd d1_).toInt8.toInt32) (nar .byte (own_fd d2_).toInt8.toInt32) (nar .byte (own_fd d3_).toInt8.toInt32) (nar .byte (own_fd d4_).toInt8.toInt32) (0 : Int32) (0 : Int32) (0 : Int32) cs hT n0 (Nat.le_trans Z0 Kt0.1) Oh87 E_3 g_s3 g_b4 F_value F_coder F_count V_4 ne_s3_b4 hc80 (own_fdl _) S_CS h_cs) hZ (hw _ (List.mem_of_getElem? (i := 36) rfl)) (hw _ (List.mem_of_getElem? (i := 8) rfl)) (by decide) (by decide)) q86a q86c (g := (mkF m 157 #[vR a1, vI nz, vR b2, vR s3, vR b2, vI nz, vI 5, vI d5_] [iI (own_fd d5_), iR s3])) rfl (by rw [hml]; rfl) (Steps.refl _) (argsL := [(.int (own_fd d5_))]) (rest := []) (lenOf pd_14 rfl) rfl (by show 2 * 0 + _ ≤ _; exact Nat.le_of_eq rfl) (hb hby d1_157) (fun _ _ => ⟨rfl, e85, (by decide : 3 + 0 ≤ _), (by decide : 20 + 0 ≤ _)⟩)
    dsimp only [Pt.U, Pt.locs, Pt.cells, Pt.slots] at X86 l86 y86 z86 st86 hQ86
    subst l86 y86 z86
    obtain ⟨rfl, N86q, K86q, E86q, Fv86q, Fc86q, Fn86q, V86q⟩ := hQ86
    have N86 := Fr.app N0 N86q
    have K86 : Keep h0 T86.heap [] := Keep.trans Kt0 K86q (allS (Or.inr sz_s3) (allS (Or.inr sz_b4) all0))
    have fk88 := (V_2.keep K86q (ninS (Ne.symm ne_s3_b2) (ninS (Ne.symm ne_b4_b2) nin0)))
    have fk89 := (G_4.keep K86q)
    have pre90 : ∀ t, Steps p.tables e below (T86.setTop (mkF m 135 #[vR a1, vI nz, vR b2, vR s3, vR b2, vI nz, vI 6, vI d5_] [])) t → Steps p.tables e below (T0.setTop (mkF m 135 #[vR a1, vI nz, vR b2, vR s3, vR b2, vI nz, vI 5, vI d4_] [])) t := by
      intro t kt
      refine pre81 t ?_
      show Steps _ _ _ (T0.setTop (mkF m 139 #[vR a1, vI nz, vR b2, vR s3, vR b2, vI nz, vI 5, vI d4_] [iI nz, iI 5])) _
      refine XS.icmpNo X0.here hx rfl (hb hby d1_139) rfl (tlt hc80).2.1 ?_
      show Steps _ _ _ (T0.setTop (mkF m 142 #[vR a1, vI nz, vR b2, vR s3, vR b2, vI nz, vI 5, vI d4_] [])) _
      refine XS.aload X0.here hx rfl (hb hby d1_142) rfl rfl ?_
      show Steps _ _ _ (T0.setTop (mkF m 144 #[vR a1, vI nz, vR b2, vR s3, vR b2, vI nz, vI 5, vI d4_] [iR b2])) _
      refine XS.iload X0.here hx rfl (hb hby d1_144) rfl ?_
      show Steps _ _ _ (T0.setTop (mkF m 146 #[vR a1, vI nz, vR b2, vR s3, vR b2, vI nz, vI 5, vI d4_] [iI 5, iR b2])) _
      refine X0.iaload hx (j := (5 : Int32)) (v := (.int d5_)) (by rw [e0]; exact Ar82.1) (State.isArrayOf_alike hZ.alike Ar82.2.1) Ar82.2.2 hin83 hat84 (g := (mkF m 146 #[vR a1, vI nz, vR b2, vR s3, vR b2, vI nz, vI 5, vI d4_] [iI 5, iR b2])) rfl rfl (hb hby d1_146) _ ?_
      show Steps _ _ _ (T0.setTop (mkF m 147 #[vR a1, vI nz, vR b2, vR s3, vR b2, vI nz, vI 5, vI d4_] [iI d5_])) _
      refine XS.istore X0.here hx rfl (hb hby d1_147) rfl (l' := #[vR a1, vI nz, vR b2, vR s3, vR b2, vI nz, vI 5, vI d5_]) rfl ?_
      show Steps _ _ _ (T0.setTop (mkF m 149 #[vR a1, vI nz, vR b2, vR s3, vR b2, vI nz, vI 5, vI d5_] [])) _
      refine XS.aloadN X0.here hx rfl (hb hby d1_149) rfl rfl ?_
      show Steps _ _ _ (T0.setTop (mkF m 150 #[vR a1, vI nz, vR b2, vR s3, vR b2, vI nz, vI 5, vI d5_] [iR s3])) _
      refine XS.iload X0.here hx rfl (hb hby d1_150) rfl ?_
      show Steps _ _ _ (T0.setTop (mkF m 152 #[vR a1, vI nz, vR b2, vR s3, vR b2, vI nz, vI 5, vI d5_] [iI d5_, iR s3])) _
      refine XS.bipush X0.here hx rfl (hb hby d1_152) ?_
      show Steps _ _ _ (T0.setTop (mkF m 154 #[vR a1, vI nz, vR b2, vR s3, vR b2, vI nz, vI 5, vI d5_] [iI 16, iI d5_, iR s3])) _
      refine st85 _ ?_
      show Steps _ _ _ (T85.setTop (mkF m 157 #[vR a1, vI nz, vR b2, vR s3, vR b2, vI nz, vI 5, vI d5_] [iI (own_fd d5_), iR s3])) _
      refine st86.trans ?_
      show Steps _ _ _ (T86.setTop (mkF m 160 #[vR a1, vI nz, vR b2, vR s3, vR b2, vI nz, vI 5, vI d5_] [iR s3])) _
      refine XS.pop X86.here hx rfl (hb hby d1_160) rfl rfl ?_
      show Steps _ _ _ (T86.setTop (mkF m 161 #[vR a1, vI nz, vR b2, vR s3, vR b2, vI nz, vI 5, vI d5_] [])) _
      refine XS.iinc X86.here hx rfl (hb hby d1_161) rfl (l' := #[vR a1, vI nz, vR b2, vR s3, vR b2, vI nz, vI ((5 : Int32) + (1 : Int32)), vI d5_]) rfl ?_
      rw [(by decide : ((5 : Int32) + (1 : Int32)) = (6 : Int32))]
      show Steps _ _ _ (T86.setTop (mkF m 164 #[vR a1, vI nz, vR b2, vR s3, vR b2, vI nz, vI 6, vI d5_] [])) _
      refine XS.goto X86.here hx rfl (pc0 := 164) (pc' := 135) rfl (hb hby d1_164) (by decide) (by decide) ?_
      exact kt
    obtain ⟨s₂, o₂, hs₂, hr₂⟩ := own_turn6 X86 hx hZ hw hby hml hown hret (by first | assumption | exact BodyLoose.notSynchronized (by assumption) | exact Body.notSynchronized (by assumption)) (rfl : T86.heap = _) K86 N86 Z0 O0 fk88 g_b2 sz_b2 E86q Fv86q Fc86q Fn86q V86q fk89 g_s3 sz_s3 g_b4 sz_b4 ne_s3_b4 ne_s3_b2 ne_b4_b2 hn0 hn8 hn1 hc80 S_CS h_cs
    exact ⟨s₂, o₂, pre90 _ hs₂, hr₂⟩
  · have qz : nz = (5 : Int32) := own_is5 hc80 hlo
    have pre91 : ∀ t, Steps p.tables e below (T0.setTop (mkF m 167 #[vR a1, vI nz, vR b2, vR s3, vR b2, vI nz, vI 5, vI d4_] [])) t → Steps p.tables e below (T0.setTop (mkF m 135 #[vR a1, vI nz, vR b2, vR s3, vR b2, vI nz, vI 5, vI d4_] [])) t := by
      intro t kt
      refine pre81 t ?_
      show Steps _ _ _ (T0.setTop (mkF m 139 #[vR a1, vI nz, vR b2, vR s3, vR b2, vI nz, vI 5, vI d4_] [iI nz, iI 5])) _
      refine XS.icmpYes X0.here hx rfl (pc0 := 139) (pc' := 167) rfl (hb hby d1_139) rfl (flt hc80).2.1 (by decide) (by decide) ?_
      exact kt
    rcases qz with rfl
    · have Oh93 := O0.keep Kt0 all0
      obtain ⟨cq92, kq92, q92a, q92b, q92c⟩ := isOf hZ e0 E_3
      obtain ⟨_, _, ⟨T92, L92, k92, n92⟩, -, X92, ⟨Lc92, hQ92, l92, y92, z92⟩, st92⟩ := X0.virtualBack hx (y := (⟨"java/lang/StringBuilder", "toString", "()Ljava/lang/String;"⟩ : MethodName)) (z := (⟨"java/lang/StringBuilder", "toString", "()Ljava/lang/String;"⟩ : MethodName)) hown (mvT hZ (hw _ (List.mem_of_getElem? (i := 58) rfl))) (mvT hZ (hw _ (List.mem_of_getElem? (i := 59) rfl))) (notFace_of_selects (args := #[]) (mvT hZ (hw _ (List.mem_of_getElem? (i := 61) rfl)))) (mvT hZ (hw _ (List.mem_of_getElem? (i := 61) rfl))) (mvT hZ (hw _ (List.mem_of_getElem? (i := 60) rfl))) (by decide) (backOf (W := 0) (rm11 l Z a0 hw [] s3 b4 k4 (5 : Int32) (nar .byte (own_fd d0_).toInt8.toInt32) (nar .byte (own_fd d1_).toInt8.toInt32) (nar .byte (own_fd d2_).toInt8.toInt32) (nar .byte (own_fd d3_).toInt8.toInt32) (nar .byte (own_fd d4_).toInt8.toInt32) (0 : Int32) (0 : Int32) (0 : Int32) cs hT n0 (Nat.le_trans Z0 Kt0.1) Oh93 E_3 F_value F_coder F_count V_4 G_4 hn0 hn8 S_CS h_cs) hZ (hw _ (List.mem_of_getElem? (i := 62) rfl)) (hw _ (List.mem_of_getElem? (i := 8) rfl)) (by decide) (by decide)) q92a q92c (g := (mkF m 168 #[vR a1, vI 5, vR b2, vR s3, vR b2, vI 5, vI 5, vI d4_] [iR s3])) rfl (by rw [hml]; rfl) (Steps.refl _) (argsL := []) (rest := []) (lenOf pd_15 rfl) rfl (by show 2 * 0 + _ ≤ _; exact Nat.le_of_eq rfl) (hb hby d1_168) (fun _ _ => ⟨rfl, e0, (by decide : 3 + 2 ≤ _), (by decide : 20 + 12 ≤ _)⟩)
      dsimp only [Pt.U, Pt.locs, Pt.cells, Pt.slots] at X92 l92 y92 z92 st92 hQ92
      subst l92 y92 z92
      obtain ⟨o92, d92, rfl, N92q, K92q, E92q, C92q, F92q, V92q⟩ := hQ92
      have N92 := Fr.app N0 N92q
      have K92 : Keep h0 T92.heap [] := Keep.trans Kt0 K92q all0
      obtain ⟨fs, hr, hrun, hended, hW, hsame⟩ := X92.leave (v := some (.ref o92)) (fun h => by rw [hret] at h; cases h)
      refine ⟨_, _, pre91 _ ?_, hrun, hended, _, _, rfl, ?_, ⟨_, rfl⟩, hW, hsame.mono (by decide) (by decide)⟩
      · show Steps _ _ _ (T0.setTop (mkF m 167 #[vR a1, vI 5, vR b2, vR s3, vR b2, vI 5, vI 5, vI d4_] [])) _
        refine XS.aloadN X0.here hx rfl (hb hby d1_167) rfl rfl ?_
        show Steps _ _ _ (T0.setTop (mkF m 168 #[vR a1, vI 5, vR b2, vR s3, vR b2, vI 5, vI 5, vI d4_] [iR s3])) _
        refine st92.trans ?_
        show Steps _ _ _ (T92.setTop (mkF m 171 #[vR a1, vI 5, vR b2, vR s3, vR b2, vI 5, vI 5, vI d4_] [iR o92])) _
        jvm_step X92.here [X92.here.top, hx, (hb hby d1_171), X92.method', hret, Value.isRef, FieldType.isReference]
        first | (intro acts; rw [hr _ acts rfl rfl rfl]) | rw [hr _ _ rfl rfl rfl]
        exact Steps.refl _
      · show own_QT Z (5 : Int32) d0_ d1_ d2_ d3_ d4_ d5_ d6_ d7_ h0 n0 _ T92.heap _
        exact ⟨_, _, _, rfl, N92, K92, E92q, C92q, F92q, (own_cut V92q (fun i hi => by match i, hi with | 0, _ => rfl | 1, _ => rfl | 2, _ => rfl | 3, _ => rfl | 4, _ => rfl | _ + 5, h => exact absurd h (by simp [Int32.toNatClampNeg])))⟩
set_option maxRecDepth 65536 in
set_option maxHeartbeats 40000000 in
theorem own_turn4 {p : Program} {l : Launch} {e : Env} {s : State} {m : MethodId} {below : List Frame} {meth : Method} {c : Code} {T0 : State} {locs : List Loc} {Z : State} {a0 : Array Value} {h0 hT : Heap} {n0 : Nat} {a1 b2 : Addr} {k2 : ClassId} {nz : Int32} {d0_ : Int32} {d1_ : Int32} {d2_ : Int32} {d3_ : Int32} {d4_ : Int32} {d5_ : Int32} {d6_ : Int32} {d7_ : Int32} {cs : Int32} {s3 b4 : Addr} {k4 : ClassId}
    (X0 : Stand p l e ({ frames := 5, cells := 5, slots := 32, locals := 71 } : Room) s m #[(.ref a1)] below meth c T0 locs 3 20) (hx : p.tables.exec = Jvm.exec) (hZ : Z.Warmed39 s.vm) (hw : ∀ d ∈ tables_1, d.before a0 Z = true) (hby : c.code = prog_29_method_3_code) (hml : c.maxLocals = 8) (hown : s.vm.findClass "com/example/cloud_to_core/cloudtocore/model/SupportedFeatures" = some m.cls) (hret : meth.sig.returnType = some (.object "java/lang/String")) (hlocks : meth.locks = false) (e0 : T0.heap = hT) (Kt0 : Keep h0 hT []) (N0 : Fr n0 locs) (Z0 : n0 ≤ h0.size) (O0 : Old Z n0 h0) (V_2 : Arv Z hT b2 k2 .int nz [(.int d0_), (.int d1_), (.int d2_), (.int d3_), (.int d4_), (.int d5_), (.int d6_), (.int d7_)] (.int (0 : Int32))) (g_b2 : n0 ≤ b2) (sz_b2 : h0.size ≤ b2) (E_3 : Exa Z hT s3 "java/lang/StringBuilder") (F_value : Fld Z hT s3 "java/lang/AbstractStringBuilder" "value" "[B" (.ref b4)) (F_coder : Fld Z hT s3 "java/lang/AbstractStringBuilder" "coder" "B" (.int (0 : Int32))) (F_count : Fld Z hT s3 "java/lang/AbstractStringBuilder" "count" "I" (.int (4 : Int32))) (V_4 : Arv Z hT b4 k4 .byte nz [(.int (nar .byte (own_fd d0_).toInt8.toInt32)), (.int (nar .byte (own_fd d1_).toInt8.toInt32)), (.int (nar .byte (own_fd d2_).toInt8.toInt32)), (.int (nar .byte (own_fd d3_).toInt8.toInt32)), (.int (0 : Int32)), (.int (0 : Int32)), (.int (0 : Int32)), (.int (0 : Int32))] (.int (0 : Int32))) (G_4 : Exa Z hT b4 "[B") (g_s3 : n0 ≤ s3) (sz_s3 : h0.size ≤ s3) (g_b4 : n0 ≤ b4) (sz_b4 : h0.size ≤ b4) (ne_s3_b4 : s3 ≠ b4) (ne_s3_b2 : s3 ≠ b2) (ne_b4_b2 : b4 ≠ b2) (hn0 : ¬ nz < 0) (hn8 : nz.toNatClampNeg ≤ 8) (hn1 : (0 : Int32) < nz) (hlo : (3 : Int32) < nz) (S_CS : Sta Z Z.heap "java/lang/String" "COMPACT_STRINGS" "Z" (.int cs)) (h_cs : ¬ cs = (0 : Int32)) :
    ∃ s₂ o, Steps p.tables e below (T0.setTop (mkF m 135 #[vR a1, vI nz, vR b2, vR s3, vR b2, vI nz, vI 4, vI d3_] [])) s₂ ∧ s₂.status = .running ∧ Ended s₂ below o ∧ ∃ v L, o = .returned v ∧ own_QT Z nz d0_ d1_ d2_ d3_ d4_ d5_ d6_ d7_ h0 n0 v s₂.heap L ∧ FrameEnd s o s₂ L ({ frames := 5, cells := 5, slots := 32, locals := 71 } : Room).cells ({ frames := 5, cells := 5, slots := 32, locals := 71 } : Room).slots := by
  have pre67 : ∀ t, Steps p.tables e below (T0.setTop (mkF m 139 #[vR a1, vI nz, vR b2, vR s3, vR b2, vI nz, vI 4, vI d3_] [iI nz, iI 4])) t → Steps p.tables e below (T0.setTop (mkF m 135 #[vR a1, vI nz, vR b2, vR s3, vR b2, vI nz, vI 4, vI d3_] [])) t := by
    intro t kt
    show Steps _ _ _ (T0.setTop (mkF m 135 #[vR a1, vI nz, vR b2, vR s3, vR b2, vI nz, vI 4, vI d3_] [])) _
    refine XS.iload X0.here hx rfl (hb hby d1_135) rfl ?_
    show Steps _ _ _ (T0.setTop (mkF m 137 #[vR a1, vI nz, vR b2, vR s3, vR b2, vI nz, vI 4, vI d3_] [iI 4])) _
    refine XS.iload X0.here hx rfl (hb hby d1_137) rfl ?_
    exact kt
  by_cases hc66 : (4 : Int32) < nz
  · obtain ⟨cl68, Ar68, q68, S68, M68, H68, G68⟩ := id V_2
    have hin69 : ¬ ((4 : Int32) < 0 ∨ cl68.slots.size ≤ ((4 : Int32)).toNatClampNeg) := inb_of S68 ⟨by decide, hc66⟩
    have hat70 : cl68.slots[((4 : Int32)).toNatClampNeg]? = some (.int d4_) := Has.at H68 hin69 rfl
    obtain ⟨_, _, ⟨T71, L71, k71, n71⟩, -, X71, ⟨Lc71, hQ71, l71, y71, z71⟩, st71⟩ := Jvm.LawKit.callS X0 hx (y := (⟨"java/lang/Character", "forDigit", "(II)C"⟩ : MethodName)) hown (mvT hZ (hw _ (List.mem_of_getElem? (i := 28) rfl))) (mvT hZ (hw _ (List.mem_of_getElem? (i := 29) rfl))) (mvT hZ (hw _ (List.mem_of_getElem? (i := 30) rfl))) (mvT hZ (hw _ (List.mem_of_getElem? (i := 31) rfl))) (by decide) (backOf (W := 1) (rm5 l Z a0 hw [] d4_ hT ) hZ (hw _ (List.mem_of_getElem? (i := 31) rfl)) (hw _ (List.mem_of_getElem? (i := 30) rfl)) (by decide) (by decide)) (g := (mkF m 154 #[vR a1, vI nz, vR b2, vR s3, vR b2, vI nz, vI 4, vI d4_] [iI 16, iI d4_, iR s3])) rfl (by rw [hml]; rfl) (argsL := [(.int d4_), (.int (16 : Int32))]) (rest := [(.ref s3)]) (lenOf pd_13 rfl) rfl (by show 2 * 0 + _ ≤ _; exact Nat.le_of_eq rfl) (hb hby d1_154) (fun _ _ => ⟨rfl, e0, (by decide : 3 + 0 ≤ _), (by decide : 20 + 0 ≤ _)⟩)
    dsimp only [Pt.U, Pt.locs, Pt.cells, Pt.slots] at X71 l71 y71 z71 st71 hQ71
    subst l71 y71 z71
    obtain ⟨rfl, rfl, e71⟩ := hQ71
    try rw [List.append_nil] at X71
    have Oh73 := O0.keep Kt0 all0
    obtain ⟨cq72, kq72, q72a, q72b, q72c⟩ := isOf hZ e71 E_3
    obtain ⟨_, _, ⟨T72, L72, k72, n72⟩, -, X72, ⟨Lc72, hQ72, l72, y72, z72⟩, st72⟩ := X71.virtualBack hx (y := (⟨"java/lang/StringBuilder", "append", "(C)Ljava/lang/StringBuilder;"⟩ : MethodName)) (z := (⟨"java/lang/StringBuilder", "append", "(C)Ljava/lang/StringBuilder;"⟩ : MethodName)) hown (mvT hZ (hw _ (List.mem_of_getElem? (i := 32) rfl))) (mvT hZ (hw _ (List.mem_of_getElem? (i := 33) rfl))) (notFace_of_selects (args := #[]) (mvT hZ (hw _ (List.mem_of_getElem? (i := 35) rfl)))) (mvT hZ (hw _ (List.mem_of_getElem? (i := 35) rfl))) (mvT hZ (hw _ (List.mem_of_getElem? (i := 34) rfl))) (by decide) (backOf (W := 0) (rm6_4 l Z a0 hw [] s3 (own_fd d4_) b4 k4 nz (nar .byte (own_fd d0_).toInt8.toInt32) (nar .byte (own_fd d1_).toInt8.toInt32) (nar .byte (own_fd d2_).toInt8.toInt32) (nar .byte (own_fd d3_).toInt8.toInt32) (0 : Int32) (0 : Int32) (0 : Int32) (0 : Int32) cs hT n0 (Nat.le_trans Z0 Kt0.1) Oh73 E_3 g_s3 g_b4 F_value F_coder F_count V_4 ne_s3_b4 hc66 (own_fdl _) S_CS h_cs) hZ (hw _ (List.mem_of_getElem? (i := 36) rfl)) (hw _ (List.mem_of_getElem? (i := 8) rfl)) (by decide) (by decide)) q72a q72c (g := (mkF m 157 #[vR a1, vI nz, vR b2, vR s3, vR b2, vI nz, vI 4, vI d4_] [iI (own_fd d4_), iR s3])) rfl (by rw [hml]; rfl) (Steps.refl _) (argsL := [(.int (own_fd d4_))]) (rest := []) (lenOf pd_14 rfl) rfl (by show 2 * 0 + _ ≤ _; exact Nat.le_of_eq rfl) (hb hby d1_157) (fun _ _ => ⟨rfl, e71, (by decide : 3 + 0 ≤ _), (by decide : 20 + 0 ≤ _)⟩)
    dsimp only [Pt.U, Pt.locs, Pt.cells, Pt.slots] at X72 l72 y72 z72 st72 hQ72
    subst l72 y72 z72
    obtain ⟨rfl, N72q, K72q, E72q, Fv72q, Fc72q, Fn72q, V72q⟩ := hQ72
    have N72 := Fr.app N0 N72q
    have K72 : Keep h0 T72.heap [] := Keep.trans Kt0 K72q (allS (Or.inr sz_s3) (allS (Or.inr sz_b4) all0))
    have fk74 := (V_2.keep K72q (ninS (Ne.symm ne_s3_b2) (ninS (Ne.symm ne_b4_b2) nin0)))
    have fk75 := (G_4.keep K72q)
    have pre76 : ∀ t, Steps p.tables e below (T72.setTop (mkF m 135 #[vR a1, vI nz, vR b2, vR s3, vR b2, vI nz, vI 5, vI d4_] [])) t → Steps p.tables e below (T0.setTop (mkF m 135 #[vR a1, vI nz, vR b2, vR s3, vR b2, vI nz, vI 4, vI d3_] [])) t := by
      intro t kt
      refine pre67 t ?_
      show Steps _ _ _ (T0.setTop (mkF m 139 #[vR a1, vI nz, vR b2, vR s3, vR b2, vI nz, vI 4, vI d3_] [iI nz, iI 4])) _
      refine XS.icmpNo X0.here hx rfl (hb hby d1_139) rfl (tlt hc66).2.1 ?_
      show Steps _ _ _ (T0.setTop (mkF m 142 #[vR a1, vI nz, vR b2, vR s3, vR b2, vI nz, vI 4, vI d3_] [])) _
      refine XS.aload X0.here hx rfl (hb hby d1_142) rfl rfl ?_
      show Steps _ _ _ (T0.setTop (mkF m 144 #[vR a1, vI nz, vR b2, vR s3, vR b2, vI nz, vI 4, vI d3_] [iR b2])) _
      refine XS.iload X0.here hx rfl (hb hby d1_144) rfl ?_
      show Steps _ _ _ (T0.setTop (mkF m 146 #[vR a1, vI nz, vR b2, vR s3, vR b2, vI nz, vI 4, vI d3_] [iI 4, iR b2])) _
      refine X0.iaload hx (j := (4 : Int32)) (v := (.int d4_)) (by rw [e0]; exact Ar68.1) (State.isArrayOf_alike hZ.alike Ar68.2.1) Ar68.2.2 hin69 hat70 (g := (mkF m 146 #[vR a1, vI nz, vR b2, vR s3, vR b2, vI nz, vI 4, vI d3_] [iI 4, iR b2])) rfl rfl (hb hby d1_146) _ ?_
      show Steps _ _ _ (T0.setTop (mkF m 147 #[vR a1, vI nz, vR b2, vR s3, vR b2, vI nz, vI 4, vI d3_] [iI d4_])) _
      refine XS.istore X0.here hx rfl (hb hby d1_147) rfl (l' := #[vR a1, vI nz, vR b2, vR s3, vR b2, vI nz, vI 4, vI d4_]) rfl ?_
      show Steps _ _ _ (T0.setTop (mkF m 149 #[vR a1, vI nz, vR b2, vR s3, vR b2, vI nz, vI 4, vI d4_] [])) _
      refine XS.aloadN X0.here hx rfl (hb hby d1_149) rfl rfl ?_
      show Steps _ _ _ (T0.setTop (mkF m 150 #[vR a1, vI nz, vR b2, vR s3, vR b2, vI nz, vI 4, vI d4_] [iR s3])) _
      refine XS.iload X0.here hx rfl (hb hby d1_150) rfl ?_
      show Steps _ _ _ (T0.setTop (mkF m 152 #[vR a1, vI nz, vR b2, vR s3, vR b2, vI nz, vI 4, vI d4_] [iI d4_, iR s3])) _
      refine XS.bipush X0.here hx rfl (hb hby d1_152) ?_
      show Steps _ _ _ (T0.setTop (mkF m 154 #[vR a1, vI nz, vR b2, vR s3, vR b2, vI nz, vI 4, vI d4_] [iI 16, iI d4_, iR s3])) _
      refine st71 _ ?_
      show Steps _ _ _ (T71.setTop (mkF m 157 #[vR a1, vI nz, vR b2, vR s3, vR b2, vI nz, vI 4, vI d4_] [iI (own_fd d4_), iR s3])) _
      refine st72.trans ?_
      show Steps _ _ _ (T72.setTop (mkF m 160 #[vR a1, vI nz, vR b2, vR s3, vR b2, vI nz, vI 4, vI d4_] [iR s3])) _
      refine XS.pop X72.here hx rfl (hb hby d1_160) rfl rfl ?_
      show Steps _ _ _ (T72.setTop (mkF m 161 #[vR a1, vI nz, vR b2, vR s3, vR b2, vI nz, vI 4, vI d4_] [])) _
      refine XS.iinc X72.here hx rfl (hb hby d1_161) rfl (l' := #[vR a1, vI nz, vR b2, vR s3, vR b2, vI nz, vI ((4 : Int32) + (1 : Int32)), vI d4_]) rfl ?_
      rw [(by decide : ((4 : Int32) + (1 : Int32)) = (5 : Int32))]
      show Steps _ _ _ (T72.setTop (mkF m 164 #[vR a1, vI nz, vR b2, vR s3, vR b2, vI nz, vI 5, vI d4_] [])) _
      refine XS.goto X72.here hx rfl (pc0 := 164) (pc' := 135) rfl (hb hby d1_164) (by decide) (by decide) ?_
      exact kt
    obtain ⟨s₂, o₂, hs₂, hr₂⟩ := own_turn5 X72 hx hZ hw hby hml hown hret (by first | assumption | exact BodyLoose.notSynchronized (by assumption) | exact Body.notSynchronized (by assumption)) (rfl : T72.heap = _) K72 N72 Z0 O0 fk74 g_b2 sz_b2 E72q Fv72q Fc72q Fn72q V72q fk75 g_s3 sz_s3 g_b4 sz_b4 ne_s3_b4 ne_s3_b2 ne_b4_b2 hn0 hn8 hn1 hc66 S_CS h_cs
    exact ⟨s₂, o₂, pre76 _ hs₂, hr₂⟩
  · have qz : nz = (4 : Int32) := own_is4 hc66 hlo
    have pre77 : ∀ t, Steps p.tables e below (T0.setTop (mkF m 167 #[vR a1, vI nz, vR b2, vR s3, vR b2, vI nz, vI 4, vI d3_] [])) t → Steps p.tables e below (T0.setTop (mkF m 135 #[vR a1, vI nz, vR b2, vR s3, vR b2, vI nz, vI 4, vI d3_] [])) t := by
      intro t kt
      refine pre67 t ?_
      show Steps _ _ _ (T0.setTop (mkF m 139 #[vR a1, vI nz, vR b2, vR s3, vR b2, vI nz, vI 4, vI d3_] [iI nz, iI 4])) _
      refine XS.icmpYes X0.here hx rfl (pc0 := 139) (pc' := 167) rfl (hb hby d1_139) rfl (flt hc66).2.1 (by decide) (by decide) ?_
      exact kt
    rcases qz with rfl
    · have Oh79 := O0.keep Kt0 all0
      obtain ⟨cq78, kq78, q78a, q78b, q78c⟩ := isOf hZ e0 E_3
      obtain ⟨_, _, ⟨T78, L78, k78, n78⟩, -, X78, ⟨Lc78, hQ78, l78, y78, z78⟩, st78⟩ := X0.virtualBack hx (y := (⟨"java/lang/StringBuilder", "toString", "()Ljava/lang/String;"⟩ : MethodName)) (z := (⟨"java/lang/StringBuilder", "toString", "()Ljava/lang/String;"⟩ : MethodName)) hown (mvT hZ (hw _ (List.mem_of_getElem? (i := 58) rfl))) (mvT hZ (hw _ (List.mem_of_getElem? (i := 59) rfl))) (notFace_of_selects (args := #[]) (mvT hZ (hw _ (List.mem_of_getElem? (i := 61) rfl)))) (mvT hZ (hw _ (List.mem_of_getElem? (i := 61) rfl))) (mvT hZ (hw _ (List.mem_of_getElem? (i := 60) rfl))) (by decide) (backOf (W := 0) (rm11 l Z a0 hw [] s3 b4 k4 (4 : Int32) (nar .byte (own_fd d0_).toInt8.toInt32) (nar .byte (own_fd d1_).toInt8.toInt32) (nar .byte (own_fd d2_).toInt8.toInt32) (nar .byte (own_fd d3_).toInt8.toInt32) (0 : Int32) (0 : Int32) (0 : Int32) (0 : Int32) cs hT n0 (Nat.le_trans Z0 Kt0.1) Oh79 E_3 F_value F_coder F_count V_4 G_4 hn0 hn8 S_CS h_cs) hZ (hw _ (List.mem_of_getElem? (i := 62) rfl)) (hw _ (List.mem_of_getElem? (i := 8) rfl)) (by decide) (by decide)) q78a q78c (g := (mkF m 168 #[vR a1, vI 4, vR b2, vR s3, vR b2, vI 4, vI 4, vI d3_] [iR s3])) rfl (by rw [hml]; rfl) (Steps.refl _) (argsL := []) (rest := []) (lenOf pd_15 rfl) rfl (by show 2 * 0 + _ ≤ _; exact Nat.le_of_eq rfl) (hb hby d1_168) (fun _ _ => ⟨rfl, e0, (by decide : 3 + 2 ≤ _), (by decide : 20 + 12 ≤ _)⟩)
      dsimp only [Pt.U, Pt.locs, Pt.cells, Pt.slots] at X78 l78 y78 z78 st78 hQ78
      subst l78 y78 z78
      obtain ⟨o78, d78, rfl, N78q, K78q, E78q, C78q, F78q, V78q⟩ := hQ78
      have N78 := Fr.app N0 N78q
      have K78 : Keep h0 T78.heap [] := Keep.trans Kt0 K78q all0
      obtain ⟨fs, hr, hrun, hended, hW, hsame⟩ := X78.leave (v := some (.ref o78)) (fun h => by rw [hret] at h; cases h)
      refine ⟨_, _, pre77 _ ?_, hrun, hended, _, _, rfl, ?_, ⟨_, rfl⟩, hW, hsame.mono (by decide) (by decide)⟩
      · show Steps _ _ _ (T0.setTop (mkF m 167 #[vR a1, vI 4, vR b2, vR s3, vR b2, vI 4, vI 4, vI d3_] [])) _
        refine XS.aloadN X0.here hx rfl (hb hby d1_167) rfl rfl ?_
        show Steps _ _ _ (T0.setTop (mkF m 168 #[vR a1, vI 4, vR b2, vR s3, vR b2, vI 4, vI 4, vI d3_] [iR s3])) _
        refine st78.trans ?_
        show Steps _ _ _ (T78.setTop (mkF m 171 #[vR a1, vI 4, vR b2, vR s3, vR b2, vI 4, vI 4, vI d3_] [iR o78])) _
        jvm_step X78.here [X78.here.top, hx, (hb hby d1_171), X78.method', hret, Value.isRef, FieldType.isReference]
        first | (intro acts; rw [hr _ acts rfl rfl rfl]) | rw [hr _ _ rfl rfl rfl]
        exact Steps.refl _
      · show own_QT Z (4 : Int32) d0_ d1_ d2_ d3_ d4_ d5_ d6_ d7_ h0 n0 _ T78.heap _
        exact ⟨_, _, _, rfl, N78, K78, E78q, C78q, F78q, (own_cut V78q (fun i hi => by match i, hi with | 0, _ => rfl | 1, _ => rfl | 2, _ => rfl | 3, _ => rfl | _ + 4, h => exact absurd h (by simp [Int32.toNatClampNeg])))⟩
set_option maxRecDepth 65536 in
set_option maxHeartbeats 40000000 in
theorem own_turn3 {p : Program} {l : Launch} {e : Env} {s : State} {m : MethodId} {below : List Frame} {meth : Method} {c : Code} {T0 : State} {locs : List Loc} {Z : State} {a0 : Array Value} {h0 hT : Heap} {n0 : Nat} {a1 b2 : Addr} {k2 : ClassId} {nz : Int32} {d0_ : Int32} {d1_ : Int32} {d2_ : Int32} {d3_ : Int32} {d4_ : Int32} {d5_ : Int32} {d6_ : Int32} {d7_ : Int32} {cs : Int32} {s3 b4 : Addr} {k4 : ClassId}
    (X0 : Stand p l e ({ frames := 5, cells := 5, slots := 32, locals := 71 } : Room) s m #[(.ref a1)] below meth c T0 locs 3 20) (hx : p.tables.exec = Jvm.exec) (hZ : Z.Warmed39 s.vm) (hw : ∀ d ∈ tables_1, d.before a0 Z = true) (hby : c.code = prog_29_method_3_code) (hml : c.maxLocals = 8) (hown : s.vm.findClass "com/example/cloud_to_core/cloudtocore/model/SupportedFeatures" = some m.cls) (hret : meth.sig.returnType = some (.object "java/lang/String")) (hlocks : meth.locks = false) (e0 : T0.heap = hT) (Kt0 : Keep h0 hT []) (N0 : Fr n0 locs) (Z0 : n0 ≤ h0.size) (O0 : Old Z n0 h0) (V_2 : Arv Z hT b2 k2 .int nz [(.int d0_), (.int d1_), (.int d2_), (.int d3_), (.int d4_), (.int d5_), (.int d6_), (.int d7_)] (.int (0 : Int32))) (g_b2 : n0 ≤ b2) (sz_b2 : h0.size ≤ b2) (E_3 : Exa Z hT s3 "java/lang/StringBuilder") (F_value : Fld Z hT s3 "java/lang/AbstractStringBuilder" "value" "[B" (.ref b4)) (F_coder : Fld Z hT s3 "java/lang/AbstractStringBuilder" "coder" "B" (.int (0 : Int32))) (F_count : Fld Z hT s3 "java/lang/AbstractStringBuilder" "count" "I" (.int (3 : Int32))) (V_4 : Arv Z hT b4 k4 .byte nz [(.int (nar .byte (own_fd d0_).toInt8.toInt32)), (.int (nar .byte (own_fd d1_).toInt8.toInt32)), (.int (nar .byte (own_fd d2_).toInt8.toInt32)), (.int (0 : Int32)), (.int (0 : Int32)), (.int (0 : Int32)), (.int (0 : Int32)), (.int (0 : Int32))] (.int (0 : Int32))) (G_4 : Exa Z hT b4 "[B") (g_s3 : n0 ≤ s3) (sz_s3 : h0.size ≤ s3) (g_b4 : n0 ≤ b4) (sz_b4 : h0.size ≤ b4) (ne_s3_b4 : s3 ≠ b4) (ne_s3_b2 : s3 ≠ b2) (ne_b4_b2 : b4 ≠ b2) (hn0 : ¬ nz < 0) (hn8 : nz.toNatClampNeg ≤ 8) (hn1 : (0 : Int32) < nz) (hlo : (2 : Int32) < nz) (S_CS : Sta Z Z.heap "java/lang/String" "COMPACT_STRINGS" "Z" (.int cs)) (h_cs : ¬ cs = (0 : Int32)) :
    ∃ s₂ o, Steps p.tables e below (T0.setTop (mkF m 135 #[vR a1, vI nz, vR b2, vR s3, vR b2, vI nz, vI 3, vI d2_] [])) s₂ ∧ s₂.status = .running ∧ Ended s₂ below o ∧ ∃ v L, o = .returned v ∧ own_QT Z nz d0_ d1_ d2_ d3_ d4_ d5_ d6_ d7_ h0 n0 v s₂.heap L ∧ FrameEnd s o s₂ L ({ frames := 5, cells := 5, slots := 32, locals := 71 } : Room).cells ({ frames := 5, cells := 5, slots := 32, locals := 71 } : Room).slots := by
  have pre53 : ∀ t, Steps p.tables e below (T0.setTop (mkF m 139 #[vR a1, vI nz, vR b2, vR s3, vR b2, vI nz, vI 3, vI d2_] [iI nz, iI 3])) t → Steps p.tables e below (T0.setTop (mkF m 135 #[vR a1, vI nz, vR b2, vR s3, vR b2, vI nz, vI 3, vI d2_] [])) t := by
    intro t kt
    show Steps _ _ _ (T0.setTop (mkF m 135 #[vR a1, vI nz, vR b2, vR s3, vR b2, vI nz, vI 3, vI d2_] [])) _
    refine XS.iload X0.here hx rfl (hb hby d1_135) rfl ?_
    show Steps _ _ _ (T0.setTop (mkF m 137 #[vR a1, vI nz, vR b2, vR s3, vR b2, vI nz, vI 3, vI d2_] [iI 3])) _
    refine XS.iload X0.here hx rfl (hb hby d1_137) rfl ?_
    exact kt
  by_cases hc52 : (3 : Int32) < nz
  · obtain ⟨cl54, Ar54, q54, S54, M54, H54, G54⟩ := id V_2
    have hin55 : ¬ ((3 : Int32) < 0 ∨ cl54.slots.size ≤ ((3 : Int32)).toNatClampNeg) := inb_of S54 ⟨by decide, hc52⟩
    have hat56 : cl54.slots[((3 : Int32)).toNatClampNeg]? = some (.int d3_) := Has.at H54 hin55 rfl
    obtain ⟨_, _, ⟨T57, L57, k57, n57⟩, -, X57, ⟨Lc57, hQ57, l57, y57, z57⟩, st57⟩ := Jvm.LawKit.callS X0 hx (y := (⟨"java/lang/Character", "forDigit", "(II)C"⟩ : MethodName)) hown (mvT hZ (hw _ (List.mem_of_getElem? (i := 28) rfl))) (mvT hZ (hw _ (List.mem_of_getElem? (i := 29) rfl))) (mvT hZ (hw _ (List.mem_of_getElem? (i := 30) rfl))) (mvT hZ (hw _ (List.mem_of_getElem? (i := 31) rfl))) (by decide) (backOf (W := 1) (rm5 l Z a0 hw [] d3_ hT ) hZ (hw _ (List.mem_of_getElem? (i := 31) rfl)) (hw _ (List.mem_of_getElem? (i := 30) rfl)) (by decide) (by decide)) (g := (mkF m 154 #[vR a1, vI nz, vR b2, vR s3, vR b2, vI nz, vI 3, vI d3_] [iI 16, iI d3_, iR s3])) rfl (by rw [hml]; rfl) (argsL := [(.int d3_), (.int (16 : Int32))]) (rest := [(.ref s3)]) (lenOf pd_13 rfl) rfl (by show 2 * 0 + _ ≤ _; exact Nat.le_of_eq rfl) (hb hby d1_154) (fun _ _ => ⟨rfl, e0, (by decide : 3 + 0 ≤ _), (by decide : 20 + 0 ≤ _)⟩)
    dsimp only [Pt.U, Pt.locs, Pt.cells, Pt.slots] at X57 l57 y57 z57 st57 hQ57
    subst l57 y57 z57
    obtain ⟨rfl, rfl, e57⟩ := hQ57
    try rw [List.append_nil] at X57
    have Oh59 := O0.keep Kt0 all0
    obtain ⟨cq58, kq58, q58a, q58b, q58c⟩ := isOf hZ e57 E_3
    obtain ⟨_, _, ⟨T58, L58, k58, n58⟩, -, X58, ⟨Lc58, hQ58, l58, y58, z58⟩, st58⟩ := X57.virtualBack hx (y := (⟨"java/lang/StringBuilder", "append", "(C)Ljava/lang/StringBuilder;"⟩ : MethodName)) (z := (⟨"java/lang/StringBuilder", "append", "(C)Ljava/lang/StringBuilder;"⟩ : MethodName)) hown (mvT hZ (hw _ (List.mem_of_getElem? (i := 32) rfl))) (mvT hZ (hw _ (List.mem_of_getElem? (i := 33) rfl))) (notFace_of_selects (args := #[]) (mvT hZ (hw _ (List.mem_of_getElem? (i := 35) rfl)))) (mvT hZ (hw _ (List.mem_of_getElem? (i := 35) rfl))) (mvT hZ (hw _ (List.mem_of_getElem? (i := 34) rfl))) (by decide) (backOf (W := 0) (rm6_3 l Z a0 hw [] s3 (own_fd d3_) b4 k4 nz (nar .byte (own_fd d0_).toInt8.toInt32) (nar .byte (own_fd d1_).toInt8.toInt32) (nar .byte (own_fd d2_).toInt8.toInt32) (0 : Int32) (0 : Int32) (0 : Int32) (0 : Int32) (0 : Int32) cs hT n0 (Nat.le_trans Z0 Kt0.1) Oh59 E_3 g_s3 g_b4 F_value F_coder F_count V_4 ne_s3_b4 hc52 (own_fdl _) S_CS h_cs) hZ (hw _ (List.mem_of_getElem? (i := 36) rfl)) (hw _ (List.mem_of_getElem? (i := 8) rfl)) (by decide) (by decide)) q58a q58c (g := (mkF m 157 #[vR a1, vI nz, vR b2, vR s3, vR b2, vI nz, vI 3, vI d3_] [iI (own_fd d3_), iR s3])) rfl (by rw [hml]; rfl) (Steps.refl _) (argsL := [(.int (own_fd d3_))]) (rest := []) (lenOf pd_14 rfl) rfl (by show 2 * 0 + _ ≤ _; exact Nat.le_of_eq rfl) (hb hby d1_157) (fun _ _ => ⟨rfl, e57, (by decide : 3 + 0 ≤ _), (by decide : 20 + 0 ≤ _)⟩)
    dsimp only [Pt.U, Pt.locs, Pt.cells, Pt.slots] at X58 l58 y58 z58 st58 hQ58
    subst l58 y58 z58
    obtain ⟨rfl, N58q, K58q, E58q, Fv58q, Fc58q, Fn58q, V58q⟩ := hQ58
    have N58 := Fr.app N0 N58q
    have K58 : Keep h0 T58.heap [] := Keep.trans Kt0 K58q (allS (Or.inr sz_s3) (allS (Or.inr sz_b4) all0))
    have fk60 := (V_2.keep K58q (ninS (Ne.symm ne_s3_b2) (ninS (Ne.symm ne_b4_b2) nin0)))
    have fk61 := (G_4.keep K58q)
    have pre62 : ∀ t, Steps p.tables e below (T58.setTop (mkF m 135 #[vR a1, vI nz, vR b2, vR s3, vR b2, vI nz, vI 4, vI d3_] [])) t → Steps p.tables e below (T0.setTop (mkF m 135 #[vR a1, vI nz, vR b2, vR s3, vR b2, vI nz, vI 3, vI d2_] [])) t := by
      intro t kt
      refine pre53 t ?_
      show Steps _ _ _ (T0.setTop (mkF m 139 #[vR a1, vI nz, vR b2, vR s3, vR b2, vI nz, vI 3, vI d2_] [iI nz, iI 3])) _
      refine XS.icmpNo X0.here hx rfl (hb hby d1_139) rfl (tlt hc52).2.1 ?_
      show Steps _ _ _ (T0.setTop (mkF m 142 #[vR a1, vI nz, vR b2, vR s3, vR b2, vI nz, vI 3, vI d2_] [])) _
      refine XS.aload X0.here hx rfl (hb hby d1_142) rfl rfl ?_
      show Steps _ _ _ (T0.setTop (mkF m 144 #[vR a1, vI nz, vR b2, vR s3, vR b2, vI nz, vI 3, vI d2_] [iR b2])) _
      refine XS.iload X0.here hx rfl (hb hby d1_144) rfl ?_
      show Steps _ _ _ (T0.setTop (mkF m 146 #[vR a1, vI nz, vR b2, vR s3, vR b2, vI nz, vI 3, vI d2_] [iI 3, iR b2])) _
      refine X0.iaload hx (j := (3 : Int32)) (v := (.int d3_)) (by rw [e0]; exact Ar54.1) (State.isArrayOf_alike hZ.alike Ar54.2.1) Ar54.2.2 hin55 hat56 (g := (mkF m 146 #[vR a1, vI nz, vR b2, vR s3, vR b2, vI nz, vI 3, vI d2_] [iI 3, iR b2])) rfl rfl (hb hby d1_146) _ ?_
      show Steps _ _ _ (T0.setTop (mkF m 147 #[vR a1, vI nz, vR b2, vR s3, vR b2, vI nz, vI 3, vI d2_] [iI d3_])) _
      refine XS.istore X0.here hx rfl (hb hby d1_147) rfl (l' := #[vR a1, vI nz, vR b2, vR s3, vR b2, vI nz, vI 3, vI d3_]) rfl ?_
      show Steps _ _ _ (T0.setTop (mkF m 149 #[vR a1, vI nz, vR b2, vR s3, vR b2, vI nz, vI 3, vI d3_] [])) _
      refine XS.aloadN X0.here hx rfl (hb hby d1_149) rfl rfl ?_
      show Steps _ _ _ (T0.setTop (mkF m 150 #[vR a1, vI nz, vR b2, vR s3, vR b2, vI nz, vI 3, vI d3_] [iR s3])) _
      refine XS.iload X0.here hx rfl (hb hby d1_150) rfl ?_
      show Steps _ _ _ (T0.setTop (mkF m 152 #[vR a1, vI nz, vR b2, vR s3, vR b2, vI nz, vI 3, vI d3_] [iI d3_, iR s3])) _
      refine XS.bipush X0.here hx rfl (hb hby d1_152) ?_
      show Steps _ _ _ (T0.setTop (mkF m 154 #[vR a1, vI nz, vR b2, vR s3, vR b2, vI nz, vI 3, vI d3_] [iI 16, iI d3_, iR s3])) _
      refine st57 _ ?_
      show Steps _ _ _ (T57.setTop (mkF m 157 #[vR a1, vI nz, vR b2, vR s3, vR b2, vI nz, vI 3, vI d3_] [iI (own_fd d3_), iR s3])) _
      refine st58.trans ?_
      show Steps _ _ _ (T58.setTop (mkF m 160 #[vR a1, vI nz, vR b2, vR s3, vR b2, vI nz, vI 3, vI d3_] [iR s3])) _
      refine XS.pop X58.here hx rfl (hb hby d1_160) rfl rfl ?_
      show Steps _ _ _ (T58.setTop (mkF m 161 #[vR a1, vI nz, vR b2, vR s3, vR b2, vI nz, vI 3, vI d3_] [])) _
      refine XS.iinc X58.here hx rfl (hb hby d1_161) rfl (l' := #[vR a1, vI nz, vR b2, vR s3, vR b2, vI nz, vI ((3 : Int32) + (1 : Int32)), vI d3_]) rfl ?_
      rw [(by decide : ((3 : Int32) + (1 : Int32)) = (4 : Int32))]
      show Steps _ _ _ (T58.setTop (mkF m 164 #[vR a1, vI nz, vR b2, vR s3, vR b2, vI nz, vI 4, vI d3_] [])) _
      refine XS.goto X58.here hx rfl (pc0 := 164) (pc' := 135) rfl (hb hby d1_164) (by decide) (by decide) ?_
      exact kt
    obtain ⟨s₂, o₂, hs₂, hr₂⟩ := own_turn4 X58 hx hZ hw hby hml hown hret (by first | assumption | exact BodyLoose.notSynchronized (by assumption) | exact Body.notSynchronized (by assumption)) (rfl : T58.heap = _) K58 N58 Z0 O0 fk60 g_b2 sz_b2 E58q Fv58q Fc58q Fn58q V58q fk61 g_s3 sz_s3 g_b4 sz_b4 ne_s3_b4 ne_s3_b2 ne_b4_b2 hn0 hn8 hn1 hc52 S_CS h_cs
    exact ⟨s₂, o₂, pre62 _ hs₂, hr₂⟩
  · have qz : nz = (3 : Int32) := own_is3 hc52 hlo
    have pre63 : ∀ t, Steps p.tables e below (T0.setTop (mkF m 167 #[vR a1, vI nz, vR b2, vR s3, vR b2, vI nz, vI 3, vI d2_] [])) t → Steps p.tables e below (T0.setTop (mkF m 135 #[vR a1, vI nz, vR b2, vR s3, vR b2, vI nz, vI 3, vI d2_] [])) t := by
      intro t kt
      refine pre53 t ?_
      show Steps _ _ _ (T0.setTop (mkF m 139 #[vR a1, vI nz, vR b2, vR s3, vR b2, vI nz, vI 3, vI d2_] [iI nz, iI 3])) _
      refine XS.icmpYes X0.here hx rfl (pc0 := 139) (pc' := 167) rfl (hb hby d1_139) rfl (flt hc52).2.1 (by decide) (by decide) ?_
      exact kt
    rcases qz with rfl
    · have Oh65 := O0.keep Kt0 all0
      obtain ⟨cq64, kq64, q64a, q64b, q64c⟩ := isOf hZ e0 E_3
      obtain ⟨_, _, ⟨T64, L64, k64, n64⟩, -, X64, ⟨Lc64, hQ64, l64, y64, z64⟩, st64⟩ := X0.virtualBack hx (y := (⟨"java/lang/StringBuilder", "toString", "()Ljava/lang/String;"⟩ : MethodName)) (z := (⟨"java/lang/StringBuilder", "toString", "()Ljava/lang/String;"⟩ : MethodName)) hown (mvT hZ (hw _ (List.mem_of_getElem? (i := 58) rfl))) (mvT hZ (hw _ (List.mem_of_getElem? (i := 59) rfl))) (notFace_of_selects (args := #[]) (mvT hZ (hw _ (List.mem_of_getElem? (i := 61) rfl)))) (mvT hZ (hw _ (List.mem_of_getElem? (i := 61) rfl))) (mvT hZ (hw _ (List.mem_of_getElem? (i := 60) rfl))) (by decide) (backOf (W := 0) (rm11 l Z a0 hw [] s3 b4 k4 (3 : Int32) (nar .byte (own_fd d0_).toInt8.toInt32) (nar .byte (own_fd d1_).toInt8.toInt32) (nar .byte (own_fd d2_).toInt8.toInt32) (0 : Int32) (0 : Int32) (0 : Int32) (0 : Int32) (0 : Int32) cs hT n0 (Nat.le_trans Z0 Kt0.1) Oh65 E_3 F_value F_coder F_count V_4 G_4 hn0 hn8 S_CS h_cs) hZ (hw _ (List.mem_of_getElem? (i := 62) rfl)) (hw _ (List.mem_of_getElem? (i := 8) rfl)) (by decide) (by decide)) q64a q64c (g := (mkF m 168 #[vR a1, vI 3, vR b2, vR s3, vR b2, vI 3, vI 3, vI d2_] [iR s3])) rfl (by rw [hml]; rfl) (Steps.refl _) (argsL := []) (rest := []) (lenOf pd_15 rfl) rfl (by show 2 * 0 + _ ≤ _; exact Nat.le_of_eq rfl) (hb hby d1_168) (fun _ _ => ⟨rfl, e0, (by decide : 3 + 2 ≤ _), (by decide : 20 + 12 ≤ _)⟩)
      dsimp only [Pt.U, Pt.locs, Pt.cells, Pt.slots] at X64 l64 y64 z64 st64 hQ64
      subst l64 y64 z64
      obtain ⟨o64, d64, rfl, N64q, K64q, E64q, C64q, F64q, V64q⟩ := hQ64
      have N64 := Fr.app N0 N64q
      have K64 : Keep h0 T64.heap [] := Keep.trans Kt0 K64q all0
      obtain ⟨fs, hr, hrun, hended, hW, hsame⟩ := X64.leave (v := some (.ref o64)) (fun h => by rw [hret] at h; cases h)
      refine ⟨_, _, pre63 _ ?_, hrun, hended, _, _, rfl, ?_, ⟨_, rfl⟩, hW, hsame.mono (by decide) (by decide)⟩
      · show Steps _ _ _ (T0.setTop (mkF m 167 #[vR a1, vI 3, vR b2, vR s3, vR b2, vI 3, vI 3, vI d2_] [])) _
        refine XS.aloadN X0.here hx rfl (hb hby d1_167) rfl rfl ?_
        show Steps _ _ _ (T0.setTop (mkF m 168 #[vR a1, vI 3, vR b2, vR s3, vR b2, vI 3, vI 3, vI d2_] [iR s3])) _
        refine st64.trans ?_
        show Steps _ _ _ (T64.setTop (mkF m 171 #[vR a1, vI 3, vR b2, vR s3, vR b2, vI 3, vI 3, vI d2_] [iR o64])) _
        jvm_step X64.here [X64.here.top, hx, (hb hby d1_171), X64.method', hret, Value.isRef, FieldType.isReference]
        first | (intro acts; rw [hr _ acts rfl rfl rfl]) | rw [hr _ _ rfl rfl rfl]
        exact Steps.refl _
      · show own_QT Z (3 : Int32) d0_ d1_ d2_ d3_ d4_ d5_ d6_ d7_ h0 n0 _ T64.heap _
        exact ⟨_, _, _, rfl, N64, K64, E64q, C64q, F64q, (own_cut V64q (fun i hi => by match i, hi with | 0, _ => rfl | 1, _ => rfl | 2, _ => rfl | _ + 3, h => exact absurd h (by simp [Int32.toNatClampNeg])))⟩
set_option maxRecDepth 65536 in
set_option maxHeartbeats 40000000 in
theorem own_turn2 {p : Program} {l : Launch} {e : Env} {s : State} {m : MethodId} {below : List Frame} {meth : Method} {c : Code} {T0 : State} {locs : List Loc} {Z : State} {a0 : Array Value} {h0 hT : Heap} {n0 : Nat} {a1 b2 : Addr} {k2 : ClassId} {nz : Int32} {d0_ : Int32} {d1_ : Int32} {d2_ : Int32} {d3_ : Int32} {d4_ : Int32} {d5_ : Int32} {d6_ : Int32} {d7_ : Int32} {cs : Int32} {s3 b4 : Addr} {k4 : ClassId}
    (X0 : Stand p l e ({ frames := 5, cells := 5, slots := 32, locals := 71 } : Room) s m #[(.ref a1)] below meth c T0 locs 3 20) (hx : p.tables.exec = Jvm.exec) (hZ : Z.Warmed39 s.vm) (hw : ∀ d ∈ tables_1, d.before a0 Z = true) (hby : c.code = prog_29_method_3_code) (hml : c.maxLocals = 8) (hown : s.vm.findClass "com/example/cloud_to_core/cloudtocore/model/SupportedFeatures" = some m.cls) (hret : meth.sig.returnType = some (.object "java/lang/String")) (hlocks : meth.locks = false) (e0 : T0.heap = hT) (Kt0 : Keep h0 hT []) (N0 : Fr n0 locs) (Z0 : n0 ≤ h0.size) (O0 : Old Z n0 h0) (V_2 : Arv Z hT b2 k2 .int nz [(.int d0_), (.int d1_), (.int d2_), (.int d3_), (.int d4_), (.int d5_), (.int d6_), (.int d7_)] (.int (0 : Int32))) (g_b2 : n0 ≤ b2) (sz_b2 : h0.size ≤ b2) (E_3 : Exa Z hT s3 "java/lang/StringBuilder") (F_value : Fld Z hT s3 "java/lang/AbstractStringBuilder" "value" "[B" (.ref b4)) (F_coder : Fld Z hT s3 "java/lang/AbstractStringBuilder" "coder" "B" (.int (0 : Int32))) (F_count : Fld Z hT s3 "java/lang/AbstractStringBuilder" "count" "I" (.int (2 : Int32))) (V_4 : Arv Z hT b4 k4 .byte nz [(.int (nar .byte (own_fd d0_).toInt8.toInt32)), (.int (nar .byte (own_fd d1_).toInt8.toInt32)), (.int (0 : Int32)), (.int (0 : Int32)), (.int (0 : Int32)), (.int (0 : Int32)), (.int (0 : Int32)), (.int (0 : Int32))] (.int (0 : Int32))) (G_4 : Exa Z hT b4 "[B") (g_s3 : n0 ≤ s3) (sz_s3 : h0.size ≤ s3) (g_b4 : n0 ≤ b4) (sz_b4 : h0.size ≤ b4) (ne_s3_b4 : s3 ≠ b4) (ne_s3_b2 : s3 ≠ b2) (ne_b4_b2 : b4 ≠ b2) (hn0 : ¬ nz < 0) (hn8 : nz.toNatClampNeg ≤ 8) (hn1 : (0 : Int32) < nz) (hlo : (1 : Int32) < nz) (S_CS : Sta Z Z.heap "java/lang/String" "COMPACT_STRINGS" "Z" (.int cs)) (h_cs : ¬ cs = (0 : Int32)) :
    ∃ s₂ o, Steps p.tables e below (T0.setTop (mkF m 135 #[vR a1, vI nz, vR b2, vR s3, vR b2, vI nz, vI 2, vI d1_] [])) s₂ ∧ s₂.status = .running ∧ Ended s₂ below o ∧ ∃ v L, o = .returned v ∧ own_QT Z nz d0_ d1_ d2_ d3_ d4_ d5_ d6_ d7_ h0 n0 v s₂.heap L ∧ FrameEnd s o s₂ L ({ frames := 5, cells := 5, slots := 32, locals := 71 } : Room).cells ({ frames := 5, cells := 5, slots := 32, locals := 71 } : Room).slots := by
  have pre39 : ∀ t, Steps p.tables e below (T0.setTop (mkF m 139 #[vR a1, vI nz, vR b2, vR s3, vR b2, vI nz, vI 2, vI d1_] [iI nz, iI 2])) t → Steps p.tables e below (T0.setTop (mkF m 135 #[vR a1, vI nz, vR b2, vR s3, vR b2, vI nz, vI 2, vI d1_] [])) t := by
    intro t kt
    show Steps _ _ _ (T0.setTop (mkF m 135 #[vR a1, vI nz, vR b2, vR s3, vR b2, vI nz, vI 2, vI d1_] [])) _
    refine XS.iload X0.here hx rfl (hb hby d1_135) rfl ?_
    show Steps _ _ _ (T0.setTop (mkF m 137 #[vR a1, vI nz, vR b2, vR s3, vR b2, vI nz, vI 2, vI d1_] [iI 2])) _
    refine XS.iload X0.here hx rfl (hb hby d1_137) rfl ?_
    exact kt
  by_cases hc38 : (2 : Int32) < nz
  · obtain ⟨cl40, Ar40, q40, S40, M40, H40, G40⟩ := id V_2
    have hin41 : ¬ ((2 : Int32) < 0 ∨ cl40.slots.size ≤ ((2 : Int32)).toNatClampNeg) := inb_of S40 ⟨by decide, hc38⟩
    have hat42 : cl40.slots[((2 : Int32)).toNatClampNeg]? = some (.int d2_) := Has.at H40 hin41 rfl
    obtain ⟨_, _, ⟨T43, L43, k43, n43⟩, -, X43, ⟨Lc43, hQ43, l43, y43, z43⟩, st43⟩ := Jvm.LawKit.callS X0 hx (y := (⟨"java/lang/Character", "forDigit", "(II)C"⟩ : MethodName)) hown (mvT hZ (hw _ (List.mem_of_getElem? (i := 28) rfl))) (mvT hZ (hw _ (List.mem_of_getElem? (i := 29) rfl))) (mvT hZ (hw _ (List.mem_of_getElem? (i := 30) rfl))) (mvT hZ (hw _ (List.mem_of_getElem? (i := 31) rfl))) (by decide) (backOf (W := 1) (rm5 l Z a0 hw [] d2_ hT ) hZ (hw _ (List.mem_of_getElem? (i := 31) rfl)) (hw _ (List.mem_of_getElem? (i := 30) rfl)) (by decide) (by decide)) (g := (mkF m 154 #[vR a1, vI nz, vR b2, vR s3, vR b2, vI nz, vI 2, vI d2_] [iI 16, iI d2_, iR s3])) rfl (by rw [hml]; rfl) (argsL := [(.int d2_), (.int (16 : Int32))]) (rest := [(.ref s3)]) (lenOf pd_13 rfl) rfl (by show 2 * 0 + _ ≤ _; exact Nat.le_of_eq rfl) (hb hby d1_154) (fun _ _ => ⟨rfl, e0, (by decide : 3 + 0 ≤ _), (by decide : 20 + 0 ≤ _)⟩)
    dsimp only [Pt.U, Pt.locs, Pt.cells, Pt.slots] at X43 l43 y43 z43 st43 hQ43
    subst l43 y43 z43
    obtain ⟨rfl, rfl, e43⟩ := hQ43
    try rw [List.append_nil] at X43
    have Oh45 := O0.keep Kt0 all0
    obtain ⟨cq44, kq44, q44a, q44b, q44c⟩ := isOf hZ e43 E_3
    obtain ⟨_, _, ⟨T44, L44, k44, n44⟩, -, X44, ⟨Lc44, hQ44, l44, y44, z44⟩, st44⟩ := X43.virtualBack hx (y := (⟨"java/lang/StringBuilder", "append", "(C)Ljava/lang/StringBuilder;"⟩ : MethodName)) (z := (⟨"java/lang/StringBuilder", "append", "(C)Ljava/lang/StringBuilder;"⟩ : MethodName)) hown (mvT hZ (hw _ (List.mem_of_getElem? (i := 32) rfl))) (mvT hZ (hw _ (List.mem_of_getElem? (i := 33) rfl))) (notFace_of_selects (args := #[]) (mvT hZ (hw _ (List.mem_of_getElem? (i := 35) rfl)))) (mvT hZ (hw _ (List.mem_of_getElem? (i := 35) rfl))) (mvT hZ (hw _ (List.mem_of_getElem? (i := 34) rfl))) (by decide) (backOf (W := 0) (rm6_2 l Z a0 hw [] s3 (own_fd d2_) b4 k4 nz (nar .byte (own_fd d0_).toInt8.toInt32) (nar .byte (own_fd d1_).toInt8.toInt32) (0 : Int32) (0 : Int32) (0 : Int32) (0 : Int32) (0 : Int32) (0 : Int32) cs hT n0 (Nat.le_trans Z0 Kt0.1) Oh45 E_3 g_s3 g_b4 F_value F_coder F_count V_4 ne_s3_b4 hc38 (own_fdl _) S_CS h_cs) hZ (hw _ (List.mem_of_getElem? (i := 36) rfl)) (hw _ (List.mem_of_getElem? (i := 8) rfl)) (by decide) (by decide)) q44a q44c (g := (mkF m 157 #[vR a1, vI nz, vR b2, vR s3, vR b2, vI nz, vI 2, vI d2_] [iI (own_fd d2_), iR s3])) rfl (by rw [hml]; rfl) (Steps.refl _) (argsL := [(.int (own_fd d2_))]) (rest := []) (lenOf pd_14 rfl) rfl (by show 2 * 0 + _ ≤ _; exact Nat.le_of_eq rfl) (hb hby d1_157) (fun _ _ => ⟨rfl, e43, (by decide : 3 + 0 ≤ _), (by decide : 20 + 0 ≤ _)⟩)
    dsimp only [Pt.U, Pt.locs, Pt.cells, Pt.slots] at X44 l44 y44 z44 st44 hQ44
    subst l44 y44 z44
    obtain ⟨rfl, N44q, K44q, E44q, Fv44q, Fc44q, Fn44q, V44q⟩ := hQ44
    have N44 := Fr.app N0 N44q
    have K44 : Keep h0 T44.heap [] := Keep.trans Kt0 K44q (allS (Or.inr sz_s3) (allS (Or.inr sz_b4) all0))
    have fk46 := (V_2.keep K44q (ninS (Ne.symm ne_s3_b2) (ninS (Ne.symm ne_b4_b2) nin0)))
    have fk47 := (G_4.keep K44q)
    have pre48 : ∀ t, Steps p.tables e below (T44.setTop (mkF m 135 #[vR a1, vI nz, vR b2, vR s3, vR b2, vI nz, vI 3, vI d2_] [])) t → Steps p.tables e below (T0.setTop (mkF m 135 #[vR a1, vI nz, vR b2, vR s3, vR b2, vI nz, vI 2, vI d1_] [])) t := by
      intro t kt
      refine pre39 t ?_
      show Steps _ _ _ (T0.setTop (mkF m 139 #[vR a1, vI nz, vR b2, vR s3, vR b2, vI nz, vI 2, vI d1_] [iI nz, iI 2])) _
      refine XS.icmpNo X0.here hx rfl (hb hby d1_139) rfl (tlt hc38).2.1 ?_
      show Steps _ _ _ (T0.setTop (mkF m 142 #[vR a1, vI nz, vR b2, vR s3, vR b2, vI nz, vI 2, vI d1_] [])) _
      refine XS.aload X0.here hx rfl (hb hby d1_142) rfl rfl ?_
      show Steps _ _ _ (T0.setTop (mkF m 144 #[vR a1, vI nz, vR b2, vR s3, vR b2, vI nz, vI 2, vI d1_] [iR b2])) _
      refine XS.iload X0.here hx rfl (hb hby d1_144) rfl ?_
      show Steps _ _ _ (T0.setTop (mkF m 146 #[vR a1, vI nz, vR b2, vR s3, vR b2, vI nz, vI 2, vI d1_] [iI 2, iR b2])) _
      refine X0.iaload hx (j := (2 : Int32)) (v := (.int d2_)) (by rw [e0]; exact Ar40.1) (State.isArrayOf_alike hZ.alike Ar40.2.1) Ar40.2.2 hin41 hat42 (g := (mkF m 146 #[vR a1, vI nz, vR b2, vR s3, vR b2, vI nz, vI 2, vI d1_] [iI 2, iR b2])) rfl rfl (hb hby d1_146) _ ?_
      show Steps _ _ _ (T0.setTop (mkF m 147 #[vR a1, vI nz, vR b2, vR s3, vR b2, vI nz, vI 2, vI d1_] [iI d2_])) _
      refine XS.istore X0.here hx rfl (hb hby d1_147) rfl (l' := #[vR a1, vI nz, vR b2, vR s3, vR b2, vI nz, vI 2, vI d2_]) rfl ?_
      show Steps _ _ _ (T0.setTop (mkF m 149 #[vR a1, vI nz, vR b2, vR s3, vR b2, vI nz, vI 2, vI d2_] [])) _
      refine XS.aloadN X0.here hx rfl (hb hby d1_149) rfl rfl ?_
      show Steps _ _ _ (T0.setTop (mkF m 150 #[vR a1, vI nz, vR b2, vR s3, vR b2, vI nz, vI 2, vI d2_] [iR s3])) _
      refine XS.iload X0.here hx rfl (hb hby d1_150) rfl ?_
      show Steps _ _ _ (T0.setTop (mkF m 152 #[vR a1, vI nz, vR b2, vR s3, vR b2, vI nz, vI 2, vI d2_] [iI d2_, iR s3])) _
      refine XS.bipush X0.here hx rfl (hb hby d1_152) ?_
      show Steps _ _ _ (T0.setTop (mkF m 154 #[vR a1, vI nz, vR b2, vR s3, vR b2, vI nz, vI 2, vI d2_] [iI 16, iI d2_, iR s3])) _
      refine st43 _ ?_
      show Steps _ _ _ (T43.setTop (mkF m 157 #[vR a1, vI nz, vR b2, vR s3, vR b2, vI nz, vI 2, vI d2_] [iI (own_fd d2_), iR s3])) _
      refine st44.trans ?_
      show Steps _ _ _ (T44.setTop (mkF m 160 #[vR a1, vI nz, vR b2, vR s3, vR b2, vI nz, vI 2, vI d2_] [iR s3])) _
      refine XS.pop X44.here hx rfl (hb hby d1_160) rfl rfl ?_
      show Steps _ _ _ (T44.setTop (mkF m 161 #[vR a1, vI nz, vR b2, vR s3, vR b2, vI nz, vI 2, vI d2_] [])) _
      refine XS.iinc X44.here hx rfl (hb hby d1_161) rfl (l' := #[vR a1, vI nz, vR b2, vR s3, vR b2, vI nz, vI ((2 : Int32) + (1 : Int32)), vI d2_]) rfl ?_
      rw [(by decide : ((2 : Int32) + (1 : Int32)) = (3 : Int32))]
      show Steps _ _ _ (T44.setTop (mkF m 164 #[vR a1, vI nz, vR b2, vR s3, vR b2, vI nz, vI 3, vI d2_] [])) _
      refine XS.goto X44.here hx rfl (pc0 := 164) (pc' := 135) rfl (hb hby d1_164) (by decide) (by decide) ?_
      exact kt
    obtain ⟨s₂, o₂, hs₂, hr₂⟩ := own_turn3 X44 hx hZ hw hby hml hown hret (by first | assumption | exact BodyLoose.notSynchronized (by assumption) | exact Body.notSynchronized (by assumption)) (rfl : T44.heap = _) K44 N44 Z0 O0 fk46 g_b2 sz_b2 E44q Fv44q Fc44q Fn44q V44q fk47 g_s3 sz_s3 g_b4 sz_b4 ne_s3_b4 ne_s3_b2 ne_b4_b2 hn0 hn8 hn1 hc38 S_CS h_cs
    exact ⟨s₂, o₂, pre48 _ hs₂, hr₂⟩
  · have qz : nz = (2 : Int32) := own_is2 hc38 hlo
    have pre49 : ∀ t, Steps p.tables e below (T0.setTop (mkF m 167 #[vR a1, vI nz, vR b2, vR s3, vR b2, vI nz, vI 2, vI d1_] [])) t → Steps p.tables e below (T0.setTop (mkF m 135 #[vR a1, vI nz, vR b2, vR s3, vR b2, vI nz, vI 2, vI d1_] [])) t := by
      intro t kt
      refine pre39 t ?_
      show Steps _ _ _ (T0.setTop (mkF m 139 #[vR a1, vI nz, vR b2, vR s3, vR b2, vI nz, vI 2, vI d1_] [iI nz, iI 2])) _
      refine XS.icmpYes X0.here hx rfl (pc0 := 139) (pc' := 167) rfl (hb hby d1_139) rfl (flt hc38).2.1 (by decide) (by decide) ?_
      exact kt
    rcases qz with rfl
    · have Oh51 := O0.keep Kt0 all0
      obtain ⟨cq50, kq50, q50a, q50b, q50c⟩ := isOf hZ e0 E_3
      obtain ⟨_, _, ⟨T50, L50, k50, n50⟩, -, X50, ⟨Lc50, hQ50, l50, y50, z50⟩, st50⟩ := X0.virtualBack hx (y := (⟨"java/lang/StringBuilder", "toString", "()Ljava/lang/String;"⟩ : MethodName)) (z := (⟨"java/lang/StringBuilder", "toString", "()Ljava/lang/String;"⟩ : MethodName)) hown (mvT hZ (hw _ (List.mem_of_getElem? (i := 58) rfl))) (mvT hZ (hw _ (List.mem_of_getElem? (i := 59) rfl))) (notFace_of_selects (args := #[]) (mvT hZ (hw _ (List.mem_of_getElem? (i := 61) rfl)))) (mvT hZ (hw _ (List.mem_of_getElem? (i := 61) rfl))) (mvT hZ (hw _ (List.mem_of_getElem? (i := 60) rfl))) (by decide) (backOf (W := 0) (rm11 l Z a0 hw [] s3 b4 k4 (2 : Int32) (nar .byte (own_fd d0_).toInt8.toInt32) (nar .byte (own_fd d1_).toInt8.toInt32) (0 : Int32) (0 : Int32) (0 : Int32) (0 : Int32) (0 : Int32) (0 : Int32) cs hT n0 (Nat.le_trans Z0 Kt0.1) Oh51 E_3 F_value F_coder F_count V_4 G_4 hn0 hn8 S_CS h_cs) hZ (hw _ (List.mem_of_getElem? (i := 62) rfl)) (hw _ (List.mem_of_getElem? (i := 8) rfl)) (by decide) (by decide)) q50a q50c (g := (mkF m 168 #[vR a1, vI 2, vR b2, vR s3, vR b2, vI 2, vI 2, vI d1_] [iR s3])) rfl (by rw [hml]; rfl) (Steps.refl _) (argsL := []) (rest := []) (lenOf pd_15 rfl) rfl (by show 2 * 0 + _ ≤ _; exact Nat.le_of_eq rfl) (hb hby d1_168) (fun _ _ => ⟨rfl, e0, (by decide : 3 + 2 ≤ _), (by decide : 20 + 12 ≤ _)⟩)
      dsimp only [Pt.U, Pt.locs, Pt.cells, Pt.slots] at X50 l50 y50 z50 st50 hQ50
      subst l50 y50 z50
      obtain ⟨o50, d50, rfl, N50q, K50q, E50q, C50q, F50q, V50q⟩ := hQ50
      have N50 := Fr.app N0 N50q
      have K50 : Keep h0 T50.heap [] := Keep.trans Kt0 K50q all0
      obtain ⟨fs, hr, hrun, hended, hW, hsame⟩ := X50.leave (v := some (.ref o50)) (fun h => by rw [hret] at h; cases h)
      refine ⟨_, _, pre49 _ ?_, hrun, hended, _, _, rfl, ?_, ⟨_, rfl⟩, hW, hsame.mono (by decide) (by decide)⟩
      · show Steps _ _ _ (T0.setTop (mkF m 167 #[vR a1, vI 2, vR b2, vR s3, vR b2, vI 2, vI 2, vI d1_] [])) _
        refine XS.aloadN X0.here hx rfl (hb hby d1_167) rfl rfl ?_
        show Steps _ _ _ (T0.setTop (mkF m 168 #[vR a1, vI 2, vR b2, vR s3, vR b2, vI 2, vI 2, vI d1_] [iR s3])) _
        refine st50.trans ?_
        show Steps _ _ _ (T50.setTop (mkF m 171 #[vR a1, vI 2, vR b2, vR s3, vR b2, vI 2, vI 2, vI d1_] [iR o50])) _
        jvm_step X50.here [X50.here.top, hx, (hb hby d1_171), X50.method', hret, Value.isRef, FieldType.isReference]
        first | (intro acts; rw [hr _ acts rfl rfl rfl]) | rw [hr _ _ rfl rfl rfl]
        exact Steps.refl _
      · show own_QT Z (2 : Int32) d0_ d1_ d2_ d3_ d4_ d5_ d6_ d7_ h0 n0 _ T50.heap _
        exact ⟨_, _, _, rfl, N50, K50, E50q, C50q, F50q, (own_cut V50q (fun i hi => by match i, hi with | 0, _ => rfl | 1, _ => rfl | _ + 2, h => exact absurd h (by simp [Int32.toNatClampNeg])))⟩
set_option maxRecDepth 65536 in
set_option maxHeartbeats 40000000 in
theorem own_turn1 {p : Program} {l : Launch} {e : Env} {s : State} {m : MethodId} {below : List Frame} {meth : Method} {c : Code} {T0 : State} {locs : List Loc} {Z : State} {a0 : Array Value} {h0 hT : Heap} {n0 : Nat} {a1 b2 : Addr} {k2 : ClassId} {nz : Int32} {d0_ : Int32} {d1_ : Int32} {d2_ : Int32} {d3_ : Int32} {d4_ : Int32} {d5_ : Int32} {d6_ : Int32} {d7_ : Int32} {cs : Int32} {s3 b4 : Addr} {k4 : ClassId}
    (X0 : Stand p l e ({ frames := 5, cells := 5, slots := 32, locals := 71 } : Room) s m #[(.ref a1)] below meth c T0 locs 3 20) (hx : p.tables.exec = Jvm.exec) (hZ : Z.Warmed39 s.vm) (hw : ∀ d ∈ tables_1, d.before a0 Z = true) (hby : c.code = prog_29_method_3_code) (hml : c.maxLocals = 8) (hown : s.vm.findClass "com/example/cloud_to_core/cloudtocore/model/SupportedFeatures" = some m.cls) (hret : meth.sig.returnType = some (.object "java/lang/String")) (hlocks : meth.locks = false) (e0 : T0.heap = hT) (Kt0 : Keep h0 hT []) (N0 : Fr n0 locs) (Z0 : n0 ≤ h0.size) (O0 : Old Z n0 h0) (V_2 : Arv Z hT b2 k2 .int nz [(.int d0_), (.int d1_), (.int d2_), (.int d3_), (.int d4_), (.int d5_), (.int d6_), (.int d7_)] (.int (0 : Int32))) (g_b2 : n0 ≤ b2) (sz_b2 : h0.size ≤ b2) (E_3 : Exa Z hT s3 "java/lang/StringBuilder") (F_value : Fld Z hT s3 "java/lang/AbstractStringBuilder" "value" "[B" (.ref b4)) (F_coder : Fld Z hT s3 "java/lang/AbstractStringBuilder" "coder" "B" (.int (0 : Int32))) (F_count : Fld Z hT s3 "java/lang/AbstractStringBuilder" "count" "I" (.int (1 : Int32))) (V_4 : Arv Z hT b4 k4 .byte nz [(.int (nar .byte (own_fd d0_).toInt8.toInt32)), (.int (0 : Int32)), (.int (0 : Int32)), (.int (0 : Int32)), (.int (0 : Int32)), (.int (0 : Int32)), (.int (0 : Int32)), (.int (0 : Int32))] (.int (0 : Int32))) (G_4 : Exa Z hT b4 "[B") (g_s3 : n0 ≤ s3) (sz_s3 : h0.size ≤ s3) (g_b4 : n0 ≤ b4) (sz_b4 : h0.size ≤ b4) (ne_s3_b4 : s3 ≠ b4) (ne_s3_b2 : s3 ≠ b2) (ne_b4_b2 : b4 ≠ b2) (hn0 : ¬ nz < 0) (hn8 : nz.toNatClampNeg ≤ 8) (hn1 : (0 : Int32) < nz) (hlo : (0 : Int32) < nz) (S_CS : Sta Z Z.heap "java/lang/String" "COMPACT_STRINGS" "Z" (.int cs)) (h_cs : ¬ cs = (0 : Int32)) :
    ∃ s₂ o, Steps p.tables e below (T0.setTop (mkF m 135 #[vR a1, vI nz, vR b2, vR s3, vR b2, vI nz, vI 1, vI d0_] [])) s₂ ∧ s₂.status = .running ∧ Ended s₂ below o ∧ ∃ v L, o = .returned v ∧ own_QT Z nz d0_ d1_ d2_ d3_ d4_ d5_ d6_ d7_ h0 n0 v s₂.heap L ∧ FrameEnd s o s₂ L ({ frames := 5, cells := 5, slots := 32, locals := 71 } : Room).cells ({ frames := 5, cells := 5, slots := 32, locals := 71 } : Room).slots := by
  have pre25 : ∀ t, Steps p.tables e below (T0.setTop (mkF m 139 #[vR a1, vI nz, vR b2, vR s3, vR b2, vI nz, vI 1, vI d0_] [iI nz, iI 1])) t → Steps p.tables e below (T0.setTop (mkF m 135 #[vR a1, vI nz, vR b2, vR s3, vR b2, vI nz, vI 1, vI d0_] [])) t := by
    intro t kt
    show Steps _ _ _ (T0.setTop (mkF m 135 #[vR a1, vI nz, vR b2, vR s3, vR b2, vI nz, vI 1, vI d0_] [])) _
    refine XS.iload X0.here hx rfl (hb hby d1_135) rfl ?_
    show Steps _ _ _ (T0.setTop (mkF m 137 #[vR a1, vI nz, vR b2, vR s3, vR b2, vI nz, vI 1, vI d0_] [iI 1])) _
    refine XS.iload X0.here hx rfl (hb hby d1_137) rfl ?_
    exact kt
  by_cases hc24 : (1 : Int32) < nz
  · obtain ⟨cl26, Ar26, q26, S26, M26, H26, G26⟩ := id V_2
    have hin27 : ¬ ((1 : Int32) < 0 ∨ cl26.slots.size ≤ ((1 : Int32)).toNatClampNeg) := inb_of S26 ⟨by decide, hc24⟩
    have hat28 : cl26.slots[((1 : Int32)).toNatClampNeg]? = some (.int d1_) := Has.at H26 hin27 rfl
    obtain ⟨_, _, ⟨T29, L29, k29, n29⟩, -, X29, ⟨Lc29, hQ29, l29, y29, z29⟩, st29⟩ := Jvm.LawKit.callS X0 hx (y := (⟨"java/lang/Character", "forDigit", "(II)C"⟩ : MethodName)) hown (mvT hZ (hw _ (List.mem_of_getElem? (i := 28) rfl))) (mvT hZ (hw _ (List.mem_of_getElem? (i := 29) rfl))) (mvT hZ (hw _ (List.mem_of_getElem? (i := 30) rfl))) (mvT hZ (hw _ (List.mem_of_getElem? (i := 31) rfl))) (by decide) (backOf (W := 1) (rm5 l Z a0 hw [] d1_ hT ) hZ (hw _ (List.mem_of_getElem? (i := 31) rfl)) (hw _ (List.mem_of_getElem? (i := 30) rfl)) (by decide) (by decide)) (g := (mkF m 154 #[vR a1, vI nz, vR b2, vR s3, vR b2, vI nz, vI 1, vI d1_] [iI 16, iI d1_, iR s3])) rfl (by rw [hml]; rfl) (argsL := [(.int d1_), (.int (16 : Int32))]) (rest := [(.ref s3)]) (lenOf pd_13 rfl) rfl (by show 2 * 0 + _ ≤ _; exact Nat.le_of_eq rfl) (hb hby d1_154) (fun _ _ => ⟨rfl, e0, (by decide : 3 + 0 ≤ _), (by decide : 20 + 0 ≤ _)⟩)
    dsimp only [Pt.U, Pt.locs, Pt.cells, Pt.slots] at X29 l29 y29 z29 st29 hQ29
    subst l29 y29 z29
    obtain ⟨rfl, rfl, e29⟩ := hQ29
    try rw [List.append_nil] at X29
    have Oh31 := O0.keep Kt0 all0
    obtain ⟨cq30, kq30, q30a, q30b, q30c⟩ := isOf hZ e29 E_3
    obtain ⟨_, _, ⟨T30, L30, k30, n30⟩, -, X30, ⟨Lc30, hQ30, l30, y30, z30⟩, st30⟩ := X29.virtualBack hx (y := (⟨"java/lang/StringBuilder", "append", "(C)Ljava/lang/StringBuilder;"⟩ : MethodName)) (z := (⟨"java/lang/StringBuilder", "append", "(C)Ljava/lang/StringBuilder;"⟩ : MethodName)) hown (mvT hZ (hw _ (List.mem_of_getElem? (i := 32) rfl))) (mvT hZ (hw _ (List.mem_of_getElem? (i := 33) rfl))) (notFace_of_selects (args := #[]) (mvT hZ (hw _ (List.mem_of_getElem? (i := 35) rfl)))) (mvT hZ (hw _ (List.mem_of_getElem? (i := 35) rfl))) (mvT hZ (hw _ (List.mem_of_getElem? (i := 34) rfl))) (by decide) (backOf (W := 0) (rm6_1 l Z a0 hw [] s3 (own_fd d1_) b4 k4 nz (nar .byte (own_fd d0_).toInt8.toInt32) (0 : Int32) (0 : Int32) (0 : Int32) (0 : Int32) (0 : Int32) (0 : Int32) (0 : Int32) cs hT n0 (Nat.le_trans Z0 Kt0.1) Oh31 E_3 g_s3 g_b4 F_value F_coder F_count V_4 ne_s3_b4 hc24 (own_fdl _) S_CS h_cs) hZ (hw _ (List.mem_of_getElem? (i := 36) rfl)) (hw _ (List.mem_of_getElem? (i := 8) rfl)) (by decide) (by decide)) q30a q30c (g := (mkF m 157 #[vR a1, vI nz, vR b2, vR s3, vR b2, vI nz, vI 1, vI d1_] [iI (own_fd d1_), iR s3])) rfl (by rw [hml]; rfl) (Steps.refl _) (argsL := [(.int (own_fd d1_))]) (rest := []) (lenOf pd_14 rfl) rfl (by show 2 * 0 + _ ≤ _; exact Nat.le_of_eq rfl) (hb hby d1_157) (fun _ _ => ⟨rfl, e29, (by decide : 3 + 0 ≤ _), (by decide : 20 + 0 ≤ _)⟩)
    dsimp only [Pt.U, Pt.locs, Pt.cells, Pt.slots] at X30 l30 y30 z30 st30 hQ30
    subst l30 y30 z30
    obtain ⟨rfl, N30q, K30q, E30q, Fv30q, Fc30q, Fn30q, V30q⟩ := hQ30
    have N30 := Fr.app N0 N30q
    have K30 : Keep h0 T30.heap [] := Keep.trans Kt0 K30q (allS (Or.inr sz_s3) (allS (Or.inr sz_b4) all0))
    have fk32 := (V_2.keep K30q (ninS (Ne.symm ne_s3_b2) (ninS (Ne.symm ne_b4_b2) nin0)))
    have fk33 := (G_4.keep K30q)
    have pre34 : ∀ t, Steps p.tables e below (T30.setTop (mkF m 135 #[vR a1, vI nz, vR b2, vR s3, vR b2, vI nz, vI 2, vI d1_] [])) t → Steps p.tables e below (T0.setTop (mkF m 135 #[vR a1, vI nz, vR b2, vR s3, vR b2, vI nz, vI 1, vI d0_] [])) t := by
      intro t kt
      refine pre25 t ?_
      show Steps _ _ _ (T0.setTop (mkF m 139 #[vR a1, vI nz, vR b2, vR s3, vR b2, vI nz, vI 1, vI d0_] [iI nz, iI 1])) _
      refine XS.icmpNo X0.here hx rfl (hb hby d1_139) rfl (tlt hc24).2.1 ?_
      show Steps _ _ _ (T0.setTop (mkF m 142 #[vR a1, vI nz, vR b2, vR s3, vR b2, vI nz, vI 1, vI d0_] [])) _
      refine XS.aload X0.here hx rfl (hb hby d1_142) rfl rfl ?_
      show Steps _ _ _ (T0.setTop (mkF m 144 #[vR a1, vI nz, vR b2, vR s3, vR b2, vI nz, vI 1, vI d0_] [iR b2])) _
      refine XS.iload X0.here hx rfl (hb hby d1_144) rfl ?_
      show Steps _ _ _ (T0.setTop (mkF m 146 #[vR a1, vI nz, vR b2, vR s3, vR b2, vI nz, vI 1, vI d0_] [iI 1, iR b2])) _
      refine X0.iaload hx (j := (1 : Int32)) (v := (.int d1_)) (by rw [e0]; exact Ar26.1) (State.isArrayOf_alike hZ.alike Ar26.2.1) Ar26.2.2 hin27 hat28 (g := (mkF m 146 #[vR a1, vI nz, vR b2, vR s3, vR b2, vI nz, vI 1, vI d0_] [iI 1, iR b2])) rfl rfl (hb hby d1_146) _ ?_
      show Steps _ _ _ (T0.setTop (mkF m 147 #[vR a1, vI nz, vR b2, vR s3, vR b2, vI nz, vI 1, vI d0_] [iI d1_])) _
      refine XS.istore X0.here hx rfl (hb hby d1_147) rfl (l' := #[vR a1, vI nz, vR b2, vR s3, vR b2, vI nz, vI 1, vI d1_]) rfl ?_
      show Steps _ _ _ (T0.setTop (mkF m 149 #[vR a1, vI nz, vR b2, vR s3, vR b2, vI nz, vI 1, vI d1_] [])) _
      refine XS.aloadN X0.here hx rfl (hb hby d1_149) rfl rfl ?_
      show Steps _ _ _ (T0.setTop (mkF m 150 #[vR a1, vI nz, vR b2, vR s3, vR b2, vI nz, vI 1, vI d1_] [iR s3])) _
      refine XS.iload X0.here hx rfl (hb hby d1_150) rfl ?_
      show Steps _ _ _ (T0.setTop (mkF m 152 #[vR a1, vI nz, vR b2, vR s3, vR b2, vI nz, vI 1, vI d1_] [iI d1_, iR s3])) _
      refine XS.bipush X0.here hx rfl (hb hby d1_152) ?_
      show Steps _ _ _ (T0.setTop (mkF m 154 #[vR a1, vI nz, vR b2, vR s3, vR b2, vI nz, vI 1, vI d1_] [iI 16, iI d1_, iR s3])) _
      refine st29 _ ?_
      show Steps _ _ _ (T29.setTop (mkF m 157 #[vR a1, vI nz, vR b2, vR s3, vR b2, vI nz, vI 1, vI d1_] [iI (own_fd d1_), iR s3])) _
      refine st30.trans ?_
      show Steps _ _ _ (T30.setTop (mkF m 160 #[vR a1, vI nz, vR b2, vR s3, vR b2, vI nz, vI 1, vI d1_] [iR s3])) _
      refine XS.pop X30.here hx rfl (hb hby d1_160) rfl rfl ?_
      show Steps _ _ _ (T30.setTop (mkF m 161 #[vR a1, vI nz, vR b2, vR s3, vR b2, vI nz, vI 1, vI d1_] [])) _
      refine XS.iinc X30.here hx rfl (hb hby d1_161) rfl (l' := #[vR a1, vI nz, vR b2, vR s3, vR b2, vI nz, vI ((1 : Int32) + (1 : Int32)), vI d1_]) rfl ?_
      rw [(by decide : ((1 : Int32) + (1 : Int32)) = (2 : Int32))]
      show Steps _ _ _ (T30.setTop (mkF m 164 #[vR a1, vI nz, vR b2, vR s3, vR b2, vI nz, vI 2, vI d1_] [])) _
      refine XS.goto X30.here hx rfl (pc0 := 164) (pc' := 135) rfl (hb hby d1_164) (by decide) (by decide) ?_
      exact kt
    obtain ⟨s₂, o₂, hs₂, hr₂⟩ := own_turn2 X30 hx hZ hw hby hml hown hret (by first | assumption | exact BodyLoose.notSynchronized (by assumption) | exact Body.notSynchronized (by assumption)) (rfl : T30.heap = _) K30 N30 Z0 O0 fk32 g_b2 sz_b2 E30q Fv30q Fc30q Fn30q V30q fk33 g_s3 sz_s3 g_b4 sz_b4 ne_s3_b4 ne_s3_b2 ne_b4_b2 hn0 hn8 hn1 hc24 S_CS h_cs
    exact ⟨s₂, o₂, pre34 _ hs₂, hr₂⟩
  · have qz : nz = (1 : Int32) := own_is1 hc24 hlo
    have pre35 : ∀ t, Steps p.tables e below (T0.setTop (mkF m 167 #[vR a1, vI nz, vR b2, vR s3, vR b2, vI nz, vI 1, vI d0_] [])) t → Steps p.tables e below (T0.setTop (mkF m 135 #[vR a1, vI nz, vR b2, vR s3, vR b2, vI nz, vI 1, vI d0_] [])) t := by
      intro t kt
      refine pre25 t ?_
      show Steps _ _ _ (T0.setTop (mkF m 139 #[vR a1, vI nz, vR b2, vR s3, vR b2, vI nz, vI 1, vI d0_] [iI nz, iI 1])) _
      refine XS.icmpYes X0.here hx rfl (pc0 := 139) (pc' := 167) rfl (hb hby d1_139) rfl (flt hc24).2.1 (by decide) (by decide) ?_
      exact kt
    rcases qz with rfl
    · have Oh37 := O0.keep Kt0 all0
      obtain ⟨cq36, kq36, q36a, q36b, q36c⟩ := isOf hZ e0 E_3
      obtain ⟨_, _, ⟨T36, L36, k36, n36⟩, -, X36, ⟨Lc36, hQ36, l36, y36, z36⟩, st36⟩ := X0.virtualBack hx (y := (⟨"java/lang/StringBuilder", "toString", "()Ljava/lang/String;"⟩ : MethodName)) (z := (⟨"java/lang/StringBuilder", "toString", "()Ljava/lang/String;"⟩ : MethodName)) hown (mvT hZ (hw _ (List.mem_of_getElem? (i := 58) rfl))) (mvT hZ (hw _ (List.mem_of_getElem? (i := 59) rfl))) (notFace_of_selects (args := #[]) (mvT hZ (hw _ (List.mem_of_getElem? (i := 61) rfl)))) (mvT hZ (hw _ (List.mem_of_getElem? (i := 61) rfl))) (mvT hZ (hw _ (List.mem_of_getElem? (i := 60) rfl))) (by decide) (backOf (W := 0) (rm11 l Z a0 hw [] s3 b4 k4 (1 : Int32) (nar .byte (own_fd d0_).toInt8.toInt32) (0 : Int32) (0 : Int32) (0 : Int32) (0 : Int32) (0 : Int32) (0 : Int32) (0 : Int32) cs hT n0 (Nat.le_trans Z0 Kt0.1) Oh37 E_3 F_value F_coder F_count V_4 G_4 hn0 hn8 S_CS h_cs) hZ (hw _ (List.mem_of_getElem? (i := 62) rfl)) (hw _ (List.mem_of_getElem? (i := 8) rfl)) (by decide) (by decide)) q36a q36c (g := (mkF m 168 #[vR a1, vI 1, vR b2, vR s3, vR b2, vI 1, vI 1, vI d0_] [iR s3])) rfl (by rw [hml]; rfl) (Steps.refl _) (argsL := []) (rest := []) (lenOf pd_15 rfl) rfl (by show 2 * 0 + _ ≤ _; exact Nat.le_of_eq rfl) (hb hby d1_168) (fun _ _ => ⟨rfl, e0, (by decide : 3 + 2 ≤ _), (by decide : 20 + 12 ≤ _)⟩)
      dsimp only [Pt.U, Pt.locs, Pt.cells, Pt.slots] at X36 l36 y36 z36 st36 hQ36
      subst l36 y36 z36
      obtain ⟨o36, d36, rfl, N36q, K36q, E36q, C36q, F36q, V36q⟩ := hQ36
      have N36 := Fr.app N0 N36q
      have K36 : Keep h0 T36.heap [] := Keep.trans Kt0 K36q all0
      obtain ⟨fs, hr, hrun, hended, hW, hsame⟩ := X36.leave (v := some (.ref o36)) (fun h => by rw [hret] at h; cases h)
      refine ⟨_, _, pre35 _ ?_, hrun, hended, _, _, rfl, ?_, ⟨_, rfl⟩, hW, hsame.mono (by decide) (by decide)⟩
      · show Steps _ _ _ (T0.setTop (mkF m 167 #[vR a1, vI 1, vR b2, vR s3, vR b2, vI 1, vI 1, vI d0_] [])) _
        refine XS.aloadN X0.here hx rfl (hb hby d1_167) rfl rfl ?_
        show Steps _ _ _ (T0.setTop (mkF m 168 #[vR a1, vI 1, vR b2, vR s3, vR b2, vI 1, vI 1, vI d0_] [iR s3])) _
        refine st36.trans ?_
        show Steps _ _ _ (T36.setTop (mkF m 171 #[vR a1, vI 1, vR b2, vR s3, vR b2, vI 1, vI 1, vI d0_] [iR o36])) _
        jvm_step X36.here [X36.here.top, hx, (hb hby d1_171), X36.method', hret, Value.isRef, FieldType.isReference]
        first | (intro acts; rw [hr _ acts rfl rfl rfl]) | rw [hr _ _ rfl rfl rfl]
        exact Steps.refl _
      · show own_QT Z (1 : Int32) d0_ d1_ d2_ d3_ d4_ d5_ d6_ d7_ h0 n0 _ T36.heap _
        exact ⟨_, _, _, rfl, N36, K36, E36q, C36q, F36q, (own_cut V36q (fun i hi => by match i, hi with | 0, _ => rfl | _ + 1, h => exact absurd h (by simp [Int32.toNatClampNeg])))⟩
set_option maxRecDepth 65536 in
set_option maxHeartbeats 40000000 in
theorem own_turn0 {p : Program} {l : Launch} {e : Env} {s : State} {m : MethodId} {below : List Frame} {meth : Method} {c : Code} {T0 : State} {locs : List Loc} {Z : State} {a0 : Array Value} {h0 hT : Heap} {n0 : Nat} {a1 b2 : Addr} {k2 : ClassId} {nz : Int32} {d0_ : Int32} {d1_ : Int32} {d2_ : Int32} {d3_ : Int32} {d4_ : Int32} {d5_ : Int32} {d6_ : Int32} {d7_ : Int32} {cs : Int32} {s3 b4 : Addr} {k4 : ClassId}
    (X0 : Stand p l e ({ frames := 5, cells := 5, slots := 32, locals := 71 } : Room) s m #[(.ref a1)] below meth c T0 locs 3 20) (hx : p.tables.exec = Jvm.exec) (hZ : Z.Warmed39 s.vm) (hw : ∀ d ∈ tables_1, d.before a0 Z = true) (hby : c.code = prog_29_method_3_code) (hml : c.maxLocals = 8) (hown : s.vm.findClass "com/example/cloud_to_core/cloudtocore/model/SupportedFeatures" = some m.cls) (hret : meth.sig.returnType = some (.object "java/lang/String")) (hlocks : meth.locks = false) (e0 : T0.heap = hT) (Kt0 : Keep h0 hT []) (N0 : Fr n0 locs) (Z0 : n0 ≤ h0.size) (O0 : Old Z n0 h0) (V_2 : Arv Z hT b2 k2 .int nz [(.int d0_), (.int d1_), (.int d2_), (.int d3_), (.int d4_), (.int d5_), (.int d6_), (.int d7_)] (.int (0 : Int32))) (g_b2 : n0 ≤ b2) (sz_b2 : h0.size ≤ b2) (E_3 : Exa Z hT s3 "java/lang/StringBuilder") (F_value : Fld Z hT s3 "java/lang/AbstractStringBuilder" "value" "[B" (.ref b4)) (F_coder : Fld Z hT s3 "java/lang/AbstractStringBuilder" "coder" "B" (.int (0 : Int32))) (F_count : Fld Z hT s3 "java/lang/AbstractStringBuilder" "count" "I" (.int (0 : Int32))) (V_4 : Arv Z hT b4 k4 .byte nz [(.int (0 : Int32)), (.int (0 : Int32)), (.int (0 : Int32)), (.int (0 : Int32)), (.int (0 : Int32)), (.int (0 : Int32)), (.int (0 : Int32)), (.int (0 : Int32))] (.int (0 : Int32))) (G_4 : Exa Z hT b4 "[B") (g_s3 : n0 ≤ s3) (sz_s3 : h0.size ≤ s3) (g_b4 : n0 ≤ b4) (sz_b4 : h0.size ≤ b4) (ne_s3_b4 : s3 ≠ b4) (ne_s3_b2 : s3 ≠ b2) (ne_b4_b2 : b4 ≠ b2) (hn0 : ¬ nz < 0) (hn8 : nz.toNatClampNeg ≤ 8) (hn1 : (0 : Int32) < nz) (S_CS : Sta Z Z.heap "java/lang/String" "COMPACT_STRINGS" "Z" (.int cs)) (h_cs : ¬ cs = (0 : Int32)) :
    ∃ s₂ o, Steps p.tables e below (T0.setTop (mkF m 135 #[vR a1, vI nz, vR b2, vR s3, vR b2, vI nz, vI 0, .unset] [])) s₂ ∧ s₂.status = .running ∧ Ended s₂ below o ∧ ∃ v L, o = .returned v ∧ own_QT Z nz d0_ d1_ d2_ d3_ d4_ d5_ d6_ d7_ h0 n0 v s₂.heap L ∧ FrameEnd s o s₂ L ({ frames := 5, cells := 5, slots := 32, locals := 71 } : Room).cells ({ frames := 5, cells := 5, slots := 32, locals := 71 } : Room).slots := by
  obtain ⟨cl15, Ar15, q15, S15, M15, H15, G15⟩ := id V_2
  have hin16 : ¬ ((0 : Int32) < 0 ∨ cl15.slots.size ≤ ((0 : Int32)).toNatClampNeg) := inb_of S15 ⟨by decide, hn1⟩
  have hat17 : cl15.slots[((0 : Int32)).toNatClampNeg]? = some (.int d0_) := Has.at H15 hin16 rfl
  obtain ⟨_, _, ⟨T18, L18, k18, n18⟩, -, X18, ⟨Lc18, hQ18, l18, y18, z18⟩, st18⟩ := Jvm.LawKit.callS X0 hx (y := (⟨"java/lang/Character", "forDigit", "(II)C"⟩ : MethodName)) hown (mvT hZ (hw _ (List.mem_of_getElem? (i := 28) rfl))) (mvT hZ (hw _ (List.mem_of_getElem? (i := 29) rfl))) (mvT hZ (hw _ (List.mem_of_getElem? (i := 30) rfl))) (mvT hZ (hw _ (List.mem_of_getElem? (i := 31) rfl))) (by decide) (backOf (W := 1) (rm5 l Z a0 hw [] d0_ hT ) hZ (hw _ (List.mem_of_getElem? (i := 31) rfl)) (hw _ (List.mem_of_getElem? (i := 30) rfl)) (by decide) (by decide)) (g := (mkF m 154 #[vR a1, vI nz, vR b2, vR s3, vR b2, vI nz, vI 0, vI d0_] [iI 16, iI d0_, iR s3])) rfl (by rw [hml]; rfl) (argsL := [(.int d0_), (.int (16 : Int32))]) (rest := [(.ref s3)]) (lenOf pd_13 rfl) rfl (by show 2 * 0 + _ ≤ _; exact Nat.le_of_eq rfl) (hb hby d1_154) (fun _ _ => ⟨rfl, e0, (by decide : 3 + 0 ≤ _), (by decide : 20 + 0 ≤ _)⟩)
  dsimp only [Pt.U, Pt.locs, Pt.cells, Pt.slots] at X18 l18 y18 z18 st18 hQ18
  subst l18 y18 z18
  obtain ⟨rfl, rfl, e18⟩ := hQ18
  try rw [List.append_nil] at X18
  have Oh20 := O0.keep Kt0 all0
  obtain ⟨cq19, kq19, q19a, q19b, q19c⟩ := isOf hZ e18 E_3
  obtain ⟨_, _, ⟨T19, L19, k19, n19⟩, -, X19, ⟨Lc19, hQ19, l19, y19, z19⟩, st19⟩ := X18.virtualBack hx (y := (⟨"java/lang/StringBuilder", "append", "(C)Ljava/lang/StringBuilder;"⟩ : MethodName)) (z := (⟨"java/lang/StringBuilder", "append", "(C)Ljava/lang/StringBuilder;"⟩ : MethodName)) hown (mvT hZ (hw _ (List.mem_of_getElem? (i := 32) rfl))) (mvT hZ (hw _ (List.mem_of_getElem? (i := 33) rfl))) (notFace_of_selects (args := #[]) (mvT hZ (hw _ (List.mem_of_getElem? (i := 35) rfl)))) (mvT hZ (hw _ (List.mem_of_getElem? (i := 35) rfl))) (mvT hZ (hw _ (List.mem_of_getElem? (i := 34) rfl))) (by decide) (backOf (W := 0) (rm6_0 l Z a0 hw [] s3 (own_fd d0_) b4 k4 nz (0 : Int32) (0 : Int32) (0 : Int32) (0 : Int32) (0 : Int32) (0 : Int32) (0 : Int32) (0 : Int32) cs hT n0 (Nat.le_trans Z0 Kt0.1) Oh20 E_3 g_s3 g_b4 F_value F_coder F_count V_4 ne_s3_b4 hn1 (own_fdl _) S_CS h_cs) hZ (hw _ (List.mem_of_getElem? (i := 36) rfl)) (hw _ (List.mem_of_getElem? (i := 8) rfl)) (by decide) (by decide)) q19a q19c (g := (mkF m 157 #[vR a1, vI nz, vR b2, vR s3, vR b2, vI nz, vI 0, vI d0_] [iI (own_fd d0_), iR s3])) rfl (by rw [hml]; rfl) (Steps.refl _) (argsL := [(.int (own_fd d0_))]) (rest := []) (lenOf pd_14 rfl) rfl (by show 2 * 0 + _ ≤ _; exact Nat.le_of_eq rfl) (hb hby d1_157) (fun _ _ => ⟨rfl, e18, (by decide : 3 + 0 ≤ _), (by decide : 20 + 0 ≤ _)⟩)
  dsimp only [Pt.U, Pt.locs, Pt.cells, Pt.slots] at X19 l19 y19 z19 st19 hQ19
  subst l19 y19 z19
  obtain ⟨rfl, N19q, K19q, E19q, Fv19q, Fc19q, Fn19q, V19q⟩ := hQ19
  have N19 := Fr.app N0 N19q
  have K19 : Keep h0 T19.heap [] := Keep.trans Kt0 K19q (allS (Or.inr sz_s3) (allS (Or.inr sz_b4) all0))
  have fk21 := (V_2.keep K19q (ninS (Ne.symm ne_s3_b2) (ninS (Ne.symm ne_b4_b2) nin0)))
  have fk22 := (G_4.keep K19q)
  have pre23 : ∀ t, Steps p.tables e below (T19.setTop (mkF m 135 #[vR a1, vI nz, vR b2, vR s3, vR b2, vI nz, vI 1, vI d0_] [])) t → Steps p.tables e below (T0.setTop (mkF m 135 #[vR a1, vI nz, vR b2, vR s3, vR b2, vI nz, vI 0, .unset] [])) t := by
    intro t kt
    show Steps _ _ _ (T0.setTop (mkF m 135 #[vR a1, vI nz, vR b2, vR s3, vR b2, vI nz, vI 0, .unset] [])) _
    refine XS.iload X0.here hx rfl (hb hby d1_135) rfl ?_
    show Steps _ _ _ (T0.setTop (mkF m 137 #[vR a1, vI nz, vR b2, vR s3, vR b2, vI nz, vI 0, .unset] [iI 0])) _
    refine XS.iload X0.here hx rfl (hb hby d1_137) rfl ?_
    show Steps _ _ _ (T0.setTop (mkF m 139 #[vR a1, vI nz, vR b2, vR s3, vR b2, vI nz, vI 0, .unset] [iI nz, iI 0])) _
    refine XS.icmpNo X0.here hx rfl (hb hby d1_139) rfl (tlt hn1).2.1 ?_
    show Steps _ _ _ (T0.setTop (mkF m 142 #[vR a1, vI nz, vR b2, vR s3, vR b2, vI nz, vI 0, .unset] [])) _
    refine XS.aload X0.here hx rfl (hb hby d1_142) rfl rfl ?_
    show Steps _ _ _ (T0.setTop (mkF m 144 #[vR a1, vI nz, vR b2, vR s3, vR b2, vI nz, vI 0, .unset] [iR b2])) _
    refine XS.iload X0.here hx rfl (hb hby d1_144) rfl ?_
    show Steps _ _ _ (T0.setTop (mkF m 146 #[vR a1, vI nz, vR b2, vR s3, vR b2, vI nz, vI 0, .unset] [iI 0, iR b2])) _
    refine X0.iaload hx (j := (0 : Int32)) (v := (.int d0_)) (by rw [e0]; exact Ar15.1) (State.isArrayOf_alike hZ.alike Ar15.2.1) Ar15.2.2 hin16 hat17 (g := (mkF m 146 #[vR a1, vI nz, vR b2, vR s3, vR b2, vI nz, vI 0, .unset] [iI 0, iR b2])) rfl rfl (hb hby d1_146) _ ?_
    show Steps _ _ _ (T0.setTop (mkF m 147 #[vR a1, vI nz, vR b2, vR s3, vR b2, vI nz, vI 0, .unset] [iI d0_])) _
    refine XS.istore X0.here hx rfl (hb hby d1_147) rfl (l' := #[vR a1, vI nz, vR b2, vR s3, vR b2, vI nz, vI 0, vI d0_]) rfl ?_
    show Steps _ _ _ (T0.setTop (mkF m 149 #[vR a1, vI nz, vR b2, vR s3, vR b2, vI nz, vI 0, vI d0_] [])) _
    refine XS.aloadN X0.here hx rfl (hb hby d1_149) rfl rfl ?_
    show Steps _ _ _ (T0.setTop (mkF m 150 #[vR a1, vI nz, vR b2, vR s3, vR b2, vI nz, vI 0, vI d0_] [iR s3])) _
    refine XS.iload X0.here hx rfl (hb hby d1_150) rfl ?_
    show Steps _ _ _ (T0.setTop (mkF m 152 #[vR a1, vI nz, vR b2, vR s3, vR b2, vI nz, vI 0, vI d0_] [iI d0_, iR s3])) _
    refine XS.bipush X0.here hx rfl (hb hby d1_152) ?_
    show Steps _ _ _ (T0.setTop (mkF m 154 #[vR a1, vI nz, vR b2, vR s3, vR b2, vI nz, vI 0, vI d0_] [iI 16, iI d0_, iR s3])) _
    refine st18 _ ?_
    show Steps _ _ _ (T18.setTop (mkF m 157 #[vR a1, vI nz, vR b2, vR s3, vR b2, vI nz, vI 0, vI d0_] [iI (own_fd d0_), iR s3])) _
    refine st19.trans ?_
    show Steps _ _ _ (T19.setTop (mkF m 160 #[vR a1, vI nz, vR b2, vR s3, vR b2, vI nz, vI 0, vI d0_] [iR s3])) _
    refine XS.pop X19.here hx rfl (hb hby d1_160) rfl rfl ?_
    show Steps _ _ _ (T19.setTop (mkF m 161 #[vR a1, vI nz, vR b2, vR s3, vR b2, vI nz, vI 0, vI d0_] [])) _
    refine XS.iinc X19.here hx rfl (hb hby d1_161) rfl (l' := #[vR a1, vI nz, vR b2, vR s3, vR b2, vI nz, vI ((0 : Int32) + (1 : Int32)), vI d0_]) rfl ?_
    rw [(by decide : ((0 : Int32) + (1 : Int32)) = (1 : Int32))]
    show Steps _ _ _ (T19.setTop (mkF m 164 #[vR a1, vI nz, vR b2, vR s3, vR b2, vI nz, vI 1, vI d0_] [])) _
    refine XS.goto X19.here hx rfl (pc0 := 164) (pc' := 135) rfl (hb hby d1_164) (by decide) (by decide) ?_
    exact kt
  obtain ⟨s₂, o₂, hs₂, hr₂⟩ := own_turn1 X19 hx hZ hw hby hml hown hret (by first | assumption | exact BodyLoose.notSynchronized (by assumption) | exact Body.notSynchronized (by assumption)) (rfl : T19.heap = _) K19 N19 Z0 O0 fk21 g_b2 sz_b2 E19q Fv19q Fc19q Fn19q V19q fk22 g_s3 sz_s3 g_b4 sz_b4 ne_s3_b4 ne_s3_b2 ne_b4_b2 hn0 hn8 hn1 hn1 S_CS h_cs
  exact ⟨s₂, o₂, pre23 _ hs₂, hr₂⟩
set_option maxRecDepth 65536 in
set_option maxHeartbeats 40000000 in
theorem own_tail0 {p : Program} {l : Launch} {e : Env} {s : State} {m : MethodId} {below : List Frame} {meth : Method} {c : Code} {T0 : State} {locs : List Loc} {Z : State} {a0 : Array Value} {h0 hT : Heap} {n0 : Nat} {a1 b2 : Addr} {k2 : ClassId} {nz : Int32} {d0_ : Int32} {d1_ : Int32} {d2_ : Int32} {d3_ : Int32} {d4_ : Int32} {d5_ : Int32} {d6_ : Int32} {d7_ : Int32} {cs : Int32} {nn : Int32}
    (X0 : Stand p l e ({ frames := 5, cells := 5, slots := 32, locals := 71 } : Room) s m #[(.ref a1)] below meth c T0 locs 1 1) (hx : p.tables.exec = Jvm.exec) (hZ : Z.Warmed39 s.vm) (hw : ∀ d ∈ tables_1, d.before a0 Z = true) (hby : c.code = prog_29_method_3_code) (hml : c.maxLocals = 8) (hown : s.vm.findClass "com/example/cloud_to_core/cloudtocore/model/SupportedFeatures" = some m.cls) (hret : meth.sig.returnType = some (.object "java/lang/String")) (hlocks : meth.locks = false) (e0 : T0.heap = hT) (Kt0 : Keep h0 hT []) (N0 : Fr n0 locs) (Z0 : n0 ≤ h0.size) (O0 : Old Z n0 h0) (V_2 : Arv Z hT b2 k2 .int nz [(.int d0_), (.int d1_), (.int d2_), (.int d3_), (.int d4_), (.int d5_), (.int d6_), (.int d7_)] (.int (0 : Int32))) (g_b2 : n0 ≤ b2) (sz_b2 : h0.size ≤ b2) (hn0 : ¬ nz < 0) (hn8 : nz.toNatClampNeg ≤ 8) (hn1 : (0 : Int32) < nz) (S_CS : Sta Z Z.heap "java/lang/String" "COMPACT_STRINGS" "Z" (.int cs)) (h_cs : ¬ cs = (0 : Int32)) :
    ∃ s₂ o, Steps p.tables e below (T0.setTop (mkF m 115 #[vR a1, vI nz, vR b2, vR a1, vI nn, vI nn, .unset, .unset] [])) s₂ ∧ s₂.status = .running ∧ Ended s₂ below o ∧ ∃ v L, o = .returned v ∧ own_QT Z nz d0_ d1_ d2_ d3_ d4_ d5_ d6_ d7_ h0 n0 v s₂.heap L ∧ FrameEnd s o s₂ L ({ frames := 5, cells := 5, slots := 32, locals := 71 } : Room).cells ({ frames := 5, cells := 5, slots := 32, locals := 71 } : Room).slots := by
  obtain ⟨T1, h1, X1, e1, E1, A1, D1, -, st1⟩ := newO X0 hx hZ hown (hw _ (List.mem_of_getElem? (i := 6) rfl)) (hw _ (List.mem_of_getElem? (i := 7) rfl)) (hw _ (List.mem_of_getElem? (i := 8) rfl)) e0 (g := (mkF m 115 #[vR a1, vI nz, vR b2, vR a1, vI nn, vI nn, .unset, .unset] [])) rfl (hb hby d1_115) (by decide) (by decide)
  obtain ⟨b1, g1⟩ : ∃ z, z = hT.size := ⟨_, rfl⟩
  rw [← g1] at A1 D1 st1
  have ne_b2_b1 : b2 ≠ b1 := Nat.ne_of_lt (Nat.lt_of_lt_of_le V_2.lt (Nat.le_of_eq g1.symm))
  have sz_b1 : h0.size ≤ b1 := Nat.le_trans Kt0.1 (Nat.le_of_eq g1.symm)
  have g_b1 : n0 ≤ b1 := Nat.le_trans Z0 sz_b1
  have K1 : Keep h0 h1 [] := Kt0.ext E1
  have F_value_b1 : Fld Z h1 b1 "java/lang/AbstractStringBuilder" "value" "[B" .null := D1 (Or.inl (hw _ (List.mem_of_getElem? (i := 25) rfl))) (ty := (.array .byte)) (by decide)
  have F_coder_b1 : Fld Z h1 b1 "java/lang/AbstractStringBuilder" "coder" "B" (.int (0 : Int32)) := D1 (Or.inl (hw _ (List.mem_of_getElem? (i := 27) rfl))) (ty := .byte) (by decide)
  have F_count_b1 : Fld Z h1 b1 "java/lang/AbstractStringBuilder" "count" "I" (.int (0 : Int32)) := D1 (Or.inl (hw _ (List.mem_of_getElem? (i := 43) rfl))) (ty := .int) (by decide)
  have Oh3 := O0.keep K1 all0
  obtain ⟨_, _, ⟨T2, L2, k2, n2⟩, -, X2, ⟨Lc2, hQ2, l2, y2, z2⟩, st2⟩ := X1.specialBack hx (y := (⟨"java/lang/StringBuilder", "<init>", "(I)V"⟩ : MethodName)) rfl hown (mvT hZ (hw _ (List.mem_of_getElem? (i := 9) rfl))) (mvT hZ (hw _ (List.mem_of_getElem? (i := 10) rfl))) (mvT hZ (hw _ (List.mem_of_getElem? (i := 11) rfl))) (by decide) (backOf (W := 1) (rm2 l Z a0 hw [] b1 nz cs h1 n0 (Nat.le_trans Z0 K1.1) Oh3 A1 g_b1 F_value_b1 F_coder_b1 F_count_b1 hn0 hn8 S_CS h_cs) hZ (hw _ (List.mem_of_getElem? (i := 11) rfl)) (hw _ (List.mem_of_getElem? (i := 8) rfl)) (by decide) (by decide)) (g := (mkF m 120 #[vR a1, vI nz, vR b2, vR a1, vI nn, vI nn, .unset, .unset] [iI nz, iR b1, iR b1])) rfl (by rw [hml]; rfl) (Steps.refl _) (a := b1) (argsL := [(.int nz)]) (rest := [(.ref b1)]) (lenOf pd_0 rfl) rfl (by show 2 * 0 + _ ≤ _; exact Nat.le_of_eq rfl) (hb hby d1_120) (fun _ _ => ⟨rfl, e1, (by decide : 2 + 1 ≤ _), (by decide : 5 + 8 ≤ _)⟩)
  dsimp only [Pt.U, Pt.locs, Pt.cells, Pt.slots] at X2 l2 y2 z2 st2 hQ2
  subst l2 y2 z2
  obtain ⟨d2, kd2, rfl, N2q, K2q, E2q, Fv2q, Fc2q, Fn2q, V2q, G2q, z_d2⟩ := hQ2
  have fk4 := (V_2.ext E1)
  have ne_b2_d2 : b2 ≠ d2 := Nat.ne_of_lt (Nat.lt_of_lt_of_le fk4.lt z_d2)
  have ne_b1_d2 : b1 ≠ d2 := Nat.ne_of_lt (Nat.lt_of_lt_of_le A1.lt z_d2)
  have sz_d2 : h0.size ≤ d2 := Nat.le_trans K1.1 z_d2
  have g_d2 : n0 ≤ d2 := Nat.le_trans Z0 sz_d2
  have N2 := Fr.app N0 N2q
  have K2 : Keep h0 T2.heap [] := Keep.trans K1 K2q (allS (Or.inr sz_b1) all0)
  have fk5 := (fk4.keep K2q (ninS ne_b2_b1 nin0))
  obtain ⟨cl6, Ar6, q6, S6, M6, H6, G6⟩ := id fk5
  have pre7 : ∀ t, Steps p.tables e below (T2.setTop (mkF m 135 #[vR a1, vI nz, vR b2, vR b1, vR b2, vI nz, vI 0, .unset] [])) t → Steps p.tables e below (T0.setTop (mkF m 115 #[vR a1, vI nz, vR b2, vR a1, vI nn, vI nn, .unset, .unset] [])) t := by
    intro t kt
    show Steps _ _ _ (T0.setTop (mkF m 115 #[vR a1, vI nz, vR b2, vR a1, vI nn, vI nn, .unset, .unset] [])) _
    refine st1 _ ?_
    show Steps _ _ _ (T1.setTop (mkF m 118 #[vR a1, vI nz, vR b2, vR a1, vI nn, vI nn, .unset, .unset] [iR b1])) _
    refine XS.dup X1.here hx rfl (hb hby d1_118) rfl rfl ?_
    show Steps _ _ _ (T1.setTop (mkF m 119 #[vR a1, vI nz, vR b2, vR a1, vI nn, vI nn, .unset, .unset] [iR b1, iR b1])) _
    refine XS.iloadN X1.here hx rfl (hb hby d1_119) rfl ?_
    show Steps _ _ _ (T1.setTop (mkF m 120 #[vR a1, vI nz, vR b2, vR a1, vI nn, vI nn, .unset, .unset] [iI nz, iR b1, iR b1])) _
    refine st2.trans ?_
    show Steps _ _ _ (T2.setTop (mkF m 123 #[vR a1, vI nz, vR b2, vR a1, vI nn, vI nn, .unset, .unset] [iR b1])) _
    refine XS.astoreN X2.here hx rfl (hb hby d1_123) rfl rfl (l' := #[vR a1, vI nz, vR b2, vR b1, vI nn, vI nn, .unset, .unset]) rfl ?_
    show Steps _ _ _ (T2.setTop (mkF m 124 #[vR a1, vI nz, vR b2, vR b1, vI nn, vI nn, .unset, .unset] [])) _
    refine XS.aloadN X2.here hx rfl (hb hby d1_124) rfl rfl ?_
    show Steps _ _ _ (T2.setTop (mkF m 125 #[vR a1, vI nz, vR b2, vR b1, vI nn, vI nn, .unset, .unset] [iR b2])) _
    refine XS.astore X2.here hx rfl (hb hby d1_125) rfl rfl (l' := #[vR a1, vI nz, vR b2, vR b1, vR b2, vI nn, .unset, .unset]) rfl ?_
    show Steps _ _ _ (T2.setTop (mkF m 127 #[vR a1, vI nz, vR b2, vR b1, vR b2, vI nn, .unset, .unset] [])) _
    refine XS.aload X2.here hx rfl (hb hby d1_127) rfl rfl ?_
    show Steps _ _ _ (T2.setTop (mkF m 129 #[vR a1, vI nz, vR b2, vR b1, vR b2, vI nn, .unset, .unset] [iR b2])) _
    refine X2.arraylength hx Ar6.1 (State.isArrayOf_alike hZ.alike Ar6.2.1) (g := (mkF m 129 #[vR a1, vI nz, vR b2, vR b1, vR b2, vI nn, .unset, .unset] [iR b2])) rfl rfl (hb hby d1_129) _ ?_
    rw [len_of S6 M6]
    show Steps _ _ _ (T2.setTop (mkF m 130 #[vR a1, vI nz, vR b2, vR b1, vR b2, vI nn, .unset, .unset] [iI nz])) _
    refine XS.istore X2.here hx rfl (hb hby d1_130) rfl (l' := #[vR a1, vI nz, vR b2, vR b1, vR b2, vI nz, .unset, .unset]) rfl ?_
    show Steps _ _ _ (T2.setTop (mkF m 132 #[vR a1, vI nz, vR b2, vR b1, vR b2, vI nz, .unset, .unset] [])) _
    refine XS.iconst X2.here hx rfl (hb hby d1_132) ?_
    show Steps _ _ _ (T2.setTop (mkF m 133 #[vR a1, vI nz, vR b2, vR b1, vR b2, vI nz, .unset, .unset] [iI 0])) _
    refine XS.istore X2.here hx rfl (hb hby d1_133) rfl (l' := #[vR a1, vI nz, vR b2, vR b1, vR b2, vI nz, vI 0, .unset]) rfl ?_
    exact kt
  obtain ⟨s₂, o₂, hs₂, hr₂⟩ := own_turn0 (X2.more (by decide) (by decide)) hx hZ hw hby hml hown hret (by first | assumption | exact BodyLoose.notSynchronized (by assumption) | exact Body.notSynchronized (by assumption)) (rfl : T2.heap = _) K2 N2 Z0 O0 fk5 g_b2 sz_b2 E2q Fv2q Fc2q Fn2q V2q G2q g_b1 sz_b1 g_d2 sz_d2 ne_b1_d2 (Ne.symm ne_b2_b1) (Ne.symm ne_b2_d2) hn0 hn8 hn1 S_CS h_cs
  exact ⟨s₂, o₂, pre7 _ hs₂, hr₂⟩
set_option maxRecDepth 65536 in
set_option maxHeartbeats 40000000 in
theorem own_tail1 {p : Program} {l : Launch} {e : Env} {s : State} {m : MethodId} {below : List Frame} {meth : Method} {c : Code} {T0 : State} {locs : List Loc} {Z : State} {a0 : Array Value} {h0 hT : Heap} {n0 : Nat} {a1 b2 : Addr} {k2 : ClassId} {nz : Int32} {d0_ : Int32} {d1_ : Int32} {d2_ : Int32} {d3_ : Int32} {d4_ : Int32} {d5_ : Int32} {d6_ : Int32} {d7_ : Int32} {cs : Int32} {nn : Int32} {ff : Int32}
    (X0 : Stand p l e ({ frames := 5, cells := 5, slots := 32, locals := 71 } : Room) s m #[(.ref a1)] below meth c T0 locs 1 8) (hx : p.tables.exec = Jvm.exec) (hZ : Z.Warmed39 s.vm) (hw : ∀ d ∈ tables_1, d.before a0 Z = true) (hby : c.code = prog_29_method_3_code) (hml : c.maxLocals = 8) (hown : s.vm.findClass "com/example/cloud_to_core/cloudtocore/model/SupportedFeatures" = some m.cls) (hret : meth.sig.returnType = some (.object "java/lang/String")) (hlocks : meth.locks = false) (e0 : T0.heap = hT) (Kt0 : Keep h0 hT []) (N0 : Fr n0 locs) (Z0 : n0 ≤ h0.size) (O0 : Old Z n0 h0) (V_2 : Arv Z hT b2 k2 .int nz [(.int d0_), (.int d1_), (.int d2_), (.int d3_), (.int d4_), (.int d5_), (.int d6_), (.int d7_)] (.int (0 : Int32))) (g_b2 : n0 ≤ b2) (sz_b2 : h0.size ≤ b2) (hn0 : ¬ nz < 0) (hn8 : nz.toNatClampNeg ≤ 8) (hn1 : (0 : Int32) < nz) (S_CS : Sta Z Z.heap "java/lang/String" "COMPACT_STRINGS" "Z" (.int cs)) (h_cs : ¬ cs = (0 : Int32)) :
    ∃ s₂ o, Steps p.tables e below (T0.setTop (mkF m 115 #[vR a1, vI nz, vR b2, vR a1, vI nn, vI nn, vI ff, .unset] [])) s₂ ∧ s₂.status = .running ∧ Ended s₂ below o ∧ ∃ v L, o = .returned v ∧ own_QT Z nz d0_ d1_ d2_ d3_ d4_ d5_ d6_ d7_ h0 n0 v s₂.heap L ∧ FrameEnd s o s₂ L ({ frames := 5, cells := 5, slots := 32, locals := 71 } : Room).cells ({ frames := 5, cells := 5, slots := 32, locals := 71 } : Room).slots := by
  obtain ⟨T8, h8, X8, e8, E8, A8, D8, -, st8⟩ := newO X0 hx hZ hown (hw _ (List.mem_of_getElem? (i := 6) rfl)) (hw _ (List.mem_of_getElem? (i := 7) rfl)) (hw _ (List.mem_of_getElem? (i := 8) rfl)) e0 (g := (mkF m 115 #[vR a1, vI nz, vR b2, vR a1, vI nn, vI nn, vI ff, .unset] [])) rfl (hb hby d1_115) (by decide) (by decide)
  obtain ⟨b8, g8⟩ : ∃ z, z = hT.size := ⟨_, rfl⟩
  rw [← g8] at A8 D8 st8
  have ne_b2_b8 : b2 ≠ b8 := Nat.ne_of_lt (Nat.lt_of_lt_of_le V_2.lt (Nat.le_of_eq g8.symm))
  have sz_b8 : h0.size ≤ b8 := Nat.le_trans Kt0.1 (Nat.le_of_eq g8.symm)
  have g_b8 : n0 ≤ b8 := Nat.le_trans Z0 sz_b8
  have K8 : Keep h0 h8 [] := Kt0.ext E8
  have F_value_b8 : Fld Z h8 b8 "java/lang/AbstractStringBuilder" "value" "[B" .null := D8 (Or.inl (hw _ (List.mem_of_getElem? (i := 25) rfl))) (ty := (.array .byte)) (by decide)
  have F_coder_b8 : Fld Z h8 b8 "java/lang/AbstractStringBuilder" "coder" "B" (.int (0 : Int32)) := D8 (Or.inl (hw _ (List.mem_of_getElem? (i := 27) rfl))) (ty := .byte) (by decide)
  have F_count_b8 : Fld Z h8 b8 "java/lang/AbstractStringBuilder" "count" "I" (.int (0 : Int32)) := D8 (Or.inl (hw _ (List.mem_of_getElem? (i := 43) rfl))) (ty := .int) (by decide)
  have Oh10 := O0.keep K8 all0
  obtain ⟨_, _, ⟨T9, L9, k9, n9⟩, -, X9, ⟨Lc9, hQ9, l9, y9, z9⟩, st9⟩ := X8.specialBack hx (y := (⟨"java/lang/StringBuilder", "<init>", "(I)V"⟩ : MethodName)) rfl hown (mvT hZ (hw _ (List.mem_of_getElem? (i := 9) rfl))) (mvT hZ (hw _ (List.mem_of_getElem? (i := 10) rfl))) (mvT hZ (hw _ (List.mem_of_getElem? (i := 11) rfl))) (by decide) (backOf (W := 1) (rm2 l Z a0 hw [] b8 nz cs h8 n0 (Nat.le_trans Z0 K8.1) Oh10 A8 g_b8 F_value_b8 F_coder_b8 F_count_b8 hn0 hn8 S_CS h_cs) hZ (hw _ (List.mem_of_getElem? (i := 11) rfl)) (hw _ (List.mem_of_getElem? (i := 8) rfl)) (by decide) (by decide)) (g := (mkF m 120 #[vR a1, vI nz, vR b2, vR a1, vI nn, vI nn, vI ff, .unset] [iI nz, iR b8, iR b8])) rfl (by rw [hml]; rfl) (Steps.refl _) (a := b8) (argsL := [(.int nz)]) (rest := [(.ref b8)]) (lenOf pd_0 rfl) rfl (by show 2 * 0 + _ ≤ _; exact Nat.le_of_eq rfl) (hb hby d1_120) (fun _ _ => ⟨rfl, e8, (by decide : 2 + 1 ≤ _), (by decide : 12 + 8 ≤ _)⟩)
  dsimp only [Pt.U, Pt.locs, Pt.cells, Pt.slots] at X9 l9 y9 z9 st9 hQ9
  subst l9 y9 z9
  obtain ⟨d9, kd9, rfl, N9q, K9q, E9q, Fv9q, Fc9q, Fn9q, V9q, G9q, z_d9⟩ := hQ9
  have fk11 := (V_2.ext E8)
  have ne_b2_d9 : b2 ≠ d9 := Nat.ne_of_lt (Nat.lt_of_lt_of_le fk11.lt z_d9)
  have ne_b8_d9 : b8 ≠ d9 := Nat.ne_of_lt (Nat.lt_of_lt_of_le A8.lt z_d9)
  have sz_d9 : h0.size ≤ d9 := Nat.le_trans K8.1 z_d9
  have g_d9 : n0 ≤ d9 := Nat.le_trans Z0 sz_d9
  have N9 := Fr.app N0 N9q
  have K9 : Keep h0 T9.heap [] := Keep.trans K8 K9q (allS (Or.inr sz_b8) all0)
  have fk12 := (fk11.keep K9q (ninS ne_b2_b8 nin0))
  obtain ⟨cl13, Ar13, q13, S13, M13, H13, G13⟩ := id fk12
  have pre14 : ∀ t, Steps p.tables e below (T9.setTop (mkF m 135 #[vR a1, vI nz, vR b2, vR b8, vR b2, vI nz, vI 0, .unset] [])) t → Steps p.tables e below (T0.setTop (mkF m 115 #[vR a1, vI nz, vR b2, vR a1, vI nn, vI nn, vI ff, .unset] [])) t := by
    intro t kt
    show Steps _ _ _ (T0.setTop (mkF m 115 #[vR a1, vI nz, vR b2, vR a1, vI nn, vI nn, vI ff, .unset] [])) _
    refine st8 _ ?_
    show Steps _ _ _ (T8.setTop (mkF m 118 #[vR a1, vI nz, vR b2, vR a1, vI nn, vI nn, vI ff, .unset] [iR b8])) _
    refine XS.dup X8.here hx rfl (hb hby d1_118) rfl rfl ?_
    show Steps _ _ _ (T8.setTop (mkF m 119 #[vR a1, vI nz, vR b2, vR a1, vI nn, vI nn, vI ff, .unset] [iR b8, iR b8])) _
    refine XS.iloadN X8.here hx rfl (hb hby d1_119) rfl ?_
    show Steps _ _ _ (T8.setTop (mkF m 120 #[vR a1, vI nz, vR b2, vR a1, vI nn, vI nn, vI ff, .unset] [iI nz, iR b8, iR b8])) _
    refine st9.trans ?_
    show Steps _ _ _ (T9.setTop (mkF m 123 #[vR a1, vI nz, vR b2, vR a1, vI nn, vI nn, vI ff, .unset] [iR b8])) _
    refine XS.astoreN X9.here hx rfl (hb hby d1_123) rfl rfl (l' := #[vR a1, vI nz, vR b2, vR b8, vI nn, vI nn, vI ff, .unset]) rfl ?_
    show Steps _ _ _ (T9.setTop (mkF m 124 #[vR a1, vI nz, vR b2, vR b8, vI nn, vI nn, vI ff, .unset] [])) _
    refine XS.aloadN X9.here hx rfl (hb hby d1_124) rfl rfl ?_
    show Steps _ _ _ (T9.setTop (mkF m 125 #[vR a1, vI nz, vR b2, vR b8, vI nn, vI nn, vI ff, .unset] [iR b2])) _
    refine XS.astore X9.here hx rfl (hb hby d1_125) rfl rfl (l' := #[vR a1, vI nz, vR b2, vR b8, vR b2, vI nn, vI ff, .unset]) rfl ?_
    show Steps _ _ _ (T9.setTop (mkF m 127 #[vR a1, vI nz, vR b2, vR b8, vR b2, vI nn, vI ff, .unset] [])) _
    refine XS.aload X9.here hx rfl (hb hby d1_127) rfl rfl ?_
    show Steps _ _ _ (T9.setTop (mkF m 129 #[vR a1, vI nz, vR b2, vR b8, vR b2, vI nn, vI ff, .unset] [iR b2])) _
    refine X9.arraylength hx Ar13.1 (State.isArrayOf_alike hZ.alike Ar13.2.1) (g := (mkF m 129 #[vR a1, vI nz, vR b2, vR b8, vR b2, vI nn, vI ff, .unset] [iR b2])) rfl rfl (hb hby d1_129) _ ?_
    rw [len_of S13 M13]
    show Steps _ _ _ (T9.setTop (mkF m 130 #[vR a1, vI nz, vR b2, vR b8, vR b2, vI nn, vI ff, .unset] [iI nz])) _
    refine XS.istore X9.here hx rfl (hb hby d1_130) rfl (l' := #[vR a1, vI nz, vR b2, vR b8, vR b2, vI nz, vI ff, .unset]) rfl ?_
    show Steps _ _ _ (T9.setTop (mkF m 132 #[vR a1, vI nz, vR b2, vR b8, vR b2, vI nz, vI ff, .unset] [])) _
    refine XS.iconst X9.here hx rfl (hb hby d1_132) ?_
    show Steps _ _ _ (T9.setTop (mkF m 133 #[vR a1, vI nz, vR b2, vR b8, vR b2, vI nz, vI ff, .unset] [iI 0])) _
    refine XS.istore X9.here hx rfl (hb hby d1_133) rfl (l' := #[vR a1, vI nz, vR b2, vR b8, vR b2, vI nz, vI 0, .unset]) rfl ?_
    exact kt
  obtain ⟨s₂, o₂, hs₂, hr₂⟩ := own_turn0 (X9.more (by decide) (by decide)) hx hZ hw hby hml hown hret (by first | assumption | exact BodyLoose.notSynchronized (by assumption) | exact Body.notSynchronized (by assumption)) (rfl : T9.heap = _) K9 N9 Z0 O0 fk12 g_b2 sz_b2 E9q Fv9q Fc9q Fn9q V9q G9q g_b8 sz_b8 g_d9 sz_d9 ne_b8_d9 (Ne.symm ne_b2_b8) (Ne.symm ne_b2_d9) hn0 hn8 hn1 S_CS h_cs
  exact ⟨s₂, o₂, pre14 _ hs₂, hr₂⟩
theorem own_maxI (a b : Int32) : (own_max a b).toInt = max a.toInt b.toInt := by
  unfold own_max
  split
  · next h => rw [Int32.lt_iff_toInt_lt] at h; omega
  · next h => rw [Int32.lt_iff_toInt_lt] at h; omega
theorem own_q3 {f : Int32} (h : ¬ f < (1 : Int32) ∧ ¬ (32 : Int32) < f) : ((f + 3) / 4).toInt = (f.toInt + 3) / 4 ∧ 1 ≤ f.toInt ∧ f.toInt ≤ 32 := by
  have e1 : (1 : Int32).toInt = 1 := rfl
  have e2 : (32 : Int32).toInt = 32 := rfl
  have e3 : (3 : Int32).toInt = 3 := rfl
  simp only [Int32.lt_iff_toInt_lt, e1, e2] at h
  have h1 := c_iadd f 3
  have r1 := rng32 (f + 3)
  have h2 := (c_idiv (f + 3) 4 4 rfl (by decide)).1
  rw [e3] at h1
  omega
theorem own_q1 {f : Int32} (h : ¬ f < (1 : Int32) ∧ ¬ (32 : Int32) < f) : ((f - 1) / 4).toInt = (f.toInt - 1) / 4 := by
  have e1 : (1 : Int32).toInt = 1 := rfl
  have e2 : (32 : Int32).toInt = 32 := rfl
  simp only [Int32.lt_iff_toInt_lt, e1, e2] at h
  have h1 := c_isub f 1
  have r1 := rng32 (f - 1)
  have h2 := (c_idiv (f - 1) 4 4 rfl (by decide)).1
  rw [e1] at h1
  omega
theorem own_ix {L f : Int32} (h : ¬ f < (1 : Int32) ∧ ¬ (32 : Int32) < f) (hL : (f.toInt + 3) / 4 ≤ L.toInt) (h8 : L.toInt ≤ 8) : ¬ ((L - 1) - ((f - 1) / 4)) < 0 ∧ ((L - 1) - ((f - 1) / 4)) < L ∧ ((L - 1) - ((f - 1) / 4)).toInt < 8 := by
  have q := own_q3 h
  have q1 := own_q1 h
  have e1 : (1 : Int32).toInt = 1 := rfl
  have e0 : (0 : Int32).toInt = 0 := rfl
  have h1 := c_isub L 1
  have r1 := rng32 (L - 1)
  have h2 := c_isub (L - 1) ((f - 1) / 4)
  have r2 := rng32 ((L - 1) - ((f - 1) / 4))
  rw [e1] at h1
  simp only [Int32.lt_iff_toInt_lt, e0]
  omega
theorem own_lens {L : Int32} (h1 : 1 ≤ L.toInt) (h8 : L.toInt ≤ 8) : ¬ L < 0 ∧ L.toNatClampNeg ≤ 8 ∧ (0 : Int32) < L := by
  have e0 : (0 : Int32).toInt = 0 := rfl
  simp only [Int32.lt_iff_toInt_lt, e0, Int32.toNatClampNeg]
  omega
def own_E (L f k c : Int32) : Int32 := if ((L - 1) - ((f - 1) / 4)) = k then c ||| ((1 : Int32) <<< (((f - 1) % 4) &&& 31)) else c
theorem own_putV {Z : State} {h h' : Heap} {a : Addr} {k : ClassId} {z L f c0 c1 c2 c3 c4 c5 c6 c7 : Int32} {c : Cell} (A : Arr Z h a c .int) (q1 : c.cls = k) (S : c.slots.size = z.toNatClampNeg) (q3 : ¬ z < 0) (H : Has c [(.int c0), (.int c1), (.int c2), (.int c3), (.int c4), (.int c5), (.int c6), (.int c7)] (.int (0 : Int32))) (G : ∀ i, i < c.slots.size → fits .int (([(.int c0), (.int c1), (.int c2), (.int c3), (.int c4), (.int c5), (.int c6), (.int c7)] : List Value).getD i (.int (0 : Int32))) = true) (W : Wr h h' a ((L - 1) - ((f - 1) / 4)).toNatClampNeg (.int (own_at8 c0 c1 c2 c3 c4 c5 c6 c7 ((L - 1) - ((f - 1) / 4)) ||| ((1 : Int32) <<< (((f - 1) % 4) &&& 31))))) (h0 : ¬ ((L - 1) - ((f - 1) / 4)) < 0) (h1 : ((L - 1) - ((f - 1) / 4)).toInt < 8) : Arv Z h' a k .int z [(.int (own_E L f (0 : Int32) c0)), (.int (own_E L f (1 : Int32) c1)), (.int (own_E L f (2 : Int32) c2)), (.int (own_E L f (3 : Int32) c3)), (.int (own_E L f (4 : Int32) c4)), (.int (own_E L f (5 : Int32) c5)), (.int (own_E L f (6 : Int32) c6)), (.int (own_E L f (7 : Int32) c7))] (.int (0 : Int32)) := by
  unfold own_E
  generalize ((L - 1) - ((f - 1) / 4)) = j at *
  generalize ((1 : Int32) <<< (((f - 1) % 4) &&& 31)) = b at *
  have e0 : (0 : Int32).toInt = 0 := rfl
  rw [Int32.lt_iff_toInt_lt, e0] at h0
  rcases own_small8 j (by omega) h1 with rfl | rfl | rfl | rfl | rfl | rfl | rfl | rfl
  · exact Arv.set A q1 S q3 H G rfl W 0 rfl (Nat.le_of_ble_eq_true rfl)
  · exact Arv.set A q1 S q3 H G rfl W 1 rfl (Nat.le_of_ble_eq_true rfl)
  · exact Arv.set A q1 S q3 H G rfl W 2 rfl (Nat.le_of_ble_eq_true rfl)
  · exact Arv.set A q1 S q3 H G rfl W 3 rfl (Nat.le_of_ble_eq_true rfl)
  · exact Arv.set A q1 S q3 H G rfl W 4 rfl (Nat.le_of_ble_eq_true rfl)
  · exact Arv.set A q1 S q3 H G rfl W 5 rfl (Nat.le_of_ble_eq_true rfl)
  · exact Arv.set A q1 S q3 H G rfl W 6 rfl (Nat.le_of_ble_eq_true rfl)
  · exact Arv.set A q1 S q3 H G rfl W 7 rfl (Nat.le_of_ble_eq_true rfl)

def own_len1 (f0_ : Int32) : Int32 := (own_max (1 : Int32) ((f0_ + (3 : Int32)) / (4 : Int32)))
def own_R1_0 (f0_ : Int32) : Int32 := own_at8 (0 : Int32) (0 : Int32) (0 : Int32) (0 : Int32) (0 : Int32) (0 : Int32) (0 : Int32) (0 : Int32) (((own_len1 f0_) - (1 : Int32)) - ((f0_ - (1 : Int32)) / (4 : Int32)))
def own_C1_1 (f0_ k : Int32) : Int32 := own_E (own_len1 f0_) f0_ k (0 : Int32)
theorem own_lenOK1 {f0_ : Int32} (hf0 : ¬ f0_ < (1 : Int32) ∧ ¬ (32 : Int32) < f0_) : 1 ≤ (own_len1 f0_).toInt ∧ (own_len1 f0_).toInt ≤ 8 ∧ (f0_.toInt + 3) / 4 ≤ (own_len1 f0_).toInt := by
  have e1 : (1 : Int32).toInt = 1 := rfl
  have q0 := own_q3 hf0
  simp only [own_len1, own_maxI, e1]
  omega
def own_len2 (f0_ f1_ : Int32) : Int32 := (own_max (own_len1 f0_) ((f1_ + (3 : Int32)) / (4 : Int32)))
def own_R2_0 (f0_ f1_ : Int32) : Int32 := own_at8 (0 : Int32) (0 : Int32) (0 : Int32) (0 : Int32) (0 : Int32) (0 : Int32) (0 : Int32) (0 : Int32) (((own_len2 f0_ f1_) - (1 : Int32)) - ((f0_ - (1 : Int32)) / (4 : Int32)))
def own_C2_1 (f0_ f1_ k : Int32) : Int32 := own_E (own_len2 f0_ f1_) f0_ k (0 : Int32)
def own_R2_1 (f0_ f1_ : Int32) : Int32 := own_at8 (own_C2_1 f0_ f1_ (0 : Int32)) (own_C2_1 f0_ f1_ (1 : Int32)) (own_C2_1 f0_ f1_ (2 : Int32)) (own_C2_1 f0_ f1_ (3 : Int32)) (own_C2_1 f0_ f1_ (4 : Int32)) (own_C2_1 f0_ f1_ (5 : Int32)) (own_C2_1 f0_ f1_ (6 : Int32)) (own_C2_1 f0_ f1_ (7 : Int32)) (((own_len2 f0_ f1_) - (1 : Int32)) - ((f1_ - (1 : Int32)) / (4 : Int32)))
def own_C2_2 (f0_ f1_ k : Int32) : Int32 := own_E (own_len2 f0_ f1_) f1_ k (own_C2_1 f0_ f1_ k)
theorem own_lenOK2 {f0_ f1_ : Int32} (hf0 : ¬ f0_ < (1 : Int32) ∧ ¬ (32 : Int32) < f0_) (hf1 : ¬ f1_ < (1 : Int32) ∧ ¬ (32 : Int32) < f1_) : 1 ≤ (own_len2 f0_ f1_).toInt ∧ (own_len2 f0_ f1_).toInt ≤ 8 ∧ (f0_.toInt + 3) / 4 ≤ (own_len2 f0_ f1_).toInt ∧ (f1_.toInt + 3) / 4 ≤ (own_len2 f0_ f1_).toInt := by
  have e1 : (1 : Int32).toInt = 1 := rfl
  have q0 := own_q3 hf0
  have q1 := own_q3 hf1
  simp only [own_len1, own_len2, own_maxI, e1]
  omega
def own_len3 (f0_ f1_ f2_ : Int32) : Int32 := (own_max (own_len2 f0_ f1_) ((f2_ + (3 : Int32)) / (4 : Int32)))
def own_R3_0 (f0_ f1_ f2_ : Int32) : Int32 := own_at8 (0 : Int32) (0 : Int32) (0 : Int32) (0 : Int32) (0 : Int32) (0 : Int32) (0 : Int32) (0 : Int32) (((own_len3 f0_ f1_ f2_) - (1 : Int32)) - ((f0_ - (1 : Int32)) / (4 : Int32)))
def own_C3_1 (f0_ f1_ f2_ k : Int32) : Int32 := own_E (own_len3 f0_ f1_ f2_) f0_ k (0 : Int32)
def own_R3_1 (f0_ f1_ f2_ : Int32) : Int32 := own_at8 (own_C3_1 f0_ f1_ f2_ (0 : Int32)) (own_C3_1 f0_ f1_ f2_ (1 : Int32)) (own_C3_1 f0_ f1_ f2_ (2 : Int32)) (own_C3_1 f0_ f1_ f2_ (3 : Int32)) (own_C3_1 f0_ f1_ f2_ (4 : Int32)) (own_C3_1 f0_ f1_ f2_ (5 : Int32)) (own_C3_1 f0_ f1_ f2_ (6 : Int32)) (own_C3_1 f0_ f1_ f2_ (7 : Int32)) (((own_len3 f0_ f1_ f2_) - (1 : Int32)) - ((f1_ - (1 : Int32)) / (4 : Int32)))
def own_C3_2 (f0_ f1_ f2_ k : Int32) : Int32 := own_E (own_len3 f0_ f1_ f2_) f1_ k (own_C3_1 f0_ f1_ f2_ k)
def own_R3_2 (f0_ f1_ f2_ : Int32) : Int32 := own_at8 (own_C3_2 f0_ f1_ f2_ (0 : Int32)) (own_C3_2 f0_ f1_ f2_ (1 : Int32)) (own_C3_2 f0_ f1_ f2_ (2 : Int32)) (own_C3_2 f0_ f1_ f2_ (3 : Int32)) (own_C3_2 f0_ f1_ f2_ (4 : Int32)) (own_C3_2 f0_ f1_ f2_ (5 : Int32)) (own_C3_2 f0_ f1_ f2_ (6 : Int32)) (own_C3_2 f0_ f1_ f2_ (7 : Int32)) (((own_len3 f0_ f1_ f2_) - (1 : Int32)) - ((f2_ - (1 : Int32)) / (4 : Int32)))
def own_C3_3 (f0_ f1_ f2_ k : Int32) : Int32 := own_E (own_len3 f0_ f1_ f2_) f2_ k (own_C3_2 f0_ f1_ f2_ k)
theorem own_lenOK3 {f0_ f1_ f2_ : Int32} (hf0 : ¬ f0_ < (1 : Int32) ∧ ¬ (32 : Int32) < f0_) (hf1 : ¬ f1_ < (1 : Int32) ∧ ¬ (32 : Int32) < f1_) (hf2 : ¬ f2_ < (1 : Int32) ∧ ¬ (32 : Int32) < f2_) : 1 ≤ (own_len3 f0_ f1_ f2_).toInt ∧ (own_len3 f0_ f1_ f2_).toInt ≤ 8 ∧ (f0_.toInt + 3) / 4 ≤ (own_len3 f0_ f1_ f2_).toInt ∧ (f1_.toInt + 3) / 4 ≤ (own_len3 f0_ f1_ f2_).toInt ∧ (f2_.toInt + 3) / 4 ≤ (own_len3 f0_ f1_ f2_).toInt := by
  have e1 : (1 : Int32).toInt = 1 := rfl
  have q0 := own_q3 hf0
  have q1 := own_q3 hf1
  have q2 := own_q3 hf2
  simp only [own_len1, own_len2, own_len3, own_maxI, e1]
  omega
def own_len4 (f0_ f1_ f2_ f3_ : Int32) : Int32 := (own_max (own_len3 f0_ f1_ f2_) ((f3_ + (3 : Int32)) / (4 : Int32)))
def own_R4_0 (f0_ f1_ f2_ f3_ : Int32) : Int32 := own_at8 (0 : Int32) (0 : Int32) (0 : Int32) (0 : Int32) (0 : Int32) (0 : Int32) (0 : Int32) (0 : Int32) (((own_len4 f0_ f1_ f2_ f3_) - (1 : Int32)) - ((f0_ - (1 : Int32)) / (4 : Int32)))
def own_C4_1 (f0_ f1_ f2_ f3_ k : Int32) : Int32 := own_E (own_len4 f0_ f1_ f2_ f3_) f0_ k (0 : Int32)
def own_R4_1 (f0_ f1_ f2_ f3_ : Int32) : Int32 := own_at8 (own_C4_1 f0_ f1_ f2_ f3_ (0 : Int32)) (own_C4_1 f0_ f1_ f2_ f3_ (1 : Int32)) (own_C4_1 f0_ f1_ f2_ f3_ (2 : Int32)) (own_C4_1 f0_ f1_ f2_ f3_ (3 : Int32)) (own_C4_1 f0_ f1_ f2_ f3_ (4 : Int32)) (own_C4_1 f0_ f1_ f2_ f3_ (5 : Int32)) (own_C4_1 f0_ f1_ f2_ f3_ (6 : Int32)) (own_C4_1 f0_ f1_ f2_ f3_ (7 : Int32)) (((own_len4 f0_ f1_ f2_ f3_) - (1 : Int32)) - ((f1_ - (1 : Int32)) / (4 : Int32)))
def own_C4_2 (f0_ f1_ f2_ f3_ k : Int32) : Int32 := own_E (own_len4 f0_ f1_ f2_ f3_) f1_ k (own_C4_1 f0_ f1_ f2_ f3_ k)
def own_R4_2 (f0_ f1_ f2_ f3_ : Int32) : Int32 := own_at8 (own_C4_2 f0_ f1_ f2_ f3_ (0 : Int32)) (own_C4_2 f0_ f1_ f2_ f3_ (1 : Int32)) (own_C4_2 f0_ f1_ f2_ f3_ (2 : Int32)) (own_C4_2 f0_ f1_ f2_ f3_ (3 : Int32)) (own_C4_2 f0_ f1_ f2_ f3_ (4 : Int32)) (own_C4_2 f0_ f1_ f2_ f3_ (5 : Int32)) (own_C4_2 f0_ f1_ f2_ f3_ (6 : Int32)) (own_C4_2 f0_ f1_ f2_ f3_ (7 : Int32)) (((own_len4 f0_ f1_ f2_ f3_) - (1 : Int32)) - ((f2_ - (1 : Int32)) / (4 : Int32)))
def own_C4_3 (f0_ f1_ f2_ f3_ k : Int32) : Int32 := own_E (own_len4 f0_ f1_ f2_ f3_) f2_ k (own_C4_2 f0_ f1_ f2_ f3_ k)
def own_R4_3 (f0_ f1_ f2_ f3_ : Int32) : Int32 := own_at8 (own_C4_3 f0_ f1_ f2_ f3_ (0 : Int32)) (own_C4_3 f0_ f1_ f2_ f3_ (1 : Int32)) (own_C4_3 f0_ f1_ f2_ f3_ (2 : Int32)) (own_C4_3 f0_ f1_ f2_ f3_ (3 : Int32)) (own_C4_3 f0_ f1_ f2_ f3_ (4 : Int32)) (own_C4_3 f0_ f1_ f2_ f3_ (5 : Int32)) (own_C4_3 f0_ f1_ f2_ f3_ (6 : Int32)) (own_C4_3 f0_ f1_ f2_ f3_ (7 : Int32)) (((own_len4 f0_ f1_ f2_ f3_) - (1 : Int32)) - ((f3_ - (1 : Int32)) / (4 : Int32)))
def own_C4_4 (f0_ f1_ f2_ f3_ k : Int32) : Int32 := own_E (own_len4 f0_ f1_ f2_ f3_) f3_ k (own_C4_3 f0_ f1_ f2_ f3_ k)
theorem own_lenOK4 {f0_ f1_ f2_ f3_ : Int32} (hf0 : ¬ f0_ < (1 : Int32) ∧ ¬ (32 : Int32) < f0_) (hf1 : ¬ f1_ < (1 : Int32) ∧ ¬ (32 : Int32) < f1_) (hf2 : ¬ f2_ < (1 : Int32) ∧ ¬ (32 : Int32) < f2_) (hf3 : ¬ f3_ < (1 : Int32) ∧ ¬ (32 : Int32) < f3_) : 1 ≤ (own_len4 f0_ f1_ f2_ f3_).toInt ∧ (own_len4 f0_ f1_ f2_ f3_).toInt ≤ 8 ∧ (f0_.toInt + 3) / 4 ≤ (own_len4 f0_ f1_ f2_ f3_).toInt ∧ (f1_.toInt + 3) / 4 ≤ (own_len4 f0_ f1_ f2_ f3_).toInt ∧ (f2_.toInt + 3) / 4 ≤ (own_len4 f0_ f1_ f2_ f3_).toInt ∧ (f3_.toInt + 3) / 4 ≤ (own_len4 f0_ f1_ f2_ f3_).toInt := by
  have e1 : (1 : Int32).toInt = 1 := rfl
  have q0 := own_q3 hf0
  have q1 := own_q3 hf1
  have q2 := own_q3 hf2
  have q3 := own_q3 hf3
  simp only [own_len1, own_len2, own_len3, own_len4, own_maxI, e1]
  omega
theorem d1_0 : decode prog_29_method_3_code 0 = .ok (.iconst 1, 1) := by decide +kernel
theorem d1_1 : decode prog_29_method_3_code 1 = .ok (.istore_n 1, 1) := by decide +kernel
theorem d1_2 : decode prog_29_method_3_code 2 = .ok (.aload_n 0, 1) := by decide +kernel
theorem d1_3 : decode prog_29_method_3_code 3 = .ok (.astore_n 2, 1) := by decide +kernel
theorem d1_4 : decode prog_29_method_3_code 4 = .ok (.aload_n 2, 1) := by decide +kernel
theorem d1_5 : decode prog_29_method_3_code 5 = .ok (.arraylength, 1) := by decide +kernel
theorem d1_6 : decode prog_29_method_3_code 6 = .ok (.istore_n 3, 1) := by decide +kernel
theorem d1_7 : decode prog_29_method_3_code 7 = .ok (.iconst 0, 1) := by decide +kernel
theorem d1_8 : decode prog_29_method_3_code 8 = .ok (.istore 4, 2) := by decide +kernel
theorem d1_10 : decode prog_29_method_3_code 10 = .ok (.iload 4, 2) := by decide +kernel
theorem d1_12 : decode prog_29_method_3_code 12 = .ok (.iload_n 3, 1) := by decide +kernel
theorem d1_13 : decode prog_29_method_3_code 13 = .ok (.if_icmp .ge 47, 3) := by decide +kernel
theorem d1_60 : decode prog_29_method_3_code 60 = .ok (.iload_n 1, 1) := by decide +kernel
theorem d1_61 : decode prog_29_method_3_code 61 = .ok (.newarray .int, 2) := by decide +kernel
theorem d1_63 : decode prog_29_method_3_code 63 = .ok (.astore_n 2, 1) := by decide +kernel
theorem d1_64 : decode prog_29_method_3_code 64 = .ok (.aload_n 0, 1) := by decide +kernel
theorem d1_65 : decode prog_29_method_3_code 65 = .ok (.astore_n 3, 1) := by decide +kernel
theorem d1_66 : decode prog_29_method_3_code 66 = .ok (.aload_n 3, 1) := by decide +kernel
theorem d1_67 : decode prog_29_method_3_code 67 = .ok (.arraylength, 1) := by decide +kernel
theorem d1_68 : decode prog_29_method_3_code 68 = .ok (.istore 4, 2) := by decide +kernel
theorem d1_70 : decode prog_29_method_3_code 70 = .ok (.iconst 0, 1) := by decide +kernel
theorem d1_71 : decode prog_29_method_3_code 71 = .ok (.istore 5, 2) := by decide +kernel
theorem d1_73 : decode prog_29_method_3_code 73 = .ok (.iload 5, 2) := by decide +kernel
theorem d1_75 : decode prog_29_method_3_code 75 = .ok (.iload 4, 2) := by decide +kernel
theorem d1_77 : decode prog_29_method_3_code 77 = .ok (.if_icmp .ge 38, 3) := by decide +kernel
theorem pn_8 : plainName "com/example/cloud_to_core/cloudtocore/model/SupportedFeatures" = true := by first | (simp [plainName, overriddenIn]; done) | decide +kernel
theorem ef_1_0 (m : MethodId) (x0 : Addr) : entryFrame m #[(.ref x0)] 8 = mkF m 0 #[.val (.ref x0), .unset, .unset, .unset, .unset, .unset, .unset, .unset] [] := by first | (simp [entryFrame, mkF, argsToLocals, Value.category]; done) | rfl
def Q1_0 (Z : State) (a1 : Addr) (ka : ClassId) (cs : Int32) (h0 : Heap) (n0 : Nat) (v : Option Value) (h : Heap) (L : List Loc) : Prop := own_QT Z (1 : Int32) (0 : Int32) (0 : Int32) (0 : Int32) (0 : Int32) (0 : Int32) (0 : Int32) (0 : Int32) (0 : Int32) h0 n0 v h L
set_option maxRecDepth 65536 in
set_option maxHeartbeats 40000000 in
theorem rm1_0 (l : Launch) (Z : State) (a0 : Array Value) (hw : ∀ d ∈ tables_1, d.before a0 Z = true) (ws : List Jvm.Cond) (a1 : Addr) (ka : ClassId) (cs : Int32) (h0 : Heap) (n0 : Nat) (Z0 : n0 ≤ h0.size) (O0 : Old Z n0 h0) (V_a : Arv Z h0 a1 ka .int (0 : Int32) [] (.int (0 : Int32))) (S_CS : Sta Z Z.heap "java/lang/String" "COMPACT_STRINGS" "Z" (.int cs)) (h_cs : ¬ cs = (0 : Int32)) :
    MetFree l (⟨"com/example/cloud_to_core/cloudtocore/model/SupportedFeatures", "of", "([I)Ljava/lang/String;"⟩ : MethodName) (head1 (Jvm.Cond.code (⟨"com/example/cloud_to_core/cloudtocore/model/SupportedFeatures", "of", "([I)Ljava/lang/String;"⟩ : MethodName) prog_29_method_3_code 8 (some (.object "java/lang/String")) :: ws) ({ frames := 5, cells := 5, slots := 32, locals := 71 } : Room)) (fun a U => a = #[(.ref a1)] ∧ Z.Warmed39 U.vm ∧ U.heap = h0) (fun _ _ _ _ _ => True) (fun _ U o U' => ∃ v L, o = .returned v ∧ Q1_0 Z a1 ka cs h0 n0 v U'.heap L ∧ FrameEnd U o U' L ({ frames := 5, cells := 5, slots := 32, locals := 71 } : Room).cells ({ frames := 5, cells := 5, slots := 32, locals := 71 } : Room).slots) := by
  refine MetFree.of_bodySF (plainFor_of_name pn_8) hisR ?_
  intro p e s m args below meth c s₁ Bd hml0 hP hK
  obtain ⟨rfl, hZ, hh⟩ := hP
  have hx := Bd.exec
  have hby := Bd.bytes
  have hml : c.maxLocals = 8 := hml0
  have hown : s.vm.findClass "com/example/cloud_to_core/cloudtocore/model/SupportedFeatures" = some m.cls := findClass_of_methodNamed Bd.named
  have hnm := (name_of_methodNamed Bd.named Bd.method).1
  have X0 : Stand p l e ({ frames := 5, cells := 5, slots := 32, locals := 71 } : Room) s m #[(.ref a1)] below meth c s₁ [] 0 0 := Stand.of_body Bd
  have e0 : s₁.heap = h0 := by rw [← hh, Bd.state]; rfl
  have N0 := Fr.nil n0
  have K0 := Keep.refl h0 []
  have pre0 : ∀ t, Steps p.tables e below (s₁.setTop (mkF m 0 #[.val (.ref a1), .unset, .unset, .unset, .unset, .unset, .unset, .unset] [])) t → Steps p.tables e below (s₁.setTop (entryFrame m #[(.ref a1)] 8)) t := fun t k => castTop (ef_1_0 m a1) k
  obtain ⟨cl1, Ar1, q1, S1, M1, H1, G1⟩ := id V_a
  have hL := own_lens (L := (1 : Int32)) (by decide) (by decide)
  obtain ⟨T2, h2, k2, X2, e2, E2, A2, st2⟩ := newP X0 hx hZ (hw _ (List.mem_of_getElem? (i := 1) rfl)) e0 (g := (mkF m 61 #[vR a1, vI 1, vR a1, vI 0, vI 0, .unset, .unset, .unset] [iI 1])) rfl (hb hby d1_61) rfl (by decide) (cap := 1) (by decide) (by decide) (by decide) (by decide)
  obtain ⟨b2, g2⟩ : ∃ z, z = h0.size := ⟨_, rfl⟩
  rw [← g2] at A2 st2
  have ne_a1_b2 : a1 ≠ b2 := Nat.ne_of_lt (Nat.lt_of_lt_of_le V_a.lt (Nat.le_of_eq g2.symm))
  have sz_b2 : h0.size ≤ b2 := Nat.le_trans K0.1 (Nat.le_of_eq g2.symm)
  have g_b2 : n0 ≤ b2 := Nat.le_trans Z0 sz_b2
  have K2 : Keep h0 h2 [] := K0.ext E2
  have V2 : Arv Z h2 b2 k2 .int (1 : Int32) [(.int (0 : Int32)), (.int (0 : Int32)), (.int (0 : Int32)), (.int (0 : Int32)), (.int (0 : Int32)), (.int (0 : Int32)), (.int (0 : Int32)), (.int (0 : Int32))] (.int (0 : Int32)) := (Arv.new A2 (by decide)).pad (pad_rep [] (.int (0 : Int32)) 8)
  have fk3 := (V_a.ext E2)
  obtain ⟨cl4, Ar4, q4, S4, M4, H4, G4⟩ := id fk3
  have pre5 : ∀ t, Steps p.tables e below (T2.setTop (mkF m 115 #[vR a1, vI 1, vR b2, vR a1, vI 0, vI 0, .unset, .unset] [])) t → Steps p.tables e below (s₁.setTop (entryFrame m #[(.ref a1)] 8)) t := by
    intro t kt
    refine pre0 t ?_
    show Steps _ _ _ (s₁.setTop (mkF m 0 #[vR a1, .unset, .unset, .unset, .unset, .unset, .unset, .unset] [])) _
    refine XS.iconst X0.here hx rfl (hb hby d1_0) ?_
    show Steps _ _ _ (s₁.setTop (mkF m 1 #[vR a1, .unset, .unset, .unset, .unset, .unset, .unset, .unset] [iI 1])) _
    refine XS.istoreN X0.here hx rfl (hb hby d1_1) rfl (l' := #[vR a1, vI 1, .unset, .unset, .unset, .unset, .unset, .unset]) rfl ?_
    show Steps _ _ _ (s₁.setTop (mkF m 2 #[vR a1, vI 1, .unset, .unset, .unset, .unset, .unset, .unset] [])) _
    refine XS.aloadN X0.here hx rfl (hb hby d1_2) rfl rfl ?_
    show Steps _ _ _ (s₁.setTop (mkF m 3 #[vR a1, vI 1, .unset, .unset, .unset, .unset, .unset, .unset] [iR a1])) _
    refine XS.astoreN X0.here hx rfl (hb hby d1_3) rfl rfl (l' := #[vR a1, vI 1, vR a1, .unset, .unset, .unset, .unset, .unset]) rfl ?_
    show Steps _ _ _ (s₁.setTop (mkF m 4 #[vR a1, vI 1, vR a1, .unset, .unset, .unset, .unset, .unset] [])) _
    refine XS.aloadN X0.here hx rfl (hb hby d1_4) rfl rfl ?_
    show Steps _ _ _ (s₁.setTop (mkF m 5 #[vR a1, vI 1, vR a1, .unset, .unset, .unset, .unset, .unset] [iR a1])) _
    refine X0.arraylength hx (by rw [e0]; exact Ar1.1) (State.isArrayOf_alike hZ.alike Ar1.2.1) (g := (mkF m 5 #[vR a1, vI 1, vR a1, .unset, .unset, .unset, .unset, .unset] [iR a1])) rfl rfl (hb hby d1_5) _ ?_
    rw [len_of S1 M1]
    show Steps _ _ _ (s₁.setTop (mkF m 6 #[vR a1, vI 1, vR a1, .unset, .unset, .unset, .unset, .unset] [iI 0])) _
    refine XS.istoreN X0.here hx rfl (hb hby d1_6) rfl (l' := #[vR a1, vI 1, vR a1, vI 0, .unset, .unset, .unset, .unset]) rfl ?_
    show Steps _ _ _ (s₁.setTop (mkF m 7 #[vR a1, vI 1, vR a1, vI 0, .unset, .unset, .unset, .unset] [])) _
    refine XS.iconst X0.here hx rfl (hb hby d1_7) ?_
    show Steps _ _ _ (s₁.setTop (mkF m 8 #[vR a1, vI 1, vR a1, vI 0, .unset, .unset, .unset, .unset] [iI 0])) _
    refine XS.istore X0.here hx rfl (hb hby d1_8) rfl (l' := #[vR a1, vI 1, vR a1, vI 0, vI 0, .unset, .unset, .unset]) rfl ?_
    show Steps _ _ _ (s₁.setTop (mkF m 10 #[vR a1, vI 1, vR a1, vI 0, vI 0, .unset, .unset, .unset] [])) _
    refine XS.iload X0.here hx rfl (hb hby d1_10) rfl ?_
    show Steps _ _ _ (s₁.setTop (mkF m 12 #[vR a1, vI 1, vR a1, vI 0, vI 0, .unset, .unset, .unset] [iI 0])) _
    refine XS.iloadN X0.here hx rfl (hb hby d1_12) rfl ?_
    show Steps _ _ _ (s₁.setTop (mkF m 13 #[vR a1, vI 1, vR a1, vI 0, vI 0, .unset, .unset, .unset] [iI 0, iI 0])) _
    refine XS.icmpYes X0.here hx rfl (pc0 := 13) (pc' := 60) rfl (hb hby d1_13) rfl (flt (by decide : ¬ ((0 : Int32) < (0 : Int32)))).2.1 (by decide) (by decide) ?_
    show Steps _ _ _ (s₁.setTop (mkF m 60 #[vR a1, vI 1, vR a1, vI 0, vI 0, .unset, .unset, .unset] [])) _
    refine XS.iloadN X0.here hx rfl (hb hby d1_60) rfl ?_
    show Steps _ _ _ (s₁.setTop (mkF m 61 #[vR a1, vI 1, vR a1, vI 0, vI 0, .unset, .unset, .unset] [iI 1])) _
    refine st2 _ ?_
    show Steps _ _ _ (T2.setTop (mkF m 63 #[vR a1, vI 1, vR a1, vI 0, vI 0, .unset, .unset, .unset] [iR b2])) _
    refine XS.astoreN X2.here hx rfl (hb hby d1_63) rfl rfl (l' := #[vR a1, vI 1, vR b2, vI 0, vI 0, .unset, .unset, .unset]) rfl ?_
    show Steps _ _ _ (T2.setTop (mkF m 64 #[vR a1, vI 1, vR b2, vI 0, vI 0, .unset, .unset, .unset] [])) _
    refine XS.aloadN X2.here hx rfl (hb hby d1_64) rfl rfl ?_
    show Steps _ _ _ (T2.setTop (mkF m 65 #[vR a1, vI 1, vR b2, vI 0, vI 0, .unset, .unset, .unset] [iR a1])) _
    refine XS.astoreN X2.here hx rfl (hb hby d1_65) rfl rfl (l' := #[vR a1, vI 1, vR b2, vR a1, vI 0, .unset, .unset, .unset]) rfl ?_
    show Steps _ _ _ (T2.setTop (mkF m 66 #[vR a1, vI 1, vR b2, vR a1, vI 0, .unset, .unset, .unset] [])) _
    refine XS.aloadN X2.here hx rfl (hb hby d1_66) rfl rfl ?_
    show Steps _ _ _ (T2.setTop (mkF m 67 #[vR a1, vI 1, vR b2, vR a1, vI 0, .unset, .unset, .unset] [iR a1])) _
    refine X2.arraylength hx (by rw [e2]; exact Ar4.1) (State.isArrayOf_alike hZ.alike Ar4.2.1) (g := (mkF m 67 #[vR a1, vI 1, vR b2, vR a1, vI 0, .unset, .unset, .unset] [iR a1])) rfl rfl (hb hby d1_67) _ ?_
    rw [len_of S4 M4]
    show Steps _ _ _ (T2.setTop (mkF m 68 #[vR a1, vI 1, vR b2, vR a1, vI 0, .unset, .unset, .unset] [iI 0])) _
    refine XS.istore X2.here hx rfl (hb hby d1_68) rfl (l' := #[vR a1, vI 1, vR b2, vR a1, vI 0, .unset, .unset, .unset]) rfl ?_
    show Steps _ _ _ (T2.setTop (mkF m 70 #[vR a1, vI 1, vR b2, vR a1, vI 0, .unset, .unset, .unset] [])) _
    refine XS.iconst X2.here hx rfl (hb hby d1_70) ?_
    show Steps _ _ _ (T2.setTop (mkF m 71 #[vR a1, vI 1, vR b2, vR a1, vI 0, .unset, .unset, .unset] [iI 0])) _
    refine XS.istore X2.here hx rfl (hb hby d1_71) rfl (l' := #[vR a1, vI 1, vR b2, vR a1, vI 0, vI 0, .unset, .unset]) rfl ?_
    show Steps _ _ _ (T2.setTop (mkF m 73 #[vR a1, vI 1, vR b2, vR a1, vI 0, vI 0, .unset, .unset] [])) _
    refine XS.iload X2.here hx rfl (hb hby d1_73) rfl ?_
    show Steps _ _ _ (T2.setTop (mkF m 75 #[vR a1, vI 1, vR b2, vR a1, vI 0, vI 0, .unset, .unset] [iI 0])) _
    refine XS.iload X2.here hx rfl (hb hby d1_75) rfl ?_
    show Steps _ _ _ (T2.setTop (mkF m 77 #[vR a1, vI 1, vR b2, vR a1, vI 0, vI 0, .unset, .unset] [iI 0, iI 0])) _
    refine XS.icmpYes X2.here hx rfl (pc0 := 77) (pc' := 115) rfl (hb hby d1_77) rfl (flt (by decide : ¬ ((0 : Int32) < (0 : Int32)))).2.1 (by decide) (by decide) ?_
    exact kt
  obtain ⟨s₂, o₂, hs₂, hr₂⟩ := own_tail0 (nn := (0 : Int32)) X2 hx hZ hw hby hml hown Bd.returns (by first | assumption | exact BodyLoose.notSynchronized (by assumption) | exact Body.notSynchronized (by assumption)) e2 K2 N0 Z0 O0 V2 g_b2 sz_b2 hL.1 hL.2.1 hL.2.2 S_CS h_cs
  exact ⟨s₂, o₂, pre5 _ hs₂, hr₂⟩
theorem d1_16 : decode prog_29_method_3_code 16 = .ok (.aload_n 2, 1) := by decide +kernel
theorem d1_17 : decode prog_29_method_3_code 17 = .ok (.iload 4, 2) := by decide +kernel
theorem d1_19 : decode prog_29_method_3_code 19 = .ok (.iaload, 1) := by decide +kernel
theorem d1_20 : decode prog_29_method_3_code 20 = .ok (.istore 5, 2) := by decide +kernel
theorem d1_22 : decode prog_29_method_3_code 22 = .ok (.iload 5, 2) := by decide +kernel
theorem d1_24 : decode prog_29_method_3_code 24 = .ok (.iconst 1, 1) := by decide +kernel
theorem d1_25 : decode prog_29_method_3_code 25 = .ok (.if_icmp .ge 18, 3) := by decide +kernel
theorem d1_43 : decode prog_29_method_3_code 43 = .ok (.iload_n 1, 1) := by decide +kernel
theorem d1_44 : decode prog_29_method_3_code 44 = .ok (.iload 5, 2) := by decide +kernel
theorem d1_46 : decode prog_29_method_3_code 46 = .ok (.iconst 3, 1) := by decide +kernel
theorem d1_47 : decode prog_29_method_3_code 47 = .ok (.iadd, 1) := by decide +kernel
theorem d1_48 : decode prog_29_method_3_code 48 = .ok (.iconst 4, 1) := by decide +kernel
theorem d1_49 : decode prog_29_method_3_code 49 = .ok (.idiv, 1) := by decide +kernel
theorem d1_50 : decode prog_29_method_3_code 50 = .ok (.invokestatic 34, 3) := by decide +kernel
theorem d1_53 : decode prog_29_method_3_code 53 = .ok (.istore_n 1, 1) := by decide +kernel
theorem d1_54 : decode prog_29_method_3_code 54 = .ok (.iinc 4 1, 3) := by decide +kernel
theorem d1_57 : decode prog_29_method_3_code 57 = .ok (.goto (-47), 3) := by decide +kernel
theorem d1_80 : decode prog_29_method_3_code 80 = .ok (.aload_n 3, 1) := by decide +kernel
theorem d1_81 : decode prog_29_method_3_code 81 = .ok (.iload 5, 2) := by decide +kernel
theorem d1_83 : decode prog_29_method_3_code 83 = .ok (.iaload, 1) := by decide +kernel
theorem d1_84 : decode prog_29_method_3_code 84 = .ok (.istore 6, 2) := by decide +kernel
theorem d1_86 : decode prog_29_method_3_code 86 = .ok (.aload_n 2, 1) := by decide +kernel
theorem d1_87 : decode prog_29_method_3_code 87 = .ok (.iload_n 1, 1) := by decide +kernel
theorem d1_88 : decode prog_29_method_3_code 88 = .ok (.iconst 1, 1) := by decide +kernel
theorem d1_89 : decode prog_29_method_3_code 89 = .ok (.isub, 1) := by decide +kernel
theorem d1_90 : decode prog_29_method_3_code 90 = .ok (.iload 6, 2) := by decide +kernel
theorem d1_92 : decode prog_29_method_3_code 92 = .ok (.iconst 1, 1) := by decide +kernel
theorem d1_93 : decode prog_29_method_3_code 93 = .ok (.isub, 1) := by decide +kernel
theorem d1_94 : decode prog_29_method_3_code 94 = .ok (.iconst 4, 1) := by decide +kernel
theorem d1_95 : decode prog_29_method_3_code 95 = .ok (.idiv, 1) := by decide +kernel
theorem d1_96 : decode prog_29_method_3_code 96 = .ok (.isub, 1) := by decide +kernel
theorem d1_97 : decode prog_29_method_3_code 97 = .ok (.dup2, 1) := by decide +kernel
theorem d1_98 : decode prog_29_method_3_code 98 = .ok (.iaload, 1) := by decide +kernel
theorem d1_99 : decode prog_29_method_3_code 99 = .ok (.iconst 1, 1) := by decide +kernel
theorem d1_100 : decode prog_29_method_3_code 100 = .ok (.iload 6, 2) := by decide +kernel
theorem d1_102 : decode prog_29_method_3_code 102 = .ok (.iconst 1, 1) := by decide +kernel
theorem d1_103 : decode prog_29_method_3_code 103 = .ok (.isub, 1) := by decide +kernel
theorem d1_104 : decode prog_29_method_3_code 104 = .ok (.iconst 4, 1) := by decide +kernel
theorem d1_105 : decode prog_29_method_3_code 105 = .ok (.irem, 1) := by decide +kernel
theorem d1_106 : decode prog_29_method_3_code 106 = .ok (.ishl, 1) := by decide +kernel
theorem d1_107 : decode prog_29_method_3_code 107 = .ok (.ior, 1) := by decide +kernel
theorem d1_108 : decode prog_29_method_3_code 108 = .ok (.iastore, 1) := by decide +kernel
theorem d1_109 : decode prog_29_method_3_code 109 = .ok (.iinc 5 1, 3) := by decide +kernel
theorem d1_112 : decode prog_29_method_3_code 112 = .ok (.goto (-39), 3) := by decide +kernel
theorem ef_1_1 (m : MethodId) (x0 : Addr) : entryFrame m #[(.ref x0)] 8 = mkF m 0 #[.val (.ref x0), .unset, .unset, .unset, .unset, .unset, .unset, .unset] [] := by first | (simp [entryFrame, mkF, argsToLocals, Value.category]; done) | rfl
def Q1_1 (Z : State) (a1 : Addr) (ka : ClassId) (f0_ : Int32) (cs : Int32) (h0 : Heap) (n0 : Nat) (v : Option Value) (h : Heap) (L : List Loc) : Prop := own_QT Z (own_len1 f0_) (own_C1_1 f0_ (0 : Int32)) (own_C1_1 f0_ (1 : Int32)) (own_C1_1 f0_ (2 : Int32)) (own_C1_1 f0_ (3 : Int32)) (own_C1_1 f0_ (4 : Int32)) (own_C1_1 f0_ (5 : Int32)) (own_C1_1 f0_ (6 : Int32)) (own_C1_1 f0_ (7 : Int32)) h0 n0 v h L
set_option maxRecDepth 65536 in
set_option maxHeartbeats 40000000 in
theorem rm1_1 (l : Launch) (Z : State) (a0 : Array Value) (hw : ∀ d ∈ tables_1, d.before a0 Z = true) (ws : List Jvm.Cond) (a1 : Addr) (ka : ClassId) (f0_ : Int32) (cs : Int32) (h0 : Heap) (n0 : Nat) (Z0 : n0 ≤ h0.size) (O0 : Old Z n0 h0) (V_a : Arv Z h0 a1 ka .int (1 : Int32) [(.int f0_)] (.int (0 : Int32))) (hf0 : ¬ f0_ < (1 : Int32) ∧ ¬ (32 : Int32) < f0_) (S_CS : Sta Z Z.heap "java/lang/String" "COMPACT_STRINGS" "Z" (.int cs)) (h_cs : ¬ cs = (0 : Int32)) :
    MetFree l (⟨"com/example/cloud_to_core/cloudtocore/model/SupportedFeatures", "of", "([I)Ljava/lang/String;"⟩ : MethodName) (head1 (Jvm.Cond.code (⟨"com/example/cloud_to_core/cloudtocore/model/SupportedFeatures", "of", "([I)Ljava/lang/String;"⟩ : MethodName) prog_29_method_3_code 8 (some (.object "java/lang/String")) :: ws) ({ frames := 5, cells := 5, slots := 32, locals := 71 } : Room)) (fun a U => a = #[(.ref a1)] ∧ Z.Warmed39 U.vm ∧ U.heap = h0) (fun _ _ _ _ _ => True) (fun _ U o U' => ∃ v L, o = .returned v ∧ Q1_1 Z a1 ka f0_ cs h0 n0 v U'.heap L ∧ FrameEnd U o U' L ({ frames := 5, cells := 5, slots := 32, locals := 71 } : Room).cells ({ frames := 5, cells := 5, slots := 32, locals := 71 } : Room).slots) := by
  refine MetFree.of_bodySF (plainFor_of_name pn_8) hisR ?_
  intro p e s m args below meth c s₁ Bd hml0 hP hK
  obtain ⟨rfl, hZ, hh⟩ := hP
  have hx := Bd.exec
  have hby := Bd.bytes
  have hml : c.maxLocals = 8 := hml0
  have hown : s.vm.findClass "com/example/cloud_to_core/cloudtocore/model/SupportedFeatures" = some m.cls := findClass_of_methodNamed Bd.named
  have hnm := (name_of_methodNamed Bd.named Bd.method).1
  have X0 : Stand p l e ({ frames := 5, cells := 5, slots := 32, locals := 71 } : Room) s m #[(.ref a1)] below meth c s₁ [] 0 0 := Stand.of_body Bd
  have e0 : s₁.heap = h0 := by rw [← hh, Bd.state]; rfl
  have N0 := Fr.nil n0
  have K0 := Keep.refl h0 []
  have pre0 : ∀ t, Steps p.tables e below (s₁.setTop (mkF m 0 #[.val (.ref a1), .unset, .unset, .unset, .unset, .unset, .unset, .unset] [])) t → Steps p.tables e below (s₁.setTop (entryFrame m #[(.ref a1)] 8)) t := fun t k => castTop (ef_1_1 m a1) k
  obtain ⟨cl1, Ar1, q1, S1, M1, H1, G1⟩ := id V_a
  have hin2 : ¬ ((0 : Int32) < 0 ∨ cl1.slots.size ≤ ((0 : Int32)).toNatClampNeg) := inb_of S1 ⟨by decide, by decide⟩
  have hat3 : cl1.slots[((0 : Int32)).toNatClampNeg]? = some (.int f0_) := Has.at H1 hin2 rfl
  obtain ⟨_, _, ⟨T4, L4, k4, n4⟩, -, X4, ⟨Lc4, hQ4, l4, y4, z4⟩, st4⟩ := Jvm.LawKit.callS X0 hx (y := (⟨"java/lang/Math", "max", "(II)I"⟩ : MethodName)) hown (mvT hZ (hw _ (List.mem_of_getElem? (i := 154) rfl))) (mvT hZ (hw _ (List.mem_of_getElem? (i := 155) rfl))) (mvT hZ (hw _ (List.mem_of_getElem? (i := 156) rfl))) (mvT hZ (hw _ (List.mem_of_getElem? (i := 157) rfl))) (by decide) (backOf (W := 0) (rm28 l Z a0 hw [] (1 : Int32) ((f0_ + (3 : Int32)) / (4 : Int32)) h0 ) hZ (hw _ (List.mem_of_getElem? (i := 157) rfl)) (hw _ (List.mem_of_getElem? (i := 156) rfl)) (by decide) (by decide)) (g := (mkF m 50 #[vR a1, vI 1, vR a1, vI 1, vI 0, vI f0_, .unset, .unset] [iI ((f0_ + (3 : Int32)) / (4 : Int32)), iI 1])) rfl (by rw [hml]; rfl) (argsL := [(.int (1 : Int32)), (.int ((f0_ + (3 : Int32)) / (4 : Int32)))]) (rest := []) (lenOf pd_16 rfl) rfl (by show 2 * 0 + _ ≤ _; exact Nat.le_of_eq rfl) (hb hby d1_50) (fun _ _ => ⟨rfl, e0, (by decide : 0 + 0 ≤ _), (by decide : 0 + 0 ≤ _)⟩)
  dsimp only [Pt.U, Pt.locs, Pt.cells, Pt.slots] at X4 l4 y4 z4 st4 hQ4
  subst l4 y4 z4
  obtain ⟨rfl, rfl, e4⟩ := hQ4
  try rw [List.append_nil] at X4
  have hO := own_lenOK1 hf0
  have hL := own_lens hO.1 hO.2.1
  obtain ⟨T5, h5, k5, X5, e5, E5, A5, st5⟩ := newP X4 hx hZ (hw _ (List.mem_of_getElem? (i := 1) rfl)) e4 (g := (mkF m 61 #[vR a1, vI (own_len1 f0_), vR a1, vI 1, vI 1, vI f0_, .unset, .unset] [iI (own_len1 f0_)])) rfl (hb hby d1_61) rfl hL.1 (cap := 8) hL.2.1 (by decide) (by decide) (by decide)
  obtain ⟨b5, g5⟩ : ∃ z, z = h0.size := ⟨_, rfl⟩
  rw [← g5] at A5 st5
  have ne_a1_b5 : a1 ≠ b5 := Nat.ne_of_lt (Nat.lt_of_lt_of_le V_a.lt (Nat.le_of_eq g5.symm))
  have sz_b5 : h0.size ≤ b5 := Nat.le_trans K0.1 (Nat.le_of_eq g5.symm)
  have g_b5 : n0 ≤ b5 := Nat.le_trans Z0 sz_b5
  have K5 : Keep h0 h5 [] := K0.ext E5
  have V5 : Arv Z h5 b5 k5 .int (own_len1 f0_) [(.int (0 : Int32)), (.int (0 : Int32)), (.int (0 : Int32)), (.int (0 : Int32)), (.int (0 : Int32)), (.int (0 : Int32)), (.int (0 : Int32)), (.int (0 : Int32))] (.int (0 : Int32)) := (Arv.new A5 hL.1).pad (pad_rep [] (.int (0 : Int32)) 8)
  have fk6 := (V_a.ext E5)
  obtain ⟨cl7, Ar7, q7, S7, M7, H7, G7⟩ := id fk6
  have hin8 : ¬ ((0 : Int32) < 0 ∨ cl7.slots.size ≤ ((0 : Int32)).toNatClampNeg) := inb_of S7 ⟨by decide, by decide⟩
  have hat9 : cl7.slots[((0 : Int32)).toNatClampNeg]? = some (.int f0_) := Has.at H7 hin8 rfl
  obtain ⟨cl10, Ar10, q10, S10, M10, H10, G10⟩ := id V5
  have hin11 : ¬ ((((own_len1 f0_) - (1 : Int32)) - ((f0_ - (1 : Int32)) / (4 : Int32))) < 0 ∨ cl10.slots.size ≤ ((((own_len1 f0_) - (1 : Int32)) - ((f0_ - (1 : Int32)) / (4 : Int32)))).toNatClampNeg) := inb_of S10 ⟨(own_ix hf0 hO.2.2 hO.2.1).1, (own_ix hf0 hO.2.2 hO.2.1).2.1⟩
  have hat12 : cl10.slots[((((own_len1 f0_) - (1 : Int32)) - ((f0_ - (1 : Int32)) / (4 : Int32)))).toNatClampNeg]? = some (.int (own_R1_0 f0_)) := Has.at H10 hin11 (own_at8L (own_ix hf0 hO.2.2 hO.2.1).1 (own_ix hf0 hO.2.2 hO.2.1).2.2)
  have hin13 : ¬ ((((own_len1 f0_) - (1 : Int32)) - ((f0_ - (1 : Int32)) / (4 : Int32))) < 0 ∨ cl10.slots.size ≤ ((((own_len1 f0_) - (1 : Int32)) - ((f0_ - (1 : Int32)) / (4 : Int32)))).toNatClampNeg) := inb_of S10 ⟨(own_ix hf0 hO.2.2 hO.2.1).1, (own_ix hf0 hO.2.2 hO.2.1).2.1⟩
  obtain ⟨T14, h14, X14, e14, W14, st14⟩ := stI X5 hx hZ e5 Ar10 (j := (((own_len1 f0_) - (1 : Int32)) - ((f0_ - (1 : Int32)) / (4 : Int32)))) hin13 (g := (mkF m 108 #[vR a1, vI (own_len1 f0_), vR b5, vR a1, vI 1, vI 0, vI f0_, .unset] [iI ((own_R1_0 f0_) ||| ((1 : Int32) <<< (((f0_ - (1 : Int32)) % (4 : Int32)) &&& 31))), iI (((own_len1 f0_) - (1 : Int32)) - ((f0_ - (1 : Int32)) / (4 : Int32))), iR b5])) rfl rfl (hb hby d1_108)
  have V14 : Arv Z h14 b5 k5 .int (own_len1 f0_) [(.int (own_C1_1 f0_ (0 : Int32))), (.int (own_C1_1 f0_ (1 : Int32))), (.int (own_C1_1 f0_ (2 : Int32))), (.int (own_C1_1 f0_ (3 : Int32))), (.int (own_C1_1 f0_ (4 : Int32))), (.int (own_C1_1 f0_ (5 : Int32))), (.int (own_C1_1 f0_ (6 : Int32))), (.int (own_C1_1 f0_ (7 : Int32)))] (.int (0 : Int32)) := own_putV Ar10 q10 S10 M10 H10 G10 W14 (own_ix hf0 hO.2.2 hO.2.1).1 (own_ix hf0 hO.2.2 hO.2.1).2.2
  have K14 : Keep h0 h14 [] := K5.wr W14 (Or.inr sz_b5)
  have N14 := Fr.snoc X14 N0 g_b5
  have pre15 : ∀ t, Steps p.tables e below (T14.setTop (mkF m 115 #[vR a1, vI (own_len1 f0_), vR b5, vR a1, vI 1, vI 1, vI f0_, .unset] [])) t → Steps p.tables e below (s₁.setTop (entryFrame m #[(.ref a1)] 8)) t := by
    intro t kt
    refine pre0 t ?_
    show Steps _ _ _ (s₁.setTop (mkF m 0 #[vR a1, .unset, .unset, .unset, .unset, .unset, .unset, .unset] [])) _
    refine XS.iconst X0.here hx rfl (hb hby d1_0) ?_
    show Steps _ _ _ (s₁.setTop (mkF m 1 #[vR a1, .unset, .unset, .unset, .unset, .unset, .unset, .unset] [iI 1])) _
    refine XS.istoreN X0.here hx rfl (hb hby d1_1) rfl (l' := #[vR a1, vI 1, .unset, .unset, .unset, .unset, .unset, .unset]) rfl ?_
    show Steps _ _ _ (s₁.setTop (mkF m 2 #[vR a1, vI 1, .unset, .unset, .unset, .unset, .unset, .unset] [])) _
    refine XS.aloadN X0.here hx rfl (hb hby d1_2) rfl rfl ?_
    show Steps _ _ _ (s₁.setTop (mkF m 3 #[vR a1, vI 1, .unset, .unset, .unset, .unset, .unset, .unset] [iR a1])) _
    refine XS.astoreN X0.here hx rfl (hb hby d1_3) rfl rfl (l' := #[vR a1, vI 1, vR a1, .unset, .unset, .unset, .unset, .unset]) rfl ?_
    show Steps _ _ _ (s₁.setTop (mkF m 4 #[vR a1, vI 1, vR a1, .unset, .unset, .unset, .unset, .unset] [])) _
    refine XS.aloadN X0.here hx rfl (hb hby d1_4) rfl rfl ?_
    show Steps _ _ _ (s₁.setTop (mkF m 5 #[vR a1, vI 1, vR a1, .unset, .unset, .unset, .unset, .unset] [iR a1])) _
    refine X0.arraylength hx (by rw [e0]; exact Ar1.1) (State.isArrayOf_alike hZ.alike Ar1.2.1) (g := (mkF m 5 #[vR a1, vI 1, vR a1, .unset, .unset, .unset, .unset, .unset] [iR a1])) rfl rfl (hb hby d1_5) _ ?_
    rw [len_of S1 M1]
    show Steps _ _ _ (s₁.setTop (mkF m 6 #[vR a1, vI 1, vR a1, .unset, .unset, .unset, .unset, .unset] [iI 1])) _
    refine XS.istoreN X0.here hx rfl (hb hby d1_6) rfl (l' := #[vR a1, vI 1, vR a1, vI 1, .unset, .unset, .unset, .unset]) rfl ?_
    show Steps _ _ _ (s₁.setTop (mkF m 7 #[vR a1, vI 1, vR a1, vI 1, .unset, .unset, .unset, .unset] [])) _
    refine XS.iconst X0.here hx rfl (hb hby d1_7) ?_
    show Steps _ _ _ (s₁.setTop (mkF m 8 #[vR a1, vI 1, vR a1, vI 1, .unset, .unset, .unset, .unset] [iI 0])) _
    refine XS.istore X0.here hx rfl (hb hby d1_8) rfl (l' := #[vR a1, vI 1, vR a1, vI 1, vI 0, .unset, .unset, .unset]) rfl ?_
    show Steps _ _ _ (s₁.setTop (mkF m 10 #[vR a1, vI 1, vR a1, vI 1, vI 0, .unset, .unset, .unset] [])) _
    refine XS.iload X0.here hx rfl (hb hby d1_10) rfl ?_
    show Steps _ _ _ (s₁.setTop (mkF m 12 #[vR a1, vI 1, vR a1, vI 1, vI 0, .unset, .unset, .unset] [iI 0])) _
    refine XS.iloadN X0.here hx rfl (hb hby d1_12) rfl ?_
    show Steps _ _ _ (s₁.setTop (mkF m 13 #[vR a1, vI 1, vR a1, vI 1, vI 0, .unset, .unset, .unset] [iI 1, iI 0])) _
    refine XS.icmpNo X0.here hx rfl (hb hby d1_13) rfl (tlt (by decide : (0 : Int32) < (1 : Int32))).2.1 ?_
    show Steps _ _ _ (s₁.setTop (mkF m 16 #[vR a1, vI 1, vR a1, vI 1, vI 0, .unset, .unset, .unset] [])) _
    refine XS.aloadN X0.here hx rfl (hb hby d1_16) rfl rfl ?_
    show Steps _ _ _ (s₁.setTop (mkF m 17 #[vR a1, vI 1, vR a1, vI 1, vI 0, .unset, .unset, .unset] [iR a1])) _
    refine XS.iload X0.here hx rfl (hb hby d1_17) rfl ?_
    show Steps _ _ _ (s₁.setTop (mkF m 19 #[vR a1, vI 1, vR a1, vI 1, vI 0, .unset, .unset, .unset] [iI 0, iR a1])) _
    refine X0.iaload hx (j := (0 : Int32)) (v := (.int f0_)) (by rw [e0]; exact Ar1.1) (State.isArrayOf_alike hZ.alike Ar1.2.1) Ar1.2.2 hin2 hat3 (g := (mkF m 19 #[vR a1, vI 1, vR a1, vI 1, vI 0, .unset, .unset, .unset] [iI 0, iR a1])) rfl rfl (hb hby d1_19) _ ?_
    show Steps _ _ _ (s₁.setTop (mkF m 20 #[vR a1, vI 1, vR a1, vI 1, vI 0, .unset, .unset, .unset] [iI f0_])) _
    refine XS.istore X0.here hx rfl (hb hby d1_20) rfl (l' := #[vR a1, vI 1, vR a1, vI 1, vI 0, vI f0_, .unset, .unset]) rfl ?_
    show Steps _ _ _ (s₁.setTop (mkF m 22 #[vR a1, vI 1, vR a1, vI 1, vI 0, vI f0_, .unset, .unset] [])) _
    refine XS.iload X0.here hx rfl (hb hby d1_22) rfl ?_
    show Steps _ _ _ (s₁.setTop (mkF m 24 #[vR a1, vI 1, vR a1, vI 1, vI 0, vI f0_, .unset, .unset] [iI f0_])) _
    refine XS.iconst X0.here hx rfl (hb hby d1_24) ?_
    show Steps _ _ _ (s₁.setTop (mkF m 25 #[vR a1, vI 1, vR a1, vI 1, vI 0, vI f0_, .unset, .unset] [iI 1, iI f0_])) _
    refine XS.icmpYes X0.here hx rfl (pc0 := 25) (pc' := 43) rfl (hb hby d1_25) rfl (flt hf0.1).2.1 (by decide) (by decide) ?_
    show Steps _ _ _ (s₁.setTop (mkF m 43 #[vR a1, vI 1, vR a1, vI 1, vI 0, vI f0_, .unset, .unset] [])) _
    refine XS.iloadN X0.here hx rfl (hb hby d1_43) rfl ?_
    show Steps _ _ _ (s₁.setTop (mkF m 44 #[vR a1, vI 1, vR a1, vI 1, vI 0, vI f0_, .unset, .unset] [iI 1])) _
    refine XS.iload X0.here hx rfl (hb hby d1_44) rfl ?_
    show Steps _ _ _ (s₁.setTop (mkF m 46 #[vR a1, vI 1, vR a1, vI 1, vI 0, vI f0_, .unset, .unset] [iI f0_, iI 1])) _
    refine XS.iconst X0.here hx rfl (hb hby d1_46) ?_
    show Steps _ _ _ (s₁.setTop (mkF m 47 #[vR a1, vI 1, vR a1, vI 1, vI 0, vI f0_, .unset, .unset] [iI 3, iI f0_, iI 1])) _
    refine XS.iadd X0.here hx rfl (hb hby d1_47) rfl ?_
    show Steps _ _ _ (s₁.setTop (mkF m 48 #[vR a1, vI 1, vR a1, vI 1, vI 0, vI f0_, .unset, .unset] [iI (f0_ + (3 : Int32)), iI 1])) _
    refine XS.iconst X0.here hx rfl (hb hby d1_48) ?_
    show Steps _ _ _ (s₁.setTop (mkF m 49 #[vR a1, vI 1, vR a1, vI 1, vI 0, vI f0_, .unset, .unset] [iI 4, iI (f0_ + (3 : Int32)), iI 1])) _
    refine XS.idiv X0.here hx rfl (hb hby d1_49) rfl (by decide) ?_
    show Steps _ _ _ (s₁.setTop (mkF m 50 #[vR a1, vI 1, vR a1, vI 1, vI 0, vI f0_, .unset, .unset] [iI ((f0_ + (3 : Int32)) / (4 : Int32)), iI 1])) _
    refine st4 _ ?_
    show Steps _ _ _ (T4.setTop (mkF m 53 #[vR a1, vI 1, vR a1, vI 1, vI 0, vI f0_, .unset, .unset] [iI (own_len1 f0_)])) _
    refine XS.istoreN X4.here hx rfl (hb hby d1_53) rfl (l' := #[vR a1, vI (own_len1 f0_), vR a1, vI 1, vI 0, vI f0_, .unset, .unset]) rfl ?_
    show Steps _ _ _ (T4.setTop (mkF m 54 #[vR a1, vI (own_len1 f0_), vR a1, vI 1, vI 0, vI f0_, .unset, .unset] [])) _
    refine XS.iinc X4.here hx rfl (hb hby d1_54) rfl (l' := #[vR a1, vI (own_len1 f0_), vR a1, vI 1, vI ((0 : Int32) + (1 : Int32)), vI f0_, .unset, .unset]) rfl ?_
    rw [(by decide : ((0 : Int32) + (1 : Int32)) = (1 : Int32))]
    show Steps _ _ _ (T4.setTop (mkF m 57 #[vR a1, vI (own_len1 f0_), vR a1, vI 1, vI 1, vI f0_, .unset, .unset] [])) _
    refine XS.goto X4.here hx rfl (pc0 := 57) (pc' := 10) rfl (hb hby d1_57) (by decide) (by decide) ?_
    show Steps _ _ _ (T4.setTop (mkF m 10 #[vR a1, vI (own_len1 f0_), vR a1, vI 1, vI 1, vI f0_, .unset, .unset] [])) _
    refine XS.iload X4.here hx rfl (hb hby d1_10) rfl ?_
    show Steps _ _ _ (T4.setTop (mkF m 12 #[vR a1, vI (own_len1 f0_), vR a1, vI 1, vI 1, vI f0_, .unset, .unset] [iI 1])) _
    refine XS.iloadN X4.here hx rfl (hb hby d1_12) rfl ?_
    show Steps _ _ _ (T4.setTop (mkF m 13 #[vR a1, vI (own_len1 f0_), vR a1, vI 1, vI 1, vI f0_, .unset, .unset] [iI 1, iI 1])) _
    refine XS.icmpYes X4.here hx rfl (pc0 := 13) (pc' := 60) rfl (hb hby d1_13) rfl (flt (by decide : ¬ ((1 : Int32) < (1 : Int32)))).2.1 (by decide) (by decide) ?_
    show Steps _ _ _ (T4.setTop (mkF m 60 #[vR a1, vI (own_len1 f0_), vR a1, vI 1, vI 1, vI f0_, .unset, .unset] [])) _
    refine XS.iloadN X4.here hx rfl (hb hby d1_60) rfl ?_
    show Steps _ _ _ (T4.setTop (mkF m 61 #[vR a1, vI (own_len1 f0_), vR a1, vI 1, vI 1, vI f0_, .unset, .unset] [iI (own_len1 f0_)])) _
    refine st5 _ ?_
    show Steps _ _ _ (T5.setTop (mkF m 63 #[vR a1, vI (own_len1 f0_), vR a1, vI 1, vI 1, vI f0_, .unset, .unset] [iR b5])) _
    refine XS.astoreN X5.here hx rfl (hb hby d1_63) rfl rfl (l' := #[vR a1, vI (own_len1 f0_), vR b5, vI 1, vI 1, vI f0_, .unset, .unset]) rfl ?_
    show Steps _ _ _ (T5.setTop (mkF m 64 #[vR a1, vI (own_len1 f0_), vR b5, vI 1, vI 1, vI f0_, .unset, .unset] [])) _
    refine XS.aloadN X5.here hx rfl (hb hby d1_64) rfl rfl ?_
    show Steps _ _ _ (T5.setTop (mkF m 65 #[vR a1, vI (own_len1 f0_), vR b5, vI 1, vI 1, vI f0_, .unset, .unset] [iR a1])) _
    refine XS.astoreN X5.here hx rfl (hb hby d1_65) rfl rfl (l' := #[vR a1, vI (own_len1 f0_), vR b5, vR a1, vI 1, vI f0_, .unset, .unset]) rfl ?_
    show Steps _ _ _ (T5.setTop (mkF m 66 #[vR a1, vI (own_len1 f0_), vR b5, vR a1, vI 1, vI f0_, .unset, .unset] [])) _
    refine XS.aloadN X5.here hx rfl (hb hby d1_66) rfl rfl ?_
    show Steps _ _ _ (T5.setTop (mkF m 67 #[vR a1, vI (own_len1 f0_), vR b5, vR a1, vI 1, vI f0_, .unset, .unset] [iR a1])) _
    refine X5.arraylength hx (by rw [e5]; exact Ar7.1) (State.isArrayOf_alike hZ.alike Ar7.2.1) (g := (mkF m 67 #[vR a1, vI (own_len1 f0_), vR b5, vR a1, vI 1, vI f0_, .unset, .unset] [iR a1])) rfl rfl (hb hby d1_67) _ ?_
    rw [len_of S7 M7]
    show Steps _ _ _ (T5.setTop (mkF m 68 #[vR a1, vI (own_len1 f0_), vR b5, vR a1, vI 1, vI f0_, .unset, .unset] [iI 1])) _
    refine XS.istore X5.here hx rfl (hb hby d1_68) rfl (l' := #[vR a1, vI (own_len1 f0_), vR b5, vR a1, vI 1, vI f0_, .unset, .unset]) rfl ?_
    show Steps _ _ _ (T5.setTop (mkF m 70 #[vR a1, vI (own_len1 f0_), vR b5, vR a1, vI 1, vI f0_, .unset, .unset] [])) _
    refine XS.iconst X5.here hx rfl (hb hby d1_70) ?_
    show Steps _ _ _ (T5.setTop (mkF m 71 #[vR a1, vI (own_len1 f0_), vR b5, vR a1, vI 1, vI f0_, .unset, .unset] [iI 0])) _
    refine XS.istore X5.here hx rfl (hb hby d1_71) rfl (l' := #[vR a1, vI (own_len1 f0_), vR b5, vR a1, vI 1, vI 0, .unset, .unset]) rfl ?_
    show Steps _ _ _ (T5.setTop (mkF m 73 #[vR a1, vI (own_len1 f0_), vR b5, vR a1, vI 1, vI 0, .unset, .unset] [])) _
    refine XS.iload X5.here hx rfl (hb hby d1_73) rfl ?_
    show Steps _ _ _ (T5.setTop (mkF m 75 #[vR a1, vI (own_len1 f0_), vR b5, vR a1, vI 1, vI 0, .unset, .unset] [iI 0])) _
    refine XS.iload X5.here hx rfl (hb hby d1_75) rfl ?_
    show Steps _ _ _ (T5.setTop (mkF m 77 #[vR a1, vI (own_len1 f0_), vR b5, vR a1, vI 1, vI 0, .unset, .unset] [iI 1, iI 0])) _
    refine XS.icmpNo X5.here hx rfl (hb hby d1_77) rfl (tlt (by decide : (0 : Int32) < (1 : Int32))).2.1 ?_
    show Steps _ _ _ (T5.setTop (mkF m 80 #[vR a1, vI (own_len1 f0_), vR b5, vR a1, vI 1, vI 0, .unset, .unset] [])) _
    refine XS.aloadN X5.here hx rfl (hb hby d1_80) rfl rfl ?_
    show Steps _ _ _ (T5.setTop (mkF m 81 #[vR a1, vI (own_len1 f0_), vR b5, vR a1, vI 1, vI 0, .unset, .unset] [iR a1])) _
    refine XS.iload X5.here hx rfl (hb hby d1_81) rfl ?_
    show Steps _ _ _ (T5.setTop (mkF m 83 #[vR a1, vI (own_len1 f0_), vR b5, vR a1, vI 1, vI 0, .unset, .unset] [iI 0, iR a1])) _
    refine X5.iaload hx (j := (0 : Int32)) (v := (.int f0_)) (by rw [e5]; exact Ar7.1) (State.isArrayOf_alike hZ.alike Ar7.2.1) Ar7.2.2 hin8 hat9 (g := (mkF m 83 #[vR a1, vI (own_len1 f0_), vR b5, vR a1, vI 1, vI 0, .unset, .unset] [iI 0, iR a1])) rfl rfl (hb hby d1_83) _ ?_
    show Steps _ _ _ (T5.setTop (mkF m 84 #[vR a1, vI (own_len1 f0_), vR b5, vR a1, vI 1, vI 0, .unset, .unset] [iI f0_])) _
    refine XS.istore X5.here hx rfl (hb hby d1_84) rfl (l' := #[vR a1, vI (own_len1 f0_), vR b5, vR a1, vI 1, vI 0, vI f0_, .unset]) rfl ?_
    show Steps _ _ _ (T5.setTop (mkF m 86 #[vR a1, vI (own_len1 f0_), vR b5, vR a1, vI 1, vI 0, vI f0_, .unset] [])) _
    refine XS.aloadN X5.here hx rfl (hb hby d1_86) rfl rfl ?_
    show Steps _ _ _ (T5.setTop (mkF m 87 #[vR a1, vI (own_len1 f0_), vR b5, vR a1, vI 1, vI 0, vI f0_, .unset] [iR b5])) _
    refine XS.iloadN X5.here hx rfl (hb hby d1_87) rfl ?_
    show Steps _ _ _ (T5.setTop (mkF m 88 #[vR a1, vI (own_len1 f0_), vR b5, vR a1, vI 1, vI 0, vI f0_, .unset] [iI (own_len1 f0_), iR b5])) _
    refine XS.iconst X5.here hx rfl (hb hby d1_88) ?_
    show Steps _ _ _ (T5.setTop (mkF m 89 #[vR a1, vI (own_len1 f0_), vR b5, vR a1, vI 1, vI 0, vI f0_, .unset] [iI 1, iI (own_len1 f0_), iR b5])) _
    refine XS.isub X5.here hx rfl (hb hby d1_89) rfl ?_
    show Steps _ _ _ (T5.setTop (mkF m 90 #[vR a1, vI (own_len1 f0_), vR b5, vR a1, vI 1, vI 0, vI f0_, .unset] [iI ((own_len1 f0_) - (1 : Int32)), iR b5])) _
    refine XS.iload X5.here hx rfl (hb hby d1_90) rfl ?_
    show Steps _ _ _ (T5.setTop (mkF m 92 #[vR a1, vI (own_len1 f0_), vR b5, vR a1, vI 1, vI 0, vI f0_, .unset] [iI f0_, iI ((own_len1 f0_) - (1 : Int32)), iR b5])) _
    refine XS.iconst X5.here hx rfl (hb hby d1_92) ?_
    show Steps _ _ _ (T5.setTop (mkF m 93 #[vR a1, vI (own_len1 f0_), vR b5, vR a1, vI 1, vI 0, vI f0_, .unset] [iI 1, iI f0_, iI ((own_len1 f0_) - (1 : Int32)), iR b5])) _
    refine XS.isub X5.here hx rfl (hb hby d1_93) rfl ?_
    show Steps _ _ _ (T5.setTop (mkF m 94 #[vR a1, vI (own_len1 f0_), vR b5, vR a1, vI 1, vI 0, vI f0_, .unset] [iI (f0_ - (1 : Int32)), iI ((own_len1 f0_) - (1 : Int32)), iR b5])) _
    refine XS.iconst X5.here hx rfl (hb hby d1_94) ?_
    show Steps _ _ _ (T5.setTop (mkF m 95 #[vR a1, vI (own_len1 f0_), vR b5, vR a1, vI 1, vI 0, vI f0_, .unset] [iI 4, iI (f0_ - (1 : Int32)), iI ((own_len1 f0_) - (1 : Int32)), iR b5])) _
    refine XS.idiv X5.here hx rfl (hb hby d1_95) rfl (by decide) ?_
    show Steps _ _ _ (T5.setTop (mkF m 96 #[vR a1, vI (own_len1 f0_), vR b5, vR a1, vI 1, vI 0, vI f0_, .unset] [iI ((f0_ - (1 : Int32)) / (4 : Int32)), iI ((own_len1 f0_) - (1 : Int32)), iR b5])) _
    refine XS.isub X5.here hx rfl (hb hby d1_96) rfl ?_
    show Steps _ _ _ (T5.setTop (mkF m 97 #[vR a1, vI (own_len1 f0_), vR b5, vR a1, vI 1, vI 0, vI f0_, .unset] [iI (((own_len1 f0_) - (1 : Int32)) - ((f0_ - (1 : Int32)) / (4 : Int32))), iR b5])) _
    refine XT.dup2 X5.here hx rfl (hb hby d1_97) rfl rfl rfl ?_
    show Steps _ _ _ (T5.setTop (mkF m 98 #[vR a1, vI (own_len1 f0_), vR b5, vR a1, vI 1, vI 0, vI f0_, .unset] [iI (((own_len1 f0_) - (1 : Int32)) - ((f0_ - (1 : Int32)) / (4 : Int32))), iR b5, iI (((own_len1 f0_) - (1 : Int32)) - ((f0_ - (1 : Int32)) / (4 : Int32))), iR b5])) _
    refine X5.iaload hx (j := (((own_len1 f0_) - (1 : Int32)) - ((f0_ - (1 : Int32)) / (4 : Int32)))) (v := (.int (own_R1_0 f0_))) (by rw [e5]; exact Ar10.1) (State.isArrayOf_alike hZ.alike Ar10.2.1) Ar10.2.2 hin11 hat12 (g := (mkF m 98 #[vR a1, vI (own_len1 f0_), vR b5, vR a1, vI 1, vI 0, vI f0_, .unset] [iI (((own_len1 f0_) - (1 : Int32)) - ((f0_ - (1 : Int32)) / (4 : Int32))), iR b5, iI (((own_len1 f0_) - (1 : Int32)) - ((f0_ - (1 : Int32)) / (4 : Int32))), iR b5])) rfl rfl (hb hby d1_98) _ ?_
    show Steps _ _ _ (T5.setTop (mkF m 99 #[vR a1, vI (own_len1 f0_), vR b5, vR a1, vI 1, vI 0, vI f0_, .unset] [iI (own_R1_0 f0_), iI (((own_len1 f0_) - (1 : Int32)) - ((f0_ - (1 : Int32)) / (4 : Int32))), iR b5])) _
    refine XS.iconst X5.here hx rfl (hb hby d1_99) ?_
    show Steps _ _ _ (T5.setTop (mkF m 100 #[vR a1, vI (own_len1 f0_), vR b5, vR a1, vI 1, vI 0, vI f0_, .unset] [iI 1, iI (own_R1_0 f0_), iI (((own_len1 f0_) - (1 : Int32)) - ((f0_ - (1 : Int32)) / (4 : Int32))), iR b5])) _
    refine XS.iload X5.here hx rfl (hb hby d1_100) rfl ?_
    show Steps _ _ _ (T5.setTop (mkF m 102 #[vR a1, vI (own_len1 f0_), vR b5, vR a1, vI 1, vI 0, vI f0_, .unset] [iI f0_, iI 1, iI (own_R1_0 f0_), iI (((own_len1 f0_) - (1 : Int32)) - ((f0_ - (1 : Int32)) / (4 : Int32))), iR b5])) _
    refine XS.iconst X5.here hx rfl (hb hby d1_102) ?_
    show Steps _ _ _ (T5.setTop (mkF m 103 #[vR a1, vI (own_len1 f0_), vR b5, vR a1, vI 1, vI 0, vI f0_, .unset] [iI 1, iI f0_, iI 1, iI (own_R1_0 f0_), iI (((own_len1 f0_) - (1 : Int32)) - ((f0_ - (1 : Int32)) / (4 : Int32))), iR b5])) _
    refine XS.isub X5.here hx rfl (hb hby d1_103) rfl ?_
    show Steps _ _ _ (T5.setTop (mkF m 104 #[vR a1, vI (own_len1 f0_), vR b5, vR a1, vI 1, vI 0, vI f0_, .unset] [iI (f0_ - (1 : Int32)), iI 1, iI (own_R1_0 f0_), iI (((own_len1 f0_) - (1 : Int32)) - ((f0_ - (1 : Int32)) / (4 : Int32))), iR b5])) _
    refine XS.iconst X5.here hx rfl (hb hby d1_104) ?_
    show Steps _ _ _ (T5.setTop (mkF m 105 #[vR a1, vI (own_len1 f0_), vR b5, vR a1, vI 1, vI 0, vI f0_, .unset] [iI 4, iI (f0_ - (1 : Int32)), iI 1, iI (own_R1_0 f0_), iI (((own_len1 f0_) - (1 : Int32)) - ((f0_ - (1 : Int32)) / (4 : Int32))), iR b5])) _
    refine iremM X5 hx rfl (hb hby d1_105) rfl (by decide) ?_
    show Steps _ _ _ (T5.setTop (mkF m 106 #[vR a1, vI (own_len1 f0_), vR b5, vR a1, vI 1, vI 0, vI f0_, .unset] [iI ((f0_ - (1 : Int32)) % (4 : Int32)), iI 1, iI (own_R1_0 f0_), iI (((own_len1 f0_) - (1 : Int32)) - ((f0_ - (1 : Int32)) / (4 : Int32))), iR b5])) _
    refine XS.ishl X5.here hx rfl (hb hby d1_106) rfl ?_
    show Steps _ _ _ (T5.setTop (mkF m 107 #[vR a1, vI (own_len1 f0_), vR b5, vR a1, vI 1, vI 0, vI f0_, .unset] [iI ((1 : Int32) <<< (((f0_ - (1 : Int32)) % (4 : Int32)) &&& 31)), iI (own_R1_0 f0_), iI (((own_len1 f0_) - (1 : Int32)) - ((f0_ - (1 : Int32)) / (4 : Int32))), iR b5])) _
    refine XS.ior X5.here hx rfl (hb hby d1_107) rfl ?_
    show Steps _ _ _ (T5.setTop (mkF m 108 #[vR a1, vI (own_len1 f0_), vR b5, vR a1, vI 1, vI 0, vI f0_, .unset] [iI ((own_R1_0 f0_) ||| ((1 : Int32) <<< (((f0_ - (1 : Int32)) % (4 : Int32)) &&& 31))), iI (((own_len1 f0_) - (1 : Int32)) - ((f0_ - (1 : Int32)) / (4 : Int32))), iR b5])) _
    refine st14 _ ?_
    show Steps _ _ _ (T14.setTop (mkF m 109 #[vR a1, vI (own_len1 f0_), vR b5, vR a1, vI 1, vI 0, vI f0_, .unset] [])) _
    refine XS.iinc X14.here hx rfl (hb hby d1_109) rfl (l' := #[vR a1, vI (own_len1 f0_), vR b5, vR a1, vI 1, vI ((0 : Int32) + (1 : Int32)), vI f0_, .unset]) rfl ?_
    rw [(by decide : ((0 : Int32) + (1 : Int32)) = (1 : Int32))]
    show Steps _ _ _ (T14.setTop (mkF m 112 #[vR a1, vI (own_len1 f0_), vR b5, vR a1, vI 1, vI 1, vI f0_, .unset] [])) _
    refine XS.goto X14.here hx rfl (pc0 := 112) (pc' := 73) rfl (hb hby d1_112) (by decide) (by decide) ?_
    show Steps _ _ _ (T14.setTop (mkF m 73 #[vR a1, vI (own_len1 f0_), vR b5, vR a1, vI 1, vI 1, vI f0_, .unset] [])) _
    refine XS.iload X14.here hx rfl (hb hby d1_73) rfl ?_
    show Steps _ _ _ (T14.setTop (mkF m 75 #[vR a1, vI (own_len1 f0_), vR b5, vR a1, vI 1, vI 1, vI f0_, .unset] [iI 1])) _
    refine XS.iload X14.here hx rfl (hb hby d1_75) rfl ?_
    show Steps _ _ _ (T14.setTop (mkF m 77 #[vR a1, vI (own_len1 f0_), vR b5, vR a1, vI 1, vI 1, vI f0_, .unset] [iI 1, iI 1])) _
    refine XS.icmpYes X14.here hx rfl (pc0 := 77) (pc' := 115) rfl (hb hby d1_77) rfl (flt (by decide : ¬ ((1 : Int32) < (1 : Int32)))).2.1 (by decide) (by decide) ?_
    exact kt
  obtain ⟨s₂, o₂, hs₂, hr₂⟩ := own_tail1 (nn := (1 : Int32)) (ff := f0_) X14 hx hZ hw hby hml hown Bd.returns (by first | assumption | exact BodyLoose.notSynchronized (by assumption) | exact Body.notSynchronized (by assumption)) e14 K14 N14 Z0 O0 V14 g_b5 sz_b5 hL.1 hL.2.1 hL.2.2 S_CS h_cs
  exact ⟨s₂, o₂, pre15 _ hs₂, hr₂⟩
theorem ef_1_2 (m : MethodId) (x0 : Addr) : entryFrame m #[(.ref x0)] 8 = mkF m 0 #[.val (.ref x0), .unset, .unset, .unset, .unset, .unset, .unset, .unset] [] := by first | (simp [entryFrame, mkF, argsToLocals, Value.category]; done) | rfl
def Q1_2 (Z : State) (a1 : Addr) (ka : ClassId) (f0_ : Int32) (f1_ : Int32) (cs : Int32) (h0 : Heap) (n0 : Nat) (v : Option Value) (h : Heap) (L : List Loc) : Prop := own_QT Z (own_len2 f0_ f1_) (own_C2_2 f0_ f1_ (0 : Int32)) (own_C2_2 f0_ f1_ (1 : Int32)) (own_C2_2 f0_ f1_ (2 : Int32)) (own_C2_2 f0_ f1_ (3 : Int32)) (own_C2_2 f0_ f1_ (4 : Int32)) (own_C2_2 f0_ f1_ (5 : Int32)) (own_C2_2 f0_ f1_ (6 : Int32)) (own_C2_2 f0_ f1_ (7 : Int32)) h0 n0 v h L
set_option maxRecDepth 65536 in
set_option maxHeartbeats 40000000 in
theorem rm1_2 (l : Launch) (Z : State) (a0 : Array Value) (hw : ∀ d ∈ tables_1, d.before a0 Z = true) (ws : List Jvm.Cond) (a1 : Addr) (ka : ClassId) (f0_ : Int32) (f1_ : Int32) (cs : Int32) (h0 : Heap) (n0 : Nat) (Z0 : n0 ≤ h0.size) (O0 : Old Z n0 h0) (V_a : Arv Z h0 a1 ka .int (2 : Int32) [(.int f0_), (.int f1_)] (.int (0 : Int32))) (hf0 : ¬ f0_ < (1 : Int32) ∧ ¬ (32 : Int32) < f0_) (hf1 : ¬ f1_ < (1 : Int32) ∧ ¬ (32 : Int32) < f1_) (S_CS : Sta Z Z.heap "java/lang/String" "COMPACT_STRINGS" "Z" (.int cs)) (h_cs : ¬ cs = (0 : Int32)) :
    MetFree l (⟨"com/example/cloud_to_core/cloudtocore/model/SupportedFeatures", "of", "([I)Ljava/lang/String;"⟩ : MethodName) (head1 (Jvm.Cond.code (⟨"com/example/cloud_to_core/cloudtocore/model/SupportedFeatures", "of", "([I)Ljava/lang/String;"⟩ : MethodName) prog_29_method_3_code 8 (some (.object "java/lang/String")) :: ws) ({ frames := 5, cells := 5, slots := 32, locals := 71 } : Room)) (fun a U => a = #[(.ref a1)] ∧ Z.Warmed39 U.vm ∧ U.heap = h0) (fun _ _ _ _ _ => True) (fun _ U o U' => ∃ v L, o = .returned v ∧ Q1_2 Z a1 ka f0_ f1_ cs h0 n0 v U'.heap L ∧ FrameEnd U o U' L ({ frames := 5, cells := 5, slots := 32, locals := 71 } : Room).cells ({ frames := 5, cells := 5, slots := 32, locals := 71 } : Room).slots) := by
  refine MetFree.of_bodySF (plainFor_of_name pn_8) hisR ?_
  intro p e s m args below meth c s₁ Bd hml0 hP hK
  obtain ⟨rfl, hZ, hh⟩ := hP
  have hx := Bd.exec
  have hby := Bd.bytes
  have hml : c.maxLocals = 8 := hml0
  have hown : s.vm.findClass "com/example/cloud_to_core/cloudtocore/model/SupportedFeatures" = some m.cls := findClass_of_methodNamed Bd.named
  have hnm := (name_of_methodNamed Bd.named Bd.method).1
  have X0 : Stand p l e ({ frames := 5, cells := 5, slots := 32, locals := 71 } : Room) s m #[(.ref a1)] below meth c s₁ [] 0 0 := Stand.of_body Bd
  have e0 : s₁.heap = h0 := by rw [← hh, Bd.state]; rfl
  have N0 := Fr.nil n0
  have K0 := Keep.refl h0 []
  have pre0 : ∀ t, Steps p.tables e below (s₁.setTop (mkF m 0 #[.val (.ref a1), .unset, .unset, .unset, .unset, .unset, .unset, .unset] [])) t → Steps p.tables e below (s₁.setTop (entryFrame m #[(.ref a1)] 8)) t := fun t k => castTop (ef_1_2 m a1) k
  obtain ⟨cl1, Ar1, q1, S1, M1, H1, G1⟩ := id V_a
  have hin2 : ¬ ((0 : Int32) < 0 ∨ cl1.slots.size ≤ ((0 : Int32)).toNatClampNeg) := inb_of S1 ⟨by decide, by decide⟩
  have hat3 : cl1.slots[((0 : Int32)).toNatClampNeg]? = some (.int f0_) := Has.at H1 hin2 rfl
  obtain ⟨_, _, ⟨T4, L4, k4, n4⟩, -, X4, ⟨Lc4, hQ4, l4, y4, z4⟩, st4⟩ := Jvm.LawKit.callS X0 hx (y := (⟨"java/lang/Math", "max", "(II)I"⟩ : MethodName)) hown (mvT hZ (hw _ (List.mem_of_getElem? (i := 154) rfl))) (mvT hZ (hw _ (List.mem_of_getElem? (i := 155) rfl))) (mvT hZ (hw _ (List.mem_of_getElem? (i := 156) rfl))) (mvT hZ (hw _ (List.mem_of_getElem? (i := 157) rfl))) (by decide) (backOf (W := 0) (rm28 l Z a0 hw [] (1 : Int32) ((f0_ + (3 : Int32)) / (4 : Int32)) h0 ) hZ (hw _ (List.mem_of_getElem? (i := 157) rfl)) (hw _ (List.mem_of_getElem? (i := 156) rfl)) (by decide) (by decide)) (g := (mkF m 50 #[vR a1, vI 1, vR a1, vI 2, vI 0, vI f0_, .unset, .unset] [iI ((f0_ + (3 : Int32)) / (4 : Int32)), iI 1])) rfl (by rw [hml]; rfl) (argsL := [(.int (1 : Int32)), (.int ((f0_ + (3 : Int32)) / (4 : Int32)))]) (rest := []) (lenOf pd_16 rfl) rfl (by show 2 * 0 + _ ≤ _; exact Nat.le_of_eq rfl) (hb hby d1_50) (fun _ _ => ⟨rfl, e0, (by decide : 0 + 0 ≤ _), (by decide : 0 + 0 ≤ _)⟩)
  dsimp only [Pt.U, Pt.locs, Pt.cells, Pt.slots] at X4 l4 y4 z4 st4 hQ4
  subst l4 y4 z4
  obtain ⟨rfl, rfl, e4⟩ := hQ4
  try rw [List.append_nil] at X4
  have hin5 : ¬ ((1 : Int32) < 0 ∨ cl1.slots.size ≤ ((1 : Int32)).toNatClampNeg) := inb_of S1 ⟨by decide, by decide⟩
  have hat6 : cl1.slots[((1 : Int32)).toNatClampNeg]? = some (.int f1_) := Has.at H1 hin5 rfl
  obtain ⟨_, _, ⟨T7, L7, k7, n7⟩, -, X7, ⟨Lc7, hQ7, l7, y7, z7⟩, st7⟩ := Jvm.LawKit.callS X4 hx (y := (⟨"java/lang/Math", "max", "(II)I"⟩ : MethodName)) hown (mvT hZ (hw _ (List.mem_of_getElem? (i := 154) rfl))) (mvT hZ (hw _ (List.mem_of_getElem? (i := 155) rfl))) (mvT hZ (hw _ (List.mem_of_getElem? (i := 156) rfl))) (mvT hZ (hw _ (List.mem_of_getElem? (i := 157) rfl))) (by decide) (backOf (W := 0) (rm28 l Z a0 hw [] (own_len1 f0_) ((f1_ + (3 : Int32)) / (4 : Int32)) h0 ) hZ (hw _ (List.mem_of_getElem? (i := 157) rfl)) (hw _ (List.mem_of_getElem? (i := 156) rfl)) (by decide) (by decide)) (g := (mkF m 50 #[vR a1, vI (own_len1 f0_), vR a1, vI 2, vI 1, vI f1_, .unset, .unset] [iI ((f1_ + (3 : Int32)) / (4 : Int32)), iI (own_len1 f0_)])) rfl (by rw [hml]; rfl) (argsL := [(.int (own_len1 f0_)), (.int ((f1_ + (3 : Int32)) / (4 : Int32)))]) (rest := []) (lenOf pd_16 rfl) rfl (by show 2 * 0 + _ ≤ _; exact Nat.le_of_eq rfl) (hb hby d1_50) (fun _ _ => ⟨rfl, e4, (by decide : 0 + 0 ≤ _), (by decide : 0 + 0 ≤ _)⟩)
  dsimp only [Pt.U, Pt.locs, Pt.cells, Pt.slots] at X7 l7 y7 z7 st7 hQ7
  subst l7 y7 z7
  obtain ⟨rfl, rfl, e7⟩ := hQ7
  try rw [List.append_nil] at X7
  have hO := own_lenOK2 hf0 hf1
  have hL := own_lens hO.1 hO.2.1
  obtain ⟨T8, h8, k8, X8, e8, E8, A8, st8⟩ := newP X7 hx hZ (hw _ (List.mem_of_getElem? (i := 1) rfl)) e7 (g := (mkF m 61 #[vR a1, vI (own_len2 f0_ f1_), vR a1, vI 2, vI 2, vI f1_, .unset, .unset] [iI (own_len2 f0_ f1_)])) rfl (hb hby d1_61) rfl hL.1 (cap := 8) hL.2.1 (by decide) (by decide) (by decide)
  obtain ⟨b8, g8⟩ : ∃ z, z = h0.size := ⟨_, rfl⟩
  rw [← g8] at A8 st8
  have ne_a1_b8 : a1 ≠ b8 := Nat.ne_of_lt (Nat.lt_of_lt_of_le V_a.lt (Nat.le_of_eq g8.symm))
  have sz_b8 : h0.size ≤ b8 := Nat.le_trans K0.1 (Nat.le_of_eq g8.symm)
  have g_b8 : n0 ≤ b8 := Nat.le_trans Z0 sz_b8
  have K8 : Keep h0 h8 [] := K0.ext E8
  have V8 : Arv Z h8 b8 k8 .int (own_len2 f0_ f1_) [(.int (0 : Int32)), (.int (0 : Int32)), (.int (0 : Int32)), (.int (0 : Int32)), (.int (0 : Int32)), (.int (0 : Int32)), (.int (0 : Int32)), (.int (0 : Int32))] (.int (0 : Int32)) := (Arv.new A8 hL.1).pad (pad_rep [] (.int (0 : Int32)) 8)
  have fk9 := (V_a.ext E8)
  obtain ⟨cl10, Ar10, q10, S10, M10, H10, G10⟩ := id fk9
  have hin11 : ¬ ((0 : Int32) < 0 ∨ cl10.slots.size ≤ ((0 : Int32)).toNatClampNeg) := inb_of S10 ⟨by decide, by decide⟩
  have hat12 : cl10.slots[((0 : Int32)).toNatClampNeg]? = some (.int f0_) := Has.at H10 hin11 rfl
  obtain ⟨cl13, Ar13, q13, S13, M13, H13, G13⟩ := id V8
  have hin14 : ¬ ((((own_len2 f0_ f1_) - (1 : Int32)) - ((f0_ - (1 : Int32)) / (4 : Int32))) < 0 ∨ cl13.slots.size ≤ ((((own_len2 f0_ f1_) - (1 : Int32)) - ((f0_ - (1 : Int32)) / (4 : Int32)))).toNatClampNeg) := inb_of S13 ⟨(own_ix hf0 hO.2.2.1 hO.2.1).1, (own_ix hf0 hO.2.2.1 hO.2.1).2.1⟩
  have hat15 : cl13.slots[((((own_len2 f0_ f1_) - (1 : Int32)) - ((f0_ - (1 : Int32)) / (4 : Int32)))).toNatClampNeg]? = some (.int (own_R2_0 f0_ f1_)) := Has.at H13 hin14 (own_at8L (own_ix hf0 hO.2.2.1 hO.2.1).1 (own_ix hf0 hO.2.2.1 hO.2.1).2.2)
  have hin16 : ¬ ((((own_len2 f0_ f1_) - (1 : Int32)) - ((f0_ - (1 : Int32)) / (4 : Int32))) < 0 ∨ cl13.slots.size ≤ ((((own_len2 f0_ f1_) - (1 : Int32)) - ((f0_ - (1 : Int32)) / (4 : Int32)))).toNatClampNeg) := inb_of S13 ⟨(own_ix hf0 hO.2.2.1 hO.2.1).1, (own_ix hf0 hO.2.2.1 hO.2.1).2.1⟩
  obtain ⟨T17, h17, X17, e17, W17, st17⟩ := stI X8 hx hZ e8 Ar13 (j := (((own_len2 f0_ f1_) - (1 : Int32)) - ((f0_ - (1 : Int32)) / (4 : Int32)))) hin16 (g := (mkF m 108 #[vR a1, vI (own_len2 f0_ f1_), vR b8, vR a1, vI 2, vI 0, vI f0_, .unset] [iI ((own_R2_0 f0_ f1_) ||| ((1 : Int32) <<< (((f0_ - (1 : Int32)) % (4 : Int32)) &&& 31))), iI (((own_len2 f0_ f1_) - (1 : Int32)) - ((f0_ - (1 : Int32)) / (4 : Int32))), iR b8])) rfl rfl (hb hby d1_108)
  have V17 : Arv Z h17 b8 k8 .int (own_len2 f0_ f1_) [(.int (own_C2_1 f0_ f1_ (0 : Int32))), (.int (own_C2_1 f0_ f1_ (1 : Int32))), (.int (own_C2_1 f0_ f1_ (2 : Int32))), (.int (own_C2_1 f0_ f1_ (3 : Int32))), (.int (own_C2_1 f0_ f1_ (4 : Int32))), (.int (own_C2_1 f0_ f1_ (5 : Int32))), (.int (own_C2_1 f0_ f1_ (6 : Int32))), (.int (own_C2_1 f0_ f1_ (7 : Int32)))] (.int (0 : Int32)) := own_putV Ar13 q13 S13 M13 H13 G13 W17 (own_ix hf0 hO.2.2.1 hO.2.1).1 (own_ix hf0 hO.2.2.1 hO.2.1).2.2
  have K17 : Keep h0 h17 [] := K8.wr W17 (Or.inr sz_b8)
  have N17 := Fr.snoc X17 N0 g_b8
  have fk18 := (fk9.other W17 ne_a1_b8)
  obtain ⟨cl19, Ar19, q19, S19, M19, H19, G19⟩ := id fk18
  have hin20 : ¬ ((1 : Int32) < 0 ∨ cl19.slots.size ≤ ((1 : Int32)).toNatClampNeg) := inb_of S19 ⟨by decide, by decide⟩
  have hat21 : cl19.slots[((1 : Int32)).toNatClampNeg]? = some (.int f1_) := Has.at H19 hin20 rfl
  obtain ⟨cl22, Ar22, q22, S22, M22, H22, G22⟩ := id V17
  have hin23 : ¬ ((((own_len2 f0_ f1_) - (1 : Int32)) - ((f1_ - (1 : Int32)) / (4 : Int32))) < 0 ∨ cl22.slots.size ≤ ((((own_len2 f0_ f1_) - (1 : Int32)) - ((f1_ - (1 : Int32)) / (4 : Int32)))).toNatClampNeg) := inb_of S22 ⟨(own_ix hf1 hO.2.2.2 hO.2.1).1, (own_ix hf1 hO.2.2.2 hO.2.1).2.1⟩
  have hat24 : cl22.slots[((((own_len2 f0_ f1_) - (1 : Int32)) - ((f1_ - (1 : Int32)) / (4 : Int32)))).toNatClampNeg]? = some (.int (own_R2_1 f0_ f1_)) := Has.at H22 hin23 (own_at8L (own_ix hf1 hO.2.2.2 hO.2.1).1 (own_ix hf1 hO.2.2.2 hO.2.1).2.2)
  have hin25 : ¬ ((((own_len2 f0_ f1_) - (1 : Int32)) - ((f1_ - (1 : Int32)) / (4 : Int32))) < 0 ∨ cl22.slots.size ≤ ((((own_len2 f0_ f1_) - (1 : Int32)) - ((f1_ - (1 : Int32)) / (4 : Int32)))).toNatClampNeg) := inb_of S22 ⟨(own_ix hf1 hO.2.2.2 hO.2.1).1, (own_ix hf1 hO.2.2.2 hO.2.1).2.1⟩
  obtain ⟨T26, h26, X26, e26, W26, st26⟩ := stI X17 hx hZ e17 Ar22 (j := (((own_len2 f0_ f1_) - (1 : Int32)) - ((f1_ - (1 : Int32)) / (4 : Int32)))) hin25 (g := (mkF m 108 #[vR a1, vI (own_len2 f0_ f1_), vR b8, vR a1, vI 2, vI 1, vI f1_, .unset] [iI ((own_R2_1 f0_ f1_) ||| ((1 : Int32) <<< (((f1_ - (1 : Int32)) % (4 : Int32)) &&& 31))), iI (((own_len2 f0_ f1_) - (1 : Int32)) - ((f1_ - (1 : Int32)) / (4 : Int32))), iR b8])) rfl rfl (hb hby d1_108)
  have V26 : Arv Z h26 b8 k8 .int (own_len2 f0_ f1_) [(.int (own_C2_2 f0_ f1_ (0 : Int32))), (.int (own_C2_2 f0_ f1_ (1 : Int32))), (.int (own_C2_2 f0_ f1_ (2 : Int32))), (.int (own_C2_2 f0_ f1_ (3 : Int32))), (.int (own_C2_2 f0_ f1_ (4 : Int32))), (.int (own_C2_2 f0_ f1_ (5 : Int32))), (.int (own_C2_2 f0_ f1_ (6 : Int32))), (.int (own_C2_2 f0_ f1_ (7 : Int32)))] (.int (0 : Int32)) := own_putV Ar22 q22 S22 M22 H22 G22 W26 (own_ix hf1 hO.2.2.2 hO.2.1).1 (own_ix hf1 hO.2.2.2 hO.2.1).2.2
  have K26 : Keep h0 h26 [] := K17.wr W26 (Or.inr sz_b8)
  have N26 := Fr.snoc X26 N17 g_b8
  have pre27 : ∀ t, Steps p.tables e below (T26.setTop (mkF m 115 #[vR a1, vI (own_len2 f0_ f1_), vR b8, vR a1, vI 2, vI 2, vI f1_, .unset] [])) t → Steps p.tables e below (s₁.setTop (entryFrame m #[(.ref a1)] 8)) t := by
    intro t kt
    refine pre0 t ?_
    show Steps _ _ _ (s₁.setTop (mkF m 0 #[vR a1, .unset, .unset, .unset, .unset, .unset, .unset, .unset] [])) _
    refine XS.iconst X0.here hx rfl (hb hby d1_0) ?_
    show Steps _ _ _ (s₁.setTop (mkF m 1 #[vR a1, .unset, .unset, .unset, .unset, .unset, .unset, .unset] [iI 1])) _
    refine XS.istoreN X0.here hx rfl (hb hby d1_1) rfl (l' := #[vR a1, vI 1, .unset, .unset, .unset, .unset, .unset, .unset]) rfl ?_
    show Steps _ _ _ (s₁.setTop (mkF m 2 #[vR a1, vI 1, .unset, .unset, .unset, .unset, .unset, .unset] [])) _
    refine XS.aloadN X0.here hx rfl (hb hby d1_2) rfl rfl ?_
    show Steps _ _ _ (s₁.setTop (mkF m 3 #[vR a1, vI 1, .unset, .unset, .unset, .unset, .unset, .unset] [iR a1])) _
    refine XS.astoreN X0.here hx rfl (hb hby d1_3) rfl rfl (l' := #[vR a1, vI 1, vR a1, .unset, .unset, .unset, .unset, .unset]) rfl ?_
    show Steps _ _ _ (s₁.setTop (mkF m 4 #[vR a1, vI 1, vR a1, .unset, .unset, .unset, .unset, .unset] [])) _
    refine XS.aloadN X0.here hx rfl (hb hby d1_4) rfl rfl ?_
    show Steps _ _ _ (s₁.setTop (mkF m 5 #[vR a1, vI 1, vR a1, .unset, .unset, .unset, .unset, .unset] [iR a1])) _
    refine X0.arraylength hx (by rw [e0]; exact Ar1.1) (State.isArrayOf_alike hZ.alike Ar1.2.1) (g := (mkF m 5 #[vR a1, vI 1, vR a1, .unset, .unset, .unset, .unset, .unset] [iR a1])) rfl rfl (hb hby d1_5) _ ?_
    rw [len_of S1 M1]
    show Steps _ _ _ (s₁.setTop (mkF m 6 #[vR a1, vI 1, vR a1, .unset, .unset, .unset, .unset, .unset] [iI 2])) _
    refine XS.istoreN X0.here hx rfl (hb hby d1_6) rfl (l' := #[vR a1, vI 1, vR a1, vI 2, .unset, .unset, .unset, .unset]) rfl ?_
    show Steps _ _ _ (s₁.setTop (mkF m 7 #[vR a1, vI 1, vR a1, vI 2, .unset, .unset, .unset, .unset] [])) _
    refine XS.iconst X0.here hx rfl (hb hby d1_7) ?_
    show Steps _ _ _ (s₁.setTop (mkF m 8 #[vR a1, vI 1, vR a1, vI 2, .unset, .unset, .unset, .unset] [iI 0])) _
    refine XS.istore X0.here hx rfl (hb hby d1_8) rfl (l' := #[vR a1, vI 1, vR a1, vI 2, vI 0, .unset, .unset, .unset]) rfl ?_
    show Steps _ _ _ (s₁.setTop (mkF m 10 #[vR a1, vI 1, vR a1, vI 2, vI 0, .unset, .unset, .unset] [])) _
    refine XS.iload X0.here hx rfl (hb hby d1_10) rfl ?_
    show Steps _ _ _ (s₁.setTop (mkF m 12 #[vR a1, vI 1, vR a1, vI 2, vI 0, .unset, .unset, .unset] [iI 0])) _
    refine XS.iloadN X0.here hx rfl (hb hby d1_12) rfl ?_
    show Steps _ _ _ (s₁.setTop (mkF m 13 #[vR a1, vI 1, vR a1, vI 2, vI 0, .unset, .unset, .unset] [iI 2, iI 0])) _
    refine XS.icmpNo X0.here hx rfl (hb hby d1_13) rfl (tlt (by decide : (0 : Int32) < (2 : Int32))).2.1 ?_
    show Steps _ _ _ (s₁.setTop (mkF m 16 #[vR a1, vI 1, vR a1, vI 2, vI 0, .unset, .unset, .unset] [])) _
    refine XS.aloadN X0.here hx rfl (hb hby d1_16) rfl rfl ?_
    show Steps _ _ _ (s₁.setTop (mkF m 17 #[vR a1, vI 1, vR a1, vI 2, vI 0, .unset, .unset, .unset] [iR a1])) _
    refine XS.iload X0.here hx rfl (hb hby d1_17) rfl ?_
    show Steps _ _ _ (s₁.setTop (mkF m 19 #[vR a1, vI 1, vR a1, vI 2, vI 0, .unset, .unset, .unset] [iI 0, iR a1])) _
    refine X0.iaload hx (j := (0 : Int32)) (v := (.int f0_)) (by rw [e0]; exact Ar1.1) (State.isArrayOf_alike hZ.alike Ar1.2.1) Ar1.2.2 hin2 hat3 (g := (mkF m 19 #[vR a1, vI 1, vR a1, vI 2, vI 0, .unset, .unset, .unset] [iI 0, iR a1])) rfl rfl (hb hby d1_19) _ ?_
    show Steps _ _ _ (s₁.setTop (mkF m 20 #[vR a1, vI 1, vR a1, vI 2, vI 0, .unset, .unset, .unset] [iI f0_])) _
    refine XS.istore X0.here hx rfl (hb hby d1_20) rfl (l' := #[vR a1, vI 1, vR a1, vI 2, vI 0, vI f0_, .unset, .unset]) rfl ?_
    show Steps _ _ _ (s₁.setTop (mkF m 22 #[vR a1, vI 1, vR a1, vI 2, vI 0, vI f0_, .unset, .unset] [])) _
    refine XS.iload X0.here hx rfl (hb hby d1_22) rfl ?_
    show Steps _ _ _ (s₁.setTop (mkF m 24 #[vR a1, vI 1, vR a1, vI 2, vI 0, vI f0_, .unset, .unset] [iI f0_])) _
    refine XS.iconst X0.here hx rfl (hb hby d1_24) ?_
    show Steps _ _ _ (s₁.setTop (mkF m 25 #[vR a1, vI 1, vR a1, vI 2, vI 0, vI f0_, .unset, .unset] [iI 1, iI f0_])) _
    refine XS.icmpYes X0.here hx rfl (pc0 := 25) (pc' := 43) rfl (hb hby d1_25) rfl (flt hf0.1).2.1 (by decide) (by decide) ?_
    show Steps _ _ _ (s₁.setTop (mkF m 43 #[vR a1, vI 1, vR a1, vI 2, vI 0, vI f0_, .unset, .unset] [])) _
    refine XS.iloadN X0.here hx rfl (hb hby d1_43) rfl ?_
    show Steps _ _ _ (s₁.setTop (mkF m 44 #[vR a1, vI 1, vR a1, vI 2, vI 0, vI f0_, .unset, .unset] [iI 1])) _
    refine XS.iload X0.here hx rfl (hb hby d1_44) rfl ?_
    show Steps _ _ _ (s₁.setTop (mkF m 46 #[vR a1, vI 1, vR a1, vI 2, vI 0, vI f0_, .unset, .unset] [iI f0_, iI 1])) _
    refine XS.iconst X0.here hx rfl (hb hby d1_46) ?_
    show Steps _ _ _ (s₁.setTop (mkF m 47 #[vR a1, vI 1, vR a1, vI 2, vI 0, vI f0_, .unset, .unset] [iI 3, iI f0_, iI 1])) _
    refine XS.iadd X0.here hx rfl (hb hby d1_47) rfl ?_
    show Steps _ _ _ (s₁.setTop (mkF m 48 #[vR a1, vI 1, vR a1, vI 2, vI 0, vI f0_, .unset, .unset] [iI (f0_ + (3 : Int32)), iI 1])) _
    refine XS.iconst X0.here hx rfl (hb hby d1_48) ?_
    show Steps _ _ _ (s₁.setTop (mkF m 49 #[vR a1, vI 1, vR a1, vI 2, vI 0, vI f0_, .unset, .unset] [iI 4, iI (f0_ + (3 : Int32)), iI 1])) _
    refine XS.idiv X0.here hx rfl (hb hby d1_49) rfl (by decide) ?_
    show Steps _ _ _ (s₁.setTop (mkF m 50 #[vR a1, vI 1, vR a1, vI 2, vI 0, vI f0_, .unset, .unset] [iI ((f0_ + (3 : Int32)) / (4 : Int32)), iI 1])) _
    refine st4 _ ?_
    show Steps _ _ _ (T4.setTop (mkF m 53 #[vR a1, vI 1, vR a1, vI 2, vI 0, vI f0_, .unset, .unset] [iI (own_len1 f0_)])) _
    refine XS.istoreN X4.here hx rfl (hb hby d1_53) rfl (l' := #[vR a1, vI (own_len1 f0_), vR a1, vI 2, vI 0, vI f0_, .unset, .unset]) rfl ?_
    show Steps _ _ _ (T4.setTop (mkF m 54 #[vR a1, vI (own_len1 f0_), vR a1, vI 2, vI 0, vI f0_, .unset, .unset] [])) _
    refine XS.iinc X4.here hx rfl (hb hby d1_54) rfl (l' := #[vR a1, vI (own_len1 f0_), vR a1, vI 2, vI ((0 : Int32) + (1 : Int32)), vI f0_, .unset, .unset]) rfl ?_
    rw [(by decide : ((0 : Int32) + (1 : Int32)) = (1 : Int32))]
    show Steps _ _ _ (T4.setTop (mkF m 57 #[vR a1, vI (own_len1 f0_), vR a1, vI 2, vI 1, vI f0_, .unset, .unset] [])) _
    refine XS.goto X4.here hx rfl (pc0 := 57) (pc' := 10) rfl (hb hby d1_57) (by decide) (by decide) ?_
    show Steps _ _ _ (T4.setTop (mkF m 10 #[vR a1, vI (own_len1 f0_), vR a1, vI 2, vI 1, vI f0_, .unset, .unset] [])) _
    refine XS.iload X4.here hx rfl (hb hby d1_10) rfl ?_
    show Steps _ _ _ (T4.setTop (mkF m 12 #[vR a1, vI (own_len1 f0_), vR a1, vI 2, vI 1, vI f0_, .unset, .unset] [iI 1])) _
    refine XS.iloadN X4.here hx rfl (hb hby d1_12) rfl ?_
    show Steps _ _ _ (T4.setTop (mkF m 13 #[vR a1, vI (own_len1 f0_), vR a1, vI 2, vI 1, vI f0_, .unset, .unset] [iI 2, iI 1])) _
    refine XS.icmpNo X4.here hx rfl (hb hby d1_13) rfl (tlt (by decide : (1 : Int32) < (2 : Int32))).2.1 ?_
    show Steps _ _ _ (T4.setTop (mkF m 16 #[vR a1, vI (own_len1 f0_), vR a1, vI 2, vI 1, vI f0_, .unset, .unset] [])) _
    refine XS.aloadN X4.here hx rfl (hb hby d1_16) rfl rfl ?_
    show Steps _ _ _ (T4.setTop (mkF m 17 #[vR a1, vI (own_len1 f0_), vR a1, vI 2, vI 1, vI f0_, .unset, .unset] [iR a1])) _
    refine XS.iload X4.here hx rfl (hb hby d1_17) rfl ?_
    show Steps _ _ _ (T4.setTop (mkF m 19 #[vR a1, vI (own_len1 f0_), vR a1, vI 2, vI 1, vI f0_, .unset, .unset] [iI 1, iR a1])) _
    refine X4.iaload hx (j := (1 : Int32)) (v := (.int f1_)) (by rw [e4]; exact Ar1.1) (State.isArrayOf_alike hZ.alike Ar1.2.1) Ar1.2.2 hin5 hat6 (g := (mkF m 19 #[vR a1, vI (own_len1 f0_), vR a1, vI 2, vI 1, vI f0_, .unset, .unset] [iI 1, iR a1])) rfl rfl (hb hby d1_19) _ ?_
    show Steps _ _ _ (T4.setTop (mkF m 20 #[vR a1, vI (own_len1 f0_), vR a1, vI 2, vI 1, vI f0_, .unset, .unset] [iI f1_])) _
    refine XS.istore X4.here hx rfl (hb hby d1_20) rfl (l' := #[vR a1, vI (own_len1 f0_), vR a1, vI 2, vI 1, vI f1_, .unset, .unset]) rfl ?_
    show Steps _ _ _ (T4.setTop (mkF m 22 #[vR a1, vI (own_len1 f0_), vR a1, vI 2, vI 1, vI f1_, .unset, .unset] [])) _
    refine XS.iload X4.here hx rfl (hb hby d1_22) rfl ?_
    show Steps _ _ _ (T4.setTop (mkF m 24 #[vR a1, vI (own_len1 f0_), vR a1, vI 2, vI 1, vI f1_, .unset, .unset] [iI f1_])) _
    refine XS.iconst X4.here hx rfl (hb hby d1_24) ?_
    show Steps _ _ _ (T4.setTop (mkF m 25 #[vR a1, vI (own_len1 f0_), vR a1, vI 2, vI 1, vI f1_, .unset, .unset] [iI 1, iI f1_])) _
    refine XS.icmpYes X4.here hx rfl (pc0 := 25) (pc' := 43) rfl (hb hby d1_25) rfl (flt hf1.1).2.1 (by decide) (by decide) ?_
    show Steps _ _ _ (T4.setTop (mkF m 43 #[vR a1, vI (own_len1 f0_), vR a1, vI 2, vI 1, vI f1_, .unset, .unset] [])) _
    refine XS.iloadN X4.here hx rfl (hb hby d1_43) rfl ?_
    show Steps _ _ _ (T4.setTop (mkF m 44 #[vR a1, vI (own_len1 f0_), vR a1, vI 2, vI 1, vI f1_, .unset, .unset] [iI (own_len1 f0_)])) _
    refine XS.iload X4.here hx rfl (hb hby d1_44) rfl ?_
    show Steps _ _ _ (T4.setTop (mkF m 46 #[vR a1, vI (own_len1 f0_), vR a1, vI 2, vI 1, vI f1_, .unset, .unset] [iI f1_, iI (own_len1 f0_)])) _
    refine XS.iconst X4.here hx rfl (hb hby d1_46) ?_
    show Steps _ _ _ (T4.setTop (mkF m 47 #[vR a1, vI (own_len1 f0_), vR a1, vI 2, vI 1, vI f1_, .unset, .unset] [iI 3, iI f1_, iI (own_len1 f0_)])) _
    refine XS.iadd X4.here hx rfl (hb hby d1_47) rfl ?_
    show Steps _ _ _ (T4.setTop (mkF m 48 #[vR a1, vI (own_len1 f0_), vR a1, vI 2, vI 1, vI f1_, .unset, .unset] [iI (f1_ + (3 : Int32)), iI (own_len1 f0_)])) _
    refine XS.iconst X4.here hx rfl (hb hby d1_48) ?_
    show Steps _ _ _ (T4.setTop (mkF m 49 #[vR a1, vI (own_len1 f0_), vR a1, vI 2, vI 1, vI f1_, .unset, .unset] [iI 4, iI (f1_ + (3 : Int32)), iI (own_len1 f0_)])) _
    refine XS.idiv X4.here hx rfl (hb hby d1_49) rfl (by decide) ?_
    show Steps _ _ _ (T4.setTop (mkF m 50 #[vR a1, vI (own_len1 f0_), vR a1, vI 2, vI 1, vI f1_, .unset, .unset] [iI ((f1_ + (3 : Int32)) / (4 : Int32)), iI (own_len1 f0_)])) _
    refine st7 _ ?_
    show Steps _ _ _ (T7.setTop (mkF m 53 #[vR a1, vI (own_len1 f0_), vR a1, vI 2, vI 1, vI f1_, .unset, .unset] [iI (own_len2 f0_ f1_)])) _
    refine XS.istoreN X7.here hx rfl (hb hby d1_53) rfl (l' := #[vR a1, vI (own_len2 f0_ f1_), vR a1, vI 2, vI 1, vI f1_, .unset, .unset]) rfl ?_
    show Steps _ _ _ (T7.setTop (mkF m 54 #[vR a1, vI (own_len2 f0_ f1_), vR a1, vI 2, vI 1, vI f1_, .unset, .unset] [])) _
    refine XS.iinc X7.here hx rfl (hb hby d1_54) rfl (l' := #[vR a1, vI (own_len2 f0_ f1_), vR a1, vI 2, vI ((1 : Int32) + (1 : Int32)), vI f1_, .unset, .unset]) rfl ?_
    rw [(by decide : ((1 : Int32) + (1 : Int32)) = (2 : Int32))]
    show Steps _ _ _ (T7.setTop (mkF m 57 #[vR a1, vI (own_len2 f0_ f1_), vR a1, vI 2, vI 2, vI f1_, .unset, .unset] [])) _
    refine XS.goto X7.here hx rfl (pc0 := 57) (pc' := 10) rfl (hb hby d1_57) (by decide) (by decide) ?_
    show Steps _ _ _ (T7.setTop (mkF m 10 #[vR a1, vI (own_len2 f0_ f1_), vR a1, vI 2, vI 2, vI f1_, .unset, .unset] [])) _
    refine XS.iload X7.here hx rfl (hb hby d1_10) rfl ?_
    show Steps _ _ _ (T7.setTop (mkF m 12 #[vR a1, vI (own_len2 f0_ f1_), vR a1, vI 2, vI 2, vI f1_, .unset, .unset] [iI 2])) _
    refine XS.iloadN X7.here hx rfl (hb hby d1_12) rfl ?_
    show Steps _ _ _ (T7.setTop (mkF m 13 #[vR a1, vI (own_len2 f0_ f1_), vR a1, vI 2, vI 2, vI f1_, .unset, .unset] [iI 2, iI 2])) _
    refine XS.icmpYes X7.here hx rfl (pc0 := 13) (pc' := 60) rfl (hb hby d1_13) rfl (flt (by decide : ¬ ((2 : Int32) < (2 : Int32)))).2.1 (by decide) (by decide) ?_
    show Steps _ _ _ (T7.setTop (mkF m 60 #[vR a1, vI (own_len2 f0_ f1_), vR a1, vI 2, vI 2, vI f1_, .unset, .unset] [])) _
    refine XS.iloadN X7.here hx rfl (hb hby d1_60) rfl ?_
    show Steps _ _ _ (T7.setTop (mkF m 61 #[vR a1, vI (own_len2 f0_ f1_), vR a1, vI 2, vI 2, vI f1_, .unset, .unset] [iI (own_len2 f0_ f1_)])) _
    refine st8 _ ?_
    show Steps _ _ _ (T8.setTop (mkF m 63 #[vR a1, vI (own_len2 f0_ f1_), vR a1, vI 2, vI 2, vI f1_, .unset, .unset] [iR b8])) _
    refine XS.astoreN X8.here hx rfl (hb hby d1_63) rfl rfl (l' := #[vR a1, vI (own_len2 f0_ f1_), vR b8, vI 2, vI 2, vI f1_, .unset, .unset]) rfl ?_
    show Steps _ _ _ (T8.setTop (mkF m 64 #[vR a1, vI (own_len2 f0_ f1_), vR b8, vI 2, vI 2, vI f1_, .unset, .unset] [])) _
    refine XS.aloadN X8.here hx rfl (hb hby d1_64) rfl rfl ?_
    show Steps _ _ _ (T8.setTop (mkF m 65 #[vR a1, vI (own_len2 f0_ f1_), vR b8, vI 2, vI 2, vI f1_, .unset, .unset] [iR a1])) _
    refine XS.astoreN X8.here hx rfl (hb hby d1_65) rfl rfl (l' := #[vR a1, vI (own_len2 f0_ f1_), vR b8, vR a1, vI 2, vI f1_, .unset, .unset]) rfl ?_
    show Steps _ _ _ (T8.setTop (mkF m 66 #[vR a1, vI (own_len2 f0_ f1_), vR b8, vR a1, vI 2, vI f1_, .unset, .unset] [])) _
    refine XS.aloadN X8.here hx rfl (hb hby d1_66) rfl rfl ?_
    show Steps _ _ _ (T8.setTop (mkF m 67 #[vR a1, vI (own_len2 f0_ f1_), vR b8, vR a1, vI 2, vI f1_, .unset, .unset] [iR a1])) _
    refine X8.arraylength hx (by rw [e8]; exact Ar10.1) (State.isArrayOf_alike hZ.alike Ar10.2.1) (g := (mkF m 67 #[vR a1, vI (own_len2 f0_ f1_), vR b8, vR a1, vI 2, vI f1_, .unset, .unset] [iR a1])) rfl rfl (hb hby d1_67) _ ?_
    rw [len_of S10 M10]
    show Steps _ _ _ (T8.setTop (mkF m 68 #[vR a1, vI (own_len2 f0_ f1_), vR b8, vR a1, vI 2, vI f1_, .unset, .unset] [iI 2])) _
    refine XS.istore X8.here hx rfl (hb hby d1_68) rfl (l' := #[vR a1, vI (own_len2 f0_ f1_), vR b8, vR a1, vI 2, vI f1_, .unset, .unset]) rfl ?_
    show Steps _ _ _ (T8.setTop (mkF m 70 #[vR a1, vI (own_len2 f0_ f1_), vR b8, vR a1, vI 2, vI f1_, .unset, .unset] [])) _
    refine XS.iconst X8.here hx rfl (hb hby d1_70) ?_
    show Steps _ _ _ (T8.setTop (mkF m 71 #[vR a1, vI (own_len2 f0_ f1_), vR b8, vR a1, vI 2, vI f1_, .unset, .unset] [iI 0])) _
    refine XS.istore X8.here hx rfl (hb hby d1_71) rfl (l' := #[vR a1, vI (own_len2 f0_ f1_), vR b8, vR a1, vI 2, vI 0, .unset, .unset]) rfl ?_
    show Steps _ _ _ (T8.setTop (mkF m 73 #[vR a1, vI (own_len2 f0_ f1_), vR b8, vR a1, vI 2, vI 0, .unset, .unset] [])) _
    refine XS.iload X8.here hx rfl (hb hby d1_73) rfl ?_
    show Steps _ _ _ (T8.setTop (mkF m 75 #[vR a1, vI (own_len2 f0_ f1_), vR b8, vR a1, vI 2, vI 0, .unset, .unset] [iI 0])) _
    refine XS.iload X8.here hx rfl (hb hby d1_75) rfl ?_
    show Steps _ _ _ (T8.setTop (mkF m 77 #[vR a1, vI (own_len2 f0_ f1_), vR b8, vR a1, vI 2, vI 0, .unset, .unset] [iI 2, iI 0])) _
    refine XS.icmpNo X8.here hx rfl (hb hby d1_77) rfl (tlt (by decide : (0 : Int32) < (2 : Int32))).2.1 ?_
    show Steps _ _ _ (T8.setTop (mkF m 80 #[vR a1, vI (own_len2 f0_ f1_), vR b8, vR a1, vI 2, vI 0, .unset, .unset] [])) _
    refine XS.aloadN X8.here hx rfl (hb hby d1_80) rfl rfl ?_
    show Steps _ _ _ (T8.setTop (mkF m 81 #[vR a1, vI (own_len2 f0_ f1_), vR b8, vR a1, vI 2, vI 0, .unset, .unset] [iR a1])) _
    refine XS.iload X8.here hx rfl (hb hby d1_81) rfl ?_
    show Steps _ _ _ (T8.setTop (mkF m 83 #[vR a1, vI (own_len2 f0_ f1_), vR b8, vR a1, vI 2, vI 0, .unset, .unset] [iI 0, iR a1])) _
    refine X8.iaload hx (j := (0 : Int32)) (v := (.int f0_)) (by rw [e8]; exact Ar10.1) (State.isArrayOf_alike hZ.alike Ar10.2.1) Ar10.2.2 hin11 hat12 (g := (mkF m 83 #[vR a1, vI (own_len2 f0_ f1_), vR b8, vR a1, vI 2, vI 0, .unset, .unset] [iI 0, iR a1])) rfl rfl (hb hby d1_83) _ ?_
    show Steps _ _ _ (T8.setTop (mkF m 84 #[vR a1, vI (own_len2 f0_ f1_), vR b8, vR a1, vI 2, vI 0, .unset, .unset] [iI f0_])) _
    refine XS.istore X8.here hx rfl (hb hby d1_84) rfl (l' := #[vR a1, vI (own_len2 f0_ f1_), vR b8, vR a1, vI 2, vI 0, vI f0_, .unset]) rfl ?_
    show Steps _ _ _ (T8.setTop (mkF m 86 #[vR a1, vI (own_len2 f0_ f1_), vR b8, vR a1, vI 2, vI 0, vI f0_, .unset] [])) _
    refine XS.aloadN X8.here hx rfl (hb hby d1_86) rfl rfl ?_
    show Steps _ _ _ (T8.setTop (mkF m 87 #[vR a1, vI (own_len2 f0_ f1_), vR b8, vR a1, vI 2, vI 0, vI f0_, .unset] [iR b8])) _
    refine XS.iloadN X8.here hx rfl (hb hby d1_87) rfl ?_
    show Steps _ _ _ (T8.setTop (mkF m 88 #[vR a1, vI (own_len2 f0_ f1_), vR b8, vR a1, vI 2, vI 0, vI f0_, .unset] [iI (own_len2 f0_ f1_), iR b8])) _
    refine XS.iconst X8.here hx rfl (hb hby d1_88) ?_
    show Steps _ _ _ (T8.setTop (mkF m 89 #[vR a1, vI (own_len2 f0_ f1_), vR b8, vR a1, vI 2, vI 0, vI f0_, .unset] [iI 1, iI (own_len2 f0_ f1_), iR b8])) _
    refine XS.isub X8.here hx rfl (hb hby d1_89) rfl ?_
    show Steps _ _ _ (T8.setTop (mkF m 90 #[vR a1, vI (own_len2 f0_ f1_), vR b8, vR a1, vI 2, vI 0, vI f0_, .unset] [iI ((own_len2 f0_ f1_) - (1 : Int32)), iR b8])) _
    refine XS.iload X8.here hx rfl (hb hby d1_90) rfl ?_
    show Steps _ _ _ (T8.setTop (mkF m 92 #[vR a1, vI (own_len2 f0_ f1_), vR b8, vR a1, vI 2, vI 0, vI f0_, .unset] [iI f0_, iI ((own_len2 f0_ f1_) - (1 : Int32)), iR b8])) _
    refine XS.iconst X8.here hx rfl (hb hby d1_92) ?_
    show Steps _ _ _ (T8.setTop (mkF m 93 #[vR a1, vI (own_len2 f0_ f1_), vR b8, vR a1, vI 2, vI 0, vI f0_, .unset] [iI 1, iI f0_, iI ((own_len2 f0_ f1_) - (1 : Int32)), iR b8])) _
    refine XS.isub X8.here hx rfl (hb hby d1_93) rfl ?_
    show Steps _ _ _ (T8.setTop (mkF m 94 #[vR a1, vI (own_len2 f0_ f1_), vR b8, vR a1, vI 2, vI 0, vI f0_, .unset] [iI (f0_ - (1 : Int32)), iI ((own_len2 f0_ f1_) - (1 : Int32)), iR b8])) _
    refine XS.iconst X8.here hx rfl (hb hby d1_94) ?_
    show Steps _ _ _ (T8.setTop (mkF m 95 #[vR a1, vI (own_len2 f0_ f1_), vR b8, vR a1, vI 2, vI 0, vI f0_, .unset] [iI 4, iI (f0_ - (1 : Int32)), iI ((own_len2 f0_ f1_) - (1 : Int32)), iR b8])) _
    refine XS.idiv X8.here hx rfl (hb hby d1_95) rfl (by decide) ?_
    show Steps _ _ _ (T8.setTop (mkF m 96 #[vR a1, vI (own_len2 f0_ f1_), vR b8, vR a1, vI 2, vI 0, vI f0_, .unset] [iI ((f0_ - (1 : Int32)) / (4 : Int32)), iI ((own_len2 f0_ f1_) - (1 : Int32)), iR b8])) _
    refine XS.isub X8.here hx rfl (hb hby d1_96) rfl ?_
    show Steps _ _ _ (T8.setTop (mkF m 97 #[vR a1, vI (own_len2 f0_ f1_), vR b8, vR a1, vI 2, vI 0, vI f0_, .unset] [iI (((own_len2 f0_ f1_) - (1 : Int32)) - ((f0_ - (1 : Int32)) / (4 : Int32))), iR b8])) _
    refine XT.dup2 X8.here hx rfl (hb hby d1_97) rfl rfl rfl ?_
    show Steps _ _ _ (T8.setTop (mkF m 98 #[vR a1, vI (own_len2 f0_ f1_), vR b8, vR a1, vI 2, vI 0, vI f0_, .unset] [iI (((own_len2 f0_ f1_) - (1 : Int32)) - ((f0_ - (1 : Int32)) / (4 : Int32))), iR b8, iI (((own_len2 f0_ f1_) - (1 : Int32)) - ((f0_ - (1 : Int32)) / (4 : Int32))), iR b8])) _
    refine X8.iaload hx (j := (((own_len2 f0_ f1_) - (1 : Int32)) - ((f0_ - (1 : Int32)) / (4 : Int32)))) (v := (.int (own_R2_0 f0_ f1_))) (by rw [e8]; exact Ar13.1) (State.isArrayOf_alike hZ.alike Ar13.2.1) Ar13.2.2 hin14 hat15 (g := (mkF m 98 #[vR a1, vI (own_len2 f0_ f1_), vR b8, vR a1, vI 2, vI 0, vI f0_, .unset] [iI (((own_len2 f0_ f1_) - (1 : Int32)) - ((f0_ - (1 : Int32)) / (4 : Int32))), iR b8, iI (((own_len2 f0_ f1_) - (1 : Int32)) - ((f0_ - (1 : Int32)) / (4 : Int32))), iR b8])) rfl rfl (hb hby d1_98) _ ?_
    show Steps _ _ _ (T8.setTop (mkF m 99 #[vR a1, vI (own_len2 f0_ f1_), vR b8, vR a1, vI 2, vI 0, vI f0_, .unset] [iI (own_R2_0 f0_ f1_), iI (((own_len2 f0_ f1_) - (1 : Int32)) - ((f0_ - (1 : Int32)) / (4 : Int32))), iR b8])) _
    refine XS.iconst X8.here hx rfl (hb hby d1_99) ?_
    show Steps _ _ _ (T8.setTop (mkF m 100 #[vR a1, vI (own_len2 f0_ f1_), vR b8, vR a1, vI 2, vI 0, vI f0_, .unset] [iI 1, iI (own_R2_0 f0_ f1_), iI (((own_len2 f0_ f1_) - (1 : Int32)) - ((f0_ - (1 : Int32)) / (4 : Int32))), iR b8])) _
    refine XS.iload X8.here hx rfl (hb hby d1_100) rfl ?_
    show Steps _ _ _ (T8.setTop (mkF m 102 #[vR a1, vI (own_len2 f0_ f1_), vR b8, vR a1, vI 2, vI 0, vI f0_, .unset] [iI f0_, iI 1, iI (own_R2_0 f0_ f1_), iI (((own_len2 f0_ f1_) - (1 : Int32)) - ((f0_ - (1 : Int32)) / (4 : Int32))), iR b8])) _
    refine XS.iconst X8.here hx rfl (hb hby d1_102) ?_
    show Steps _ _ _ (T8.setTop (mkF m 103 #[vR a1, vI (own_len2 f0_ f1_), vR b8, vR a1, vI 2, vI 0, vI f0_, .unset] [iI 1, iI f0_, iI 1, iI (own_R2_0 f0_ f1_), iI (((own_len2 f0_ f1_) - (1 : Int32)) - ((f0_ - (1 : Int32)) / (4 : Int32))), iR b8])) _
    refine XS.isub X8.here hx rfl (hb hby d1_103) rfl ?_
    show Steps _ _ _ (T8.setTop (mkF m 104 #[vR a1, vI (own_len2 f0_ f1_), vR b8, vR a1, vI 2, vI 0, vI f0_, .unset] [iI (f0_ - (1 : Int32)), iI 1, iI (own_R2_0 f0_ f1_), iI (((own_len2 f0_ f1_) - (1 : Int32)) - ((f0_ - (1 : Int32)) / (4 : Int32))), iR b8])) _
    refine XS.iconst X8.here hx rfl (hb hby d1_104) ?_
    show Steps _ _ _ (T8.setTop (mkF m 105 #[vR a1, vI (own_len2 f0_ f1_), vR b8, vR a1, vI 2, vI 0, vI f0_, .unset] [iI 4, iI (f0_ - (1 : Int32)), iI 1, iI (own_R2_0 f0_ f1_), iI (((own_len2 f0_ f1_) - (1 : Int32)) - ((f0_ - (1 : Int32)) / (4 : Int32))), iR b8])) _
    refine iremM X8 hx rfl (hb hby d1_105) rfl (by decide) ?_
    show Steps _ _ _ (T8.setTop (mkF m 106 #[vR a1, vI (own_len2 f0_ f1_), vR b8, vR a1, vI 2, vI 0, vI f0_, .unset] [iI ((f0_ - (1 : Int32)) % (4 : Int32)), iI 1, iI (own_R2_0 f0_ f1_), iI (((own_len2 f0_ f1_) - (1 : Int32)) - ((f0_ - (1 : Int32)) / (4 : Int32))), iR b8])) _
    refine XS.ishl X8.here hx rfl (hb hby d1_106) rfl ?_
    show Steps _ _ _ (T8.setTop (mkF m 107 #[vR a1, vI (own_len2 f0_ f1_), vR b8, vR a1, vI 2, vI 0, vI f0_, .unset] [iI ((1 : Int32) <<< (((f0_ - (1 : Int32)) % (4 : Int32)) &&& 31)), iI (own_R2_0 f0_ f1_), iI (((own_len2 f0_ f1_) - (1 : Int32)) - ((f0_ - (1 : Int32)) / (4 : Int32))), iR b8])) _
    refine XS.ior X8.here hx rfl (hb hby d1_107) rfl ?_
    show Steps _ _ _ (T8.setTop (mkF m 108 #[vR a1, vI (own_len2 f0_ f1_), vR b8, vR a1, vI 2, vI 0, vI f0_, .unset] [iI ((own_R2_0 f0_ f1_) ||| ((1 : Int32) <<< (((f0_ - (1 : Int32)) % (4 : Int32)) &&& 31))), iI (((own_len2 f0_ f1_) - (1 : Int32)) - ((f0_ - (1 : Int32)) / (4 : Int32))), iR b8])) _
    refine st17 _ ?_
    show Steps _ _ _ (T17.setTop (mkF m 109 #[vR a1, vI (own_len2 f0_ f1_), vR b8, vR a1, vI 2, vI 0, vI f0_, .unset] [])) _
    refine XS.iinc X17.here hx rfl (hb hby d1_109) rfl (l' := #[vR a1, vI (own_len2 f0_ f1_), vR b8, vR a1, vI 2, vI ((0 : Int32) + (1 : Int32)), vI f0_, .unset]) rfl ?_
    rw [(by decide : ((0 : Int32) + (1 : Int32)) = (1 : Int32))]
    show Steps _ _ _ (T17.setTop (mkF m 112 #[vR a1, vI (own_len2 f0_ f1_), vR b8, vR a1, vI 2, vI 1, vI f0_, .unset] [])) _
    refine XS.goto X17.here hx rfl (pc0 := 112) (pc' := 73) rfl (hb hby d1_112) (by decide) (by decide) ?_
    show Steps _ _ _ (T17.setTop (mkF m 73 #[vR a1, vI (own_len2 f0_ f1_), vR b8, vR a1, vI 2, vI 1, vI f0_, .unset] [])) _
    refine XS.iload X17.here hx rfl (hb hby d1_73) rfl ?_
    show Steps _ _ _ (T17.setTop (mkF m 75 #[vR a1, vI (own_len2 f0_ f1_), vR b8, vR a1, vI 2, vI 1, vI f0_, .unset] [iI 1])) _
    refine XS.iload X17.here hx rfl (hb hby d1_75) rfl ?_
    show Steps _ _ _ (T17.setTop (mkF m 77 #[vR a1, vI (own_len2 f0_ f1_), vR b8, vR a1, vI 2, vI 1, vI f0_, .unset] [iI 2, iI 1])) _
    refine XS.icmpNo X17.here hx rfl (hb hby d1_77) rfl (tlt (by decide : (1 : Int32) < (2 : Int32))).2.1 ?_
    show Steps _ _ _ (T17.setTop (mkF m 80 #[vR a1, vI (own_len2 f0_ f1_), vR b8, vR a1, vI 2, vI 1, vI f0_, .unset] [])) _
    refine XS.aloadN X17.here hx rfl (hb hby d1_80) rfl rfl ?_
    show Steps _ _ _ (T17.setTop (mkF m 81 #[vR a1, vI (own_len2 f0_ f1_), vR b8, vR a1, vI 2, vI 1, vI f0_, .unset] [iR a1])) _
    refine XS.iload X17.here hx rfl (hb hby d1_81) rfl ?_
    show Steps _ _ _ (T17.setTop (mkF m 83 #[vR a1, vI (own_len2 f0_ f1_), vR b8, vR a1, vI 2, vI 1, vI f0_, .unset] [iI 1, iR a1])) _
    refine X17.iaload hx (j := (1 : Int32)) (v := (.int f1_)) (by rw [e17]; exact Ar19.1) (State.isArrayOf_alike hZ.alike Ar19.2.1) Ar19.2.2 hin20 hat21 (g := (mkF m 83 #[vR a1, vI (own_len2 f0_ f1_), vR b8, vR a1, vI 2, vI 1, vI f0_, .unset] [iI 1, iR a1])) rfl rfl (hb hby d1_83) _ ?_
    show Steps _ _ _ (T17.setTop (mkF m 84 #[vR a1, vI (own_len2 f0_ f1_), vR b8, vR a1, vI 2, vI 1, vI f0_, .unset] [iI f1_])) _
    refine XS.istore X17.here hx rfl (hb hby d1_84) rfl (l' := #[vR a1, vI (own_len2 f0_ f1_), vR b8, vR a1, vI 2, vI 1, vI f1_, .unset]) rfl ?_
    show Steps _ _ _ (T17.setTop (mkF m 86 #[vR a1, vI (own_len2 f0_ f1_), vR b8, vR a1, vI 2, vI 1, vI f1_, .unset] [])) _
    refine XS.aloadN X17.here hx rfl (hb hby d1_86) rfl rfl ?_
    show Steps _ _ _ (T17.setTop (mkF m 87 #[vR a1, vI (own_len2 f0_ f1_), vR b8, vR a1, vI 2, vI 1, vI f1_, .unset] [iR b8])) _
    refine XS.iloadN X17.here hx rfl (hb hby d1_87) rfl ?_
    show Steps _ _ _ (T17.setTop (mkF m 88 #[vR a1, vI (own_len2 f0_ f1_), vR b8, vR a1, vI 2, vI 1, vI f1_, .unset] [iI (own_len2 f0_ f1_), iR b8])) _
    refine XS.iconst X17.here hx rfl (hb hby d1_88) ?_
    show Steps _ _ _ (T17.setTop (mkF m 89 #[vR a1, vI (own_len2 f0_ f1_), vR b8, vR a1, vI 2, vI 1, vI f1_, .unset] [iI 1, iI (own_len2 f0_ f1_), iR b8])) _
    refine XS.isub X17.here hx rfl (hb hby d1_89) rfl ?_
    show Steps _ _ _ (T17.setTop (mkF m 90 #[vR a1, vI (own_len2 f0_ f1_), vR b8, vR a1, vI 2, vI 1, vI f1_, .unset] [iI ((own_len2 f0_ f1_) - (1 : Int32)), iR b8])) _
    refine XS.iload X17.here hx rfl (hb hby d1_90) rfl ?_
    show Steps _ _ _ (T17.setTop (mkF m 92 #[vR a1, vI (own_len2 f0_ f1_), vR b8, vR a1, vI 2, vI 1, vI f1_, .unset] [iI f1_, iI ((own_len2 f0_ f1_) - (1 : Int32)), iR b8])) _
    refine XS.iconst X17.here hx rfl (hb hby d1_92) ?_
    show Steps _ _ _ (T17.setTop (mkF m 93 #[vR a1, vI (own_len2 f0_ f1_), vR b8, vR a1, vI 2, vI 1, vI f1_, .unset] [iI 1, iI f1_, iI ((own_len2 f0_ f1_) - (1 : Int32)), iR b8])) _
    refine XS.isub X17.here hx rfl (hb hby d1_93) rfl ?_
    show Steps _ _ _ (T17.setTop (mkF m 94 #[vR a1, vI (own_len2 f0_ f1_), vR b8, vR a1, vI 2, vI 1, vI f1_, .unset] [iI (f1_ - (1 : Int32)), iI ((own_len2 f0_ f1_) - (1 : Int32)), iR b8])) _
    refine XS.iconst X17.here hx rfl (hb hby d1_94) ?_
    show Steps _ _ _ (T17.setTop (mkF m 95 #[vR a1, vI (own_len2 f0_ f1_), vR b8, vR a1, vI 2, vI 1, vI f1_, .unset] [iI 4, iI (f1_ - (1 : Int32)), iI ((own_len2 f0_ f1_) - (1 : Int32)), iR b8])) _
    refine XS.idiv X17.here hx rfl (hb hby d1_95) rfl (by decide) ?_
    show Steps _ _ _ (T17.setTop (mkF m 96 #[vR a1, vI (own_len2 f0_ f1_), vR b8, vR a1, vI 2, vI 1, vI f1_, .unset] [iI ((f1_ - (1 : Int32)) / (4 : Int32)), iI ((own_len2 f0_ f1_) - (1 : Int32)), iR b8])) _
    refine XS.isub X17.here hx rfl (hb hby d1_96) rfl ?_
    show Steps _ _ _ (T17.setTop (mkF m 97 #[vR a1, vI (own_len2 f0_ f1_), vR b8, vR a1, vI 2, vI 1, vI f1_, .unset] [iI (((own_len2 f0_ f1_) - (1 : Int32)) - ((f1_ - (1 : Int32)) / (4 : Int32))), iR b8])) _
    refine XT.dup2 X17.here hx rfl (hb hby d1_97) rfl rfl rfl ?_
    show Steps _ _ _ (T17.setTop (mkF m 98 #[vR a1, vI (own_len2 f0_ f1_), vR b8, vR a1, vI 2, vI 1, vI f1_, .unset] [iI (((own_len2 f0_ f1_) - (1 : Int32)) - ((f1_ - (1 : Int32)) / (4 : Int32))), iR b8, iI (((own_len2 f0_ f1_) - (1 : Int32)) - ((f1_ - (1 : Int32)) / (4 : Int32))), iR b8])) _
    refine X17.iaload hx (j := (((own_len2 f0_ f1_) - (1 : Int32)) - ((f1_ - (1 : Int32)) / (4 : Int32)))) (v := (.int (own_R2_1 f0_ f1_))) (by rw [e17]; exact Ar22.1) (State.isArrayOf_alike hZ.alike Ar22.2.1) Ar22.2.2 hin23 hat24 (g := (mkF m 98 #[vR a1, vI (own_len2 f0_ f1_), vR b8, vR a1, vI 2, vI 1, vI f1_, .unset] [iI (((own_len2 f0_ f1_) - (1 : Int32)) - ((f1_ - (1 : Int32)) / (4 : Int32))), iR b8, iI (((own_len2 f0_ f1_) - (1 : Int32)) - ((f1_ - (1 : Int32)) / (4 : Int32))), iR b8])) rfl rfl (hb hby d1_98) _ ?_
    show Steps _ _ _ (T17.setTop (mkF m 99 #[vR a1, vI (own_len2 f0_ f1_), vR b8, vR a1, vI 2, vI 1, vI f1_, .unset] [iI (own_R2_1 f0_ f1_), iI (((own_len2 f0_ f1_) - (1 : Int32)) - ((f1_ - (1 : Int32)) / (4 : Int32))), iR b8])) _
    refine XS.iconst X17.here hx rfl (hb hby d1_99) ?_
    show Steps _ _ _ (T17.setTop (mkF m 100 #[vR a1, vI (own_len2 f0_ f1_), vR b8, vR a1, vI 2, vI 1, vI f1_, .unset] [iI 1, iI (own_R2_1 f0_ f1_), iI (((own_len2 f0_ f1_) - (1 : Int32)) - ((f1_ - (1 : Int32)) / (4 : Int32))), iR b8])) _
    refine XS.iload X17.here hx rfl (hb hby d1_100) rfl ?_
    show Steps _ _ _ (T17.setTop (mkF m 102 #[vR a1, vI (own_len2 f0_ f1_), vR b8, vR a1, vI 2, vI 1, vI f1_, .unset] [iI f1_, iI 1, iI (own_R2_1 f0_ f1_), iI (((own_len2 f0_ f1_) - (1 : Int32)) - ((f1_ - (1 : Int32)) / (4 : Int32))), iR b8])) _
    refine XS.iconst X17.here hx rfl (hb hby d1_102) ?_
    show Steps _ _ _ (T17.setTop (mkF m 103 #[vR a1, vI (own_len2 f0_ f1_), vR b8, vR a1, vI 2, vI 1, vI f1_, .unset] [iI 1, iI f1_, iI 1, iI (own_R2_1 f0_ f1_), iI (((own_len2 f0_ f1_) - (1 : Int32)) - ((f1_ - (1 : Int32)) / (4 : Int32))), iR b8])) _
    refine XS.isub X17.here hx rfl (hb hby d1_103) rfl ?_
    show Steps _ _ _ (T17.setTop (mkF m 104 #[vR a1, vI (own_len2 f0_ f1_), vR b8, vR a1, vI 2, vI 1, vI f1_, .unset] [iI (f1_ - (1 : Int32)), iI 1, iI (own_R2_1 f0_ f1_), iI (((own_len2 f0_ f1_) - (1 : Int32)) - ((f1_ - (1 : Int32)) / (4 : Int32))), iR b8])) _
    refine XS.iconst X17.here hx rfl (hb hby d1_104) ?_
    show Steps _ _ _ (T17.setTop (mkF m 105 #[vR a1, vI (own_len2 f0_ f1_), vR b8, vR a1, vI 2, vI 1, vI f1_, .unset] [iI 4, iI (f1_ - (1 : Int32)), iI 1, iI (own_R2_1 f0_ f1_), iI (((own_len2 f0_ f1_) - (1 : Int32)) - ((f1_ - (1 : Int32)) / (4 : Int32))), iR b8])) _
    refine iremM X17 hx rfl (hb hby d1_105) rfl (by decide) ?_
    show Steps _ _ _ (T17.setTop (mkF m 106 #[vR a1, vI (own_len2 f0_ f1_), vR b8, vR a1, vI 2, vI 1, vI f1_, .unset] [iI ((f1_ - (1 : Int32)) % (4 : Int32)), iI 1, iI (own_R2_1 f0_ f1_), iI (((own_len2 f0_ f1_) - (1 : Int32)) - ((f1_ - (1 : Int32)) / (4 : Int32))), iR b8])) _
    refine XS.ishl X17.here hx rfl (hb hby d1_106) rfl ?_
    show Steps _ _ _ (T17.setTop (mkF m 107 #[vR a1, vI (own_len2 f0_ f1_), vR b8, vR a1, vI 2, vI 1, vI f1_, .unset] [iI ((1 : Int32) <<< (((f1_ - (1 : Int32)) % (4 : Int32)) &&& 31)), iI (own_R2_1 f0_ f1_), iI (((own_len2 f0_ f1_) - (1 : Int32)) - ((f1_ - (1 : Int32)) / (4 : Int32))), iR b8])) _
    refine XS.ior X17.here hx rfl (hb hby d1_107) rfl ?_
    show Steps _ _ _ (T17.setTop (mkF m 108 #[vR a1, vI (own_len2 f0_ f1_), vR b8, vR a1, vI 2, vI 1, vI f1_, .unset] [iI ((own_R2_1 f0_ f1_) ||| ((1 : Int32) <<< (((f1_ - (1 : Int32)) % (4 : Int32)) &&& 31))), iI (((own_len2 f0_ f1_) - (1 : Int32)) - ((f1_ - (1 : Int32)) / (4 : Int32))), iR b8])) _
    refine st26 _ ?_
    show Steps _ _ _ (T26.setTop (mkF m 109 #[vR a1, vI (own_len2 f0_ f1_), vR b8, vR a1, vI 2, vI 1, vI f1_, .unset] [])) _
    refine XS.iinc X26.here hx rfl (hb hby d1_109) rfl (l' := #[vR a1, vI (own_len2 f0_ f1_), vR b8, vR a1, vI 2, vI ((1 : Int32) + (1 : Int32)), vI f1_, .unset]) rfl ?_
    rw [(by decide : ((1 : Int32) + (1 : Int32)) = (2 : Int32))]
    show Steps _ _ _ (T26.setTop (mkF m 112 #[vR a1, vI (own_len2 f0_ f1_), vR b8, vR a1, vI 2, vI 2, vI f1_, .unset] [])) _
    refine XS.goto X26.here hx rfl (pc0 := 112) (pc' := 73) rfl (hb hby d1_112) (by decide) (by decide) ?_
    show Steps _ _ _ (T26.setTop (mkF m 73 #[vR a1, vI (own_len2 f0_ f1_), vR b8, vR a1, vI 2, vI 2, vI f1_, .unset] [])) _
    refine XS.iload X26.here hx rfl (hb hby d1_73) rfl ?_
    show Steps _ _ _ (T26.setTop (mkF m 75 #[vR a1, vI (own_len2 f0_ f1_), vR b8, vR a1, vI 2, vI 2, vI f1_, .unset] [iI 2])) _
    refine XS.iload X26.here hx rfl (hb hby d1_75) rfl ?_
    show Steps _ _ _ (T26.setTop (mkF m 77 #[vR a1, vI (own_len2 f0_ f1_), vR b8, vR a1, vI 2, vI 2, vI f1_, .unset] [iI 2, iI 2])) _
    refine XS.icmpYes X26.here hx rfl (pc0 := 77) (pc' := 115) rfl (hb hby d1_77) rfl (flt (by decide : ¬ ((2 : Int32) < (2 : Int32)))).2.1 (by decide) (by decide) ?_
    exact kt
  obtain ⟨s₂, o₂, hs₂, hr₂⟩ := own_tail1 (nn := (2 : Int32)) (ff := f1_) X26 hx hZ hw hby hml hown Bd.returns (by first | assumption | exact BodyLoose.notSynchronized (by assumption) | exact Body.notSynchronized (by assumption)) e26 K26 N26 Z0 O0 V26 g_b8 sz_b8 hL.1 hL.2.1 hL.2.2 S_CS h_cs
  exact ⟨s₂, o₂, pre27 _ hs₂, hr₂⟩
theorem ef_1_3 (m : MethodId) (x0 : Addr) : entryFrame m #[(.ref x0)] 8 = mkF m 0 #[.val (.ref x0), .unset, .unset, .unset, .unset, .unset, .unset, .unset] [] := by first | (simp [entryFrame, mkF, argsToLocals, Value.category]; done) | rfl
def Q1_3 (Z : State) (a1 : Addr) (ka : ClassId) (f0_ : Int32) (f1_ : Int32) (f2_ : Int32) (cs : Int32) (h0 : Heap) (n0 : Nat) (v : Option Value) (h : Heap) (L : List Loc) : Prop := own_QT Z (own_len3 f0_ f1_ f2_) (own_C3_3 f0_ f1_ f2_ (0 : Int32)) (own_C3_3 f0_ f1_ f2_ (1 : Int32)) (own_C3_3 f0_ f1_ f2_ (2 : Int32)) (own_C3_3 f0_ f1_ f2_ (3 : Int32)) (own_C3_3 f0_ f1_ f2_ (4 : Int32)) (own_C3_3 f0_ f1_ f2_ (5 : Int32)) (own_C3_3 f0_ f1_ f2_ (6 : Int32)) (own_C3_3 f0_ f1_ f2_ (7 : Int32)) h0 n0 v h L
set_option maxRecDepth 65536 in
set_option maxHeartbeats 40000000 in
theorem rm1_3 (l : Launch) (Z : State) (a0 : Array Value) (hw : ∀ d ∈ tables_1, d.before a0 Z = true) (ws : List Jvm.Cond) (a1 : Addr) (ka : ClassId) (f0_ : Int32) (f1_ : Int32) (f2_ : Int32) (cs : Int32) (h0 : Heap) (n0 : Nat) (Z0 : n0 ≤ h0.size) (O0 : Old Z n0 h0) (V_a : Arv Z h0 a1 ka .int (3 : Int32) [(.int f0_), (.int f1_), (.int f2_)] (.int (0 : Int32))) (hf0 : ¬ f0_ < (1 : Int32) ∧ ¬ (32 : Int32) < f0_) (hf1 : ¬ f1_ < (1 : Int32) ∧ ¬ (32 : Int32) < f1_) (hf2 : ¬ f2_ < (1 : Int32) ∧ ¬ (32 : Int32) < f2_) (S_CS : Sta Z Z.heap "java/lang/String" "COMPACT_STRINGS" "Z" (.int cs)) (h_cs : ¬ cs = (0 : Int32)) :
    MetFree l (⟨"com/example/cloud_to_core/cloudtocore/model/SupportedFeatures", "of", "([I)Ljava/lang/String;"⟩ : MethodName) (head1 (Jvm.Cond.code (⟨"com/example/cloud_to_core/cloudtocore/model/SupportedFeatures", "of", "([I)Ljava/lang/String;"⟩ : MethodName) prog_29_method_3_code 8 (some (.object "java/lang/String")) :: ws) ({ frames := 5, cells := 5, slots := 32, locals := 71 } : Room)) (fun a U => a = #[(.ref a1)] ∧ Z.Warmed39 U.vm ∧ U.heap = h0) (fun _ _ _ _ _ => True) (fun _ U o U' => ∃ v L, o = .returned v ∧ Q1_3 Z a1 ka f0_ f1_ f2_ cs h0 n0 v U'.heap L ∧ FrameEnd U o U' L ({ frames := 5, cells := 5, slots := 32, locals := 71 } : Room).cells ({ frames := 5, cells := 5, slots := 32, locals := 71 } : Room).slots) := by
  refine MetFree.of_bodySF (plainFor_of_name pn_8) hisR ?_
  intro p e s m args below meth c s₁ Bd hml0 hP hK
  obtain ⟨rfl, hZ, hh⟩ := hP
  have hx := Bd.exec
  have hby := Bd.bytes
  have hml : c.maxLocals = 8 := hml0
  have hown : s.vm.findClass "com/example/cloud_to_core/cloudtocore/model/SupportedFeatures" = some m.cls := findClass_of_methodNamed Bd.named
  have hnm := (name_of_methodNamed Bd.named Bd.method).1
  have X0 : Stand p l e ({ frames := 5, cells := 5, slots := 32, locals := 71 } : Room) s m #[(.ref a1)] below meth c s₁ [] 0 0 := Stand.of_body Bd
  have e0 : s₁.heap = h0 := by rw [← hh, Bd.state]; rfl
  have N0 := Fr.nil n0
  have K0 := Keep.refl h0 []
  have pre0 : ∀ t, Steps p.tables e below (s₁.setTop (mkF m 0 #[.val (.ref a1), .unset, .unset, .unset, .unset, .unset, .unset, .unset] [])) t → Steps p.tables e below (s₁.setTop (entryFrame m #[(.ref a1)] 8)) t := fun t k => castTop (ef_1_3 m a1) k
  obtain ⟨cl1, Ar1, q1, S1, M1, H1, G1⟩ := id V_a
  have hin2 : ¬ ((0 : Int32) < 0 ∨ cl1.slots.size ≤ ((0 : Int32)).toNatClampNeg) := inb_of S1 ⟨by decide, by decide⟩
  have hat3 : cl1.slots[((0 : Int32)).toNatClampNeg]? = some (.int f0_) := Has.at H1 hin2 rfl
  obtain ⟨_, _, ⟨T4, L4, k4, n4⟩, -, X4, ⟨Lc4, hQ4, l4, y4, z4⟩, st4⟩ := Jvm.LawKit.callS X0 hx (y := (⟨"java/lang/Math", "max", "(II)I"⟩ : MethodName)) hown (mvT hZ (hw _ (List.mem_of_getElem? (i := 154) rfl))) (mvT hZ (hw _ (List.mem_of_getElem? (i := 155) rfl))) (mvT hZ (hw _ (List.mem_of_getElem? (i := 156) rfl))) (mvT hZ (hw _ (List.mem_of_getElem? (i := 157) rfl))) (by decide) (backOf (W := 0) (rm28 l Z a0 hw [] (1 : Int32) ((f0_ + (3 : Int32)) / (4 : Int32)) h0 ) hZ (hw _ (List.mem_of_getElem? (i := 157) rfl)) (hw _ (List.mem_of_getElem? (i := 156) rfl)) (by decide) (by decide)) (g := (mkF m 50 #[vR a1, vI 1, vR a1, vI 3, vI 0, vI f0_, .unset, .unset] [iI ((f0_ + (3 : Int32)) / (4 : Int32)), iI 1])) rfl (by rw [hml]; rfl) (argsL := [(.int (1 : Int32)), (.int ((f0_ + (3 : Int32)) / (4 : Int32)))]) (rest := []) (lenOf pd_16 rfl) rfl (by show 2 * 0 + _ ≤ _; exact Nat.le_of_eq rfl) (hb hby d1_50) (fun _ _ => ⟨rfl, e0, (by decide : 0 + 0 ≤ _), (by decide : 0 + 0 ≤ _)⟩)
  dsimp only [Pt.U, Pt.locs, Pt.cells, Pt.slots] at X4 l4 y4 z4 st4 hQ4
  subst l4 y4 z4
  obtain ⟨rfl, rfl, e4⟩ := hQ4
  try rw [List.append_nil] at X4
  have hin5 : ¬ ((1 : Int32) < 0 ∨ cl1.slots.size ≤ ((1 : Int32)).toNatClampNeg) := inb_of S1 ⟨by decide, by decide⟩
  have hat6 : cl1.slots[((1 : Int32)).toNatClampNeg]? = some (.int f1_) := Has.at H1 hin5 rfl
  obtain ⟨_, _, ⟨T7, L7, k7, n7⟩, -, X7, ⟨Lc7, hQ7, l7, y7, z7⟩, st7⟩ := Jvm.LawKit.callS X4 hx (y := (⟨"java/lang/Math", "max", "(II)I"⟩ : MethodName)) hown (mvT hZ (hw _ (List.mem_of_getElem? (i := 154) rfl))) (mvT hZ (hw _ (List.mem_of_getElem? (i := 155) rfl))) (mvT hZ (hw _ (List.mem_of_getElem? (i := 156) rfl))) (mvT hZ (hw _ (List.mem_of_getElem? (i := 157) rfl))) (by decide) (backOf (W := 0) (rm28 l Z a0 hw [] (own_len1 f0_) ((f1_ + (3 : Int32)) / (4 : Int32)) h0 ) hZ (hw _ (List.mem_of_getElem? (i := 157) rfl)) (hw _ (List.mem_of_getElem? (i := 156) rfl)) (by decide) (by decide)) (g := (mkF m 50 #[vR a1, vI (own_len1 f0_), vR a1, vI 3, vI 1, vI f1_, .unset, .unset] [iI ((f1_ + (3 : Int32)) / (4 : Int32)), iI (own_len1 f0_)])) rfl (by rw [hml]; rfl) (argsL := [(.int (own_len1 f0_)), (.int ((f1_ + (3 : Int32)) / (4 : Int32)))]) (rest := []) (lenOf pd_16 rfl) rfl (by show 2 * 0 + _ ≤ _; exact Nat.le_of_eq rfl) (hb hby d1_50) (fun _ _ => ⟨rfl, e4, (by decide : 0 + 0 ≤ _), (by decide : 0 + 0 ≤ _)⟩)
  dsimp only [Pt.U, Pt.locs, Pt.cells, Pt.slots] at X7 l7 y7 z7 st7 hQ7
  subst l7 y7 z7
  obtain ⟨rfl, rfl, e7⟩ := hQ7
  try rw [List.append_nil] at X7
  have hin8 : ¬ ((2 : Int32) < 0 ∨ cl1.slots.size ≤ ((2 : Int32)).toNatClampNeg) := inb_of S1 ⟨by decide, by decide⟩
  have hat9 : cl1.slots[((2 : Int32)).toNatClampNeg]? = some (.int f2_) := Has.at H1 hin8 rfl
  obtain ⟨_, _, ⟨T10, L10, k10, n10⟩, -, X10, ⟨Lc10, hQ10, l10, y10, z10⟩, st10⟩ := Jvm.LawKit.callS X7 hx (y := (⟨"java/lang/Math", "max", "(II)I"⟩ : MethodName)) hown (mvT hZ (hw _ (List.mem_of_getElem? (i := 154) rfl))) (mvT hZ (hw _ (List.mem_of_getElem? (i := 155) rfl))) (mvT hZ (hw _ (List.mem_of_getElem? (i := 156) rfl))) (mvT hZ (hw _ (List.mem_of_getElem? (i := 157) rfl))) (by decide) (backOf (W := 0) (rm28 l Z a0 hw [] (own_len2 f0_ f1_) ((f2_ + (3 : Int32)) / (4 : Int32)) h0 ) hZ (hw _ (List.mem_of_getElem? (i := 157) rfl)) (hw _ (List.mem_of_getElem? (i := 156) rfl)) (by decide) (by decide)) (g := (mkF m 50 #[vR a1, vI (own_len2 f0_ f1_), vR a1, vI 3, vI 2, vI f2_, .unset, .unset] [iI ((f2_ + (3 : Int32)) / (4 : Int32)), iI (own_len2 f0_ f1_)])) rfl (by rw [hml]; rfl) (argsL := [(.int (own_len2 f0_ f1_)), (.int ((f2_ + (3 : Int32)) / (4 : Int32)))]) (rest := []) (lenOf pd_16 rfl) rfl (by show 2 * 0 + _ ≤ _; exact Nat.le_of_eq rfl) (hb hby d1_50) (fun _ _ => ⟨rfl, e7, (by decide : 0 + 0 ≤ _), (by decide : 0 + 0 ≤ _)⟩)
  dsimp only [Pt.U, Pt.locs, Pt.cells, Pt.slots] at X10 l10 y10 z10 st10 hQ10
  subst l10 y10 z10
  obtain ⟨rfl, rfl, e10⟩ := hQ10
  try rw [List.append_nil] at X10
  have hO := own_lenOK3 hf0 hf1 hf2
  have hL := own_lens hO.1 hO.2.1
  obtain ⟨T11, h11, k11, X11, e11, E11, A11, st11⟩ := newP X10 hx hZ (hw _ (List.mem_of_getElem? (i := 1) rfl)) e10 (g := (mkF m 61 #[vR a1, vI (own_len3 f0_ f1_ f2_), vR a1, vI 3, vI 3, vI f2_, .unset, .unset] [iI (own_len3 f0_ f1_ f2_)])) rfl (hb hby d1_61) rfl hL.1 (cap := 8) hL.2.1 (by decide) (by decide) (by decide)
  obtain ⟨b11, g11⟩ : ∃ z, z = h0.size := ⟨_, rfl⟩
  rw [← g11] at A11 st11
  have ne_a1_b11 : a1 ≠ b11 := Nat.ne_of_lt (Nat.lt_of_lt_of_le V_a.lt (Nat.le_of_eq g11.symm))
  have sz_b11 : h0.size ≤ b11 := Nat.le_trans K0.1 (Nat.le_of_eq g11.symm)
  have g_b11 : n0 ≤ b11 := Nat.le_trans Z0 sz_b11
  have K11 : Keep h0 h11 [] := K0.ext E11
  have V11 : Arv Z h11 b11 k11 .int (own_len3 f0_ f1_ f2_) [(.int (0 : Int32)), (.int (0 : Int32)), (.int (0 : Int32)), (.int (0 : Int32)), (.int (0 : Int32)), (.int (0 : Int32)), (.int (0 : Int32)), (.int (0 : Int32))] (.int (0 : Int32)) := (Arv.new A11 hL.1).pad (pad_rep [] (.int (0 : Int32)) 8)
  have fk12 := (V_a.ext E11)
  obtain ⟨cl13, Ar13, q13, S13, M13, H13, G13⟩ := id fk12
  have hin14 : ¬ ((0 : Int32) < 0 ∨ cl13.slots.size ≤ ((0 : Int32)).toNatClampNeg) := inb_of S13 ⟨by decide, by decide⟩
  have hat15 : cl13.slots[((0 : Int32)).toNatClampNeg]? = some (.int f0_) := Has.at H13 hin14 rfl
  obtain ⟨cl16, Ar16, q16, S16, M16, H16, G16⟩ := id V11
  have hin17 : ¬ ((((own_len3 f0_ f1_ f2_) - (1 : Int32)) - ((f0_ - (1 : Int32)) / (4 : Int32))) < 0 ∨ cl16.slots.size ≤ ((((own_len3 f0_ f1_ f2_) - (1 : Int32)) - ((f0_ - (1 : Int32)) / (4 : Int32)))).toNatClampNeg) := inb_of S16 ⟨(own_ix hf0 hO.2.2.1 hO.2.1).1, (own_ix hf0 hO.2.2.1 hO.2.1).2.1⟩
  have hat18 : cl16.slots[((((own_len3 f0_ f1_ f2_) - (1 : Int32)) - ((f0_ - (1 : Int32)) / (4 : Int32)))).toNatClampNeg]? = some (.int (own_R3_0 f0_ f1_ f2_)) := Has.at H16 hin17 (own_at8L (own_ix hf0 hO.2.2.1 hO.2.1).1 (own_ix hf0 hO.2.2.1 hO.2.1).2.2)
  have hin19 : ¬ ((((own_len3 f0_ f1_ f2_) - (1 : Int32)) - ((f0_ - (1 : Int32)) / (4 : Int32))) < 0 ∨ cl16.slots.size ≤ ((((own_len3 f0_ f1_ f2_) - (1 : Int32)) - ((f0_ - (1 : Int32)) / (4 : Int32)))).toNatClampNeg) := inb_of S16 ⟨(own_ix hf0 hO.2.2.1 hO.2.1).1, (own_ix hf0 hO.2.2.1 hO.2.1).2.1⟩
  obtain ⟨T20, h20, X20, e20, W20, st20⟩ := stI X11 hx hZ e11 Ar16 (j := (((own_len3 f0_ f1_ f2_) - (1 : Int32)) - ((f0_ - (1 : Int32)) / (4 : Int32)))) hin19 (g := (mkF m 108 #[vR a1, vI (own_len3 f0_ f1_ f2_), vR b11, vR a1, vI 3, vI 0, vI f0_, .unset] [iI ((own_R3_0 f0_ f1_ f2_) ||| ((1 : Int32) <<< (((f0_ - (1 : Int32)) % (4 : Int32)) &&& 31))), iI (((own_len3 f0_ f1_ f2_) - (1 : Int32)) - ((f0_ - (1 : Int32)) / (4 : Int32))), iR b11])) rfl rfl (hb hby d1_108)
  have V20 : Arv Z h20 b11 k11 .int (own_len3 f0_ f1_ f2_) [(.int (own_C3_1 f0_ f1_ f2_ (0 : Int32))), (.int (own_C3_1 f0_ f1_ f2_ (1 : Int32))), (.int (own_C3_1 f0_ f1_ f2_ (2 : Int32))), (.int (own_C3_1 f0_ f1_ f2_ (3 : Int32))), (.int (own_C3_1 f0_ f1_ f2_ (4 : Int32))), (.int (own_C3_1 f0_ f1_ f2_ (5 : Int32))), (.int (own_C3_1 f0_ f1_ f2_ (6 : Int32))), (.int (own_C3_1 f0_ f1_ f2_ (7 : Int32)))] (.int (0 : Int32)) := own_putV Ar16 q16 S16 M16 H16 G16 W20 (own_ix hf0 hO.2.2.1 hO.2.1).1 (own_ix hf0 hO.2.2.1 hO.2.1).2.2
  have K20 : Keep h0 h20 [] := K11.wr W20 (Or.inr sz_b11)
  have N20 := Fr.snoc X20 N0 g_b11
  have fk21 := (fk12.other W20 ne_a1_b11)
  obtain ⟨cl22, Ar22, q22, S22, M22, H22, G22⟩ := id fk21
  have hin23 : ¬ ((1 : Int32) < 0 ∨ cl22.slots.size ≤ ((1 : Int32)).toNatClampNeg) := inb_of S22 ⟨by decide, by decide⟩
  have hat24 : cl22.slots[((1 : Int32)).toNatClampNeg]? = some (.int f1_) := Has.at H22 hin23 rfl
  obtain ⟨cl25, Ar25, q25, S25, M25, H25, G25⟩ := id V20
  have hin26 : ¬ ((((own_len3 f0_ f1_ f2_) - (1 : Int32)) - ((f1_ - (1 : Int32)) / (4 : Int32))) < 0 ∨ cl25.slots.size ≤ ((((own_len3 f0_ f1_ f2_) - (1 : Int32)) - ((f1_ - (1 : Int32)) / (4 : Int32)))).toNatClampNeg) := inb_of S25 ⟨(own_ix hf1 hO.2.2.2.1 hO.2.1).1, (own_ix hf1 hO.2.2.2.1 hO.2.1).2.1⟩
  have hat27 : cl25.slots[((((own_len3 f0_ f1_ f2_) - (1 : Int32)) - ((f1_ - (1 : Int32)) / (4 : Int32)))).toNatClampNeg]? = some (.int (own_R3_1 f0_ f1_ f2_)) := Has.at H25 hin26 (own_at8L (own_ix hf1 hO.2.2.2.1 hO.2.1).1 (own_ix hf1 hO.2.2.2.1 hO.2.1).2.2)
  have hin28 : ¬ ((((own_len3 f0_ f1_ f2_) - (1 : Int32)) - ((f1_ - (1 : Int32)) / (4 : Int32))) < 0 ∨ cl25.slots.size ≤ ((((own_len3 f0_ f1_ f2_) - (1 : Int32)) - ((f1_ - (1 : Int32)) / (4 : Int32)))).toNatClampNeg) := inb_of S25 ⟨(own_ix hf1 hO.2.2.2.1 hO.2.1).1, (own_ix hf1 hO.2.2.2.1 hO.2.1).2.1⟩
  obtain ⟨T29, h29, X29, e29, W29, st29⟩ := stI X20 hx hZ e20 Ar25 (j := (((own_len3 f0_ f1_ f2_) - (1 : Int32)) - ((f1_ - (1 : Int32)) / (4 : Int32)))) hin28 (g := (mkF m 108 #[vR a1, vI (own_len3 f0_ f1_ f2_), vR b11, vR a1, vI 3, vI 1, vI f1_, .unset] [iI ((own_R3_1 f0_ f1_ f2_) ||| ((1 : Int32) <<< (((f1_ - (1 : Int32)) % (4 : Int32)) &&& 31))), iI (((own_len3 f0_ f1_ f2_) - (1 : Int32)) - ((f1_ - (1 : Int32)) / (4 : Int32))), iR b11])) rfl rfl (hb hby d1_108)
  have V29 : Arv Z h29 b11 k11 .int (own_len3 f0_ f1_ f2_) [(.int (own_C3_2 f0_ f1_ f2_ (0 : Int32))), (.int (own_C3_2 f0_ f1_ f2_ (1 : Int32))), (.int (own_C3_2 f0_ f1_ f2_ (2 : Int32))), (.int (own_C3_2 f0_ f1_ f2_ (3 : Int32))), (.int (own_C3_2 f0_ f1_ f2_ (4 : Int32))), (.int (own_C3_2 f0_ f1_ f2_ (5 : Int32))), (.int (own_C3_2 f0_ f1_ f2_ (6 : Int32))), (.int (own_C3_2 f0_ f1_ f2_ (7 : Int32)))] (.int (0 : Int32)) := own_putV Ar25 q25 S25 M25 H25 G25 W29 (own_ix hf1 hO.2.2.2.1 hO.2.1).1 (own_ix hf1 hO.2.2.2.1 hO.2.1).2.2
  have K29 : Keep h0 h29 [] := K20.wr W29 (Or.inr sz_b11)
  have N29 := Fr.snoc X29 N20 g_b11
  have fk30 := (fk21.other W29 ne_a1_b11)
  obtain ⟨cl31, Ar31, q31, S31, M31, H31, G31⟩ := id fk30
  have hin32 : ¬ ((2 : Int32) < 0 ∨ cl31.slots.size ≤ ((2 : Int32)).toNatClampNeg) := inb_of S31 ⟨by decide, by decide⟩
  have hat33 : cl31.slots[((2 : Int32)).toNatClampNeg]? = some (.int f2_) := Has.at H31 hin32 rfl
  obtain ⟨cl34, Ar34, q34, S34, M34, H34, G34⟩ := id V29
  have hin35 : ¬ ((((own_len3 f0_ f1_ f2_) - (1 : Int32)) - ((f2_ - (1 : Int32)) / (4 : Int32))) < 0 ∨ cl34.slots.size ≤ ((((own_len3 f0_ f1_ f2_) - (1 : Int32)) - ((f2_ - (1 : Int32)) / (4 : Int32)))).toNatClampNeg) := inb_of S34 ⟨(own_ix hf2 hO.2.2.2.2 hO.2.1).1, (own_ix hf2 hO.2.2.2.2 hO.2.1).2.1⟩
  have hat36 : cl34.slots[((((own_len3 f0_ f1_ f2_) - (1 : Int32)) - ((f2_ - (1 : Int32)) / (4 : Int32)))).toNatClampNeg]? = some (.int (own_R3_2 f0_ f1_ f2_)) := Has.at H34 hin35 (own_at8L (own_ix hf2 hO.2.2.2.2 hO.2.1).1 (own_ix hf2 hO.2.2.2.2 hO.2.1).2.2)
  have hin37 : ¬ ((((own_len3 f0_ f1_ f2_) - (1 : Int32)) - ((f2_ - (1 : Int32)) / (4 : Int32))) < 0 ∨ cl34.slots.size ≤ ((((own_len3 f0_ f1_ f2_) - (1 : Int32)) - ((f2_ - (1 : Int32)) / (4 : Int32)))).toNatClampNeg) := inb_of S34 ⟨(own_ix hf2 hO.2.2.2.2 hO.2.1).1, (own_ix hf2 hO.2.2.2.2 hO.2.1).2.1⟩
  obtain ⟨T38, h38, X38, e38, W38, st38⟩ := stI X29 hx hZ e29 Ar34 (j := (((own_len3 f0_ f1_ f2_) - (1 : Int32)) - ((f2_ - (1 : Int32)) / (4 : Int32)))) hin37 (g := (mkF m 108 #[vR a1, vI (own_len3 f0_ f1_ f2_), vR b11, vR a1, vI 3, vI 2, vI f2_, .unset] [iI ((own_R3_2 f0_ f1_ f2_) ||| ((1 : Int32) <<< (((f2_ - (1 : Int32)) % (4 : Int32)) &&& 31))), iI (((own_len3 f0_ f1_ f2_) - (1 : Int32)) - ((f2_ - (1 : Int32)) / (4 : Int32))), iR b11])) rfl rfl (hb hby d1_108)
  have V38 : Arv Z h38 b11 k11 .int (own_len3 f0_ f1_ f2_) [(.int (own_C3_3 f0_ f1_ f2_ (0 : Int32))), (.int (own_C3_3 f0_ f1_ f2_ (1 : Int32))), (.int (own_C3_3 f0_ f1_ f2_ (2 : Int32))), (.int (own_C3_3 f0_ f1_ f2_ (3 : Int32))), (.int (own_C3_3 f0_ f1_ f2_ (4 : Int32))), (.int (own_C3_3 f0_ f1_ f2_ (5 : Int32))), (.int (own_C3_3 f0_ f1_ f2_ (6 : Int32))), (.int (own_C3_3 f0_ f1_ f2_ (7 : Int32)))] (.int (0 : Int32)) := own_putV Ar34 q34 S34 M34 H34 G34 W38 (own_ix hf2 hO.2.2.2.2 hO.2.1).1 (own_ix hf2 hO.2.2.2.2 hO.2.1).2.2
  have K38 : Keep h0 h38 [] := K29.wr W38 (Or.inr sz_b11)
  have N38 := Fr.snoc X38 N29 g_b11
  have pre39 : ∀ t, Steps p.tables e below (T38.setTop (mkF m 115 #[vR a1, vI (own_len3 f0_ f1_ f2_), vR b11, vR a1, vI 3, vI 3, vI f2_, .unset] [])) t → Steps p.tables e below (s₁.setTop (entryFrame m #[(.ref a1)] 8)) t := by
    intro t kt
    refine pre0 t ?_
    show Steps _ _ _ (s₁.setTop (mkF m 0 #[vR a1, .unset, .unset, .unset, .unset, .unset, .unset, .unset] [])) _
    refine XS.iconst X0.here hx rfl (hb hby d1_0) ?_
    show Steps _ _ _ (s₁.setTop (mkF m 1 #[vR a1, .unset, .unset, .unset, .unset, .unset, .unset, .unset] [iI 1])) _
    refine XS.istoreN X0.here hx rfl (hb hby d1_1) rfl (l' := #[vR a1, vI 1, .unset, .unset, .unset, .unset, .unset, .unset]) rfl ?_
    show Steps _ _ _ (s₁.setTop (mkF m 2 #[vR a1, vI 1, .unset, .unset, .unset, .unset, .unset, .unset] [])) _
    refine XS.aloadN X0.here hx rfl (hb hby d1_2) rfl rfl ?_
    show Steps _ _ _ (s₁.setTop (mkF m 3 #[vR a1, vI 1, .unset, .unset, .unset, .unset, .unset, .unset] [iR a1])) _
    refine XS.astoreN X0.here hx rfl (hb hby d1_3) rfl rfl (l' := #[vR a1, vI 1, vR a1, .unset, .unset, .unset, .unset, .unset]) rfl ?_
    show Steps _ _ _ (s₁.setTop (mkF m 4 #[vR a1, vI 1, vR a1, .unset, .unset, .unset, .unset, .unset] [])) _
    refine XS.aloadN X0.here hx rfl (hb hby d1_4) rfl rfl ?_
    show Steps _ _ _ (s₁.setTop (mkF m 5 #[vR a1, vI 1, vR a1, .unset, .unset, .unset, .unset, .unset] [iR a1])) _
    refine X0.arraylength hx (by rw [e0]; exact Ar1.1) (State.isArrayOf_alike hZ.alike Ar1.2.1) (g := (mkF m 5 #[vR a1, vI 1, vR a1, .unset, .unset, .unset, .unset, .unset] [iR a1])) rfl rfl (hb hby d1_5) _ ?_
    rw [len_of S1 M1]
    show Steps _ _ _ (s₁.setTop (mkF m 6 #[vR a1, vI 1, vR a1, .unset, .unset, .unset, .unset, .unset] [iI 3])) _
    refine XS.istoreN X0.here hx rfl (hb hby d1_6) rfl (l' := #[vR a1, vI 1, vR a1, vI 3, .unset, .unset, .unset, .unset]) rfl ?_
    show Steps _ _ _ (s₁.setTop (mkF m 7 #[vR a1, vI 1, vR a1, vI 3, .unset, .unset, .unset, .unset] [])) _
    refine XS.iconst X0.here hx rfl (hb hby d1_7) ?_
    show Steps _ _ _ (s₁.setTop (mkF m 8 #[vR a1, vI 1, vR a1, vI 3, .unset, .unset, .unset, .unset] [iI 0])) _
    refine XS.istore X0.here hx rfl (hb hby d1_8) rfl (l' := #[vR a1, vI 1, vR a1, vI 3, vI 0, .unset, .unset, .unset]) rfl ?_
    show Steps _ _ _ (s₁.setTop (mkF m 10 #[vR a1, vI 1, vR a1, vI 3, vI 0, .unset, .unset, .unset] [])) _
    refine XS.iload X0.here hx rfl (hb hby d1_10) rfl ?_
    show Steps _ _ _ (s₁.setTop (mkF m 12 #[vR a1, vI 1, vR a1, vI 3, vI 0, .unset, .unset, .unset] [iI 0])) _
    refine XS.iloadN X0.here hx rfl (hb hby d1_12) rfl ?_
    show Steps _ _ _ (s₁.setTop (mkF m 13 #[vR a1, vI 1, vR a1, vI 3, vI 0, .unset, .unset, .unset] [iI 3, iI 0])) _
    refine XS.icmpNo X0.here hx rfl (hb hby d1_13) rfl (tlt (by decide : (0 : Int32) < (3 : Int32))).2.1 ?_
    show Steps _ _ _ (s₁.setTop (mkF m 16 #[vR a1, vI 1, vR a1, vI 3, vI 0, .unset, .unset, .unset] [])) _
    refine XS.aloadN X0.here hx rfl (hb hby d1_16) rfl rfl ?_
    show Steps _ _ _ (s₁.setTop (mkF m 17 #[vR a1, vI 1, vR a1, vI 3, vI 0, .unset, .unset, .unset] [iR a1])) _
    refine XS.iload X0.here hx rfl (hb hby d1_17) rfl ?_
    show Steps _ _ _ (s₁.setTop (mkF m 19 #[vR a1, vI 1, vR a1, vI 3, vI 0, .unset, .unset, .unset] [iI 0, iR a1])) _
    refine X0.iaload hx (j := (0 : Int32)) (v := (.int f0_)) (by rw [e0]; exact Ar1.1) (State.isArrayOf_alike hZ.alike Ar1.2.1) Ar1.2.2 hin2 hat3 (g := (mkF m 19 #[vR a1, vI 1, vR a1, vI 3, vI 0, .unset, .unset, .unset] [iI 0, iR a1])) rfl rfl (hb hby d1_19) _ ?_
    show Steps _ _ _ (s₁.setTop (mkF m 20 #[vR a1, vI 1, vR a1, vI 3, vI 0, .unset, .unset, .unset] [iI f0_])) _
    refine XS.istore X0.here hx rfl (hb hby d1_20) rfl (l' := #[vR a1, vI 1, vR a1, vI 3, vI 0, vI f0_, .unset, .unset]) rfl ?_
    show Steps _ _ _ (s₁.setTop (mkF m 22 #[vR a1, vI 1, vR a1, vI 3, vI 0, vI f0_, .unset, .unset] [])) _
    refine XS.iload X0.here hx rfl (hb hby d1_22) rfl ?_
    show Steps _ _ _ (s₁.setTop (mkF m 24 #[vR a1, vI 1, vR a1, vI 3, vI 0, vI f0_, .unset, .unset] [iI f0_])) _
    refine XS.iconst X0.here hx rfl (hb hby d1_24) ?_
    show Steps _ _ _ (s₁.setTop (mkF m 25 #[vR a1, vI 1, vR a1, vI 3, vI 0, vI f0_, .unset, .unset] [iI 1, iI f0_])) _
    refine XS.icmpYes X0.here hx rfl (pc0 := 25) (pc' := 43) rfl (hb hby d1_25) rfl (flt hf0.1).2.1 (by decide) (by decide) ?_
    show Steps _ _ _ (s₁.setTop (mkF m 43 #[vR a1, vI 1, vR a1, vI 3, vI 0, vI f0_, .unset, .unset] [])) _
    refine XS.iloadN X0.here hx rfl (hb hby d1_43) rfl ?_
    show Steps _ _ _ (s₁.setTop (mkF m 44 #[vR a1, vI 1, vR a1, vI 3, vI 0, vI f0_, .unset, .unset] [iI 1])) _
    refine XS.iload X0.here hx rfl (hb hby d1_44) rfl ?_
    show Steps _ _ _ (s₁.setTop (mkF m 46 #[vR a1, vI 1, vR a1, vI 3, vI 0, vI f0_, .unset, .unset] [iI f0_, iI 1])) _
    refine XS.iconst X0.here hx rfl (hb hby d1_46) ?_
    show Steps _ _ _ (s₁.setTop (mkF m 47 #[vR a1, vI 1, vR a1, vI 3, vI 0, vI f0_, .unset, .unset] [iI 3, iI f0_, iI 1])) _
    refine XS.iadd X0.here hx rfl (hb hby d1_47) rfl ?_
    show Steps _ _ _ (s₁.setTop (mkF m 48 #[vR a1, vI 1, vR a1, vI 3, vI 0, vI f0_, .unset, .unset] [iI (f0_ + (3 : Int32)), iI 1])) _
    refine XS.iconst X0.here hx rfl (hb hby d1_48) ?_
    show Steps _ _ _ (s₁.setTop (mkF m 49 #[vR a1, vI 1, vR a1, vI 3, vI 0, vI f0_, .unset, .unset] [iI 4, iI (f0_ + (3 : Int32)), iI 1])) _
    refine XS.idiv X0.here hx rfl (hb hby d1_49) rfl (by decide) ?_
    show Steps _ _ _ (s₁.setTop (mkF m 50 #[vR a1, vI 1, vR a1, vI 3, vI 0, vI f0_, .unset, .unset] [iI ((f0_ + (3 : Int32)) / (4 : Int32)), iI 1])) _
    refine st4 _ ?_
    show Steps _ _ _ (T4.setTop (mkF m 53 #[vR a1, vI 1, vR a1, vI 3, vI 0, vI f0_, .unset, .unset] [iI (own_len1 f0_)])) _
    refine XS.istoreN X4.here hx rfl (hb hby d1_53) rfl (l' := #[vR a1, vI (own_len1 f0_), vR a1, vI 3, vI 0, vI f0_, .unset, .unset]) rfl ?_
    show Steps _ _ _ (T4.setTop (mkF m 54 #[vR a1, vI (own_len1 f0_), vR a1, vI 3, vI 0, vI f0_, .unset, .unset] [])) _
    refine XS.iinc X4.here hx rfl (hb hby d1_54) rfl (l' := #[vR a1, vI (own_len1 f0_), vR a1, vI 3, vI ((0 : Int32) + (1 : Int32)), vI f0_, .unset, .unset]) rfl ?_
    rw [(by decide : ((0 : Int32) + (1 : Int32)) = (1 : Int32))]
    show Steps _ _ _ (T4.setTop (mkF m 57 #[vR a1, vI (own_len1 f0_), vR a1, vI 3, vI 1, vI f0_, .unset, .unset] [])) _
    refine XS.goto X4.here hx rfl (pc0 := 57) (pc' := 10) rfl (hb hby d1_57) (by decide) (by decide) ?_
    show Steps _ _ _ (T4.setTop (mkF m 10 #[vR a1, vI (own_len1 f0_), vR a1, vI 3, vI 1, vI f0_, .unset, .unset] [])) _
    refine XS.iload X4.here hx rfl (hb hby d1_10) rfl ?_
    show Steps _ _ _ (T4.setTop (mkF m 12 #[vR a1, vI (own_len1 f0_), vR a1, vI 3, vI 1, vI f0_, .unset, .unset] [iI 1])) _
    refine XS.iloadN X4.here hx rfl (hb hby d1_12) rfl ?_
    show Steps _ _ _ (T4.setTop (mkF m 13 #[vR a1, vI (own_len1 f0_), vR a1, vI 3, vI 1, vI f0_, .unset, .unset] [iI 3, iI 1])) _
    refine XS.icmpNo X4.here hx rfl (hb hby d1_13) rfl (tlt (by decide : (1 : Int32) < (3 : Int32))).2.1 ?_
    show Steps _ _ _ (T4.setTop (mkF m 16 #[vR a1, vI (own_len1 f0_), vR a1, vI 3, vI 1, vI f0_, .unset, .unset] [])) _
    refine XS.aloadN X4.here hx rfl (hb hby d1_16) rfl rfl ?_
    show Steps _ _ _ (T4.setTop (mkF m 17 #[vR a1, vI (own_len1 f0_), vR a1, vI 3, vI 1, vI f0_, .unset, .unset] [iR a1])) _
    refine XS.iload X4.here hx rfl (hb hby d1_17) rfl ?_
    show Steps _ _ _ (T4.setTop (mkF m 19 #[vR a1, vI (own_len1 f0_), vR a1, vI 3, vI 1, vI f0_, .unset, .unset] [iI 1, iR a1])) _
    refine X4.iaload hx (j := (1 : Int32)) (v := (.int f1_)) (by rw [e4]; exact Ar1.1) (State.isArrayOf_alike hZ.alike Ar1.2.1) Ar1.2.2 hin5 hat6 (g := (mkF m 19 #[vR a1, vI (own_len1 f0_), vR a1, vI 3, vI 1, vI f0_, .unset, .unset] [iI 1, iR a1])) rfl rfl (hb hby d1_19) _ ?_
    show Steps _ _ _ (T4.setTop (mkF m 20 #[vR a1, vI (own_len1 f0_), vR a1, vI 3, vI 1, vI f0_, .unset, .unset] [iI f1_])) _
    refine XS.istore X4.here hx rfl (hb hby d1_20) rfl (l' := #[vR a1, vI (own_len1 f0_), vR a1, vI 3, vI 1, vI f1_, .unset, .unset]) rfl ?_
    show Steps _ _ _ (T4.setTop (mkF m 22 #[vR a1, vI (own_len1 f0_), vR a1, vI 3, vI 1, vI f1_, .unset, .unset] [])) _
    refine XS.iload X4.here hx rfl (hb hby d1_22) rfl ?_
    show Steps _ _ _ (T4.setTop (mkF m 24 #[vR a1, vI (own_len1 f0_), vR a1, vI 3, vI 1, vI f1_, .unset, .unset] [iI f1_])) _
    refine XS.iconst X4.here hx rfl (hb hby d1_24) ?_
    show Steps _ _ _ (T4.setTop (mkF m 25 #[vR a1, vI (own_len1 f0_), vR a1, vI 3, vI 1, vI f1_, .unset, .unset] [iI 1, iI f1_])) _
    refine XS.icmpYes X4.here hx rfl (pc0 := 25) (pc' := 43) rfl (hb hby d1_25) rfl (flt hf1.1).2.1 (by decide) (by decide) ?_
    show Steps _ _ _ (T4.setTop (mkF m 43 #[vR a1, vI (own_len1 f0_), vR a1, vI 3, vI 1, vI f1_, .unset, .unset] [])) _
    refine XS.iloadN X4.here hx rfl (hb hby d1_43) rfl ?_
    show Steps _ _ _ (T4.setTop (mkF m 44 #[vR a1, vI (own_len1 f0_), vR a1, vI 3, vI 1, vI f1_, .unset, .unset] [iI (own_len1 f0_)])) _
    refine XS.iload X4.here hx rfl (hb hby d1_44) rfl ?_
    show Steps _ _ _ (T4.setTop (mkF m 46 #[vR a1, vI (own_len1 f0_), vR a1, vI 3, vI 1, vI f1_, .unset, .unset] [iI f1_, iI (own_len1 f0_)])) _
    refine XS.iconst X4.here hx rfl (hb hby d1_46) ?_
    show Steps _ _ _ (T4.setTop (mkF m 47 #[vR a1, vI (own_len1 f0_), vR a1, vI 3, vI 1, vI f1_, .unset, .unset] [iI 3, iI f1_, iI (own_len1 f0_)])) _
    refine XS.iadd X4.here hx rfl (hb hby d1_47) rfl ?_
    show Steps _ _ _ (T4.setTop (mkF m 48 #[vR a1, vI (own_len1 f0_), vR a1, vI 3, vI 1, vI f1_, .unset, .unset] [iI (f1_ + (3 : Int32)), iI (own_len1 f0_)])) _
    refine XS.iconst X4.here hx rfl (hb hby d1_48) ?_
    show Steps _ _ _ (T4.setTop (mkF m 49 #[vR a1, vI (own_len1 f0_), vR a1, vI 3, vI 1, vI f1_, .unset, .unset] [iI 4, iI (f1_ + (3 : Int32)), iI (own_len1 f0_)])) _
    refine XS.idiv X4.here hx rfl (hb hby d1_49) rfl (by decide) ?_
    show Steps _ _ _ (T4.setTop (mkF m 50 #[vR a1, vI (own_len1 f0_), vR a1, vI 3, vI 1, vI f1_, .unset, .unset] [iI ((f1_ + (3 : Int32)) / (4 : Int32)), iI (own_len1 f0_)])) _
    refine st7 _ ?_
    show Steps _ _ _ (T7.setTop (mkF m 53 #[vR a1, vI (own_len1 f0_), vR a1, vI 3, vI 1, vI f1_, .unset, .unset] [iI (own_len2 f0_ f1_)])) _
    refine XS.istoreN X7.here hx rfl (hb hby d1_53) rfl (l' := #[vR a1, vI (own_len2 f0_ f1_), vR a1, vI 3, vI 1, vI f1_, .unset, .unset]) rfl ?_
    show Steps _ _ _ (T7.setTop (mkF m 54 #[vR a1, vI (own_len2 f0_ f1_), vR a1, vI 3, vI 1, vI f1_, .unset, .unset] [])) _
    refine XS.iinc X7.here hx rfl (hb hby d1_54) rfl (l' := #[vR a1, vI (own_len2 f0_ f1_), vR a1, vI 3, vI ((1 : Int32) + (1 : Int32)), vI f1_, .unset, .unset]) rfl ?_
    rw [(by decide : ((1 : Int32) + (1 : Int32)) = (2 : Int32))]
    show Steps _ _ _ (T7.setTop (mkF m 57 #[vR a1, vI (own_len2 f0_ f1_), vR a1, vI 3, vI 2, vI f1_, .unset, .unset] [])) _
    refine XS.goto X7.here hx rfl (pc0 := 57) (pc' := 10) rfl (hb hby d1_57) (by decide) (by decide) ?_
    show Steps _ _ _ (T7.setTop (mkF m 10 #[vR a1, vI (own_len2 f0_ f1_), vR a1, vI 3, vI 2, vI f1_, .unset, .unset] [])) _
    refine XS.iload X7.here hx rfl (hb hby d1_10) rfl ?_
    show Steps _ _ _ (T7.setTop (mkF m 12 #[vR a1, vI (own_len2 f0_ f1_), vR a1, vI 3, vI 2, vI f1_, .unset, .unset] [iI 2])) _
    refine XS.iloadN X7.here hx rfl (hb hby d1_12) rfl ?_
    show Steps _ _ _ (T7.setTop (mkF m 13 #[vR a1, vI (own_len2 f0_ f1_), vR a1, vI 3, vI 2, vI f1_, .unset, .unset] [iI 3, iI 2])) _
    refine XS.icmpNo X7.here hx rfl (hb hby d1_13) rfl (tlt (by decide : (2 : Int32) < (3 : Int32))).2.1 ?_
    show Steps _ _ _ (T7.setTop (mkF m 16 #[vR a1, vI (own_len2 f0_ f1_), vR a1, vI 3, vI 2, vI f1_, .unset, .unset] [])) _
    refine XS.aloadN X7.here hx rfl (hb hby d1_16) rfl rfl ?_
    show Steps _ _ _ (T7.setTop (mkF m 17 #[vR a1, vI (own_len2 f0_ f1_), vR a1, vI 3, vI 2, vI f1_, .unset, .unset] [iR a1])) _
    refine XS.iload X7.here hx rfl (hb hby d1_17) rfl ?_
    show Steps _ _ _ (T7.setTop (mkF m 19 #[vR a1, vI (own_len2 f0_ f1_), vR a1, vI 3, vI 2, vI f1_, .unset, .unset] [iI 2, iR a1])) _
    refine X7.iaload hx (j := (2 : Int32)) (v := (.int f2_)) (by rw [e7]; exact Ar1.1) (State.isArrayOf_alike hZ.alike Ar1.2.1) Ar1.2.2 hin8 hat9 (g := (mkF m 19 #[vR a1, vI (own_len2 f0_ f1_), vR a1, vI 3, vI 2, vI f1_, .unset, .unset] [iI 2, iR a1])) rfl rfl (hb hby d1_19) _ ?_
    show Steps _ _ _ (T7.setTop (mkF m 20 #[vR a1, vI (own_len2 f0_ f1_), vR a1, vI 3, vI 2, vI f1_, .unset, .unset] [iI f2_])) _
    refine XS.istore X7.here hx rfl (hb hby d1_20) rfl (l' := #[vR a1, vI (own_len2 f0_ f1_), vR a1, vI 3, vI 2, vI f2_, .unset, .unset]) rfl ?_
    show Steps _ _ _ (T7.setTop (mkF m 22 #[vR a1, vI (own_len2 f0_ f1_), vR a1, vI 3, vI 2, vI f2_, .unset, .unset] [])) _
    refine XS.iload X7.here hx rfl (hb hby d1_22) rfl ?_
    show Steps _ _ _ (T7.setTop (mkF m 24 #[vR a1, vI (own_len2 f0_ f1_), vR a1, vI 3, vI 2, vI f2_, .unset, .unset] [iI f2_])) _
    refine XS.iconst X7.here hx rfl (hb hby d1_24) ?_
    show Steps _ _ _ (T7.setTop (mkF m 25 #[vR a1, vI (own_len2 f0_ f1_), vR a1, vI 3, vI 2, vI f2_, .unset, .unset] [iI 1, iI f2_])) _
    refine XS.icmpYes X7.here hx rfl (pc0 := 25) (pc' := 43) rfl (hb hby d1_25) rfl (flt hf2.1).2.1 (by decide) (by decide) ?_
    show Steps _ _ _ (T7.setTop (mkF m 43 #[vR a1, vI (own_len2 f0_ f1_), vR a1, vI 3, vI 2, vI f2_, .unset, .unset] [])) _
    refine XS.iloadN X7.here hx rfl (hb hby d1_43) rfl ?_
    show Steps _ _ _ (T7.setTop (mkF m 44 #[vR a1, vI (own_len2 f0_ f1_), vR a1, vI 3, vI 2, vI f2_, .unset, .unset] [iI (own_len2 f0_ f1_)])) _
    refine XS.iload X7.here hx rfl (hb hby d1_44) rfl ?_
    show Steps _ _ _ (T7.setTop (mkF m 46 #[vR a1, vI (own_len2 f0_ f1_), vR a1, vI 3, vI 2, vI f2_, .unset, .unset] [iI f2_, iI (own_len2 f0_ f1_)])) _
    refine XS.iconst X7.here hx rfl (hb hby d1_46) ?_
    show Steps _ _ _ (T7.setTop (mkF m 47 #[vR a1, vI (own_len2 f0_ f1_), vR a1, vI 3, vI 2, vI f2_, .unset, .unset] [iI 3, iI f2_, iI (own_len2 f0_ f1_)])) _
    refine XS.iadd X7.here hx rfl (hb hby d1_47) rfl ?_
    show Steps _ _ _ (T7.setTop (mkF m 48 #[vR a1, vI (own_len2 f0_ f1_), vR a1, vI 3, vI 2, vI f2_, .unset, .unset] [iI (f2_ + (3 : Int32)), iI (own_len2 f0_ f1_)])) _
    refine XS.iconst X7.here hx rfl (hb hby d1_48) ?_
    show Steps _ _ _ (T7.setTop (mkF m 49 #[vR a1, vI (own_len2 f0_ f1_), vR a1, vI 3, vI 2, vI f2_, .unset, .unset] [iI 4, iI (f2_ + (3 : Int32)), iI (own_len2 f0_ f1_)])) _
    refine XS.idiv X7.here hx rfl (hb hby d1_49) rfl (by decide) ?_
    show Steps _ _ _ (T7.setTop (mkF m 50 #[vR a1, vI (own_len2 f0_ f1_), vR a1, vI 3, vI 2, vI f2_, .unset, .unset] [iI ((f2_ + (3 : Int32)) / (4 : Int32)), iI (own_len2 f0_ f1_)])) _
    refine st10 _ ?_
    show Steps _ _ _ (T10.setTop (mkF m 53 #[vR a1, vI (own_len2 f0_ f1_), vR a1, vI 3, vI 2, vI f2_, .unset, .unset] [iI (own_len3 f0_ f1_ f2_)])) _
    refine XS.istoreN X10.here hx rfl (hb hby d1_53) rfl (l' := #[vR a1, vI (own_len3 f0_ f1_ f2_), vR a1, vI 3, vI 2, vI f2_, .unset, .unset]) rfl ?_
    show Steps _ _ _ (T10.setTop (mkF m 54 #[vR a1, vI (own_len3 f0_ f1_ f2_), vR a1, vI 3, vI 2, vI f2_, .unset, .unset] [])) _
    refine XS.iinc X10.here hx rfl (hb hby d1_54) rfl (l' := #[vR a1, vI (own_len3 f0_ f1_ f2_), vR a1, vI 3, vI ((2 : Int32) + (1 : Int32)), vI f2_, .unset, .unset]) rfl ?_
    rw [(by decide : ((2 : Int32) + (1 : Int32)) = (3 : Int32))]
    show Steps _ _ _ (T10.setTop (mkF m 57 #[vR a1, vI (own_len3 f0_ f1_ f2_), vR a1, vI 3, vI 3, vI f2_, .unset, .unset] [])) _
    refine XS.goto X10.here hx rfl (pc0 := 57) (pc' := 10) rfl (hb hby d1_57) (by decide) (by decide) ?_
    show Steps _ _ _ (T10.setTop (mkF m 10 #[vR a1, vI (own_len3 f0_ f1_ f2_), vR a1, vI 3, vI 3, vI f2_, .unset, .unset] [])) _
    refine XS.iload X10.here hx rfl (hb hby d1_10) rfl ?_
    show Steps _ _ _ (T10.setTop (mkF m 12 #[vR a1, vI (own_len3 f0_ f1_ f2_), vR a1, vI 3, vI 3, vI f2_, .unset, .unset] [iI 3])) _
    refine XS.iloadN X10.here hx rfl (hb hby d1_12) rfl ?_
    show Steps _ _ _ (T10.setTop (mkF m 13 #[vR a1, vI (own_len3 f0_ f1_ f2_), vR a1, vI 3, vI 3, vI f2_, .unset, .unset] [iI 3, iI 3])) _
    refine XS.icmpYes X10.here hx rfl (pc0 := 13) (pc' := 60) rfl (hb hby d1_13) rfl (flt (by decide : ¬ ((3 : Int32) < (3 : Int32)))).2.1 (by decide) (by decide) ?_
    show Steps _ _ _ (T10.setTop (mkF m 60 #[vR a1, vI (own_len3 f0_ f1_ f2_), vR a1, vI 3, vI 3, vI f2_, .unset, .unset] [])) _
    refine XS.iloadN X10.here hx rfl (hb hby d1_60) rfl ?_
    show Steps _ _ _ (T10.setTop (mkF m 61 #[vR a1, vI (own_len3 f0_ f1_ f2_), vR a1, vI 3, vI 3, vI f2_, .unset, .unset] [iI (own_len3 f0_ f1_ f2_)])) _
    refine st11 _ ?_
    show Steps _ _ _ (T11.setTop (mkF m 63 #[vR a1, vI (own_len3 f0_ f1_ f2_), vR a1, vI 3, vI 3, vI f2_, .unset, .unset] [iR b11])) _
    refine XS.astoreN X11.here hx rfl (hb hby d1_63) rfl rfl (l' := #[vR a1, vI (own_len3 f0_ f1_ f2_), vR b11, vI 3, vI 3, vI f2_, .unset, .unset]) rfl ?_
    show Steps _ _ _ (T11.setTop (mkF m 64 #[vR a1, vI (own_len3 f0_ f1_ f2_), vR b11, vI 3, vI 3, vI f2_, .unset, .unset] [])) _
    refine XS.aloadN X11.here hx rfl (hb hby d1_64) rfl rfl ?_
    show Steps _ _ _ (T11.setTop (mkF m 65 #[vR a1, vI (own_len3 f0_ f1_ f2_), vR b11, vI 3, vI 3, vI f2_, .unset, .unset] [iR a1])) _
    refine XS.astoreN X11.here hx rfl (hb hby d1_65) rfl rfl (l' := #[vR a1, vI (own_len3 f0_ f1_ f2_), vR b11, vR a1, vI 3, vI f2_, .unset, .unset]) rfl ?_
    show Steps _ _ _ (T11.setTop (mkF m 66 #[vR a1, vI (own_len3 f0_ f1_ f2_), vR b11, vR a1, vI 3, vI f2_, .unset, .unset] [])) _
    refine XS.aloadN X11.here hx rfl (hb hby d1_66) rfl rfl ?_
    show Steps _ _ _ (T11.setTop (mkF m 67 #[vR a1, vI (own_len3 f0_ f1_ f2_), vR b11, vR a1, vI 3, vI f2_, .unset, .unset] [iR a1])) _
    refine X11.arraylength hx (by rw [e11]; exact Ar13.1) (State.isArrayOf_alike hZ.alike Ar13.2.1) (g := (mkF m 67 #[vR a1, vI (own_len3 f0_ f1_ f2_), vR b11, vR a1, vI 3, vI f2_, .unset, .unset] [iR a1])) rfl rfl (hb hby d1_67) _ ?_
    rw [len_of S13 M13]
    show Steps _ _ _ (T11.setTop (mkF m 68 #[vR a1, vI (own_len3 f0_ f1_ f2_), vR b11, vR a1, vI 3, vI f2_, .unset, .unset] [iI 3])) _
    refine XS.istore X11.here hx rfl (hb hby d1_68) rfl (l' := #[vR a1, vI (own_len3 f0_ f1_ f2_), vR b11, vR a1, vI 3, vI f2_, .unset, .unset]) rfl ?_
    show Steps _ _ _ (T11.setTop (mkF m 70 #[vR a1, vI (own_len3 f0_ f1_ f2_), vR b11, vR a1, vI 3, vI f2_, .unset, .unset] [])) _
    refine XS.iconst X11.here hx rfl (hb hby d1_70) ?_
    show Steps _ _ _ (T11.setTop (mkF m 71 #[vR a1, vI (own_len3 f0_ f1_ f2_), vR b11, vR a1, vI 3, vI f2_, .unset, .unset] [iI 0])) _
    refine XS.istore X11.here hx rfl (hb hby d1_71) rfl (l' := #[vR a1, vI (own_len3 f0_ f1_ f2_), vR b11, vR a1, vI 3, vI 0, .unset, .unset]) rfl ?_
    show Steps _ _ _ (T11.setTop (mkF m 73 #[vR a1, vI (own_len3 f0_ f1_ f2_), vR b11, vR a1, vI 3, vI 0, .unset, .unset] [])) _
    refine XS.iload X11.here hx rfl (hb hby d1_73) rfl ?_
    show Steps _ _ _ (T11.setTop (mkF m 75 #[vR a1, vI (own_len3 f0_ f1_ f2_), vR b11, vR a1, vI 3, vI 0, .unset, .unset] [iI 0])) _
    refine XS.iload X11.here hx rfl (hb hby d1_75) rfl ?_
    show Steps _ _ _ (T11.setTop (mkF m 77 #[vR a1, vI (own_len3 f0_ f1_ f2_), vR b11, vR a1, vI 3, vI 0, .unset, .unset] [iI 3, iI 0])) _
    refine XS.icmpNo X11.here hx rfl (hb hby d1_77) rfl (tlt (by decide : (0 : Int32) < (3 : Int32))).2.1 ?_
    show Steps _ _ _ (T11.setTop (mkF m 80 #[vR a1, vI (own_len3 f0_ f1_ f2_), vR b11, vR a1, vI 3, vI 0, .unset, .unset] [])) _
    refine XS.aloadN X11.here hx rfl (hb hby d1_80) rfl rfl ?_
    show Steps _ _ _ (T11.setTop (mkF m 81 #[vR a1, vI (own_len3 f0_ f1_ f2_), vR b11, vR a1, vI 3, vI 0, .unset, .unset] [iR a1])) _
    refine XS.iload X11.here hx rfl (hb hby d1_81) rfl ?_
    show Steps _ _ _ (T11.setTop (mkF m 83 #[vR a1, vI (own_len3 f0_ f1_ f2_), vR b11, vR a1, vI 3, vI 0, .unset, .unset] [iI 0, iR a1])) _
    refine X11.iaload hx (j := (0 : Int32)) (v := (.int f0_)) (by rw [e11]; exact Ar13.1) (State.isArrayOf_alike hZ.alike Ar13.2.1) Ar13.2.2 hin14 hat15 (g := (mkF m 83 #[vR a1, vI (own_len3 f0_ f1_ f2_), vR b11, vR a1, vI 3, vI 0, .unset, .unset] [iI 0, iR a1])) rfl rfl (hb hby d1_83) _ ?_
    show Steps _ _ _ (T11.setTop (mkF m 84 #[vR a1, vI (own_len3 f0_ f1_ f2_), vR b11, vR a1, vI 3, vI 0, .unset, .unset] [iI f0_])) _
    refine XS.istore X11.here hx rfl (hb hby d1_84) rfl (l' := #[vR a1, vI (own_len3 f0_ f1_ f2_), vR b11, vR a1, vI 3, vI 0, vI f0_, .unset]) rfl ?_
    show Steps _ _ _ (T11.setTop (mkF m 86 #[vR a1, vI (own_len3 f0_ f1_ f2_), vR b11, vR a1, vI 3, vI 0, vI f0_, .unset] [])) _
    refine XS.aloadN X11.here hx rfl (hb hby d1_86) rfl rfl ?_
    show Steps _ _ _ (T11.setTop (mkF m 87 #[vR a1, vI (own_len3 f0_ f1_ f2_), vR b11, vR a1, vI 3, vI 0, vI f0_, .unset] [iR b11])) _
    refine XS.iloadN X11.here hx rfl (hb hby d1_87) rfl ?_
    show Steps _ _ _ (T11.setTop (mkF m 88 #[vR a1, vI (own_len3 f0_ f1_ f2_), vR b11, vR a1, vI 3, vI 0, vI f0_, .unset] [iI (own_len3 f0_ f1_ f2_), iR b11])) _
    refine XS.iconst X11.here hx rfl (hb hby d1_88) ?_
    show Steps _ _ _ (T11.setTop (mkF m 89 #[vR a1, vI (own_len3 f0_ f1_ f2_), vR b11, vR a1, vI 3, vI 0, vI f0_, .unset] [iI 1, iI (own_len3 f0_ f1_ f2_), iR b11])) _
    refine XS.isub X11.here hx rfl (hb hby d1_89) rfl ?_
    show Steps _ _ _ (T11.setTop (mkF m 90 #[vR a1, vI (own_len3 f0_ f1_ f2_), vR b11, vR a1, vI 3, vI 0, vI f0_, .unset] [iI ((own_len3 f0_ f1_ f2_) - (1 : Int32)), iR b11])) _
    refine XS.iload X11.here hx rfl (hb hby d1_90) rfl ?_
    show Steps _ _ _ (T11.setTop (mkF m 92 #[vR a1, vI (own_len3 f0_ f1_ f2_), vR b11, vR a1, vI 3, vI 0, vI f0_, .unset] [iI f0_, iI ((own_len3 f0_ f1_ f2_) - (1 : Int32)), iR b11])) _
    refine XS.iconst X11.here hx rfl (hb hby d1_92) ?_
    show Steps _ _ _ (T11.setTop (mkF m 93 #[vR a1, vI (own_len3 f0_ f1_ f2_), vR b11, vR a1, vI 3, vI 0, vI f0_, .unset] [iI 1, iI f0_, iI ((own_len3 f0_ f1_ f2_) - (1 : Int32)), iR b11])) _
    refine XS.isub X11.here hx rfl (hb hby d1_93) rfl ?_
    show Steps _ _ _ (T11.setTop (mkF m 94 #[vR a1, vI (own_len3 f0_ f1_ f2_), vR b11, vR a1, vI 3, vI 0, vI f0_, .unset] [iI (f0_ - (1 : Int32)), iI ((own_len3 f0_ f1_ f2_) - (1 : Int32)), iR b11])) _
    refine XS.iconst X11.here hx rfl (hb hby d1_94) ?_
    show Steps _ _ _ (T11.setTop (mkF m 95 #[vR a1, vI (own_len3 f0_ f1_ f2_), vR b11, vR a1, vI 3, vI 0, vI f0_, .unset] [iI 4, iI (f0_ - (1 : Int32)), iI ((own_len3 f0_ f1_ f2_) - (1 : Int32)), iR b11])) _
    refine XS.idiv X11.here hx rfl (hb hby d1_95) rfl (by decide) ?_
    show Steps _ _ _ (T11.setTop (mkF m 96 #[vR a1, vI (own_len3 f0_ f1_ f2_), vR b11, vR a1, vI 3, vI 0, vI f0_, .unset] [iI ((f0_ - (1 : Int32)) / (4 : Int32)), iI ((own_len3 f0_ f1_ f2_) - (1 : Int32)), iR b11])) _
    refine XS.isub X11.here hx rfl (hb hby d1_96) rfl ?_
    show Steps _ _ _ (T11.setTop (mkF m 97 #[vR a1, vI (own_len3 f0_ f1_ f2_), vR b11, vR a1, vI 3, vI 0, vI f0_, .unset] [iI (((own_len3 f0_ f1_ f2_) - (1 : Int32)) - ((f0_ - (1 : Int32)) / (4 : Int32))), iR b11])) _
    refine XT.dup2 X11.here hx rfl (hb hby d1_97) rfl rfl rfl ?_
    show Steps _ _ _ (T11.setTop (mkF m 98 #[vR a1, vI (own_len3 f0_ f1_ f2_), vR b11, vR a1, vI 3, vI 0, vI f0_, .unset] [iI (((own_len3 f0_ f1_ f2_) - (1 : Int32)) - ((f0_ - (1 : Int32)) / (4 : Int32))), iR b11, iI (((own_len3 f0_ f1_ f2_) - (1 : Int32)) - ((f0_ - (1 : Int32)) / (4 : Int32))), iR b11])) _
    refine X11.iaload hx (j := (((own_len3 f0_ f1_ f2_) - (1 : Int32)) - ((f0_ - (1 : Int32)) / (4 : Int32)))) (v := (.int (own_R3_0 f0_ f1_ f2_))) (by rw [e11]; exact Ar16.1) (State.isArrayOf_alike hZ.alike Ar16.2.1) Ar16.2.2 hin17 hat18 (g := (mkF m 98 #[vR a1, vI (own_len3 f0_ f1_ f2_), vR b11, vR a1, vI 3, vI 0, vI f0_, .unset] [iI (((own_len3 f0_ f1_ f2_) - (1 : Int32)) - ((f0_ - (1 : Int32)) / (4 : Int32))), iR b11, iI (((own_len3 f0_ f1_ f2_) - (1 : Int32)) - ((f0_ - (1 : Int32)) / (4 : Int32))), iR b11])) rfl rfl (hb hby d1_98) _ ?_
    show Steps _ _ _ (T11.setTop (mkF m 99 #[vR a1, vI (own_len3 f0_ f1_ f2_), vR b11, vR a1, vI 3, vI 0, vI f0_, .unset] [iI (own_R3_0 f0_ f1_ f2_), iI (((own_len3 f0_ f1_ f2_) - (1 : Int32)) - ((f0_ - (1 : Int32)) / (4 : Int32))), iR b11])) _
    refine XS.iconst X11.here hx rfl (hb hby d1_99) ?_
    show Steps _ _ _ (T11.setTop (mkF m 100 #[vR a1, vI (own_len3 f0_ f1_ f2_), vR b11, vR a1, vI 3, vI 0, vI f0_, .unset] [iI 1, iI (own_R3_0 f0_ f1_ f2_), iI (((own_len3 f0_ f1_ f2_) - (1 : Int32)) - ((f0_ - (1 : Int32)) / (4 : Int32))), iR b11])) _
    refine XS.iload X11.here hx rfl (hb hby d1_100) rfl ?_
    show Steps _ _ _ (T11.setTop (mkF m 102 #[vR a1, vI (own_len3 f0_ f1_ f2_), vR b11, vR a1, vI 3, vI 0, vI f0_, .unset] [iI f0_, iI 1, iI (own_R3_0 f0_ f1_ f2_), iI (((own_len3 f0_ f1_ f2_) - (1 : Int32)) - ((f0_ - (1 : Int32)) / (4 : Int32))), iR b11])) _
    refine XS.iconst X11.here hx rfl (hb hby d1_102) ?_
    show Steps _ _ _ (T11.setTop (mkF m 103 #[vR a1, vI (own_len3 f0_ f1_ f2_), vR b11, vR a1, vI 3, vI 0, vI f0_, .unset] [iI 1, iI f0_, iI 1, iI (own_R3_0 f0_ f1_ f2_), iI (((own_len3 f0_ f1_ f2_) - (1 : Int32)) - ((f0_ - (1 : Int32)) / (4 : Int32))), iR b11])) _
    refine XS.isub X11.here hx rfl (hb hby d1_103) rfl ?_
    show Steps _ _ _ (T11.setTop (mkF m 104 #[vR a1, vI (own_len3 f0_ f1_ f2_), vR b11, vR a1, vI 3, vI 0, vI f0_, .unset] [iI (f0_ - (1 : Int32)), iI 1, iI (own_R3_0 f0_ f1_ f2_), iI (((own_len3 f0_ f1_ f2_) - (1 : Int32)) - ((f0_ - (1 : Int32)) / (4 : Int32))), iR b11])) _
    refine XS.iconst X11.here hx rfl (hb hby d1_104) ?_
    show Steps _ _ _ (T11.setTop (mkF m 105 #[vR a1, vI (own_len3 f0_ f1_ f2_), vR b11, vR a1, vI 3, vI 0, vI f0_, .unset] [iI 4, iI (f0_ - (1 : Int32)), iI 1, iI (own_R3_0 f0_ f1_ f2_), iI (((own_len3 f0_ f1_ f2_) - (1 : Int32)) - ((f0_ - (1 : Int32)) / (4 : Int32))), iR b11])) _
    refine iremM X11 hx rfl (hb hby d1_105) rfl (by decide) ?_
    show Steps _ _ _ (T11.setTop (mkF m 106 #[vR a1, vI (own_len3 f0_ f1_ f2_), vR b11, vR a1, vI 3, vI 0, vI f0_, .unset] [iI ((f0_ - (1 : Int32)) % (4 : Int32)), iI 1, iI (own_R3_0 f0_ f1_ f2_), iI (((own_len3 f0_ f1_ f2_) - (1 : Int32)) - ((f0_ - (1 : Int32)) / (4 : Int32))), iR b11])) _
    refine XS.ishl X11.here hx rfl (hb hby d1_106) rfl ?_
    show Steps _ _ _ (T11.setTop (mkF m 107 #[vR a1, vI (own_len3 f0_ f1_ f2_), vR b11, vR a1, vI 3, vI 0, vI f0_, .unset] [iI ((1 : Int32) <<< (((f0_ - (1 : Int32)) % (4 : Int32)) &&& 31)), iI (own_R3_0 f0_ f1_ f2_), iI (((own_len3 f0_ f1_ f2_) - (1 : Int32)) - ((f0_ - (1 : Int32)) / (4 : Int32))), iR b11])) _
    refine XS.ior X11.here hx rfl (hb hby d1_107) rfl ?_
    show Steps _ _ _ (T11.setTop (mkF m 108 #[vR a1, vI (own_len3 f0_ f1_ f2_), vR b11, vR a1, vI 3, vI 0, vI f0_, .unset] [iI ((own_R3_0 f0_ f1_ f2_) ||| ((1 : Int32) <<< (((f0_ - (1 : Int32)) % (4 : Int32)) &&& 31))), iI (((own_len3 f0_ f1_ f2_) - (1 : Int32)) - ((f0_ - (1 : Int32)) / (4 : Int32))), iR b11])) _
    refine st20 _ ?_
    show Steps _ _ _ (T20.setTop (mkF m 109 #[vR a1, vI (own_len3 f0_ f1_ f2_), vR b11, vR a1, vI 3, vI 0, vI f0_, .unset] [])) _
    refine XS.iinc X20.here hx rfl (hb hby d1_109) rfl (l' := #[vR a1, vI (own_len3 f0_ f1_ f2_), vR b11, vR a1, vI 3, vI ((0 : Int32) + (1 : Int32)), vI f0_, .unset]) rfl ?_
    rw [(by decide : ((0 : Int32) + (1 : Int32)) = (1 : Int32))]
    show Steps _ _ _ (T20.setTop (mkF m 112 #[vR a1, vI (own_len3 f0_ f1_ f2_), vR b11, vR a1, vI 3, vI 1, vI f0_, .unset] [])) _
    refine XS.goto X20.here hx rfl (pc0 := 112) (pc' := 73) rfl (hb hby d1_112) (by decide) (by decide) ?_
    show Steps _ _ _ (T20.setTop (mkF m 73 #[vR a1, vI (own_len3 f0_ f1_ f2_), vR b11, vR a1, vI 3, vI 1, vI f0_, .unset] [])) _
    refine XS.iload X20.here hx rfl (hb hby d1_73) rfl ?_
    show Steps _ _ _ (T20.setTop (mkF m 75 #[vR a1, vI (own_len3 f0_ f1_ f2_), vR b11, vR a1, vI 3, vI 1, vI f0_, .unset] [iI 1])) _
    refine XS.iload X20.here hx rfl (hb hby d1_75) rfl ?_
    show Steps _ _ _ (T20.setTop (mkF m 77 #[vR a1, vI (own_len3 f0_ f1_ f2_), vR b11, vR a1, vI 3, vI 1, vI f0_, .unset] [iI 3, iI 1])) _
    refine XS.icmpNo X20.here hx rfl (hb hby d1_77) rfl (tlt (by decide : (1 : Int32) < (3 : Int32))).2.1 ?_
    show Steps _ _ _ (T20.setTop (mkF m 80 #[vR a1, vI (own_len3 f0_ f1_ f2_), vR b11, vR a1, vI 3, vI 1, vI f0_, .unset] [])) _
    refine XS.aloadN X20.here hx rfl (hb hby d1_80) rfl rfl ?_
    show Steps _ _ _ (T20.setTop (mkF m 81 #[vR a1, vI (own_len3 f0_ f1_ f2_), vR b11, vR a1, vI 3, vI 1, vI f0_, .unset] [iR a1])) _
    refine XS.iload X20.here hx rfl (hb hby d1_81) rfl ?_
    show Steps _ _ _ (T20.setTop (mkF m 83 #[vR a1, vI (own_len3 f0_ f1_ f2_), vR b11, vR a1, vI 3, vI 1, vI f0_, .unset] [iI 1, iR a1])) _
    refine X20.iaload hx (j := (1 : Int32)) (v := (.int f1_)) (by rw [e20]; exact Ar22.1) (State.isArrayOf_alike hZ.alike Ar22.2.1) Ar22.2.2 hin23 hat24 (g := (mkF m 83 #[vR a1, vI (own_len3 f0_ f1_ f2_), vR b11, vR a1, vI 3, vI 1, vI f0_, .unset] [iI 1, iR a1])) rfl rfl (hb hby d1_83) _ ?_
    show Steps _ _ _ (T20.setTop (mkF m 84 #[vR a1, vI (own_len3 f0_ f1_ f2_), vR b11, vR a1, vI 3, vI 1, vI f0_, .unset] [iI f1_])) _
    refine XS.istore X20.here hx rfl (hb hby d1_84) rfl (l' := #[vR a1, vI (own_len3 f0_ f1_ f2_), vR b11, vR a1, vI 3, vI 1, vI f1_, .unset]) rfl ?_
    show Steps _ _ _ (T20.setTop (mkF m 86 #[vR a1, vI (own_len3 f0_ f1_ f2_), vR b11, vR a1, vI 3, vI 1, vI f1_, .unset] [])) _
    refine XS.aloadN X20.here hx rfl (hb hby d1_86) rfl rfl ?_
    show Steps _ _ _ (T20.setTop (mkF m 87 #[vR a1, vI (own_len3 f0_ f1_ f2_), vR b11, vR a1, vI 3, vI 1, vI f1_, .unset] [iR b11])) _
    refine XS.iloadN X20.here hx rfl (hb hby d1_87) rfl ?_
    show Steps _ _ _ (T20.setTop (mkF m 88 #[vR a1, vI (own_len3 f0_ f1_ f2_), vR b11, vR a1, vI 3, vI 1, vI f1_, .unset] [iI (own_len3 f0_ f1_ f2_), iR b11])) _
    refine XS.iconst X20.here hx rfl (hb hby d1_88) ?_
    show Steps _ _ _ (T20.setTop (mkF m 89 #[vR a1, vI (own_len3 f0_ f1_ f2_), vR b11, vR a1, vI 3, vI 1, vI f1_, .unset] [iI 1, iI (own_len3 f0_ f1_ f2_), iR b11])) _
    refine XS.isub X20.here hx rfl (hb hby d1_89) rfl ?_
    show Steps _ _ _ (T20.setTop (mkF m 90 #[vR a1, vI (own_len3 f0_ f1_ f2_), vR b11, vR a1, vI 3, vI 1, vI f1_, .unset] [iI ((own_len3 f0_ f1_ f2_) - (1 : Int32)), iR b11])) _
    refine XS.iload X20.here hx rfl (hb hby d1_90) rfl ?_
    show Steps _ _ _ (T20.setTop (mkF m 92 #[vR a1, vI (own_len3 f0_ f1_ f2_), vR b11, vR a1, vI 3, vI 1, vI f1_, .unset] [iI f1_, iI ((own_len3 f0_ f1_ f2_) - (1 : Int32)), iR b11])) _
    refine XS.iconst X20.here hx rfl (hb hby d1_92) ?_
    show Steps _ _ _ (T20.setTop (mkF m 93 #[vR a1, vI (own_len3 f0_ f1_ f2_), vR b11, vR a1, vI 3, vI 1, vI f1_, .unset] [iI 1, iI f1_, iI ((own_len3 f0_ f1_ f2_) - (1 : Int32)), iR b11])) _
    refine XS.isub X20.here hx rfl (hb hby d1_93) rfl ?_
    show Steps _ _ _ (T20.setTop (mkF m 94 #[vR a1, vI (own_len3 f0_ f1_ f2_), vR b11, vR a1, vI 3, vI 1, vI f1_, .unset] [iI (f1_ - (1 : Int32)), iI ((own_len3 f0_ f1_ f2_) - (1 : Int32)), iR b11])) _
    refine XS.iconst X20.here hx rfl (hb hby d1_94) ?_
    show Steps _ _ _ (T20.setTop (mkF m 95 #[vR a1, vI (own_len3 f0_ f1_ f2_), vR b11, vR a1, vI 3, vI 1, vI f1_, .unset] [iI 4, iI (f1_ - (1 : Int32)), iI ((own_len3 f0_ f1_ f2_) - (1 : Int32)), iR b11])) _
    refine XS.idiv X20.here hx rfl (hb hby d1_95) rfl (by decide) ?_
    show Steps _ _ _ (T20.setTop (mkF m 96 #[vR a1, vI (own_len3 f0_ f1_ f2_), vR b11, vR a1, vI 3, vI 1, vI f1_, .unset] [iI ((f1_ - (1 : Int32)) / (4 : Int32)), iI ((own_len3 f0_ f1_ f2_) - (1 : Int32)), iR b11])) _
    refine XS.isub X20.here hx rfl (hb hby d1_96) rfl ?_
    show Steps _ _ _ (T20.setTop (mkF m 97 #[vR a1, vI (own_len3 f0_ f1_ f2_), vR b11, vR a1, vI 3, vI 1, vI f1_, .unset] [iI (((own_len3 f0_ f1_ f2_) - (1 : Int32)) - ((f1_ - (1 : Int32)) / (4 : Int32))), iR b11])) _
    refine XT.dup2 X20.here hx rfl (hb hby d1_97) rfl rfl rfl ?_
    show Steps _ _ _ (T20.setTop (mkF m 98 #[vR a1, vI (own_len3 f0_ f1_ f2_), vR b11, vR a1, vI 3, vI 1, vI f1_, .unset] [iI (((own_len3 f0_ f1_ f2_) - (1 : Int32)) - ((f1_ - (1 : Int32)) / (4 : Int32))), iR b11, iI (((own_len3 f0_ f1_ f2_) - (1 : Int32)) - ((f1_ - (1 : Int32)) / (4 : Int32))), iR b11])) _
    refine X20.iaload hx (j := (((own_len3 f0_ f1_ f2_) - (1 : Int32)) - ((f1_ - (1 : Int32)) / (4 : Int32)))) (v := (.int (own_R3_1 f0_ f1_ f2_))) (by rw [e20]; exact Ar25.1) (State.isArrayOf_alike hZ.alike Ar25.2.1) Ar25.2.2 hin26 hat27 (g := (mkF m 98 #[vR a1, vI (own_len3 f0_ f1_ f2_), vR b11, vR a1, vI 3, vI 1, vI f1_, .unset] [iI (((own_len3 f0_ f1_ f2_) - (1 : Int32)) - ((f1_ - (1 : Int32)) / (4 : Int32))), iR b11, iI (((own_len3 f0_ f1_ f2_) - (1 : Int32)) - ((f1_ - (1 : Int32)) / (4 : Int32))), iR b11])) rfl rfl (hb hby d1_98) _ ?_
    show Steps _ _ _ (T20.setTop (mkF m 99 #[vR a1, vI (own_len3 f0_ f1_ f2_), vR b11, vR a1, vI 3, vI 1, vI f1_, .unset] [iI (own_R3_1 f0_ f1_ f2_), iI (((own_len3 f0_ f1_ f2_) - (1 : Int32)) - ((f1_ - (1 : Int32)) / (4 : Int32))), iR b11])) _
    refine XS.iconst X20.here hx rfl (hb hby d1_99) ?_
    show Steps _ _ _ (T20.setTop (mkF m 100 #[vR a1, vI (own_len3 f0_ f1_ f2_), vR b11, vR a1, vI 3, vI 1, vI f1_, .unset] [iI 1, iI (own_R3_1 f0_ f1_ f2_), iI (((own_len3 f0_ f1_ f2_) - (1 : Int32)) - ((f1_ - (1 : Int32)) / (4 : Int32))), iR b11])) _
    refine XS.iload X20.here hx rfl (hb hby d1_100) rfl ?_
    show Steps _ _ _ (T20.setTop (mkF m 102 #[vR a1, vI (own_len3 f0_ f1_ f2_), vR b11, vR a1, vI 3, vI 1, vI f1_, .unset] [iI f1_, iI 1, iI (own_R3_1 f0_ f1_ f2_), iI (((own_len3 f0_ f1_ f2_) - (1 : Int32)) - ((f1_ - (1 : Int32)) / (4 : Int32))), iR b11])) _
    refine XS.iconst X20.here hx rfl (hb hby d1_102) ?_
    show Steps _ _ _ (T20.setTop (mkF m 103 #[vR a1, vI (own_len3 f0_ f1_ f2_), vR b11, vR a1, vI 3, vI 1, vI f1_, .unset] [iI 1, iI f1_, iI 1, iI (own_R3_1 f0_ f1_ f2_), iI (((own_len3 f0_ f1_ f2_) - (1 : Int32)) - ((f1_ - (1 : Int32)) / (4 : Int32))), iR b11])) _
    refine XS.isub X20.here hx rfl (hb hby d1_103) rfl ?_
    show Steps _ _ _ (T20.setTop (mkF m 104 #[vR a1, vI (own_len3 f0_ f1_ f2_), vR b11, vR a1, vI 3, vI 1, vI f1_, .unset] [iI (f1_ - (1 : Int32)), iI 1, iI (own_R3_1 f0_ f1_ f2_), iI (((own_len3 f0_ f1_ f2_) - (1 : Int32)) - ((f1_ - (1 : Int32)) / (4 : Int32))), iR b11])) _
    refine XS.iconst X20.here hx rfl (hb hby d1_104) ?_
    show Steps _ _ _ (T20.setTop (mkF m 105 #[vR a1, vI (own_len3 f0_ f1_ f2_), vR b11, vR a1, vI 3, vI 1, vI f1_, .unset] [iI 4, iI (f1_ - (1 : Int32)), iI 1, iI (own_R3_1 f0_ f1_ f2_), iI (((own_len3 f0_ f1_ f2_) - (1 : Int32)) - ((f1_ - (1 : Int32)) / (4 : Int32))), iR b11])) _
    refine iremM X20 hx rfl (hb hby d1_105) rfl (by decide) ?_
    show Steps _ _ _ (T20.setTop (mkF m 106 #[vR a1, vI (own_len3 f0_ f1_ f2_), vR b11, vR a1, vI 3, vI 1, vI f1_, .unset] [iI ((f1_ - (1 : Int32)) % (4 : Int32)), iI 1, iI (own_R3_1 f0_ f1_ f2_), iI (((own_len3 f0_ f1_ f2_) - (1 : Int32)) - ((f1_ - (1 : Int32)) / (4 : Int32))), iR b11])) _
    refine XS.ishl X20.here hx rfl (hb hby d1_106) rfl ?_
    show Steps _ _ _ (T20.setTop (mkF m 107 #[vR a1, vI (own_len3 f0_ f1_ f2_), vR b11, vR a1, vI 3, vI 1, vI f1_, .unset] [iI ((1 : Int32) <<< (((f1_ - (1 : Int32)) % (4 : Int32)) &&& 31)), iI (own_R3_1 f0_ f1_ f2_), iI (((own_len3 f0_ f1_ f2_) - (1 : Int32)) - ((f1_ - (1 : Int32)) / (4 : Int32))), iR b11])) _
    refine XS.ior X20.here hx rfl (hb hby d1_107) rfl ?_
    show Steps _ _ _ (T20.setTop (mkF m 108 #[vR a1, vI (own_len3 f0_ f1_ f2_), vR b11, vR a1, vI 3, vI 1, vI f1_, .unset] [iI ((own_R3_1 f0_ f1_ f2_) ||| ((1 : Int32) <<< (((f1_ - (1 : Int32)) % (4 : Int32)) &&& 31))), iI (((own_len3 f0_ f1_ f2_) - (1 : Int32)) - ((f1_ - (1 : Int32)) / (4 : Int32))), iR b11])) _
    refine st29 _ ?_
    show Steps _ _ _ (T29.setTop (mkF m 109 #[vR a1, vI (own_len3 f0_ f1_ f2_), vR b11, vR a1, vI 3, vI 1, vI f1_, .unset] [])) _
    refine XS.iinc X29.here hx rfl (hb hby d1_109) rfl (l' := #[vR a1, vI (own_len3 f0_ f1_ f2_), vR b11, vR a1, vI 3, vI ((1 : Int32) + (1 : Int32)), vI f1_, .unset]) rfl ?_
    rw [(by decide : ((1 : Int32) + (1 : Int32)) = (2 : Int32))]
    show Steps _ _ _ (T29.setTop (mkF m 112 #[vR a1, vI (own_len3 f0_ f1_ f2_), vR b11, vR a1, vI 3, vI 2, vI f1_, .unset] [])) _
    refine XS.goto X29.here hx rfl (pc0 := 112) (pc' := 73) rfl (hb hby d1_112) (by decide) (by decide) ?_
    show Steps _ _ _ (T29.setTop (mkF m 73 #[vR a1, vI (own_len3 f0_ f1_ f2_), vR b11, vR a1, vI 3, vI 2, vI f1_, .unset] [])) _
    refine XS.iload X29.here hx rfl (hb hby d1_73) rfl ?_
    show Steps _ _ _ (T29.setTop (mkF m 75 #[vR a1, vI (own_len3 f0_ f1_ f2_), vR b11, vR a1, vI 3, vI 2, vI f1_, .unset] [iI 2])) _
    refine XS.iload X29.here hx rfl (hb hby d1_75) rfl ?_
    show Steps _ _ _ (T29.setTop (mkF m 77 #[vR a1, vI (own_len3 f0_ f1_ f2_), vR b11, vR a1, vI 3, vI 2, vI f1_, .unset] [iI 3, iI 2])) _
    refine XS.icmpNo X29.here hx rfl (hb hby d1_77) rfl (tlt (by decide : (2 : Int32) < (3 : Int32))).2.1 ?_
    show Steps _ _ _ (T29.setTop (mkF m 80 #[vR a1, vI (own_len3 f0_ f1_ f2_), vR b11, vR a1, vI 3, vI 2, vI f1_, .unset] [])) _
    refine XS.aloadN X29.here hx rfl (hb hby d1_80) rfl rfl ?_
    show Steps _ _ _ (T29.setTop (mkF m 81 #[vR a1, vI (own_len3 f0_ f1_ f2_), vR b11, vR a1, vI 3, vI 2, vI f1_, .unset] [iR a1])) _
    refine XS.iload X29.here hx rfl (hb hby d1_81) rfl ?_
    show Steps _ _ _ (T29.setTop (mkF m 83 #[vR a1, vI (own_len3 f0_ f1_ f2_), vR b11, vR a1, vI 3, vI 2, vI f1_, .unset] [iI 2, iR a1])) _
    refine X29.iaload hx (j := (2 : Int32)) (v := (.int f2_)) (by rw [e29]; exact Ar31.1) (State.isArrayOf_alike hZ.alike Ar31.2.1) Ar31.2.2 hin32 hat33 (g := (mkF m 83 #[vR a1, vI (own_len3 f0_ f1_ f2_), vR b11, vR a1, vI 3, vI 2, vI f1_, .unset] [iI 2, iR a1])) rfl rfl (hb hby d1_83) _ ?_
    show Steps _ _ _ (T29.setTop (mkF m 84 #[vR a1, vI (own_len3 f0_ f1_ f2_), vR b11, vR a1, vI 3, vI 2, vI f1_, .unset] [iI f2_])) _
    refine XS.istore X29.here hx rfl (hb hby d1_84) rfl (l' := #[vR a1, vI (own_len3 f0_ f1_ f2_), vR b11, vR a1, vI 3, vI 2, vI f2_, .unset]) rfl ?_
    show Steps _ _ _ (T29.setTop (mkF m 86 #[vR a1, vI (own_len3 f0_ f1_ f2_), vR b11, vR a1, vI 3, vI 2, vI f2_, .unset] [])) _
    refine XS.aloadN X29.here hx rfl (hb hby d1_86) rfl rfl ?_
    show Steps _ _ _ (T29.setTop (mkF m 87 #[vR a1, vI (own_len3 f0_ f1_ f2_), vR b11, vR a1, vI 3, vI 2, vI f2_, .unset] [iR b11])) _
    refine XS.iloadN X29.here hx rfl (hb hby d1_87) rfl ?_
    show Steps _ _ _ (T29.setTop (mkF m 88 #[vR a1, vI (own_len3 f0_ f1_ f2_), vR b11, vR a1, vI 3, vI 2, vI f2_, .unset] [iI (own_len3 f0_ f1_ f2_), iR b11])) _
    refine XS.iconst X29.here hx rfl (hb hby d1_88) ?_
    show Steps _ _ _ (T29.setTop (mkF m 89 #[vR a1, vI (own_len3 f0_ f1_ f2_), vR b11, vR a1, vI 3, vI 2, vI f2_, .unset] [iI 1, iI (own_len3 f0_ f1_ f2_), iR b11])) _
    refine XS.isub X29.here hx rfl (hb hby d1_89) rfl ?_
    show Steps _ _ _ (T29.setTop (mkF m 90 #[vR a1, vI (own_len3 f0_ f1_ f2_), vR b11, vR a1, vI 3, vI 2, vI f2_, .unset] [iI ((own_len3 f0_ f1_ f2_) - (1 : Int32)), iR b11])) _
    refine XS.iload X29.here hx rfl (hb hby d1_90) rfl ?_
    show Steps _ _ _ (T29.setTop (mkF m 92 #[vR a1, vI (own_len3 f0_ f1_ f2_), vR b11, vR a1, vI 3, vI 2, vI f2_, .unset] [iI f2_, iI ((own_len3 f0_ f1_ f2_) - (1 : Int32)), iR b11])) _
    refine XS.iconst X29.here hx rfl (hb hby d1_92) ?_
    show Steps _ _ _ (T29.setTop (mkF m 93 #[vR a1, vI (own_len3 f0_ f1_ f2_), vR b11, vR a1, vI 3, vI 2, vI f2_, .unset] [iI 1, iI f2_, iI ((own_len3 f0_ f1_ f2_) - (1 : Int32)), iR b11])) _
    refine XS.isub X29.here hx rfl (hb hby d1_93) rfl ?_
    show Steps _ _ _ (T29.setTop (mkF m 94 #[vR a1, vI (own_len3 f0_ f1_ f2_), vR b11, vR a1, vI 3, vI 2, vI f2_, .unset] [iI (f2_ - (1 : Int32)), iI ((own_len3 f0_ f1_ f2_) - (1 : Int32)), iR b11])) _
    refine XS.iconst X29.here hx rfl (hb hby d1_94) ?_
    show Steps _ _ _ (T29.setTop (mkF m 95 #[vR a1, vI (own_len3 f0_ f1_ f2_), vR b11, vR a1, vI 3, vI 2, vI f2_, .unset] [iI 4, iI (f2_ - (1 : Int32)), iI ((own_len3 f0_ f1_ f2_) - (1 : Int32)), iR b11])) _
    refine XS.idiv X29.here hx rfl (hb hby d1_95) rfl (by decide) ?_
    show Steps _ _ _ (T29.setTop (mkF m 96 #[vR a1, vI (own_len3 f0_ f1_ f2_), vR b11, vR a1, vI 3, vI 2, vI f2_, .unset] [iI ((f2_ - (1 : Int32)) / (4 : Int32)), iI ((own_len3 f0_ f1_ f2_) - (1 : Int32)), iR b11])) _
    refine XS.isub X29.here hx rfl (hb hby d1_96) rfl ?_
    show Steps _ _ _ (T29.setTop (mkF m 97 #[vR a1, vI (own_len3 f0_ f1_ f2_), vR b11, vR a1, vI 3, vI 2, vI f2_, .unset] [iI (((own_len3 f0_ f1_ f2_) - (1 : Int32)) - ((f2_ - (1 : Int32)) / (4 : Int32))), iR b11])) _
    refine XT.dup2 X29.here hx rfl (hb hby d1_97) rfl rfl rfl ?_
    show Steps _ _ _ (T29.setTop (mkF m 98 #[vR a1, vI (own_len3 f0_ f1_ f2_), vR b11, vR a1, vI 3, vI 2, vI f2_, .unset] [iI (((own_len3 f0_ f1_ f2_) - (1 : Int32)) - ((f2_ - (1 : Int32)) / (4 : Int32))), iR b11, iI (((own_len3 f0_ f1_ f2_) - (1 : Int32)) - ((f2_ - (1 : Int32)) / (4 : Int32))), iR b11])) _
    refine X29.iaload hx (j := (((own_len3 f0_ f1_ f2_) - (1 : Int32)) - ((f2_ - (1 : Int32)) / (4 : Int32)))) (v := (.int (own_R3_2 f0_ f1_ f2_))) (by rw [e29]; exact Ar34.1) (State.isArrayOf_alike hZ.alike Ar34.2.1) Ar34.2.2 hin35 hat36 (g := (mkF m 98 #[vR a1, vI (own_len3 f0_ f1_ f2_), vR b11, vR a1, vI 3, vI 2, vI f2_, .unset] [iI (((own_len3 f0_ f1_ f2_) - (1 : Int32)) - ((f2_ - (1 : Int32)) / (4 : Int32))), iR b11, iI (((own_len3 f0_ f1_ f2_) - (1 : Int32)) - ((f2_ - (1 : Int32)) / (4 : Int32))), iR b11])) rfl rfl (hb hby d1_98) _ ?_
    show Steps _ _ _ (T29.setTop (mkF m 99 #[vR a1, vI (own_len3 f0_ f1_ f2_), vR b11, vR a1, vI 3, vI 2, vI f2_, .unset] [iI (own_R3_2 f0_ f1_ f2_), iI (((own_len3 f0_ f1_ f2_) - (1 : Int32)) - ((f2_ - (1 : Int32)) / (4 : Int32))), iR b11])) _
    refine XS.iconst X29.here hx rfl (hb hby d1_99) ?_
    show Steps _ _ _ (T29.setTop (mkF m 100 #[vR a1, vI (own_len3 f0_ f1_ f2_), vR b11, vR a1, vI 3, vI 2, vI f2_, .unset] [iI 1, iI (own_R3_2 f0_ f1_ f2_), iI (((own_len3 f0_ f1_ f2_) - (1 : Int32)) - ((f2_ - (1 : Int32)) / (4 : Int32))), iR b11])) _
    refine XS.iload X29.here hx rfl (hb hby d1_100) rfl ?_
    show Steps _ _ _ (T29.setTop (mkF m 102 #[vR a1, vI (own_len3 f0_ f1_ f2_), vR b11, vR a1, vI 3, vI 2, vI f2_, .unset] [iI f2_, iI 1, iI (own_R3_2 f0_ f1_ f2_), iI (((own_len3 f0_ f1_ f2_) - (1 : Int32)) - ((f2_ - (1 : Int32)) / (4 : Int32))), iR b11])) _
    refine XS.iconst X29.here hx rfl (hb hby d1_102) ?_
    show Steps _ _ _ (T29.setTop (mkF m 103 #[vR a1, vI (own_len3 f0_ f1_ f2_), vR b11, vR a1, vI 3, vI 2, vI f2_, .unset] [iI 1, iI f2_, iI 1, iI (own_R3_2 f0_ f1_ f2_), iI (((own_len3 f0_ f1_ f2_) - (1 : Int32)) - ((f2_ - (1 : Int32)) / (4 : Int32))), iR b11])) _
    refine XS.isub X29.here hx rfl (hb hby d1_103) rfl ?_
    show Steps _ _ _ (T29.setTop (mkF m 104 #[vR a1, vI (own_len3 f0_ f1_ f2_), vR b11, vR a1, vI 3, vI 2, vI f2_, .unset] [iI (f2_ - (1 : Int32)), iI 1, iI (own_R3_2 f0_ f1_ f2_), iI (((own_len3 f0_ f1_ f2_) - (1 : Int32)) - ((f2_ - (1 : Int32)) / (4 : Int32))), iR b11])) _
    refine XS.iconst X29.here hx rfl (hb hby d1_104) ?_
    show Steps _ _ _ (T29.setTop (mkF m 105 #[vR a1, vI (own_len3 f0_ f1_ f2_), vR b11, vR a1, vI 3, vI 2, vI f2_, .unset] [iI 4, iI (f2_ - (1 : Int32)), iI 1, iI (own_R3_2 f0_ f1_ f2_), iI (((own_len3 f0_ f1_ f2_) - (1 : Int32)) - ((f2_ - (1 : Int32)) / (4 : Int32))), iR b11])) _
    refine iremM X29 hx rfl (hb hby d1_105) rfl (by decide) ?_
    show Steps _ _ _ (T29.setTop (mkF m 106 #[vR a1, vI (own_len3 f0_ f1_ f2_), vR b11, vR a1, vI 3, vI 2, vI f2_, .unset] [iI ((f2_ - (1 : Int32)) % (4 : Int32)), iI 1, iI (own_R3_2 f0_ f1_ f2_), iI (((own_len3 f0_ f1_ f2_) - (1 : Int32)) - ((f2_ - (1 : Int32)) / (4 : Int32))), iR b11])) _
    refine XS.ishl X29.here hx rfl (hb hby d1_106) rfl ?_
    show Steps _ _ _ (T29.setTop (mkF m 107 #[vR a1, vI (own_len3 f0_ f1_ f2_), vR b11, vR a1, vI 3, vI 2, vI f2_, .unset] [iI ((1 : Int32) <<< (((f2_ - (1 : Int32)) % (4 : Int32)) &&& 31)), iI (own_R3_2 f0_ f1_ f2_), iI (((own_len3 f0_ f1_ f2_) - (1 : Int32)) - ((f2_ - (1 : Int32)) / (4 : Int32))), iR b11])) _
    refine XS.ior X29.here hx rfl (hb hby d1_107) rfl ?_
    show Steps _ _ _ (T29.setTop (mkF m 108 #[vR a1, vI (own_len3 f0_ f1_ f2_), vR b11, vR a1, vI 3, vI 2, vI f2_, .unset] [iI ((own_R3_2 f0_ f1_ f2_) ||| ((1 : Int32) <<< (((f2_ - (1 : Int32)) % (4 : Int32)) &&& 31))), iI (((own_len3 f0_ f1_ f2_) - (1 : Int32)) - ((f2_ - (1 : Int32)) / (4 : Int32))), iR b11])) _
    refine st38 _ ?_
    show Steps _ _ _ (T38.setTop (mkF m 109 #[vR a1, vI (own_len3 f0_ f1_ f2_), vR b11, vR a1, vI 3, vI 2, vI f2_, .unset] [])) _
    refine XS.iinc X38.here hx rfl (hb hby d1_109) rfl (l' := #[vR a1, vI (own_len3 f0_ f1_ f2_), vR b11, vR a1, vI 3, vI ((2 : Int32) + (1 : Int32)), vI f2_, .unset]) rfl ?_
    rw [(by decide : ((2 : Int32) + (1 : Int32)) = (3 : Int32))]
    show Steps _ _ _ (T38.setTop (mkF m 112 #[vR a1, vI (own_len3 f0_ f1_ f2_), vR b11, vR a1, vI 3, vI 3, vI f2_, .unset] [])) _
    refine XS.goto X38.here hx rfl (pc0 := 112) (pc' := 73) rfl (hb hby d1_112) (by decide) (by decide) ?_
    show Steps _ _ _ (T38.setTop (mkF m 73 #[vR a1, vI (own_len3 f0_ f1_ f2_), vR b11, vR a1, vI 3, vI 3, vI f2_, .unset] [])) _
    refine XS.iload X38.here hx rfl (hb hby d1_73) rfl ?_
    show Steps _ _ _ (T38.setTop (mkF m 75 #[vR a1, vI (own_len3 f0_ f1_ f2_), vR b11, vR a1, vI 3, vI 3, vI f2_, .unset] [iI 3])) _
    refine XS.iload X38.here hx rfl (hb hby d1_75) rfl ?_
    show Steps _ _ _ (T38.setTop (mkF m 77 #[vR a1, vI (own_len3 f0_ f1_ f2_), vR b11, vR a1, vI 3, vI 3, vI f2_, .unset] [iI 3, iI 3])) _
    refine XS.icmpYes X38.here hx rfl (pc0 := 77) (pc' := 115) rfl (hb hby d1_77) rfl (flt (by decide : ¬ ((3 : Int32) < (3 : Int32)))).2.1 (by decide) (by decide) ?_
    exact kt
  obtain ⟨s₂, o₂, hs₂, hr₂⟩ := own_tail1 (nn := (3 : Int32)) (ff := f2_) X38 hx hZ hw hby hml hown Bd.returns (by first | assumption | exact BodyLoose.notSynchronized (by assumption) | exact Body.notSynchronized (by assumption)) e38 K38 N38 Z0 O0 V38 g_b11 sz_b11 hL.1 hL.2.1 hL.2.2 S_CS h_cs
  exact ⟨s₂, o₂, pre39 _ hs₂, hr₂⟩
theorem ef_1_4 (m : MethodId) (x0 : Addr) : entryFrame m #[(.ref x0)] 8 = mkF m 0 #[.val (.ref x0), .unset, .unset, .unset, .unset, .unset, .unset, .unset] [] := by first | (simp [entryFrame, mkF, argsToLocals, Value.category]; done) | rfl
def Q1_4 (Z : State) (a1 : Addr) (ka : ClassId) (f0_ : Int32) (f1_ : Int32) (f2_ : Int32) (f3_ : Int32) (cs : Int32) (h0 : Heap) (n0 : Nat) (v : Option Value) (h : Heap) (L : List Loc) : Prop := own_QT Z (own_len4 f0_ f1_ f2_ f3_) (own_C4_4 f0_ f1_ f2_ f3_ (0 : Int32)) (own_C4_4 f0_ f1_ f2_ f3_ (1 : Int32)) (own_C4_4 f0_ f1_ f2_ f3_ (2 : Int32)) (own_C4_4 f0_ f1_ f2_ f3_ (3 : Int32)) (own_C4_4 f0_ f1_ f2_ f3_ (4 : Int32)) (own_C4_4 f0_ f1_ f2_ f3_ (5 : Int32)) (own_C4_4 f0_ f1_ f2_ f3_ (6 : Int32)) (own_C4_4 f0_ f1_ f2_ f3_ (7 : Int32)) h0 n0 v h L
set_option maxRecDepth 65536 in
set_option maxHeartbeats 40000000 in
theorem rm1_4 (l : Launch) (Z : State) (a0 : Array Value) (hw : ∀ d ∈ tables_1, d.before a0 Z = true) (ws : List Jvm.Cond) (a1 : Addr) (ka : ClassId) (f0_ : Int32) (f1_ : Int32) (f2_ : Int32) (f3_ : Int32) (cs : Int32) (h0 : Heap) (n0 : Nat) (Z0 : n0 ≤ h0.size) (O0 : Old Z n0 h0) (V_a : Arv Z h0 a1 ka .int (4 : Int32) [(.int f0_), (.int f1_), (.int f2_), (.int f3_)] (.int (0 : Int32))) (hf0 : ¬ f0_ < (1 : Int32) ∧ ¬ (32 : Int32) < f0_) (hf1 : ¬ f1_ < (1 : Int32) ∧ ¬ (32 : Int32) < f1_) (hf2 : ¬ f2_ < (1 : Int32) ∧ ¬ (32 : Int32) < f2_) (hf3 : ¬ f3_ < (1 : Int32) ∧ ¬ (32 : Int32) < f3_) (S_CS : Sta Z Z.heap "java/lang/String" "COMPACT_STRINGS" "Z" (.int cs)) (h_cs : ¬ cs = (0 : Int32)) :
    MetFree l (⟨"com/example/cloud_to_core/cloudtocore/model/SupportedFeatures", "of", "([I)Ljava/lang/String;"⟩ : MethodName) (head1 (Jvm.Cond.code (⟨"com/example/cloud_to_core/cloudtocore/model/SupportedFeatures", "of", "([I)Ljava/lang/String;"⟩ : MethodName) prog_29_method_3_code 8 (some (.object "java/lang/String")) :: ws) ({ frames := 5, cells := 5, slots := 32, locals := 71 } : Room)) (fun a U => a = #[(.ref a1)] ∧ Z.Warmed39 U.vm ∧ U.heap = h0) (fun _ _ _ _ _ => True) (fun _ U o U' => ∃ v L, o = .returned v ∧ Q1_4 Z a1 ka f0_ f1_ f2_ f3_ cs h0 n0 v U'.heap L ∧ FrameEnd U o U' L ({ frames := 5, cells := 5, slots := 32, locals := 71 } : Room).cells ({ frames := 5, cells := 5, slots := 32, locals := 71 } : Room).slots) := by
  refine MetFree.of_bodySF (plainFor_of_name pn_8) hisR ?_
  intro p e s m args below meth c s₁ Bd hml0 hP hK
  obtain ⟨rfl, hZ, hh⟩ := hP
  have hx := Bd.exec
  have hby := Bd.bytes
  have hml : c.maxLocals = 8 := hml0
  have hown : s.vm.findClass "com/example/cloud_to_core/cloudtocore/model/SupportedFeatures" = some m.cls := findClass_of_methodNamed Bd.named
  have hnm := (name_of_methodNamed Bd.named Bd.method).1
  have X0 : Stand p l e ({ frames := 5, cells := 5, slots := 32, locals := 71 } : Room) s m #[(.ref a1)] below meth c s₁ [] 0 0 := Stand.of_body Bd
  have e0 : s₁.heap = h0 := by rw [← hh, Bd.state]; rfl
  have N0 := Fr.nil n0
  have K0 := Keep.refl h0 []
  have pre0 : ∀ t, Steps p.tables e below (s₁.setTop (mkF m 0 #[.val (.ref a1), .unset, .unset, .unset, .unset, .unset, .unset, .unset] [])) t → Steps p.tables e below (s₁.setTop (entryFrame m #[(.ref a1)] 8)) t := fun t k => castTop (ef_1_4 m a1) k
  obtain ⟨cl1, Ar1, q1, S1, M1, H1, G1⟩ := id V_a
  have hin2 : ¬ ((0 : Int32) < 0 ∨ cl1.slots.size ≤ ((0 : Int32)).toNatClampNeg) := inb_of S1 ⟨by decide, by decide⟩
  have hat3 : cl1.slots[((0 : Int32)).toNatClampNeg]? = some (.int f0_) := Has.at H1 hin2 rfl
  obtain ⟨_, _, ⟨T4, L4, k4, n4⟩, -, X4, ⟨Lc4, hQ4, l4, y4, z4⟩, st4⟩ := Jvm.LawKit.callS X0 hx (y := (⟨"java/lang/Math", "max", "(II)I"⟩ : MethodName)) hown (mvT hZ (hw _ (List.mem_of_getElem? (i := 154) rfl))) (mvT hZ (hw _ (List.mem_of_getElem? (i := 155) rfl))) (mvT hZ (hw _ (List.mem_of_getElem? (i := 156) rfl))) (mvT hZ (hw _ (List.mem_of_getElem? (i := 157) rfl))) (by decide) (backOf (W := 0) (rm28 l Z a0 hw [] (1 : Int32) ((f0_ + (3 : Int32)) / (4 : Int32)) h0 ) hZ (hw _ (List.mem_of_getElem? (i := 157) rfl)) (hw _ (List.mem_of_getElem? (i := 156) rfl)) (by decide) (by decide)) (g := (mkF m 50 #[vR a1, vI 1, vR a1, vI 4, vI 0, vI f0_, .unset, .unset] [iI ((f0_ + (3 : Int32)) / (4 : Int32)), iI 1])) rfl (by rw [hml]; rfl) (argsL := [(.int (1 : Int32)), (.int ((f0_ + (3 : Int32)) / (4 : Int32)))]) (rest := []) (lenOf pd_16 rfl) rfl (by show 2 * 0 + _ ≤ _; exact Nat.le_of_eq rfl) (hb hby d1_50) (fun _ _ => ⟨rfl, e0, (by decide : 0 + 0 ≤ _), (by decide : 0 + 0 ≤ _)⟩)
  dsimp only [Pt.U, Pt.locs, Pt.cells, Pt.slots] at X4 l4 y4 z4 st4 hQ4
  subst l4 y4 z4
  obtain ⟨rfl, rfl, e4⟩ := hQ4
  try rw [List.append_nil] at X4
  have hin5 : ¬ ((1 : Int32) < 0 ∨ cl1.slots.size ≤ ((1 : Int32)).toNatClampNeg) := inb_of S1 ⟨by decide, by decide⟩
  have hat6 : cl1.slots[((1 : Int32)).toNatClampNeg]? = some (.int f1_) := Has.at H1 hin5 rfl
  obtain ⟨_, _, ⟨T7, L7, k7, n7⟩, -, X7, ⟨Lc7, hQ7, l7, y7, z7⟩, st7⟩ := Jvm.LawKit.callS X4 hx (y := (⟨"java/lang/Math", "max", "(II)I"⟩ : MethodName)) hown (mvT hZ (hw _ (List.mem_of_getElem? (i := 154) rfl))) (mvT hZ (hw _ (List.mem_of_getElem? (i := 155) rfl))) (mvT hZ (hw _ (List.mem_of_getElem? (i := 156) rfl))) (mvT hZ (hw _ (List.mem_of_getElem? (i := 157) rfl))) (by decide) (backOf (W := 0) (rm28 l Z a0 hw [] (own_len1 f0_) ((f1_ + (3 : Int32)) / (4 : Int32)) h0 ) hZ (hw _ (List.mem_of_getElem? (i := 157) rfl)) (hw _ (List.mem_of_getElem? (i := 156) rfl)) (by decide) (by decide)) (g := (mkF m 50 #[vR a1, vI (own_len1 f0_), vR a1, vI 4, vI 1, vI f1_, .unset, .unset] [iI ((f1_ + (3 : Int32)) / (4 : Int32)), iI (own_len1 f0_)])) rfl (by rw [hml]; rfl) (argsL := [(.int (own_len1 f0_)), (.int ((f1_ + (3 : Int32)) / (4 : Int32)))]) (rest := []) (lenOf pd_16 rfl) rfl (by show 2 * 0 + _ ≤ _; exact Nat.le_of_eq rfl) (hb hby d1_50) (fun _ _ => ⟨rfl, e4, (by decide : 0 + 0 ≤ _), (by decide : 0 + 0 ≤ _)⟩)
  dsimp only [Pt.U, Pt.locs, Pt.cells, Pt.slots] at X7 l7 y7 z7 st7 hQ7
  subst l7 y7 z7
  obtain ⟨rfl, rfl, e7⟩ := hQ7
  try rw [List.append_nil] at X7
  have hin8 : ¬ ((2 : Int32) < 0 ∨ cl1.slots.size ≤ ((2 : Int32)).toNatClampNeg) := inb_of S1 ⟨by decide, by decide⟩
  have hat9 : cl1.slots[((2 : Int32)).toNatClampNeg]? = some (.int f2_) := Has.at H1 hin8 rfl
  obtain ⟨_, _, ⟨T10, L10, k10, n10⟩, -, X10, ⟨Lc10, hQ10, l10, y10, z10⟩, st10⟩ := Jvm.LawKit.callS X7 hx (y := (⟨"java/lang/Math", "max", "(II)I"⟩ : MethodName)) hown (mvT hZ (hw _ (List.mem_of_getElem? (i := 154) rfl))) (mvT hZ (hw _ (List.mem_of_getElem? (i := 155) rfl))) (mvT hZ (hw _ (List.mem_of_getElem? (i := 156) rfl))) (mvT hZ (hw _ (List.mem_of_getElem? (i := 157) rfl))) (by decide) (backOf (W := 0) (rm28 l Z a0 hw [] (own_len2 f0_ f1_) ((f2_ + (3 : Int32)) / (4 : Int32)) h0 ) hZ (hw _ (List.mem_of_getElem? (i := 157) rfl)) (hw _ (List.mem_of_getElem? (i := 156) rfl)) (by decide) (by decide)) (g := (mkF m 50 #[vR a1, vI (own_len2 f0_ f1_), vR a1, vI 4, vI 2, vI f2_, .unset, .unset] [iI ((f2_ + (3 : Int32)) / (4 : Int32)), iI (own_len2 f0_ f1_)])) rfl (by rw [hml]; rfl) (argsL := [(.int (own_len2 f0_ f1_)), (.int ((f2_ + (3 : Int32)) / (4 : Int32)))]) (rest := []) (lenOf pd_16 rfl) rfl (by show 2 * 0 + _ ≤ _; exact Nat.le_of_eq rfl) (hb hby d1_50) (fun _ _ => ⟨rfl, e7, (by decide : 0 + 0 ≤ _), (by decide : 0 + 0 ≤ _)⟩)
  dsimp only [Pt.U, Pt.locs, Pt.cells, Pt.slots] at X10 l10 y10 z10 st10 hQ10
  subst l10 y10 z10
  obtain ⟨rfl, rfl, e10⟩ := hQ10
  try rw [List.append_nil] at X10
  have hin11 : ¬ ((3 : Int32) < 0 ∨ cl1.slots.size ≤ ((3 : Int32)).toNatClampNeg) := inb_of S1 ⟨by decide, by decide⟩
  have hat12 : cl1.slots[((3 : Int32)).toNatClampNeg]? = some (.int f3_) := Has.at H1 hin11 rfl
  obtain ⟨_, _, ⟨T13, L13, k13, n13⟩, -, X13, ⟨Lc13, hQ13, l13, y13, z13⟩, st13⟩ := Jvm.LawKit.callS X10 hx (y := (⟨"java/lang/Math", "max", "(II)I"⟩ : MethodName)) hown (mvT hZ (hw _ (List.mem_of_getElem? (i := 154) rfl))) (mvT hZ (hw _ (List.mem_of_getElem? (i := 155) rfl))) (mvT hZ (hw _ (List.mem_of_getElem? (i := 156) rfl))) (mvT hZ (hw _ (List.mem_of_getElem? (i := 157) rfl))) (by decide) (backOf (W := 0) (rm28 l Z a0 hw [] (own_len3 f0_ f1_ f2_) ((f3_ + (3 : Int32)) / (4 : Int32)) h0 ) hZ (hw _ (List.mem_of_getElem? (i := 157) rfl)) (hw _ (List.mem_of_getElem? (i := 156) rfl)) (by decide) (by decide)) (g := (mkF m 50 #[vR a1, vI (own_len3 f0_ f1_ f2_), vR a1, vI 4, vI 3, vI f3_, .unset, .unset] [iI ((f3_ + (3 : Int32)) / (4 : Int32)), iI (own_len3 f0_ f1_ f2_)])) rfl (by rw [hml]; rfl) (argsL := [(.int (own_len3 f0_ f1_ f2_)), (.int ((f3_ + (3 : Int32)) / (4 : Int32)))]) (rest := []) (lenOf pd_16 rfl) rfl (by show 2 * 0 + _ ≤ _; exact Nat.le_of_eq rfl) (hb hby d1_50) (fun _ _ => ⟨rfl, e10, (by decide : 0 + 0 ≤ _), (by decide : 0 + 0 ≤ _)⟩)
  dsimp only [Pt.U, Pt.locs, Pt.cells, Pt.slots] at X13 l13 y13 z13 st13 hQ13
  subst l13 y13 z13
  obtain ⟨rfl, rfl, e13⟩ := hQ13
  try rw [List.append_nil] at X13
  have hO := own_lenOK4 hf0 hf1 hf2 hf3
  have hL := own_lens hO.1 hO.2.1
  obtain ⟨T14, h14, k14, X14, e14, E14, A14, st14⟩ := newP X13 hx hZ (hw _ (List.mem_of_getElem? (i := 1) rfl)) e13 (g := (mkF m 61 #[vR a1, vI (own_len4 f0_ f1_ f2_ f3_), vR a1, vI 4, vI 4, vI f3_, .unset, .unset] [iI (own_len4 f0_ f1_ f2_ f3_)])) rfl (hb hby d1_61) rfl hL.1 (cap := 8) hL.2.1 (by decide) (by decide) (by decide)
  obtain ⟨b14, g14⟩ : ∃ z, z = h0.size := ⟨_, rfl⟩
  rw [← g14] at A14 st14
  have ne_a1_b14 : a1 ≠ b14 := Nat.ne_of_lt (Nat.lt_of_lt_of_le V_a.lt (Nat.le_of_eq g14.symm))
  have sz_b14 : h0.size ≤ b14 := Nat.le_trans K0.1 (Nat.le_of_eq g14.symm)
  have g_b14 : n0 ≤ b14 := Nat.le_trans Z0 sz_b14
  have K14 : Keep h0 h14 [] := K0.ext E14
  have V14 : Arv Z h14 b14 k14 .int (own_len4 f0_ f1_ f2_ f3_) [(.int (0 : Int32)), (.int (0 : Int32)), (.int (0 : Int32)), (.int (0 : Int32)), (.int (0 : Int32)), (.int (0 : Int32)), (.int (0 : Int32)), (.int (0 : Int32))] (.int (0 : Int32)) := (Arv.new A14 hL.1).pad (pad_rep [] (.int (0 : Int32)) 8)
  have fk15 := (V_a.ext E14)
  obtain ⟨cl16, Ar16, q16, S16, M16, H16, G16⟩ := id fk15
  have hin17 : ¬ ((0 : Int32) < 0 ∨ cl16.slots.size ≤ ((0 : Int32)).toNatClampNeg) := inb_of S16 ⟨by decide, by decide⟩
  have hat18 : cl16.slots[((0 : Int32)).toNatClampNeg]? = some (.int f0_) := Has.at H16 hin17 rfl
  obtain ⟨cl19, Ar19, q19, S19, M19, H19, G19⟩ := id V14
  have hin20 : ¬ ((((own_len4 f0_ f1_ f2_ f3_) - (1 : Int32)) - ((f0_ - (1 : Int32)) / (4 : Int32))) < 0 ∨ cl19.slots.size ≤ ((((own_len4 f0_ f1_ f2_ f3_) - (1 : Int32)) - ((f0_ - (1 : Int32)) / (4 : Int32)))).toNatClampNeg) := inb_of S19 ⟨(own_ix hf0 hO.2.2.1 hO.2.1).1, (own_ix hf0 hO.2.2.1 hO.2.1).2.1⟩
  have hat21 : cl19.slots[((((own_len4 f0_ f1_ f2_ f3_) - (1 : Int32)) - ((f0_ - (1 : Int32)) / (4 : Int32)))).toNatClampNeg]? = some (.int (own_R4_0 f0_ f1_ f2_ f3_)) := Has.at H19 hin20 (own_at8L (own_ix hf0 hO.2.2.1 hO.2.1).1 (own_ix hf0 hO.2.2.1 hO.2.1).2.2)
  have hin22 : ¬ ((((own_len4 f0_ f1_ f2_ f3_) - (1 : Int32)) - ((f0_ - (1 : Int32)) / (4 : Int32))) < 0 ∨ cl19.slots.size ≤ ((((own_len4 f0_ f1_ f2_ f3_) - (1 : Int32)) - ((f0_ - (1 : Int32)) / (4 : Int32)))).toNatClampNeg) := inb_of S19 ⟨(own_ix hf0 hO.2.2.1 hO.2.1).1, (own_ix hf0 hO.2.2.1 hO.2.1).2.1⟩
  obtain ⟨T23, h23, X23, e23, W23, st23⟩ := stI X14 hx hZ e14 Ar19 (j := (((own_len4 f0_ f1_ f2_ f3_) - (1 : Int32)) - ((f0_ - (1 : Int32)) / (4 : Int32)))) hin22 (g := (mkF m 108 #[vR a1, vI (own_len4 f0_ f1_ f2_ f3_), vR b14, vR a1, vI 4, vI 0, vI f0_, .unset] [iI ((own_R4_0 f0_ f1_ f2_ f3_) ||| ((1 : Int32) <<< (((f0_ - (1 : Int32)) % (4 : Int32)) &&& 31))), iI (((own_len4 f0_ f1_ f2_ f3_) - (1 : Int32)) - ((f0_ - (1 : Int32)) / (4 : Int32))), iR b14])) rfl rfl (hb hby d1_108)
  have V23 : Arv Z h23 b14 k14 .int (own_len4 f0_ f1_ f2_ f3_) [(.int (own_C4_1 f0_ f1_ f2_ f3_ (0 : Int32))), (.int (own_C4_1 f0_ f1_ f2_ f3_ (1 : Int32))), (.int (own_C4_1 f0_ f1_ f2_ f3_ (2 : Int32))), (.int (own_C4_1 f0_ f1_ f2_ f3_ (3 : Int32))), (.int (own_C4_1 f0_ f1_ f2_ f3_ (4 : Int32))), (.int (own_C4_1 f0_ f1_ f2_ f3_ (5 : Int32))), (.int (own_C4_1 f0_ f1_ f2_ f3_ (6 : Int32))), (.int (own_C4_1 f0_ f1_ f2_ f3_ (7 : Int32)))] (.int (0 : Int32)) := own_putV Ar19 q19 S19 M19 H19 G19 W23 (own_ix hf0 hO.2.2.1 hO.2.1).1 (own_ix hf0 hO.2.2.1 hO.2.1).2.2
  have K23 : Keep h0 h23 [] := K14.wr W23 (Or.inr sz_b14)
  have N23 := Fr.snoc X23 N0 g_b14
  have fk24 := (fk15.other W23 ne_a1_b14)
  obtain ⟨cl25, Ar25, q25, S25, M25, H25, G25⟩ := id fk24
  have hin26 : ¬ ((1 : Int32) < 0 ∨ cl25.slots.size ≤ ((1 : Int32)).toNatClampNeg) := inb_of S25 ⟨by decide, by decide⟩
  have hat27 : cl25.slots[((1 : Int32)).toNatClampNeg]? = some (.int f1_) := Has.at H25 hin26 rfl
  obtain ⟨cl28, Ar28, q28, S28, M28, H28, G28⟩ := id V23
  have hin29 : ¬ ((((own_len4 f0_ f1_ f2_ f3_) - (1 : Int32)) - ((f1_ - (1 : Int32)) / (4 : Int32))) < 0 ∨ cl28.slots.size ≤ ((((own_len4 f0_ f1_ f2_ f3_) - (1 : Int32)) - ((f1_ - (1 : Int32)) / (4 : Int32)))).toNatClampNeg) := inb_of S28 ⟨(own_ix hf1 hO.2.2.2.1 hO.2.1).1, (own_ix hf1 hO.2.2.2.1 hO.2.1).2.1⟩
  have hat30 : cl28.slots[((((own_len4 f0_ f1_ f2_ f3_) - (1 : Int32)) - ((f1_ - (1 : Int32)) / (4 : Int32)))).toNatClampNeg]? = some (.int (own_R4_1 f0_ f1_ f2_ f3_)) := Has.at H28 hin29 (own_at8L (own_ix hf1 hO.2.2.2.1 hO.2.1).1 (own_ix hf1 hO.2.2.2.1 hO.2.1).2.2)
  have hin31 : ¬ ((((own_len4 f0_ f1_ f2_ f3_) - (1 : Int32)) - ((f1_ - (1 : Int32)) / (4 : Int32))) < 0 ∨ cl28.slots.size ≤ ((((own_len4 f0_ f1_ f2_ f3_) - (1 : Int32)) - ((f1_ - (1 : Int32)) / (4 : Int32)))).toNatClampNeg) := inb_of S28 ⟨(own_ix hf1 hO.2.2.2.1 hO.2.1).1, (own_ix hf1 hO.2.2.2.1 hO.2.1).2.1⟩
  obtain ⟨T32, h32, X32, e32, W32, st32⟩ := stI X23 hx hZ e23 Ar28 (j := (((own_len4 f0_ f1_ f2_ f3_) - (1 : Int32)) - ((f1_ - (1 : Int32)) / (4 : Int32)))) hin31 (g := (mkF m 108 #[vR a1, vI (own_len4 f0_ f1_ f2_ f3_), vR b14, vR a1, vI 4, vI 1, vI f1_, .unset] [iI ((own_R4_1 f0_ f1_ f2_ f3_) ||| ((1 : Int32) <<< (((f1_ - (1 : Int32)) % (4 : Int32)) &&& 31))), iI (((own_len4 f0_ f1_ f2_ f3_) - (1 : Int32)) - ((f1_ - (1 : Int32)) / (4 : Int32))), iR b14])) rfl rfl (hb hby d1_108)
  have V32 : Arv Z h32 b14 k14 .int (own_len4 f0_ f1_ f2_ f3_) [(.int (own_C4_2 f0_ f1_ f2_ f3_ (0 : Int32))), (.int (own_C4_2 f0_ f1_ f2_ f3_ (1 : Int32))), (.int (own_C4_2 f0_ f1_ f2_ f3_ (2 : Int32))), (.int (own_C4_2 f0_ f1_ f2_ f3_ (3 : Int32))), (.int (own_C4_2 f0_ f1_ f2_ f3_ (4 : Int32))), (.int (own_C4_2 f0_ f1_ f2_ f3_ (5 : Int32))), (.int (own_C4_2 f0_ f1_ f2_ f3_ (6 : Int32))), (.int (own_C4_2 f0_ f1_ f2_ f3_ (7 : Int32)))] (.int (0 : Int32)) := own_putV Ar28 q28 S28 M28 H28 G28 W32 (own_ix hf1 hO.2.2.2.1 hO.2.1).1 (own_ix hf1 hO.2.2.2.1 hO.2.1).2.2
  have K32 : Keep h0 h32 [] := K23.wr W32 (Or.inr sz_b14)
  have N32 := Fr.snoc X32 N23 g_b14
  have fk33 := (fk24.other W32 ne_a1_b14)
  obtain ⟨cl34, Ar34, q34, S34, M34, H34, G34⟩ := id fk33
  have hin35 : ¬ ((2 : Int32) < 0 ∨ cl34.slots.size ≤ ((2 : Int32)).toNatClampNeg) := inb_of S34 ⟨by decide, by decide⟩
  have hat36 : cl34.slots[((2 : Int32)).toNatClampNeg]? = some (.int f2_) := Has.at H34 hin35 rfl
  obtain ⟨cl37, Ar37, q37, S37, M37, H37, G37⟩ := id V32
  have hin38 : ¬ ((((own_len4 f0_ f1_ f2_ f3_) - (1 : Int32)) - ((f2_ - (1 : Int32)) / (4 : Int32))) < 0 ∨ cl37.slots.size ≤ ((((own_len4 f0_ f1_ f2_ f3_) - (1 : Int32)) - ((f2_ - (1 : Int32)) / (4 : Int32)))).toNatClampNeg) := inb_of S37 ⟨(own_ix hf2 hO.2.2.2.2.1 hO.2.1).1, (own_ix hf2 hO.2.2.2.2.1 hO.2.1).2.1⟩
  have hat39 : cl37.slots[((((own_len4 f0_ f1_ f2_ f3_) - (1 : Int32)) - ((f2_ - (1 : Int32)) / (4 : Int32)))).toNatClampNeg]? = some (.int (own_R4_2 f0_ f1_ f2_ f3_)) := Has.at H37 hin38 (own_at8L (own_ix hf2 hO.2.2.2.2.1 hO.2.1).1 (own_ix hf2 hO.2.2.2.2.1 hO.2.1).2.2)
  have hin40 : ¬ ((((own_len4 f0_ f1_ f2_ f3_) - (1 : Int32)) - ((f2_ - (1 : Int32)) / (4 : Int32))) < 0 ∨ cl37.slots.size ≤ ((((own_len4 f0_ f1_ f2_ f3_) - (1 : Int32)) - ((f2_ - (1 : Int32)) / (4 : Int32)))).toNatClampNeg) := inb_of S37 ⟨(own_ix hf2 hO.2.2.2.2.1 hO.2.1).1, (own_ix hf2 hO.2.2.2.2.1 hO.2.1).2.1⟩
  obtain ⟨T41, h41, X41, e41, W41, st41⟩ := stI X32 hx hZ e32 Ar37 (j := (((own_len4 f0_ f1_ f2_ f3_) - (1 : Int32)) - ((f2_ - (1 : Int32)) / (4 : Int32)))) hin40 (g := (mkF m 108 #[vR a1, vI (own_len4 f0_ f1_ f2_ f3_), vR b14, vR a1, vI 4, vI 2, vI f2_, .unset] [iI ((own_R4_2 f0_ f1_ f2_ f3_) ||| ((1 : Int32) <<< (((f2_ - (1 : Int32)) % (4 : Int32)) &&& 31))), iI (((own_len4 f0_ f1_ f2_ f3_) - (1 : Int32)) - ((f2_ - (1 : Int32)) / (4 : Int32))), iR b14])) rfl rfl (hb hby d1_108)
  have V41 : Arv Z h41 b14 k14 .int (own_len4 f0_ f1_ f2_ f3_) [(.int (own_C4_3 f0_ f1_ f2_ f3_ (0 : Int32))), (.int (own_C4_3 f0_ f1_ f2_ f3_ (1 : Int32))), (.int (own_C4_3 f0_ f1_ f2_ f3_ (2 : Int32))), (.int (own_C4_3 f0_ f1_ f2_ f3_ (3 : Int32))), (.int (own_C4_3 f0_ f1_ f2_ f3_ (4 : Int32))), (.int (own_C4_3 f0_ f1_ f2_ f3_ (5 : Int32))), (.int (own_C4_3 f0_ f1_ f2_ f3_ (6 : Int32))), (.int (own_C4_3 f0_ f1_ f2_ f3_ (7 : Int32)))] (.int (0 : Int32)) := own_putV Ar37 q37 S37 M37 H37 G37 W41 (own_ix hf2 hO.2.2.2.2.1 hO.2.1).1 (own_ix hf2 hO.2.2.2.2.1 hO.2.1).2.2
  have K41 : Keep h0 h41 [] := K32.wr W41 (Or.inr sz_b14)
  have N41 := Fr.snoc X41 N32 g_b14
  have fk42 := (fk33.other W41 ne_a1_b14)
  obtain ⟨cl43, Ar43, q43, S43, M43, H43, G43⟩ := id fk42
  have hin44 : ¬ ((3 : Int32) < 0 ∨ cl43.slots.size ≤ ((3 : Int32)).toNatClampNeg) := inb_of S43 ⟨by decide, by decide⟩
  have hat45 : cl43.slots[((3 : Int32)).toNatClampNeg]? = some (.int f3_) := Has.at H43 hin44 rfl
  obtain ⟨cl46, Ar46, q46, S46, M46, H46, G46⟩ := id V41
  have hin47 : ¬ ((((own_len4 f0_ f1_ f2_ f3_) - (1 : Int32)) - ((f3_ - (1 : Int32)) / (4 : Int32))) < 0 ∨ cl46.slots.size ≤ ((((own_len4 f0_ f1_ f2_ f3_) - (1 : Int32)) - ((f3_ - (1 : Int32)) / (4 : Int32)))).toNatClampNeg) := inb_of S46 ⟨(own_ix hf3 hO.2.2.2.2.2 hO.2.1).1, (own_ix hf3 hO.2.2.2.2.2 hO.2.1).2.1⟩
  have hat48 : cl46.slots[((((own_len4 f0_ f1_ f2_ f3_) - (1 : Int32)) - ((f3_ - (1 : Int32)) / (4 : Int32)))).toNatClampNeg]? = some (.int (own_R4_3 f0_ f1_ f2_ f3_)) := Has.at H46 hin47 (own_at8L (own_ix hf3 hO.2.2.2.2.2 hO.2.1).1 (own_ix hf3 hO.2.2.2.2.2 hO.2.1).2.2)
  have hin49 : ¬ ((((own_len4 f0_ f1_ f2_ f3_) - (1 : Int32)) - ((f3_ - (1 : Int32)) / (4 : Int32))) < 0 ∨ cl46.slots.size ≤ ((((own_len4 f0_ f1_ f2_ f3_) - (1 : Int32)) - ((f3_ - (1 : Int32)) / (4 : Int32)))).toNatClampNeg) := inb_of S46 ⟨(own_ix hf3 hO.2.2.2.2.2 hO.2.1).1, (own_ix hf3 hO.2.2.2.2.2 hO.2.1).2.1⟩
  obtain ⟨T50, h50, X50, e50, W50, st50⟩ := stI X41 hx hZ e41 Ar46 (j := (((own_len4 f0_ f1_ f2_ f3_) - (1 : Int32)) - ((f3_ - (1 : Int32)) / (4 : Int32)))) hin49 (g := (mkF m 108 #[vR a1, vI (own_len4 f0_ f1_ f2_ f3_), vR b14, vR a1, vI 4, vI 3, vI f3_, .unset] [iI ((own_R4_3 f0_ f1_ f2_ f3_) ||| ((1 : Int32) <<< (((f3_ - (1 : Int32)) % (4 : Int32)) &&& 31))), iI (((own_len4 f0_ f1_ f2_ f3_) - (1 : Int32)) - ((f3_ - (1 : Int32)) / (4 : Int32))), iR b14])) rfl rfl (hb hby d1_108)
  have V50 : Arv Z h50 b14 k14 .int (own_len4 f0_ f1_ f2_ f3_) [(.int (own_C4_4 f0_ f1_ f2_ f3_ (0 : Int32))), (.int (own_C4_4 f0_ f1_ f2_ f3_ (1 : Int32))), (.int (own_C4_4 f0_ f1_ f2_ f3_ (2 : Int32))), (.int (own_C4_4 f0_ f1_ f2_ f3_ (3 : Int32))), (.int (own_C4_4 f0_ f1_ f2_ f3_ (4 : Int32))), (.int (own_C4_4 f0_ f1_ f2_ f3_ (5 : Int32))), (.int (own_C4_4 f0_ f1_ f2_ f3_ (6 : Int32))), (.int (own_C4_4 f0_ f1_ f2_ f3_ (7 : Int32)))] (.int (0 : Int32)) := own_putV Ar46 q46 S46 M46 H46 G46 W50 (own_ix hf3 hO.2.2.2.2.2 hO.2.1).1 (own_ix hf3 hO.2.2.2.2.2 hO.2.1).2.2
  have K50 : Keep h0 h50 [] := K41.wr W50 (Or.inr sz_b14)
  have N50 := Fr.snoc X50 N41 g_b14
  have pre51 : ∀ t, Steps p.tables e below (T50.setTop (mkF m 115 #[vR a1, vI (own_len4 f0_ f1_ f2_ f3_), vR b14, vR a1, vI 4, vI 4, vI f3_, .unset] [])) t → Steps p.tables e below (s₁.setTop (entryFrame m #[(.ref a1)] 8)) t := by
    intro t kt
    refine pre0 t ?_
    show Steps _ _ _ (s₁.setTop (mkF m 0 #[vR a1, .unset, .unset, .unset, .unset, .unset, .unset, .unset] [])) _
    refine XS.iconst X0.here hx rfl (hb hby d1_0) ?_
    show Steps _ _ _ (s₁.setTop (mkF m 1 #[vR a1, .unset, .unset, .unset, .unset, .unset, .unset, .unset] [iI 1])) _
    refine XS.istoreN X0.here hx rfl (hb hby d1_1) rfl (l' := #[vR a1, vI 1, .unset, .unset, .unset, .unset, .unset, .unset]) rfl ?_
    show Steps _ _ _ (s₁.setTop (mkF m 2 #[vR a1, vI 1, .unset, .unset, .unset, .unset, .unset, .unset] [])) _
    refine XS.aloadN X0.here hx rfl (hb hby d1_2) rfl rfl ?_
    show Steps _ _ _ (s₁.setTop (mkF m 3 #[vR a1, vI 1, .unset, .unset, .unset, .unset, .unset, .unset] [iR a1])) _
    refine XS.astoreN X0.here hx rfl (hb hby d1_3) rfl rfl (l' := #[vR a1, vI 1, vR a1, .unset, .unset, .unset, .unset, .unset]) rfl ?_
    show Steps _ _ _ (s₁.setTop (mkF m 4 #[vR a1, vI 1, vR a1, .unset, .unset, .unset, .unset, .unset] [])) _
    refine XS.aloadN X0.here hx rfl (hb hby d1_4) rfl rfl ?_
    show Steps _ _ _ (s₁.setTop (mkF m 5 #[vR a1, vI 1, vR a1, .unset, .unset, .unset, .unset, .unset] [iR a1])) _
    refine X0.arraylength hx (by rw [e0]; exact Ar1.1) (State.isArrayOf_alike hZ.alike Ar1.2.1) (g := (mkF m 5 #[vR a1, vI 1, vR a1, .unset, .unset, .unset, .unset, .unset] [iR a1])) rfl rfl (hb hby d1_5) _ ?_
    rw [len_of S1 M1]
    show Steps _ _ _ (s₁.setTop (mkF m 6 #[vR a1, vI 1, vR a1, .unset, .unset, .unset, .unset, .unset] [iI 4])) _
    refine XS.istoreN X0.here hx rfl (hb hby d1_6) rfl (l' := #[vR a1, vI 1, vR a1, vI 4, .unset, .unset, .unset, .unset]) rfl ?_
    show Steps _ _ _ (s₁.setTop (mkF m 7 #[vR a1, vI 1, vR a1, vI 4, .unset, .unset, .unset, .unset] [])) _
    refine XS.iconst X0.here hx rfl (hb hby d1_7) ?_
    show Steps _ _ _ (s₁.setTop (mkF m 8 #[vR a1, vI 1, vR a1, vI 4, .unset, .unset, .unset, .unset] [iI 0])) _
    refine XS.istore X0.here hx rfl (hb hby d1_8) rfl (l' := #[vR a1, vI 1, vR a1, vI 4, vI 0, .unset, .unset, .unset]) rfl ?_
    show Steps _ _ _ (s₁.setTop (mkF m 10 #[vR a1, vI 1, vR a1, vI 4, vI 0, .unset, .unset, .unset] [])) _
    refine XS.iload X0.here hx rfl (hb hby d1_10) rfl ?_
    show Steps _ _ _ (s₁.setTop (mkF m 12 #[vR a1, vI 1, vR a1, vI 4, vI 0, .unset, .unset, .unset] [iI 0])) _
    refine XS.iloadN X0.here hx rfl (hb hby d1_12) rfl ?_
    show Steps _ _ _ (s₁.setTop (mkF m 13 #[vR a1, vI 1, vR a1, vI 4, vI 0, .unset, .unset, .unset] [iI 4, iI 0])) _
    refine XS.icmpNo X0.here hx rfl (hb hby d1_13) rfl (tlt (by decide : (0 : Int32) < (4 : Int32))).2.1 ?_
    show Steps _ _ _ (s₁.setTop (mkF m 16 #[vR a1, vI 1, vR a1, vI 4, vI 0, .unset, .unset, .unset] [])) _
    refine XS.aloadN X0.here hx rfl (hb hby d1_16) rfl rfl ?_
    show Steps _ _ _ (s₁.setTop (mkF m 17 #[vR a1, vI 1, vR a1, vI 4, vI 0, .unset, .unset, .unset] [iR a1])) _
    refine XS.iload X0.here hx rfl (hb hby d1_17) rfl ?_
    show Steps _ _ _ (s₁.setTop (mkF m 19 #[vR a1, vI 1, vR a1, vI 4, vI 0, .unset, .unset, .unset] [iI 0, iR a1])) _
    refine X0.iaload hx (j := (0 : Int32)) (v := (.int f0_)) (by rw [e0]; exact Ar1.1) (State.isArrayOf_alike hZ.alike Ar1.2.1) Ar1.2.2 hin2 hat3 (g := (mkF m 19 #[vR a1, vI 1, vR a1, vI 4, vI 0, .unset, .unset, .unset] [iI 0, iR a1])) rfl rfl (hb hby d1_19) _ ?_
    show Steps _ _ _ (s₁.setTop (mkF m 20 #[vR a1, vI 1, vR a1, vI 4, vI 0, .unset, .unset, .unset] [iI f0_])) _
    refine XS.istore X0.here hx rfl (hb hby d1_20) rfl (l' := #[vR a1, vI 1, vR a1, vI 4, vI 0, vI f0_, .unset, .unset]) rfl ?_
    show Steps _ _ _ (s₁.setTop (mkF m 22 #[vR a1, vI 1, vR a1, vI 4, vI 0, vI f0_, .unset, .unset] [])) _
    refine XS.iload X0.here hx rfl (hb hby d1_22) rfl ?_
    show Steps _ _ _ (s₁.setTop (mkF m 24 #[vR a1, vI 1, vR a1, vI 4, vI 0, vI f0_, .unset, .unset] [iI f0_])) _
    refine XS.iconst X0.here hx rfl (hb hby d1_24) ?_
    show Steps _ _ _ (s₁.setTop (mkF m 25 #[vR a1, vI 1, vR a1, vI 4, vI 0, vI f0_, .unset, .unset] [iI 1, iI f0_])) _
    refine XS.icmpYes X0.here hx rfl (pc0 := 25) (pc' := 43) rfl (hb hby d1_25) rfl (flt hf0.1).2.1 (by decide) (by decide) ?_
    show Steps _ _ _ (s₁.setTop (mkF m 43 #[vR a1, vI 1, vR a1, vI 4, vI 0, vI f0_, .unset, .unset] [])) _
    refine XS.iloadN X0.here hx rfl (hb hby d1_43) rfl ?_
    show Steps _ _ _ (s₁.setTop (mkF m 44 #[vR a1, vI 1, vR a1, vI 4, vI 0, vI f0_, .unset, .unset] [iI 1])) _
    refine XS.iload X0.here hx rfl (hb hby d1_44) rfl ?_
    show Steps _ _ _ (s₁.setTop (mkF m 46 #[vR a1, vI 1, vR a1, vI 4, vI 0, vI f0_, .unset, .unset] [iI f0_, iI 1])) _
    refine XS.iconst X0.here hx rfl (hb hby d1_46) ?_
    show Steps _ _ _ (s₁.setTop (mkF m 47 #[vR a1, vI 1, vR a1, vI 4, vI 0, vI f0_, .unset, .unset] [iI 3, iI f0_, iI 1])) _
    refine XS.iadd X0.here hx rfl (hb hby d1_47) rfl ?_
    show Steps _ _ _ (s₁.setTop (mkF m 48 #[vR a1, vI 1, vR a1, vI 4, vI 0, vI f0_, .unset, .unset] [iI (f0_ + (3 : Int32)), iI 1])) _
    refine XS.iconst X0.here hx rfl (hb hby d1_48) ?_
    show Steps _ _ _ (s₁.setTop (mkF m 49 #[vR a1, vI 1, vR a1, vI 4, vI 0, vI f0_, .unset, .unset] [iI 4, iI (f0_ + (3 : Int32)), iI 1])) _
    refine XS.idiv X0.here hx rfl (hb hby d1_49) rfl (by decide) ?_
    show Steps _ _ _ (s₁.setTop (mkF m 50 #[vR a1, vI 1, vR a1, vI 4, vI 0, vI f0_, .unset, .unset] [iI ((f0_ + (3 : Int32)) / (4 : Int32)), iI 1])) _
    refine st4 _ ?_
    show Steps _ _ _ (T4.setTop (mkF m 53 #[vR a1, vI 1, vR a1, vI 4, vI 0, vI f0_, .unset, .unset] [iI (own_len1 f0_)])) _
    refine XS.istoreN X4.here hx rfl (hb hby d1_53) rfl (l' := #[vR a1, vI (own_len1 f0_), vR a1, vI 4, vI 0, vI f0_, .unset, .unset]) rfl ?_
    show Steps _ _ _ (T4.setTop (mkF m 54 #[vR a1, vI (own_len1 f0_), vR a1, vI 4, vI 0, vI f0_, .unset, .unset] [])) _
    refine XS.iinc X4.here hx rfl (hb hby d1_54) rfl (l' := #[vR a1, vI (own_len1 f0_), vR a1, vI 4, vI ((0 : Int32) + (1 : Int32)), vI f0_, .unset, .unset]) rfl ?_
    rw [(by decide : ((0 : Int32) + (1 : Int32)) = (1 : Int32))]
    show Steps _ _ _ (T4.setTop (mkF m 57 #[vR a1, vI (own_len1 f0_), vR a1, vI 4, vI 1, vI f0_, .unset, .unset] [])) _
    refine XS.goto X4.here hx rfl (pc0 := 57) (pc' := 10) rfl (hb hby d1_57) (by decide) (by decide) ?_
    show Steps _ _ _ (T4.setTop (mkF m 10 #[vR a1, vI (own_len1 f0_), vR a1, vI 4, vI 1, vI f0_, .unset, .unset] [])) _
    refine XS.iload X4.here hx rfl (hb hby d1_10) rfl ?_
    show Steps _ _ _ (T4.setTop (mkF m 12 #[vR a1, vI (own_len1 f0_), vR a1, vI 4, vI 1, vI f0_, .unset, .unset] [iI 1])) _
    refine XS.iloadN X4.here hx rfl (hb hby d1_12) rfl ?_
    show Steps _ _ _ (T4.setTop (mkF m 13 #[vR a1, vI (own_len1 f0_), vR a1, vI 4, vI 1, vI f0_, .unset, .unset] [iI 4, iI 1])) _
    refine XS.icmpNo X4.here hx rfl (hb hby d1_13) rfl (tlt (by decide : (1 : Int32) < (4 : Int32))).2.1 ?_
    show Steps _ _ _ (T4.setTop (mkF m 16 #[vR a1, vI (own_len1 f0_), vR a1, vI 4, vI 1, vI f0_, .unset, .unset] [])) _
    refine XS.aloadN X4.here hx rfl (hb hby d1_16) rfl rfl ?_
    show Steps _ _ _ (T4.setTop (mkF m 17 #[vR a1, vI (own_len1 f0_), vR a1, vI 4, vI 1, vI f0_, .unset, .unset] [iR a1])) _
    refine XS.iload X4.here hx rfl (hb hby d1_17) rfl ?_
    show Steps _ _ _ (T4.setTop (mkF m 19 #[vR a1, vI (own_len1 f0_), vR a1, vI 4, vI 1, vI f0_, .unset, .unset] [iI 1, iR a1])) _
    refine X4.iaload hx (j := (1 : Int32)) (v := (.int f1_)) (by rw [e4]; exact Ar1.1) (State.isArrayOf_alike hZ.alike Ar1.2.1) Ar1.2.2 hin5 hat6 (g := (mkF m 19 #[vR a1, vI (own_len1 f0_), vR a1, vI 4, vI 1, vI f0_, .unset, .unset] [iI 1, iR a1])) rfl rfl (hb hby d1_19) _ ?_
    show Steps _ _ _ (T4.setTop (mkF m 20 #[vR a1, vI (own_len1 f0_), vR a1, vI 4, vI 1, vI f0_, .unset, .unset] [iI f1_])) _
    refine XS.istore X4.here hx rfl (hb hby d1_20) rfl (l' := #[vR a1, vI (own_len1 f0_), vR a1, vI 4, vI 1, vI f1_, .unset, .unset]) rfl ?_
    show Steps _ _ _ (T4.setTop (mkF m 22 #[vR a1, vI (own_len1 f0_), vR a1, vI 4, vI 1, vI f1_, .unset, .unset] [])) _
    refine XS.iload X4.here hx rfl (hb hby d1_22) rfl ?_
    show Steps _ _ _ (T4.setTop (mkF m 24 #[vR a1, vI (own_len1 f0_), vR a1, vI 4, vI 1, vI f1_, .unset, .unset] [iI f1_])) _
    refine XS.iconst X4.here hx rfl (hb hby d1_24) ?_
    show Steps _ _ _ (T4.setTop (mkF m 25 #[vR a1, vI (own_len1 f0_), vR a1, vI 4, vI 1, vI f1_, .unset, .unset] [iI 1, iI f1_])) _
    refine XS.icmpYes X4.here hx rfl (pc0 := 25) (pc' := 43) rfl (hb hby d1_25) rfl (flt hf1.1).2.1 (by decide) (by decide) ?_
    show Steps _ _ _ (T4.setTop (mkF m 43 #[vR a1, vI (own_len1 f0_), vR a1, vI 4, vI 1, vI f1_, .unset, .unset] [])) _
    refine XS.iloadN X4.here hx rfl (hb hby d1_43) rfl ?_
    show Steps _ _ _ (T4.setTop (mkF m 44 #[vR a1, vI (own_len1 f0_), vR a1, vI 4, vI 1, vI f1_, .unset, .unset] [iI (own_len1 f0_)])) _
    refine XS.iload X4.here hx rfl (hb hby d1_44) rfl ?_
    show Steps _ _ _ (T4.setTop (mkF m 46 #[vR a1, vI (own_len1 f0_), vR a1, vI 4, vI 1, vI f1_, .unset, .unset] [iI f1_, iI (own_len1 f0_)])) _
    refine XS.iconst X4.here hx rfl (hb hby d1_46) ?_
    show Steps _ _ _ (T4.setTop (mkF m 47 #[vR a1, vI (own_len1 f0_), vR a1, vI 4, vI 1, vI f1_, .unset, .unset] [iI 3, iI f1_, iI (own_len1 f0_)])) _
    refine XS.iadd X4.here hx rfl (hb hby d1_47) rfl ?_
    show Steps _ _ _ (T4.setTop (mkF m 48 #[vR a1, vI (own_len1 f0_), vR a1, vI 4, vI 1, vI f1_, .unset, .unset] [iI (f1_ + (3 : Int32)), iI (own_len1 f0_)])) _
    refine XS.iconst X4.here hx rfl (hb hby d1_48) ?_
    show Steps _ _ _ (T4.setTop (mkF m 49 #[vR a1, vI (own_len1 f0_), vR a1, vI 4, vI 1, vI f1_, .unset, .unset] [iI 4, iI (f1_ + (3 : Int32)), iI (own_len1 f0_)])) _
    refine XS.idiv X4.here hx rfl (hb hby d1_49) rfl (by decide) ?_
    show Steps _ _ _ (T4.setTop (mkF m 50 #[vR a1, vI (own_len1 f0_), vR a1, vI 4, vI 1, vI f1_, .unset, .unset] [iI ((f1_ + (3 : Int32)) / (4 : Int32)), iI (own_len1 f0_)])) _
    refine st7 _ ?_
    show Steps _ _ _ (T7.setTop (mkF m 53 #[vR a1, vI (own_len1 f0_), vR a1, vI 4, vI 1, vI f1_, .unset, .unset] [iI (own_len2 f0_ f1_)])) _
    refine XS.istoreN X7.here hx rfl (hb hby d1_53) rfl (l' := #[vR a1, vI (own_len2 f0_ f1_), vR a1, vI 4, vI 1, vI f1_, .unset, .unset]) rfl ?_
    show Steps _ _ _ (T7.setTop (mkF m 54 #[vR a1, vI (own_len2 f0_ f1_), vR a1, vI 4, vI 1, vI f1_, .unset, .unset] [])) _
    refine XS.iinc X7.here hx rfl (hb hby d1_54) rfl (l' := #[vR a1, vI (own_len2 f0_ f1_), vR a1, vI 4, vI ((1 : Int32) + (1 : Int32)), vI f1_, .unset, .unset]) rfl ?_
    rw [(by decide : ((1 : Int32) + (1 : Int32)) = (2 : Int32))]
    show Steps _ _ _ (T7.setTop (mkF m 57 #[vR a1, vI (own_len2 f0_ f1_), vR a1, vI 4, vI 2, vI f1_, .unset, .unset] [])) _
    refine XS.goto X7.here hx rfl (pc0 := 57) (pc' := 10) rfl (hb hby d1_57) (by decide) (by decide) ?_
    show Steps _ _ _ (T7.setTop (mkF m 10 #[vR a1, vI (own_len2 f0_ f1_), vR a1, vI 4, vI 2, vI f1_, .unset, .unset] [])) _
    refine XS.iload X7.here hx rfl (hb hby d1_10) rfl ?_
    show Steps _ _ _ (T7.setTop (mkF m 12 #[vR a1, vI (own_len2 f0_ f1_), vR a1, vI 4, vI 2, vI f1_, .unset, .unset] [iI 2])) _
    refine XS.iloadN X7.here hx rfl (hb hby d1_12) rfl ?_
    show Steps _ _ _ (T7.setTop (mkF m 13 #[vR a1, vI (own_len2 f0_ f1_), vR a1, vI 4, vI 2, vI f1_, .unset, .unset] [iI 4, iI 2])) _
    refine XS.icmpNo X7.here hx rfl (hb hby d1_13) rfl (tlt (by decide : (2 : Int32) < (4 : Int32))).2.1 ?_
    show Steps _ _ _ (T7.setTop (mkF m 16 #[vR a1, vI (own_len2 f0_ f1_), vR a1, vI 4, vI 2, vI f1_, .unset, .unset] [])) _
    refine XS.aloadN X7.here hx rfl (hb hby d1_16) rfl rfl ?_
    show Steps _ _ _ (T7.setTop (mkF m 17 #[vR a1, vI (own_len2 f0_ f1_), vR a1, vI 4, vI 2, vI f1_, .unset, .unset] [iR a1])) _
    refine XS.iload X7.here hx rfl (hb hby d1_17) rfl ?_
    show Steps _ _ _ (T7.setTop (mkF m 19 #[vR a1, vI (own_len2 f0_ f1_), vR a1, vI 4, vI 2, vI f1_, .unset, .unset] [iI 2, iR a1])) _
    refine X7.iaload hx (j := (2 : Int32)) (v := (.int f2_)) (by rw [e7]; exact Ar1.1) (State.isArrayOf_alike hZ.alike Ar1.2.1) Ar1.2.2 hin8 hat9 (g := (mkF m 19 #[vR a1, vI (own_len2 f0_ f1_), vR a1, vI 4, vI 2, vI f1_, .unset, .unset] [iI 2, iR a1])) rfl rfl (hb hby d1_19) _ ?_
    show Steps _ _ _ (T7.setTop (mkF m 20 #[vR a1, vI (own_len2 f0_ f1_), vR a1, vI 4, vI 2, vI f1_, .unset, .unset] [iI f2_])) _
    refine XS.istore X7.here hx rfl (hb hby d1_20) rfl (l' := #[vR a1, vI (own_len2 f0_ f1_), vR a1, vI 4, vI 2, vI f2_, .unset, .unset]) rfl ?_
    show Steps _ _ _ (T7.setTop (mkF m 22 #[vR a1, vI (own_len2 f0_ f1_), vR a1, vI 4, vI 2, vI f2_, .unset, .unset] [])) _
    refine XS.iload X7.here hx rfl (hb hby d1_22) rfl ?_
    show Steps _ _ _ (T7.setTop (mkF m 24 #[vR a1, vI (own_len2 f0_ f1_), vR a1, vI 4, vI 2, vI f2_, .unset, .unset] [iI f2_])) _
    refine XS.iconst X7.here hx rfl (hb hby d1_24) ?_
    show Steps _ _ _ (T7.setTop (mkF m 25 #[vR a1, vI (own_len2 f0_ f1_), vR a1, vI 4, vI 2, vI f2_, .unset, .unset] [iI 1, iI f2_])) _
    refine XS.icmpYes X7.here hx rfl (pc0 := 25) (pc' := 43) rfl (hb hby d1_25) rfl (flt hf2.1).2.1 (by decide) (by decide) ?_
    show Steps _ _ _ (T7.setTop (mkF m 43 #[vR a1, vI (own_len2 f0_ f1_), vR a1, vI 4, vI 2, vI f2_, .unset, .unset] [])) _
    refine XS.iloadN X7.here hx rfl (hb hby d1_43) rfl ?_
    show Steps _ _ _ (T7.setTop (mkF m 44 #[vR a1, vI (own_len2 f0_ f1_), vR a1, vI 4, vI 2, vI f2_, .unset, .unset] [iI (own_len2 f0_ f1_)])) _
    refine XS.iload X7.here hx rfl (hb hby d1_44) rfl ?_
    show Steps _ _ _ (T7.setTop (mkF m 46 #[vR a1, vI (own_len2 f0_ f1_), vR a1, vI 4, vI 2, vI f2_, .unset, .unset] [iI f2_, iI (own_len2 f0_ f1_)])) _
    refine XS.iconst X7.here hx rfl (hb hby d1_46) ?_
    show Steps _ _ _ (T7.setTop (mkF m 47 #[vR a1, vI (own_len2 f0_ f1_), vR a1, vI 4, vI 2, vI f2_, .unset, .unset] [iI 3, iI f2_, iI (own_len2 f0_ f1_)])) _
    refine XS.iadd X7.here hx rfl (hb hby d1_47) rfl ?_
    show Steps _ _ _ (T7.setTop (mkF m 48 #[vR a1, vI (own_len2 f0_ f1_), vR a1, vI 4, vI 2, vI f2_, .unset, .unset] [iI (f2_ + (3 : Int32)), iI (own_len2 f0_ f1_)])) _
    refine XS.iconst X7.here hx rfl (hb hby d1_48) ?_
    show Steps _ _ _ (T7.setTop (mkF m 49 #[vR a1, vI (own_len2 f0_ f1_), vR a1, vI 4, vI 2, vI f2_, .unset, .unset] [iI 4, iI (f2_ + (3 : Int32)), iI (own_len2 f0_ f1_)])) _
    refine XS.idiv X7.here hx rfl (hb hby d1_49) rfl (by decide) ?_
    show Steps _ _ _ (T7.setTop (mkF m 50 #[vR a1, vI (own_len2 f0_ f1_), vR a1, vI 4, vI 2, vI f2_, .unset, .unset] [iI ((f2_ + (3 : Int32)) / (4 : Int32)), iI (own_len2 f0_ f1_)])) _
    refine st10 _ ?_
    show Steps _ _ _ (T10.setTop (mkF m 53 #[vR a1, vI (own_len2 f0_ f1_), vR a1, vI 4, vI 2, vI f2_, .unset, .unset] [iI (own_len3 f0_ f1_ f2_)])) _
    refine XS.istoreN X10.here hx rfl (hb hby d1_53) rfl (l' := #[vR a1, vI (own_len3 f0_ f1_ f2_), vR a1, vI 4, vI 2, vI f2_, .unset, .unset]) rfl ?_
    show Steps _ _ _ (T10.setTop (mkF m 54 #[vR a1, vI (own_len3 f0_ f1_ f2_), vR a1, vI 4, vI 2, vI f2_, .unset, .unset] [])) _
    refine XS.iinc X10.here hx rfl (hb hby d1_54) rfl (l' := #[vR a1, vI (own_len3 f0_ f1_ f2_), vR a1, vI 4, vI ((2 : Int32) + (1 : Int32)), vI f2_, .unset, .unset]) rfl ?_
    rw [(by decide : ((2 : Int32) + (1 : Int32)) = (3 : Int32))]
    show Steps _ _ _ (T10.setTop (mkF m 57 #[vR a1, vI (own_len3 f0_ f1_ f2_), vR a1, vI 4, vI 3, vI f2_, .unset, .unset] [])) _
    refine XS.goto X10.here hx rfl (pc0 := 57) (pc' := 10) rfl (hb hby d1_57) (by decide) (by decide) ?_
    show Steps _ _ _ (T10.setTop (mkF m 10 #[vR a1, vI (own_len3 f0_ f1_ f2_), vR a1, vI 4, vI 3, vI f2_, .unset, .unset] [])) _
    refine XS.iload X10.here hx rfl (hb hby d1_10) rfl ?_
    show Steps _ _ _ (T10.setTop (mkF m 12 #[vR a1, vI (own_len3 f0_ f1_ f2_), vR a1, vI 4, vI 3, vI f2_, .unset, .unset] [iI 3])) _
    refine XS.iloadN X10.here hx rfl (hb hby d1_12) rfl ?_
    show Steps _ _ _ (T10.setTop (mkF m 13 #[vR a1, vI (own_len3 f0_ f1_ f2_), vR a1, vI 4, vI 3, vI f2_, .unset, .unset] [iI 4, iI 3])) _
    refine XS.icmpNo X10.here hx rfl (hb hby d1_13) rfl (tlt (by decide : (3 : Int32) < (4 : Int32))).2.1 ?_
    show Steps _ _ _ (T10.setTop (mkF m 16 #[vR a1, vI (own_len3 f0_ f1_ f2_), vR a1, vI 4, vI 3, vI f2_, .unset, .unset] [])) _
    refine XS.aloadN X10.here hx rfl (hb hby d1_16) rfl rfl ?_
    show Steps _ _ _ (T10.setTop (mkF m 17 #[vR a1, vI (own_len3 f0_ f1_ f2_), vR a1, vI 4, vI 3, vI f2_, .unset, .unset] [iR a1])) _
    refine XS.iload X10.here hx rfl (hb hby d1_17) rfl ?_
    show Steps _ _ _ (T10.setTop (mkF m 19 #[vR a1, vI (own_len3 f0_ f1_ f2_), vR a1, vI 4, vI 3, vI f2_, .unset, .unset] [iI 3, iR a1])) _
    refine X10.iaload hx (j := (3 : Int32)) (v := (.int f3_)) (by rw [e10]; exact Ar1.1) (State.isArrayOf_alike hZ.alike Ar1.2.1) Ar1.2.2 hin11 hat12 (g := (mkF m 19 #[vR a1, vI (own_len3 f0_ f1_ f2_), vR a1, vI 4, vI 3, vI f2_, .unset, .unset] [iI 3, iR a1])) rfl rfl (hb hby d1_19) _ ?_
    show Steps _ _ _ (T10.setTop (mkF m 20 #[vR a1, vI (own_len3 f0_ f1_ f2_), vR a1, vI 4, vI 3, vI f2_, .unset, .unset] [iI f3_])) _
    refine XS.istore X10.here hx rfl (hb hby d1_20) rfl (l' := #[vR a1, vI (own_len3 f0_ f1_ f2_), vR a1, vI 4, vI 3, vI f3_, .unset, .unset]) rfl ?_
    show Steps _ _ _ (T10.setTop (mkF m 22 #[vR a1, vI (own_len3 f0_ f1_ f2_), vR a1, vI 4, vI 3, vI f3_, .unset, .unset] [])) _
    refine XS.iload X10.here hx rfl (hb hby d1_22) rfl ?_
    show Steps _ _ _ (T10.setTop (mkF m 24 #[vR a1, vI (own_len3 f0_ f1_ f2_), vR a1, vI 4, vI 3, vI f3_, .unset, .unset] [iI f3_])) _
    refine XS.iconst X10.here hx rfl (hb hby d1_24) ?_
    show Steps _ _ _ (T10.setTop (mkF m 25 #[vR a1, vI (own_len3 f0_ f1_ f2_), vR a1, vI 4, vI 3, vI f3_, .unset, .unset] [iI 1, iI f3_])) _
    refine XS.icmpYes X10.here hx rfl (pc0 := 25) (pc' := 43) rfl (hb hby d1_25) rfl (flt hf3.1).2.1 (by decide) (by decide) ?_
    show Steps _ _ _ (T10.setTop (mkF m 43 #[vR a1, vI (own_len3 f0_ f1_ f2_), vR a1, vI 4, vI 3, vI f3_, .unset, .unset] [])) _
    refine XS.iloadN X10.here hx rfl (hb hby d1_43) rfl ?_
    show Steps _ _ _ (T10.setTop (mkF m 44 #[vR a1, vI (own_len3 f0_ f1_ f2_), vR a1, vI 4, vI 3, vI f3_, .unset, .unset] [iI (own_len3 f0_ f1_ f2_)])) _
    refine XS.iload X10.here hx rfl (hb hby d1_44) rfl ?_
    show Steps _ _ _ (T10.setTop (mkF m 46 #[vR a1, vI (own_len3 f0_ f1_ f2_), vR a1, vI 4, vI 3, vI f3_, .unset, .unset] [iI f3_, iI (own_len3 f0_ f1_ f2_)])) _
    refine XS.iconst X10.here hx rfl (hb hby d1_46) ?_
    show Steps _ _ _ (T10.setTop (mkF m 47 #[vR a1, vI (own_len3 f0_ f1_ f2_), vR a1, vI 4, vI 3, vI f3_, .unset, .unset] [iI 3, iI f3_, iI (own_len3 f0_ f1_ f2_)])) _
    refine XS.iadd X10.here hx rfl (hb hby d1_47) rfl ?_
    show Steps _ _ _ (T10.setTop (mkF m 48 #[vR a1, vI (own_len3 f0_ f1_ f2_), vR a1, vI 4, vI 3, vI f3_, .unset, .unset] [iI (f3_ + (3 : Int32)), iI (own_len3 f0_ f1_ f2_)])) _
    refine XS.iconst X10.here hx rfl (hb hby d1_48) ?_
    show Steps _ _ _ (T10.setTop (mkF m 49 #[vR a1, vI (own_len3 f0_ f1_ f2_), vR a1, vI 4, vI 3, vI f3_, .unset, .unset] [iI 4, iI (f3_ + (3 : Int32)), iI (own_len3 f0_ f1_ f2_)])) _
    refine XS.idiv X10.here hx rfl (hb hby d1_49) rfl (by decide) ?_
    show Steps _ _ _ (T10.setTop (mkF m 50 #[vR a1, vI (own_len3 f0_ f1_ f2_), vR a1, vI 4, vI 3, vI f3_, .unset, .unset] [iI ((f3_ + (3 : Int32)) / (4 : Int32)), iI (own_len3 f0_ f1_ f2_)])) _
    refine st13 _ ?_
    show Steps _ _ _ (T13.setTop (mkF m 53 #[vR a1, vI (own_len3 f0_ f1_ f2_), vR a1, vI 4, vI 3, vI f3_, .unset, .unset] [iI (own_len4 f0_ f1_ f2_ f3_)])) _
    refine XS.istoreN X13.here hx rfl (hb hby d1_53) rfl (l' := #[vR a1, vI (own_len4 f0_ f1_ f2_ f3_), vR a1, vI 4, vI 3, vI f3_, .unset, .unset]) rfl ?_
    show Steps _ _ _ (T13.setTop (mkF m 54 #[vR a1, vI (own_len4 f0_ f1_ f2_ f3_), vR a1, vI 4, vI 3, vI f3_, .unset, .unset] [])) _
    refine XS.iinc X13.here hx rfl (hb hby d1_54) rfl (l' := #[vR a1, vI (own_len4 f0_ f1_ f2_ f3_), vR a1, vI 4, vI ((3 : Int32) + (1 : Int32)), vI f3_, .unset, .unset]) rfl ?_
    rw [(by decide : ((3 : Int32) + (1 : Int32)) = (4 : Int32))]
    show Steps _ _ _ (T13.setTop (mkF m 57 #[vR a1, vI (own_len4 f0_ f1_ f2_ f3_), vR a1, vI 4, vI 4, vI f3_, .unset, .unset] [])) _
    refine XS.goto X13.here hx rfl (pc0 := 57) (pc' := 10) rfl (hb hby d1_57) (by decide) (by decide) ?_
    show Steps _ _ _ (T13.setTop (mkF m 10 #[vR a1, vI (own_len4 f0_ f1_ f2_ f3_), vR a1, vI 4, vI 4, vI f3_, .unset, .unset] [])) _
    refine XS.iload X13.here hx rfl (hb hby d1_10) rfl ?_
    show Steps _ _ _ (T13.setTop (mkF m 12 #[vR a1, vI (own_len4 f0_ f1_ f2_ f3_), vR a1, vI 4, vI 4, vI f3_, .unset, .unset] [iI 4])) _
    refine XS.iloadN X13.here hx rfl (hb hby d1_12) rfl ?_
    show Steps _ _ _ (T13.setTop (mkF m 13 #[vR a1, vI (own_len4 f0_ f1_ f2_ f3_), vR a1, vI 4, vI 4, vI f3_, .unset, .unset] [iI 4, iI 4])) _
    refine XS.icmpYes X13.here hx rfl (pc0 := 13) (pc' := 60) rfl (hb hby d1_13) rfl (flt (by decide : ¬ ((4 : Int32) < (4 : Int32)))).2.1 (by decide) (by decide) ?_
    show Steps _ _ _ (T13.setTop (mkF m 60 #[vR a1, vI (own_len4 f0_ f1_ f2_ f3_), vR a1, vI 4, vI 4, vI f3_, .unset, .unset] [])) _
    refine XS.iloadN X13.here hx rfl (hb hby d1_60) rfl ?_
    show Steps _ _ _ (T13.setTop (mkF m 61 #[vR a1, vI (own_len4 f0_ f1_ f2_ f3_), vR a1, vI 4, vI 4, vI f3_, .unset, .unset] [iI (own_len4 f0_ f1_ f2_ f3_)])) _
    refine st14 _ ?_
    show Steps _ _ _ (T14.setTop (mkF m 63 #[vR a1, vI (own_len4 f0_ f1_ f2_ f3_), vR a1, vI 4, vI 4, vI f3_, .unset, .unset] [iR b14])) _
    refine XS.astoreN X14.here hx rfl (hb hby d1_63) rfl rfl (l' := #[vR a1, vI (own_len4 f0_ f1_ f2_ f3_), vR b14, vI 4, vI 4, vI f3_, .unset, .unset]) rfl ?_
    show Steps _ _ _ (T14.setTop (mkF m 64 #[vR a1, vI (own_len4 f0_ f1_ f2_ f3_), vR b14, vI 4, vI 4, vI f3_, .unset, .unset] [])) _
    refine XS.aloadN X14.here hx rfl (hb hby d1_64) rfl rfl ?_
    show Steps _ _ _ (T14.setTop (mkF m 65 #[vR a1, vI (own_len4 f0_ f1_ f2_ f3_), vR b14, vI 4, vI 4, vI f3_, .unset, .unset] [iR a1])) _
    refine XS.astoreN X14.here hx rfl (hb hby d1_65) rfl rfl (l' := #[vR a1, vI (own_len4 f0_ f1_ f2_ f3_), vR b14, vR a1, vI 4, vI f3_, .unset, .unset]) rfl ?_
    show Steps _ _ _ (T14.setTop (mkF m 66 #[vR a1, vI (own_len4 f0_ f1_ f2_ f3_), vR b14, vR a1, vI 4, vI f3_, .unset, .unset] [])) _
    refine XS.aloadN X14.here hx rfl (hb hby d1_66) rfl rfl ?_
    show Steps _ _ _ (T14.setTop (mkF m 67 #[vR a1, vI (own_len4 f0_ f1_ f2_ f3_), vR b14, vR a1, vI 4, vI f3_, .unset, .unset] [iR a1])) _
    refine X14.arraylength hx (by rw [e14]; exact Ar16.1) (State.isArrayOf_alike hZ.alike Ar16.2.1) (g := (mkF m 67 #[vR a1, vI (own_len4 f0_ f1_ f2_ f3_), vR b14, vR a1, vI 4, vI f3_, .unset, .unset] [iR a1])) rfl rfl (hb hby d1_67) _ ?_
    rw [len_of S16 M16]
    show Steps _ _ _ (T14.setTop (mkF m 68 #[vR a1, vI (own_len4 f0_ f1_ f2_ f3_), vR b14, vR a1, vI 4, vI f3_, .unset, .unset] [iI 4])) _
    refine XS.istore X14.here hx rfl (hb hby d1_68) rfl (l' := #[vR a1, vI (own_len4 f0_ f1_ f2_ f3_), vR b14, vR a1, vI 4, vI f3_, .unset, .unset]) rfl ?_
    show Steps _ _ _ (T14.setTop (mkF m 70 #[vR a1, vI (own_len4 f0_ f1_ f2_ f3_), vR b14, vR a1, vI 4, vI f3_, .unset, .unset] [])) _
    refine XS.iconst X14.here hx rfl (hb hby d1_70) ?_
    show Steps _ _ _ (T14.setTop (mkF m 71 #[vR a1, vI (own_len4 f0_ f1_ f2_ f3_), vR b14, vR a1, vI 4, vI f3_, .unset, .unset] [iI 0])) _
    refine XS.istore X14.here hx rfl (hb hby d1_71) rfl (l' := #[vR a1, vI (own_len4 f0_ f1_ f2_ f3_), vR b14, vR a1, vI 4, vI 0, .unset, .unset]) rfl ?_
    show Steps _ _ _ (T14.setTop (mkF m 73 #[vR a1, vI (own_len4 f0_ f1_ f2_ f3_), vR b14, vR a1, vI 4, vI 0, .unset, .unset] [])) _
    refine XS.iload X14.here hx rfl (hb hby d1_73) rfl ?_
    show Steps _ _ _ (T14.setTop (mkF m 75 #[vR a1, vI (own_len4 f0_ f1_ f2_ f3_), vR b14, vR a1, vI 4, vI 0, .unset, .unset] [iI 0])) _
    refine XS.iload X14.here hx rfl (hb hby d1_75) rfl ?_
    show Steps _ _ _ (T14.setTop (mkF m 77 #[vR a1, vI (own_len4 f0_ f1_ f2_ f3_), vR b14, vR a1, vI 4, vI 0, .unset, .unset] [iI 4, iI 0])) _
    refine XS.icmpNo X14.here hx rfl (hb hby d1_77) rfl (tlt (by decide : (0 : Int32) < (4 : Int32))).2.1 ?_
    show Steps _ _ _ (T14.setTop (mkF m 80 #[vR a1, vI (own_len4 f0_ f1_ f2_ f3_), vR b14, vR a1, vI 4, vI 0, .unset, .unset] [])) _
    refine XS.aloadN X14.here hx rfl (hb hby d1_80) rfl rfl ?_
    show Steps _ _ _ (T14.setTop (mkF m 81 #[vR a1, vI (own_len4 f0_ f1_ f2_ f3_), vR b14, vR a1, vI 4, vI 0, .unset, .unset] [iR a1])) _
    refine XS.iload X14.here hx rfl (hb hby d1_81) rfl ?_
    show Steps _ _ _ (T14.setTop (mkF m 83 #[vR a1, vI (own_len4 f0_ f1_ f2_ f3_), vR b14, vR a1, vI 4, vI 0, .unset, .unset] [iI 0, iR a1])) _
    refine X14.iaload hx (j := (0 : Int32)) (v := (.int f0_)) (by rw [e14]; exact Ar16.1) (State.isArrayOf_alike hZ.alike Ar16.2.1) Ar16.2.2 hin17 hat18 (g := (mkF m 83 #[vR a1, vI (own_len4 f0_ f1_ f2_ f3_), vR b14, vR a1, vI 4, vI 0, .unset, .unset] [iI 0, iR a1])) rfl rfl (hb hby d1_83) _ ?_
    show Steps _ _ _ (T14.setTop (mkF m 84 #[vR a1, vI (own_len4 f0_ f1_ f2_ f3_), vR b14, vR a1, vI 4, vI 0, .unset, .unset] [iI f0_])) _
    refine XS.istore X14.here hx rfl (hb hby d1_84) rfl (l' := #[vR a1, vI (own_len4 f0_ f1_ f2_ f3_), vR b14, vR a1, vI 4, vI 0, vI f0_, .unset]) rfl ?_
    show Steps _ _ _ (T14.setTop (mkF m 86 #[vR a1, vI (own_len4 f0_ f1_ f2_ f3_), vR b14, vR a1, vI 4, vI 0, vI f0_, .unset] [])) _
    refine XS.aloadN X14.here hx rfl (hb hby d1_86) rfl rfl ?_
    show Steps _ _ _ (T14.setTop (mkF m 87 #[vR a1, vI (own_len4 f0_ f1_ f2_ f3_), vR b14, vR a1, vI 4, vI 0, vI f0_, .unset] [iR b14])) _
    refine XS.iloadN X14.here hx rfl (hb hby d1_87) rfl ?_
    show Steps _ _ _ (T14.setTop (mkF m 88 #[vR a1, vI (own_len4 f0_ f1_ f2_ f3_), vR b14, vR a1, vI 4, vI 0, vI f0_, .unset] [iI (own_len4 f0_ f1_ f2_ f3_), iR b14])) _
    refine XS.iconst X14.here hx rfl (hb hby d1_88) ?_
    show Steps _ _ _ (T14.setTop (mkF m 89 #[vR a1, vI (own_len4 f0_ f1_ f2_ f3_), vR b14, vR a1, vI 4, vI 0, vI f0_, .unset] [iI 1, iI (own_len4 f0_ f1_ f2_ f3_), iR b14])) _
    refine XS.isub X14.here hx rfl (hb hby d1_89) rfl ?_
    show Steps _ _ _ (T14.setTop (mkF m 90 #[vR a1, vI (own_len4 f0_ f1_ f2_ f3_), vR b14, vR a1, vI 4, vI 0, vI f0_, .unset] [iI ((own_len4 f0_ f1_ f2_ f3_) - (1 : Int32)), iR b14])) _
    refine XS.iload X14.here hx rfl (hb hby d1_90) rfl ?_
    show Steps _ _ _ (T14.setTop (mkF m 92 #[vR a1, vI (own_len4 f0_ f1_ f2_ f3_), vR b14, vR a1, vI 4, vI 0, vI f0_, .unset] [iI f0_, iI ((own_len4 f0_ f1_ f2_ f3_) - (1 : Int32)), iR b14])) _
    refine XS.iconst X14.here hx rfl (hb hby d1_92) ?_
    show Steps _ _ _ (T14.setTop (mkF m 93 #[vR a1, vI (own_len4 f0_ f1_ f2_ f3_), vR b14, vR a1, vI 4, vI 0, vI f0_, .unset] [iI 1, iI f0_, iI ((own_len4 f0_ f1_ f2_ f3_) - (1 : Int32)), iR b14])) _
    refine XS.isub X14.here hx rfl (hb hby d1_93) rfl ?_
    show Steps _ _ _ (T14.setTop (mkF m 94 #[vR a1, vI (own_len4 f0_ f1_ f2_ f3_), vR b14, vR a1, vI 4, vI 0, vI f0_, .unset] [iI (f0_ - (1 : Int32)), iI ((own_len4 f0_ f1_ f2_ f3_) - (1 : Int32)), iR b14])) _
    refine XS.iconst X14.here hx rfl (hb hby d1_94) ?_
    show Steps _ _ _ (T14.setTop (mkF m 95 #[vR a1, vI (own_len4 f0_ f1_ f2_ f3_), vR b14, vR a1, vI 4, vI 0, vI f0_, .unset] [iI 4, iI (f0_ - (1 : Int32)), iI ((own_len4 f0_ f1_ f2_ f3_) - (1 : Int32)), iR b14])) _
    refine XS.idiv X14.here hx rfl (hb hby d1_95) rfl (by decide) ?_
    show Steps _ _ _ (T14.setTop (mkF m 96 #[vR a1, vI (own_len4 f0_ f1_ f2_ f3_), vR b14, vR a1, vI 4, vI 0, vI f0_, .unset] [iI ((f0_ - (1 : Int32)) / (4 : Int32)), iI ((own_len4 f0_ f1_ f2_ f3_) - (1 : Int32)), iR b14])) _
    refine XS.isub X14.here hx rfl (hb hby d1_96) rfl ?_
    show Steps _ _ _ (T14.setTop (mkF m 97 #[vR a1, vI (own_len4 f0_ f1_ f2_ f3_), vR b14, vR a1, vI 4, vI 0, vI f0_, .unset] [iI (((own_len4 f0_ f1_ f2_ f3_) - (1 : Int32)) - ((f0_ - (1 : Int32)) / (4 : Int32))), iR b14])) _
    refine XT.dup2 X14.here hx rfl (hb hby d1_97) rfl rfl rfl ?_
    show Steps _ _ _ (T14.setTop (mkF m 98 #[vR a1, vI (own_len4 f0_ f1_ f2_ f3_), vR b14, vR a1, vI 4, vI 0, vI f0_, .unset] [iI (((own_len4 f0_ f1_ f2_ f3_) - (1 : Int32)) - ((f0_ - (1 : Int32)) / (4 : Int32))), iR b14, iI (((own_len4 f0_ f1_ f2_ f3_) - (1 : Int32)) - ((f0_ - (1 : Int32)) / (4 : Int32))), iR b14])) _
    refine X14.iaload hx (j := (((own_len4 f0_ f1_ f2_ f3_) - (1 : Int32)) - ((f0_ - (1 : Int32)) / (4 : Int32)))) (v := (.int (own_R4_0 f0_ f1_ f2_ f3_))) (by rw [e14]; exact Ar19.1) (State.isArrayOf_alike hZ.alike Ar19.2.1) Ar19.2.2 hin20 hat21 (g := (mkF m 98 #[vR a1, vI (own_len4 f0_ f1_ f2_ f3_), vR b14, vR a1, vI 4, vI 0, vI f0_, .unset] [iI (((own_len4 f0_ f1_ f2_ f3_) - (1 : Int32)) - ((f0_ - (1 : Int32)) / (4 : Int32))), iR b14, iI (((own_len4 f0_ f1_ f2_ f3_) - (1 : Int32)) - ((f0_ - (1 : Int32)) / (4 : Int32))), iR b14])) rfl rfl (hb hby d1_98) _ ?_
    show Steps _ _ _ (T14.setTop (mkF m 99 #[vR a1, vI (own_len4 f0_ f1_ f2_ f3_), vR b14, vR a1, vI 4, vI 0, vI f0_, .unset] [iI (own_R4_0 f0_ f1_ f2_ f3_), iI (((own_len4 f0_ f1_ f2_ f3_) - (1 : Int32)) - ((f0_ - (1 : Int32)) / (4 : Int32))), iR b14])) _
    refine XS.iconst X14.here hx rfl (hb hby d1_99) ?_
    show Steps _ _ _ (T14.setTop (mkF m 100 #[vR a1, vI (own_len4 f0_ f1_ f2_ f3_), vR b14, vR a1, vI 4, vI 0, vI f0_, .unset] [iI 1, iI (own_R4_0 f0_ f1_ f2_ f3_), iI (((own_len4 f0_ f1_ f2_ f3_) - (1 : Int32)) - ((f0_ - (1 : Int32)) / (4 : Int32))), iR b14])) _
    refine XS.iload X14.here hx rfl (hb hby d1_100) rfl ?_
    show Steps _ _ _ (T14.setTop (mkF m 102 #[vR a1, vI (own_len4 f0_ f1_ f2_ f3_), vR b14, vR a1, vI 4, vI 0, vI f0_, .unset] [iI f0_, iI 1, iI (own_R4_0 f0_ f1_ f2_ f3_), iI (((own_len4 f0_ f1_ f2_ f3_) - (1 : Int32)) - ((f0_ - (1 : Int32)) / (4 : Int32))), iR b14])) _
    refine XS.iconst X14.here hx rfl (hb hby d1_102) ?_
    show Steps _ _ _ (T14.setTop (mkF m 103 #[vR a1, vI (own_len4 f0_ f1_ f2_ f3_), vR b14, vR a1, vI 4, vI 0, vI f0_, .unset] [iI 1, iI f0_, iI 1, iI (own_R4_0 f0_ f1_ f2_ f3_), iI (((own_len4 f0_ f1_ f2_ f3_) - (1 : Int32)) - ((f0_ - (1 : Int32)) / (4 : Int32))), iR b14])) _
    refine XS.isub X14.here hx rfl (hb hby d1_103) rfl ?_
    show Steps _ _ _ (T14.setTop (mkF m 104 #[vR a1, vI (own_len4 f0_ f1_ f2_ f3_), vR b14, vR a1, vI 4, vI 0, vI f0_, .unset] [iI (f0_ - (1 : Int32)), iI 1, iI (own_R4_0 f0_ f1_ f2_ f3_), iI (((own_len4 f0_ f1_ f2_ f3_) - (1 : Int32)) - ((f0_ - (1 : Int32)) / (4 : Int32))), iR b14])) _
    refine XS.iconst X14.here hx rfl (hb hby d1_104) ?_
    show Steps _ _ _ (T14.setTop (mkF m 105 #[vR a1, vI (own_len4 f0_ f1_ f2_ f3_), vR b14, vR a1, vI 4, vI 0, vI f0_, .unset] [iI 4, iI (f0_ - (1 : Int32)), iI 1, iI (own_R4_0 f0_ f1_ f2_ f3_), iI (((own_len4 f0_ f1_ f2_ f3_) - (1 : Int32)) - ((f0_ - (1 : Int32)) / (4 : Int32))), iR b14])) _
    refine iremM X14 hx rfl (hb hby d1_105) rfl (by decide) ?_
    show Steps _ _ _ (T14.setTop (mkF m 106 #[vR a1, vI (own_len4 f0_ f1_ f2_ f3_), vR b14, vR a1, vI 4, vI 0, vI f0_, .unset] [iI ((f0_ - (1 : Int32)) % (4 : Int32)), iI 1, iI (own_R4_0 f0_ f1_ f2_ f3_), iI (((own_len4 f0_ f1_ f2_ f3_) - (1 : Int32)) - ((f0_ - (1 : Int32)) / (4 : Int32))), iR b14])) _
    refine XS.ishl X14.here hx rfl (hb hby d1_106) rfl ?_
    show Steps _ _ _ (T14.setTop (mkF m 107 #[vR a1, vI (own_len4 f0_ f1_ f2_ f3_), vR b14, vR a1, vI 4, vI 0, vI f0_, .unset] [iI ((1 : Int32) <<< (((f0_ - (1 : Int32)) % (4 : Int32)) &&& 31)), iI (own_R4_0 f0_ f1_ f2_ f3_), iI (((own_len4 f0_ f1_ f2_ f3_) - (1 : Int32)) - ((f0_ - (1 : Int32)) / (4 : Int32))), iR b14])) _
    refine XS.ior X14.here hx rfl (hb hby d1_107) rfl ?_
    show Steps _ _ _ (T14.setTop (mkF m 108 #[vR a1, vI (own_len4 f0_ f1_ f2_ f3_), vR b14, vR a1, vI 4, vI 0, vI f0_, .unset] [iI ((own_R4_0 f0_ f1_ f2_ f3_) ||| ((1 : Int32) <<< (((f0_ - (1 : Int32)) % (4 : Int32)) &&& 31))), iI (((own_len4 f0_ f1_ f2_ f3_) - (1 : Int32)) - ((f0_ - (1 : Int32)) / (4 : Int32))), iR b14])) _
    refine st23 _ ?_
    show Steps _ _ _ (T23.setTop (mkF m 109 #[vR a1, vI (own_len4 f0_ f1_ f2_ f3_), vR b14, vR a1, vI 4, vI 0, vI f0_, .unset] [])) _
    refine XS.iinc X23.here hx rfl (hb hby d1_109) rfl (l' := #[vR a1, vI (own_len4 f0_ f1_ f2_ f3_), vR b14, vR a1, vI 4, vI ((0 : Int32) + (1 : Int32)), vI f0_, .unset]) rfl ?_
    rw [(by decide : ((0 : Int32) + (1 : Int32)) = (1 : Int32))]
    show Steps _ _ _ (T23.setTop (mkF m 112 #[vR a1, vI (own_len4 f0_ f1_ f2_ f3_), vR b14, vR a1, vI 4, vI 1, vI f0_, .unset] [])) _
    refine XS.goto X23.here hx rfl (pc0 := 112) (pc' := 73) rfl (hb hby d1_112) (by decide) (by decide) ?_
    show Steps _ _ _ (T23.setTop (mkF m 73 #[vR a1, vI (own_len4 f0_ f1_ f2_ f3_), vR b14, vR a1, vI 4, vI 1, vI f0_, .unset] [])) _
    refine XS.iload X23.here hx rfl (hb hby d1_73) rfl ?_
    show Steps _ _ _ (T23.setTop (mkF m 75 #[vR a1, vI (own_len4 f0_ f1_ f2_ f3_), vR b14, vR a1, vI 4, vI 1, vI f0_, .unset] [iI 1])) _
    refine XS.iload X23.here hx rfl (hb hby d1_75) rfl ?_
    show Steps _ _ _ (T23.setTop (mkF m 77 #[vR a1, vI (own_len4 f0_ f1_ f2_ f3_), vR b14, vR a1, vI 4, vI 1, vI f0_, .unset] [iI 4, iI 1])) _
    refine XS.icmpNo X23.here hx rfl (hb hby d1_77) rfl (tlt (by decide : (1 : Int32) < (4 : Int32))).2.1 ?_
    show Steps _ _ _ (T23.setTop (mkF m 80 #[vR a1, vI (own_len4 f0_ f1_ f2_ f3_), vR b14, vR a1, vI 4, vI 1, vI f0_, .unset] [])) _
    refine XS.aloadN X23.here hx rfl (hb hby d1_80) rfl rfl ?_
    show Steps _ _ _ (T23.setTop (mkF m 81 #[vR a1, vI (own_len4 f0_ f1_ f2_ f3_), vR b14, vR a1, vI 4, vI 1, vI f0_, .unset] [iR a1])) _
    refine XS.iload X23.here hx rfl (hb hby d1_81) rfl ?_
    show Steps _ _ _ (T23.setTop (mkF m 83 #[vR a1, vI (own_len4 f0_ f1_ f2_ f3_), vR b14, vR a1, vI 4, vI 1, vI f0_, .unset] [iI 1, iR a1])) _
    refine X23.iaload hx (j := (1 : Int32)) (v := (.int f1_)) (by rw [e23]; exact Ar25.1) (State.isArrayOf_alike hZ.alike Ar25.2.1) Ar25.2.2 hin26 hat27 (g := (mkF m 83 #[vR a1, vI (own_len4 f0_ f1_ f2_ f3_), vR b14, vR a1, vI 4, vI 1, vI f0_, .unset] [iI 1, iR a1])) rfl rfl (hb hby d1_83) _ ?_
    show Steps _ _ _ (T23.setTop (mkF m 84 #[vR a1, vI (own_len4 f0_ f1_ f2_ f3_), vR b14, vR a1, vI 4, vI 1, vI f0_, .unset] [iI f1_])) _
    refine XS.istore X23.here hx rfl (hb hby d1_84) rfl (l' := #[vR a1, vI (own_len4 f0_ f1_ f2_ f3_), vR b14, vR a1, vI 4, vI 1, vI f1_, .unset]) rfl ?_
    show Steps _ _ _ (T23.setTop (mkF m 86 #[vR a1, vI (own_len4 f0_ f1_ f2_ f3_), vR b14, vR a1, vI 4, vI 1, vI f1_, .unset] [])) _
    refine XS.aloadN X23.here hx rfl (hb hby d1_86) rfl rfl ?_
    show Steps _ _ _ (T23.setTop (mkF m 87 #[vR a1, vI (own_len4 f0_ f1_ f2_ f3_), vR b14, vR a1, vI 4, vI 1, vI f1_, .unset] [iR b14])) _
    refine XS.iloadN X23.here hx rfl (hb hby d1_87) rfl ?_
    show Steps _ _ _ (T23.setTop (mkF m 88 #[vR a1, vI (own_len4 f0_ f1_ f2_ f3_), vR b14, vR a1, vI 4, vI 1, vI f1_, .unset] [iI (own_len4 f0_ f1_ f2_ f3_), iR b14])) _
    refine XS.iconst X23.here hx rfl (hb hby d1_88) ?_
    show Steps _ _ _ (T23.setTop (mkF m 89 #[vR a1, vI (own_len4 f0_ f1_ f2_ f3_), vR b14, vR a1, vI 4, vI 1, vI f1_, .unset] [iI 1, iI (own_len4 f0_ f1_ f2_ f3_), iR b14])) _
    refine XS.isub X23.here hx rfl (hb hby d1_89) rfl ?_
    show Steps _ _ _ (T23.setTop (mkF m 90 #[vR a1, vI (own_len4 f0_ f1_ f2_ f3_), vR b14, vR a1, vI 4, vI 1, vI f1_, .unset] [iI ((own_len4 f0_ f1_ f2_ f3_) - (1 : Int32)), iR b14])) _
    refine XS.iload X23.here hx rfl (hb hby d1_90) rfl ?_
    show Steps _ _ _ (T23.setTop (mkF m 92 #[vR a1, vI (own_len4 f0_ f1_ f2_ f3_), vR b14, vR a1, vI 4, vI 1, vI f1_, .unset] [iI f1_, iI ((own_len4 f0_ f1_ f2_ f3_) - (1 : Int32)), iR b14])) _
    refine XS.iconst X23.here hx rfl (hb hby d1_92) ?_
    show Steps _ _ _ (T23.setTop (mkF m 93 #[vR a1, vI (own_len4 f0_ f1_ f2_ f3_), vR b14, vR a1, vI 4, vI 1, vI f1_, .unset] [iI 1, iI f1_, iI ((own_len4 f0_ f1_ f2_ f3_) - (1 : Int32)), iR b14])) _
    refine XS.isub X23.here hx rfl (hb hby d1_93) rfl ?_
    show Steps _ _ _ (T23.setTop (mkF m 94 #[vR a1, vI (own_len4 f0_ f1_ f2_ f3_), vR b14, vR a1, vI 4, vI 1, vI f1_, .unset] [iI (f1_ - (1 : Int32)), iI ((own_len4 f0_ f1_ f2_ f3_) - (1 : Int32)), iR b14])) _
    refine XS.iconst X23.here hx rfl (hb hby d1_94) ?_
    show Steps _ _ _ (T23.setTop (mkF m 95 #[vR a1, vI (own_len4 f0_ f1_ f2_ f3_), vR b14, vR a1, vI 4, vI 1, vI f1_, .unset] [iI 4, iI (f1_ - (1 : Int32)), iI ((own_len4 f0_ f1_ f2_ f3_) - (1 : Int32)), iR b14])) _
    refine XS.idiv X23.here hx rfl (hb hby d1_95) rfl (by decide) ?_
    show Steps _ _ _ (T23.setTop (mkF m 96 #[vR a1, vI (own_len4 f0_ f1_ f2_ f3_), vR b14, vR a1, vI 4, vI 1, vI f1_, .unset] [iI ((f1_ - (1 : Int32)) / (4 : Int32)), iI ((own_len4 f0_ f1_ f2_ f3_) - (1 : Int32)), iR b14])) _
    refine XS.isub X23.here hx rfl (hb hby d1_96) rfl ?_
    show Steps _ _ _ (T23.setTop (mkF m 97 #[vR a1, vI (own_len4 f0_ f1_ f2_ f3_), vR b14, vR a1, vI 4, vI 1, vI f1_, .unset] [iI (((own_len4 f0_ f1_ f2_ f3_) - (1 : Int32)) - ((f1_ - (1 : Int32)) / (4 : Int32))), iR b14])) _
    refine XT.dup2 X23.here hx rfl (hb hby d1_97) rfl rfl rfl ?_
    show Steps _ _ _ (T23.setTop (mkF m 98 #[vR a1, vI (own_len4 f0_ f1_ f2_ f3_), vR b14, vR a1, vI 4, vI 1, vI f1_, .unset] [iI (((own_len4 f0_ f1_ f2_ f3_) - (1 : Int32)) - ((f1_ - (1 : Int32)) / (4 : Int32))), iR b14, iI (((own_len4 f0_ f1_ f2_ f3_) - (1 : Int32)) - ((f1_ - (1 : Int32)) / (4 : Int32))), iR b14])) _
    refine X23.iaload hx (j := (((own_len4 f0_ f1_ f2_ f3_) - (1 : Int32)) - ((f1_ - (1 : Int32)) / (4 : Int32)))) (v := (.int (own_R4_1 f0_ f1_ f2_ f3_))) (by rw [e23]; exact Ar28.1) (State.isArrayOf_alike hZ.alike Ar28.2.1) Ar28.2.2 hin29 hat30 (g := (mkF m 98 #[vR a1, vI (own_len4 f0_ f1_ f2_ f3_), vR b14, vR a1, vI 4, vI 1, vI f1_, .unset] [iI (((own_len4 f0_ f1_ f2_ f3_) - (1 : Int32)) - ((f1_ - (1 : Int32)) / (4 : Int32))), iR b14, iI (((own_len4 f0_ f1_ f2_ f3_) - (1 : Int32)) - ((f1_ - (1 : Int32)) / (4 : Int32))), iR b14])) rfl rfl (hb hby d1_98) _ ?_
    show Steps _ _ _ (T23.setTop (mkF m 99 #[vR a1, vI (own_len4 f0_ f1_ f2_ f3_), vR b14, vR a1, vI 4, vI 1, vI f1_, .unset] [iI (own_R4_1 f0_ f1_ f2_ f3_), iI (((own_len4 f0_ f1_ f2_ f3_) - (1 : Int32)) - ((f1_ - (1 : Int32)) / (4 : Int32))), iR b14])) _
    refine XS.iconst X23.here hx rfl (hb hby d1_99) ?_
    show Steps _ _ _ (T23.setTop (mkF m 100 #[vR a1, vI (own_len4 f0_ f1_ f2_ f3_), vR b14, vR a1, vI 4, vI 1, vI f1_, .unset] [iI 1, iI (own_R4_1 f0_ f1_ f2_ f3_), iI (((own_len4 f0_ f1_ f2_ f3_) - (1 : Int32)) - ((f1_ - (1 : Int32)) / (4 : Int32))), iR b14])) _
    refine XS.iload X23.here hx rfl (hb hby d1_100) rfl ?_
    show Steps _ _ _ (T23.setTop (mkF m 102 #[vR a1, vI (own_len4 f0_ f1_ f2_ f3_), vR b14, vR a1, vI 4, vI 1, vI f1_, .unset] [iI f1_, iI 1, iI (own_R4_1 f0_ f1_ f2_ f3_), iI (((own_len4 f0_ f1_ f2_ f3_) - (1 : Int32)) - ((f1_ - (1 : Int32)) / (4 : Int32))), iR b14])) _
    refine XS.iconst X23.here hx rfl (hb hby d1_102) ?_
    show Steps _ _ _ (T23.setTop (mkF m 103 #[vR a1, vI (own_len4 f0_ f1_ f2_ f3_), vR b14, vR a1, vI 4, vI 1, vI f1_, .unset] [iI 1, iI f1_, iI 1, iI (own_R4_1 f0_ f1_ f2_ f3_), iI (((own_len4 f0_ f1_ f2_ f3_) - (1 : Int32)) - ((f1_ - (1 : Int32)) / (4 : Int32))), iR b14])) _
    refine XS.isub X23.here hx rfl (hb hby d1_103) rfl ?_
    show Steps _ _ _ (T23.setTop (mkF m 104 #[vR a1, vI (own_len4 f0_ f1_ f2_ f3_), vR b14, vR a1, vI 4, vI 1, vI f1_, .unset] [iI (f1_ - (1 : Int32)), iI 1, iI (own_R4_1 f0_ f1_ f2_ f3_), iI (((own_len4 f0_ f1_ f2_ f3_) - (1 : Int32)) - ((f1_ - (1 : Int32)) / (4 : Int32))), iR b14])) _
    refine XS.iconst X23.here hx rfl (hb hby d1_104) ?_
    show Steps _ _ _ (T23.setTop (mkF m 105 #[vR a1, vI (own_len4 f0_ f1_ f2_ f3_), vR b14, vR a1, vI 4, vI 1, vI f1_, .unset] [iI 4, iI (f1_ - (1 : Int32)), iI 1, iI (own_R4_1 f0_ f1_ f2_ f3_), iI (((own_len4 f0_ f1_ f2_ f3_) - (1 : Int32)) - ((f1_ - (1 : Int32)) / (4 : Int32))), iR b14])) _
    refine iremM X23 hx rfl (hb hby d1_105) rfl (by decide) ?_
    show Steps _ _ _ (T23.setTop (mkF m 106 #[vR a1, vI (own_len4 f0_ f1_ f2_ f3_), vR b14, vR a1, vI 4, vI 1, vI f1_, .unset] [iI ((f1_ - (1 : Int32)) % (4 : Int32)), iI 1, iI (own_R4_1 f0_ f1_ f2_ f3_), iI (((own_len4 f0_ f1_ f2_ f3_) - (1 : Int32)) - ((f1_ - (1 : Int32)) / (4 : Int32))), iR b14])) _
    refine XS.ishl X23.here hx rfl (hb hby d1_106) rfl ?_
    show Steps _ _ _ (T23.setTop (mkF m 107 #[vR a1, vI (own_len4 f0_ f1_ f2_ f3_), vR b14, vR a1, vI 4, vI 1, vI f1_, .unset] [iI ((1 : Int32) <<< (((f1_ - (1 : Int32)) % (4 : Int32)) &&& 31)), iI (own_R4_1 f0_ f1_ f2_ f3_), iI (((own_len4 f0_ f1_ f2_ f3_) - (1 : Int32)) - ((f1_ - (1 : Int32)) / (4 : Int32))), iR b14])) _
    refine XS.ior X23.here hx rfl (hb hby d1_107) rfl ?_
    show Steps _ _ _ (T23.setTop (mkF m 108 #[vR a1, vI (own_len4 f0_ f1_ f2_ f3_), vR b14, vR a1, vI 4, vI 1, vI f1_, .unset] [iI ((own_R4_1 f0_ f1_ f2_ f3_) ||| ((1 : Int32) <<< (((f1_ - (1 : Int32)) % (4 : Int32)) &&& 31))), iI (((own_len4 f0_ f1_ f2_ f3_) - (1 : Int32)) - ((f1_ - (1 : Int32)) / (4 : Int32))), iR b14])) _
    refine st32 _ ?_
    show Steps _ _ _ (T32.setTop (mkF m 109 #[vR a1, vI (own_len4 f0_ f1_ f2_ f3_), vR b14, vR a1, vI 4, vI 1, vI f1_, .unset] [])) _
    refine XS.iinc X32.here hx rfl (hb hby d1_109) rfl (l' := #[vR a1, vI (own_len4 f0_ f1_ f2_ f3_), vR b14, vR a1, vI 4, vI ((1 : Int32) + (1 : Int32)), vI f1_, .unset]) rfl ?_
    rw [(by decide : ((1 : Int32) + (1 : Int32)) = (2 : Int32))]
    show Steps _ _ _ (T32.setTop (mkF m 112 #[vR a1, vI (own_len4 f0_ f1_ f2_ f3_), vR b14, vR a1, vI 4, vI 2, vI f1_, .unset] [])) _
    refine XS.goto X32.here hx rfl (pc0 := 112) (pc' := 73) rfl (hb hby d1_112) (by decide) (by decide) ?_
    show Steps _ _ _ (T32.setTop (mkF m 73 #[vR a1, vI (own_len4 f0_ f1_ f2_ f3_), vR b14, vR a1, vI 4, vI 2, vI f1_, .unset] [])) _
    refine XS.iload X32.here hx rfl (hb hby d1_73) rfl ?_
    show Steps _ _ _ (T32.setTop (mkF m 75 #[vR a1, vI (own_len4 f0_ f1_ f2_ f3_), vR b14, vR a1, vI 4, vI 2, vI f1_, .unset] [iI 2])) _
    refine XS.iload X32.here hx rfl (hb hby d1_75) rfl ?_
    show Steps _ _ _ (T32.setTop (mkF m 77 #[vR a1, vI (own_len4 f0_ f1_ f2_ f3_), vR b14, vR a1, vI 4, vI 2, vI f1_, .unset] [iI 4, iI 2])) _
    refine XS.icmpNo X32.here hx rfl (hb hby d1_77) rfl (tlt (by decide : (2 : Int32) < (4 : Int32))).2.1 ?_
    show Steps _ _ _ (T32.setTop (mkF m 80 #[vR a1, vI (own_len4 f0_ f1_ f2_ f3_), vR b14, vR a1, vI 4, vI 2, vI f1_, .unset] [])) _
    refine XS.aloadN X32.here hx rfl (hb hby d1_80) rfl rfl ?_
    show Steps _ _ _ (T32.setTop (mkF m 81 #[vR a1, vI (own_len4 f0_ f1_ f2_ f3_), vR b14, vR a1, vI 4, vI 2, vI f1_, .unset] [iR a1])) _
    refine XS.iload X32.here hx rfl (hb hby d1_81) rfl ?_
    show Steps _ _ _ (T32.setTop (mkF m 83 #[vR a1, vI (own_len4 f0_ f1_ f2_ f3_), vR b14, vR a1, vI 4, vI 2, vI f1_, .unset] [iI 2, iR a1])) _
    refine X32.iaload hx (j := (2 : Int32)) (v := (.int f2_)) (by rw [e32]; exact Ar34.1) (State.isArrayOf_alike hZ.alike Ar34.2.1) Ar34.2.2 hin35 hat36 (g := (mkF m 83 #[vR a1, vI (own_len4 f0_ f1_ f2_ f3_), vR b14, vR a1, vI 4, vI 2, vI f1_, .unset] [iI 2, iR a1])) rfl rfl (hb hby d1_83) _ ?_
    show Steps _ _ _ (T32.setTop (mkF m 84 #[vR a1, vI (own_len4 f0_ f1_ f2_ f3_), vR b14, vR a1, vI 4, vI 2, vI f1_, .unset] [iI f2_])) _
    refine XS.istore X32.here hx rfl (hb hby d1_84) rfl (l' := #[vR a1, vI (own_len4 f0_ f1_ f2_ f3_), vR b14, vR a1, vI 4, vI 2, vI f2_, .unset]) rfl ?_
    show Steps _ _ _ (T32.setTop (mkF m 86 #[vR a1, vI (own_len4 f0_ f1_ f2_ f3_), vR b14, vR a1, vI 4, vI 2, vI f2_, .unset] [])) _
    refine XS.aloadN X32.here hx rfl (hb hby d1_86) rfl rfl ?_
    show Steps _ _ _ (T32.setTop (mkF m 87 #[vR a1, vI (own_len4 f0_ f1_ f2_ f3_), vR b14, vR a1, vI 4, vI 2, vI f2_, .unset] [iR b14])) _
    refine XS.iloadN X32.here hx rfl (hb hby d1_87) rfl ?_
    show Steps _ _ _ (T32.setTop (mkF m 88 #[vR a1, vI (own_len4 f0_ f1_ f2_ f3_), vR b14, vR a1, vI 4, vI 2, vI f2_, .unset] [iI (own_len4 f0_ f1_ f2_ f3_), iR b14])) _
    refine XS.iconst X32.here hx rfl (hb hby d1_88) ?_
    show Steps _ _ _ (T32.setTop (mkF m 89 #[vR a1, vI (own_len4 f0_ f1_ f2_ f3_), vR b14, vR a1, vI 4, vI 2, vI f2_, .unset] [iI 1, iI (own_len4 f0_ f1_ f2_ f3_), iR b14])) _
    refine XS.isub X32.here hx rfl (hb hby d1_89) rfl ?_
    show Steps _ _ _ (T32.setTop (mkF m 90 #[vR a1, vI (own_len4 f0_ f1_ f2_ f3_), vR b14, vR a1, vI 4, vI 2, vI f2_, .unset] [iI ((own_len4 f0_ f1_ f2_ f3_) - (1 : Int32)), iR b14])) _
    refine XS.iload X32.here hx rfl (hb hby d1_90) rfl ?_
    show Steps _ _ _ (T32.setTop (mkF m 92 #[vR a1, vI (own_len4 f0_ f1_ f2_ f3_), vR b14, vR a1, vI 4, vI 2, vI f2_, .unset] [iI f2_, iI ((own_len4 f0_ f1_ f2_ f3_) - (1 : Int32)), iR b14])) _
    refine XS.iconst X32.here hx rfl (hb hby d1_92) ?_
    show Steps _ _ _ (T32.setTop (mkF m 93 #[vR a1, vI (own_len4 f0_ f1_ f2_ f3_), vR b14, vR a1, vI 4, vI 2, vI f2_, .unset] [iI 1, iI f2_, iI ((own_len4 f0_ f1_ f2_ f3_) - (1 : Int32)), iR b14])) _
    refine XS.isub X32.here hx rfl (hb hby d1_93) rfl ?_
    show Steps _ _ _ (T32.setTop (mkF m 94 #[vR a1, vI (own_len4 f0_ f1_ f2_ f3_), vR b14, vR a1, vI 4, vI 2, vI f2_, .unset] [iI (f2_ - (1 : Int32)), iI ((own_len4 f0_ f1_ f2_ f3_) - (1 : Int32)), iR b14])) _
    refine XS.iconst X32.here hx rfl (hb hby d1_94) ?_
    show Steps _ _ _ (T32.setTop (mkF m 95 #[vR a1, vI (own_len4 f0_ f1_ f2_ f3_), vR b14, vR a1, vI 4, vI 2, vI f2_, .unset] [iI 4, iI (f2_ - (1 : Int32)), iI ((own_len4 f0_ f1_ f2_ f3_) - (1 : Int32)), iR b14])) _
    refine XS.idiv X32.here hx rfl (hb hby d1_95) rfl (by decide) ?_
    show Steps _ _ _ (T32.setTop (mkF m 96 #[vR a1, vI (own_len4 f0_ f1_ f2_ f3_), vR b14, vR a1, vI 4, vI 2, vI f2_, .unset] [iI ((f2_ - (1 : Int32)) / (4 : Int32)), iI ((own_len4 f0_ f1_ f2_ f3_) - (1 : Int32)), iR b14])) _
    refine XS.isub X32.here hx rfl (hb hby d1_96) rfl ?_
    show Steps _ _ _ (T32.setTop (mkF m 97 #[vR a1, vI (own_len4 f0_ f1_ f2_ f3_), vR b14, vR a1, vI 4, vI 2, vI f2_, .unset] [iI (((own_len4 f0_ f1_ f2_ f3_) - (1 : Int32)) - ((f2_ - (1 : Int32)) / (4 : Int32))), iR b14])) _
    refine XT.dup2 X32.here hx rfl (hb hby d1_97) rfl rfl rfl ?_
    show Steps _ _ _ (T32.setTop (mkF m 98 #[vR a1, vI (own_len4 f0_ f1_ f2_ f3_), vR b14, vR a1, vI 4, vI 2, vI f2_, .unset] [iI (((own_len4 f0_ f1_ f2_ f3_) - (1 : Int32)) - ((f2_ - (1 : Int32)) / (4 : Int32))), iR b14, iI (((own_len4 f0_ f1_ f2_ f3_) - (1 : Int32)) - ((f2_ - (1 : Int32)) / (4 : Int32))), iR b14])) _
    refine X32.iaload hx (j := (((own_len4 f0_ f1_ f2_ f3_) - (1 : Int32)) - ((f2_ - (1 : Int32)) / (4 : Int32)))) (v := (.int (own_R4_2 f0_ f1_ f2_ f3_))) (by rw [e32]; exact Ar37.1) (State.isArrayOf_alike hZ.alike Ar37.2.1) Ar37.2.2 hin38 hat39 (g := (mkF m 98 #[vR a1, vI (own_len4 f0_ f1_ f2_ f3_), vR b14, vR a1, vI 4, vI 2, vI f2_, .unset] [iI (((own_len4 f0_ f1_ f2_ f3_) - (1 : Int32)) - ((f2_ - (1 : Int32)) / (4 : Int32))), iR b14, iI (((own_len4 f0_ f1_ f2_ f3_) - (1 : Int32)) - ((f2_ - (1 : Int32)) / (4 : Int32))), iR b14])) rfl rfl (hb hby d1_98) _ ?_
    show Steps _ _ _ (T32.setTop (mkF m 99 #[vR a1, vI (own_len4 f0_ f1_ f2_ f3_), vR b14, vR a1, vI 4, vI 2, vI f2_, .unset] [iI (own_R4_2 f0_ f1_ f2_ f3_), iI (((own_len4 f0_ f1_ f2_ f3_) - (1 : Int32)) - ((f2_ - (1 : Int32)) / (4 : Int32))), iR b14])) _
    refine XS.iconst X32.here hx rfl (hb hby d1_99) ?_
    show Steps _ _ _ (T32.setTop (mkF m 100 #[vR a1, vI (own_len4 f0_ f1_ f2_ f3_), vR b14, vR a1, vI 4, vI 2, vI f2_, .unset] [iI 1, iI (own_R4_2 f0_ f1_ f2_ f3_), iI (((own_len4 f0_ f1_ f2_ f3_) - (1 : Int32)) - ((f2_ - (1 : Int32)) / (4 : Int32))), iR b14])) _
    refine XS.iload X32.here hx rfl (hb hby d1_100) rfl ?_
    show Steps _ _ _ (T32.setTop (mkF m 102 #[vR a1, vI (own_len4 f0_ f1_ f2_ f3_), vR b14, vR a1, vI 4, vI 2, vI f2_, .unset] [iI f2_, iI 1, iI (own_R4_2 f0_ f1_ f2_ f3_), iI (((own_len4 f0_ f1_ f2_ f3_) - (1 : Int32)) - ((f2_ - (1 : Int32)) / (4 : Int32))), iR b14])) _
    refine XS.iconst X32.here hx rfl (hb hby d1_102) ?_
    show Steps _ _ _ (T32.setTop (mkF m 103 #[vR a1, vI (own_len4 f0_ f1_ f2_ f3_), vR b14, vR a1, vI 4, vI 2, vI f2_, .unset] [iI 1, iI f2_, iI 1, iI (own_R4_2 f0_ f1_ f2_ f3_), iI (((own_len4 f0_ f1_ f2_ f3_) - (1 : Int32)) - ((f2_ - (1 : Int32)) / (4 : Int32))), iR b14])) _
    refine XS.isub X32.here hx rfl (hb hby d1_103) rfl ?_
    show Steps _ _ _ (T32.setTop (mkF m 104 #[vR a1, vI (own_len4 f0_ f1_ f2_ f3_), vR b14, vR a1, vI 4, vI 2, vI f2_, .unset] [iI (f2_ - (1 : Int32)), iI 1, iI (own_R4_2 f0_ f1_ f2_ f3_), iI (((own_len4 f0_ f1_ f2_ f3_) - (1 : Int32)) - ((f2_ - (1 : Int32)) / (4 : Int32))), iR b14])) _
    refine XS.iconst X32.here hx rfl (hb hby d1_104) ?_
    show Steps _ _ _ (T32.setTop (mkF m 105 #[vR a1, vI (own_len4 f0_ f1_ f2_ f3_), vR b14, vR a1, vI 4, vI 2, vI f2_, .unset] [iI 4, iI (f2_ - (1 : Int32)), iI 1, iI (own_R4_2 f0_ f1_ f2_ f3_), iI (((own_len4 f0_ f1_ f2_ f3_) - (1 : Int32)) - ((f2_ - (1 : Int32)) / (4 : Int32))), iR b14])) _
    refine iremM X32 hx rfl (hb hby d1_105) rfl (by decide) ?_
    show Steps _ _ _ (T32.setTop (mkF m 106 #[vR a1, vI (own_len4 f0_ f1_ f2_ f3_), vR b14, vR a1, vI 4, vI 2, vI f2_, .unset] [iI ((f2_ - (1 : Int32)) % (4 : Int32)), iI 1, iI (own_R4_2 f0_ f1_ f2_ f3_), iI (((own_len4 f0_ f1_ f2_ f3_) - (1 : Int32)) - ((f2_ - (1 : Int32)) / (4 : Int32))), iR b14])) _
    refine XS.ishl X32.here hx rfl (hb hby d1_106) rfl ?_
    show Steps _ _ _ (T32.setTop (mkF m 107 #[vR a1, vI (own_len4 f0_ f1_ f2_ f3_), vR b14, vR a1, vI 4, vI 2, vI f2_, .unset] [iI ((1 : Int32) <<< (((f2_ - (1 : Int32)) % (4 : Int32)) &&& 31)), iI (own_R4_2 f0_ f1_ f2_ f3_), iI (((own_len4 f0_ f1_ f2_ f3_) - (1 : Int32)) - ((f2_ - (1 : Int32)) / (4 : Int32))), iR b14])) _
    refine XS.ior X32.here hx rfl (hb hby d1_107) rfl ?_
    show Steps _ _ _ (T32.setTop (mkF m 108 #[vR a1, vI (own_len4 f0_ f1_ f2_ f3_), vR b14, vR a1, vI 4, vI 2, vI f2_, .unset] [iI ((own_R4_2 f0_ f1_ f2_ f3_) ||| ((1 : Int32) <<< (((f2_ - (1 : Int32)) % (4 : Int32)) &&& 31))), iI (((own_len4 f0_ f1_ f2_ f3_) - (1 : Int32)) - ((f2_ - (1 : Int32)) / (4 : Int32))), iR b14])) _
    refine st41 _ ?_
    show Steps _ _ _ (T41.setTop (mkF m 109 #[vR a1, vI (own_len4 f0_ f1_ f2_ f3_), vR b14, vR a1, vI 4, vI 2, vI f2_, .unset] [])) _
    refine XS.iinc X41.here hx rfl (hb hby d1_109) rfl (l' := #[vR a1, vI (own_len4 f0_ f1_ f2_ f3_), vR b14, vR a1, vI 4, vI ((2 : Int32) + (1 : Int32)), vI f2_, .unset]) rfl ?_
    rw [(by decide : ((2 : Int32) + (1 : Int32)) = (3 : Int32))]
    show Steps _ _ _ (T41.setTop (mkF m 112 #[vR a1, vI (own_len4 f0_ f1_ f2_ f3_), vR b14, vR a1, vI 4, vI 3, vI f2_, .unset] [])) _
    refine XS.goto X41.here hx rfl (pc0 := 112) (pc' := 73) rfl (hb hby d1_112) (by decide) (by decide) ?_
    show Steps _ _ _ (T41.setTop (mkF m 73 #[vR a1, vI (own_len4 f0_ f1_ f2_ f3_), vR b14, vR a1, vI 4, vI 3, vI f2_, .unset] [])) _
    refine XS.iload X41.here hx rfl (hb hby d1_73) rfl ?_
    show Steps _ _ _ (T41.setTop (mkF m 75 #[vR a1, vI (own_len4 f0_ f1_ f2_ f3_), vR b14, vR a1, vI 4, vI 3, vI f2_, .unset] [iI 3])) _
    refine XS.iload X41.here hx rfl (hb hby d1_75) rfl ?_
    show Steps _ _ _ (T41.setTop (mkF m 77 #[vR a1, vI (own_len4 f0_ f1_ f2_ f3_), vR b14, vR a1, vI 4, vI 3, vI f2_, .unset] [iI 4, iI 3])) _
    refine XS.icmpNo X41.here hx rfl (hb hby d1_77) rfl (tlt (by decide : (3 : Int32) < (4 : Int32))).2.1 ?_
    show Steps _ _ _ (T41.setTop (mkF m 80 #[vR a1, vI (own_len4 f0_ f1_ f2_ f3_), vR b14, vR a1, vI 4, vI 3, vI f2_, .unset] [])) _
    refine XS.aloadN X41.here hx rfl (hb hby d1_80) rfl rfl ?_
    show Steps _ _ _ (T41.setTop (mkF m 81 #[vR a1, vI (own_len4 f0_ f1_ f2_ f3_), vR b14, vR a1, vI 4, vI 3, vI f2_, .unset] [iR a1])) _
    refine XS.iload X41.here hx rfl (hb hby d1_81) rfl ?_
    show Steps _ _ _ (T41.setTop (mkF m 83 #[vR a1, vI (own_len4 f0_ f1_ f2_ f3_), vR b14, vR a1, vI 4, vI 3, vI f2_, .unset] [iI 3, iR a1])) _
    refine X41.iaload hx (j := (3 : Int32)) (v := (.int f3_)) (by rw [e41]; exact Ar43.1) (State.isArrayOf_alike hZ.alike Ar43.2.1) Ar43.2.2 hin44 hat45 (g := (mkF m 83 #[vR a1, vI (own_len4 f0_ f1_ f2_ f3_), vR b14, vR a1, vI 4, vI 3, vI f2_, .unset] [iI 3, iR a1])) rfl rfl (hb hby d1_83) _ ?_
    show Steps _ _ _ (T41.setTop (mkF m 84 #[vR a1, vI (own_len4 f0_ f1_ f2_ f3_), vR b14, vR a1, vI 4, vI 3, vI f2_, .unset] [iI f3_])) _
    refine XS.istore X41.here hx rfl (hb hby d1_84) rfl (l' := #[vR a1, vI (own_len4 f0_ f1_ f2_ f3_), vR b14, vR a1, vI 4, vI 3, vI f3_, .unset]) rfl ?_
    show Steps _ _ _ (T41.setTop (mkF m 86 #[vR a1, vI (own_len4 f0_ f1_ f2_ f3_), vR b14, vR a1, vI 4, vI 3, vI f3_, .unset] [])) _
    refine XS.aloadN X41.here hx rfl (hb hby d1_86) rfl rfl ?_
    show Steps _ _ _ (T41.setTop (mkF m 87 #[vR a1, vI (own_len4 f0_ f1_ f2_ f3_), vR b14, vR a1, vI 4, vI 3, vI f3_, .unset] [iR b14])) _
    refine XS.iloadN X41.here hx rfl (hb hby d1_87) rfl ?_
    show Steps _ _ _ (T41.setTop (mkF m 88 #[vR a1, vI (own_len4 f0_ f1_ f2_ f3_), vR b14, vR a1, vI 4, vI 3, vI f3_, .unset] [iI (own_len4 f0_ f1_ f2_ f3_), iR b14])) _
    refine XS.iconst X41.here hx rfl (hb hby d1_88) ?_
    show Steps _ _ _ (T41.setTop (mkF m 89 #[vR a1, vI (own_len4 f0_ f1_ f2_ f3_), vR b14, vR a1, vI 4, vI 3, vI f3_, .unset] [iI 1, iI (own_len4 f0_ f1_ f2_ f3_), iR b14])) _
    refine XS.isub X41.here hx rfl (hb hby d1_89) rfl ?_
    show Steps _ _ _ (T41.setTop (mkF m 90 #[vR a1, vI (own_len4 f0_ f1_ f2_ f3_), vR b14, vR a1, vI 4, vI 3, vI f3_, .unset] [iI ((own_len4 f0_ f1_ f2_ f3_) - (1 : Int32)), iR b14])) _
    refine XS.iload X41.here hx rfl (hb hby d1_90) rfl ?_
    show Steps _ _ _ (T41.setTop (mkF m 92 #[vR a1, vI (own_len4 f0_ f1_ f2_ f3_), vR b14, vR a1, vI 4, vI 3, vI f3_, .unset] [iI f3_, iI ((own_len4 f0_ f1_ f2_ f3_) - (1 : Int32)), iR b14])) _
    refine XS.iconst X41.here hx rfl (hb hby d1_92) ?_
    show Steps _ _ _ (T41.setTop (mkF m 93 #[vR a1, vI (own_len4 f0_ f1_ f2_ f3_), vR b14, vR a1, vI 4, vI 3, vI f3_, .unset] [iI 1, iI f3_, iI ((own_len4 f0_ f1_ f2_ f3_) - (1 : Int32)), iR b14])) _
    refine XS.isub X41.here hx rfl (hb hby d1_93) rfl ?_
    show Steps _ _ _ (T41.setTop (mkF m 94 #[vR a1, vI (own_len4 f0_ f1_ f2_ f3_), vR b14, vR a1, vI 4, vI 3, vI f3_, .unset] [iI (f3_ - (1 : Int32)), iI ((own_len4 f0_ f1_ f2_ f3_) - (1 : Int32)), iR b14])) _
    refine XS.iconst X41.here hx rfl (hb hby d1_94) ?_
    show Steps _ _ _ (T41.setTop (mkF m 95 #[vR a1, vI (own_len4 f0_ f1_ f2_ f3_), vR b14, vR a1, vI 4, vI 3, vI f3_, .unset] [iI 4, iI (f3_ - (1 : Int32)), iI ((own_len4 f0_ f1_ f2_ f3_) - (1 : Int32)), iR b14])) _
    refine XS.idiv X41.here hx rfl (hb hby d1_95) rfl (by decide) ?_
    show Steps _ _ _ (T41.setTop (mkF m 96 #[vR a1, vI (own_len4 f0_ f1_ f2_ f3_), vR b14, vR a1, vI 4, vI 3, vI f3_, .unset] [iI ((f3_ - (1 : Int32)) / (4 : Int32)), iI ((own_len4 f0_ f1_ f2_ f3_) - (1 : Int32)), iR b14])) _
    refine XS.isub X41.here hx rfl (hb hby d1_96) rfl ?_
    show Steps _ _ _ (T41.setTop (mkF m 97 #[vR a1, vI (own_len4 f0_ f1_ f2_ f3_), vR b14, vR a1, vI 4, vI 3, vI f3_, .unset] [iI (((own_len4 f0_ f1_ f2_ f3_) - (1 : Int32)) - ((f3_ - (1 : Int32)) / (4 : Int32))), iR b14])) _
    refine XT.dup2 X41.here hx rfl (hb hby d1_97) rfl rfl rfl ?_
    show Steps _ _ _ (T41.setTop (mkF m 98 #[vR a1, vI (own_len4 f0_ f1_ f2_ f3_), vR b14, vR a1, vI 4, vI 3, vI f3_, .unset] [iI (((own_len4 f0_ f1_ f2_ f3_) - (1 : Int32)) - ((f3_ - (1 : Int32)) / (4 : Int32))), iR b14, iI (((own_len4 f0_ f1_ f2_ f3_) - (1 : Int32)) - ((f3_ - (1 : Int32)) / (4 : Int32))), iR b14])) _
    refine X41.iaload hx (j := (((own_len4 f0_ f1_ f2_ f3_) - (1 : Int32)) - ((f3_ - (1 : Int32)) / (4 : Int32)))) (v := (.int (own_R4_3 f0_ f1_ f2_ f3_))) (by rw [e41]; exact Ar46.1) (State.isArrayOf_alike hZ.alike Ar46.2.1) Ar46.2.2 hin47 hat48 (g := (mkF m 98 #[vR a1, vI (own_len4 f0_ f1_ f2_ f3_), vR b14, vR a1, vI 4, vI 3, vI f3_, .unset] [iI (((own_len4 f0_ f1_ f2_ f3_) - (1 : Int32)) - ((f3_ - (1 : Int32)) / (4 : Int32))), iR b14, iI (((own_len4 f0_ f1_ f2_ f3_) - (1 : Int32)) - ((f3_ - (1 : Int32)) / (4 : Int32))), iR b14])) rfl rfl (hb hby d1_98) _ ?_
    show Steps _ _ _ (T41.setTop (mkF m 99 #[vR a1, vI (own_len4 f0_ f1_ f2_ f3_), vR b14, vR a1, vI 4, vI 3, vI f3_, .unset] [iI (own_R4_3 f0_ f1_ f2_ f3_), iI (((own_len4 f0_ f1_ f2_ f3_) - (1 : Int32)) - ((f3_ - (1 : Int32)) / (4 : Int32))), iR b14])) _
    refine XS.iconst X41.here hx rfl (hb hby d1_99) ?_
    show Steps _ _ _ (T41.setTop (mkF m 100 #[vR a1, vI (own_len4 f0_ f1_ f2_ f3_), vR b14, vR a1, vI 4, vI 3, vI f3_, .unset] [iI 1, iI (own_R4_3 f0_ f1_ f2_ f3_), iI (((own_len4 f0_ f1_ f2_ f3_) - (1 : Int32)) - ((f3_ - (1 : Int32)) / (4 : Int32))), iR b14])) _
    refine XS.iload X41.here hx rfl (hb hby d1_100) rfl ?_
    show Steps _ _ _ (T41.setTop (mkF m 102 #[vR a1, vI (own_len4 f0_ f1_ f2_ f3_), vR b14, vR a1, vI 4, vI 3, vI f3_, .unset] [iI f3_, iI 1, iI (own_R4_3 f0_ f1_ f2_ f3_), iI (((own_len4 f0_ f1_ f2_ f3_) - (1 : Int32)) - ((f3_ - (1 : Int32)) / (4 : Int32))), iR b14])) _
    refine XS.iconst X41.here hx rfl (hb hby d1_102) ?_
    show Steps _ _ _ (T41.setTop (mkF m 103 #[vR a1, vI (own_len4 f0_ f1_ f2_ f3_), vR b14, vR a1, vI 4, vI 3, vI f3_, .unset] [iI 1, iI f3_, iI 1, iI (own_R4_3 f0_ f1_ f2_ f3_), iI (((own_len4 f0_ f1_ f2_ f3_) - (1 : Int32)) - ((f3_ - (1 : Int32)) / (4 : Int32))), iR b14])) _
    refine XS.isub X41.here hx rfl (hb hby d1_103) rfl ?_
    show Steps _ _ _ (T41.setTop (mkF m 104 #[vR a1, vI (own_len4 f0_ f1_ f2_ f3_), vR b14, vR a1, vI 4, vI 3, vI f3_, .unset] [iI (f3_ - (1 : Int32)), iI 1, iI (own_R4_3 f0_ f1_ f2_ f3_), iI (((own_len4 f0_ f1_ f2_ f3_) - (1 : Int32)) - ((f3_ - (1 : Int32)) / (4 : Int32))), iR b14])) _
    refine XS.iconst X41.here hx rfl (hb hby d1_104) ?_
    show Steps _ _ _ (T41.setTop (mkF m 105 #[vR a1, vI (own_len4 f0_ f1_ f2_ f3_), vR b14, vR a1, vI 4, vI 3, vI f3_, .unset] [iI 4, iI (f3_ - (1 : Int32)), iI 1, iI (own_R4_3 f0_ f1_ f2_ f3_), iI (((own_len4 f0_ f1_ f2_ f3_) - (1 : Int32)) - ((f3_ - (1 : Int32)) / (4 : Int32))), iR b14])) _
    refine iremM X41 hx rfl (hb hby d1_105) rfl (by decide) ?_
    show Steps _ _ _ (T41.setTop (mkF m 106 #[vR a1, vI (own_len4 f0_ f1_ f2_ f3_), vR b14, vR a1, vI 4, vI 3, vI f3_, .unset] [iI ((f3_ - (1 : Int32)) % (4 : Int32)), iI 1, iI (own_R4_3 f0_ f1_ f2_ f3_), iI (((own_len4 f0_ f1_ f2_ f3_) - (1 : Int32)) - ((f3_ - (1 : Int32)) / (4 : Int32))), iR b14])) _
    refine XS.ishl X41.here hx rfl (hb hby d1_106) rfl ?_
    show Steps _ _ _ (T41.setTop (mkF m 107 #[vR a1, vI (own_len4 f0_ f1_ f2_ f3_), vR b14, vR a1, vI 4, vI 3, vI f3_, .unset] [iI ((1 : Int32) <<< (((f3_ - (1 : Int32)) % (4 : Int32)) &&& 31)), iI (own_R4_3 f0_ f1_ f2_ f3_), iI (((own_len4 f0_ f1_ f2_ f3_) - (1 : Int32)) - ((f3_ - (1 : Int32)) / (4 : Int32))), iR b14])) _
    refine XS.ior X41.here hx rfl (hb hby d1_107) rfl ?_
    show Steps _ _ _ (T41.setTop (mkF m 108 #[vR a1, vI (own_len4 f0_ f1_ f2_ f3_), vR b14, vR a1, vI 4, vI 3, vI f3_, .unset] [iI ((own_R4_3 f0_ f1_ f2_ f3_) ||| ((1 : Int32) <<< (((f3_ - (1 : Int32)) % (4 : Int32)) &&& 31))), iI (((own_len4 f0_ f1_ f2_ f3_) - (1 : Int32)) - ((f3_ - (1 : Int32)) / (4 : Int32))), iR b14])) _
    refine st50 _ ?_
    show Steps _ _ _ (T50.setTop (mkF m 109 #[vR a1, vI (own_len4 f0_ f1_ f2_ f3_), vR b14, vR a1, vI 4, vI 3, vI f3_, .unset] [])) _
    refine XS.iinc X50.here hx rfl (hb hby d1_109) rfl (l' := #[vR a1, vI (own_len4 f0_ f1_ f2_ f3_), vR b14, vR a1, vI 4, vI ((3 : Int32) + (1 : Int32)), vI f3_, .unset]) rfl ?_
    rw [(by decide : ((3 : Int32) + (1 : Int32)) = (4 : Int32))]
    show Steps _ _ _ (T50.setTop (mkF m 112 #[vR a1, vI (own_len4 f0_ f1_ f2_ f3_), vR b14, vR a1, vI 4, vI 4, vI f3_, .unset] [])) _
    refine XS.goto X50.here hx rfl (pc0 := 112) (pc' := 73) rfl (hb hby d1_112) (by decide) (by decide) ?_
    show Steps _ _ _ (T50.setTop (mkF m 73 #[vR a1, vI (own_len4 f0_ f1_ f2_ f3_), vR b14, vR a1, vI 4, vI 4, vI f3_, .unset] [])) _
    refine XS.iload X50.here hx rfl (hb hby d1_73) rfl ?_
    show Steps _ _ _ (T50.setTop (mkF m 75 #[vR a1, vI (own_len4 f0_ f1_ f2_ f3_), vR b14, vR a1, vI 4, vI 4, vI f3_, .unset] [iI 4])) _
    refine XS.iload X50.here hx rfl (hb hby d1_75) rfl ?_
    show Steps _ _ _ (T50.setTop (mkF m 77 #[vR a1, vI (own_len4 f0_ f1_ f2_ f3_), vR b14, vR a1, vI 4, vI 4, vI f3_, .unset] [iI 4, iI 4])) _
    refine XS.icmpYes X50.here hx rfl (pc0 := 77) (pc' := 115) rfl (hb hby d1_77) rfl (flt (by decide : ¬ ((4 : Int32) < (4 : Int32)))).2.1 (by decide) (by decide) ?_
    exact kt
  obtain ⟨s₂, o₂, hs₂, hr₂⟩ := own_tail1 (nn := (4 : Int32)) (ff := f3_) X50 hx hZ hw hby hml hown Bd.returns (by first | assumption | exact BodyLoose.notSynchronized (by assumption) | exact Body.notSynchronized (by assumption)) e50 K50 N50 Z0 O0 V50 g_b14 sz_b14 hL.1 hL.2.1 hL.2.2 S_CS h_cs
  exact ⟨s₂, o₂, pre51 _ hs₂, hr₂⟩
def own_nib (m : Int64) (i : Int32) : Int32 := (((m.toUInt64 >>> (((4 : Int32) * i) &&& 0x3f).toInt64.toUInt64).toInt64) &&& (15 : Int64)).toInt32
def own_exq (d : Int32) : Int32 := if d < (10 : Int32) then ((48 : Int32) + d).toUInt32.toUInt16.toUInt32.toInt32 else (((97 : Int32) + d) - (10 : Int32)).toUInt32.toUInt16.toUInt32.toInt32
theorem own_back {nz i : Int32} (h0 : ¬ i < 0) (h1 : i < nz) (hn : nz.toNatClampNeg ≤ 8) : ¬ ((nz - 1) - i) < 0 ∧ ((nz - 1) - i) < nz := by
  have e0 : (0 : Int32).toInt = 0 := rfl
  have e1 : (1 : Int32).toInt = 1 := rfl
  simp only [Int32.lt_iff_toInt_lt, e0] at *
  have q1 := c_isub nz 1
  have q2 := c_isub (nz - 1) i
  have r1 := rng32 (nz - 1)
  have r2 := rng32 ((nz - 1) - i)
  simp only [Int32.toNatClampNeg] at hn
  rw [e1] at q1
  omega
theorem d21_0 : decode method_5_code 0 = .ok (.iload_n 2, 1) := by decide +kernel
theorem d21_1 : decode method_5_code 1 = .ok (.iload_n 1, 1) := by decide +kernel
theorem d21_2 : decode method_5_code 2 = .ok (.if_icmp .lt 5, 3) := by decide +kernel
theorem d21_5 : decode method_5_code 5 = .ok (.iconst 1, 1) := by decide +kernel
theorem d21_6 : decode method_5_code 6 = .ok (.ireturn, 1) := by decide +kernel
theorem d21_7 : decode method_5_code 7 = .ok (.lload_n 3, 1) := by decide +kernel
theorem d21_8 : decode method_5_code 8 = .ok (.iconst 4, 1) := by decide +kernel
theorem d21_9 : decode method_5_code 9 = .ok (.iload_n 2, 1) := by decide +kernel
theorem d21_10 : decode method_5_code 10 = .ok (.imul, 1) := by decide +kernel
theorem d21_11 : decode method_5_code 11 = .ok (.lushr, 1) := by decide +kernel
theorem d21_12 : decode method_5_code 12 = .ok (.ldc2_w 48, 3) := by decide +kernel
theorem d21_15 : decode method_5_code 15 = .ok (.land, 1) := by decide +kernel
theorem d21_16 : decode method_5_code 16 = .ok (.l2i, 1) := by decide +kernel
theorem d21_17 : decode method_5_code 17 = .ok (.istore 5, 2) := by decide +kernel
theorem d21_19 : decode method_5_code 19 = .ok (.iload 5, 2) := by decide +kernel
theorem d21_21 : decode method_5_code 21 = .ok (.bipush 10, 2) := by decide +kernel
theorem d21_23 : decode method_5_code 23 = .ok (.if_icmp .ge 12, 3) := by decide +kernel
theorem d21_26 : decode method_5_code 26 = .ok (.bipush 48, 2) := by decide +kernel
theorem d21_28 : decode method_5_code 28 = .ok (.iload 5, 2) := by decide +kernel
theorem d21_30 : decode method_5_code 30 = .ok (.iadd, 1) := by decide +kernel
theorem d21_31 : decode method_5_code 31 = .ok (.i2c, 1) := by decide +kernel
theorem d21_32 : decode method_5_code 32 = .ok (.goto 12, 3) := by decide +kernel
theorem d21_35 : decode method_5_code 35 = .ok (.bipush 97, 2) := by decide +kernel
theorem d21_37 : decode method_5_code 37 = .ok (.iload 5, 2) := by decide +kernel
theorem d21_39 : decode method_5_code 39 = .ok (.iadd, 1) := by decide +kernel
theorem d21_40 : decode method_5_code 40 = .ok (.bipush 10, 2) := by decide +kernel
theorem d21_42 : decode method_5_code 42 = .ok (.isub, 1) := by decide +kernel
theorem d21_43 : decode method_5_code 43 = .ok (.i2c, 1) := by decide +kernel
theorem d21_44 : decode method_5_code 44 = .ok (.istore 6, 2) := by decide +kernel
theorem d21_46 : decode method_5_code 46 = .ok (.aload_n 0, 1) := by decide +kernel
theorem d21_47 : decode method_5_code 47 = .ok (.iload_n 1, 1) := by decide +kernel
theorem d21_48 : decode method_5_code 48 = .ok (.iconst 1, 1) := by decide +kernel
theorem d21_49 : decode method_5_code 49 = .ok (.isub, 1) := by decide +kernel
theorem d21_50 : decode method_5_code 50 = .ok (.iload_n 2, 1) := by decide +kernel
theorem d21_51 : decode method_5_code 51 = .ok (.isub, 1) := by decide +kernel
theorem d21_52 : decode method_5_code 52 = .ok (.invokevirtual 50, 3) := by decide +kernel
theorem d21_55 : decode method_5_code 55 = .ok (.iload 6, 2) := by decide +kernel
theorem d21_57 : decode method_5_code 57 = .ok (.if_icmp .ne 7, 3) := by decide +kernel
theorem d21_60 : decode method_5_code 60 = .ok (.iconst 1, 1) := by decide +kernel
theorem d21_61 : decode method_5_code 61 = .ok (.goto 4, 3) := by decide +kernel
theorem d21_65 : decode method_5_code 65 = .ok (.ireturn, 1) := by decide +kernel
theorem ef_21 (m : MethodId) (x0 : Addr) (x1 : Int32) (x2 : Int32) (x3 : Int64) : entryFrame m #[(.ref x0), (.int x1), (.int x2), (.long x3)] 7 = mkF m 0 #[.val (.ref x0), .val (.int x1), .val (.int x2), .val (.long x3), .second, .unset, .unset] [] := by first | (simp [entryFrame, mkF, argsToLocals, Value.category]; done) | rfl
def Q21 (Z : State) (a1 : Addr) (p3 : Int32) (q4 : Int64) (b : Addr) (kb : ClassId) (nz : Int32) (c0 : Int32) (c1 : Int32) (c2 : Int32) (c3 : Int32) (c4 : Int32) (c5 : Int32) (c6 : Int32) (c7 : Int32) (cs : Int32) (fm : Value) (h0 : Heap) (v : Option Value) (h : Heap) (L : List Loc) : Prop := v = some (.int (1 : Int32)) ∧ L = [] ∧ h = h0
set_option maxRecDepth 65536 in
set_option maxHeartbeats 40000000 in
theorem rm21 (l : Launch) (Z : State) (a0 : Array Value) (hw : ∀ d ∈ tables_1, d.before a0 Z = true) (ws : List Jvm.Cond) (a1 : Addr) (p3 : Int32) (q4 : Int64) (b : Addr) (kb : ClassId) (nz : Int32) (c0 : Int32) (c1 : Int32) (c2 : Int32) (c3 : Int32) (c4 : Int32) (c5 : Int32) (c6 : Int32) (c7 : Int32) (cs : Int32) (fm : Value) (h0 : Heap) (n0 : Nat) (O0 : Old Z n0 h0) (E_a1 : Exa Z h0 a1 "java/lang/String") (F_c : Fld Z h0 a1 "java/lang/String" "coder" "B" (.int (0 : Int32))) (F_v : Fld Z h0 a1 "java/lang/String" "value" "[B" (.ref b)) (V_b : Arv Z h0 b kb .byte nz [(.int c0), (.int c1), (.int c2), (.int c3), (.int c4), (.int c5), (.int c6), (.int c7)] (.int (0 : Int32))) (hn0 : ¬ nz < 0) (hn8 : nz.toNatClampNeg ≤ 8) (hp0 : ¬ p3 < 0) (hD : p3 < nz → own_chr (own_at8 c0 c1 c2 c3 c4 c5 c6 c7 ((nz - (1 : Int32)) - p3)) = own_exq (own_nib q4 p3)) (S_CS : Sta Z Z.heap "java/lang/String" "COMPACT_STRINGS" "Z" (.int cs)) (h_cs : ¬ cs = (0 : Int32)) (S_F : Sta Z Z.heap "jdk/internal/util/Preconditions" "SIOOBE_FORMATTER" "Ljava/util/function/BiFunction;" fm) (h_fm : fm.isRef = true) :
    MetFree l (⟨"com/example/cloud_to_core/cloudtocore/model/SupportedFeaturesOfPinLaw", "digitOk", "(Ljava/lang/String;IIJ)Z"⟩ : MethodName) (head1 (Jvm.Cond.code (⟨"com/example/cloud_to_core/cloudtocore/model/SupportedFeaturesOfPinLaw", "digitOk", "(Ljava/lang/String;IIJ)Z"⟩ : MethodName) method_5_code 7 (some .boolean) :: ws) ({ frames := 4, cells := 0, slots := 0, locals := 53 } : Room)) (fun a U => a = #[(.ref a1), (.int nz), (.int p3), (.long q4)] ∧ Z.Warmed39 U.vm ∧ U.heap = h0) (fun _ _ _ _ _ => True) (fun _ U o U' => ∃ v L, o = .returned v ∧ Q21 Z a1 p3 q4 b kb nz c0 c1 c2 c3 c4 c5 c6 c7 cs fm h0 v U'.heap L ∧ FrameEnd U o U' L ({ frames := 4, cells := 0, slots := 0, locals := 53 } : Room).cells ({ frames := 4, cells := 0, slots := 0, locals := 53 } : Room).slots) := by
  refine MetFree.of_bodySF (plainFor_of_name pn_7) hisR ?_
  intro p e s m args below meth c s₁ Bd hml0 hP hK
  obtain ⟨rfl, hZ, hh⟩ := hP
  have hx := Bd.exec
  have hby := Bd.bytes
  have hml : c.maxLocals = 7 := hml0
  have hown : s.vm.findClass "com/example/cloud_to_core/cloudtocore/model/SupportedFeaturesOfPinLaw" = some m.cls := findClass_of_methodNamed Bd.named
  have hnm := (name_of_methodNamed Bd.named Bd.method).1
  have X0 : Stand p l e ({ frames := 4, cells := 0, slots := 0, locals := 53 } : Room) s m #[(.ref a1), (.int nz), (.int p3), (.long q4)] below meth c s₁ [] 0 0 := Stand.of_body Bd
  have e0 : s₁.heap = h0 := by rw [← hh, Bd.state]; rfl
  have pre0 : ∀ t, Steps p.tables e below (s₁.setTop (mkF m 0 #[.val (.ref a1), .val (.int nz), .val (.int p3), .val (.long q4), .second, .unset, .unset] [])) t → Steps p.tables e below (s₁.setTop (entryFrame m #[(.ref a1), (.int nz), (.int p3), (.long q4)] 7)) t := fun t k => castTop (ef_21 m a1 nz p3 q4) k
  have pre2 : ∀ t, Steps p.tables e below (s₁.setTop (mkF m 2 #[vR a1, vI nz, vI p3, vJ q4, .second, .unset, .unset] [iI nz, iI p3])) t → Steps p.tables e below (s₁.setTop (entryFrame m #[(.ref a1), (.int nz), (.int p3), (.long q4)] 7)) t := by
    intro t kt
    refine pre0 t ?_
    show Steps _ _ _ (s₁.setTop (mkF m 0 #[vR a1, vI nz, vI p3, vJ q4, .second, .unset, .unset] [])) _
    refine XS.iloadN X0.here hx rfl (hb hby d21_0) rfl ?_
    show Steps _ _ _ (s₁.setTop (mkF m 1 #[vR a1, vI nz, vI p3, vJ q4, .second, .unset, .unset] [iI p3])) _
    refine XS.iloadN X0.here hx rfl (hb hby d21_1) rfl ?_
    exact kt
  by_cases hc1 : p3 < nz
  · obtain ⟨v3, hv3⟩ : ∃ z : Int32, z = (if (((q4.toUInt64 >>> (((4 : Int32) * p3) &&& 0x3f).toInt64.toUInt64).toInt64) &&& (15 : Int64)).toInt32 < (10 : Int32) then ((48 : Int32) + (((q4.toUInt64 >>> (((4 : Int32) * p3) &&& 0x3f).toInt64.toUInt64).toInt64) &&& (15 : Int64)).toInt32).toUInt32.toUInt16.toUInt32.toInt32 else (((97 : Int32) + (((q4.toUInt64 >>> (((4 : Int32) * p3) &&& 0x3f).toInt64.toUInt64).toInt64) &&& (15 : Int64)).toInt32) - (10 : Int32)).toUInt32.toUInt16.toUInt32.toInt32) := ⟨_, rfl⟩
    obtain ⟨T4, X4, e4, st4⟩ : own_Mid X0 h0 (mkF m 23 #[vR a1, vI nz, vI p3, vJ q4, .second, vI (((q4.toUInt64 >>> (((4 : Int32) * p3) &&& 0x3f).toInt64.toUInt64).toInt64) &&& (15 : Int64)).toInt32, .unset] [iI 10, iI (((q4.toUInt64 >>> (((4 : Int32) * p3) &&& 0x3f).toInt64.toUInt64).toInt64) &&& (15 : Int64)).toInt32]) (mkF m 44 #[vR a1, vI nz, vI p3, vJ q4, .second, vI (((q4.toUInt64 >>> (((4 : Int32) * p3) &&& 0x3f).toInt64.toUInt64).toInt64) &&& (15 : Int64)).toInt32, .unset] [iI v3]) := by
      by_cases hc5 : (((q4.toUInt64 >>> (((4 : Int32) * p3) &&& 0x3f).toInt64.toUInt64).toInt64) &&& (15 : Int64)).toInt32 < (10 : Int32)
      · refine ⟨s₁, X0, e0, fun t kt => ?_⟩
        subst hv3
        simp only [if_pos hc5] at kt
        show Steps _ _ _ (s₁.setTop (mkF m 23 #[vR a1, vI nz, vI p3, vJ q4, .second, vI (((q4.toUInt64 >>> (((4 : Int32) * p3) &&& 0x3f).toInt64.toUInt64).toInt64) &&& (15 : Int64)).toInt32, .unset] [iI 10, iI (((q4.toUInt64 >>> (((4 : Int32) * p3) &&& 0x3f).toInt64.toUInt64).toInt64) &&& (15 : Int64)).toInt32])) _
        refine XS.icmpNo X0.here hx rfl (hb hby d21_23) rfl (tlt hc5).2.1 ?_
        show Steps _ _ _ (s₁.setTop (mkF m 26 #[vR a1, vI nz, vI p3, vJ q4, .second, vI (((q4.toUInt64 >>> (((4 : Int32) * p3) &&& 0x3f).toInt64.toUInt64).toInt64) &&& (15 : Int64)).toInt32, .unset] [])) _
        refine XS.bipush X0.here hx rfl (hb hby d21_26) ?_
        show Steps _ _ _ (s₁.setTop (mkF m 28 #[vR a1, vI nz, vI p3, vJ q4, .second, vI (((q4.toUInt64 >>> (((4 : Int32) * p3) &&& 0x3f).toInt64.toUInt64).toInt64) &&& (15 : Int64)).toInt32, .unset] [iI 48])) _
        refine XS.iload X0.here hx rfl (hb hby d21_28) rfl ?_
        show Steps _ _ _ (s₁.setTop (mkF m 30 #[vR a1, vI nz, vI p3, vJ q4, .second, vI (((q4.toUInt64 >>> (((4 : Int32) * p3) &&& 0x3f).toInt64.toUInt64).toInt64) &&& (15 : Int64)).toInt32, .unset] [iI (((q4.toUInt64 >>> (((4 : Int32) * p3) &&& 0x3f).toInt64.toUInt64).toInt64) &&& (15 : Int64)).toInt32, iI 48])) _
        refine XS.iadd X0.here hx rfl (hb hby d21_30) rfl ?_
        show Steps _ _ _ (s₁.setTop (mkF m 31 #[vR a1, vI nz, vI p3, vJ q4, .second, vI (((q4.toUInt64 >>> (((4 : Int32) * p3) &&& 0x3f).toInt64.toUInt64).toInt64) &&& (15 : Int64)).toInt32, .unset] [iI ((48 : Int32) + (((q4.toUInt64 >>> (((4 : Int32) * p3) &&& 0x3f).toInt64.toUInt64).toInt64) &&& (15 : Int64)).toInt32)])) _
        refine XS.i2c X0.here hx rfl (hb hby d21_31) rfl ?_
        show Steps _ _ _ (s₁.setTop (mkF m 32 #[vR a1, vI nz, vI p3, vJ q4, .second, vI (((q4.toUInt64 >>> (((4 : Int32) * p3) &&& 0x3f).toInt64.toUInt64).toInt64) &&& (15 : Int64)).toInt32, .unset] [iI ((48 : Int32) + (((q4.toUInt64 >>> (((4 : Int32) * p3) &&& 0x3f).toInt64.toUInt64).toInt64) &&& (15 : Int64)).toInt32).toUInt32.toUInt16.toUInt32.toInt32])) _
        refine XS.goto X0.here hx rfl (pc0 := 32) (pc' := 44) rfl (hb hby d21_32) (by decide) (by decide) ?_
        exact kt
      · refine ⟨s₁, X0, e0, fun t kt => ?_⟩
        subst hv3
        simp only [if_neg hc5] at kt
        show Steps _ _ _ (s₁.setTop (mkF m 23 #[vR a1, vI nz, vI p3, vJ q4, .second, vI (((q4.toUInt64 >>> (((4 : Int32) * p3) &&& 0x3f).toInt64.toUInt64).toInt64) &&& (15 : Int64)).toInt32, .unset] [iI 10, iI (((q4.toUInt64 >>> (((4 : Int32) * p3) &&& 0x3f).toInt64.toUInt64).toInt64) &&& (15 : Int64)).toInt32])) _
        refine XS.icmpYes X0.here hx rfl (pc0 := 23) (pc' := 35) rfl (hb hby d21_23) rfl (flt hc5).2.1 (by decide) (by decide) ?_
        show Steps _ _ _ (s₁.setTop (mkF m 35 #[vR a1, vI nz, vI p3, vJ q4, .second, vI (((q4.toUInt64 >>> (((4 : Int32) * p3) &&& 0x3f).toInt64.toUInt64).toInt64) &&& (15 : Int64)).toInt32, .unset] [])) _
        refine XS.bipush X0.here hx rfl (hb hby d21_35) ?_
        show Steps _ _ _ (s₁.setTop (mkF m 37 #[vR a1, vI nz, vI p3, vJ q4, .second, vI (((q4.toUInt64 >>> (((4 : Int32) * p3) &&& 0x3f).toInt64.toUInt64).toInt64) &&& (15 : Int64)).toInt32, .unset] [iI 97])) _
        refine XS.iload X0.here hx rfl (hb hby d21_37) rfl ?_
        show Steps _ _ _ (s₁.setTop (mkF m 39 #[vR a1, vI nz, vI p3, vJ q4, .second, vI (((q4.toUInt64 >>> (((4 : Int32) * p3) &&& 0x3f).toInt64.toUInt64).toInt64) &&& (15 : Int64)).toInt32, .unset] [iI (((q4.toUInt64 >>> (((4 : Int32) * p3) &&& 0x3f).toInt64.toUInt64).toInt64) &&& (15 : Int64)).toInt32, iI 97])) _
        refine XS.iadd X0.here hx rfl (hb hby d21_39) rfl ?_
        show Steps _ _ _ (s₁.setTop (mkF m 40 #[vR a1, vI nz, vI p3, vJ q4, .second, vI (((q4.toUInt64 >>> (((4 : Int32) * p3) &&& 0x3f).toInt64.toUInt64).toInt64) &&& (15 : Int64)).toInt32, .unset] [iI ((97 : Int32) + (((q4.toUInt64 >>> (((4 : Int32) * p3) &&& 0x3f).toInt64.toUInt64).toInt64) &&& (15 : Int64)).toInt32)])) _
        refine XS.bipush X0.here hx rfl (hb hby d21_40) ?_
        show Steps _ _ _ (s₁.setTop (mkF m 42 #[vR a1, vI nz, vI p3, vJ q4, .second, vI (((q4.toUInt64 >>> (((4 : Int32) * p3) &&& 0x3f).toInt64.toUInt64).toInt64) &&& (15 : Int64)).toInt32, .unset] [iI 10, iI ((97 : Int32) + (((q4.toUInt64 >>> (((4 : Int32) * p3) &&& 0x3f).toInt64.toUInt64).toInt64) &&& (15 : Int64)).toInt32)])) _
        refine XS.isub X0.here hx rfl (hb hby d21_42) rfl ?_
        show Steps _ _ _ (s₁.setTop (mkF m 43 #[vR a1, vI nz, vI p3, vJ q4, .second, vI (((q4.toUInt64 >>> (((4 : Int32) * p3) &&& 0x3f).toInt64.toUInt64).toInt64) &&& (15 : Int64)).toInt32, .unset] [iI (((97 : Int32) + (((q4.toUInt64 >>> (((4 : Int32) * p3) &&& 0x3f).toInt64.toUInt64).toInt64) &&& (15 : Int64)).toInt32) - (10 : Int32))])) _
        refine XS.i2c X0.here hx rfl (hb hby d21_43) rfl ?_
        exact kt
    obtain ⟨cq6, kq6, q6a, q6b, q6c⟩ := isOf hZ e4 E_a1
    obtain ⟨_, _, ⟨T6, L6, k6, n6⟩, -, X6, ⟨Lc6, hQ6, l6, y6, z6⟩, st6⟩ := X4.virtualBack hx (y := (⟨"java/lang/String", "charAt", "(I)C"⟩ : MethodName)) (z := (⟨"java/lang/String", "charAt", "(I)C"⟩ : MethodName)) hown (mvT hZ (hw _ (List.mem_of_getElem? (i := 130) rfl))) (mvT hZ (hw _ (List.mem_of_getElem? (i := 131) rfl))) (notFace_of_selects (args := #[]) (mvT hZ (hw _ (List.mem_of_getElem? (i := 133) rfl)))) (mvT hZ (hw _ (List.mem_of_getElem? (i := 133) rfl))) (mvT hZ (hw _ (List.mem_of_getElem? (i := 132) rfl))) (by decide) (backOf (W := 0) (rm22 l Z a0 hw [] a1 ((nz - (1 : Int32)) - p3) b kb nz c0 c1 c2 c3 c4 c5 c6 c7 cs fm h0 n0 O0 E_a1 F_c F_v V_b (own_back hp0 hc1 hn8).1 (own_back hp0 hc1 hn8).2 hn0 hn8 S_CS h_cs S_F h_fm) hZ (hw _ (List.mem_of_getElem? (i := 134) rfl)) (hw _ (List.mem_of_getElem? (i := 22) rfl)) (by decide) (by decide)) q6a q6c (g := (mkF m 52 #[vR a1, vI nz, vI p3, vJ q4, .second, vI (((q4.toUInt64 >>> (((4 : Int32) * p3) &&& 0x3f).toInt64.toUInt64).toInt64) &&& (15 : Int64)).toInt32, vI v3] [iI ((nz - (1 : Int32)) - p3), iR a1])) rfl (by rw [hml]; rfl) (Steps.refl _) (argsL := [(.int ((nz - (1 : Int32)) - p3))]) (rest := []) (lenOf pd_17 rfl) rfl (by show 2 * 0 + _ ≤ _; exact Nat.le_of_eq rfl) (hb hby d21_52) (fun _ _ => ⟨rfl, e4, (by decide : 0 + 0 ≤ _), (by decide : 0 + 0 ≤ _)⟩)
    dsimp only [Pt.U, Pt.locs, Pt.cells, Pt.slots] at X6 l6 y6 z6 st6 hQ6
    subst l6 y6 z6
    obtain ⟨rfl, rfl, e6⟩ := hQ6
    try rw [List.append_nil] at X6
    have hh7 : (own_chr (own_at8 c0 c1 c2 c3 c4 c5 c6 c7 ((nz - (1 : Int32)) - p3))) = v3 := (hD hc1).trans hv3.symm
    obtain ⟨fs, hr, hrun, hended, hW, hsame⟩ := X6.leave (v := some (.int (1 : Int32))) (fun h => by rw [Bd.returns] at h; cases h)
    refine ⟨_, _, pre2 _ ?_, hrun, hended, _, _, rfl, ?_, ⟨_, rfl⟩, hW, hsame.mono (by decide) (by decide)⟩
    · show Steps _ _ _ (s₁.setTop (mkF m 2 #[vR a1, vI nz, vI p3, vJ q4, .second, .unset, .unset] [iI nz, iI p3])) _
      refine XS.icmpYes X0.here hx rfl (pc0 := 2) (pc' := 7) rfl (hb hby d21_2) rfl (tlt hc1).1 (by decide) (by decide) ?_
      show Steps _ _ _ (s₁.setTop (mkF m 7 #[vR a1, vI nz, vI p3, vJ q4, .second, .unset, .unset] [])) _
      refine XS.lloadN X0.here hx rfl (hb hby d21_7) rfl ?_
      show Steps _ _ _ (s₁.setTop (mkF m 8 #[vR a1, vI nz, vI p3, vJ q4, .second, .unset, .unset] [iJ q4])) _
      refine XS.iconst X0.here hx rfl (hb hby d21_8) ?_
      show Steps _ _ _ (s₁.setTop (mkF m 9 #[vR a1, vI nz, vI p3, vJ q4, .second, .unset, .unset] [iI 4, iJ q4])) _
      refine XS.iloadN X0.here hx rfl (hb hby d21_9) rfl ?_
      show Steps _ _ _ (s₁.setTop (mkF m 10 #[vR a1, vI nz, vI p3, vJ q4, .second, .unset, .unset] [iI p3, iI 4, iJ q4])) _
      refine XS.imul X0.here hx rfl (hb hby d21_10) rfl ?_
      show Steps _ _ _ (s₁.setTop (mkF m 11 #[vR a1, vI nz, vI p3, vJ q4, .second, .unset, .unset] [iI ((4 : Int32) * p3), iJ q4])) _
      refine XS.lushr X0.here hx rfl (hb hby d21_11) rfl ?_
      show Steps _ _ _ (s₁.setTop (mkF m 12 #[vR a1, vI nz, vI p3, vJ q4, .second, .unset, .unset] [iJ ((q4.toUInt64 >>> (((4 : Int32) * p3) &&& 0x3f).toInt64.toUInt64).toInt64)])) _
      refine X0.ldc2Long hx hown (mvT hZ (hw _ (List.mem_of_getElem? (i := 129) rfl))) (g := (mkF m 12 #[vR a1, vI nz, vI p3, vJ q4, .second, .unset, .unset] [iJ ((q4.toUInt64 >>> (((4 : Int32) * p3) &&& 0x3f).toInt64.toUInt64).toInt64)])) rfl (hb hby d21_12) _ ?_
      show Steps _ _ _ (s₁.setTop (mkF m 15 #[vR a1, vI nz, vI p3, vJ q4, .second, .unset, .unset] [iJ 15, iJ ((q4.toUInt64 >>> (((4 : Int32) * p3) &&& 0x3f).toInt64.toUInt64).toInt64)])) _
      refine XS.land X0.here hx rfl (hb hby d21_15) rfl ?_
      show Steps _ _ _ (s₁.setTop (mkF m 16 #[vR a1, vI nz, vI p3, vJ q4, .second, .unset, .unset] [iJ (((q4.toUInt64 >>> (((4 : Int32) * p3) &&& 0x3f).toInt64.toUInt64).toInt64) &&& (15 : Int64))])) _
      refine XS.l2i X0.here hx rfl (hb hby d21_16) rfl ?_
      show Steps _ _ _ (s₁.setTop (mkF m 17 #[vR a1, vI nz, vI p3, vJ q4, .second, .unset, .unset] [iI (((q4.toUInt64 >>> (((4 : Int32) * p3) &&& 0x3f).toInt64.toUInt64).toInt64) &&& (15 : Int64)).toInt32])) _
      refine XS.istore X0.here hx rfl (hb hby d21_17) rfl (l' := #[vR a1, vI nz, vI p3, vJ q4, .second, vI (((q4.toUInt64 >>> (((4 : Int32) * p3) &&& 0x3f).toInt64.toUInt64).toInt64) &&& (15 : Int64)).toInt32, .unset]) rfl ?_
      show Steps _ _ _ (s₁.setTop (mkF m 19 #[vR a1, vI nz, vI p3, vJ q4, .second, vI (((q4.toUInt64 >>> (((4 : Int32) * p3) &&& 0x3f).toInt64.toUInt64).toInt64) &&& (15 : Int64)).toInt32, .unset] [])) _
      refine XS.iload X0.here hx rfl (hb hby d21_19) rfl ?_
      show Steps _ _ _ (s₁.setTop (mkF m 21 #[vR a1, vI nz, vI p3, vJ q4, .second, vI (((q4.toUInt64 >>> (((4 : Int32) * p3) &&& 0x3f).toInt64.toUInt64).toInt64) &&& (15 : Int64)).toInt32, .unset] [iI (((q4.toUInt64 >>> (((4 : Int32) * p3) &&& 0x3f).toInt64.toUInt64).toInt64) &&& (15 : Int64)).toInt32])) _
      refine XS.bipush X0.here hx rfl (hb hby d21_21) ?_
      show Steps _ _ _ (s₁.setTop (mkF m 23 #[vR a1, vI nz, vI p3, vJ q4, .second, vI (((q4.toUInt64 >>> (((4 : Int32) * p3) &&& 0x3f).toInt64.toUInt64).toInt64) &&& (15 : Int64)).toInt32, .unset] [iI 10, iI (((q4.toUInt64 >>> (((4 : Int32) * p3) &&& 0x3f).toInt64.toUInt64).toInt64) &&& (15 : Int64)).toInt32])) _
      refine st4 _ ?_
      show Steps _ _ _ (T4.setTop (mkF m 44 #[vR a1, vI nz, vI p3, vJ q4, .second, vI (((q4.toUInt64 >>> (((4 : Int32) * p3) &&& 0x3f).toInt64.toUInt64).toInt64) &&& (15 : Int64)).toInt32, .unset] [iI v3])) _
      refine XS.istore X4.here hx rfl (hb hby d21_44) rfl (l' := #[vR a1, vI nz, vI p3, vJ q4, .second, vI (((q4.toUInt64 >>> (((4 : Int32) * p3) &&& 0x3f).toInt64.toUInt64).toInt64) &&& (15 : Int64)).toInt32, vI v3]) rfl ?_
      show Steps _ _ _ (T4.setTop (mkF m 46 #[vR a1, vI nz, vI p3, vJ q4, .second, vI (((q4.toUInt64 >>> (((4 : Int32) * p3) &&& 0x3f).toInt64.toUInt64).toInt64) &&& (15 : Int64)).toInt32, vI v3] [])) _
      refine XS.aloadN X4.here hx rfl (hb hby d21_46) rfl rfl ?_
      show Steps _ _ _ (T4.setTop (mkF m 47 #[vR a1, vI nz, vI p3, vJ q4, .second, vI (((q4.toUInt64 >>> (((4 : Int32) * p3) &&& 0x3f).toInt64.toUInt64).toInt64) &&& (15 : Int64)).toInt32, vI v3] [iR a1])) _
      refine XS.iloadN X4.here hx rfl (hb hby d21_47) rfl ?_
      show Steps _ _ _ (T4.setTop (mkF m 48 #[vR a1, vI nz, vI p3, vJ q4, .second, vI (((q4.toUInt64 >>> (((4 : Int32) * p3) &&& 0x3f).toInt64.toUInt64).toInt64) &&& (15 : Int64)).toInt32, vI v3] [iI nz, iR a1])) _
      refine XS.iconst X4.here hx rfl (hb hby d21_48) ?_
      show Steps _ _ _ (T4.setTop (mkF m 49 #[vR a1, vI nz, vI p3, vJ q4, .second, vI (((q4.toUInt64 >>> (((4 : Int32) * p3) &&& 0x3f).toInt64.toUInt64).toInt64) &&& (15 : Int64)).toInt32, vI v3] [iI 1, iI nz, iR a1])) _
      refine XS.isub X4.here hx rfl (hb hby d21_49) rfl ?_
      show Steps _ _ _ (T4.setTop (mkF m 50 #[vR a1, vI nz, vI p3, vJ q4, .second, vI (((q4.toUInt64 >>> (((4 : Int32) * p3) &&& 0x3f).toInt64.toUInt64).toInt64) &&& (15 : Int64)).toInt32, vI v3] [iI (nz - (1 : Int32)), iR a1])) _
      refine XS.iloadN X4.here hx rfl (hb hby d21_50) rfl ?_
      show Steps _ _ _ (T4.setTop (mkF m 51 #[vR a1, vI nz, vI p3, vJ q4, .second, vI (((q4.toUInt64 >>> (((4 : Int32) * p3) &&& 0x3f).toInt64.toUInt64).toInt64) &&& (15 : Int64)).toInt32, vI v3] [iI p3, iI (nz - (1 : Int32)), iR a1])) _
      refine XS.isub X4.here hx rfl (hb hby d21_51) rfl ?_
      show Steps _ _ _ (T4.setTop (mkF m 52 #[vR a1, vI nz, vI p3, vJ q4, .second, vI (((q4.toUInt64 >>> (((4 : Int32) * p3) &&& 0x3f).toInt64.toUInt64).toInt64) &&& (15 : Int64)).toInt32, vI v3] [iI ((nz - (1 : Int32)) - p3), iR a1])) _
      refine st6.trans ?_
      show Steps _ _ _ (T6.setTop (mkF m 55 #[vR a1, vI nz, vI p3, vJ q4, .second, vI (((q4.toUInt64 >>> (((4 : Int32) * p3) &&& 0x3f).toInt64.toUInt64).toInt64) &&& (15 : Int64)).toInt32, vI v3] [iI (own_chr (own_at8 c0 c1 c2 c3 c4 c5 c6 c7 ((nz - (1 : Int32)) - p3)))])) _
      refine XS.iload X6.here hx rfl (hb hby d21_55) rfl ?_
      show Steps _ _ _ (T6.setTop (mkF m 57 #[vR a1, vI nz, vI p3, vJ q4, .second, vI (((q4.toUInt64 >>> (((4 : Int32) * p3) &&& 0x3f).toInt64.toUInt64).toInt64) &&& (15 : Int64)).toInt32, vI v3] [iI v3, iI (own_chr (own_at8 c0 c1 c2 c3 c4 c5 c6 c7 ((nz - (1 : Int32)) - p3)))])) _
      refine XS.icmpNo X6.here hx rfl (hb hby d21_57) rfl (teq hh7).2 ?_
      show Steps _ _ _ (T6.setTop (mkF m 60 #[vR a1, vI nz, vI p3, vJ q4, .second, vI (((q4.toUInt64 >>> (((4 : Int32) * p3) &&& 0x3f).toInt64.toUInt64).toInt64) &&& (15 : Int64)).toInt32, vI v3] [])) _
      refine XS.iconst X6.here hx rfl (hb hby d21_60) ?_
      show Steps _ _ _ (T6.setTop (mkF m 61 #[vR a1, vI nz, vI p3, vJ q4, .second, vI (((q4.toUInt64 >>> (((4 : Int32) * p3) &&& 0x3f).toInt64.toUInt64).toInt64) &&& (15 : Int64)).toInt32, vI v3] [iI 1])) _
      refine XS.goto X6.here hx rfl (pc0 := 61) (pc' := 65) rfl (hb hby d21_61) (by decide) (by decide) ?_
      show Steps _ _ _ (T6.setTop (mkF m 65 #[vR a1, vI nz, vI p3, vJ q4, .second, vI (((q4.toUInt64 >>> (((4 : Int32) * p3) &&& 0x3f).toInt64.toUInt64).toInt64) &&& (15 : Int64)).toInt32, vI v3] [iI 1])) _
      exact retN X6 hx (t := .boolean) Bd.returns (by simp) (hb hby d21_65) hr
    · show Q21 Z a1 p3 q4 b kb nz c0 c1 c2 c3 c4 c5 c6 c7 cs fm h0 _ T6.heap _
      rw [e6]
      exact ⟨rfl, rfl, rfl⟩
  · obtain ⟨fs, hr, hrun, hended, hW, hsame⟩ := X0.leave (v := some (.int (1 : Int32))) (fun h => by rw [Bd.returns] at h; cases h)
    refine ⟨_, _, pre2 _ ?_, hrun, hended, _, _, rfl, ?_, ⟨_, rfl⟩, hW, hsame.mono (by decide) (by decide)⟩
    · show Steps _ _ _ (s₁.setTop (mkF m 2 #[vR a1, vI nz, vI p3, vJ q4, .second, .unset, .unset] [iI nz, iI p3])) _
      refine XS.icmpNo X0.here hx rfl (hb hby d21_2) rfl (flt hc1).1 ?_
      show Steps _ _ _ (s₁.setTop (mkF m 5 #[vR a1, vI nz, vI p3, vJ q4, .second, .unset, .unset] [])) _
      refine XS.iconst X0.here hx rfl (hb hby d21_5) ?_
      show Steps _ _ _ (s₁.setTop (mkF m 6 #[vR a1, vI nz, vI p3, vJ q4, .second, .unset, .unset] [iI 1])) _
      exact retN X0 hx (t := .boolean) Bd.returns (by simp) (hb hby d21_6) hr
    · show Q21 Z a1 p3 q4 b kb nz c0 c1 c2 c3 c4 c5 c6 c7 cs fm h0 _ s₁.heap _
      rw [e0]
      exact ⟨rfl, rfl, rfl⟩
def Q18_e (Z : State) (q1 : Int64) (nz : Int32) (h0 : Heap) (v : Option Value) (h : Heap) (L : List Loc) : Prop := v = some (.int nz) ∧ L = [] ∧ h = h0
set_option maxRecDepth 65536 in
set_option maxHeartbeats 40000000 in
theorem rm18_e (l : Launch) (Z : State) (a0 : Array Value) (hw : ∀ d ∈ tables_1, d.before a0 Z = true) (ws : List Jvm.Cond) (q1 : Int64) (nz : Int32) (h0 : Heap) (hh : own_hex q1 = nz) :
    MetFree l (⟨"com/example/cloud_to_core/cloudtocore/model/SupportedFeaturesOfPinLaw", "hexLength", "(J)I"⟩ : MethodName) (head1 (Jvm.Cond.code (⟨"com/example/cloud_to_core/cloudtocore/model/SupportedFeaturesOfPinLaw", "hexLength", "(J)I"⟩ : MethodName) method_4_code 2 (some .int) :: ws) ({ frames := 0, cells := 0, slots := 0, locals := 0 } : Room)) (fun a U => a = #[(.long q1)] ∧ Z.Warmed39 U.vm ∧ U.heap = h0) (fun _ _ _ _ _ => True) (fun _ U o U' => ∃ v L, o = .returned v ∧ Q18_e Z q1 nz h0 v U'.heap L ∧ FrameEnd U o U' L ({ frames := 0, cells := 0, slots := 0, locals := 0 } : Room).cells ({ frames := 0, cells := 0, slots := 0, locals := 0 } : Room).slots) := by
  subst hh
  exact rm18 l Z a0 hw ws q1 h0
def own_Q0 (n0 : Nat) (v : Option Value) (h : Heap) (L : List Loc) : Prop := v = some (.int (1 : Int32)) ∧ Fr n0 L
set_option maxRecDepth 65536 in
set_option maxHeartbeats 40000000 in
theorem own_end {p : Program} {l : Launch} {e : Env} {s : State} {m : MethodId} {below : List Frame} {meth : Method} {c : Code} {T0 : State} {locs : List Loc} {Z : State} {a0 : Array Value} {h0 hT : Heap} {n0 : Nat} {p1 : Int32} {p2 : Int32} {p3 : Int32} {p4 : Int32} {p5 : Int32} {cs : Int32} {fm : Value} {nn g1_ g2_ g3_ g4_ : Int32} {ar : Addr} {mm : Int64} {so sd : Addr} {kb : ClassId} {nz c0 c1 c2 c3 c4 c5 c6 c7 : Int32}
    (X0 : Stand p l e room_1 s m #[(.int p1), (.int p2), (.int p3), (.int p4), (.int p5)] below meth c T0 locs 6 36) (hx : p.tables.exec = Jvm.exec) (hZ : Z.Warmed39 s.vm) (hw : ∀ d ∈ tables_1, d.before a0 Z = true) (hby : c.code = code) (hml : c.maxLocals = 15) (hown : s.vm.findClass "com/example/cloud_to_core/cloudtocore/model/SupportedFeaturesOfPinLaw" = some m.cls) (hret : meth.sig.returnType = some .boolean) (hlocks : meth.locks = false) (e0 : T0.heap = hT) (Kt0 : Keep h0 hT []) (N0 : Fr n0 locs) (Z0 : n0 ≤ h0.size) (O0 : Old Z n0 h0) (E_o : Exa Z hT so "java/lang/String") (F_c : Fld Z hT so "java/lang/String" "coder" "B" (.int (0 : Int32))) (F_v : Fld Z hT so "java/lang/String" "value" "[B" (.ref sd)) (V_d : Arv Z hT sd kb .byte nz [(.int c0), (.int c1), (.int c2), (.int c3), (.int c4), (.int c5), (.int c6), (.int c7)] (.int (0 : Int32))) (hn0 : ¬ nz < 0) (hn8 : nz.toNatClampNeg ≤ 8) (hh : own_hex mm = nz) (hD0 : (0 : Int32) < nz → own_chr (own_at8 c0 c1 c2 c3 c4 c5 c6 c7 ((nz - (1 : Int32)) - (0 : Int32))) = own_exq (own_nib mm (0 : Int32))) (hD1 : (1 : Int32) < nz → own_chr (own_at8 c0 c1 c2 c3 c4 c5 c6 c7 ((nz - (1 : Int32)) - (1 : Int32))) = own_exq (own_nib mm (1 : Int32))) (hD2 : (2 : Int32) < nz → own_chr (own_at8 c0 c1 c2 c3 c4 c5 c6 c7 ((nz - (1 : Int32)) - (2 : Int32))) = own_exq (own_nib mm (2 : Int32))) (hD3 : (3 : Int32) < nz → own_chr (own_at8 c0 c1 c2 c3 c4 c5 c6 c7 ((nz - (1 : Int32)) - (3 : Int32))) = own_exq (own_nib mm (3 : Int32))) (hD4 : (4 : Int32) < nz → own_chr (own_at8 c0 c1 c2 c3 c4 c5 c6 c7 ((nz - (1 : Int32)) - (4 : Int32))) = own_exq (own_nib mm (4 : Int32))) (hD5 : (5 : Int32) < nz → own_chr (own_at8 c0 c1 c2 c3 c4 c5 c6 c7 ((nz - (1 : Int32)) - (5 : Int32))) = own_exq (own_nib mm (5 : Int32))) (hD6 : (6 : Int32) < nz → own_chr (own_at8 c0 c1 c2 c3 c4 c5 c6 c7 ((nz - (1 : Int32)) - (6 : Int32))) = own_exq (own_nib mm (6 : Int32))) (hD7 : (7 : Int32) < nz → own_chr (own_at8 c0 c1 c2 c3 c4 c5 c6 c7 ((nz - (1 : Int32)) - (7 : Int32))) = own_exq (own_nib mm (7 : Int32))) (S_CS : Sta Z Z.heap "java/lang/String" "COMPACT_STRINGS" "Z" (.int cs)) (h_cs : ¬ cs = (0 : Int32)) (S_F : Sta Z Z.heap "jdk/internal/util/Preconditions" "SIOOBE_FORMATTER" "Ljava/util/function/BiFunction;" fm) (h_fm : fm.isRef = true) :
    ∃ s₂ o, Steps p.tables e below (T0.setTop (mkF m 223 #[vI p1, vI p2, vI p3, vI p4, vI p5, vI nn, vI g1_, vI g2_, vI g3_, vI g4_, vR ar, vJ mm, .second, .unset, .unset] [iR so])) s₂ ∧ s₂.status = .running ∧ Ended s₂ below o ∧ ∃ v L, o = .returned v ∧ own_Q0 n0 v s₂.heap L ∧ FrameEnd s o s₂ L room_1.cells room_1.slots := by
  obtain ⟨_, _, ⟨T1, L1, k1, n1⟩, -, X1, ⟨Lc1, hQ1, l1, y1, z1⟩, st1⟩ := Jvm.LawKit.callS X0 hx (y := (⟨"com/example/cloud_to_core/cloudtocore/model/SupportedFeaturesOfPinLaw", "hexLength", "(J)I"⟩ : MethodName)) hown (mvT hZ (hw _ (List.mem_of_getElem? (i := 104) rfl))) (mvT hZ (hw _ (List.mem_of_getElem? (i := 105) rfl))) (mvT hZ (hw _ (List.mem_of_getElem? (i := 106) rfl))) (mvT hZ (hw _ (List.mem_of_getElem? (i := 107) rfl))) (by decide) (backOf (W := 0) (rm18_e l Z a0 hw [] mm nz hT hh) hZ (hw _ (List.mem_of_getElem? (i := 107) rfl)) (hw _ (List.mem_of_getElem? (i := 106) rfl)) (by decide) (by decide)) (g := (mkF m 227 #[vI p1, vI p2, vI p3, vI p4, vI p5, vI nn, vI g1_, vI g2_, vI g3_, vI g4_, vR ar, vJ mm, .second, vR so, .unset] [iJ mm])) rfl (by rw [hml]; rfl) (argsL := [(.long mm)]) (rest := []) (lenOf pd_18 rfl) rfl (by show 2 * 0 + _ ≤ _; exact Nat.le_of_eq rfl) (hb hby at_227) (fun _ _ => ⟨rfl, e0, (by decide : 6 + 0 ≤ _), (by decide : 36 + 0 ≤ _)⟩)
  dsimp only [Pt.U, Pt.locs, Pt.cells, Pt.slots] at X1 l1 y1 z1 st1 hQ1
  subst l1 y1 z1
  obtain ⟨rfl, rfl, e1⟩ := hQ1
  try rw [List.append_nil] at X1
  have Oh3 := O0.keep Kt0 all0
  obtain ⟨cq2, kq2, q2a, q2b, q2c⟩ := isOf hZ e1 E_o
  obtain ⟨_, _, ⟨T2, L2, k2, n2⟩, -, X2, ⟨Lc2, hQ2, l2, y2, z2⟩, st2⟩ := X1.virtualBack hx (y := (⟨"java/lang/String", "length", "()I"⟩ : MethodName)) (z := (⟨"java/lang/String", "length", "()I"⟩ : MethodName)) hown (mvT hZ (hw _ (List.mem_of_getElem? (i := 115) rfl))) (mvT hZ (hw _ (List.mem_of_getElem? (i := 116) rfl))) (notFace_of_selects (args := #[]) (mvT hZ (hw _ (List.mem_of_getElem? (i := 118) rfl)))) (mvT hZ (hw _ (List.mem_of_getElem? (i := 118) rfl))) (mvT hZ (hw _ (List.mem_of_getElem? (i := 117) rfl))) (by decide) (backOf (W := 0) (rm19 l Z a0 hw [] so sd kb nz c0 c1 c2 c3 c4 c5 c6 c7 cs hT n0 Oh3 E_o F_c F_v V_d S_CS h_cs) hZ (hw _ (List.mem_of_getElem? (i := 119) rfl)) (hw _ (List.mem_of_getElem? (i := 22) rfl)) (by decide) (by decide)) q2a q2c (g := (mkF m 234 #[vI p1, vI p2, vI p3, vI p4, vI p5, vI nn, vI g1_, vI g2_, vI g3_, vI g4_, vR ar, vJ mm, .second, vR so, vI nz] [iR so])) rfl (by rw [hml]; rfl) (Steps.refl _) (argsL := []) (rest := []) (lenOf pd_4 rfl) rfl (by show 2 * 0 + _ ≤ _; exact Nat.le_of_eq rfl) (hb hby at_234) (fun _ _ => ⟨rfl, e1, (by decide : 6 + 0 ≤ _), (by decide : 36 + 0 ≤ _)⟩)
  dsimp only [Pt.U, Pt.locs, Pt.cells, Pt.slots] at X2 l2 y2 z2 st2 hQ2
  subst l2 y2 z2
  obtain ⟨rfl, rfl, e2⟩ := hQ2
  try rw [List.append_nil] at X2
  obtain ⟨_, _, ⟨T4, L4, k4, n4⟩, -, X4, ⟨Lc4, hQ4, l4, y4, z4⟩, st4⟩ := Jvm.LawKit.callS X2 hx (y := (⟨"com/example/cloud_to_core/cloudtocore/model/SupportedFeaturesOfPinLaw", "digitOk", "(Ljava/lang/String;IIJ)Z"⟩ : MethodName)) hown (mvT hZ (hw _ (List.mem_of_getElem? (i := 126) rfl))) (mvT hZ (hw _ (List.mem_of_getElem? (i := 127) rfl))) (mvT hZ (hw _ (List.mem_of_getElem? (i := 106) rfl))) (mvT hZ (hw _ (List.mem_of_getElem? (i := 128) rfl))) (by decide) (backOf (W := 0) (rm21 l Z a0 hw [] so (0 : Int32) mm sd kb nz c0 c1 c2 c3 c4 c5 c6 c7 cs fm hT n0 Oh3 E_o F_c F_v V_d hn0 hn8 (by decide) hD0 S_CS h_cs S_F h_fm) hZ (hw _ (List.mem_of_getElem? (i := 128) rfl)) (hw _ (List.mem_of_getElem? (i := 106) rfl)) (by decide) (by decide)) (g := (mkF m 249 #[vI p1, vI p2, vI p3, vI p4, vI p5, vI nn, vI g1_, vI g2_, vI g3_, vI g4_, vR ar, vJ mm, .second, vR so, vI nz] [iJ mm, iI 0, iI nz, iR so])) rfl (by rw [hml]; rfl) (argsL := [(.ref so), (.int nz), (.int (0 : Int32)), (.long mm)]) (rest := []) (lenOf pd_19 rfl) rfl (by show 2 * 0 + _ ≤ _; exact Nat.le_of_eq rfl) (hb hby at_249) (fun _ _ => ⟨rfl, e2, (by decide : 6 + 0 ≤ _), (by decide : 36 + 0 ≤ _)⟩)
  dsimp only [Pt.U, Pt.locs, Pt.cells, Pt.slots] at X4 l4 y4 z4 st4 hQ4
  subst l4 y4 z4
  obtain ⟨rfl, rfl, e4⟩ := hQ4
  try rw [List.append_nil] at X4
  obtain ⟨_, _, ⟨T5, L5, k5, n5⟩, -, X5, ⟨Lc5, hQ5, l5, y5, z5⟩, st5⟩ := Jvm.LawKit.callS X4 hx (y := (⟨"com/example/cloud_to_core/cloudtocore/model/SupportedFeaturesOfPinLaw", "digitOk", "(Ljava/lang/String;IIJ)Z"⟩ : MethodName)) hown (mvT hZ (hw _ (List.mem_of_getElem? (i := 126) rfl))) (mvT hZ (hw _ (List.mem_of_getElem? (i := 127) rfl))) (mvT hZ (hw _ (List.mem_of_getElem? (i := 106) rfl))) (mvT hZ (hw _ (List.mem_of_getElem? (i := 128) rfl))) (by decide) (backOf (W := 0) (rm21 l Z a0 hw [] so (1 : Int32) mm sd kb nz c0 c1 c2 c3 c4 c5 c6 c7 cs fm hT n0 Oh3 E_o F_c F_v V_d hn0 hn8 (by decide) hD1 S_CS h_cs S_F h_fm) hZ (hw _ (List.mem_of_getElem? (i := 128) rfl)) (hw _ (List.mem_of_getElem? (i := 106) rfl)) (by decide) (by decide)) (g := (mkF m 262 #[vI p1, vI p2, vI p3, vI p4, vI p5, vI nn, vI g1_, vI g2_, vI g3_, vI g4_, vR ar, vJ mm, .second, vR so, vI nz] [iJ mm, iI 1, iI nz, iR so])) rfl (by rw [hml]; rfl) (argsL := [(.ref so), (.int nz), (.int (1 : Int32)), (.long mm)]) (rest := []) (lenOf pd_19 rfl) rfl (by show 2 * 0 + _ ≤ _; exact Nat.le_of_eq rfl) (hb hby at_262) (fun _ _ => ⟨rfl, e4, (by decide : 6 + 0 ≤ _), (by decide : 36 + 0 ≤ _)⟩)
  dsimp only [Pt.U, Pt.locs, Pt.cells, Pt.slots] at X5 l5 y5 z5 st5 hQ5
  subst l5 y5 z5
  obtain ⟨rfl, rfl, e5⟩ := hQ5
  try rw [List.append_nil] at X5
  obtain ⟨_, _, ⟨T6, L6, k6, n6⟩, -, X6, ⟨Lc6, hQ6, l6, y6, z6⟩, st6⟩ := Jvm.LawKit.callS X5 hx (y := (⟨"com/example/cloud_to_core/cloudtocore/model/SupportedFeaturesOfPinLaw", "digitOk", "(Ljava/lang/String;IIJ)Z"⟩ : MethodName)) hown (mvT hZ (hw _ (List.mem_of_getElem? (i := 126) rfl))) (mvT hZ (hw _ (List.mem_of_getElem? (i := 127) rfl))) (mvT hZ (hw _ (List.mem_of_getElem? (i := 106) rfl))) (mvT hZ (hw _ (List.mem_of_getElem? (i := 128) rfl))) (by decide) (backOf (W := 0) (rm21 l Z a0 hw [] so (2 : Int32) mm sd kb nz c0 c1 c2 c3 c4 c5 c6 c7 cs fm hT n0 Oh3 E_o F_c F_v V_d hn0 hn8 (by decide) hD2 S_CS h_cs S_F h_fm) hZ (hw _ (List.mem_of_getElem? (i := 128) rfl)) (hw _ (List.mem_of_getElem? (i := 106) rfl)) (by decide) (by decide)) (g := (mkF m 275 #[vI p1, vI p2, vI p3, vI p4, vI p5, vI nn, vI g1_, vI g2_, vI g3_, vI g4_, vR ar, vJ mm, .second, vR so, vI nz] [iJ mm, iI 2, iI nz, iR so])) rfl (by rw [hml]; rfl) (argsL := [(.ref so), (.int nz), (.int (2 : Int32)), (.long mm)]) (rest := []) (lenOf pd_19 rfl) rfl (by show 2 * 0 + _ ≤ _; exact Nat.le_of_eq rfl) (hb hby at_275) (fun _ _ => ⟨rfl, e5, (by decide : 6 + 0 ≤ _), (by decide : 36 + 0 ≤ _)⟩)
  dsimp only [Pt.U, Pt.locs, Pt.cells, Pt.slots] at X6 l6 y6 z6 st6 hQ6
  subst l6 y6 z6
  obtain ⟨rfl, rfl, e6⟩ := hQ6
  try rw [List.append_nil] at X6
  obtain ⟨_, _, ⟨T7, L7, k7, n7⟩, -, X7, ⟨Lc7, hQ7, l7, y7, z7⟩, st7⟩ := Jvm.LawKit.callS X6 hx (y := (⟨"com/example/cloud_to_core/cloudtocore/model/SupportedFeaturesOfPinLaw", "digitOk", "(Ljava/lang/String;IIJ)Z"⟩ : MethodName)) hown (mvT hZ (hw _ (List.mem_of_getElem? (i := 126) rfl))) (mvT hZ (hw _ (List.mem_of_getElem? (i := 127) rfl))) (mvT hZ (hw _ (List.mem_of_getElem? (i := 106) rfl))) (mvT hZ (hw _ (List.mem_of_getElem? (i := 128) rfl))) (by decide) (backOf (W := 0) (rm21 l Z a0 hw [] so (3 : Int32) mm sd kb nz c0 c1 c2 c3 c4 c5 c6 c7 cs fm hT n0 Oh3 E_o F_c F_v V_d hn0 hn8 (by decide) hD3 S_CS h_cs S_F h_fm) hZ (hw _ (List.mem_of_getElem? (i := 128) rfl)) (hw _ (List.mem_of_getElem? (i := 106) rfl)) (by decide) (by decide)) (g := (mkF m 288 #[vI p1, vI p2, vI p3, vI p4, vI p5, vI nn, vI g1_, vI g2_, vI g3_, vI g4_, vR ar, vJ mm, .second, vR so, vI nz] [iJ mm, iI 3, iI nz, iR so])) rfl (by rw [hml]; rfl) (argsL := [(.ref so), (.int nz), (.int (3 : Int32)), (.long mm)]) (rest := []) (lenOf pd_19 rfl) rfl (by show 2 * 0 + _ ≤ _; exact Nat.le_of_eq rfl) (hb hby at_288) (fun _ _ => ⟨rfl, e6, (by decide : 6 + 0 ≤ _), (by decide : 36 + 0 ≤ _)⟩)
  dsimp only [Pt.U, Pt.locs, Pt.cells, Pt.slots] at X7 l7 y7 z7 st7 hQ7
  subst l7 y7 z7
  obtain ⟨rfl, rfl, e7⟩ := hQ7
  try rw [List.append_nil] at X7
  obtain ⟨_, _, ⟨T8, L8, k8, n8⟩, -, X8, ⟨Lc8, hQ8, l8, y8, z8⟩, st8⟩ := Jvm.LawKit.callS X7 hx (y := (⟨"com/example/cloud_to_core/cloudtocore/model/SupportedFeaturesOfPinLaw", "digitOk", "(Ljava/lang/String;IIJ)Z"⟩ : MethodName)) hown (mvT hZ (hw _ (List.mem_of_getElem? (i := 126) rfl))) (mvT hZ (hw _ (List.mem_of_getElem? (i := 127) rfl))) (mvT hZ (hw _ (List.mem_of_getElem? (i := 106) rfl))) (mvT hZ (hw _ (List.mem_of_getElem? (i := 128) rfl))) (by decide) (backOf (W := 0) (rm21 l Z a0 hw [] so (4 : Int32) mm sd kb nz c0 c1 c2 c3 c4 c5 c6 c7 cs fm hT n0 Oh3 E_o F_c F_v V_d hn0 hn8 (by decide) hD4 S_CS h_cs S_F h_fm) hZ (hw _ (List.mem_of_getElem? (i := 128) rfl)) (hw _ (List.mem_of_getElem? (i := 106) rfl)) (by decide) (by decide)) (g := (mkF m 301 #[vI p1, vI p2, vI p3, vI p4, vI p5, vI nn, vI g1_, vI g2_, vI g3_, vI g4_, vR ar, vJ mm, .second, vR so, vI nz] [iJ mm, iI 4, iI nz, iR so])) rfl (by rw [hml]; rfl) (argsL := [(.ref so), (.int nz), (.int (4 : Int32)), (.long mm)]) (rest := []) (lenOf pd_19 rfl) rfl (by show 2 * 0 + _ ≤ _; exact Nat.le_of_eq rfl) (hb hby at_301) (fun _ _ => ⟨rfl, e7, (by decide : 6 + 0 ≤ _), (by decide : 36 + 0 ≤ _)⟩)
  dsimp only [Pt.U, Pt.locs, Pt.cells, Pt.slots] at X8 l8 y8 z8 st8 hQ8
  subst l8 y8 z8
  obtain ⟨rfl, rfl, e8⟩ := hQ8
  try rw [List.append_nil] at X8
  obtain ⟨_, _, ⟨T9, L9, k9, n9⟩, -, X9, ⟨Lc9, hQ9, l9, y9, z9⟩, st9⟩ := Jvm.LawKit.callS X8 hx (y := (⟨"com/example/cloud_to_core/cloudtocore/model/SupportedFeaturesOfPinLaw", "digitOk", "(Ljava/lang/String;IIJ)Z"⟩ : MethodName)) hown (mvT hZ (hw _ (List.mem_of_getElem? (i := 126) rfl))) (mvT hZ (hw _ (List.mem_of_getElem? (i := 127) rfl))) (mvT hZ (hw _ (List.mem_of_getElem? (i := 106) rfl))) (mvT hZ (hw _ (List.mem_of_getElem? (i := 128) rfl))) (by decide) (backOf (W := 0) (rm21 l Z a0 hw [] so (5 : Int32) mm sd kb nz c0 c1 c2 c3 c4 c5 c6 c7 cs fm hT n0 Oh3 E_o F_c F_v V_d hn0 hn8 (by decide) hD5 S_CS h_cs S_F h_fm) hZ (hw _ (List.mem_of_getElem? (i := 128) rfl)) (hw _ (List.mem_of_getElem? (i := 106) rfl)) (by decide) (by decide)) (g := (mkF m 314 #[vI p1, vI p2, vI p3, vI p4, vI p5, vI nn, vI g1_, vI g2_, vI g3_, vI g4_, vR ar, vJ mm, .second, vR so, vI nz] [iJ mm, iI 5, iI nz, iR so])) rfl (by rw [hml]; rfl) (argsL := [(.ref so), (.int nz), (.int (5 : Int32)), (.long mm)]) (rest := []) (lenOf pd_19 rfl) rfl (by show 2 * 0 + _ ≤ _; exact Nat.le_of_eq rfl) (hb hby at_314) (fun _ _ => ⟨rfl, e8, (by decide : 6 + 0 ≤ _), (by decide : 36 + 0 ≤ _)⟩)
  dsimp only [Pt.U, Pt.locs, Pt.cells, Pt.slots] at X9 l9 y9 z9 st9 hQ9
  subst l9 y9 z9
  obtain ⟨rfl, rfl, e9⟩ := hQ9
  try rw [List.append_nil] at X9
  obtain ⟨_, _, ⟨T10, L10, k10, n10⟩, -, X10, ⟨Lc10, hQ10, l10, y10, z10⟩, st10⟩ := Jvm.LawKit.callS X9 hx (y := (⟨"com/example/cloud_to_core/cloudtocore/model/SupportedFeaturesOfPinLaw", "digitOk", "(Ljava/lang/String;IIJ)Z"⟩ : MethodName)) hown (mvT hZ (hw _ (List.mem_of_getElem? (i := 126) rfl))) (mvT hZ (hw _ (List.mem_of_getElem? (i := 127) rfl))) (mvT hZ (hw _ (List.mem_of_getElem? (i := 106) rfl))) (mvT hZ (hw _ (List.mem_of_getElem? (i := 128) rfl))) (by decide) (backOf (W := 0) (rm21 l Z a0 hw [] so (6 : Int32) mm sd kb nz c0 c1 c2 c3 c4 c5 c6 c7 cs fm hT n0 Oh3 E_o F_c F_v V_d hn0 hn8 (by decide) hD6 S_CS h_cs S_F h_fm) hZ (hw _ (List.mem_of_getElem? (i := 128) rfl)) (hw _ (List.mem_of_getElem? (i := 106) rfl)) (by decide) (by decide)) (g := (mkF m 328 #[vI p1, vI p2, vI p3, vI p4, vI p5, vI nn, vI g1_, vI g2_, vI g3_, vI g4_, vR ar, vJ mm, .second, vR so, vI nz] [iJ mm, iI 6, iI nz, iR so])) rfl (by rw [hml]; rfl) (argsL := [(.ref so), (.int nz), (.int (6 : Int32)), (.long mm)]) (rest := []) (lenOf pd_19 rfl) rfl (by show 2 * 0 + _ ≤ _; exact Nat.le_of_eq rfl) (hb hby at_328) (fun _ _ => ⟨rfl, e9, (by decide : 6 + 0 ≤ _), (by decide : 36 + 0 ≤ _)⟩)
  dsimp only [Pt.U, Pt.locs, Pt.cells, Pt.slots] at X10 l10 y10 z10 st10 hQ10
  subst l10 y10 z10
  obtain ⟨rfl, rfl, e10⟩ := hQ10
  try rw [List.append_nil] at X10
  obtain ⟨_, _, ⟨T11, L11, k11, n11⟩, -, X11, ⟨Lc11, hQ11, l11, y11, z11⟩, st11⟩ := Jvm.LawKit.callS X10 hx (y := (⟨"com/example/cloud_to_core/cloudtocore/model/SupportedFeaturesOfPinLaw", "digitOk", "(Ljava/lang/String;IIJ)Z"⟩ : MethodName)) hown (mvT hZ (hw _ (List.mem_of_getElem? (i := 126) rfl))) (mvT hZ (hw _ (List.mem_of_getElem? (i := 127) rfl))) (mvT hZ (hw _ (List.mem_of_getElem? (i := 106) rfl))) (mvT hZ (hw _ (List.mem_of_getElem? (i := 128) rfl))) (by decide) (backOf (W := 0) (rm21 l Z a0 hw [] so (7 : Int32) mm sd kb nz c0 c1 c2 c3 c4 c5 c6 c7 cs fm hT n0 Oh3 E_o F_c F_v V_d hn0 hn8 (by decide) hD7 S_CS h_cs S_F h_fm) hZ (hw _ (List.mem_of_getElem? (i := 128) rfl)) (hw _ (List.mem_of_getElem? (i := 106) rfl)) (by decide) (by decide)) (g := (mkF m 342 #[vI p1, vI p2, vI p3, vI p4, vI p5, vI nn, vI g1_, vI g2_, vI g3_, vI g4_, vR ar, vJ mm, .second, vR so, vI nz] [iJ mm, iI 7, iI nz, iR so])) rfl (by rw [hml]; rfl) (argsL := [(.ref so), (.int nz), (.int (7 : Int32)), (.long mm)]) (rest := []) (lenOf pd_19 rfl) rfl (by show 2 * 0 + _ ≤ _; exact Nat.le_of_eq rfl) (hb hby at_342) (fun _ _ => ⟨rfl, e10, (by decide : 6 + 0 ≤ _), (by decide : 36 + 0 ≤ _)⟩)
  dsimp only [Pt.U, Pt.locs, Pt.cells, Pt.slots] at X11 l11 y11 z11 st11 hQ11
  subst l11 y11 z11
  obtain ⟨rfl, rfl, e11⟩ := hQ11
  try rw [List.append_nil] at X11
  obtain ⟨fs, hr, hrun, hended, hW, hsame⟩ := X11.leave (v := some (.int (1 : Int32))) (fun h => by rw [hret] at h; cases h)
  refine ⟨_, _, ?_, hrun, hended, _, _, rfl, ?_, ⟨_, rfl⟩, hW, hsame.mono (by decide) (by decide)⟩
  · show Steps _ _ _ (T0.setTop (mkF m 223 #[vI p1, vI p2, vI p3, vI p4, vI p5, vI nn, vI g1_, vI g2_, vI g3_, vI g4_, vR ar, vJ mm, .second, .unset, .unset] [iR so])) _
    refine XS.astore X0.here hx rfl (hb hby at_223) rfl rfl (l' := #[vI p1, vI p2, vI p3, vI p4, vI p5, vI nn, vI g1_, vI g2_, vI g3_, vI g4_, vR ar, vJ mm, .second, vR so, .unset]) rfl ?_
    show Steps _ _ _ (T0.setTop (mkF m 225 #[vI p1, vI p2, vI p3, vI p4, vI p5, vI nn, vI g1_, vI g2_, vI g3_, vI g4_, vR ar, vJ mm, .second, vR so, .unset] [])) _
    refine XS.lload X0.here hx rfl (hb hby at_225) rfl ?_
    show Steps _ _ _ (T0.setTop (mkF m 227 #[vI p1, vI p2, vI p3, vI p4, vI p5, vI nn, vI g1_, vI g2_, vI g3_, vI g4_, vR ar, vJ mm, .second, vR so, .unset] [iJ mm])) _
    refine st1 _ ?_
    show Steps _ _ _ (T1.setTop (mkF m 230 #[vI p1, vI p2, vI p3, vI p4, vI p5, vI nn, vI g1_, vI g2_, vI g3_, vI g4_, vR ar, vJ mm, .second, vR so, .unset] [iI nz])) _
    refine XS.istore X1.here hx rfl (hb hby at_230) rfl (l' := #[vI p1, vI p2, vI p3, vI p4, vI p5, vI nn, vI g1_, vI g2_, vI g3_, vI g4_, vR ar, vJ mm, .second, vR so, vI nz]) rfl ?_
    show Steps _ _ _ (T1.setTop (mkF m 232 #[vI p1, vI p2, vI p3, vI p4, vI p5, vI nn, vI g1_, vI g2_, vI g3_, vI g4_, vR ar, vJ mm, .second, vR so, vI nz] [])) _
    refine XS.aload X1.here hx rfl (hb hby at_232) rfl rfl ?_
    show Steps _ _ _ (T1.setTop (mkF m 234 #[vI p1, vI p2, vI p3, vI p4, vI p5, vI nn, vI g1_, vI g2_, vI g3_, vI g4_, vR ar, vJ mm, .second, vR so, vI nz] [iR so])) _
    refine st2.trans ?_
    show Steps _ _ _ (T2.setTop (mkF m 237 #[vI p1, vI p2, vI p3, vI p4, vI p5, vI nn, vI g1_, vI g2_, vI g3_, vI g4_, vR ar, vJ mm, .second, vR so, vI nz] [iI nz])) _
    refine XS.iload X2.here hx rfl (hb hby at_237) rfl ?_
    show Steps _ _ _ (T2.setTop (mkF m 239 #[vI p1, vI p2, vI p3, vI p4, vI p5, vI nn, vI g1_, vI g2_, vI g3_, vI g4_, vR ar, vJ mm, .second, vR so, vI nz] [iI nz, iI nz])) _
    refine XS.icmpNo X2.here hx rfl (hb hby at_239) rfl (teq (rfl : nz = nz)).2 ?_
    show Steps _ _ _ (T2.setTop (mkF m 242 #[vI p1, vI p2, vI p3, vI p4, vI p5, vI nn, vI g1_, vI g2_, vI g3_, vI g4_, vR ar, vJ mm, .second, vR so, vI nz] [])) _
    refine XS.aload X2.here hx rfl (hb hby at_242) rfl rfl ?_
    show Steps _ _ _ (T2.setTop (mkF m 244 #[vI p1, vI p2, vI p3, vI p4, vI p5, vI nn, vI g1_, vI g2_, vI g3_, vI g4_, vR ar, vJ mm, .second, vR so, vI nz] [iR so])) _
    refine XS.iload X2.here hx rfl (hb hby at_244) rfl ?_
    show Steps _ _ _ (T2.setTop (mkF m 246 #[vI p1, vI p2, vI p3, vI p4, vI p5, vI nn, vI g1_, vI g2_, vI g3_, vI g4_, vR ar, vJ mm, .second, vR so, vI nz] [iI nz, iR so])) _
    refine XS.iconst X2.here hx rfl (hb hby at_246) ?_
    show Steps _ _ _ (T2.setTop (mkF m 247 #[vI p1, vI p2, vI p3, vI p4, vI p5, vI nn, vI g1_, vI g2_, vI g3_, vI g4_, vR ar, vJ mm, .second, vR so, vI nz] [iI 0, iI nz, iR so])) _
    refine XS.lload X2.here hx rfl (hb hby at_247) rfl ?_
    show Steps _ _ _ (T2.setTop (mkF m 249 #[vI p1, vI p2, vI p3, vI p4, vI p5, vI nn, vI g1_, vI g2_, vI g3_, vI g4_, vR ar, vJ mm, .second, vR so, vI nz] [iJ mm, iI 0, iI nz, iR so])) _
    refine st4 _ ?_
    show Steps _ _ _ (T4.setTop (mkF m 252 #[vI p1, vI p2, vI p3, vI p4, vI p5, vI nn, vI g1_, vI g2_, vI g3_, vI g4_, vR ar, vJ mm, .second, vR so, vI nz] [iI 1])) _
    refine XS.ifNo X4.here hx rfl (hb hby at_252) rfl ((if0 _ _).trans (feq (by decide : ¬ ((1 : Int32) = (0 : Int32)))).1) ?_
    show Steps _ _ _ (T4.setTop (mkF m 255 #[vI p1, vI p2, vI p3, vI p4, vI p5, vI nn, vI g1_, vI g2_, vI g3_, vI g4_, vR ar, vJ mm, .second, vR so, vI nz] [])) _
    refine XS.aload X4.here hx rfl (hb hby at_255) rfl rfl ?_
    show Steps _ _ _ (T4.setTop (mkF m 257 #[vI p1, vI p2, vI p3, vI p4, vI p5, vI nn, vI g1_, vI g2_, vI g3_, vI g4_, vR ar, vJ mm, .second, vR so, vI nz] [iR so])) _
    refine XS.iload X4.here hx rfl (hb hby at_257) rfl ?_
    show Steps _ _ _ (T4.setTop (mkF m 259 #[vI p1, vI p2, vI p3, vI p4, vI p5, vI nn, vI g1_, vI g2_, vI g3_, vI g4_, vR ar, vJ mm, .second, vR so, vI nz] [iI nz, iR so])) _
    refine XS.iconst X4.here hx rfl (hb hby at_259) ?_
    show Steps _ _ _ (T4.setTop (mkF m 260 #[vI p1, vI p2, vI p3, vI p4, vI p5, vI nn, vI g1_, vI g2_, vI g3_, vI g4_, vR ar, vJ mm, .second, vR so, vI nz] [iI 1, iI nz, iR so])) _
    refine XS.lload X4.here hx rfl (hb hby at_260) rfl ?_
    show Steps _ _ _ (T4.setTop (mkF m 262 #[vI p1, vI p2, vI p3, vI p4, vI p5, vI nn, vI g1_, vI g2_, vI g3_, vI g4_, vR ar, vJ mm, .second, vR so, vI nz] [iJ mm, iI 1, iI nz, iR so])) _
    refine st5 _ ?_
    show Steps _ _ _ (T5.setTop (mkF m 265 #[vI p1, vI p2, vI p3, vI p4, vI p5, vI nn, vI g1_, vI g2_, vI g3_, vI g4_, vR ar, vJ mm, .second, vR so, vI nz] [iI 1])) _
    refine XS.ifNo X5.here hx rfl (hb hby at_265) rfl ((if0 _ _).trans (feq (by decide : ¬ ((1 : Int32) = (0 : Int32)))).1) ?_
    show Steps _ _ _ (T5.setTop (mkF m 268 #[vI p1, vI p2, vI p3, vI p4, vI p5, vI nn, vI g1_, vI g2_, vI g3_, vI g4_, vR ar, vJ mm, .second, vR so, vI nz] [])) _
    refine XS.aload X5.here hx rfl (hb hby at_268) rfl rfl ?_
    show Steps _ _ _ (T5.setTop (mkF m 270 #[vI p1, vI p2, vI p3, vI p4, vI p5, vI nn, vI g1_, vI g2_, vI g3_, vI g4_, vR ar, vJ mm, .second, vR so, vI nz] [iR so])) _
    refine XS.iload X5.here hx rfl (hb hby at_270) rfl ?_
    show Steps _ _ _ (T5.setTop (mkF m 272 #[vI p1, vI p2, vI p3, vI p4, vI p5, vI nn, vI g1_, vI g2_, vI g3_, vI g4_, vR ar, vJ mm, .second, vR so, vI nz] [iI nz, iR so])) _
    refine XS.iconst X5.here hx rfl (hb hby at_272) ?_
    show Steps _ _ _ (T5.setTop (mkF m 273 #[vI p1, vI p2, vI p3, vI p4, vI p5, vI nn, vI g1_, vI g2_, vI g3_, vI g4_, vR ar, vJ mm, .second, vR so, vI nz] [iI 2, iI nz, iR so])) _
    refine XS.lload X5.here hx rfl (hb hby at_273) rfl ?_
    show Steps _ _ _ (T5.setTop (mkF m 275 #[vI p1, vI p2, vI p3, vI p4, vI p5, vI nn, vI g1_, vI g2_, vI g3_, vI g4_, vR ar, vJ mm, .second, vR so, vI nz] [iJ mm, iI 2, iI nz, iR so])) _
    refine st6 _ ?_
    show Steps _ _ _ (T6.setTop (mkF m 278 #[vI p1, vI p2, vI p3, vI p4, vI p5, vI nn, vI g1_, vI g2_, vI g3_, vI g4_, vR ar, vJ mm, .second, vR so, vI nz] [iI 1])) _
    refine XS.ifNo X6.here hx rfl (hb hby at_278) rfl ((if0 _ _).trans (feq (by decide : ¬ ((1 : Int32) = (0 : Int32)))).1) ?_
    show Steps _ _ _ (T6.setTop (mkF m 281 #[vI p1, vI p2, vI p3, vI p4, vI p5, vI nn, vI g1_, vI g2_, vI g3_, vI g4_, vR ar, vJ mm, .second, vR so, vI nz] [])) _
    refine XS.aload X6.here hx rfl (hb hby at_281) rfl rfl ?_
    show Steps _ _ _ (T6.setTop (mkF m 283 #[vI p1, vI p2, vI p3, vI p4, vI p5, vI nn, vI g1_, vI g2_, vI g3_, vI g4_, vR ar, vJ mm, .second, vR so, vI nz] [iR so])) _
    refine XS.iload X6.here hx rfl (hb hby at_283) rfl ?_
    show Steps _ _ _ (T6.setTop (mkF m 285 #[vI p1, vI p2, vI p3, vI p4, vI p5, vI nn, vI g1_, vI g2_, vI g3_, vI g4_, vR ar, vJ mm, .second, vR so, vI nz] [iI nz, iR so])) _
    refine XS.iconst X6.here hx rfl (hb hby at_285) ?_
    show Steps _ _ _ (T6.setTop (mkF m 286 #[vI p1, vI p2, vI p3, vI p4, vI p5, vI nn, vI g1_, vI g2_, vI g3_, vI g4_, vR ar, vJ mm, .second, vR so, vI nz] [iI 3, iI nz, iR so])) _
    refine XS.lload X6.here hx rfl (hb hby at_286) rfl ?_
    show Steps _ _ _ (T6.setTop (mkF m 288 #[vI p1, vI p2, vI p3, vI p4, vI p5, vI nn, vI g1_, vI g2_, vI g3_, vI g4_, vR ar, vJ mm, .second, vR so, vI nz] [iJ mm, iI 3, iI nz, iR so])) _
    refine st7 _ ?_
    show Steps _ _ _ (T7.setTop (mkF m 291 #[vI p1, vI p2, vI p3, vI p4, vI p5, vI nn, vI g1_, vI g2_, vI g3_, vI g4_, vR ar, vJ mm, .second, vR so, vI nz] [iI 1])) _
    refine XS.ifNo X7.here hx rfl (hb hby at_291) rfl ((if0 _ _).trans (feq (by decide : ¬ ((1 : Int32) = (0 : Int32)))).1) ?_
    show Steps _ _ _ (T7.setTop (mkF m 294 #[vI p1, vI p2, vI p3, vI p4, vI p5, vI nn, vI g1_, vI g2_, vI g3_, vI g4_, vR ar, vJ mm, .second, vR so, vI nz] [])) _
    refine XS.aload X7.here hx rfl (hb hby at_294) rfl rfl ?_
    show Steps _ _ _ (T7.setTop (mkF m 296 #[vI p1, vI p2, vI p3, vI p4, vI p5, vI nn, vI g1_, vI g2_, vI g3_, vI g4_, vR ar, vJ mm, .second, vR so, vI nz] [iR so])) _
    refine XS.iload X7.here hx rfl (hb hby at_296) rfl ?_
    show Steps _ _ _ (T7.setTop (mkF m 298 #[vI p1, vI p2, vI p3, vI p4, vI p5, vI nn, vI g1_, vI g2_, vI g3_, vI g4_, vR ar, vJ mm, .second, vR so, vI nz] [iI nz, iR so])) _
    refine XS.iconst X7.here hx rfl (hb hby at_298) ?_
    show Steps _ _ _ (T7.setTop (mkF m 299 #[vI p1, vI p2, vI p3, vI p4, vI p5, vI nn, vI g1_, vI g2_, vI g3_, vI g4_, vR ar, vJ mm, .second, vR so, vI nz] [iI 4, iI nz, iR so])) _
    refine XS.lload X7.here hx rfl (hb hby at_299) rfl ?_
    show Steps _ _ _ (T7.setTop (mkF m 301 #[vI p1, vI p2, vI p3, vI p4, vI p5, vI nn, vI g1_, vI g2_, vI g3_, vI g4_, vR ar, vJ mm, .second, vR so, vI nz] [iJ mm, iI 4, iI nz, iR so])) _
    refine st8 _ ?_
    show Steps _ _ _ (T8.setTop (mkF m 304 #[vI p1, vI p2, vI p3, vI p4, vI p5, vI nn, vI g1_, vI g2_, vI g3_, vI g4_, vR ar, vJ mm, .second, vR so, vI nz] [iI 1])) _
    refine XS.ifNo X8.here hx rfl (hb hby at_304) rfl ((if0 _ _).trans (feq (by decide : ¬ ((1 : Int32) = (0 : Int32)))).1) ?_
    show Steps _ _ _ (T8.setTop (mkF m 307 #[vI p1, vI p2, vI p3, vI p4, vI p5, vI nn, vI g1_, vI g2_, vI g3_, vI g4_, vR ar, vJ mm, .second, vR so, vI nz] [])) _
    refine XS.aload X8.here hx rfl (hb hby at_307) rfl rfl ?_
    show Steps _ _ _ (T8.setTop (mkF m 309 #[vI p1, vI p2, vI p3, vI p4, vI p5, vI nn, vI g1_, vI g2_, vI g3_, vI g4_, vR ar, vJ mm, .second, vR so, vI nz] [iR so])) _
    refine XS.iload X8.here hx rfl (hb hby at_309) rfl ?_
    show Steps _ _ _ (T8.setTop (mkF m 311 #[vI p1, vI p2, vI p3, vI p4, vI p5, vI nn, vI g1_, vI g2_, vI g3_, vI g4_, vR ar, vJ mm, .second, vR so, vI nz] [iI nz, iR so])) _
    refine XS.iconst X8.here hx rfl (hb hby at_311) ?_
    show Steps _ _ _ (T8.setTop (mkF m 312 #[vI p1, vI p2, vI p3, vI p4, vI p5, vI nn, vI g1_, vI g2_, vI g3_, vI g4_, vR ar, vJ mm, .second, vR so, vI nz] [iI 5, iI nz, iR so])) _
    refine XS.lload X8.here hx rfl (hb hby at_312) rfl ?_
    show Steps _ _ _ (T8.setTop (mkF m 314 #[vI p1, vI p2, vI p3, vI p4, vI p5, vI nn, vI g1_, vI g2_, vI g3_, vI g4_, vR ar, vJ mm, .second, vR so, vI nz] [iJ mm, iI 5, iI nz, iR so])) _
    refine st9 _ ?_
    show Steps _ _ _ (T9.setTop (mkF m 317 #[vI p1, vI p2, vI p3, vI p4, vI p5, vI nn, vI g1_, vI g2_, vI g3_, vI g4_, vR ar, vJ mm, .second, vR so, vI nz] [iI 1])) _
    refine XS.ifNo X9.here hx rfl (hb hby at_317) rfl ((if0 _ _).trans (feq (by decide : ¬ ((1 : Int32) = (0 : Int32)))).1) ?_
    show Steps _ _ _ (T9.setTop (mkF m 320 #[vI p1, vI p2, vI p3, vI p4, vI p5, vI nn, vI g1_, vI g2_, vI g3_, vI g4_, vR ar, vJ mm, .second, vR so, vI nz] [])) _
    refine XS.aload X9.here hx rfl (hb hby at_320) rfl rfl ?_
    show Steps _ _ _ (T9.setTop (mkF m 322 #[vI p1, vI p2, vI p3, vI p4, vI p5, vI nn, vI g1_, vI g2_, vI g3_, vI g4_, vR ar, vJ mm, .second, vR so, vI nz] [iR so])) _
    refine XS.iload X9.here hx rfl (hb hby at_322) rfl ?_
    show Steps _ _ _ (T9.setTop (mkF m 324 #[vI p1, vI p2, vI p3, vI p4, vI p5, vI nn, vI g1_, vI g2_, vI g3_, vI g4_, vR ar, vJ mm, .second, vR so, vI nz] [iI nz, iR so])) _
    refine XS.bipush X9.here hx rfl (hb hby at_324) ?_
    show Steps _ _ _ (T9.setTop (mkF m 326 #[vI p1, vI p2, vI p3, vI p4, vI p5, vI nn, vI g1_, vI g2_, vI g3_, vI g4_, vR ar, vJ mm, .second, vR so, vI nz] [iI 6, iI nz, iR so])) _
    refine XS.lload X9.here hx rfl (hb hby at_326) rfl ?_
    show Steps _ _ _ (T9.setTop (mkF m 328 #[vI p1, vI p2, vI p3, vI p4, vI p5, vI nn, vI g1_, vI g2_, vI g3_, vI g4_, vR ar, vJ mm, .second, vR so, vI nz] [iJ mm, iI 6, iI nz, iR so])) _
    refine st10 _ ?_
    show Steps _ _ _ (T10.setTop (mkF m 331 #[vI p1, vI p2, vI p3, vI p4, vI p5, vI nn, vI g1_, vI g2_, vI g3_, vI g4_, vR ar, vJ mm, .second, vR so, vI nz] [iI 1])) _
    refine XS.ifNo X10.here hx rfl (hb hby at_331) rfl ((if0 _ _).trans (feq (by decide : ¬ ((1 : Int32) = (0 : Int32)))).1) ?_
    show Steps _ _ _ (T10.setTop (mkF m 334 #[vI p1, vI p2, vI p3, vI p4, vI p5, vI nn, vI g1_, vI g2_, vI g3_, vI g4_, vR ar, vJ mm, .second, vR so, vI nz] [])) _
    refine XS.aload X10.here hx rfl (hb hby at_334) rfl rfl ?_
    show Steps _ _ _ (T10.setTop (mkF m 336 #[vI p1, vI p2, vI p3, vI p4, vI p5, vI nn, vI g1_, vI g2_, vI g3_, vI g4_, vR ar, vJ mm, .second, vR so, vI nz] [iR so])) _
    refine XS.iload X10.here hx rfl (hb hby at_336) rfl ?_
    show Steps _ _ _ (T10.setTop (mkF m 338 #[vI p1, vI p2, vI p3, vI p4, vI p5, vI nn, vI g1_, vI g2_, vI g3_, vI g4_, vR ar, vJ mm, .second, vR so, vI nz] [iI nz, iR so])) _
    refine XS.bipush X10.here hx rfl (hb hby at_338) ?_
    show Steps _ _ _ (T10.setTop (mkF m 340 #[vI p1, vI p2, vI p3, vI p4, vI p5, vI nn, vI g1_, vI g2_, vI g3_, vI g4_, vR ar, vJ mm, .second, vR so, vI nz] [iI 7, iI nz, iR so])) _
    refine XS.lload X10.here hx rfl (hb hby at_340) rfl ?_
    show Steps _ _ _ (T10.setTop (mkF m 342 #[vI p1, vI p2, vI p3, vI p4, vI p5, vI nn, vI g1_, vI g2_, vI g3_, vI g4_, vR ar, vJ mm, .second, vR so, vI nz] [iJ mm, iI 7, iI nz, iR so])) _
    refine st11 _ ?_
    show Steps _ _ _ (T11.setTop (mkF m 345 #[vI p1, vI p2, vI p3, vI p4, vI p5, vI nn, vI g1_, vI g2_, vI g3_, vI g4_, vR ar, vJ mm, .second, vR so, vI nz] [iI 1])) _
    refine XS.ifNo X11.here hx rfl (hb hby at_345) rfl ((if0 _ _).trans (feq (by decide : ¬ ((1 : Int32) = (0 : Int32)))).1) ?_
    show Steps _ _ _ (T11.setTop (mkF m 348 #[vI p1, vI p2, vI p3, vI p4, vI p5, vI nn, vI g1_, vI g2_, vI g3_, vI g4_, vR ar, vJ mm, .second, vR so, vI nz] [])) _
    refine XS.iconst X11.here hx rfl (hb hby at_348) ?_
    show Steps _ _ _ (T11.setTop (mkF m 349 #[vI p1, vI p2, vI p3, vI p4, vI p5, vI nn, vI g1_, vI g2_, vI g3_, vI g4_, vR ar, vJ mm, .second, vR so, vI nz] [iI 1])) _
    refine XS.goto X11.here hx rfl (pc0 := 349) (pc' := 353) rfl (hb hby at_349) (by decide) (by decide) ?_
    show Steps _ _ _ (T11.setTop (mkF m 353 #[vI p1, vI p2, vI p3, vI p4, vI p5, vI nn, vI g1_, vI g2_, vI g3_, vI g4_, vR ar, vJ mm, .second, vR so, vI nz] [iI 1])) _
    exact retN X11 hx (t := .boolean) hret (by simp) (hb hby at_353) hr
  · show own_Q0 n0 _ T11.heap _
    rw [e11]
    exact ⟨rfl, N0⟩
theorem own_small16 (v : Int32) (h0 : 0 ≤ v.toInt) (h1 : v.toInt < 16) : v = 0 ∨ v = 1 ∨ v = 2 ∨ v = 3 ∨ v = 4 ∨ v = 5 ∨ v = 6 ∨ v = 7 ∨ v = 8 ∨ v = 9 ∨ v = 10 ∨ v = 11 ∨ v = 12 ∨ v = 13 ∨ v = 14 ∨ v = 15 := by
  have h : v.toInt = 0 ∨ v.toInt = 1 ∨ v.toInt = 2 ∨ v.toInt = 3 ∨ v.toInt = 4 ∨ v.toInt = 5 ∨ v.toInt = 6 ∨ v.toInt = 7 ∨ v.toInt = 8 ∨ v.toInt = 9 ∨ v.toInt = 10 ∨ v.toInt = 11 ∨ v.toInt = 12 ∨ v.toInt = 13 ∨ v.toInt = 14 ∨ v.toInt = 15 := by omega
  rcases h with h | h | h | h | h | h | h | h | h | h | h | h | h | h | h | h
  · exact Or.inl (Int32.toInt_inj.mp (h.trans (by decide)))
  · exact Or.inr (Or.inl (Int32.toInt_inj.mp (h.trans (by decide))))
  · exact Or.inr (Or.inr (Or.inl (Int32.toInt_inj.mp (h.trans (by decide)))))
  · exact Or.inr (Or.inr (Or.inr (Or.inl (Int32.toInt_inj.mp (h.trans (by decide))))))
  · exact Or.inr (Or.inr (Or.inr (Or.inr (Or.inl (Int32.toInt_inj.mp (h.trans (by decide)))))))
  · exact Or.inr (Or.inr (Or.inr (Or.inr (Or.inr (Or.inl (Int32.toInt_inj.mp (h.trans (by decide))))))))
  · exact Or.inr (Or.inr (Or.inr (Or.inr (Or.inr (Or.inr (Or.inl (Int32.toInt_inj.mp (h.trans (by decide)))))))))
  · exact Or.inr (Or.inr (Or.inr (Or.inr (Or.inr (Or.inr (Or.inr (Or.inl (Int32.toInt_inj.mp (h.trans (by decide))))))))))
  · exact Or.inr (Or.inr (Or.inr (Or.inr (Or.inr (Or.inr (Or.inr (Or.inr (Or.inl (Int32.toInt_inj.mp (h.trans (by decide)))))))))))
  · exact Or.inr (Or.inr (Or.inr (Or.inr (Or.inr (Or.inr (Or.inr (Or.inr (Or.inr (Or.inl (Int32.toInt_inj.mp (h.trans (by decide))))))))))))
  · exact Or.inr (Or.inr (Or.inr (Or.inr (Or.inr (Or.inr (Or.inr (Or.inr (Or.inr (Or.inr (Or.inl (Int32.toInt_inj.mp (h.trans (by decide)))))))))))))
  · exact Or.inr (Or.inr (Or.inr (Or.inr (Or.inr (Or.inr (Or.inr (Or.inr (Or.inr (Or.inr (Or.inr (Or.inl (Int32.toInt_inj.mp (h.trans (by decide))))))))))))))
  · exact Or.inr (Or.inr (Or.inr (Or.inr (Or.inr (Or.inr (Or.inr (Or.inr (Or.inr (Or.inr (Or.inr (Or.inr (Or.inl (Int32.toInt_inj.mp (h.trans (by decide)))))))))))))))
  · exact Or.inr (Or.inr (Or.inr (Or.inr (Or.inr (Or.inr (Or.inr (Or.inr (Or.inr (Or.inr (Or.inr (Or.inr (Or.inr (Or.inl (Int32.toInt_inj.mp (h.trans (by decide))))))))))))))))
  · exact Or.inr (Or.inr (Or.inr (Or.inr (Or.inr (Or.inr (Or.inr (Or.inr (Or.inr (Or.inr (Or.inr (Or.inr (Or.inr (Or.inr (Or.inl (Int32.toInt_inj.mp (h.trans (by decide)))))))))))))))))
  · exact Or.inr (Or.inr (Or.inr (Or.inr (Or.inr (Or.inr (Or.inr (Or.inr (Or.inr (Or.inr (Or.inr (Or.inr (Or.inr (Or.inr (Or.inr ((Int32.toInt_inj.mp (h.trans (by decide))))))))))))))))))

theorem own_ofNat (v : Int32) (n : Nat) (hn : n ≤ 1000000) (h0 : 0 ≤ v.toInt) (h1 : v.toInt < n) : ∃ i, i < n ∧ v = Int32.ofNat i := by
  refine ⟨v.toInt.toNat, by omega, Int32.toInt_inj.mp ?_⟩
  rw [Int32.toInt_ofNat_of_lt (by omega)]; omega

theorem own_f (x : Int32) : ¬ ((x &&& (31 : Int32)) + (1 : Int32)) < (1 : Int32) ∧ ¬ (32 : Int32) < ((x &&& (31 : Int32)) + (1 : Int32)) := by
  have h := c_and x 31 (by decide)
  have e : (31 : Int32).toInt = 31 := rfl
  have e1 : (1 : Int32).toInt = 1 := rfl
  have e2 : (32 : Int32).toInt = 32 := rfl
  have q := c_iadd (x &&& 31) 1
  have r := rng32 ((x &&& (31 : Int32)) + (1 : Int32))
  rw [e] at h
  rw [e1] at q
  simp only [Int32.lt_iff_toInt_lt, e1, e2]
  omega
theorem own_ltN (a : Int64) (h : a.toBitVec.toNat < 4294967296) (k : Int64) (n : Nat) (hk : k.toInt = n) : (a < k) = (a.toBitVec.toNat < n) := by
  have e : a.toInt = (a.toBitVec.toNat : Int) := by
    show a.toBitVec.toInt = _
    rw [BitVec.toInt_eq_toNat_cond]; split <;> omega
  rw [Int64.lt_iff_toInt_lt, hk, e]
  exact propext ⟨fun h => by omega, fun h => by omega⟩
theorem own_hexLe (a : Int64) (h : a.toBitVec.toNat < 4294967296) : (1 ≤ (own_hex a).toInt ∧ (own_hex a).toInt ≤ 8) ∧ ((own_hex a).toInt ≤ 1 ↔ a.toBitVec.toNat < 2 ^ 4) ∧ ((own_hex a).toInt ≤ 2 ↔ a.toBitVec.toNat < 2 ^ 8) ∧ ((own_hex a).toInt ≤ 3 ↔ a.toBitVec.toNat < 2 ^ 12) ∧ ((own_hex a).toInt ≤ 4 ↔ a.toBitVec.toNat < 2 ^ 16) ∧ ((own_hex a).toInt ≤ 5 ↔ a.toBitVec.toNat < 2 ^ 20) ∧ ((own_hex a).toInt ≤ 6 ↔ a.toBitVec.toNat < 2 ^ 24) ∧ ((own_hex a).toInt ≤ 7 ↔ a.toBitVec.toNat < 2 ^ 28) := by
  have e1 : (1 : Int32).toInt = 1 := rfl
  have e2 : (2 : Int32).toInt = 2 := rfl
  have e3 : (3 : Int32).toInt = 3 := rfl
  have e4 : (4 : Int32).toInt = 4 := rfl
  have e5 : (5 : Int32).toInt = 5 := rfl
  have e6 : (6 : Int32).toInt = 6 := rfl
  have e7 : (7 : Int32).toInt = 7 := rfl
  have e8 : (8 : Int32).toInt = 8 := rfl
  unfold own_hex
  simp only [own_ltN a h 268435456 268435456 rfl, own_ltN a h 16777216 16777216 rfl, own_ltN a h 1048576 1048576 rfl, own_ltN a h 65536 65536 rfl, own_ltN a h 4096 4096 rfl, own_ltN a h 256 256 rfl, own_ltN a h 16 16 rfl]
  repeat' split
  all_goals (simp only [e1, e2, e3, e4, e5, e6, e7, e8]; omega)
theorem own_orN (a b : Int64) : (a ||| b).toBitVec.toNat = a.toBitVec.toNat ||| b.toBitVec.toNat := by simp
theorem own_orlt (x y k : Nat) : x ||| y < 2 ^ k ↔ x < 2 ^ k ∧ y < 2 ^ k := ⟨fun h => ⟨Nat.lt_of_le_of_lt Nat.left_le_or h, Nat.lt_of_le_of_lt Nat.right_le_or h⟩, fun h => Nat.or_lt_two_pow h.1 h.2⟩
theorem own_hexOr (a b : Int64) (ha : a.toBitVec.toNat < 4294967296) (hb : b.toBitVec.toNat < 4294967296) : own_hex (a ||| b) = own_max (own_hex a) (own_hex b) ∧ (a ||| b).toBitVec.toNat < 4294967296 := by
  have hc : (a ||| b).toBitVec.toNat < 4294967296 := by
    rw [own_orN]; exact (own_orlt _ _ 32).mpr ⟨ha, hb⟩
  refine ⟨?_, hc⟩
  obtain ⟨A0, A1, A2, A3, A4, A5, A6, A7⟩ := own_hexLe a ha
  obtain ⟨B0, B1, B2, B3, B4, B5, B6, B7⟩ := own_hexLe b hb
  obtain ⟨C0, C1, C2, C3, C4, C5, C6, C7⟩ := own_hexLe (a ||| b) hc
  rw [own_orN, own_orlt, ← A1, ← B1] at C1
  rw [own_orN, own_orlt, ← A2, ← B2] at C2
  rw [own_orN, own_orlt, ← A3, ← B3] at C3
  rw [own_orN, own_orlt, ← A4, ← B4] at C4
  rw [own_orN, own_orlt, ← A5, ← B5] at C5
  rw [own_orN, own_orlt, ← A6, ← B6] at C6
  rw [own_orN, own_orlt, ← A7, ← B7] at C7
  clear A1 A2 A3 A4 A5 A6 A7 B1 B2 B3 B4 B5 B6 B7
  apply Int32.toInt_inj.mp
  rw [own_maxI]
  generalize (own_hex a).toInt = x at *
  generalize (own_hex b).toInt = y at *
  generalize (own_hex (a ||| b)).toInt = z at *
  obtain hx | hx : z = max x y ∨ z < max x y ∨ max x y < z := by omega
  · exact hx
  · exfalso
    have : z = 1 ∨ z = 2 ∨ z = 3 ∨ z = 4 ∨ z = 5 ∨ z = 6 ∨ z = 7 ∨ z = 8 := by omega
    have : max x y = 1 ∨ max x y = 2 ∨ max x y = 3 ∨ max x y = 4 ∨ max x y = 5 ∨ max x y = 6 ∨ max x y = 7 ∨ max x y = 8 := by omega
    rcases hx with hx | hx
    · rcases this with h | h | h | h | h | h | h | h <;> omega
    · rcases this with h | h | h | h | h | h | h | h <;> omega
theorem own_nibOr (a b : Int64) (i : Int32) : own_nib (a ||| b) i = own_nib a i ||| own_nib b i := by
  unfold own_nib
  apply Int32.toBitVec_inj.mp
  apply BitVec.eq_of_getLsbD_eq
  intro j hj
  have h64 : j < 64 := by omega
  simp [BitVec.getElem_signExtend, hj, h64, Bool.and_or_distrib_right]
theorem own_nibR (m : Int64) (i : Int32) : 0 ≤ (own_nib m i).toInt ∧ (own_nib m i).toInt < 16 := by
  unfold own_nib
  rw [Int64.toInt32_and]
  have h := c_and (((m.toUInt64 >>> (((4 : Int32) * i) &&& 0x3f).toInt64.toUInt64).toInt64).toInt32) 15 (by decide)
  have e : (15 : Int32).toInt = 15 := rfl
  rw [e] at h
  have e' : (15 : Int64).toInt32 = 15 := rfl
  rw [e']
  omega
theorem own_sign (d : Int32) (h0 : 0 ≤ d.toInt) (h1 : d.toInt < 16) : own_chr (nar .byte (own_fd d).toInt8.toInt32) = own_exq d := by
  rcases own_small16 d h0 h1 with rfl | rfl | rfl | rfl | rfl | rfl | rfl | rfl | rfl | rfl | rfl | rfl | rfl | rfl | rfl | rfl <;> decide
theorem own_all32 : (List.range 33).all (fun i => i == 0 || (own_hex (own_bit (Int32.ofNat i)) == (Int32.ofNat i + 3) / 4 && decide ((own_bit (Int32.ofNat i)).toBitVec.toNat < 4294967296) && (List.range 8).all (fun q => own_nib (own_bit (Int32.ofNat i)) (Int32.ofNat q) == (if (Int32.ofNat i - 1) / 4 = Int32.ofNat q then ((1 : Int32) <<< (((Int32.ofNat i - 1) % 4) &&& 31)) else 0)))) = true := by decide +kernel
theorem own_one {f : Int32} (h : ¬ f < (1 : Int32) ∧ ¬ (32 : Int32) < f) : own_hex (own_bit f) = (f + 3) / 4 ∧ (own_bit f).toBitVec.toNat < 4294967296 ∧ ∀ i : Int32, ¬ i < 0 → i.toInt < 8 → own_nib (own_bit f) i = (if (f - 1) / 4 = i then ((1 : Int32) <<< (((f - 1) % 4) &&& 31)) else 0) := by
  have q := own_q3 h
  obtain ⟨n, hn, e⟩ := own_ofNat f 33 (by decide) (by omega) (by omega)
  have hA := List.all_eq_true.mp own_all32 n (List.mem_range.mpr hn)
  have hz : n ≠ 0 := by
    rintro rfl
    rw [e] at q
    exact absurd q.2.1 (by decide)
  simp only [Bool.or_eq_true, beq_iff_eq, hz, false_or, Bool.and_eq_true, decide_eq_true_eq] at hA
  rw [← e] at hA
  refine ⟨hA.1.1, hA.1.2, fun i h0 h8 => ?_⟩
  have e0 : (0 : Int32).toInt = 0 := rfl
  rw [Int32.lt_iff_toInt_lt, e0] at h0
  obtain ⟨k, hk, ek⟩ := own_ofNat i 8 (by decide) (by omega) (by omega)
  have hB := List.all_eq_true.mp hA.2 k (List.mem_range.mpr hk)
  simp only [beq_iff_eq] at hB
  rw [ek]; exact hB
theorem own_subc (x y z : Int32) : (x - y = x - z) ↔ y = z := by
  refine ⟨fun h => ?_, fun h => by rw [h]⟩
  have h1 := c_isub x y
  have h2 := c_isub x z
  rw [h] at h1
  have r1 := rng32 y
  have r2 := rng32 z
  apply Int32.toInt_inj.mp
  omega
theorem own_Ei {L f i c : Int32} (h : ¬ f < (1 : Int32) ∧ ¬ (32 : Int32) < f) (h0 : ¬ i < 0) (h8 : i.toInt < 8) : own_E L f ((L - 1) - i) c = c ||| own_nib (own_bit f) i := by
  unfold own_E
  rw [(own_one h).2.2 i h0 h8]
  simp only [own_subc]
  split
  · rfl
  · rw [Int32.or_zero]
theorem own_at8g (g : Int32 → Int32) (j : Int32) (h0 : ¬ j < 0) (h1 : j.toInt < 8) : own_at8 (g 0) (g 1) (g 2) (g 3) (g 4) (g 5) (g 6) (g 7) j = g j := by
  have e0 : (0 : Int32).toInt = 0 := rfl
  rw [Int32.lt_iff_toInt_lt, e0] at h0
  rcases own_small8 j (by omega) h1 with rfl | rfl | rfl | rfl | rfl | rfl | rfl | rfl <;> rfl
theorem own_digit (g : Int32 → Int32) (L i : Int32) (m : Int64) (hL : L.toInt ≤ 8) (h0 : ¬ i < 0) (hg : i.toInt < 8 → g ((L - 1) - i) = own_nib m i) : i < L → own_chr (own_at8 (nar .byte (own_fd (g 0)).toInt8.toInt32) (nar .byte (own_fd (g 1)).toInt8.toInt32) (nar .byte (own_fd (g 2)).toInt8.toInt32) (nar .byte (own_fd (g 3)).toInt8.toInt32) (nar .byte (own_fd (g 4)).toInt8.toInt32) (nar .byte (own_fd (g 5)).toInt8.toInt32) (nar .byte (own_fd (g 6)).toInt8.toInt32) (nar .byte (own_fd (g 7)).toInt8.toInt32) ((L - (1 : Int32)) - i)) = own_exq (own_nib m i) := by
  intro hi
  have e0 : (0 : Int32).toInt = 0 := rfl
  have hi' := hi
  have h0' := h0
  rw [Int32.lt_iff_toInt_lt] at hi'
  rw [Int32.lt_iff_toInt_lt, e0] at h0'
  have hb := own_back (nz := L) h0 hi (by simp only [Int32.toNatClampNeg]; omega)
  have hb2 := hb.2
  rw [Int32.lt_iff_toInt_lt] at hb2
  rw [own_at8g (fun k => nar .byte (own_fd (g k)).toInt8.toInt32) _ hb.1 (by omega), hg (by omega)]
  exact own_sign _ (own_nibR m i).1 (own_nibR m i).2
theorem own_hx0 : own_hex (0 : Int64) = (1 : Int32) := by decide
theorem own_dg0 (i : Int32) (h0 : ¬ i < 0) : i < (1 : Int32) → own_chr (own_at8 (nar .byte (own_fd (0 : Int32)).toInt8.toInt32) (nar .byte (own_fd (0 : Int32)).toInt8.toInt32) (nar .byte (own_fd (0 : Int32)).toInt8.toInt32) (nar .byte (own_fd (0 : Int32)).toInt8.toInt32) (nar .byte (own_fd (0 : Int32)).toInt8.toInt32) (nar .byte (own_fd (0 : Int32)).toInt8.toInt32) (nar .byte (own_fd (0 : Int32)).toInt8.toInt32) (nar .byte (own_fd (0 : Int32)).toInt8.toInt32) (((1 : Int32) - (1 : Int32)) - i)) = own_exq (own_nib (0 : Int64) i) := by
  intro hi
  have e0 : (0 : Int32).toInt = 0 := rfl
  have e1 : (1 : Int32).toInt = 1 := rfl
  rw [Int32.lt_iff_toInt_lt, e0] at h0
  rw [Int32.lt_iff_toInt_lt, e1] at hi
  have : i = 0 := Int32.toInt_inj.mp (by omega)
  subst this
  decide

theorem own_hx1 {f0_ : Int32} (hf0 : ¬ f0_ < (1 : Int32) ∧ ¬ (32 : Int32) < f0_) : own_hex (own_bit f0_) = own_len1 f0_ ∧ (own_bit f0_).toBitVec.toNat < 4294967296 := by
  refine ⟨?_, (own_one hf0).2.1⟩
  rw [(own_one hf0).1]
  unfold own_len1
  have q := own_q3 hf0
  have e1 : (1 : Int32).toInt = 1 := rfl
  apply Int32.toInt_inj.mp
  rw [own_maxI, e1]
  omega
theorem own_dg1 {f0_ : Int32} (hf0 : ¬ f0_ < (1 : Int32) ∧ ¬ (32 : Int32) < f0_) (i : Int32) (h0 : ¬ i < 0) : i < (own_len1 f0_) → own_chr (own_at8 (nar .byte (own_fd (own_C1_1 f0_ (0 : Int32))).toInt8.toInt32) (nar .byte (own_fd (own_C1_1 f0_ (1 : Int32))).toInt8.toInt32) (nar .byte (own_fd (own_C1_1 f0_ (2 : Int32))).toInt8.toInt32) (nar .byte (own_fd (own_C1_1 f0_ (3 : Int32))).toInt8.toInt32) (nar .byte (own_fd (own_C1_1 f0_ (4 : Int32))).toInt8.toInt32) (nar .byte (own_fd (own_C1_1 f0_ (5 : Int32))).toInt8.toInt32) (nar .byte (own_fd (own_C1_1 f0_ (6 : Int32))).toInt8.toInt32) (nar .byte (own_fd (own_C1_1 f0_ (7 : Int32))).toInt8.toInt32) (((own_len1 f0_) - (1 : Int32)) - i)) = own_exq (own_nib (own_bit f0_) i) :=
  own_digit (fun k => own_C1_1 f0_ k) _ i _ (own_lenOK1 hf0).2.1 h0 (fun h8 => by
    simp only [own_C1_1, own_nibOr]
    rw [own_Ei hf0 h0 h8, Int32.zero_or])
theorem own_hx2 {f0_ f1_ : Int32} (hf0 : ¬ f0_ < (1 : Int32) ∧ ¬ (32 : Int32) < f0_) (hf1 : ¬ f1_ < (1 : Int32) ∧ ¬ (32 : Int32) < f1_) : own_hex ((own_bit f0_) ||| (own_bit f1_)) = own_len2 f0_ f1_ ∧ ((own_bit f0_) ||| (own_bit f1_)).toBitVec.toNat < 4294967296 := by
  have h := own_hx1 hf0
  have o := own_one hf1
  have q := own_hexOr _ (own_bit f1_) h.2 o.2.1
  rw [h.1, o.1] at q
  exact q
theorem own_dg2 {f0_ f1_ : Int32} (hf0 : ¬ f0_ < (1 : Int32) ∧ ¬ (32 : Int32) < f0_) (hf1 : ¬ f1_ < (1 : Int32) ∧ ¬ (32 : Int32) < f1_) (i : Int32) (h0 : ¬ i < 0) : i < (own_len2 f0_ f1_) → own_chr (own_at8 (nar .byte (own_fd (own_C2_2 f0_ f1_ (0 : Int32))).toInt8.toInt32) (nar .byte (own_fd (own_C2_2 f0_ f1_ (1 : Int32))).toInt8.toInt32) (nar .byte (own_fd (own_C2_2 f0_ f1_ (2 : Int32))).toInt8.toInt32) (nar .byte (own_fd (own_C2_2 f0_ f1_ (3 : Int32))).toInt8.toInt32) (nar .byte (own_fd (own_C2_2 f0_ f1_ (4 : Int32))).toInt8.toInt32) (nar .byte (own_fd (own_C2_2 f0_ f1_ (5 : Int32))).toInt8.toInt32) (nar .byte (own_fd (own_C2_2 f0_ f1_ (6 : Int32))).toInt8.toInt32) (nar .byte (own_fd (own_C2_2 f0_ f1_ (7 : Int32))).toInt8.toInt32) (((own_len2 f0_ f1_) - (1 : Int32)) - i)) = own_exq (own_nib ((own_bit f0_) ||| (own_bit f1_)) i) :=
  own_digit (fun k => own_C2_2 f0_ f1_ k) _ i _ (own_lenOK2 hf0 hf1).2.1 h0 (fun h8 => by
    simp only [own_C2_2, own_C2_1, own_nibOr]
    rw [own_Ei hf1 h0 h8, own_Ei hf0 h0 h8, Int32.zero_or])
theorem own_hx3 {f0_ f1_ f2_ : Int32} (hf0 : ¬ f0_ < (1 : Int32) ∧ ¬ (32 : Int32) < f0_) (hf1 : ¬ f1_ < (1 : Int32) ∧ ¬ (32 : Int32) < f1_) (hf2 : ¬ f2_ < (1 : Int32) ∧ ¬ (32 : Int32) < f2_) : own_hex (((own_bit f0_) ||| (own_bit f1_)) ||| (own_bit f2_)) = own_len3 f0_ f1_ f2_ ∧ (((own_bit f0_) ||| (own_bit f1_)) ||| (own_bit f2_)).toBitVec.toNat < 4294967296 := by
  have h := own_hx2 hf0 hf1
  have o := own_one hf2
  have q := own_hexOr _ (own_bit f2_) h.2 o.2.1
  rw [h.1, o.1] at q
  exact q
theorem own_dg3 {f0_ f1_ f2_ : Int32} (hf0 : ¬ f0_ < (1 : Int32) ∧ ¬ (32 : Int32) < f0_) (hf1 : ¬ f1_ < (1 : Int32) ∧ ¬ (32 : Int32) < f1_) (hf2 : ¬ f2_ < (1 : Int32) ∧ ¬ (32 : Int32) < f2_) (i : Int32) (h0 : ¬ i < 0) : i < (own_len3 f0_ f1_ f2_) → own_chr (own_at8 (nar .byte (own_fd (own_C3_3 f0_ f1_ f2_ (0 : Int32))).toInt8.toInt32) (nar .byte (own_fd (own_C3_3 f0_ f1_ f2_ (1 : Int32))).toInt8.toInt32) (nar .byte (own_fd (own_C3_3 f0_ f1_ f2_ (2 : Int32))).toInt8.toInt32) (nar .byte (own_fd (own_C3_3 f0_ f1_ f2_ (3 : Int32))).toInt8.toInt32) (nar .byte (own_fd (own_C3_3 f0_ f1_ f2_ (4 : Int32))).toInt8.toInt32) (nar .byte (own_fd (own_C3_3 f0_ f1_ f2_ (5 : Int32))).toInt8.toInt32) (nar .byte (own_fd (own_C3_3 f0_ f1_ f2_ (6 : Int32))).toInt8.toInt32) (nar .byte (own_fd (own_C3_3 f0_ f1_ f2_ (7 : Int32))).toInt8.toInt32) (((own_len3 f0_ f1_ f2_) - (1 : Int32)) - i)) = own_exq (own_nib (((own_bit f0_) ||| (own_bit f1_)) ||| (own_bit f2_)) i) :=
  own_digit (fun k => own_C3_3 f0_ f1_ f2_ k) _ i _ (own_lenOK3 hf0 hf1 hf2).2.1 h0 (fun h8 => by
    simp only [own_C3_3, own_C3_2, own_C3_1, own_nibOr]
    rw [own_Ei hf2 h0 h8, own_Ei hf1 h0 h8, own_Ei hf0 h0 h8, Int32.zero_or])
theorem own_hx4 {f0_ f1_ f2_ f3_ : Int32} (hf0 : ¬ f0_ < (1 : Int32) ∧ ¬ (32 : Int32) < f0_) (hf1 : ¬ f1_ < (1 : Int32) ∧ ¬ (32 : Int32) < f1_) (hf2 : ¬ f2_ < (1 : Int32) ∧ ¬ (32 : Int32) < f2_) (hf3 : ¬ f3_ < (1 : Int32) ∧ ¬ (32 : Int32) < f3_) : own_hex ((((own_bit f0_) ||| (own_bit f1_)) ||| (own_bit f2_)) ||| (own_bit f3_)) = own_len4 f0_ f1_ f2_ f3_ ∧ ((((own_bit f0_) ||| (own_bit f1_)) ||| (own_bit f2_)) ||| (own_bit f3_)).toBitVec.toNat < 4294967296 := by
  have h := own_hx3 hf0 hf1 hf2
  have o := own_one hf3
  have q := own_hexOr _ (own_bit f3_) h.2 o.2.1
  rw [h.1, o.1] at q
  exact q
theorem own_dg4 {f0_ f1_ f2_ f3_ : Int32} (hf0 : ¬ f0_ < (1 : Int32) ∧ ¬ (32 : Int32) < f0_) (hf1 : ¬ f1_ < (1 : Int32) ∧ ¬ (32 : Int32) < f1_) (hf2 : ¬ f2_ < (1 : Int32) ∧ ¬ (32 : Int32) < f2_) (hf3 : ¬ f3_ < (1 : Int32) ∧ ¬ (32 : Int32) < f3_) (i : Int32) (h0 : ¬ i < 0) : i < (own_len4 f0_ f1_ f2_ f3_) → own_chr (own_at8 (nar .byte (own_fd (own_C4_4 f0_ f1_ f2_ f3_ (0 : Int32))).toInt8.toInt32) (nar .byte (own_fd (own_C4_4 f0_ f1_ f2_ f3_ (1 : Int32))).toInt8.toInt32) (nar .byte (own_fd (own_C4_4 f0_ f1_ f2_ f3_ (2 : Int32))).toInt8.toInt32) (nar .byte (own_fd (own_C4_4 f0_ f1_ f2_ f3_ (3 : Int32))).toInt8.toInt32) (nar .byte (own_fd (own_C4_4 f0_ f1_ f2_ f3_ (4 : Int32))).toInt8.toInt32) (nar .byte (own_fd (own_C4_4 f0_ f1_ f2_ f3_ (5 : Int32))).toInt8.toInt32) (nar .byte (own_fd (own_C4_4 f0_ f1_ f2_ f3_ (6 : Int32))).toInt8.toInt32) (nar .byte (own_fd (own_C4_4 f0_ f1_ f2_ f3_ (7 : Int32))).toInt8.toInt32) (((own_len4 f0_ f1_ f2_ f3_) - (1 : Int32)) - i)) = own_exq (own_nib ((((own_bit f0_) ||| (own_bit f1_)) ||| (own_bit f2_)) ||| (own_bit f3_)) i) :=
  own_digit (fun k => own_C4_4 f0_ f1_ f2_ f3_ k) _ i _ (own_lenOK4 hf0 hf1 hf2 hf3).2.1 h0 (fun h8 => by
    simp only [own_C4_4, own_C4_3, own_C4_2, own_C4_1, own_nibOr]
    rw [own_Ei hf3 h0 h8, own_Ei hf2 h0 h8, own_Ei hf1 h0 h8, own_Ei hf0 h0 h8, Int32.zero_or])
theorem ef_0 (m : MethodId) (x0 : Int32) (x1 : Int32) (x2 : Int32) (x3 : Int32) (x4 : Int32) : entryFrame m #[(.int x0), (.int x1), (.int x2), (.int x3), (.int x4)] maxLocals = mkF m 0 #[.val (.int x0), .val (.int x1), .val (.int x2), .val (.int x3), .val (.int x4), .unset, .unset, .unset, .unset, .unset, .unset, .unset, .unset, .unset, .unset] [] := by first | (simp [entryFrame, mkF, argsToLocals, Value.category, maxLocals]; done) | rfl
def Q0 (Z : State) (p1 : Int32) (p2 : Int32) (p3 : Int32) (p4 : Int32) (p5 : Int32) (cs : Int32) (fm : Value) (h0 : Heap) (n0 : Nat) (v : Option Value) (h : Heap) (L : List Loc) : Prop := v = some (.int (1 : Int32)) ∧ Fr n0 L
set_option maxRecDepth 65536 in
set_option maxHeartbeats 40000000 in
theorem rm0 (l : Launch) (Z : State) (a0 : Array Value) (hw : ∀ d ∈ tables_1, d.before a0 Z = true) (ws : List Jvm.Cond) (p1 : Int32) (p2 : Int32) (p3 : Int32) (p4 : Int32) (p5 : Int32) (cs : Int32) (fm : Value) (h0 : Heap) (n0 : Nat) (Z0 : n0 ≤ h0.size) (O0 : Old Z n0 h0) (S_CS : Sta Z Z.heap "java/lang/String" "COMPACT_STRINGS" "Z" (.int cs)) (h_cs : ¬ cs = (0 : Int32)) (S_F : Sta Z Z.heap "jdk/internal/util/Preconditions" "SIOOBE_FORMATTER" "Ljava/util/function/BiFunction;" fm) (h_fm : fm.isRef = true) :
    MetFree l x (head1 (Jvm.Cond.code x code maxLocals ret :: ws) room_1) (fun a U => a = #[(.int p1), (.int p2), (.int p3), (.int p4), (.int p5)] ∧ Z.Warmed39 U.vm ∧ U.heap = h0) (fun _ _ _ _ _ => True) (fun _ U o U' => ∃ v L, o = .returned v ∧ Q0 Z p1 p2 p3 p4 p5 cs fm h0 n0 v U'.heap L ∧ FrameEnd U o U' L room_1.cells room_1.slots) := by
  refine MetFree.of_bodySF (plainFor_of_name pn_7) hisR ?_
  intro p e s m args below meth c s₁ Bd hml0 hP hK
  obtain ⟨rfl, hZ, hh⟩ := hP
  have hx := Bd.exec
  have hby := Bd.bytes
  have hml : c.maxLocals = 15 := hml0
  have hown : s.vm.findClass "com/example/cloud_to_core/cloudtocore/model/SupportedFeaturesOfPinLaw" = some m.cls := findClass_of_methodNamed Bd.named
  have hnm := (name_of_methodNamed Bd.named Bd.method).1
  have X0 : Stand p l e room_1 s m #[(.int p1), (.int p2), (.int p3), (.int p4), (.int p5)] below meth c s₁ [] 0 0 := Stand.of_body Bd
  have e0 : s₁.heap = h0 := by rw [← hh, Bd.state]; rfl
  have N0 := Fr.nil n0
  have K0 := Keep.refl h0 []
  have pre0 : ∀ t, Steps p.tables e below (s₁.setTop (mkF m 0 #[.val (.int p1), .val (.int p2), .val (.int p3), .val (.int p4), .val (.int p5), .unset, .unset, .unset, .unset, .unset, .unset, .unset, .unset, .unset, .unset] [])) t → Steps p.tables e below (s₁.setTop (entryFrame m #[(.int p1), (.int p2), (.int p3), (.int p4), (.int p5)] maxLocals)) t := fun t k => castTop (ef_0 m p1 p2 p3 p4 p5) k
  obtain ⟨y0_, hy0_⟩ : ∃ z : Int32, z = ((p2 &&& (31 : Int32)) + (1 : Int32)) := ⟨_, rfl⟩
  have hf0 : ¬ y0_ < (1 : Int32) ∧ ¬ (32 : Int32) < y0_ := by rw [hy0_]; exact own_f _
  obtain ⟨y1_, hy1_⟩ : ∃ z : Int32, z = ((p3 &&& (31 : Int32)) + (1 : Int32)) := ⟨_, rfl⟩
  have hf1 : ¬ y1_ < (1 : Int32) ∧ ¬ (32 : Int32) < y1_ := by rw [hy1_]; exact own_f _
  obtain ⟨y2_, hy2_⟩ : ∃ z : Int32, z = ((p4 &&& (31 : Int32)) + (1 : Int32)) := ⟨_, rfl⟩
  have hf2 : ¬ y2_ < (1 : Int32) ∧ ¬ (32 : Int32) < y2_ := by rw [hy2_]; exact own_f _
  obtain ⟨y3_, hy3_⟩ : ∃ z : Int32, z = ((p5 &&& (31 : Int32)) + (1 : Int32)) := ⟨_, rfl⟩
  have hf3 : ¬ y3_ < (1 : Int32) ∧ ¬ (32 : Int32) < y3_ := by rw [hy3_]; exact own_f _
  obtain ⟨nv, hnv⟩ : ∃ z : Int32, z = ((p1 &&& (2147483647 : Int32)) % (5 : Int32)) := ⟨_, rfl⟩
  have qn : nv = 0 ∨ nv = 1 ∨ nv = 2 ∨ nv = 3 ∨ nv = 4 := by rw [hnv]; exact own_small5 _ (own_rem p1 5 5 rfl (by decide)).1 (own_rem p1 5 5 rfl (by decide)).2
  have pre6 : ∀ t, Steps p.tables e below (s₁.setTop (mkF m 44 #[vI p1, vI p2, vI p3, vI p4, vI p5, vI nv, vI y0_, vI y1_, vI y2_, vI y3_, .unset, vJ 0, .second, .unset, .unset] [])) t → Steps p.tables e below (s₁.setTop (entryFrame m #[(.int p1), (.int p2), (.int p3), (.int p4), (.int p5)] maxLocals)) t := by
    intro t kt
    refine pre0 t ?_
    show Steps _ _ _ (s₁.setTop (mkF m 0 #[vI p1, vI p2, vI p3, vI p4, vI p5, .unset, .unset, .unset, .unset, .unset, .unset, .unset, .unset, .unset, .unset] [])) _
    refine XS.iloadN X0.here hx rfl (hb hby at_0) rfl ?_
    show Steps _ _ _ (s₁.setTop (mkF m 1 #[vI p1, vI p2, vI p3, vI p4, vI p5, .unset, .unset, .unset, .unset, .unset, .unset, .unset, .unset, .unset, .unset] [iI p1])) _
    refine X0.ldcInt hx hown (mvT hZ (hw _ (List.mem_of_getElem? (i := 0) rfl))) (g := (mkF m 1 #[vI p1, vI p2, vI p3, vI p4, vI p5, .unset, .unset, .unset, .unset, .unset, .unset, .unset, .unset, .unset, .unset] [iI p1])) rfl (hb hby at_1) _ ?_
    show Steps _ _ _ (s₁.setTop (mkF m 3 #[vI p1, vI p2, vI p3, vI p4, vI p5, .unset, .unset, .unset, .unset, .unset, .unset, .unset, .unset, .unset, .unset] [iI 2147483647, iI p1])) _
    refine XS.iand X0.here hx rfl (hb hby at_3) rfl ?_
    show Steps _ _ _ (s₁.setTop (mkF m 4 #[vI p1, vI p2, vI p3, vI p4, vI p5, .unset, .unset, .unset, .unset, .unset, .unset, .unset, .unset, .unset, .unset] [iI (p1 &&& (2147483647 : Int32))])) _
    refine XS.iconst X0.here hx rfl (hb hby at_4) ?_
    show Steps _ _ _ (s₁.setTop (mkF m 5 #[vI p1, vI p2, vI p3, vI p4, vI p5, .unset, .unset, .unset, .unset, .unset, .unset, .unset, .unset, .unset, .unset] [iI 5, iI (p1 &&& (2147483647 : Int32))])) _
    refine iremM X0 hx rfl (hb hby at_5) rfl (by decide) ?_
    show Steps _ _ _ (s₁.setTop (mkF m 6 #[vI p1, vI p2, vI p3, vI p4, vI p5, .unset, .unset, .unset, .unset, .unset, .unset, .unset, .unset, .unset, .unset] [iI ((p1 &&& (2147483647 : Int32)) % (5 : Int32))])) _
    refine XS.istore X0.here hx rfl (hb hby at_6) rfl (l' := #[vI p1, vI p2, vI p3, vI p4, vI p5, vI ((p1 &&& (2147483647 : Int32)) % (5 : Int32)), .unset, .unset, .unset, .unset, .unset, .unset, .unset, .unset, .unset]) rfl ?_
    show Steps _ _ _ (s₁.setTop (mkF m 8 #[vI p1, vI p2, vI p3, vI p4, vI p5, vI ((p1 &&& (2147483647 : Int32)) % (5 : Int32)), .unset, .unset, .unset, .unset, .unset, .unset, .unset, .unset, .unset] [])) _
    refine XS.iloadN X0.here hx rfl (hb hby at_8) rfl ?_
    show Steps _ _ _ (s₁.setTop (mkF m 9 #[vI p1, vI p2, vI p3, vI p4, vI p5, vI ((p1 &&& (2147483647 : Int32)) % (5 : Int32)), .unset, .unset, .unset, .unset, .unset, .unset, .unset, .unset, .unset] [iI p2])) _
    refine XS.bipush X0.here hx rfl (hb hby at_9) ?_
    show Steps _ _ _ (s₁.setTop (mkF m 11 #[vI p1, vI p2, vI p3, vI p4, vI p5, vI ((p1 &&& (2147483647 : Int32)) % (5 : Int32)), .unset, .unset, .unset, .unset, .unset, .unset, .unset, .unset, .unset] [iI 31, iI p2])) _
    refine XS.iand X0.here hx rfl (hb hby at_11) rfl ?_
    show Steps _ _ _ (s₁.setTop (mkF m 12 #[vI p1, vI p2, vI p3, vI p4, vI p5, vI ((p1 &&& (2147483647 : Int32)) % (5 : Int32)), .unset, .unset, .unset, .unset, .unset, .unset, .unset, .unset, .unset] [iI (p2 &&& (31 : Int32))])) _
    refine XS.iconst X0.here hx rfl (hb hby at_12) ?_
    show Steps _ _ _ (s₁.setTop (mkF m 13 #[vI p1, vI p2, vI p3, vI p4, vI p5, vI ((p1 &&& (2147483647 : Int32)) % (5 : Int32)), .unset, .unset, .unset, .unset, .unset, .unset, .unset, .unset, .unset] [iI 1, iI (p2 &&& (31 : Int32))])) _
    refine XS.iadd X0.here hx rfl (hb hby at_13) rfl ?_
    show Steps _ _ _ (s₁.setTop (mkF m 14 #[vI p1, vI p2, vI p3, vI p4, vI p5, vI ((p1 &&& (2147483647 : Int32)) % (5 : Int32)), .unset, .unset, .unset, .unset, .unset, .unset, .unset, .unset, .unset] [iI ((p2 &&& (31 : Int32)) + (1 : Int32))])) _
    refine XS.istore X0.here hx rfl (hb hby at_14) rfl (l' := #[vI p1, vI p2, vI p3, vI p4, vI p5, vI ((p1 &&& (2147483647 : Int32)) % (5 : Int32)), vI ((p2 &&& (31 : Int32)) + (1 : Int32)), .unset, .unset, .unset, .unset, .unset, .unset, .unset, .unset]) rfl ?_
    show Steps _ _ _ (s₁.setTop (mkF m 16 #[vI p1, vI p2, vI p3, vI p4, vI p5, vI ((p1 &&& (2147483647 : Int32)) % (5 : Int32)), vI ((p2 &&& (31 : Int32)) + (1 : Int32)), .unset, .unset, .unset, .unset, .unset, .unset, .unset, .unset] [])) _
    refine XS.iloadN X0.here hx rfl (hb hby at_16) rfl ?_
    show Steps _ _ _ (s₁.setTop (mkF m 17 #[vI p1, vI p2, vI p3, vI p4, vI p5, vI ((p1 &&& (2147483647 : Int32)) % (5 : Int32)), vI ((p2 &&& (31 : Int32)) + (1 : Int32)), .unset, .unset, .unset, .unset, .unset, .unset, .unset, .unset] [iI p3])) _
    refine XS.bipush X0.here hx rfl (hb hby at_17) ?_
    show Steps _ _ _ (s₁.setTop (mkF m 19 #[vI p1, vI p2, vI p3, vI p4, vI p5, vI ((p1 &&& (2147483647 : Int32)) % (5 : Int32)), vI ((p2 &&& (31 : Int32)) + (1 : Int32)), .unset, .unset, .unset, .unset, .unset, .unset, .unset, .unset] [iI 31, iI p3])) _
    refine XS.iand X0.here hx rfl (hb hby at_19) rfl ?_
    show Steps _ _ _ (s₁.setTop (mkF m 20 #[vI p1, vI p2, vI p3, vI p4, vI p5, vI ((p1 &&& (2147483647 : Int32)) % (5 : Int32)), vI ((p2 &&& (31 : Int32)) + (1 : Int32)), .unset, .unset, .unset, .unset, .unset, .unset, .unset, .unset] [iI (p3 &&& (31 : Int32))])) _
    refine XS.iconst X0.here hx rfl (hb hby at_20) ?_
    show Steps _ _ _ (s₁.setTop (mkF m 21 #[vI p1, vI p2, vI p3, vI p4, vI p5, vI ((p1 &&& (2147483647 : Int32)) % (5 : Int32)), vI ((p2 &&& (31 : Int32)) + (1 : Int32)), .unset, .unset, .unset, .unset, .unset, .unset, .unset, .unset] [iI 1, iI (p3 &&& (31 : Int32))])) _
    refine XS.iadd X0.here hx rfl (hb hby at_21) rfl ?_
    show Steps _ _ _ (s₁.setTop (mkF m 22 #[vI p1, vI p2, vI p3, vI p4, vI p5, vI ((p1 &&& (2147483647 : Int32)) % (5 : Int32)), vI ((p2 &&& (31 : Int32)) + (1 : Int32)), .unset, .unset, .unset, .unset, .unset, .unset, .unset, .unset] [iI ((p3 &&& (31 : Int32)) + (1 : Int32))])) _
    refine XS.istore X0.here hx rfl (hb hby at_22) rfl (l' := #[vI p1, vI p2, vI p3, vI p4, vI p5, vI ((p1 &&& (2147483647 : Int32)) % (5 : Int32)), vI ((p2 &&& (31 : Int32)) + (1 : Int32)), vI ((p3 &&& (31 : Int32)) + (1 : Int32)), .unset, .unset, .unset, .unset, .unset, .unset, .unset]) rfl ?_
    show Steps _ _ _ (s₁.setTop (mkF m 24 #[vI p1, vI p2, vI p3, vI p4, vI p5, vI ((p1 &&& (2147483647 : Int32)) % (5 : Int32)), vI ((p2 &&& (31 : Int32)) + (1 : Int32)), vI ((p3 &&& (31 : Int32)) + (1 : Int32)), .unset, .unset, .unset, .unset, .unset, .unset, .unset] [])) _
    refine XS.iloadN X0.here hx rfl (hb hby at_24) rfl ?_
    show Steps _ _ _ (s₁.setTop (mkF m 25 #[vI p1, vI p2, vI p3, vI p4, vI p5, vI ((p1 &&& (2147483647 : Int32)) % (5 : Int32)), vI ((p2 &&& (31 : Int32)) + (1 : Int32)), vI ((p3 &&& (31 : Int32)) + (1 : Int32)), .unset, .unset, .unset, .unset, .unset, .unset, .unset] [iI p4])) _
    refine XS.bipush X0.here hx rfl (hb hby at_25) ?_
    show Steps _ _ _ (s₁.setTop (mkF m 27 #[vI p1, vI p2, vI p3, vI p4, vI p5, vI ((p1 &&& (2147483647 : Int32)) % (5 : Int32)), vI ((p2 &&& (31 : Int32)) + (1 : Int32)), vI ((p3 &&& (31 : Int32)) + (1 : Int32)), .unset, .unset, .unset, .unset, .unset, .unset, .unset] [iI 31, iI p4])) _
    refine XS.iand X0.here hx rfl (hb hby at_27) rfl ?_
    show Steps _ _ _ (s₁.setTop (mkF m 28 #[vI p1, vI p2, vI p3, vI p4, vI p5, vI ((p1 &&& (2147483647 : Int32)) % (5 : Int32)), vI ((p2 &&& (31 : Int32)) + (1 : Int32)), vI ((p3 &&& (31 : Int32)) + (1 : Int32)), .unset, .unset, .unset, .unset, .unset, .unset, .unset] [iI (p4 &&& (31 : Int32))])) _
    refine XS.iconst X0.here hx rfl (hb hby at_28) ?_
    show Steps _ _ _ (s₁.setTop (mkF m 29 #[vI p1, vI p2, vI p3, vI p4, vI p5, vI ((p1 &&& (2147483647 : Int32)) % (5 : Int32)), vI ((p2 &&& (31 : Int32)) + (1 : Int32)), vI ((p3 &&& (31 : Int32)) + (1 : Int32)), .unset, .unset, .unset, .unset, .unset, .unset, .unset] [iI 1, iI (p4 &&& (31 : Int32))])) _
    refine XS.iadd X0.here hx rfl (hb hby at_29) rfl ?_
    show Steps _ _ _ (s₁.setTop (mkF m 30 #[vI p1, vI p2, vI p3, vI p4, vI p5, vI ((p1 &&& (2147483647 : Int32)) % (5 : Int32)), vI ((p2 &&& (31 : Int32)) + (1 : Int32)), vI ((p3 &&& (31 : Int32)) + (1 : Int32)), .unset, .unset, .unset, .unset, .unset, .unset, .unset] [iI ((p4 &&& (31 : Int32)) + (1 : Int32))])) _
    refine XS.istore X0.here hx rfl (hb hby at_30) rfl (l' := #[vI p1, vI p2, vI p3, vI p4, vI p5, vI ((p1 &&& (2147483647 : Int32)) % (5 : Int32)), vI ((p2 &&& (31 : Int32)) + (1 : Int32)), vI ((p3 &&& (31 : Int32)) + (1 : Int32)), vI ((p4 &&& (31 : Int32)) + (1 : Int32)), .unset, .unset, .unset, .unset, .unset, .unset]) rfl ?_
    show Steps _ _ _ (s₁.setTop (mkF m 32 #[vI p1, vI p2, vI p3, vI p4, vI p5, vI ((p1 &&& (2147483647 : Int32)) % (5 : Int32)), vI ((p2 &&& (31 : Int32)) + (1 : Int32)), vI ((p3 &&& (31 : Int32)) + (1 : Int32)), vI ((p4 &&& (31 : Int32)) + (1 : Int32)), .unset, .unset, .unset, .unset, .unset, .unset] [])) _
    refine XS.iload X0.here hx rfl (hb hby at_32) rfl ?_
    show Steps _ _ _ (s₁.setTop (mkF m 34 #[vI p1, vI p2, vI p3, vI p4, vI p5, vI ((p1 &&& (2147483647 : Int32)) % (5 : Int32)), vI ((p2 &&& (31 : Int32)) + (1 : Int32)), vI ((p3 &&& (31 : Int32)) + (1 : Int32)), vI ((p4 &&& (31 : Int32)) + (1 : Int32)), .unset, .unset, .unset, .unset, .unset, .unset] [iI p5])) _
    refine XS.bipush X0.here hx rfl (hb hby at_34) ?_
    show Steps _ _ _ (s₁.setTop (mkF m 36 #[vI p1, vI p2, vI p3, vI p4, vI p5, vI ((p1 &&& (2147483647 : Int32)) % (5 : Int32)), vI ((p2 &&& (31 : Int32)) + (1 : Int32)), vI ((p3 &&& (31 : Int32)) + (1 : Int32)), vI ((p4 &&& (31 : Int32)) + (1 : Int32)), .unset, .unset, .unset, .unset, .unset, .unset] [iI 31, iI p5])) _
    refine XS.iand X0.here hx rfl (hb hby at_36) rfl ?_
    show Steps _ _ _ (s₁.setTop (mkF m 37 #[vI p1, vI p2, vI p3, vI p4, vI p5, vI ((p1 &&& (2147483647 : Int32)) % (5 : Int32)), vI ((p2 &&& (31 : Int32)) + (1 : Int32)), vI ((p3 &&& (31 : Int32)) + (1 : Int32)), vI ((p4 &&& (31 : Int32)) + (1 : Int32)), .unset, .unset, .unset, .unset, .unset, .unset] [iI (p5 &&& (31 : Int32))])) _
    refine XS.iconst X0.here hx rfl (hb hby at_37) ?_
    show Steps _ _ _ (s₁.setTop (mkF m 38 #[vI p1, vI p2, vI p3, vI p4, vI p5, vI ((p1 &&& (2147483647 : Int32)) % (5 : Int32)), vI ((p2 &&& (31 : Int32)) + (1 : Int32)), vI ((p3 &&& (31 : Int32)) + (1 : Int32)), vI ((p4 &&& (31 : Int32)) + (1 : Int32)), .unset, .unset, .unset, .unset, .unset, .unset] [iI 1, iI (p5 &&& (31 : Int32))])) _
    refine XS.iadd X0.here hx rfl (hb hby at_38) rfl ?_
    show Steps _ _ _ (s₁.setTop (mkF m 39 #[vI p1, vI p2, vI p3, vI p4, vI p5, vI ((p1 &&& (2147483647 : Int32)) % (5 : Int32)), vI ((p2 &&& (31 : Int32)) + (1 : Int32)), vI ((p3 &&& (31 : Int32)) + (1 : Int32)), vI ((p4 &&& (31 : Int32)) + (1 : Int32)), .unset, .unset, .unset, .unset, .unset, .unset] [iI ((p5 &&& (31 : Int32)) + (1 : Int32))])) _
    refine XS.istore X0.here hx rfl (hb hby at_39) rfl (l' := #[vI p1, vI p2, vI p3, vI p4, vI p5, vI ((p1 &&& (2147483647 : Int32)) % (5 : Int32)), vI ((p2 &&& (31 : Int32)) + (1 : Int32)), vI ((p3 &&& (31 : Int32)) + (1 : Int32)), vI ((p4 &&& (31 : Int32)) + (1 : Int32)), vI ((p5 &&& (31 : Int32)) + (1 : Int32)), .unset, .unset, .unset, .unset, .unset]) rfl ?_
    show Steps _ _ _ (s₁.setTop (mkF m 41 #[vI p1, vI p2, vI p3, vI p4, vI p5, vI ((p1 &&& (2147483647 : Int32)) % (5 : Int32)), vI ((p2 &&& (31 : Int32)) + (1 : Int32)), vI ((p3 &&& (31 : Int32)) + (1 : Int32)), vI ((p4 &&& (31 : Int32)) + (1 : Int32)), vI ((p5 &&& (31 : Int32)) + (1 : Int32)), .unset, .unset, .unset, .unset, .unset] [])) _
    refine XS.lconst X0.here hx rfl (hb hby at_41) ?_
    show Steps _ _ _ (s₁.setTop (mkF m 42 #[vI p1, vI p2, vI p3, vI p4, vI p5, vI ((p1 &&& (2147483647 : Int32)) % (5 : Int32)), vI ((p2 &&& (31 : Int32)) + (1 : Int32)), vI ((p3 &&& (31 : Int32)) + (1 : Int32)), vI ((p4 &&& (31 : Int32)) + (1 : Int32)), vI ((p5 &&& (31 : Int32)) + (1 : Int32)), .unset, .unset, .unset, .unset, .unset] [iJ 0])) _
    refine XS.lstore X0.here hx rfl (hb hby at_42) rfl (l' := #[vI p1, vI p2, vI p3, vI p4, vI p5, vI ((p1 &&& (2147483647 : Int32)) % (5 : Int32)), vI ((p2 &&& (31 : Int32)) + (1 : Int32)), vI ((p3 &&& (31 : Int32)) + (1 : Int32)), vI ((p4 &&& (31 : Int32)) + (1 : Int32)), vI ((p5 &&& (31 : Int32)) + (1 : Int32)), .unset, vJ 0, .second, .unset, .unset]) rfl ?_
    rw [← hy0_]
    rw [← hy1_]
    rw [← hy2_]
    rw [← hy3_]
    rw [← hnv]
    exact kt
  rcases qn with rfl | rfl | rfl | rfl | rfl
  · obtain ⟨T7, h7, k7, X7, e7, E7, A7, st7⟩ := newP X0 hx hZ (hw _ (List.mem_of_getElem? (i := 1) rfl)) e0 (g := (mkF m 50 #[vI p1, vI p2, vI p3, vI p4, vI p5, vI 0, vI y0_, vI y1_, vI y2_, vI y3_, .unset, vJ 0, .second, .unset, .unset] [iI 0])) rfl (hb hby at_50) rfl (by decide) (cap := 0) (by decide) (by decide) (by decide) (by decide)
    obtain ⟨b7, g7⟩ : ∃ z, z = h0.size := ⟨_, rfl⟩
    rw [← g7] at A7 st7
    have sz_b7 : h0.size ≤ b7 := Nat.le_trans K0.1 (Nat.le_of_eq g7.symm)
    have g_b7 : n0 ≤ b7 := Nat.le_trans Z0 sz_b7
    have K7 : Keep h0 h7 [] := K0.ext E7
    have V7 : Arv Z h7 b7 k7 .int (0 : Int32) [] (.int (0 : Int32)) := (Arv.new A7 (by decide)).pad (pad_rep [] (.int (0 : Int32)) 0)
    have Oh9 := O0.keep K7 all0
    obtain ⟨_, _, ⟨T8, L8, k8, n8⟩, -, X8, ⟨Lc8, hQ8, l8, y8, z8⟩, st8⟩ := Jvm.LawKit.callS X7 hx (y := (⟨"com/example/cloud_to_core/cloudtocore/model/SupportedFeatures", "of", "([I)Ljava/lang/String;"⟩ : MethodName)) hown (mvT hZ (hw _ (List.mem_of_getElem? (i := 2) rfl))) (mvT hZ (hw _ (List.mem_of_getElem? (i := 3) rfl))) (mvT hZ (hw _ (List.mem_of_getElem? (i := 4) rfl))) (mvT hZ (hw _ (List.mem_of_getElem? (i := 5) rfl))) (by decide) (backOf (W := 0) (rm1_0 l Z a0 hw [] b7 k7 cs h7 n0 (Nat.le_trans Z0 K7.1) Oh9 V7 S_CS h_cs) hZ (hw _ (List.mem_of_getElem? (i := 5) rfl)) (hw _ (List.mem_of_getElem? (i := 4) rfl)) (by decide) (by decide)) (g := (mkF m 220 #[vI p1, vI p2, vI p3, vI p4, vI p5, vI 0, vI y0_, vI y1_, vI y2_, vI y3_, vR b7, vJ 0, .second, .unset, .unset] [iR b7])) rfl (by rw [hml]; rfl) (argsL := [(.ref b7)]) (rest := []) (lenOf pd_20 rfl) rfl (by show 2 * 0 + _ ≤ _; exact Nat.le_of_eq rfl) (hb hby at_220) (fun _ _ => ⟨rfl, e7, (by decide : 1 + 5 ≤ _), (by decide : 0 + 32 ≤ _)⟩)
    dsimp only [Pt.U, Pt.locs, Pt.cells, Pt.slots] at X8 l8 y8 z8 st8 hQ8
    subst l8 y8 z8
    obtain ⟨o8, d8, kd8, rfl, N8q, K8q, E8q, C8q, F8q, V8q⟩ := hQ8
    have N8 := Fr.app N0 N8q
    have K8 : Keep h0 T8.heap [] := Keep.trans K7 K8q all0
    have pre10 : ∀ t, Steps p.tables e below (T8.setTop (mkF m 223 #[vI p1, vI p2, vI p3, vI p4, vI p5, vI 0, vI y0_, vI y1_, vI y2_, vI y3_, vR b7, vJ 0, .second, .unset, .unset] [iR o8])) t → Steps p.tables e below (s₁.setTop (entryFrame m #[(.int p1), (.int p2), (.int p3), (.int p4), (.int p5)] maxLocals)) t := by
      intro t kt
      refine pre6 t ?_
      show Steps _ _ _ (s₁.setTop (mkF m 44 #[vI p1, vI p2, vI p3, vI p4, vI p5, vI 0, vI y0_, vI y1_, vI y2_, vI y3_, .unset, vJ 0, .second, .unset, .unset] [])) _
      refine XS.iload X0.here hx rfl (hb hby at_44) rfl ?_
      show Steps _ _ _ (s₁.setTop (mkF m 46 #[vI p1, vI p2, vI p3, vI p4, vI p5, vI 0, vI y0_, vI y1_, vI y2_, vI y3_, .unset, vJ 0, .second, .unset, .unset] [iI 0])) _
      refine XS.ifNo X0.here hx rfl (hb hby at_46) rfl ((if0 _ _).trans (teq (by decide : (0 : Int32) = (0 : Int32))).2) ?_
      show Steps _ _ _ (s₁.setTop (mkF m 49 #[vI p1, vI p2, vI p3, vI p4, vI p5, vI 0, vI y0_, vI y1_, vI y2_, vI y3_, .unset, vJ 0, .second, .unset, .unset] [])) _
      refine XS.iconst X0.here hx rfl (hb hby at_49) ?_
      show Steps _ _ _ (s₁.setTop (mkF m 50 #[vI p1, vI p2, vI p3, vI p4, vI p5, vI 0, vI y0_, vI y1_, vI y2_, vI y3_, .unset, vJ 0, .second, .unset, .unset] [iI 0])) _
      refine st7 _ ?_
      show Steps _ _ _ (T7.setTop (mkF m 52 #[vI p1, vI p2, vI p3, vI p4, vI p5, vI 0, vI y0_, vI y1_, vI y2_, vI y3_, .unset, vJ 0, .second, .unset, .unset] [iR b7])) _
      refine XS.astore X7.here hx rfl (hb hby at_52) rfl rfl (l' := #[vI p1, vI p2, vI p3, vI p4, vI p5, vI 0, vI y0_, vI y1_, vI y2_, vI y3_, vR b7, vJ 0, .second, .unset, .unset]) rfl ?_
      show Steps _ _ _ (T7.setTop (mkF m 54 #[vI p1, vI p2, vI p3, vI p4, vI p5, vI 0, vI y0_, vI y1_, vI y2_, vI y3_, vR b7, vJ 0, .second, .unset, .unset] [])) _
      refine XS.goto X7.here hx rfl (pc0 := 54) (pc' := 218) rfl (hb hby at_54) (by decide) (by decide) ?_
      show Steps _ _ _ (T7.setTop (mkF m 218 #[vI p1, vI p2, vI p3, vI p4, vI p5, vI 0, vI y0_, vI y1_, vI y2_, vI y3_, vR b7, vJ 0, .second, .unset, .unset] [])) _
      refine XS.aload X7.here hx rfl (hb hby at_218) rfl rfl ?_
      show Steps _ _ _ (T7.setTop (mkF m 220 #[vI p1, vI p2, vI p3, vI p4, vI p5, vI 0, vI y0_, vI y1_, vI y2_, vI y3_, vR b7, vJ 0, .second, .unset, .unset] [iR b7])) _
      refine st8 _ ?_
      exact kt
    obtain ⟨s₂, o₂, hs₂, hr₂⟩ := own_end (nn := (0 : Int32)) (g1_ := y0_) (g2_ := y1_) (g3_ := y2_) (g4_ := y3_) (ar := b7) (mm := (0 : Int64)) (X8.more (by decide) (by decide)) hx hZ hw hby hml hown Bd.returns (by first | assumption | exact BodyLoose.notSynchronized (by assumption) | exact Body.notSynchronized (by assumption)) (rfl : T8.heap = _) K8 N8 Z0 O0 E8q C8q F8q V8q (own_lens (L := (1 : Int32)) (by decide) (by decide)).1 (own_lens (L := (1 : Int32)) (by decide) (by decide)).2.1 own_hx0 (own_dg0  (0 : Int32) (by decide)) (own_dg0  (1 : Int32) (by decide)) (own_dg0  (2 : Int32) (by decide)) (own_dg0  (3 : Int32) (by decide)) (own_dg0  (4 : Int32) (by decide)) (own_dg0  (5 : Int32) (by decide)) (own_dg0  (6 : Int32) (by decide)) (own_dg0  (7 : Int32) (by decide)) S_CS h_cs S_F h_fm
    exact ⟨s₂, o₂, pre10 _ hs₂, hr₂⟩
  · obtain ⟨T11, h11, k11, X11, e11, E11, A11, st11⟩ := newP X0 hx hZ (hw _ (List.mem_of_getElem? (i := 1) rfl)) e0 (g := (mkF m 64 #[vI p1, vI p2, vI p3, vI p4, vI p5, vI 1, vI y0_, vI y1_, vI y2_, vI y3_, .unset, vJ 0, .second, .unset, .unset] [iI 1])) rfl (hb hby at_64) rfl (by decide) (cap := 1) (by decide) (by decide) (by decide) (by decide)
    obtain ⟨b11, g11⟩ : ∃ z, z = h0.size := ⟨_, rfl⟩
    rw [← g11] at A11 st11
    have sz_b11 : h0.size ≤ b11 := Nat.le_trans K0.1 (Nat.le_of_eq g11.symm)
    have g_b11 : n0 ≤ b11 := Nat.le_trans Z0 sz_b11
    have K11 : Keep h0 h11 [] := K0.ext E11
    have V11 : Arv Z h11 b11 k11 .int (1 : Int32) [(.int (0 : Int32))] (.int (0 : Int32)) := (Arv.new A11 (by decide)).pad (pad_rep [] (.int (0 : Int32)) 1)
    obtain ⟨cl12, Ar12, q12, S12, M12, H12, G12⟩ := id V11
    have hin13 : ¬ ((0 : Int32) < 0 ∨ cl12.slots.size ≤ ((0 : Int32)).toNatClampNeg) := inb_of S12 ⟨by decide, by decide⟩
    obtain ⟨T14, h14, X14, e14, W14, st14⟩ := stI X11 hx hZ e11 Ar12 (j := (0 : Int32)) hin13 (g := (mkF m 70 #[vI p1, vI p2, vI p3, vI p4, vI p5, vI 1, vI y0_, vI y1_, vI y2_, vI y3_, .unset, vJ 0, .second, .unset, .unset] [iI y0_, iI 0, iR b11, iR b11])) rfl rfl (hb hby at_70)
    have V14 : Arv Z h14 b11 k11 .int (1 : Int32) [(.int y0_)] (.int (0 : Int32)) := Arv.set Ar12 q12 S12 M12 H12 G12 rfl W14 0 rfl (Nat.le_of_ble_eq_true rfl)
    have K14 : Keep h0 h14 [] := K11.wr W14 (Or.inr sz_b11)
    have N14 := Fr.snoc X14 N0 g_b11
    obtain ⟨_, _, ⟨T15, L15, k15, n15⟩, -, X15, ⟨Lc15, hQ15, l15, y15, z15⟩, st15⟩ := Jvm.LawKit.callS X14 hx (y := (⟨"com/example/cloud_to_core/cloudtocore/model/SupportedFeaturesOfPinLaw", "bit", "(I)J"⟩ : MethodName)) hown (mvT hZ (hw _ (List.mem_of_getElem? (i := 151) rfl))) (mvT hZ (hw _ (List.mem_of_getElem? (i := 152) rfl))) (mvT hZ (hw _ (List.mem_of_getElem? (i := 106) rfl))) (mvT hZ (hw _ (List.mem_of_getElem? (i := 153) rfl))) (by decide) (backOf (W := 0) (rm27 l Z a0 hw [] y0_ h14 ) hZ (hw _ (List.mem_of_getElem? (i := 153) rfl)) (hw _ (List.mem_of_getElem? (i := 106) rfl)) (by decide) (by decide)) (g := (mkF m 75 #[vI p1, vI p2, vI p3, vI p4, vI p5, vI 1, vI y0_, vI y1_, vI y2_, vI y3_, vR b11, vJ 0, .second, .unset, .unset] [iI y0_])) rfl (by rw [hml]; rfl) (argsL := [(.int y0_)]) (rest := []) (lenOf pd_21 rfl) rfl (by show 2 * 0 + _ ≤ _; exact Nat.le_of_eq rfl) (hb hby at_75) (fun _ _ => ⟨rfl, e14, (by decide : 1 + 0 ≤ _), (by decide : 1 + 0 ≤ _)⟩)
    dsimp only [Pt.U, Pt.locs, Pt.cells, Pt.slots] at X15 l15 y15 z15 st15 hQ15
    subst l15 y15 z15
    obtain ⟨rfl, rfl, e15⟩ := hQ15
    try rw [List.append_nil] at X15
    have Oh17 := O0.keep K14 all0
    obtain ⟨_, _, ⟨T16, L16, k16, n16⟩, -, X16, ⟨Lc16, hQ16, l16, y16, z16⟩, st16⟩ := Jvm.LawKit.callS X15 hx (y := (⟨"com/example/cloud_to_core/cloudtocore/model/SupportedFeatures", "of", "([I)Ljava/lang/String;"⟩ : MethodName)) hown (mvT hZ (hw _ (List.mem_of_getElem? (i := 2) rfl))) (mvT hZ (hw _ (List.mem_of_getElem? (i := 3) rfl))) (mvT hZ (hw _ (List.mem_of_getElem? (i := 4) rfl))) (mvT hZ (hw _ (List.mem_of_getElem? (i := 5) rfl))) (by decide) (backOf (W := 0) (rm1_1 l Z a0 hw [] b11 k11 y0_ cs h14 n0 (Nat.le_trans Z0 K14.1) Oh17 V14 hf0 S_CS h_cs) hZ (hw _ (List.mem_of_getElem? (i := 5) rfl)) (hw _ (List.mem_of_getElem? (i := 4) rfl)) (by decide) (by decide)) (g := (mkF m 220 #[vI p1, vI p2, vI p3, vI p4, vI p5, vI 1, vI y0_, vI y1_, vI y2_, vI y3_, vR b11, vJ (own_bit y0_), .second, .unset, .unset] [iR b11])) rfl (by rw [hml]; rfl) (argsL := [(.ref b11)]) (rest := []) (lenOf pd_20 rfl) rfl (by show 2 * 0 + _ ≤ _; exact Nat.le_of_eq rfl) (hb hby at_220) (fun _ _ => ⟨rfl, e15, (by decide : 1 + 5 ≤ _), (by decide : 1 + 32 ≤ _)⟩)
    dsimp only [Pt.U, Pt.locs, Pt.cells, Pt.slots] at X16 l16 y16 z16 st16 hQ16
    subst l16 y16 z16
    obtain ⟨o16, d16, kd16, rfl, N16q, K16q, E16q, C16q, F16q, V16q⟩ := hQ16
    have N16 := Fr.app N14 N16q
    have K16 : Keep h0 T16.heap [] := Keep.trans K14 K16q all0
    have pre18 : ∀ t, Steps p.tables e below (T16.setTop (mkF m 223 #[vI p1, vI p2, vI p3, vI p4, vI p5, vI 1, vI y0_, vI y1_, vI y2_, vI y3_, vR b11, vJ (own_bit y0_), .second, .unset, .unset] [iR o16])) t → Steps p.tables e below (s₁.setTop (entryFrame m #[(.int p1), (.int p2), (.int p3), (.int p4), (.int p5)] maxLocals)) t := by
      intro t kt
      refine pre6 t ?_
      show Steps _ _ _ (s₁.setTop (mkF m 44 #[vI p1, vI p2, vI p3, vI p4, vI p5, vI 1, vI y0_, vI y1_, vI y2_, vI y3_, .unset, vJ 0, .second, .unset, .unset] [])) _
      refine XS.iload X0.here hx rfl (hb hby at_44) rfl ?_
      show Steps _ _ _ (s₁.setTop (mkF m 46 #[vI p1, vI p2, vI p3, vI p4, vI p5, vI 1, vI y0_, vI y1_, vI y2_, vI y3_, .unset, vJ 0, .second, .unset, .unset] [iI 1])) _
      refine XS.ifYes X0.here hx rfl (pc0 := 46) (pc' := 57) rfl (hb hby at_46) rfl ((if0 _ _).trans (feq (by decide : ¬ ((1 : Int32) = (0 : Int32)))).2) (by decide) (by decide) ?_
      show Steps _ _ _ (s₁.setTop (mkF m 57 #[vI p1, vI p2, vI p3, vI p4, vI p5, vI 1, vI y0_, vI y1_, vI y2_, vI y3_, .unset, vJ 0, .second, .unset, .unset] [])) _
      refine XS.iload X0.here hx rfl (hb hby at_57) rfl ?_
      show Steps _ _ _ (s₁.setTop (mkF m 59 #[vI p1, vI p2, vI p3, vI p4, vI p5, vI 1, vI y0_, vI y1_, vI y2_, vI y3_, .unset, vJ 0, .second, .unset, .unset] [iI 1])) _
      refine XS.iconst X0.here hx rfl (hb hby at_59) ?_
      show Steps _ _ _ (s₁.setTop (mkF m 60 #[vI p1, vI p2, vI p3, vI p4, vI p5, vI 1, vI y0_, vI y1_, vI y2_, vI y3_, .unset, vJ 0, .second, .unset, .unset] [iI 1, iI 1])) _
      refine XS.icmpNo X0.here hx rfl (hb hby at_60) rfl (teq (by decide : (1 : Int32) = (1 : Int32))).2 ?_
      show Steps _ _ _ (s₁.setTop (mkF m 63 #[vI p1, vI p2, vI p3, vI p4, vI p5, vI 1, vI y0_, vI y1_, vI y2_, vI y3_, .unset, vJ 0, .second, .unset, .unset] [])) _
      refine XS.iconst X0.here hx rfl (hb hby at_63) ?_
      show Steps _ _ _ (s₁.setTop (mkF m 64 #[vI p1, vI p2, vI p3, vI p4, vI p5, vI 1, vI y0_, vI y1_, vI y2_, vI y3_, .unset, vJ 0, .second, .unset, .unset] [iI 1])) _
      refine st11 _ ?_
      show Steps _ _ _ (T11.setTop (mkF m 66 #[vI p1, vI p2, vI p3, vI p4, vI p5, vI 1, vI y0_, vI y1_, vI y2_, vI y3_, .unset, vJ 0, .second, .unset, .unset] [iR b11])) _
      refine XS.dup X11.here hx rfl (hb hby at_66) rfl rfl ?_
      show Steps _ _ _ (T11.setTop (mkF m 67 #[vI p1, vI p2, vI p3, vI p4, vI p5, vI 1, vI y0_, vI y1_, vI y2_, vI y3_, .unset, vJ 0, .second, .unset, .unset] [iR b11, iR b11])) _
      refine XS.iconst X11.here hx rfl (hb hby at_67) ?_
      show Steps _ _ _ (T11.setTop (mkF m 68 #[vI p1, vI p2, vI p3, vI p4, vI p5, vI 1, vI y0_, vI y1_, vI y2_, vI y3_, .unset, vJ 0, .second, .unset, .unset] [iI 0, iR b11, iR b11])) _
      refine XS.iload X11.here hx rfl (hb hby at_68) rfl ?_
      show Steps _ _ _ (T11.setTop (mkF m 70 #[vI p1, vI p2, vI p3, vI p4, vI p5, vI 1, vI y0_, vI y1_, vI y2_, vI y3_, .unset, vJ 0, .second, .unset, .unset] [iI y0_, iI 0, iR b11, iR b11])) _
      refine st14 _ ?_
      show Steps _ _ _ (T14.setTop (mkF m 71 #[vI p1, vI p2, vI p3, vI p4, vI p5, vI 1, vI y0_, vI y1_, vI y2_, vI y3_, .unset, vJ 0, .second, .unset, .unset] [iR b11])) _
      refine XS.astore X14.here hx rfl (hb hby at_71) rfl rfl (l' := #[vI p1, vI p2, vI p3, vI p4, vI p5, vI 1, vI y0_, vI y1_, vI y2_, vI y3_, vR b11, vJ 0, .second, .unset, .unset]) rfl ?_
      show Steps _ _ _ (T14.setTop (mkF m 73 #[vI p1, vI p2, vI p3, vI p4, vI p5, vI 1, vI y0_, vI y1_, vI y2_, vI y3_, vR b11, vJ 0, .second, .unset, .unset] [])) _
      refine XS.iload X14.here hx rfl (hb hby at_73) rfl ?_
      show Steps _ _ _ (T14.setTop (mkF m 75 #[vI p1, vI p2, vI p3, vI p4, vI p5, vI 1, vI y0_, vI y1_, vI y2_, vI y3_, vR b11, vJ 0, .second, .unset, .unset] [iI y0_])) _
      refine st15 _ ?_
      show Steps _ _ _ (T15.setTop (mkF m 78 #[vI p1, vI p2, vI p3, vI p4, vI p5, vI 1, vI y0_, vI y1_, vI y2_, vI y3_, vR b11, vJ 0, .second, .unset, .unset] [iJ (own_bit y0_)])) _
      refine XS.lstore X15.here hx rfl (hb hby at_78) rfl (l' := #[vI p1, vI p2, vI p3, vI p4, vI p5, vI 1, vI y0_, vI y1_, vI y2_, vI y3_, vR b11, vJ (own_bit y0_), .second, .unset, .unset]) rfl ?_
      show Steps _ _ _ (T15.setTop (mkF m 80 #[vI p1, vI p2, vI p3, vI p4, vI p5, vI 1, vI y0_, vI y1_, vI y2_, vI y3_, vR b11, vJ (own_bit y0_), .second, .unset, .unset] [])) _
      refine XS.goto X15.here hx rfl (pc0 := 80) (pc' := 218) rfl (hb hby at_80) (by decide) (by decide) ?_
      show Steps _ _ _ (T15.setTop (mkF m 218 #[vI p1, vI p2, vI p3, vI p4, vI p5, vI 1, vI y0_, vI y1_, vI y2_, vI y3_, vR b11, vJ (own_bit y0_), .second, .unset, .unset] [])) _
      refine XS.aload X15.here hx rfl (hb hby at_218) rfl rfl ?_
      show Steps _ _ _ (T15.setTop (mkF m 220 #[vI p1, vI p2, vI p3, vI p4, vI p5, vI 1, vI y0_, vI y1_, vI y2_, vI y3_, vR b11, vJ (own_bit y0_), .second, .unset, .unset] [iR b11])) _
      refine st16 _ ?_
      exact kt
    obtain ⟨s₂, o₂, hs₂, hr₂⟩ := own_end (nn := (1 : Int32)) (g1_ := y0_) (g2_ := y1_) (g3_ := y2_) (g4_ := y3_) (ar := b11) (mm := (own_bit y0_)) (X16.more (by decide) (by decide)) hx hZ hw hby hml hown Bd.returns (by first | assumption | exact BodyLoose.notSynchronized (by assumption) | exact Body.notSynchronized (by assumption)) (rfl : T16.heap = _) K16 N16 Z0 O0 E16q C16q F16q V16q (own_lens (own_lenOK1 hf0).1 (own_lenOK1 hf0).2.1).1 (own_lens (own_lenOK1 hf0).1 (own_lenOK1 hf0).2.1).2.1 (own_hx1 hf0).1 (own_dg1 hf0 (0 : Int32) (by decide)) (own_dg1 hf0 (1 : Int32) (by decide)) (own_dg1 hf0 (2 : Int32) (by decide)) (own_dg1 hf0 (3 : Int32) (by decide)) (own_dg1 hf0 (4 : Int32) (by decide)) (own_dg1 hf0 (5 : Int32) (by decide)) (own_dg1 hf0 (6 : Int32) (by decide)) (own_dg1 hf0 (7 : Int32) (by decide)) S_CS h_cs S_F h_fm
    exact ⟨s₂, o₂, pre18 _ hs₂, hr₂⟩
  · obtain ⟨T19, h19, k19, X19, e19, E19, A19, st19⟩ := newP X0 hx hZ (hw _ (List.mem_of_getElem? (i := 1) rfl)) e0 (g := (mkF m 90 #[vI p1, vI p2, vI p3, vI p4, vI p5, vI 2, vI y0_, vI y1_, vI y2_, vI y3_, .unset, vJ 0, .second, .unset, .unset] [iI 2])) rfl (hb hby at_90) rfl (by decide) (cap := 2) (by decide) (by decide) (by decide) (by decide)
    obtain ⟨b19, g19⟩ : ∃ z, z = h0.size := ⟨_, rfl⟩
    rw [← g19] at A19 st19
    have sz_b19 : h0.size ≤ b19 := Nat.le_trans K0.1 (Nat.le_of_eq g19.symm)
    have g_b19 : n0 ≤ b19 := Nat.le_trans Z0 sz_b19
    have K19 : Keep h0 h19 [] := K0.ext E19
    have V19 : Arv Z h19 b19 k19 .int (2 : Int32) [(.int (0 : Int32)), (.int (0 : Int32))] (.int (0 : Int32)) := (Arv.new A19 (by decide)).pad (pad_rep [] (.int (0 : Int32)) 2)
    obtain ⟨cl20, Ar20, q20, S20, M20, H20, G20⟩ := id V19
    have hin21 : ¬ ((0 : Int32) < 0 ∨ cl20.slots.size ≤ ((0 : Int32)).toNatClampNeg) := inb_of S20 ⟨by decide, by decide⟩
    obtain ⟨T22, h22, X22, e22, W22, st22⟩ := stI X19 hx hZ e19 Ar20 (j := (0 : Int32)) hin21 (g := (mkF m 96 #[vI p1, vI p2, vI p3, vI p4, vI p5, vI 2, vI y0_, vI y1_, vI y2_, vI y3_, .unset, vJ 0, .second, .unset, .unset] [iI y0_, iI 0, iR b19, iR b19])) rfl rfl (hb hby at_96)
    have V22 : Arv Z h22 b19 k19 .int (2 : Int32) [(.int y0_), (.int (0 : Int32))] (.int (0 : Int32)) := Arv.set Ar20 q20 S20 M20 H20 G20 rfl W22 0 rfl (Nat.le_of_ble_eq_true rfl)
    have K22 : Keep h0 h22 [] := K19.wr W22 (Or.inr sz_b19)
    have N22 := Fr.snoc X22 N0 g_b19
    obtain ⟨cl23, Ar23, q23, S23, M23, H23, G23⟩ := id V22
    have hin24 : ¬ ((1 : Int32) < 0 ∨ cl23.slots.size ≤ ((1 : Int32)).toNatClampNeg) := inb_of S23 ⟨by decide, by decide⟩
    obtain ⟨T25, h25, X25, e25, W25, st25⟩ := stI X22 hx hZ e22 Ar23 (j := (1 : Int32)) hin24 (g := (mkF m 101 #[vI p1, vI p2, vI p3, vI p4, vI p5, vI 2, vI y0_, vI y1_, vI y2_, vI y3_, .unset, vJ 0, .second, .unset, .unset] [iI y1_, iI 1, iR b19, iR b19])) rfl rfl (hb hby at_101)
    have V25 : Arv Z h25 b19 k19 .int (2 : Int32) [(.int y0_), (.int y1_)] (.int (0 : Int32)) := Arv.set Ar23 q23 S23 M23 H23 G23 rfl W25 1 rfl (Nat.le_of_ble_eq_true rfl)
    have K25 : Keep h0 h25 [] := K22.wr W25 (Or.inr sz_b19)
    have N25 := Fr.snoc X25 N22 g_b19
    obtain ⟨_, _, ⟨T26, L26, k26, n26⟩, -, X26, ⟨Lc26, hQ26, l26, y26, z26⟩, st26⟩ := Jvm.LawKit.callS X25 hx (y := (⟨"com/example/cloud_to_core/cloudtocore/model/SupportedFeaturesOfPinLaw", "bit", "(I)J"⟩ : MethodName)) hown (mvT hZ (hw _ (List.mem_of_getElem? (i := 151) rfl))) (mvT hZ (hw _ (List.mem_of_getElem? (i := 152) rfl))) (mvT hZ (hw _ (List.mem_of_getElem? (i := 106) rfl))) (mvT hZ (hw _ (List.mem_of_getElem? (i := 153) rfl))) (by decide) (backOf (W := 0) (rm27 l Z a0 hw [] y0_ h25 ) hZ (hw _ (List.mem_of_getElem? (i := 153) rfl)) (hw _ (List.mem_of_getElem? (i := 106) rfl)) (by decide) (by decide)) (g := (mkF m 106 #[vI p1, vI p2, vI p3, vI p4, vI p5, vI 2, vI y0_, vI y1_, vI y2_, vI y3_, vR b19, vJ 0, .second, .unset, .unset] [iI y0_])) rfl (by rw [hml]; rfl) (argsL := [(.int y0_)]) (rest := []) (lenOf pd_21 rfl) rfl (by show 2 * 0 + _ ≤ _; exact Nat.le_of_eq rfl) (hb hby at_106) (fun _ _ => ⟨rfl, e25, (by decide : 1 + 0 ≤ _), (by decide : 2 + 0 ≤ _)⟩)
    dsimp only [Pt.U, Pt.locs, Pt.cells, Pt.slots] at X26 l26 y26 z26 st26 hQ26
    subst l26 y26 z26
    obtain ⟨rfl, rfl, e26⟩ := hQ26
    try rw [List.append_nil] at X26
    obtain ⟨_, _, ⟨T27, L27, k27, n27⟩, -, X27, ⟨Lc27, hQ27, l27, y27, z27⟩, st27⟩ := Jvm.LawKit.callS X26 hx (y := (⟨"com/example/cloud_to_core/cloudtocore/model/SupportedFeaturesOfPinLaw", "bit", "(I)J"⟩ : MethodName)) hown (mvT hZ (hw _ (List.mem_of_getElem? (i := 151) rfl))) (mvT hZ (hw _ (List.mem_of_getElem? (i := 152) rfl))) (mvT hZ (hw _ (List.mem_of_getElem? (i := 106) rfl))) (mvT hZ (hw _ (List.mem_of_getElem? (i := 153) rfl))) (by decide) (backOf (W := 2) (rm27 l Z a0 hw [] y1_ h25 ) hZ (hw _ (List.mem_of_getElem? (i := 153) rfl)) (hw _ (List.mem_of_getElem? (i := 106) rfl)) (by decide) (by decide)) (g := (mkF m 111 #[vI p1, vI p2, vI p3, vI p4, vI p5, vI 2, vI y0_, vI y1_, vI y2_, vI y3_, vR b19, vJ 0, .second, .unset, .unset] [iI y1_, iJ (own_bit y0_)])) rfl (by rw [hml]; rfl) (argsL := [(.int y1_)]) (rest := [(.long (own_bit y0_))]) (lenOf pd_21 rfl) rfl (by show 2 * 0 + _ ≤ _; exact Nat.le_of_eq rfl) (hb hby at_111) (fun _ _ => ⟨rfl, e26, (by decide : 1 + 0 ≤ _), (by decide : 2 + 0 ≤ _)⟩)
    dsimp only [Pt.U, Pt.locs, Pt.cells, Pt.slots] at X27 l27 y27 z27 st27 hQ27
    subst l27 y27 z27
    obtain ⟨rfl, rfl, e27⟩ := hQ27
    try rw [List.append_nil] at X27
    have Oh29 := O0.keep K25 all0
    obtain ⟨_, _, ⟨T28, L28, k28, n28⟩, -, X28, ⟨Lc28, hQ28, l28, y28, z28⟩, st28⟩ := Jvm.LawKit.callS X27 hx (y := (⟨"com/example/cloud_to_core/cloudtocore/model/SupportedFeatures", "of", "([I)Ljava/lang/String;"⟩ : MethodName)) hown (mvT hZ (hw _ (List.mem_of_getElem? (i := 2) rfl))) (mvT hZ (hw _ (List.mem_of_getElem? (i := 3) rfl))) (mvT hZ (hw _ (List.mem_of_getElem? (i := 4) rfl))) (mvT hZ (hw _ (List.mem_of_getElem? (i := 5) rfl))) (by decide) (backOf (W := 0) (rm1_2 l Z a0 hw [] b19 k19 y0_ y1_ cs h25 n0 (Nat.le_trans Z0 K25.1) Oh29 V25 hf0 hf1 S_CS h_cs) hZ (hw _ (List.mem_of_getElem? (i := 5) rfl)) (hw _ (List.mem_of_getElem? (i := 4) rfl)) (by decide) (by decide)) (g := (mkF m 220 #[vI p1, vI p2, vI p3, vI p4, vI p5, vI 2, vI y0_, vI y1_, vI y2_, vI y3_, vR b19, vJ ((own_bit y0_) ||| (own_bit y1_)), .second, .unset, .unset] [iR b19])) rfl (by rw [hml]; rfl) (argsL := [(.ref b19)]) (rest := []) (lenOf pd_20 rfl) rfl (by show 2 * 0 + _ ≤ _; exact Nat.le_of_eq rfl) (hb hby at_220) (fun _ _ => ⟨rfl, e27, (by decide : 1 + 5 ≤ _), (by decide : 2 + 32 ≤ _)⟩)
    dsimp only [Pt.U, Pt.locs, Pt.cells, Pt.slots] at X28 l28 y28 z28 st28 hQ28
    subst l28 y28 z28
    obtain ⟨o28, d28, kd28, rfl, N28q, K28q, E28q, C28q, F28q, V28q⟩ := hQ28
    have N28 := Fr.app N25 N28q
    have K28 : Keep h0 T28.heap [] := Keep.trans K25 K28q all0
    have pre30 : ∀ t, Steps p.tables e below (T28.setTop (mkF m 223 #[vI p1, vI p2, vI p3, vI p4, vI p5, vI 2, vI y0_, vI y1_, vI y2_, vI y3_, vR b19, vJ ((own_bit y0_) ||| (own_bit y1_)), .second, .unset, .unset] [iR o28])) t → Steps p.tables e below (s₁.setTop (entryFrame m #[(.int p1), (.int p2), (.int p3), (.int p4), (.int p5)] maxLocals)) t := by
      intro t kt
      refine pre6 t ?_
      show Steps _ _ _ (s₁.setTop (mkF m 44 #[vI p1, vI p2, vI p3, vI p4, vI p5, vI 2, vI y0_, vI y1_, vI y2_, vI y3_, .unset, vJ 0, .second, .unset, .unset] [])) _
      refine XS.iload X0.here hx rfl (hb hby at_44) rfl ?_
      show Steps _ _ _ (s₁.setTop (mkF m 46 #[vI p1, vI p2, vI p3, vI p4, vI p5, vI 2, vI y0_, vI y1_, vI y2_, vI y3_, .unset, vJ 0, .second, .unset, .unset] [iI 2])) _
      refine XS.ifYes X0.here hx rfl (pc0 := 46) (pc' := 57) rfl (hb hby at_46) rfl ((if0 _ _).trans (feq (by decide : ¬ ((2 : Int32) = (0 : Int32)))).2) (by decide) (by decide) ?_
      show Steps _ _ _ (s₁.setTop (mkF m 57 #[vI p1, vI p2, vI p3, vI p4, vI p5, vI 2, vI y0_, vI y1_, vI y2_, vI y3_, .unset, vJ 0, .second, .unset, .unset] [])) _
      refine XS.iload X0.here hx rfl (hb hby at_57) rfl ?_
      show Steps _ _ _ (s₁.setTop (mkF m 59 #[vI p1, vI p2, vI p3, vI p4, vI p5, vI 2, vI y0_, vI y1_, vI y2_, vI y3_, .unset, vJ 0, .second, .unset, .unset] [iI 2])) _
      refine XS.iconst X0.here hx rfl (hb hby at_59) ?_
      show Steps _ _ _ (s₁.setTop (mkF m 60 #[vI p1, vI p2, vI p3, vI p4, vI p5, vI 2, vI y0_, vI y1_, vI y2_, vI y3_, .unset, vJ 0, .second, .unset, .unset] [iI 1, iI 2])) _
      refine XS.icmpYes X0.here hx rfl (pc0 := 60) (pc' := 83) rfl (hb hby at_60) rfl (feq (by decide : ¬ ((2 : Int32) = (1 : Int32)))).2 (by decide) (by decide) ?_
      show Steps _ _ _ (s₁.setTop (mkF m 83 #[vI p1, vI p2, vI p3, vI p4, vI p5, vI 2, vI y0_, vI y1_, vI y2_, vI y3_, .unset, vJ 0, .second, .unset, .unset] [])) _
      refine XS.iload X0.here hx rfl (hb hby at_83) rfl ?_
      show Steps _ _ _ (s₁.setTop (mkF m 85 #[vI p1, vI p2, vI p3, vI p4, vI p5, vI 2, vI y0_, vI y1_, vI y2_, vI y3_, .unset, vJ 0, .second, .unset, .unset] [iI 2])) _
      refine XS.iconst X0.here hx rfl (hb hby at_85) ?_
      show Steps _ _ _ (s₁.setTop (mkF m 86 #[vI p1, vI p2, vI p3, vI p4, vI p5, vI 2, vI y0_, vI y1_, vI y2_, vI y3_, .unset, vJ 0, .second, .unset, .unset] [iI 2, iI 2])) _
      refine XS.icmpNo X0.here hx rfl (hb hby at_86) rfl (teq (by decide : (2 : Int32) = (2 : Int32))).2 ?_
      show Steps _ _ _ (s₁.setTop (mkF m 89 #[vI p1, vI p2, vI p3, vI p4, vI p5, vI 2, vI y0_, vI y1_, vI y2_, vI y3_, .unset, vJ 0, .second, .unset, .unset] [])) _
      refine XS.iconst X0.here hx rfl (hb hby at_89) ?_
      show Steps _ _ _ (s₁.setTop (mkF m 90 #[vI p1, vI p2, vI p3, vI p4, vI p5, vI 2, vI y0_, vI y1_, vI y2_, vI y3_, .unset, vJ 0, .second, .unset, .unset] [iI 2])) _
      refine st19 _ ?_
      show Steps _ _ _ (T19.setTop (mkF m 92 #[vI p1, vI p2, vI p3, vI p4, vI p5, vI 2, vI y0_, vI y1_, vI y2_, vI y3_, .unset, vJ 0, .second, .unset, .unset] [iR b19])) _
      refine XS.dup X19.here hx rfl (hb hby at_92) rfl rfl ?_
      show Steps _ _ _ (T19.setTop (mkF m 93 #[vI p1, vI p2, vI p3, vI p4, vI p5, vI 2, vI y0_, vI y1_, vI y2_, vI y3_, .unset, vJ 0, .second, .unset, .unset] [iR b19, iR b19])) _
      refine XS.iconst X19.here hx rfl (hb hby at_93) ?_
      show Steps _ _ _ (T19.setTop (mkF m 94 #[vI p1, vI p2, vI p3, vI p4, vI p5, vI 2, vI y0_, vI y1_, vI y2_, vI y3_, .unset, vJ 0, .second, .unset, .unset] [iI 0, iR b19, iR b19])) _
      refine XS.iload X19.here hx rfl (hb hby at_94) rfl ?_
      show Steps _ _ _ (T19.setTop (mkF m 96 #[vI p1, vI p2, vI p3, vI p4, vI p5, vI 2, vI y0_, vI y1_, vI y2_, vI y3_, .unset, vJ 0, .second, .unset, .unset] [iI y0_, iI 0, iR b19, iR b19])) _
      refine st22 _ ?_
      show Steps _ _ _ (T22.setTop (mkF m 97 #[vI p1, vI p2, vI p3, vI p4, vI p5, vI 2, vI y0_, vI y1_, vI y2_, vI y3_, .unset, vJ 0, .second, .unset, .unset] [iR b19])) _
      refine XS.dup X22.here hx rfl (hb hby at_97) rfl rfl ?_
      show Steps _ _ _ (T22.setTop (mkF m 98 #[vI p1, vI p2, vI p3, vI p4, vI p5, vI 2, vI y0_, vI y1_, vI y2_, vI y3_, .unset, vJ 0, .second, .unset, .unset] [iR b19, iR b19])) _
      refine XS.iconst X22.here hx rfl (hb hby at_98) ?_
      show Steps _ _ _ (T22.setTop (mkF m 99 #[vI p1, vI p2, vI p3, vI p4, vI p5, vI 2, vI y0_, vI y1_, vI y2_, vI y3_, .unset, vJ 0, .second, .unset, .unset] [iI 1, iR b19, iR b19])) _
      refine XS.iload X22.here hx rfl (hb hby at_99) rfl ?_
      show Steps _ _ _ (T22.setTop (mkF m 101 #[vI p1, vI p2, vI p3, vI p4, vI p5, vI 2, vI y0_, vI y1_, vI y2_, vI y3_, .unset, vJ 0, .second, .unset, .unset] [iI y1_, iI 1, iR b19, iR b19])) _
      refine st25 _ ?_
      show Steps _ _ _ (T25.setTop (mkF m 102 #[vI p1, vI p2, vI p3, vI p4, vI p5, vI 2, vI y0_, vI y1_, vI y2_, vI y3_, .unset, vJ 0, .second, .unset, .unset] [iR b19])) _
      refine XS.astore X25.here hx rfl (hb hby at_102) rfl rfl (l' := #[vI p1, vI p2, vI p3, vI p4, vI p5, vI 2, vI y0_, vI y1_, vI y2_, vI y3_, vR b19, vJ 0, .second, .unset, .unset]) rfl ?_
      show Steps _ _ _ (T25.setTop (mkF m 104 #[vI p1, vI p2, vI p3, vI p4, vI p5, vI 2, vI y0_, vI y1_, vI y2_, vI y3_, vR b19, vJ 0, .second, .unset, .unset] [])) _
      refine XS.iload X25.here hx rfl (hb hby at_104) rfl ?_
      show Steps _ _ _ (T25.setTop (mkF m 106 #[vI p1, vI p2, vI p3, vI p4, vI p5, vI 2, vI y0_, vI y1_, vI y2_, vI y3_, vR b19, vJ 0, .second, .unset, .unset] [iI y0_])) _
      refine st26 _ ?_
      show Steps _ _ _ (T26.setTop (mkF m 109 #[vI p1, vI p2, vI p3, vI p4, vI p5, vI 2, vI y0_, vI y1_, vI y2_, vI y3_, vR b19, vJ 0, .second, .unset, .unset] [iJ (own_bit y0_)])) _
      refine XS.iload X26.here hx rfl (hb hby at_109) rfl ?_
      show Steps _ _ _ (T26.setTop (mkF m 111 #[vI p1, vI p2, vI p3, vI p4, vI p5, vI 2, vI y0_, vI y1_, vI y2_, vI y3_, vR b19, vJ 0, .second, .unset, .unset] [iI y1_, iJ (own_bit y0_)])) _
      refine st27 _ ?_
      show Steps _ _ _ (T27.setTop (mkF m 114 #[vI p1, vI p2, vI p3, vI p4, vI p5, vI 2, vI y0_, vI y1_, vI y2_, vI y3_, vR b19, vJ 0, .second, .unset, .unset] [iJ (own_bit y1_), iJ (own_bit y0_)])) _
      refine XS.lor X27.here hx rfl (hb hby at_114) rfl ?_
      show Steps _ _ _ (T27.setTop (mkF m 115 #[vI p1, vI p2, vI p3, vI p4, vI p5, vI 2, vI y0_, vI y1_, vI y2_, vI y3_, vR b19, vJ 0, .second, .unset, .unset] [iJ ((own_bit y0_) ||| (own_bit y1_))])) _
      refine XS.lstore X27.here hx rfl (hb hby at_115) rfl (l' := #[vI p1, vI p2, vI p3, vI p4, vI p5, vI 2, vI y0_, vI y1_, vI y2_, vI y3_, vR b19, vJ ((own_bit y0_) ||| (own_bit y1_)), .second, .unset, .unset]) rfl ?_
      show Steps _ _ _ (T27.setTop (mkF m 117 #[vI p1, vI p2, vI p3, vI p4, vI p5, vI 2, vI y0_, vI y1_, vI y2_, vI y3_, vR b19, vJ ((own_bit y0_) ||| (own_bit y1_)), .second, .unset, .unset] [])) _
      refine XS.goto X27.here hx rfl (pc0 := 117) (pc' := 218) rfl (hb hby at_117) (by decide) (by decide) ?_
      show Steps _ _ _ (T27.setTop (mkF m 218 #[vI p1, vI p2, vI p3, vI p4, vI p5, vI 2, vI y0_, vI y1_, vI y2_, vI y3_, vR b19, vJ ((own_bit y0_) ||| (own_bit y1_)), .second, .unset, .unset] [])) _
      refine XS.aload X27.here hx rfl (hb hby at_218) rfl rfl ?_
      show Steps _ _ _ (T27.setTop (mkF m 220 #[vI p1, vI p2, vI p3, vI p4, vI p5, vI 2, vI y0_, vI y1_, vI y2_, vI y3_, vR b19, vJ ((own_bit y0_) ||| (own_bit y1_)), .second, .unset, .unset] [iR b19])) _
      refine st28 _ ?_
      exact kt
    obtain ⟨s₂, o₂, hs₂, hr₂⟩ := own_end (nn := (2 : Int32)) (g1_ := y0_) (g2_ := y1_) (g3_ := y2_) (g4_ := y3_) (ar := b19) (mm := ((own_bit y0_) ||| (own_bit y1_))) (X28.more (by decide) (by decide)) hx hZ hw hby hml hown Bd.returns (by first | assumption | exact BodyLoose.notSynchronized (by assumption) | exact Body.notSynchronized (by assumption)) (rfl : T28.heap = _) K28 N28 Z0 O0 E28q C28q F28q V28q (own_lens (own_lenOK2 hf0 hf1).1 (own_lenOK2 hf0 hf1).2.1).1 (own_lens (own_lenOK2 hf0 hf1).1 (own_lenOK2 hf0 hf1).2.1).2.1 (own_hx2 hf0 hf1).1 (own_dg2 hf0 hf1 (0 : Int32) (by decide)) (own_dg2 hf0 hf1 (1 : Int32) (by decide)) (own_dg2 hf0 hf1 (2 : Int32) (by decide)) (own_dg2 hf0 hf1 (3 : Int32) (by decide)) (own_dg2 hf0 hf1 (4 : Int32) (by decide)) (own_dg2 hf0 hf1 (5 : Int32) (by decide)) (own_dg2 hf0 hf1 (6 : Int32) (by decide)) (own_dg2 hf0 hf1 (7 : Int32) (by decide)) S_CS h_cs S_F h_fm
    exact ⟨s₂, o₂, pre30 _ hs₂, hr₂⟩
  · obtain ⟨T31, h31, k31, X31, e31, E31, A31, st31⟩ := newP X0 hx hZ (hw _ (List.mem_of_getElem? (i := 1) rfl)) e0 (g := (mkF m 127 #[vI p1, vI p2, vI p3, vI p4, vI p5, vI 3, vI y0_, vI y1_, vI y2_, vI y3_, .unset, vJ 0, .second, .unset, .unset] [iI 3])) rfl (hb hby at_127) rfl (by decide) (cap := 3) (by decide) (by decide) (by decide) (by decide)
    obtain ⟨b31, g31⟩ : ∃ z, z = h0.size := ⟨_, rfl⟩
    rw [← g31] at A31 st31
    have sz_b31 : h0.size ≤ b31 := Nat.le_trans K0.1 (Nat.le_of_eq g31.symm)
    have g_b31 : n0 ≤ b31 := Nat.le_trans Z0 sz_b31
    have K31 : Keep h0 h31 [] := K0.ext E31
    have V31 : Arv Z h31 b31 k31 .int (3 : Int32) [(.int (0 : Int32)), (.int (0 : Int32)), (.int (0 : Int32))] (.int (0 : Int32)) := (Arv.new A31 (by decide)).pad (pad_rep [] (.int (0 : Int32)) 3)
    obtain ⟨cl32, Ar32, q32, S32, M32, H32, G32⟩ := id V31
    have hin33 : ¬ ((0 : Int32) < 0 ∨ cl32.slots.size ≤ ((0 : Int32)).toNatClampNeg) := inb_of S32 ⟨by decide, by decide⟩
    obtain ⟨T34, h34, X34, e34, W34, st34⟩ := stI X31 hx hZ e31 Ar32 (j := (0 : Int32)) hin33 (g := (mkF m 133 #[vI p1, vI p2, vI p3, vI p4, vI p5, vI 3, vI y0_, vI y1_, vI y2_, vI y3_, .unset, vJ 0, .second, .unset, .unset] [iI y0_, iI 0, iR b31, iR b31])) rfl rfl (hb hby at_133)
    have V34 : Arv Z h34 b31 k31 .int (3 : Int32) [(.int y0_), (.int (0 : Int32)), (.int (0 : Int32))] (.int (0 : Int32)) := Arv.set Ar32 q32 S32 M32 H32 G32 rfl W34 0 rfl (Nat.le_of_ble_eq_true rfl)
    have K34 : Keep h0 h34 [] := K31.wr W34 (Or.inr sz_b31)
    have N34 := Fr.snoc X34 N0 g_b31
    obtain ⟨cl35, Ar35, q35, S35, M35, H35, G35⟩ := id V34
    have hin36 : ¬ ((1 : Int32) < 0 ∨ cl35.slots.size ≤ ((1 : Int32)).toNatClampNeg) := inb_of S35 ⟨by decide, by decide⟩
    obtain ⟨T37, h37, X37, e37, W37, st37⟩ := stI X34 hx hZ e34 Ar35 (j := (1 : Int32)) hin36 (g := (mkF m 138 #[vI p1, vI p2, vI p3, vI p4, vI p5, vI 3, vI y0_, vI y1_, vI y2_, vI y3_, .unset, vJ 0, .second, .unset, .unset] [iI y1_, iI 1, iR b31, iR b31])) rfl rfl (hb hby at_138)
    have V37 : Arv Z h37 b31 k31 .int (3 : Int32) [(.int y0_), (.int y1_), (.int (0 : Int32))] (.int (0 : Int32)) := Arv.set Ar35 q35 S35 M35 H35 G35 rfl W37 1 rfl (Nat.le_of_ble_eq_true rfl)
    have K37 : Keep h0 h37 [] := K34.wr W37 (Or.inr sz_b31)
    have N37 := Fr.snoc X37 N34 g_b31
    obtain ⟨cl38, Ar38, q38, S38, M38, H38, G38⟩ := id V37
    have hin39 : ¬ ((2 : Int32) < 0 ∨ cl38.slots.size ≤ ((2 : Int32)).toNatClampNeg) := inb_of S38 ⟨by decide, by decide⟩
    obtain ⟨T40, h40, X40, e40, W40, st40⟩ := stI X37 hx hZ e37 Ar38 (j := (2 : Int32)) hin39 (g := (mkF m 143 #[vI p1, vI p2, vI p3, vI p4, vI p5, vI 3, vI y0_, vI y1_, vI y2_, vI y3_, .unset, vJ 0, .second, .unset, .unset] [iI y2_, iI 2, iR b31, iR b31])) rfl rfl (hb hby at_143)
    have V40 : Arv Z h40 b31 k31 .int (3 : Int32) [(.int y0_), (.int y1_), (.int y2_)] (.int (0 : Int32)) := Arv.set Ar38 q38 S38 M38 H38 G38 rfl W40 2 rfl (Nat.le_of_ble_eq_true rfl)
    have K40 : Keep h0 h40 [] := K37.wr W40 (Or.inr sz_b31)
    have N40 := Fr.snoc X40 N37 g_b31
    obtain ⟨_, _, ⟨T41, L41, k41, n41⟩, -, X41, ⟨Lc41, hQ41, l41, y41, z41⟩, st41⟩ := Jvm.LawKit.callS X40 hx (y := (⟨"com/example/cloud_to_core/cloudtocore/model/SupportedFeaturesOfPinLaw", "bit", "(I)J"⟩ : MethodName)) hown (mvT hZ (hw _ (List.mem_of_getElem? (i := 151) rfl))) (mvT hZ (hw _ (List.mem_of_getElem? (i := 152) rfl))) (mvT hZ (hw _ (List.mem_of_getElem? (i := 106) rfl))) (mvT hZ (hw _ (List.mem_of_getElem? (i := 153) rfl))) (by decide) (backOf (W := 0) (rm27 l Z a0 hw [] y0_ h40 ) hZ (hw _ (List.mem_of_getElem? (i := 153) rfl)) (hw _ (List.mem_of_getElem? (i := 106) rfl)) (by decide) (by decide)) (g := (mkF m 148 #[vI p1, vI p2, vI p3, vI p4, vI p5, vI 3, vI y0_, vI y1_, vI y2_, vI y3_, vR b31, vJ 0, .second, .unset, .unset] [iI y0_])) rfl (by rw [hml]; rfl) (argsL := [(.int y0_)]) (rest := []) (lenOf pd_21 rfl) rfl (by show 2 * 0 + _ ≤ _; exact Nat.le_of_eq rfl) (hb hby at_148) (fun _ _ => ⟨rfl, e40, (by decide : 1 + 0 ≤ _), (by decide : 3 + 0 ≤ _)⟩)
    dsimp only [Pt.U, Pt.locs, Pt.cells, Pt.slots] at X41 l41 y41 z41 st41 hQ41
    subst l41 y41 z41
    obtain ⟨rfl, rfl, e41⟩ := hQ41
    try rw [List.append_nil] at X41
    obtain ⟨_, _, ⟨T42, L42, k42, n42⟩, -, X42, ⟨Lc42, hQ42, l42, y42, z42⟩, st42⟩ := Jvm.LawKit.callS X41 hx (y := (⟨"com/example/cloud_to_core/cloudtocore/model/SupportedFeaturesOfPinLaw", "bit", "(I)J"⟩ : MethodName)) hown (mvT hZ (hw _ (List.mem_of_getElem? (i := 151) rfl))) (mvT hZ (hw _ (List.mem_of_getElem? (i := 152) rfl))) (mvT hZ (hw _ (List.mem_of_getElem? (i := 106) rfl))) (mvT hZ (hw _ (List.mem_of_getElem? (i := 153) rfl))) (by decide) (backOf (W := 2) (rm27 l Z a0 hw [] y1_ h40 ) hZ (hw _ (List.mem_of_getElem? (i := 153) rfl)) (hw _ (List.mem_of_getElem? (i := 106) rfl)) (by decide) (by decide)) (g := (mkF m 153 #[vI p1, vI p2, vI p3, vI p4, vI p5, vI 3, vI y0_, vI y1_, vI y2_, vI y3_, vR b31, vJ 0, .second, .unset, .unset] [iI y1_, iJ (own_bit y0_)])) rfl (by rw [hml]; rfl) (argsL := [(.int y1_)]) (rest := [(.long (own_bit y0_))]) (lenOf pd_21 rfl) rfl (by show 2 * 0 + _ ≤ _; exact Nat.le_of_eq rfl) (hb hby at_153) (fun _ _ => ⟨rfl, e41, (by decide : 1 + 0 ≤ _), (by decide : 3 + 0 ≤ _)⟩)
    dsimp only [Pt.U, Pt.locs, Pt.cells, Pt.slots] at X42 l42 y42 z42 st42 hQ42
    subst l42 y42 z42
    obtain ⟨rfl, rfl, e42⟩ := hQ42
    try rw [List.append_nil] at X42
    obtain ⟨_, _, ⟨T43, L43, k43, n43⟩, -, X43, ⟨Lc43, hQ43, l43, y43, z43⟩, st43⟩ := Jvm.LawKit.callS X42 hx (y := (⟨"com/example/cloud_to_core/cloudtocore/model/SupportedFeaturesOfPinLaw", "bit", "(I)J"⟩ : MethodName)) hown (mvT hZ (hw _ (List.mem_of_getElem? (i := 151) rfl))) (mvT hZ (hw _ (List.mem_of_getElem? (i := 152) rfl))) (mvT hZ (hw _ (List.mem_of_getElem? (i := 106) rfl))) (mvT hZ (hw _ (List.mem_of_getElem? (i := 153) rfl))) (by decide) (backOf (W := 2) (rm27 l Z a0 hw [] y2_ h40 ) hZ (hw _ (List.mem_of_getElem? (i := 153) rfl)) (hw _ (List.mem_of_getElem? (i := 106) rfl)) (by decide) (by decide)) (g := (mkF m 159 #[vI p1, vI p2, vI p3, vI p4, vI p5, vI 3, vI y0_, vI y1_, vI y2_, vI y3_, vR b31, vJ 0, .second, .unset, .unset] [iI y2_, iJ ((own_bit y0_) ||| (own_bit y1_))])) rfl (by rw [hml]; rfl) (argsL := [(.int y2_)]) (rest := [(.long ((own_bit y0_) ||| (own_bit y1_)))]) (lenOf pd_21 rfl) rfl (by show 2 * 0 + _ ≤ _; exact Nat.le_of_eq rfl) (hb hby at_159) (fun _ _ => ⟨rfl, e42, (by decide : 1 + 0 ≤ _), (by decide : 3 + 0 ≤ _)⟩)
    dsimp only [Pt.U, Pt.locs, Pt.cells, Pt.slots] at X43 l43 y43 z43 st43 hQ43
    subst l43 y43 z43
    obtain ⟨rfl, rfl, e43⟩ := hQ43
    try rw [List.append_nil] at X43
    have Oh45 := O0.keep K40 all0
    obtain ⟨_, _, ⟨T44, L44, k44, n44⟩, -, X44, ⟨Lc44, hQ44, l44, y44, z44⟩, st44⟩ := Jvm.LawKit.callS X43 hx (y := (⟨"com/example/cloud_to_core/cloudtocore/model/SupportedFeatures", "of", "([I)Ljava/lang/String;"⟩ : MethodName)) hown (mvT hZ (hw _ (List.mem_of_getElem? (i := 2) rfl))) (mvT hZ (hw _ (List.mem_of_getElem? (i := 3) rfl))) (mvT hZ (hw _ (List.mem_of_getElem? (i := 4) rfl))) (mvT hZ (hw _ (List.mem_of_getElem? (i := 5) rfl))) (by decide) (backOf (W := 0) (rm1_3 l Z a0 hw [] b31 k31 y0_ y1_ y2_ cs h40 n0 (Nat.le_trans Z0 K40.1) Oh45 V40 hf0 hf1 hf2 S_CS h_cs) hZ (hw _ (List.mem_of_getElem? (i := 5) rfl)) (hw _ (List.mem_of_getElem? (i := 4) rfl)) (by decide) (by decide)) (g := (mkF m 220 #[vI p1, vI p2, vI p3, vI p4, vI p5, vI 3, vI y0_, vI y1_, vI y2_, vI y3_, vR b31, vJ (((own_bit y0_) ||| (own_bit y1_)) ||| (own_bit y2_)), .second, .unset, .unset] [iR b31])) rfl (by rw [hml]; rfl) (argsL := [(.ref b31)]) (rest := []) (lenOf pd_20 rfl) rfl (by show 2 * 0 + _ ≤ _; exact Nat.le_of_eq rfl) (hb hby at_220) (fun _ _ => ⟨rfl, e43, (by decide : 1 + 5 ≤ _), (by decide : 3 + 32 ≤ _)⟩)
    dsimp only [Pt.U, Pt.locs, Pt.cells, Pt.slots] at X44 l44 y44 z44 st44 hQ44
    subst l44 y44 z44
    obtain ⟨o44, d44, kd44, rfl, N44q, K44q, E44q, C44q, F44q, V44q⟩ := hQ44
    have N44 := Fr.app N40 N44q
    have K44 : Keep h0 T44.heap [] := Keep.trans K40 K44q all0
    have pre46 : ∀ t, Steps p.tables e below (T44.setTop (mkF m 223 #[vI p1, vI p2, vI p3, vI p4, vI p5, vI 3, vI y0_, vI y1_, vI y2_, vI y3_, vR b31, vJ (((own_bit y0_) ||| (own_bit y1_)) ||| (own_bit y2_)), .second, .unset, .unset] [iR o44])) t → Steps p.tables e below (s₁.setTop (entryFrame m #[(.int p1), (.int p2), (.int p3), (.int p4), (.int p5)] maxLocals)) t := by
      intro t kt
      refine pre6 t ?_
      show Steps _ _ _ (s₁.setTop (mkF m 44 #[vI p1, vI p2, vI p3, vI p4, vI p5, vI 3, vI y0_, vI y1_, vI y2_, vI y3_, .unset, vJ 0, .second, .unset, .unset] [])) _
      refine XS.iload X0.here hx rfl (hb hby at_44) rfl ?_
      show Steps _ _ _ (s₁.setTop (mkF m 46 #[vI p1, vI p2, vI p3, vI p4, vI p5, vI 3, vI y0_, vI y1_, vI y2_, vI y3_, .unset, vJ 0, .second, .unset, .unset] [iI 3])) _
      refine XS.ifYes X0.here hx rfl (pc0 := 46) (pc' := 57) rfl (hb hby at_46) rfl ((if0 _ _).trans (feq (by decide : ¬ ((3 : Int32) = (0 : Int32)))).2) (by decide) (by decide) ?_
      show Steps _ _ _ (s₁.setTop (mkF m 57 #[vI p1, vI p2, vI p3, vI p4, vI p5, vI 3, vI y0_, vI y1_, vI y2_, vI y3_, .unset, vJ 0, .second, .unset, .unset] [])) _
      refine XS.iload X0.here hx rfl (hb hby at_57) rfl ?_
      show Steps _ _ _ (s₁.setTop (mkF m 59 #[vI p1, vI p2, vI p3, vI p4, vI p5, vI 3, vI y0_, vI y1_, vI y2_, vI y3_, .unset, vJ 0, .second, .unset, .unset] [iI 3])) _
      refine XS.iconst X0.here hx rfl (hb hby at_59) ?_
      show Steps _ _ _ (s₁.setTop (mkF m 60 #[vI p1, vI p2, vI p3, vI p4, vI p5, vI 3, vI y0_, vI y1_, vI y2_, vI y3_, .unset, vJ 0, .second, .unset, .unset] [iI 1, iI 3])) _
      refine XS.icmpYes X0.here hx rfl (pc0 := 60) (pc' := 83) rfl (hb hby at_60) rfl (feq (by decide : ¬ ((3 : Int32) = (1 : Int32)))).2 (by decide) (by decide) ?_
      show Steps _ _ _ (s₁.setTop (mkF m 83 #[vI p1, vI p2, vI p3, vI p4, vI p5, vI 3, vI y0_, vI y1_, vI y2_, vI y3_, .unset, vJ 0, .second, .unset, .unset] [])) _
      refine XS.iload X0.here hx rfl (hb hby at_83) rfl ?_
      show Steps _ _ _ (s₁.setTop (mkF m 85 #[vI p1, vI p2, vI p3, vI p4, vI p5, vI 3, vI y0_, vI y1_, vI y2_, vI y3_, .unset, vJ 0, .second, .unset, .unset] [iI 3])) _
      refine XS.iconst X0.here hx rfl (hb hby at_85) ?_
      show Steps _ _ _ (s₁.setTop (mkF m 86 #[vI p1, vI p2, vI p3, vI p4, vI p5, vI 3, vI y0_, vI y1_, vI y2_, vI y3_, .unset, vJ 0, .second, .unset, .unset] [iI 2, iI 3])) _
      refine XS.icmpYes X0.here hx rfl (pc0 := 86) (pc' := 120) rfl (hb hby at_86) rfl (feq (by decide : ¬ ((3 : Int32) = (2 : Int32)))).2 (by decide) (by decide) ?_
      show Steps _ _ _ (s₁.setTop (mkF m 120 #[vI p1, vI p2, vI p3, vI p4, vI p5, vI 3, vI y0_, vI y1_, vI y2_, vI y3_, .unset, vJ 0, .second, .unset, .unset] [])) _
      refine XS.iload X0.here hx rfl (hb hby at_120) rfl ?_
      show Steps _ _ _ (s₁.setTop (mkF m 122 #[vI p1, vI p2, vI p3, vI p4, vI p5, vI 3, vI y0_, vI y1_, vI y2_, vI y3_, .unset, vJ 0, .second, .unset, .unset] [iI 3])) _
      refine XS.iconst X0.here hx rfl (hb hby at_122) ?_
      show Steps _ _ _ (s₁.setTop (mkF m 123 #[vI p1, vI p2, vI p3, vI p4, vI p5, vI 3, vI y0_, vI y1_, vI y2_, vI y3_, .unset, vJ 0, .second, .unset, .unset] [iI 3, iI 3])) _
      refine XS.icmpNo X0.here hx rfl (hb hby at_123) rfl (teq (by decide : (3 : Int32) = (3 : Int32))).2 ?_
      show Steps _ _ _ (s₁.setTop (mkF m 126 #[vI p1, vI p2, vI p3, vI p4, vI p5, vI 3, vI y0_, vI y1_, vI y2_, vI y3_, .unset, vJ 0, .second, .unset, .unset] [])) _
      refine XS.iconst X0.here hx rfl (hb hby at_126) ?_
      show Steps _ _ _ (s₁.setTop (mkF m 127 #[vI p1, vI p2, vI p3, vI p4, vI p5, vI 3, vI y0_, vI y1_, vI y2_, vI y3_, .unset, vJ 0, .second, .unset, .unset] [iI 3])) _
      refine st31 _ ?_
      show Steps _ _ _ (T31.setTop (mkF m 129 #[vI p1, vI p2, vI p3, vI p4, vI p5, vI 3, vI y0_, vI y1_, vI y2_, vI y3_, .unset, vJ 0, .second, .unset, .unset] [iR b31])) _
      refine XS.dup X31.here hx rfl (hb hby at_129) rfl rfl ?_
      show Steps _ _ _ (T31.setTop (mkF m 130 #[vI p1, vI p2, vI p3, vI p4, vI p5, vI 3, vI y0_, vI y1_, vI y2_, vI y3_, .unset, vJ 0, .second, .unset, .unset] [iR b31, iR b31])) _
      refine XS.iconst X31.here hx rfl (hb hby at_130) ?_
      show Steps _ _ _ (T31.setTop (mkF m 131 #[vI p1, vI p2, vI p3, vI p4, vI p5, vI 3, vI y0_, vI y1_, vI y2_, vI y3_, .unset, vJ 0, .second, .unset, .unset] [iI 0, iR b31, iR b31])) _
      refine XS.iload X31.here hx rfl (hb hby at_131) rfl ?_
      show Steps _ _ _ (T31.setTop (mkF m 133 #[vI p1, vI p2, vI p3, vI p4, vI p5, vI 3, vI y0_, vI y1_, vI y2_, vI y3_, .unset, vJ 0, .second, .unset, .unset] [iI y0_, iI 0, iR b31, iR b31])) _
      refine st34 _ ?_
      show Steps _ _ _ (T34.setTop (mkF m 134 #[vI p1, vI p2, vI p3, vI p4, vI p5, vI 3, vI y0_, vI y1_, vI y2_, vI y3_, .unset, vJ 0, .second, .unset, .unset] [iR b31])) _
      refine XS.dup X34.here hx rfl (hb hby at_134) rfl rfl ?_
      show Steps _ _ _ (T34.setTop (mkF m 135 #[vI p1, vI p2, vI p3, vI p4, vI p5, vI 3, vI y0_, vI y1_, vI y2_, vI y3_, .unset, vJ 0, .second, .unset, .unset] [iR b31, iR b31])) _
      refine XS.iconst X34.here hx rfl (hb hby at_135) ?_
      show Steps _ _ _ (T34.setTop (mkF m 136 #[vI p1, vI p2, vI p3, vI p4, vI p5, vI 3, vI y0_, vI y1_, vI y2_, vI y3_, .unset, vJ 0, .second, .unset, .unset] [iI 1, iR b31, iR b31])) _
      refine XS.iload X34.here hx rfl (hb hby at_136) rfl ?_
      show Steps _ _ _ (T34.setTop (mkF m 138 #[vI p1, vI p2, vI p3, vI p4, vI p5, vI 3, vI y0_, vI y1_, vI y2_, vI y3_, .unset, vJ 0, .second, .unset, .unset] [iI y1_, iI 1, iR b31, iR b31])) _
      refine st37 _ ?_
      show Steps _ _ _ (T37.setTop (mkF m 139 #[vI p1, vI p2, vI p3, vI p4, vI p5, vI 3, vI y0_, vI y1_, vI y2_, vI y3_, .unset, vJ 0, .second, .unset, .unset] [iR b31])) _
      refine XS.dup X37.here hx rfl (hb hby at_139) rfl rfl ?_
      show Steps _ _ _ (T37.setTop (mkF m 140 #[vI p1, vI p2, vI p3, vI p4, vI p5, vI 3, vI y0_, vI y1_, vI y2_, vI y3_, .unset, vJ 0, .second, .unset, .unset] [iR b31, iR b31])) _
      refine XS.iconst X37.here hx rfl (hb hby at_140) ?_
      show Steps _ _ _ (T37.setTop (mkF m 141 #[vI p1, vI p2, vI p3, vI p4, vI p5, vI 3, vI y0_, vI y1_, vI y2_, vI y3_, .unset, vJ 0, .second, .unset, .unset] [iI 2, iR b31, iR b31])) _
      refine XS.iload X37.here hx rfl (hb hby at_141) rfl ?_
      show Steps _ _ _ (T37.setTop (mkF m 143 #[vI p1, vI p2, vI p3, vI p4, vI p5, vI 3, vI y0_, vI y1_, vI y2_, vI y3_, .unset, vJ 0, .second, .unset, .unset] [iI y2_, iI 2, iR b31, iR b31])) _
      refine st40 _ ?_
      show Steps _ _ _ (T40.setTop (mkF m 144 #[vI p1, vI p2, vI p3, vI p4, vI p5, vI 3, vI y0_, vI y1_, vI y2_, vI y3_, .unset, vJ 0, .second, .unset, .unset] [iR b31])) _
      refine XS.astore X40.here hx rfl (hb hby at_144) rfl rfl (l' := #[vI p1, vI p2, vI p3, vI p4, vI p5, vI 3, vI y0_, vI y1_, vI y2_, vI y3_, vR b31, vJ 0, .second, .unset, .unset]) rfl ?_
      show Steps _ _ _ (T40.setTop (mkF m 146 #[vI p1, vI p2, vI p3, vI p4, vI p5, vI 3, vI y0_, vI y1_, vI y2_, vI y3_, vR b31, vJ 0, .second, .unset, .unset] [])) _
      refine XS.iload X40.here hx rfl (hb hby at_146) rfl ?_
      show Steps _ _ _ (T40.setTop (mkF m 148 #[vI p1, vI p2, vI p3, vI p4, vI p5, vI 3, vI y0_, vI y1_, vI y2_, vI y3_, vR b31, vJ 0, .second, .unset, .unset] [iI y0_])) _
      refine st41 _ ?_
      show Steps _ _ _ (T41.setTop (mkF m 151 #[vI p1, vI p2, vI p3, vI p4, vI p5, vI 3, vI y0_, vI y1_, vI y2_, vI y3_, vR b31, vJ 0, .second, .unset, .unset] [iJ (own_bit y0_)])) _
      refine XS.iload X41.here hx rfl (hb hby at_151) rfl ?_
      show Steps _ _ _ (T41.setTop (mkF m 153 #[vI p1, vI p2, vI p3, vI p4, vI p5, vI 3, vI y0_, vI y1_, vI y2_, vI y3_, vR b31, vJ 0, .second, .unset, .unset] [iI y1_, iJ (own_bit y0_)])) _
      refine st42 _ ?_
      show Steps _ _ _ (T42.setTop (mkF m 156 #[vI p1, vI p2, vI p3, vI p4, vI p5, vI 3, vI y0_, vI y1_, vI y2_, vI y3_, vR b31, vJ 0, .second, .unset, .unset] [iJ (own_bit y1_), iJ (own_bit y0_)])) _
      refine XS.lor X42.here hx rfl (hb hby at_156) rfl ?_
      show Steps _ _ _ (T42.setTop (mkF m 157 #[vI p1, vI p2, vI p3, vI p4, vI p5, vI 3, vI y0_, vI y1_, vI y2_, vI y3_, vR b31, vJ 0, .second, .unset, .unset] [iJ ((own_bit y0_) ||| (own_bit y1_))])) _
      refine XS.iload X42.here hx rfl (hb hby at_157) rfl ?_
      show Steps _ _ _ (T42.setTop (mkF m 159 #[vI p1, vI p2, vI p3, vI p4, vI p5, vI 3, vI y0_, vI y1_, vI y2_, vI y3_, vR b31, vJ 0, .second, .unset, .unset] [iI y2_, iJ ((own_bit y0_) ||| (own_bit y1_))])) _
      refine st43 _ ?_
      show Steps _ _ _ (T43.setTop (mkF m 162 #[vI p1, vI p2, vI p3, vI p4, vI p5, vI 3, vI y0_, vI y1_, vI y2_, vI y3_, vR b31, vJ 0, .second, .unset, .unset] [iJ (own_bit y2_), iJ ((own_bit y0_) ||| (own_bit y1_))])) _
      refine XS.lor X43.here hx rfl (hb hby at_162) rfl ?_
      show Steps _ _ _ (T43.setTop (mkF m 163 #[vI p1, vI p2, vI p3, vI p4, vI p5, vI 3, vI y0_, vI y1_, vI y2_, vI y3_, vR b31, vJ 0, .second, .unset, .unset] [iJ (((own_bit y0_) ||| (own_bit y1_)) ||| (own_bit y2_))])) _
      refine XS.lstore X43.here hx rfl (hb hby at_163) rfl (l' := #[vI p1, vI p2, vI p3, vI p4, vI p5, vI 3, vI y0_, vI y1_, vI y2_, vI y3_, vR b31, vJ (((own_bit y0_) ||| (own_bit y1_)) ||| (own_bit y2_)), .second, .unset, .unset]) rfl ?_
      show Steps _ _ _ (T43.setTop (mkF m 165 #[vI p1, vI p2, vI p3, vI p4, vI p5, vI 3, vI y0_, vI y1_, vI y2_, vI y3_, vR b31, vJ (((own_bit y0_) ||| (own_bit y1_)) ||| (own_bit y2_)), .second, .unset, .unset] [])) _
      refine XS.goto X43.here hx rfl (pc0 := 165) (pc' := 218) rfl (hb hby at_165) (by decide) (by decide) ?_
      show Steps _ _ _ (T43.setTop (mkF m 218 #[vI p1, vI p2, vI p3, vI p4, vI p5, vI 3, vI y0_, vI y1_, vI y2_, vI y3_, vR b31, vJ (((own_bit y0_) ||| (own_bit y1_)) ||| (own_bit y2_)), .second, .unset, .unset] [])) _
      refine XS.aload X43.here hx rfl (hb hby at_218) rfl rfl ?_
      show Steps _ _ _ (T43.setTop (mkF m 220 #[vI p1, vI p2, vI p3, vI p4, vI p5, vI 3, vI y0_, vI y1_, vI y2_, vI y3_, vR b31, vJ (((own_bit y0_) ||| (own_bit y1_)) ||| (own_bit y2_)), .second, .unset, .unset] [iR b31])) _
      refine st44 _ ?_
      exact kt
    obtain ⟨s₂, o₂, hs₂, hr₂⟩ := own_end (nn := (3 : Int32)) (g1_ := y0_) (g2_ := y1_) (g3_ := y2_) (g4_ := y3_) (ar := b31) (mm := (((own_bit y0_) ||| (own_bit y1_)) ||| (own_bit y2_))) (X44.more (by decide) (by decide)) hx hZ hw hby hml hown Bd.returns (by first | assumption | exact BodyLoose.notSynchronized (by assumption) | exact Body.notSynchronized (by assumption)) (rfl : T44.heap = _) K44 N44 Z0 O0 E44q C44q F44q V44q (own_lens (own_lenOK3 hf0 hf1 hf2).1 (own_lenOK3 hf0 hf1 hf2).2.1).1 (own_lens (own_lenOK3 hf0 hf1 hf2).1 (own_lenOK3 hf0 hf1 hf2).2.1).2.1 (own_hx3 hf0 hf1 hf2).1 (own_dg3 hf0 hf1 hf2 (0 : Int32) (by decide)) (own_dg3 hf0 hf1 hf2 (1 : Int32) (by decide)) (own_dg3 hf0 hf1 hf2 (2 : Int32) (by decide)) (own_dg3 hf0 hf1 hf2 (3 : Int32) (by decide)) (own_dg3 hf0 hf1 hf2 (4 : Int32) (by decide)) (own_dg3 hf0 hf1 hf2 (5 : Int32) (by decide)) (own_dg3 hf0 hf1 hf2 (6 : Int32) (by decide)) (own_dg3 hf0 hf1 hf2 (7 : Int32) (by decide)) S_CS h_cs S_F h_fm
    exact ⟨s₂, o₂, pre46 _ hs₂, hr₂⟩
  · obtain ⟨T47, h47, k47, X47, e47, E47, A47, st47⟩ := newP X0 hx hZ (hw _ (List.mem_of_getElem? (i := 1) rfl)) e0 (g := (mkF m 169 #[vI p1, vI p2, vI p3, vI p4, vI p5, vI 4, vI y0_, vI y1_, vI y2_, vI y3_, .unset, vJ 0, .second, .unset, .unset] [iI 4])) rfl (hb hby at_169) rfl (by decide) (cap := 4) (by decide) (by decide) (by decide) (by decide)
    obtain ⟨b47, g47⟩ : ∃ z, z = h0.size := ⟨_, rfl⟩
    rw [← g47] at A47 st47
    have sz_b47 : h0.size ≤ b47 := Nat.le_trans K0.1 (Nat.le_of_eq g47.symm)
    have g_b47 : n0 ≤ b47 := Nat.le_trans Z0 sz_b47
    have K47 : Keep h0 h47 [] := K0.ext E47
    have V47 : Arv Z h47 b47 k47 .int (4 : Int32) [(.int (0 : Int32)), (.int (0 : Int32)), (.int (0 : Int32)), (.int (0 : Int32))] (.int (0 : Int32)) := (Arv.new A47 (by decide)).pad (pad_rep [] (.int (0 : Int32)) 4)
    obtain ⟨cl48, Ar48, q48, S48, M48, H48, G48⟩ := id V47
    have hin49 : ¬ ((0 : Int32) < 0 ∨ cl48.slots.size ≤ ((0 : Int32)).toNatClampNeg) := inb_of S48 ⟨by decide, by decide⟩
    obtain ⟨T50, h50, X50, e50, W50, st50⟩ := stI X47 hx hZ e47 Ar48 (j := (0 : Int32)) hin49 (g := (mkF m 175 #[vI p1, vI p2, vI p3, vI p4, vI p5, vI 4, vI y0_, vI y1_, vI y2_, vI y3_, .unset, vJ 0, .second, .unset, .unset] [iI y0_, iI 0, iR b47, iR b47])) rfl rfl (hb hby at_175)
    have V50 : Arv Z h50 b47 k47 .int (4 : Int32) [(.int y0_), (.int (0 : Int32)), (.int (0 : Int32)), (.int (0 : Int32))] (.int (0 : Int32)) := Arv.set Ar48 q48 S48 M48 H48 G48 rfl W50 0 rfl (Nat.le_of_ble_eq_true rfl)
    have K50 : Keep h0 h50 [] := K47.wr W50 (Or.inr sz_b47)
    have N50 := Fr.snoc X50 N0 g_b47
    obtain ⟨cl51, Ar51, q51, S51, M51, H51, G51⟩ := id V50
    have hin52 : ¬ ((1 : Int32) < 0 ∨ cl51.slots.size ≤ ((1 : Int32)).toNatClampNeg) := inb_of S51 ⟨by decide, by decide⟩
    obtain ⟨T53, h53, X53, e53, W53, st53⟩ := stI X50 hx hZ e50 Ar51 (j := (1 : Int32)) hin52 (g := (mkF m 180 #[vI p1, vI p2, vI p3, vI p4, vI p5, vI 4, vI y0_, vI y1_, vI y2_, vI y3_, .unset, vJ 0, .second, .unset, .unset] [iI y1_, iI 1, iR b47, iR b47])) rfl rfl (hb hby at_180)
    have V53 : Arv Z h53 b47 k47 .int (4 : Int32) [(.int y0_), (.int y1_), (.int (0 : Int32)), (.int (0 : Int32))] (.int (0 : Int32)) := Arv.set Ar51 q51 S51 M51 H51 G51 rfl W53 1 rfl (Nat.le_of_ble_eq_true rfl)
    have K53 : Keep h0 h53 [] := K50.wr W53 (Or.inr sz_b47)
    have N53 := Fr.snoc X53 N50 g_b47
    obtain ⟨cl54, Ar54, q54, S54, M54, H54, G54⟩ := id V53
    have hin55 : ¬ ((2 : Int32) < 0 ∨ cl54.slots.size ≤ ((2 : Int32)).toNatClampNeg) := inb_of S54 ⟨by decide, by decide⟩
    obtain ⟨T56, h56, X56, e56, W56, st56⟩ := stI X53 hx hZ e53 Ar54 (j := (2 : Int32)) hin55 (g := (mkF m 185 #[vI p1, vI p2, vI p3, vI p4, vI p5, vI 4, vI y0_, vI y1_, vI y2_, vI y3_, .unset, vJ 0, .second, .unset, .unset] [iI y2_, iI 2, iR b47, iR b47])) rfl rfl (hb hby at_185)
    have V56 : Arv Z h56 b47 k47 .int (4 : Int32) [(.int y0_), (.int y1_), (.int y2_), (.int (0 : Int32))] (.int (0 : Int32)) := Arv.set Ar54 q54 S54 M54 H54 G54 rfl W56 2 rfl (Nat.le_of_ble_eq_true rfl)
    have K56 : Keep h0 h56 [] := K53.wr W56 (Or.inr sz_b47)
    have N56 := Fr.snoc X56 N53 g_b47
    obtain ⟨cl57, Ar57, q57, S57, M57, H57, G57⟩ := id V56
    have hin58 : ¬ ((3 : Int32) < 0 ∨ cl57.slots.size ≤ ((3 : Int32)).toNatClampNeg) := inb_of S57 ⟨by decide, by decide⟩
    obtain ⟨T59, h59, X59, e59, W59, st59⟩ := stI X56 hx hZ e56 Ar57 (j := (3 : Int32)) hin58 (g := (mkF m 190 #[vI p1, vI p2, vI p3, vI p4, vI p5, vI 4, vI y0_, vI y1_, vI y2_, vI y3_, .unset, vJ 0, .second, .unset, .unset] [iI y3_, iI 3, iR b47, iR b47])) rfl rfl (hb hby at_190)
    have V59 : Arv Z h59 b47 k47 .int (4 : Int32) [(.int y0_), (.int y1_), (.int y2_), (.int y3_)] (.int (0 : Int32)) := Arv.set Ar57 q57 S57 M57 H57 G57 rfl W59 3 rfl (Nat.le_of_ble_eq_true rfl)
    have K59 : Keep h0 h59 [] := K56.wr W59 (Or.inr sz_b47)
    have N59 := Fr.snoc X59 N56 g_b47
    obtain ⟨_, _, ⟨T60, L60, k60, n60⟩, -, X60, ⟨Lc60, hQ60, l60, y60, z60⟩, st60⟩ := Jvm.LawKit.callS X59 hx (y := (⟨"com/example/cloud_to_core/cloudtocore/model/SupportedFeaturesOfPinLaw", "bit", "(I)J"⟩ : MethodName)) hown (mvT hZ (hw _ (List.mem_of_getElem? (i := 151) rfl))) (mvT hZ (hw _ (List.mem_of_getElem? (i := 152) rfl))) (mvT hZ (hw _ (List.mem_of_getElem? (i := 106) rfl))) (mvT hZ (hw _ (List.mem_of_getElem? (i := 153) rfl))) (by decide) (backOf (W := 0) (rm27 l Z a0 hw [] y0_ h59 ) hZ (hw _ (List.mem_of_getElem? (i := 153) rfl)) (hw _ (List.mem_of_getElem? (i := 106) rfl)) (by decide) (by decide)) (g := (mkF m 195 #[vI p1, vI p2, vI p3, vI p4, vI p5, vI 4, vI y0_, vI y1_, vI y2_, vI y3_, vR b47, vJ 0, .second, .unset, .unset] [iI y0_])) rfl (by rw [hml]; rfl) (argsL := [(.int y0_)]) (rest := []) (lenOf pd_21 rfl) rfl (by show 2 * 0 + _ ≤ _; exact Nat.le_of_eq rfl) (hb hby at_195) (fun _ _ => ⟨rfl, e59, (by decide : 1 + 0 ≤ _), (by decide : 4 + 0 ≤ _)⟩)
    dsimp only [Pt.U, Pt.locs, Pt.cells, Pt.slots] at X60 l60 y60 z60 st60 hQ60
    subst l60 y60 z60
    obtain ⟨rfl, rfl, e60⟩ := hQ60
    try rw [List.append_nil] at X60
    obtain ⟨_, _, ⟨T61, L61, k61, n61⟩, -, X61, ⟨Lc61, hQ61, l61, y61, z61⟩, st61⟩ := Jvm.LawKit.callS X60 hx (y := (⟨"com/example/cloud_to_core/cloudtocore/model/SupportedFeaturesOfPinLaw", "bit", "(I)J"⟩ : MethodName)) hown (mvT hZ (hw _ (List.mem_of_getElem? (i := 151) rfl))) (mvT hZ (hw _ (List.mem_of_getElem? (i := 152) rfl))) (mvT hZ (hw _ (List.mem_of_getElem? (i := 106) rfl))) (mvT hZ (hw _ (List.mem_of_getElem? (i := 153) rfl))) (by decide) (backOf (W := 2) (rm27 l Z a0 hw [] y1_ h59 ) hZ (hw _ (List.mem_of_getElem? (i := 153) rfl)) (hw _ (List.mem_of_getElem? (i := 106) rfl)) (by decide) (by decide)) (g := (mkF m 200 #[vI p1, vI p2, vI p3, vI p4, vI p5, vI 4, vI y0_, vI y1_, vI y2_, vI y3_, vR b47, vJ 0, .second, .unset, .unset] [iI y1_, iJ (own_bit y0_)])) rfl (by rw [hml]; rfl) (argsL := [(.int y1_)]) (rest := [(.long (own_bit y0_))]) (lenOf pd_21 rfl) rfl (by show 2 * 0 + _ ≤ _; exact Nat.le_of_eq rfl) (hb hby at_200) (fun _ _ => ⟨rfl, e60, (by decide : 1 + 0 ≤ _), (by decide : 4 + 0 ≤ _)⟩)
    dsimp only [Pt.U, Pt.locs, Pt.cells, Pt.slots] at X61 l61 y61 z61 st61 hQ61
    subst l61 y61 z61
    obtain ⟨rfl, rfl, e61⟩ := hQ61
    try rw [List.append_nil] at X61
    obtain ⟨_, _, ⟨T62, L62, k62, n62⟩, -, X62, ⟨Lc62, hQ62, l62, y62, z62⟩, st62⟩ := Jvm.LawKit.callS X61 hx (y := (⟨"com/example/cloud_to_core/cloudtocore/model/SupportedFeaturesOfPinLaw", "bit", "(I)J"⟩ : MethodName)) hown (mvT hZ (hw _ (List.mem_of_getElem? (i := 151) rfl))) (mvT hZ (hw _ (List.mem_of_getElem? (i := 152) rfl))) (mvT hZ (hw _ (List.mem_of_getElem? (i := 106) rfl))) (mvT hZ (hw _ (List.mem_of_getElem? (i := 153) rfl))) (by decide) (backOf (W := 2) (rm27 l Z a0 hw [] y2_ h59 ) hZ (hw _ (List.mem_of_getElem? (i := 153) rfl)) (hw _ (List.mem_of_getElem? (i := 106) rfl)) (by decide) (by decide)) (g := (mkF m 206 #[vI p1, vI p2, vI p3, vI p4, vI p5, vI 4, vI y0_, vI y1_, vI y2_, vI y3_, vR b47, vJ 0, .second, .unset, .unset] [iI y2_, iJ ((own_bit y0_) ||| (own_bit y1_))])) rfl (by rw [hml]; rfl) (argsL := [(.int y2_)]) (rest := [(.long ((own_bit y0_) ||| (own_bit y1_)))]) (lenOf pd_21 rfl) rfl (by show 2 * 0 + _ ≤ _; exact Nat.le_of_eq rfl) (hb hby at_206) (fun _ _ => ⟨rfl, e61, (by decide : 1 + 0 ≤ _), (by decide : 4 + 0 ≤ _)⟩)
    dsimp only [Pt.U, Pt.locs, Pt.cells, Pt.slots] at X62 l62 y62 z62 st62 hQ62
    subst l62 y62 z62
    obtain ⟨rfl, rfl, e62⟩ := hQ62
    try rw [List.append_nil] at X62
    obtain ⟨_, _, ⟨T63, L63, k63, n63⟩, -, X63, ⟨Lc63, hQ63, l63, y63, z63⟩, st63⟩ := Jvm.LawKit.callS X62 hx (y := (⟨"com/example/cloud_to_core/cloudtocore/model/SupportedFeaturesOfPinLaw", "bit", "(I)J"⟩ : MethodName)) hown (mvT hZ (hw _ (List.mem_of_getElem? (i := 151) rfl))) (mvT hZ (hw _ (List.mem_of_getElem? (i := 152) rfl))) (mvT hZ (hw _ (List.mem_of_getElem? (i := 106) rfl))) (mvT hZ (hw _ (List.mem_of_getElem? (i := 153) rfl))) (by decide) (backOf (W := 2) (rm27 l Z a0 hw [] y3_ h59 ) hZ (hw _ (List.mem_of_getElem? (i := 153) rfl)) (hw _ (List.mem_of_getElem? (i := 106) rfl)) (by decide) (by decide)) (g := (mkF m 212 #[vI p1, vI p2, vI p3, vI p4, vI p5, vI 4, vI y0_, vI y1_, vI y2_, vI y3_, vR b47, vJ 0, .second, .unset, .unset] [iI y3_, iJ (((own_bit y0_) ||| (own_bit y1_)) ||| (own_bit y2_))])) rfl (by rw [hml]; rfl) (argsL := [(.int y3_)]) (rest := [(.long (((own_bit y0_) ||| (own_bit y1_)) ||| (own_bit y2_)))]) (lenOf pd_21 rfl) rfl (by show 2 * 0 + _ ≤ _; exact Nat.le_of_eq rfl) (hb hby at_212) (fun _ _ => ⟨rfl, e62, (by decide : 1 + 0 ≤ _), (by decide : 4 + 0 ≤ _)⟩)
    dsimp only [Pt.U, Pt.locs, Pt.cells, Pt.slots] at X63 l63 y63 z63 st63 hQ63
    subst l63 y63 z63
    obtain ⟨rfl, rfl, e63⟩ := hQ63
    try rw [List.append_nil] at X63
    have Oh65 := O0.keep K59 all0
    obtain ⟨_, _, ⟨T64, L64, k64, n64⟩, -, X64, ⟨Lc64, hQ64, l64, y64, z64⟩, st64⟩ := Jvm.LawKit.callS X63 hx (y := (⟨"com/example/cloud_to_core/cloudtocore/model/SupportedFeatures", "of", "([I)Ljava/lang/String;"⟩ : MethodName)) hown (mvT hZ (hw _ (List.mem_of_getElem? (i := 2) rfl))) (mvT hZ (hw _ (List.mem_of_getElem? (i := 3) rfl))) (mvT hZ (hw _ (List.mem_of_getElem? (i := 4) rfl))) (mvT hZ (hw _ (List.mem_of_getElem? (i := 5) rfl))) (by decide) (backOf (W := 0) (rm1_4 l Z a0 hw [] b47 k47 y0_ y1_ y2_ y3_ cs h59 n0 (Nat.le_trans Z0 K59.1) Oh65 V59 hf0 hf1 hf2 hf3 S_CS h_cs) hZ (hw _ (List.mem_of_getElem? (i := 5) rfl)) (hw _ (List.mem_of_getElem? (i := 4) rfl)) (by decide) (by decide)) (g := (mkF m 220 #[vI p1, vI p2, vI p3, vI p4, vI p5, vI 4, vI y0_, vI y1_, vI y2_, vI y3_, vR b47, vJ ((((own_bit y0_) ||| (own_bit y1_)) ||| (own_bit y2_)) ||| (own_bit y3_)), .second, .unset, .unset] [iR b47])) rfl (by rw [hml]; rfl) (argsL := [(.ref b47)]) (rest := []) (lenOf pd_20 rfl) rfl (by show 2 * 0 + _ ≤ _; exact Nat.le_of_eq rfl) (hb hby at_220) (fun _ _ => ⟨rfl, e63, (by decide : 1 + 5 ≤ _), (by decide : 4 + 32 ≤ _)⟩)
    dsimp only [Pt.U, Pt.locs, Pt.cells, Pt.slots] at X64 l64 y64 z64 st64 hQ64
    subst l64 y64 z64
    obtain ⟨o64, d64, kd64, rfl, N64q, K64q, E64q, C64q, F64q, V64q⟩ := hQ64
    have N64 := Fr.app N59 N64q
    have K64 : Keep h0 T64.heap [] := Keep.trans K59 K64q all0
    have pre66 : ∀ t, Steps p.tables e below (T64.setTop (mkF m 223 #[vI p1, vI p2, vI p3, vI p4, vI p5, vI 4, vI y0_, vI y1_, vI y2_, vI y3_, vR b47, vJ ((((own_bit y0_) ||| (own_bit y1_)) ||| (own_bit y2_)) ||| (own_bit y3_)), .second, .unset, .unset] [iR o64])) t → Steps p.tables e below (s₁.setTop (entryFrame m #[(.int p1), (.int p2), (.int p3), (.int p4), (.int p5)] maxLocals)) t := by
      intro t kt
      refine pre6 t ?_
      show Steps _ _ _ (s₁.setTop (mkF m 44 #[vI p1, vI p2, vI p3, vI p4, vI p5, vI 4, vI y0_, vI y1_, vI y2_, vI y3_, .unset, vJ 0, .second, .unset, .unset] [])) _
      refine XS.iload X0.here hx rfl (hb hby at_44) rfl ?_
      show Steps _ _ _ (s₁.setTop (mkF m 46 #[vI p1, vI p2, vI p3, vI p4, vI p5, vI 4, vI y0_, vI y1_, vI y2_, vI y3_, .unset, vJ 0, .second, .unset, .unset] [iI 4])) _
      refine XS.ifYes X0.here hx rfl (pc0 := 46) (pc' := 57) rfl (hb hby at_46) rfl ((if0 _ _).trans (feq (by decide : ¬ ((4 : Int32) = (0 : Int32)))).2) (by decide) (by decide) ?_
      show Steps _ _ _ (s₁.setTop (mkF m 57 #[vI p1, vI p2, vI p3, vI p4, vI p5, vI 4, vI y0_, vI y1_, vI y2_, vI y3_, .unset, vJ 0, .second, .unset, .unset] [])) _
      refine XS.iload X0.here hx rfl (hb hby at_57) rfl ?_
      show Steps _ _ _ (s₁.setTop (mkF m 59 #[vI p1, vI p2, vI p3, vI p4, vI p5, vI 4, vI y0_, vI y1_, vI y2_, vI y3_, .unset, vJ 0, .second, .unset, .unset] [iI 4])) _
      refine XS.iconst X0.here hx rfl (hb hby at_59) ?_
      show Steps _ _ _ (s₁.setTop (mkF m 60 #[vI p1, vI p2, vI p3, vI p4, vI p5, vI 4, vI y0_, vI y1_, vI y2_, vI y3_, .unset, vJ 0, .second, .unset, .unset] [iI 1, iI 4])) _
      refine XS.icmpYes X0.here hx rfl (pc0 := 60) (pc' := 83) rfl (hb hby at_60) rfl (feq (by decide : ¬ ((4 : Int32) = (1 : Int32)))).2 (by decide) (by decide) ?_
      show Steps _ _ _ (s₁.setTop (mkF m 83 #[vI p1, vI p2, vI p3, vI p4, vI p5, vI 4, vI y0_, vI y1_, vI y2_, vI y3_, .unset, vJ 0, .second, .unset, .unset] [])) _
      refine XS.iload X0.here hx rfl (hb hby at_83) rfl ?_
      show Steps _ _ _ (s₁.setTop (mkF m 85 #[vI p1, vI p2, vI p3, vI p4, vI p5, vI 4, vI y0_, vI y1_, vI y2_, vI y3_, .unset, vJ 0, .second, .unset, .unset] [iI 4])) _
      refine XS.iconst X0.here hx rfl (hb hby at_85) ?_
      show Steps _ _ _ (s₁.setTop (mkF m 86 #[vI p1, vI p2, vI p3, vI p4, vI p5, vI 4, vI y0_, vI y1_, vI y2_, vI y3_, .unset, vJ 0, .second, .unset, .unset] [iI 2, iI 4])) _
      refine XS.icmpYes X0.here hx rfl (pc0 := 86) (pc' := 120) rfl (hb hby at_86) rfl (feq (by decide : ¬ ((4 : Int32) = (2 : Int32)))).2 (by decide) (by decide) ?_
      show Steps _ _ _ (s₁.setTop (mkF m 120 #[vI p1, vI p2, vI p3, vI p4, vI p5, vI 4, vI y0_, vI y1_, vI y2_, vI y3_, .unset, vJ 0, .second, .unset, .unset] [])) _
      refine XS.iload X0.here hx rfl (hb hby at_120) rfl ?_
      show Steps _ _ _ (s₁.setTop (mkF m 122 #[vI p1, vI p2, vI p3, vI p4, vI p5, vI 4, vI y0_, vI y1_, vI y2_, vI y3_, .unset, vJ 0, .second, .unset, .unset] [iI 4])) _
      refine XS.iconst X0.here hx rfl (hb hby at_122) ?_
      show Steps _ _ _ (s₁.setTop (mkF m 123 #[vI p1, vI p2, vI p3, vI p4, vI p5, vI 4, vI y0_, vI y1_, vI y2_, vI y3_, .unset, vJ 0, .second, .unset, .unset] [iI 3, iI 4])) _
      refine XS.icmpYes X0.here hx rfl (pc0 := 123) (pc' := 168) rfl (hb hby at_123) rfl (feq (by decide : ¬ ((4 : Int32) = (3 : Int32)))).2 (by decide) (by decide) ?_
      show Steps _ _ _ (s₁.setTop (mkF m 168 #[vI p1, vI p2, vI p3, vI p4, vI p5, vI 4, vI y0_, vI y1_, vI y2_, vI y3_, .unset, vJ 0, .second, .unset, .unset] [])) _
      refine XS.iconst X0.here hx rfl (hb hby at_168) ?_
      show Steps _ _ _ (s₁.setTop (mkF m 169 #[vI p1, vI p2, vI p3, vI p4, vI p5, vI 4, vI y0_, vI y1_, vI y2_, vI y3_, .unset, vJ 0, .second, .unset, .unset] [iI 4])) _
      refine st47 _ ?_
      show Steps _ _ _ (T47.setTop (mkF m 171 #[vI p1, vI p2, vI p3, vI p4, vI p5, vI 4, vI y0_, vI y1_, vI y2_, vI y3_, .unset, vJ 0, .second, .unset, .unset] [iR b47])) _
      refine XS.dup X47.here hx rfl (hb hby at_171) rfl rfl ?_
      show Steps _ _ _ (T47.setTop (mkF m 172 #[vI p1, vI p2, vI p3, vI p4, vI p5, vI 4, vI y0_, vI y1_, vI y2_, vI y3_, .unset, vJ 0, .second, .unset, .unset] [iR b47, iR b47])) _
      refine XS.iconst X47.here hx rfl (hb hby at_172) ?_
      show Steps _ _ _ (T47.setTop (mkF m 173 #[vI p1, vI p2, vI p3, vI p4, vI p5, vI 4, vI y0_, vI y1_, vI y2_, vI y3_, .unset, vJ 0, .second, .unset, .unset] [iI 0, iR b47, iR b47])) _
      refine XS.iload X47.here hx rfl (hb hby at_173) rfl ?_
      show Steps _ _ _ (T47.setTop (mkF m 175 #[vI p1, vI p2, vI p3, vI p4, vI p5, vI 4, vI y0_, vI y1_, vI y2_, vI y3_, .unset, vJ 0, .second, .unset, .unset] [iI y0_, iI 0, iR b47, iR b47])) _
      refine st50 _ ?_
      show Steps _ _ _ (T50.setTop (mkF m 176 #[vI p1, vI p2, vI p3, vI p4, vI p5, vI 4, vI y0_, vI y1_, vI y2_, vI y3_, .unset, vJ 0, .second, .unset, .unset] [iR b47])) _
      refine XS.dup X50.here hx rfl (hb hby at_176) rfl rfl ?_
      show Steps _ _ _ (T50.setTop (mkF m 177 #[vI p1, vI p2, vI p3, vI p4, vI p5, vI 4, vI y0_, vI y1_, vI y2_, vI y3_, .unset, vJ 0, .second, .unset, .unset] [iR b47, iR b47])) _
      refine XS.iconst X50.here hx rfl (hb hby at_177) ?_
      show Steps _ _ _ (T50.setTop (mkF m 178 #[vI p1, vI p2, vI p3, vI p4, vI p5, vI 4, vI y0_, vI y1_, vI y2_, vI y3_, .unset, vJ 0, .second, .unset, .unset] [iI 1, iR b47, iR b47])) _
      refine XS.iload X50.here hx rfl (hb hby at_178) rfl ?_
      show Steps _ _ _ (T50.setTop (mkF m 180 #[vI p1, vI p2, vI p3, vI p4, vI p5, vI 4, vI y0_, vI y1_, vI y2_, vI y3_, .unset, vJ 0, .second, .unset, .unset] [iI y1_, iI 1, iR b47, iR b47])) _
      refine st53 _ ?_
      show Steps _ _ _ (T53.setTop (mkF m 181 #[vI p1, vI p2, vI p3, vI p4, vI p5, vI 4, vI y0_, vI y1_, vI y2_, vI y3_, .unset, vJ 0, .second, .unset, .unset] [iR b47])) _
      refine XS.dup X53.here hx rfl (hb hby at_181) rfl rfl ?_
      show Steps _ _ _ (T53.setTop (mkF m 182 #[vI p1, vI p2, vI p3, vI p4, vI p5, vI 4, vI y0_, vI y1_, vI y2_, vI y3_, .unset, vJ 0, .second, .unset, .unset] [iR b47, iR b47])) _
      refine XS.iconst X53.here hx rfl (hb hby at_182) ?_
      show Steps _ _ _ (T53.setTop (mkF m 183 #[vI p1, vI p2, vI p3, vI p4, vI p5, vI 4, vI y0_, vI y1_, vI y2_, vI y3_, .unset, vJ 0, .second, .unset, .unset] [iI 2, iR b47, iR b47])) _
      refine XS.iload X53.here hx rfl (hb hby at_183) rfl ?_
      show Steps _ _ _ (T53.setTop (mkF m 185 #[vI p1, vI p2, vI p3, vI p4, vI p5, vI 4, vI y0_, vI y1_, vI y2_, vI y3_, .unset, vJ 0, .second, .unset, .unset] [iI y2_, iI 2, iR b47, iR b47])) _
      refine st56 _ ?_
      show Steps _ _ _ (T56.setTop (mkF m 186 #[vI p1, vI p2, vI p3, vI p4, vI p5, vI 4, vI y0_, vI y1_, vI y2_, vI y3_, .unset, vJ 0, .second, .unset, .unset] [iR b47])) _
      refine XS.dup X56.here hx rfl (hb hby at_186) rfl rfl ?_
      show Steps _ _ _ (T56.setTop (mkF m 187 #[vI p1, vI p2, vI p3, vI p4, vI p5, vI 4, vI y0_, vI y1_, vI y2_, vI y3_, .unset, vJ 0, .second, .unset, .unset] [iR b47, iR b47])) _
      refine XS.iconst X56.here hx rfl (hb hby at_187) ?_
      show Steps _ _ _ (T56.setTop (mkF m 188 #[vI p1, vI p2, vI p3, vI p4, vI p5, vI 4, vI y0_, vI y1_, vI y2_, vI y3_, .unset, vJ 0, .second, .unset, .unset] [iI 3, iR b47, iR b47])) _
      refine XS.iload X56.here hx rfl (hb hby at_188) rfl ?_
      show Steps _ _ _ (T56.setTop (mkF m 190 #[vI p1, vI p2, vI p3, vI p4, vI p5, vI 4, vI y0_, vI y1_, vI y2_, vI y3_, .unset, vJ 0, .second, .unset, .unset] [iI y3_, iI 3, iR b47, iR b47])) _
      refine st59 _ ?_
      show Steps _ _ _ (T59.setTop (mkF m 191 #[vI p1, vI p2, vI p3, vI p4, vI p5, vI 4, vI y0_, vI y1_, vI y2_, vI y3_, .unset, vJ 0, .second, .unset, .unset] [iR b47])) _
      refine XS.astore X59.here hx rfl (hb hby at_191) rfl rfl (l' := #[vI p1, vI p2, vI p3, vI p4, vI p5, vI 4, vI y0_, vI y1_, vI y2_, vI y3_, vR b47, vJ 0, .second, .unset, .unset]) rfl ?_
      show Steps _ _ _ (T59.setTop (mkF m 193 #[vI p1, vI p2, vI p3, vI p4, vI p5, vI 4, vI y0_, vI y1_, vI y2_, vI y3_, vR b47, vJ 0, .second, .unset, .unset] [])) _
      refine XS.iload X59.here hx rfl (hb hby at_193) rfl ?_
      show Steps _ _ _ (T59.setTop (mkF m 195 #[vI p1, vI p2, vI p3, vI p4, vI p5, vI 4, vI y0_, vI y1_, vI y2_, vI y3_, vR b47, vJ 0, .second, .unset, .unset] [iI y0_])) _
      refine st60 _ ?_
      show Steps _ _ _ (T60.setTop (mkF m 198 #[vI p1, vI p2, vI p3, vI p4, vI p5, vI 4, vI y0_, vI y1_, vI y2_, vI y3_, vR b47, vJ 0, .second, .unset, .unset] [iJ (own_bit y0_)])) _
      refine XS.iload X60.here hx rfl (hb hby at_198) rfl ?_
      show Steps _ _ _ (T60.setTop (mkF m 200 #[vI p1, vI p2, vI p3, vI p4, vI p5, vI 4, vI y0_, vI y1_, vI y2_, vI y3_, vR b47, vJ 0, .second, .unset, .unset] [iI y1_, iJ (own_bit y0_)])) _
      refine st61 _ ?_
      show Steps _ _ _ (T61.setTop (mkF m 203 #[vI p1, vI p2, vI p3, vI p4, vI p5, vI 4, vI y0_, vI y1_, vI y2_, vI y3_, vR b47, vJ 0, .second, .unset, .unset] [iJ (own_bit y1_), iJ (own_bit y0_)])) _
      refine XS.lor X61.here hx rfl (hb hby at_203) rfl ?_
      show Steps _ _ _ (T61.setTop (mkF m 204 #[vI p1, vI p2, vI p3, vI p4, vI p5, vI 4, vI y0_, vI y1_, vI y2_, vI y3_, vR b47, vJ 0, .second, .unset, .unset] [iJ ((own_bit y0_) ||| (own_bit y1_))])) _
      refine XS.iload X61.here hx rfl (hb hby at_204) rfl ?_
      show Steps _ _ _ (T61.setTop (mkF m 206 #[vI p1, vI p2, vI p3, vI p4, vI p5, vI 4, vI y0_, vI y1_, vI y2_, vI y3_, vR b47, vJ 0, .second, .unset, .unset] [iI y2_, iJ ((own_bit y0_) ||| (own_bit y1_))])) _
      refine st62 _ ?_
      show Steps _ _ _ (T62.setTop (mkF m 209 #[vI p1, vI p2, vI p3, vI p4, vI p5, vI 4, vI y0_, vI y1_, vI y2_, vI y3_, vR b47, vJ 0, .second, .unset, .unset] [iJ (own_bit y2_), iJ ((own_bit y0_) ||| (own_bit y1_))])) _
      refine XS.lor X62.here hx rfl (hb hby at_209) rfl ?_
      show Steps _ _ _ (T62.setTop (mkF m 210 #[vI p1, vI p2, vI p3, vI p4, vI p5, vI 4, vI y0_, vI y1_, vI y2_, vI y3_, vR b47, vJ 0, .second, .unset, .unset] [iJ (((own_bit y0_) ||| (own_bit y1_)) ||| (own_bit y2_))])) _
      refine XS.iload X62.here hx rfl (hb hby at_210) rfl ?_
      show Steps _ _ _ (T62.setTop (mkF m 212 #[vI p1, vI p2, vI p3, vI p4, vI p5, vI 4, vI y0_, vI y1_, vI y2_, vI y3_, vR b47, vJ 0, .second, .unset, .unset] [iI y3_, iJ (((own_bit y0_) ||| (own_bit y1_)) ||| (own_bit y2_))])) _
      refine st63 _ ?_
      show Steps _ _ _ (T63.setTop (mkF m 215 #[vI p1, vI p2, vI p3, vI p4, vI p5, vI 4, vI y0_, vI y1_, vI y2_, vI y3_, vR b47, vJ 0, .second, .unset, .unset] [iJ (own_bit y3_), iJ (((own_bit y0_) ||| (own_bit y1_)) ||| (own_bit y2_))])) _
      refine XS.lor X63.here hx rfl (hb hby at_215) rfl ?_
      show Steps _ _ _ (T63.setTop (mkF m 216 #[vI p1, vI p2, vI p3, vI p4, vI p5, vI 4, vI y0_, vI y1_, vI y2_, vI y3_, vR b47, vJ 0, .second, .unset, .unset] [iJ ((((own_bit y0_) ||| (own_bit y1_)) ||| (own_bit y2_)) ||| (own_bit y3_))])) _
      refine XS.lstore X63.here hx rfl (hb hby at_216) rfl (l' := #[vI p1, vI p2, vI p3, vI p4, vI p5, vI 4, vI y0_, vI y1_, vI y2_, vI y3_, vR b47, vJ ((((own_bit y0_) ||| (own_bit y1_)) ||| (own_bit y2_)) ||| (own_bit y3_)), .second, .unset, .unset]) rfl ?_
      show Steps _ _ _ (T63.setTop (mkF m 218 #[vI p1, vI p2, vI p3, vI p4, vI p5, vI 4, vI y0_, vI y1_, vI y2_, vI y3_, vR b47, vJ ((((own_bit y0_) ||| (own_bit y1_)) ||| (own_bit y2_)) ||| (own_bit y3_)), .second, .unset, .unset] [])) _
      refine XS.aload X63.here hx rfl (hb hby at_218) rfl rfl ?_
      show Steps _ _ _ (T63.setTop (mkF m 220 #[vI p1, vI p2, vI p3, vI p4, vI p5, vI 4, vI y0_, vI y1_, vI y2_, vI y3_, vR b47, vJ ((((own_bit y0_) ||| (own_bit y1_)) ||| (own_bit y2_)) ||| (own_bit y3_)), .second, .unset, .unset] [iR b47])) _
      refine st64 _ ?_
      exact kt
    obtain ⟨s₂, o₂, hs₂, hr₂⟩ := own_end (nn := (4 : Int32)) (g1_ := y0_) (g2_ := y1_) (g3_ := y2_) (g4_ := y3_) (ar := b47) (mm := ((((own_bit y0_) ||| (own_bit y1_)) ||| (own_bit y2_)) ||| (own_bit y3_))) (X64.more (by decide) (by decide)) hx hZ hw hby hml hown Bd.returns (by first | assumption | exact BodyLoose.notSynchronized (by assumption) | exact Body.notSynchronized (by assumption)) (rfl : T64.heap = _) K64 N64 Z0 O0 E64q C64q F64q V64q (own_lens (own_lenOK4 hf0 hf1 hf2 hf3).1 (own_lenOK4 hf0 hf1 hf2 hf3).2.1).1 (own_lens (own_lenOK4 hf0 hf1 hf2 hf3).1 (own_lenOK4 hf0 hf1 hf2 hf3).2.1).2.1 (own_hx4 hf0 hf1 hf2 hf3).1 (own_dg4 hf0 hf1 hf2 hf3 (0 : Int32) (by decide)) (own_dg4 hf0 hf1 hf2 hf3 (1 : Int32) (by decide)) (own_dg4 hf0 hf1 hf2 hf3 (2 : Int32) (by decide)) (own_dg4 hf0 hf1 hf2 hf3 (3 : Int32) (by decide)) (own_dg4 hf0 hf1 hf2 hf3 (4 : Int32) (by decide)) (own_dg4 hf0 hf1 hf2 hf3 (5 : Int32) (by decide)) (own_dg4 hf0 hf1 hf2 hf3 (6 : Int32) (by decide)) (own_dg4 hf0 hf1 hf2 hf3 (7 : Int32) (by decide)) S_CS h_cs S_F h_fm
    exact ⟨s₂, o₂, pre66 _ hs₂, hr₂⟩
set_option maxRecDepth 65536 in
set_option maxHeartbeats 40000000 in
theorem comes_1 {Post : Tables → Env → Array Value → State → Outcome → State → Prop} (hpost : ∀ tb e args s v u, (limb_1_1.after args s (.returned v) u = true ∧ limb_1_2.after args s (.returned v) u = true ∧ True) → FrameEnd s (.returned v) u (Jvm.fieldLocs frame_1_writes args s ++ Jvm.arrayLocs frame_1_arrays args s ++ Jvm.staticLocs frame_1_statics s) 24 192 → Post tb e args s (.returned v) u) :
    ArmFor flags0 classFile x code maxLocals ret World_1 tables_1 room_1 Calls_1 rest_1 Pre_1 Post := by
  intro l hfl _ _ p e ha hc hk s m args below hf hA hF happ hP
  obtain ⟨hcalls, hrest, hpre⟩ := hP
  obtain ⟨-, -, -, hnamed, -, -, -, hat⟩ := (Spec.applies_iff hf).mp happ
  obtain ⟨hg, hn⟩ := and_e (Cond.before_iff.mp (show (Jvm.Cond.and given_1 narrow_1).before args s = true from hpre))
  obtain ⟨gc, gr0⟩ := and_e hg
  obtain ⟨ga0, gr1⟩ := and_e gr0
  obtain ⟨ga1, gr2⟩ := and_e gr1
  obtain ⟨ga2, gr3⟩ := and_e gr2
  obtain ⟨ga3, gr4⟩ := and_e gr3
  obtain ⟨w0, w1, w2, w3, w4, rfl⟩ : ∃ w0 w1 w2 w3 w4 : Value, args = #[w0, w1, w2, w3, w4] := by
    have hs : args.size = 5 := by simpa [Cond.value, given_1] using gc
    obtain ⟨L⟩ := args
    match L, hs with
    | [w0, w1, w2, w3, w4], _ => exact ⟨w0, w1, w2, w3, w4, rfl⟩
  have hw := fun d (hd : d ∈ tables_1) => atoms_spec (ws := Jvm.Cond.code x code maxLocals ret :: tables_1) hat d (List.mem_cons_of_mem _ hd)
  have hfit : Fit s := fun {y c} hc i hi => by
    obtain ⟨ha, rfl⟩ := Array.getElem?_eq_some_iff.mp hc
    have q := List.all_eq_true.mp ((Array.all_eq_true_iff_forall_mem.mp hF) _ (Array.getElem_mem ha)) i (List.mem_range.mpr hi)
    simpa [Array.getElem?_eq_getElem hi] using q
  obtain ⟨hsets, hown0⟩ := atoms_of _ (rest_1_c_eq ▸ (show rest_1_c.before _ s = true from hrest))
  have hr0 := Cond.before_iff.mp hown0
  obtain ⟨i0, ei0⟩ := is_v ga0
  obtain rfl : w0 = (.int i0) := Option.some.inj ei0
  obtain ⟨i1, ei1⟩ := is_v ga1
  obtain rfl : w1 = (.int i1) := Option.some.inj ei1
  obtain ⟨i2, ei2⟩ := is_v ga2
  obtain rfl : w2 = (.int i2) := Option.some.inj ei2
  obtain ⟨i3, ei3⟩ := is_v ga3
  obtain rfl : w3 = (.int i3) := Option.some.inj ei3
  obtain ⟨i4, ei4⟩ := is_v gr4
  obtain rfl : w4 = (.int i4) := Option.some.inj ei4
  obtain ⟨cs, evCS⟩ := is_v (Cond.before_iff.mp (hsets _ (List.mem_of_getElem? (i := 1) rfl)))
  have S_CS : Sta s s.heap "java/lang/String" "COMPACT_STRINGS" "Z" (.int cs) := Sta.start evCS (Or.inl (hsets _ (List.mem_of_getElem? (i := 0) rfl)))
  have h_cs : ¬ cs = (0 : Int32) := fun q => by
    have q1 := not_v (Cond.before_iff.mp (hsets _ (List.mem_of_getElem? (i := 2) rfl)))
    rw [Cond.eq_ints evCS (Term.int_eval 0), q] at q1; exact absurd q1 (by simp)
  obtain ⟨fm, evF, h_fm⟩ := isR_v (Cond.before_iff.mp (hsets _ (List.mem_of_getElem? (i := 8) rfl)))
  have S_F : Sta s s.heap "jdk/internal/util/Preconditions" "SIOOBE_FORMATTER" "Ljava/util/function/BiFunction;" fm := Sta.start evF (Or.inl (hsets _ (List.mem_of_getElem? (i := 7) rfl)))
  obtain ⟨n, o, h1, h2, h3, _, L, rfl, Qv, hq⟩ := rm0 l s _ hw tables_1 i0 i1 i2 i3 i4 cs fm s.heap s.heap.size (Nat.le_refl _) (Old.start s) S_CS h_cs S_F h_fm p e ha hc hk s m _ below hf ((Spec.applies_iff_loose hf).mp happ).1 ⟨rfl, State.Warmed39.refl s, rfl⟩ trivial
  obtain ⟨rfl, N⟩ := Qv
  refine ⟨n, _, h1, h2, h3, hpost _ _ _ _ _ _ ⟨Cond.after_iff.mpr rfl, Cond.after_iff.mpr (eq_i res_at (Term.int_eval (1)) rfl), trivial⟩ ⟨hq.1, hq.2.1, (hq.2.2.sift fun y hy => Or.inr (N y hy)).mono (by decide) (by decide)⟩⟩
theorem main_1_1 : Claimed_1_1 := comes_1 fun _ _ _ _ _ _ h hF => ⟨h.1, hF⟩
theorem main_1_2 : Claimed_1_2 := comes_1 fun _ _ _ _ _ _ h hF => ⟨h.2.1, hF⟩
end Jvm.Pilot.@@N@@
namespace Jvm.Pilot.@@N@@
open Jvm Jvm.ClassFile Sem Op Lib Jvm.Free Jvm.Stand Jvm.Pilot.@@N@@.Jvm.D
/-! MADE BY PROGRAM (witnessworld.py) out of the Statement's table words and the real class files: 23 classes; the members and pool entries that the words name. The judged class is class 1, her method 1. -/
namespace start1
open Jvm.ClassFile
def u (s : String) : CpInfo := .utf8 (stringToUtf16 s)
/-- a pool by its gaps: so many unusable entries, then the entry; so many at the end -/
def gap : Nat → List CpInfo → List CpInfo
  | 0, r => r
  | n + 1, r => .unusable :: gap n r
def poolList (es : List (Nat × CpInfo)) (last : Nat) : List CpInfo := es.foldr (fun e r => gap e.1 (e.2 :: r)) (gap last [])
def pool (es : List (Nat × CpInfo)) (last : Nat) : Array CpInfo := ⟨poolList es last⟩
def fileOf (pool : Array CpInfo) (this : Nat) (attrs : Array Attribute := #[]) (ms : Array MethodInfo := #[]) (fl : Nat := 33) (sup : Nat := 0) (ifs : Array Nat := #[]) (fds : Array FieldInfo := #[]) : ClassFile where
  minorVersion := 0
  majorVersion := 65
  constantPool := pool
  accessFlags := fl
  thisClass := this
  superClass := sup
  interfaces := ifs
  fields := fds
  methods := ms
  attributes := attrs
def plain (name : String) (sup : Option ClassId) : Class where
  name := name
  kind := .ordinary
  loader := none
  accessFlags := 33
  super := sup
  interfaces := #[]
  cf := none
  fields := #[]
  methods := #[]
  instanceTypes := #[]
  staticTypes := #[]
  resolved := #[]
  callSites := []
  init := .initialized
  statics := none
  mirror := none

def pool0 : Array CpInfo := pool [(5, u "<init>"), (0, u "()V"), (1, .class_ 10), (1, u "java/lang/Object"), (85, u "clone"), (0, u "()Ljava/lang/Object;")] 26

def k0c0 : Code := { maxStack := 0, maxLocals := 1, code := object_method_1_code, exceptionTable := #[], attributes := #[] }
def k0m0 : Method := { name := "<init>", desc := "()V", sig := { parameters := [], returnType := none }, accessFlags := 1, code := some k0c0 }
def k0m1 : Method := { name := "clone", desc := "()Ljava/lang/Object;", sig := { parameters := [], returnType := some (.object "java/lang/Object") }, accessFlags := 260, code := none }
/-- java/lang/Object -/
def k0 : Class := { plain "java/lang/Object" none with
  accessFlags := 33
  interfaces := #[]
  cf := some (fileOf pool0 8 #[] #[{ accessFlags := 1, nameIndex := 5, descriptorIndex := 6, attributes := #[] }, { accessFlags := 260, nameIndex := 96, descriptorIndex := 97, attributes := #[] }] 33 0 #[] #[])
  fields := #[]
  methods := #[k0m0, k0m1]
  instanceTypes := #[]
  staticTypes := #[]
  resolved := Array.replicate 124 none
  statics := none }

def pool1 : Array CpInfo := pool [(2, .class_ 4), (1, u "java/lang/Object"), (0, u "<init>"), (0, u "()V"), (0, .integer 2147483647), (0, .methodref 9 10), (0, .class_ 11), (0, .nameAndType 12 13), (0, u "com/example/cloud_to_core/cloudtocore/model/SupportedFeaturesOfPinLaw"), (0, u "bit"), (0, u "(I)J"), (0, .methodref 15 16), (0, .class_ 17), (0, .nameAndType 18 19), (0, u "com/example/cloud_to_core/cloudtocore/model/SupportedFeatures"), (0, u "of"), (0, u "([I)Ljava/lang/String;"), (0, .methodref 9 21), (0, .nameAndType 22 23), (0, u "hexLength"), (0, u "(J)I"), (0, .methodref 25 26), (0, .class_ 27), (0, .nameAndType 28 29), (0, u "java/lang/String"), (0, u "length"), (0, u "()I"), (0, .methodref 9 31), (0, .nameAndType 32 33), (0, u "digitOk"), (0, u "(Ljava/lang/String;IIJ)Z"), (0, .long 268435456), (1, .long 16777216), (1, .long 1048576), (1, .long 65536), (1, .long 4096), (1, .long 256), (1, .long 16), (1, .long 15), (1, .methodref 25 51), (0, .nameAndType 52 53), (0, u "charAt"), (0, u "(I)C"), (2, u "law"), (0, u "(IIIII)Z")] 5

def k1m0 : Method := { name := "<init>", desc := "()V", sig := { parameters := [], returnType := none }, accessFlags := 1, code := none }
def k1c1 : Code := { maxStack := 5, maxLocals := 15, code := code, exceptionTable := #[], attributes := #[] }
def k1m1 : Method := { name := "law", desc := "(IIIII)Z", sig := { parameters := [.int, .int, .int, .int, .int], returnType := some .boolean }, accessFlags := 9, code := some k1c1 }
def k1c2 : Code := { maxStack := 4, maxLocals := 1, code := method_3_code, exceptionTable := #[], attributes := #[] }
def k1m2 : Method := { name := "bit", desc := "(I)J", sig := { parameters := [.int], returnType := some .long }, accessFlags := 10, code := some k1c2 }
def k1c3 : Code := { maxStack := 4, maxLocals := 2, code := method_4_code, exceptionTable := #[], attributes := #[] }
def k1m3 : Method := { name := "hexLength", desc := "(J)I", sig := { parameters := [.long], returnType := some .int }, accessFlags := 10, code := some k1c3 }
def k1c4 : Code := { maxStack := 4, maxLocals := 7, code := method_5_code, exceptionTable := #[], attributes := #[] }
def k1m4 : Method := { name := "digitOk", desc := "(Ljava/lang/String;IIJ)Z", sig := { parameters := [(.object "java/lang/String"), .int, .int, .long], returnType := some .boolean }, accessFlags := 10, code := some k1c4 }
/-- com/example/cloud_to_core/cloudtocore/model/SupportedFeaturesOfPinLaw -/
def k1 : Class := { plain "com/example/cloud_to_core/cloudtocore/model/SupportedFeaturesOfPinLaw" (some 0) with
  accessFlags := 49
  interfaces := #[]
  cf := some (fileOf pool1 9 #[] #[{ accessFlags := 1, nameIndex := 5, descriptorIndex := 6, attributes := #[] }, { accessFlags := 9, nameIndex := 56, descriptorIndex := 57, attributes := #[] }, { accessFlags := 10, nameIndex := 12, descriptorIndex := 13, attributes := #[] }, { accessFlags := 10, nameIndex := 22, descriptorIndex := 23, attributes := #[] }, { accessFlags := 10, nameIndex := 32, descriptorIndex := 33, attributes := #[] }] 49 2 #[] #[])
  fields := #[]
  methods := #[k1m0, k1m1, k1m2, k1m3, k1m4]
  instanceTypes := #[]
  staticTypes := #[]
  resolved := Array.replicate 63 none
  statics := none }

def pool2 : Array CpInfo := pool [(2, .class_ 4), (1, u "java/lang/Object"), (0, u "<init>"), (0, u "()V"), (1, .class_ 10), (1, u "com/example/cloud_to_core/cloudtocore/model/SupportedFeatures"), (0, u "HEXADECIMAL"), (0, u "Ljava/util/regex/Pattern;"), (21, .methodref 35 36), (0, .class_ 37), (0, .nameAndType 38 39), (0, u "java/lang/Math"), (0, u "max"), (0, u "(II)I"), (0, .class_ 41), (0, u "java/lang/StringBuilder"), (0, .methodref 40 43), (0, .nameAndType 5 44), (0, u "(I)V"), (0, .methodref 46 47), (0, .class_ 48), (0, .nameAndType 49 50), (0, u "java/lang/Character"), (0, u "forDigit"), (0, u "(II)C"), (0, .methodref 40 52), (0, .nameAndType 53 54), (0, u "append"), (0, u "(C)Ljava/lang/StringBuilder;"), (0, .methodref 40 56), (0, .nameAndType 57 58), (0, u "toString"), (0, u "()Ljava/lang/String;"), (35, u "of"), (0, u "([I)Ljava/lang/String;")] 25

def k2m0 : Method := { name := "<init>", desc := "()V", sig := { parameters := [], returnType := none }, accessFlags := 2, code := none }
def k2c1 : Code := { maxStack := 6, maxLocals := 8, code := prog_29_method_3_code, exceptionTable := #[], attributes := #[] }
def k2m1 : Method := { name := "of", desc := "([I)Ljava/lang/String;", sig := { parameters := [(.array .int)], returnType := some (.object "java/lang/String") }, accessFlags := 137, code := some k2c1 }
/-- com/example/cloud_to_core/cloudtocore/model/SupportedFeatures -/
def k2 : Class := { plain "com/example/cloud_to_core/cloudtocore/model/SupportedFeatures" (some 0) with
  accessFlags := 49
  interfaces := #[]
  cf := some (fileOf pool2 8 #[] #[{ accessFlags := 2, nameIndex := 5, descriptorIndex := 6, attributes := #[] }, { accessFlags := 137, nameIndex := 94, descriptorIndex := 95, attributes := #[] }] 49 2 #[] #[{ accessFlags := 26, nameIndex := 11, descriptorIndex := 12, attributes := #[] }])
  fields := #[{ name := "HEXADECIMAL", type := (.object "java/util/regex/Pattern"), accessFlags := 26, slot := 0, constantValue := 0 }]
  methods := #[k2m0, k2m1]
  instanceTypes := #[]
  staticTypes := #[(.object "java/util/regex/Pattern")]
  resolved := Array.replicate 121 none
  statics := none }

def pool3 : Array CpInfo := pool [(1, .class_ 2), (0, u "java/lang/Appendable"), (0, .class_ 4), (0, u "java/lang/Object")] 9

/-- java/lang/Appendable -/
def k3 : Class := { plain "java/lang/Appendable" (some 0) with
  accessFlags := 1537
  interfaces := #[]
  cf := some (fileOf pool3 1 #[] #[] 1537 3 #[] #[])
  fields := #[]
  methods := #[]
  instanceTypes := #[]
  staticTypes := #[]
  resolved := Array.replicate 14 none
  statics := none }

def pool4 : Array CpInfo := pool [(2, .class_ 4), (1, u "java/lang/CharSequence"), (42, .class_ 48), (0, u "java/lang/CharSequence$1CodePointIterator"), (10, .class_ 60), (0, u "java/lang/CharSequence$1CharIterator"), (5, .class_ 67), (0, u "java/lang/Object")] 63

/-- java/lang/CharSequence -/
def k4 : Class := { plain "java/lang/CharSequence" (some 0) with
  accessFlags := 1537
  interfaces := #[]
  cf := some (fileOf pool4 2 #[.nestMembers #[47, 59]] #[] 1537 66 #[] #[])
  fields := #[]
  methods := #[]
  instanceTypes := #[]
  staticTypes := #[]
  resolved := Array.replicate 131 none
  statics := none }

def pool5 : Array CpInfo := pool [(1, .class_ 2), (0, u "java/lang/String"), (0, .methodref 4 5), (0, .class_ 6), (0, .nameAndType 7 8), (0, u "java/lang/Object"), (0, u "<init>"), (0, u "()V"), (1, .class_ 12), (1, u "java/lang/AbstractStringBuilder"), (0, u "EMPTYVALUE"), (0, u "[B"), (0, .fieldref 10 16), (0, .nameAndType 17 14), (0, u "value"), (0, .fieldref 1 19), (0, .nameAndType 20 21), (0, u "COMPACT_STRINGS"), (0, u "Z"), (0, .fieldref 10 23), (0, .nameAndType 24 25), (0, u "coder"), (0, u "B"), (8, u "length"), (0, u "()I"), (9, u "append"), (2, .class_ 49), (0, u "java/lang/CharSequence"), (25, u "maybeLatin1"), (3, .fieldref 10 80), (0, .nameAndType 81 82), (0, u "count"), (0, u "I"), (0, .methodref 10 84), (0, .nameAndType 85 86), (0, u "isLatin1"), (0, u "()Z"), (1, .class_ 90), (1, u "java/lang/StringLatin1"), (9, .methodref 10 101), (0, .nameAndType 102 103), (0, u "ensureCapacityInternal"), (0, u "(I)V"), (87, .methodref 88 192), (0, .nameAndType 193 194), (0, u "canEncode"), (0, u "(C)Z"), (97, u "(C)Ljava/lang/AbstractStringBuilder;"), (110, u "()[B"), (40, .class_ 445), (0, u "java/lang/Appendable"), (106, u "getValue")] 56

def k5m0 : Method := { name := "<init>", desc := "()V", sig := { parameters := [], returnType := none }, accessFlags := 0, code := none }
def k5c1 : Code := { maxStack := 2, maxLocals := 2, code := jdk_68_method_2_code, exceptionTable := #[], attributes := #[] }
def k5m1 : Method := { name := "<init>", desc := "(I)V", sig := { parameters := [.int], returnType := none }, accessFlags := 0, code := some k5c1 }
def k5c2 : Code := { maxStack := 1, maxLocals := 1, code := jdk_68_method_6_code, exceptionTable := #[], attributes := #[] }
def k5m2 : Method := { name := "length", desc := "()I", sig := { parameters := [], returnType := some .int }, accessFlags := 1, code := some k5c2 }
def k5c3 : Code := { maxStack := 4, maxLocals := 3, code := jdk_68_method_9_code, exceptionTable := #[], attributes := #[] }
def k5m3 : Method := { name := "ensureCapacityInternal", desc := "(I)V", sig := { parameters := [.int], returnType := none }, accessFlags := 2, code := some k5c3 }
def k5c4 : Code := { maxStack := 5, maxLocals := 2, code := jdk_68_method_31_code, exceptionTable := #[], attributes := #[] }
def k5m4 : Method := { name := "append", desc := "(C)Ljava/lang/AbstractStringBuilder;", sig := { parameters := [.char], returnType := some (.object "java/lang/AbstractStringBuilder") }, accessFlags := 1, code := some k5c4 }
def k5c5 : Code := { maxStack := 1, maxLocals := 1, code := jdk_68_method_64_code, exceptionTable := #[], attributes := #[] }
def k5m5 : Method := { name := "getValue", desc := "()[B", sig := { parameters := [], returnType := some (.array .byte) }, accessFlags := 16, code := some k5c5 }
def k5c6 : Code := { maxStack := 1, maxLocals := 1, code := jdk_68_method_68_code, exceptionTable := #[], attributes := #[] }
def k5m6 : Method := { name := "isLatin1", desc := "()Z", sig := { parameters := [], returnType := some .boolean }, accessFlags := 16, code := some k5c6 }
/-- java/lang/AbstractStringBuilder -/
def k5 : Class := { plain "java/lang/AbstractStringBuilder" (some 0) with
  accessFlags := 1056
  interfaces := #[3, 4]
  cf := some (fileOf pool5 10 #[] #[{ accessFlags := 0, nameIndex := 7, descriptorIndex := 8, attributes := #[] }, { accessFlags := 0, nameIndex := 7, descriptorIndex := 103, attributes := #[] }, { accessFlags := 1, nameIndex := 34, descriptorIndex := 35, attributes := #[] }, { accessFlags := 2, nameIndex := 102, descriptorIndex := 103, attributes := #[] }, { accessFlags := 1, nameIndex := 45, descriptorIndex := 292, attributes := #[] }, { accessFlags := 16, nameIndex := 552, descriptorIndex := 403, attributes := #[] }, { accessFlags := 16, nameIndex := 85, descriptorIndex := 86, attributes := #[] }] 1056 4 #[444, 48] #[{ accessFlags := 0, nameIndex := 17, descriptorIndex := 14, attributes := #[] }, { accessFlags := 0, nameIndex := 24, descriptorIndex := 25, attributes := #[] }, { accessFlags := 0, nameIndex := 75, descriptorIndex := 21, attributes := #[] }, { accessFlags := 0, nameIndex := 81, descriptorIndex := 82, attributes := #[] }, { accessFlags := 26, nameIndex := 13, descriptorIndex := 14, attributes := #[] }])
  fields := #[{ name := "value", type := (.array .byte), accessFlags := 0, slot := 0, constantValue := 0 }, { name := "coder", type := .byte, accessFlags := 0, slot := 1, constantValue := 0 }, { name := "maybeLatin1", type := .boolean, accessFlags := 0, slot := 2, constantValue := 0 }, { name := "count", type := .int, accessFlags := 0, slot := 3, constantValue := 0 }, { name := "EMPTYVALUE", type := (.array .byte), accessFlags := 26, slot := 0, constantValue := 0 }]
  methods := #[k5m0, k5m1, k5m2, k5m3, k5m4, k5m5, k5m6]
  instanceTypes := #[(.array .byte), .byte, .boolean, .int]
  staticTypes := #[(.array .byte)]
  resolved := Array.replicate 609 none
  statics := none }

def pool6 : Array CpInfo := pool [(1, .class_ 2), (0, u "java/io/Serializable"), (0, .class_ 4), (0, u "java/lang/Object")] 2

/-- java/io/Serializable -/
def k6 : Class := { plain "java/io/Serializable" (some 0) with
  accessFlags := 1537
  interfaces := #[]
  cf := some (fileOf pool6 1 #[] #[] 1537 3 #[] #[])
  fields := #[]
  methods := #[]
  instanceTypes := #[]
  staticTypes := #[]
  resolved := Array.replicate 7 none
  statics := none }

def pool7 : Array CpInfo := pool [(1, .class_ 2), (0, u "java/lang/Comparable"), (0, .class_ 4), (0, u "java/lang/Object")] 7

/-- java/lang/Comparable -/
def k7 : Class := { plain "java/lang/Comparable" (some 0) with
  accessFlags := 1537
  interfaces := #[]
  cf := some (fileOf pool7 1 #[] #[] 1537 3 #[] #[])
  fields := #[]
  methods := #[]
  instanceTypes := #[]
  staticTypes := #[]
  resolved := Array.replicate 12 none
  statics := none }

def pool8 : Array CpInfo := pool [(1, .methodref 2 3), (0, .class_ 4), (0, .nameAndType 5 6), (0, u "java/lang/AbstractStringBuilder"), (0, u "<init>"), (0, u "(I)V"), (11, .class_ 20), (1, u "java/lang/String"), (3, .class_ 26), (1, u "java/lang/StringBuilder"), (0, u "append"), (22, .methodref 2 51), (0, .nameAndType 27 52), (0, u "(C)Ljava/lang/AbstractStringBuilder;"), (84, .methodref 18 138), (0, .nameAndType 5 139), (0, u "(Ljava/lang/StringBuilder;)V"), (5, u "()V"), (10, u "()I"), (129, u "(C)Ljava/lang/StringBuilder;"), (56, .methodref 2 344), (0, .nameAndType 345 156), (0, u "length"), (3, .class_ 350), (0, u "java/lang/Appendable"), (0, .class_ 352), (0, u "java/io/Serializable"), (0, .class_ 354), (0, u "java/lang/Comparable"), (0, .class_ 356), (0, u "java/lang/CharSequence"), (0, u "serialVersionUID"), (0, u "J"), (40, u "toString"), (0, u "()Ljava/lang/String;")] 21

def k8m0 : Method := { name := "<init>", desc := "()V", sig := { parameters := [], returnType := none }, accessFlags := 1, code := none }
def k8c1 : Code := { maxStack := 2, maxLocals := 2, code := jdk_67_method_2_code, exceptionTable := #[], attributes := #[] }
def k8m1 : Method := { name := "<init>", desc := "(I)V", sig := { parameters := [.int], returnType := none }, accessFlags := 1, code := some k8c1 }
def k8c2 : Code := { maxStack := 2, maxLocals := 2, code := jdk_67_method_14_code, exceptionTable := #[], attributes := #[] }
def k8m2 : Method := { name := "append", desc := "(C)Ljava/lang/StringBuilder;", sig := { parameters := [.char], returnType := some (.object "java/lang/StringBuilder") }, accessFlags := 1, code := some k8c2 }
def k8c3 : Code := { maxStack := 3, maxLocals := 1, code := jdk_67_method_42_code, exceptionTable := #[], attributes := #[] }
def k8m3 : Method := { name := "toString", desc := "()Ljava/lang/String;", sig := { parameters := [], returnType := some (.object "java/lang/String") }, accessFlags := 1, code := some k8c3 }
def k8c4 : Code := { maxStack := 1, maxLocals := 1, code := jdk_67_method_93_code, exceptionTable := #[], attributes := #[] }
def k8m4 : Method := { name := "length", desc := "()I", sig := { parameters := [], returnType := some .int }, accessFlags := 4161, code := some k8c4 }
/-- java/lang/StringBuilder -/
def k8 : Class := { plain "java/lang/StringBuilder" (some 5) with
  accessFlags := 49
  interfaces := #[3, 6, 7, 4]
  cf := some (fileOf pool8 24 #[] #[{ accessFlags := 1, nameIndex := 5, descriptorIndex := 145, attributes := #[] }, { accessFlags := 1, nameIndex := 5, descriptorIndex := 6, attributes := #[] }, { accessFlags := 1, nameIndex := 27, descriptorIndex := 286, attributes := #[] }, { accessFlags := 1, nameIndex := 399, descriptorIndex := 400, attributes := #[] }, { accessFlags := 4161, nameIndex := 345, descriptorIndex := 156, attributes := #[] }] 49 2 #[349, 351, 353, 355] #[{ accessFlags := 24, nameIndex := 357, descriptorIndex := 358, attributes := #[] }])
  fields := #[{ name := "serialVersionUID", type := .long, accessFlags := 24, slot := 0, constantValue := 0 }]
  methods := #[k8m0, k8m1, k8m2, k8m3, k8m4]
  instanceTypes := #[(.array .byte), .byte, .boolean, .int]
  staticTypes := #[.long]
  resolved := Array.replicate 422 none
  statics := none }

def pool9 : Array CpInfo := pool [(1, .class_ 2), (0, u "java/lang/constant/Constable"), (0, .class_ 4), (0, u "java/lang/Object")] 6

/-- java/lang/constant/Constable -/
def k9 : Class := { plain "java/lang/constant/Constable" (some 0) with
  accessFlags := 1537
  interfaces := #[]
  cf := some (fileOf pool9 1 #[] #[] 1537 3 #[] #[])
  fields := #[]
  methods := #[]
  instanceTypes := #[]
  staticTypes := #[]
  resolved := Array.replicate 11 none
  statics := none }

def pool10 : Array CpInfo := pool [(1, .class_ 2), (0, u "java/lang/constant/ConstantDesc"), (0, .class_ 4), (0, u "java/lang/Object")] 32

/-- java/lang/constant/ConstantDesc -/
def k10 : Class := { plain "java/lang/constant/ConstantDesc" (some 0) with
  accessFlags := 1537
  interfaces := #[]
  cf := some (fileOf pool10 1 #[] #[] 1537 3 #[] #[])
  fields := #[]
  methods := #[]
  instanceTypes := #[]
  staticTypes := #[]
  resolved := Array.replicate 37 none
  statics := none }

def pool11 : Array CpInfo := pool [(1, .methodref 2 3), (0, .class_ 4), (0, .nameAndType 5 6), (0, u "java/lang/Object"), (0, u "<init>"), (0, u "()V"), (2, .fieldref 10 11), (0, .class_ 12), (0, .nameAndType 13 14), (0, u "java/lang/String"), (0, u "value"), (0, u "[B"), (0, .fieldref 10 16), (0, .nameAndType 17 18), (0, u "coder"), (0, u "B"), (2, u "hash"), (0, u "I"), (2, u "hashIsZero"), (0, u "Z"), (11, .fieldref 10 39), (0, .nameAndType 40 26), (0, u "COMPACT_STRINGS"), (13, .methodref 55 56), (0, .class_ 57), (0, .nameAndType 58 59), (0, u "java/util/Arrays"), (0, u "copyOfRange"), (0, u "([BII)[B"), (47, .class_ 109), (1, u "java/lang/StringLatin1"), (32, u "()Z"), (191, u "()I"), (0, .methodref 10 336), (0, .nameAndType 17 337), (0, u "()B"), (2, u "()[B"), (22, u "([BI)C"), (27, u "(II)V"), (35, u "(I)C"), (61, .methodref 10 490), (0, .nameAndType 5 491), (0, u "(Ljava/lang/AbstractStringBuilder;Ljava/lang/Void;)V"), (0, .methodref 10 493), (0, .nameAndType 494 142), (0, u "isLatin1"), (0, .methodref 107 496), (0, .nameAndType 497 363), (0, u "charAt"), (3, u "checkIndex"), (4, .nameAndType 507 334), (0, u "length"), (41, .methodref 550 506), (0, .class_ 551), (0, u "java/lang/AbstractStringBuilder"), (0, .methodref 550 553), (0, .nameAndType 554 340), (0, u "getValue"), (20, .class_ 576), (0, u "java/lang/CharSequence"), (22, u "CASE_INSENSITIVE_ORDER"), (0, u "Ljava/util/Comparator;"), (446, .methodref 550 493), (5, .fieldref 1054 1055), (0, .class_ 1056), (0, .nameAndType 1057 1058), (0, u "jdk/internal/util/Preconditions"), (0, u "SIOOBE_FORMATTER"), (0, u "Ljava/util/function/BiFunction;"), (0, .methodref 1054 1060), (0, .nameAndType 501 1061), (0, u "(IILjava/util/function/BiFunction;)I"), (39, u "serialPersistentFields"), (0, u "[Ljava/io/ObjectStreamField;"), (0, .class_ 1104), (0, u "java/lang/String$CaseInsensitiveComparator"), (1, .class_ 1107), (0, u "java/io/Serializable"), (0, .class_ 1109), (0, u "java/lang/Comparable"), (0, .class_ 1111), (0, u "java/lang/constant/Constable"), (0, .class_ 1113), (0, u "java/lang/constant/ConstantDesc"), (2, u "serialVersionUID"), (0, u "J"), (3, u "REPL"), (0, u "C"), (2, u "LATIN1"), (1, u "UTF16"), (105, u "(Ljava/lang/StringBuilder;)V")] 217

def k11m0 : Method := { name := "<init>", desc := "()V", sig := { parameters := [], returnType := none }, accessFlags := 1, code := none }
def k11c1 : Code := { maxStack := 3, maxLocals := 2, code := jdk_42_method_53_code, exceptionTable := #[], attributes := #[] }
def k11m1 : Method := { name := "<init>", desc := "(Ljava/lang/StringBuilder;)V", sig := { parameters := [(.object "java/lang/StringBuilder")], returnType := none }, accessFlags := 1, code := some k11c1 }
def k11c2 : Code := { maxStack := 2, maxLocals := 1, code := jdk_42_method_54_code, exceptionTable := #[], attributes := #[] }
def k11m2 : Method := { name := "length", desc := "()I", sig := { parameters := [], returnType := some .int }, accessFlags := 1, code := some k11c2 }
def k11c3 : Code := { maxStack := 2, maxLocals := 2, code := jdk_42_method_56_code, exceptionTable := #[], attributes := #[] }
def k11m3 : Method := { name := "charAt", desc := "(I)C", sig := { parameters := [.int], returnType := some .char }, accessFlags := 1, code := some k11c3 }
def k11c4 : Code := { maxStack := 5, maxLocals := 5, code := jdk_42_method_150_code, exceptionTable := #[], attributes := #[] }
def k11m4 : Method := { name := "<init>", desc := "(Ljava/lang/AbstractStringBuilder;Ljava/lang/Void;)V", sig := { parameters := [(.object "java/lang/AbstractStringBuilder"), (.object "java/lang/Void")], returnType := none }, accessFlags := 0, code := some k11c4 }
def k11c5 : Code := { maxStack := 1, maxLocals := 1, code := jdk_42_method_152_code, exceptionTable := #[], attributes := #[] }
def k11m5 : Method := { name := "coder", desc := "()B", sig := { parameters := [], returnType := some .byte }, accessFlags := 0, code := some k11c5 }
def k11c6 : Code := { maxStack := 1, maxLocals := 1, code := jdk_42_method_154_code, exceptionTable := #[], attributes := #[] }
def k11m6 : Method := { name := "isLatin1", desc := "()Z", sig := { parameters := [], returnType := some .boolean }, accessFlags := 0, code := some k11c6 }
def k11c7 : Code := { maxStack := 3, maxLocals := 2, code := jdk_42_method_155_code, exceptionTable := #[], attributes := #[] }
def k11m7 : Method := { name := "checkIndex", desc := "(II)V", sig := { parameters := [.int, .int], returnType := none }, accessFlags := 8, code := some k11c7 }
/-- java/lang/String -/
def k11 : Class := { plain "java/lang/String" (some 0) with
  accessFlags := 49
  interfaces := #[6, 7, 4, 9, 10]
  cf := some (fileOf pool11 10 #[.nestMembers #[1103]] #[{ accessFlags := 1, nameIndex := 5, descriptorIndex := 6, attributes := #[] }, { accessFlags := 1, nameIndex := 5, descriptorIndex := 1233, attributes := #[] }, { accessFlags := 1, nameIndex := 507, descriptorIndex := 334, attributes := #[] }, { accessFlags := 1, nameIndex := 497, descriptorIndex := 427, attributes := #[] }, { accessFlags := 0, nameIndex := 5, descriptorIndex := 491, attributes := #[] }, { accessFlags := 0, nameIndex := 17, descriptorIndex := 337, attributes := #[] }, { accessFlags := 0, nameIndex := 494, descriptorIndex := 142, attributes := #[] }, { accessFlags := 8, nameIndex := 501, descriptorIndex := 391, attributes := #[] }] 49 2 #[1106, 1108, 575, 1110, 1112] #[{ accessFlags := 18, nameIndex := 13, descriptorIndex := 14, attributes := #[] }, { accessFlags := 18, nameIndex := 17, descriptorIndex := 18, attributes := #[] }, { accessFlags := 2, nameIndex := 21, descriptorIndex := 22, attributes := #[] }, { accessFlags := 2, nameIndex := 25, descriptorIndex := 26, attributes := #[] }, { accessFlags := 26, nameIndex := 1116, descriptorIndex := 1117, attributes := #[] }, { accessFlags := 24, nameIndex := 40, descriptorIndex := 26, attributes := #[] }, { accessFlags := 26, nameIndex := 1101, descriptorIndex := 1102, attributes := #[] }, { accessFlags := 26, nameIndex := 1121, descriptorIndex := 1122, attributes := #[] }, { accessFlags := 25, nameIndex := 599, descriptorIndex := 600, attributes := #[] }, { accessFlags := 24, nameIndex := 1125, descriptorIndex := 18, attributes := #[] }, { accessFlags := 24, nameIndex := 1127, descriptorIndex := 18, attributes := #[] }])
  fields := #[{ name := "value", type := (.array .byte), accessFlags := 18, slot := 0, constantValue := 0 }, { name := "coder", type := .byte, accessFlags := 18, slot := 1, constantValue := 0 }, { name := "hash", type := .int, accessFlags := 2, slot := 2, constantValue := 0 }, { name := "hashIsZero", type := .boolean, accessFlags := 2, slot := 3, constantValue := 0 }, { name := "serialVersionUID", type := .long, accessFlags := 26, slot := 0, constantValue := 0 }, { name := "COMPACT_STRINGS", type := .boolean, accessFlags := 24, slot := 1, constantValue := 0 }, { name := "serialPersistentFields", type := (.array (.object "java/io/ObjectStreamField")), accessFlags := 26, slot := 2, constantValue := 0 }, { name := "REPL", type := .char, accessFlags := 26, slot := 3, constantValue := 0 }, { name := "CASE_INSENSITIVE_ORDER", type := (.object "java/util/Comparator"), accessFlags := 25, slot := 4, constantValue := 0 }, { name := "LATIN1", type := .byte, accessFlags := 24, slot := 5, constantValue := 0 }, { name := "UTF16", type := .byte, accessFlags := 24, slot := 6, constantValue := 0 }]
  methods := #[k11m0, k11m1, k11m2, k11m3, k11m4, k11m5, k11m6, k11m7]
  instanceTypes := #[(.array .byte), .byte, .int, .boolean]
  staticTypes := #[.long, .boolean, (.array (.object "java/io/ObjectStreamField")), .char, (.object "java/util/Comparator"), .byte, .byte]
  resolved := Array.replicate 1451 none
  statics := some 0 }

def pool12 : Array CpInfo := pool [(1, .class_ 2), (0, u "java/lang/Character"), (18, u "value"), (0, u "C"), (19, .class_ 44), (1, u "java/lang/Object"), (3, .class_ 50), (1, u "java/lang/Character$CharacterCache"), (233, u "$assertionsDisabled"), (0, u "Z"), (21, .class_ 309), (1, u "java/lang/Character$UnicodeBlock"), (73, u "TYPE"), (0, u "Ljava/lang/Class;"), (0, .class_ 386), (0, u "java/io/Serializable"), (0, .class_ 388), (0, u "java/lang/Comparable"), (0, .class_ 390), (0, u "java/lang/constant/Constable"), (0, u "MIN_RADIX"), (0, u "I"), (2, u "MAX_RADIX"), (1, u "MIN_VALUE"), (1, u "MAX_VALUE"), (3, u "UNASSIGNED"), (0, u "B"), (0, u "UPPERCASE_LETTER"), (1, u "LOWERCASE_LETTER"), (0, u "TITLECASE_LETTER"), (1, u "MODIFIER_LETTER"), (1, u "OTHER_LETTER"), (1, u "NON_SPACING_MARK"), (1, u "ENCLOSING_MARK"), (1, u "COMBINING_SPACING_MARK"), (1, u "DECIMAL_DIGIT_NUMBER"), (1, u "LETTER_NUMBER"), (1, u "OTHER_NUMBER"), (1, u "SPACE_SEPARATOR"), (1, u "LINE_SEPARATOR"), (1, u "PARAGRAPH_SEPARATOR"), (1, u "CONTROL"), (1, u "FORMAT"), (1, u "PRIVATE_USE"), (1, u "SURROGATE"), (1, u "DASH_PUNCTUATION"), (1, u "START_PUNCTUATION"), (1, u "END_PUNCTUATION"), (1, u "CONNECTOR_PUNCTUATION"), (1, u "OTHER_PUNCTUATION"), (1, u "MATH_SYMBOL"), (1, u "CURRENCY_SYMBOL"), (1, u "MODIFIER_SYMBOL"), (1, u "OTHER_SYMBOL"), (1, u "INITIAL_QUOTE_PUNCTUATION"), (1, u "FINAL_QUOTE_PUNCTUATION"), (1, u "ERROR"), (1, u "DIRECTIONALITY_UNDEFINED"), (0, u "DIRECTIONALITY_LEFT_TO_RIGHT"), (0, u "DIRECTIONALITY_RIGHT_TO_LEFT"), (0, u "DIRECTIONALITY_RIGHT_TO_LEFT_ARABIC"), (0, u "DIRECTIONALITY_EUROPEAN_NUMBER"), (0, u "DIRECTIONALITY_EUROPEAN_NUMBER_SEPARATOR"), (0, u "DIRECTIONALITY_EUROPEAN_NUMBER_TERMINATOR"), (0, u "DIRECTIONALITY_ARABIC_NUMBER"), (0, u "DIRECTIONALITY_COMMON_NUMBER_SEPARATOR"), (0, u "DIRECTIONALITY_NONSPACING_MARK"), (0, u "DIRECTIONALITY_BOUNDARY_NEUTRAL"), (0, u "DIRECTIONALITY_PARAGRAPH_SEPARATOR"), (0, u "DIRECTIONALITY_SEGMENT_SEPARATOR"), (0, u "DIRECTIONALITY_WHITESPACE"), (0, u "DIRECTIONALITY_OTHER_NEUTRALS"), (0, u "DIRECTIONALITY_LEFT_TO_RIGHT_EMBEDDING"), (0, u "DIRECTIONALITY_LEFT_TO_RIGHT_OVERRIDE"), (0, u "DIRECTIONALITY_RIGHT_TO_LEFT_EMBEDDING"), (0, u "DIRECTIONALITY_RIGHT_TO_LEFT_OVERRIDE"), (1, u "DIRECTIONALITY_POP_DIRECTIONAL_FORMAT"), (0, u "DIRECTIONALITY_LEFT_TO_RIGHT_ISOLATE"), (0, u "DIRECTIONALITY_RIGHT_TO_LEFT_ISOLATE"), (0, u "DIRECTIONALITY_FIRST_STRONG_ISOLATE"), (0, u "DIRECTIONALITY_POP_DIRECTIONAL_ISOLATE"), (0, u "MIN_HIGH_SURROGATE"), (0, u "MAX_HIGH_SURROGATE"), (1, u "MIN_LOW_SURROGATE"), (0, u "MAX_LOW_SURROGATE"), (1, u "MIN_SURROGATE"), (0, u "MAX_SURROGATE"), (0, u "MIN_SUPPLEMENTARY_CODE_POINT"), (0, u "MIN_CODE_POINT"), (0, u "MAX_CODE_POINT"), (1, u "serialVersionUID"), (0, u "J"), (2, u "SIZE"), (0, u "BYTES"), (67, u "forDigit"), (0, u "(II)C"), (19, .class_ 596), (0, u "java/lang/Character$UnicodeScript"), (0, .class_ 598), (0, u "java/lang/Character$Subset")] 5

def k12c0 : Code := { maxStack := 2, maxLocals := 2, code := jdk_89_method_92_code, exceptionTable := #[], attributes := #[] }
def k12m0 : Method := { name := "forDigit", desc := "(II)C", sig := { parameters := [.int, .int], returnType := some .char }, accessFlags := 9, code := some k12c0 }
/-- java/lang/Character -/
def k12 : Class := { plain "java/lang/Character" (some 0) with
  accessFlags := 49
  interfaces := #[6, 7, 9]
  cf := some (fileOf pool12 1 #[.nestMembers #[48, 595, 307, 597]] #[{ accessFlags := 9, nameIndex := 574, descriptorIndex := 575, attributes := #[] }] 49 42 #[385, 387, 389] #[{ accessFlags := 25, nameIndex := 391, descriptorIndex := 392, attributes := #[] }, { accessFlags := 25, nameIndex := 395, descriptorIndex := 392, attributes := #[] }, { accessFlags := 25, nameIndex := 397, descriptorIndex := 22, attributes := #[] }, { accessFlags := 25, nameIndex := 399, descriptorIndex := 22, attributes := #[] }, { accessFlags := 25, nameIndex := 383, descriptorIndex := 384, attributes := #[] }, { accessFlags := 25, nameIndex := 403, descriptorIndex := 404, attributes := #[] }, { accessFlags := 25, nameIndex := 405, descriptorIndex := 404, attributes := #[] }, { accessFlags := 25, nameIndex := 407, descriptorIndex := 404, attributes := #[] }, { accessFlags := 25, nameIndex := 408, descriptorIndex := 404, attributes := #[] }, { accessFlags := 25, nameIndex := 410, descriptorIndex := 404, attributes := #[] }, { accessFlags := 25, nameIndex := 412, descriptorIndex := 404, attributes := #[] }, { accessFlags := 25, nameIndex := 414, descriptorIndex := 404, attributes := #[] }, { accessFlags := 25, nameIndex := 416, descriptorIndex := 404, attributes := #[] }, { accessFlags := 25, nameIndex := 418, descriptorIndex := 404, attributes := #[] }, { accessFlags := 25, nameIndex := 420, descriptorIndex := 404, attributes := #[] }, { accessFlags := 25, nameIndex := 422, descriptorIndex := 404, attributes := #[] }, { accessFlags := 25, nameIndex := 424, descriptorIndex := 404, attributes := #[] }, { accessFlags := 25, nameIndex := 426, descriptorIndex := 404, attributes := #[] }, { accessFlags := 25, nameIndex := 428, descriptorIndex := 404, attributes := #[] }, { accessFlags := 25, nameIndex := 430, descriptorIndex := 404, attributes := #[] }, { accessFlags := 25, nameIndex := 432, descriptorIndex := 404, attributes := #[] }, { accessFlags := 25, nameIndex := 434, descriptorIndex := 404, attributes := #[] }, { accessFlags := 25, nameIndex := 436, descriptorIndex := 404, attributes := #[] }, { accessFlags := 25, nameIndex := 438, descriptorIndex := 404, attributes := #[] }, { accessFlags := 25, nameIndex := 440, descriptorIndex := 404, attributes := #[] }, { accessFlags := 25, nameIndex := 442, descriptorIndex := 404, attributes := #[] }, { accessFlags := 25, nameIndex := 444, descriptorIndex := 404, attributes := #[] }, { accessFlags := 25, nameIndex := 446, descriptorIndex := 404, attributes := #[] }, { accessFlags := 25, nameIndex := 448, descriptorIndex := 404, attributes := #[] }, { accessFlags := 25, nameIndex := 450, descriptorIndex := 404, attributes := #[] }, { accessFlags := 25, nameIndex := 452, descriptorIndex := 404, attributes := #[] }, { accessFlags := 25, nameIndex := 454, descriptorIndex := 404, attributes := #[] }, { accessFlags := 25, nameIndex := 456, descriptorIndex := 404, attributes := #[] }, { accessFlags := 25, nameIndex := 458, descriptorIndex := 404, attributes := #[] }, { accessFlags := 25, nameIndex := 460, descriptorIndex := 404, attributes := #[] }, { accessFlags := 24, nameIndex := 462, descriptorIndex := 392, attributes := #[] }, { accessFlags := 25, nameIndex := 464, descriptorIndex := 404, attributes := #[] }, { accessFlags := 25, nameIndex := 465, descriptorIndex := 404, attributes := #[] }, { accessFlags := 25, nameIndex := 466, descriptorIndex := 404, attributes := #[] }, { accessFlags := 25, nameIndex := 467, descriptorIndex := 404, attributes := #[] }, { accessFlags := 25, nameIndex := 468, descriptorIndex := 404, attributes := #[] }, { accessFlags := 25, nameIndex := 469, descriptorIndex := 404, attributes := #[] }, { accessFlags := 25, nameIndex := 470, descriptorIndex := 404, attributes := #[] }, { accessFlags := 25, nameIndex := 471, descriptorIndex := 404, attributes := #[] }, { accessFlags := 25, nameIndex := 472, descriptorIndex := 404, attributes := #[] }, { accessFlags := 25, nameIndex := 473, descriptorIndex := 404, attributes := #[] }, { accessFlags := 25, nameIndex := 474, descriptorIndex := 404, attributes := #[] }, { accessFlags := 25, nameIndex := 475, descriptorIndex := 404, attributes := #[] }, { accessFlags := 25, nameIndex := 476, descriptorIndex := 404, attributes := #[] }, { accessFlags := 25, nameIndex := 477, descriptorIndex := 404, attributes := #[] }, { accessFlags := 25, nameIndex := 478, descriptorIndex := 404, attributes := #[] }, { accessFlags := 25, nameIndex := 479, descriptorIndex := 404, attributes := #[] }, { accessFlags := 25, nameIndex := 480, descriptorIndex := 404, attributes := #[] }, { accessFlags := 25, nameIndex := 481, descriptorIndex := 404, attributes := #[] }, { accessFlags := 25, nameIndex := 482, descriptorIndex := 404, attributes := #[] }, { accessFlags := 25, nameIndex := 484, descriptorIndex := 404, attributes := #[] }, { accessFlags := 25, nameIndex := 485, descriptorIndex := 404, attributes := #[] }, { accessFlags := 25, nameIndex := 486, descriptorIndex := 404, attributes := #[] }, { accessFlags := 25, nameIndex := 487, descriptorIndex := 404, attributes := #[] }, { accessFlags := 25, nameIndex := 488, descriptorIndex := 404, attributes := #[] }, { accessFlags := 25, nameIndex := 489, descriptorIndex := 22, attributes := #[] }, { accessFlags := 25, nameIndex := 490, descriptorIndex := 22, attributes := #[] }, { accessFlags := 25, nameIndex := 492, descriptorIndex := 22, attributes := #[] }, { accessFlags := 25, nameIndex := 493, descriptorIndex := 22, attributes := #[] }, { accessFlags := 25, nameIndex := 495, descriptorIndex := 22, attributes := #[] }, { accessFlags := 25, nameIndex := 496, descriptorIndex := 22, attributes := #[] }, { accessFlags := 25, nameIndex := 497, descriptorIndex := 392, attributes := #[] }, { accessFlags := 25, nameIndex := 498, descriptorIndex := 392, attributes := #[] }, { accessFlags := 25, nameIndex := 499, descriptorIndex := 392, attributes := #[] }, { accessFlags := 18, nameIndex := 21, descriptorIndex := 22, attributes := #[] }, { accessFlags := 26, nameIndex := 501, descriptorIndex := 502, attributes := #[] }, { accessFlags := 25, nameIndex := 505, descriptorIndex := 392, attributes := #[] }, { accessFlags := 25, nameIndex := 506, descriptorIndex := 392, attributes := #[] }, { accessFlags := 4120, nameIndex := 284, descriptorIndex := 285, attributes := #[] }])
  fields := #[{ name := "MIN_RADIX", type := .int, accessFlags := 25, slot := 0, constantValue := 0 }, { name := "MAX_RADIX", type := .int, accessFlags := 25, slot := 1, constantValue := 0 }, { name := "MIN_VALUE", type := .char, accessFlags := 25, slot := 2, constantValue := 0 }, { name := "MAX_VALUE", type := .char, accessFlags := 25, slot := 3, constantValue := 0 }, { name := "TYPE", type := (.object "java/lang/Class"), accessFlags := 25, slot := 4, constantValue := 0 }, { name := "UNASSIGNED", type := .byte, accessFlags := 25, slot := 5, constantValue := 0 }, { name := "UPPERCASE_LETTER", type := .byte, accessFlags := 25, slot := 6, constantValue := 0 }, { name := "LOWERCASE_LETTER", type := .byte, accessFlags := 25, slot := 7, constantValue := 0 }, { name := "TITLECASE_LETTER", type := .byte, accessFlags := 25, slot := 8, constantValue := 0 }, { name := "MODIFIER_LETTER", type := .byte, accessFlags := 25, slot := 9, constantValue := 0 }, { name := "OTHER_LETTER", type := .byte, accessFlags := 25, slot := 10, constantValue := 0 }, { name := "NON_SPACING_MARK", type := .byte, accessFlags := 25, slot := 11, constantValue := 0 }, { name := "ENCLOSING_MARK", type := .byte, accessFlags := 25, slot := 12, constantValue := 0 }, { name := "COMBINING_SPACING_MARK", type := .byte, accessFlags := 25, slot := 13, constantValue := 0 }, { name := "DECIMAL_DIGIT_NUMBER", type := .byte, accessFlags := 25, slot := 14, constantValue := 0 }, { name := "LETTER_NUMBER", type := .byte, accessFlags := 25, slot := 15, constantValue := 0 }, { name := "OTHER_NUMBER", type := .byte, accessFlags := 25, slot := 16, constantValue := 0 }, { name := "SPACE_SEPARATOR", type := .byte, accessFlags := 25, slot := 17, constantValue := 0 }, { name := "LINE_SEPARATOR", type := .byte, accessFlags := 25, slot := 18, constantValue := 0 }, { name := "PARAGRAPH_SEPARATOR", type := .byte, accessFlags := 25, slot := 19, constantValue := 0 }, { name := "CONTROL", type := .byte, accessFlags := 25, slot := 20, constantValue := 0 }, { name := "FORMAT", type := .byte, accessFlags := 25, slot := 21, constantValue := 0 }, { name := "PRIVATE_USE", type := .byte, accessFlags := 25, slot := 22, constantValue := 0 }, { name := "SURROGATE", type := .byte, accessFlags := 25, slot := 23, constantValue := 0 }, { name := "DASH_PUNCTUATION", type := .byte, accessFlags := 25, slot := 24, constantValue := 0 }, { name := "START_PUNCTUATION", type := .byte, accessFlags := 25, slot := 25, constantValue := 0 }, { name := "END_PUNCTUATION", type := .byte, accessFlags := 25, slot := 26, constantValue := 0 }, { name := "CONNECTOR_PUNCTUATION", type := .byte, accessFlags := 25, slot := 27, constantValue := 0 }, { name := "OTHER_PUNCTUATION", type := .byte, accessFlags := 25, slot := 28, constantValue := 0 }, { name := "MATH_SYMBOL", type := .byte, accessFlags := 25, slot := 29, constantValue := 0 }, { name := "CURRENCY_SYMBOL", type := .byte, accessFlags := 25, slot := 30, constantValue := 0 }, { name := "MODIFIER_SYMBOL", type := .byte, accessFlags := 25, slot := 31, constantValue := 0 }, { name := "OTHER_SYMBOL", type := .byte, accessFlags := 25, slot := 32, constantValue := 0 }, { name := "INITIAL_QUOTE_PUNCTUATION", type := .byte, accessFlags := 25, slot := 33, constantValue := 0 }, { name := "FINAL_QUOTE_PUNCTUATION", type := .byte, accessFlags := 25, slot := 34, constantValue := 0 }, { name := "ERROR", type := .int, accessFlags := 24, slot := 35, constantValue := 0 }, { name := "DIRECTIONALITY_UNDEFINED", type := .byte, accessFlags := 25, slot := 36, constantValue := 0 }, { name := "DIRECTIONALITY_LEFT_TO_RIGHT", type := .byte, accessFlags := 25, slot := 37, constantValue := 0 }, { name := "DIRECTIONALITY_RIGHT_TO_LEFT", type := .byte, accessFlags := 25, slot := 38, constantValue := 0 }, { name := "DIRECTIONALITY_RIGHT_TO_LEFT_ARABIC", type := .byte, accessFlags := 25, slot := 39, constantValue := 0 }, { name := "DIRECTIONALITY_EUROPEAN_NUMBER", type := .byte, accessFlags := 25, slot := 40, constantValue := 0 }, { name := "DIRECTIONALITY_EUROPEAN_NUMBER_SEPARATOR", type := .byte, accessFlags := 25, slot := 41, constantValue := 0 }, { name := "DIRECTIONALITY_EUROPEAN_NUMBER_TERMINATOR", type := .byte, accessFlags := 25, slot := 42, constantValue := 0 }, { name := "DIRECTIONALITY_ARABIC_NUMBER", type := .byte, accessFlags := 25, slot := 43, constantValue := 0 }, { name := "DIRECTIONALITY_COMMON_NUMBER_SEPARATOR", type := .byte, accessFlags := 25, slot := 44, constantValue := 0 }, { name := "DIRECTIONALITY_NONSPACING_MARK", type := .byte, accessFlags := 25, slot := 45, constantValue := 0 }, { name := "DIRECTIONALITY_BOUNDARY_NEUTRAL", type := .byte, accessFlags := 25, slot := 46, constantValue := 0 }, { name := "DIRECTIONALITY_PARAGRAPH_SEPARATOR", type := .byte, accessFlags := 25, slot := 47, constantValue := 0 }, { name := "DIRECTIONALITY_SEGMENT_SEPARATOR", type := .byte, accessFlags := 25, slot := 48, constantValue := 0 }, { name := "DIRECTIONALITY_WHITESPACE", type := .byte, accessFlags := 25, slot := 49, constantValue := 0 }, { name := "DIRECTIONALITY_OTHER_NEUTRALS", type := .byte, accessFlags := 25, slot := 50, constantValue := 0 }, { name := "DIRECTIONALITY_LEFT_TO_RIGHT_EMBEDDING", type := .byte, accessFlags := 25, slot := 51, constantValue := 0 }, { name := "DIRECTIONALITY_LEFT_TO_RIGHT_OVERRIDE", type := .byte, accessFlags := 25, slot := 52, constantValue := 0 }, { name := "DIRECTIONALITY_RIGHT_TO_LEFT_EMBEDDING", type := .byte, accessFlags := 25, slot := 53, constantValue := 0 }, { name := "DIRECTIONALITY_RIGHT_TO_LEFT_OVERRIDE", type := .byte, accessFlags := 25, slot := 54, constantValue := 0 }, { name := "DIRECTIONALITY_POP_DIRECTIONAL_FORMAT", type := .byte, accessFlags := 25, slot := 55, constantValue := 0 }, { name := "DIRECTIONALITY_LEFT_TO_RIGHT_ISOLATE", type := .byte, accessFlags := 25, slot := 56, constantValue := 0 }, { name := "DIRECTIONALITY_RIGHT_TO_LEFT_ISOLATE", type := .byte, accessFlags := 25, slot := 57, constantValue := 0 }, { name := "DIRECTIONALITY_FIRST_STRONG_ISOLATE", type := .byte, accessFlags := 25, slot := 58, constantValue := 0 }, { name := "DIRECTIONALITY_POP_DIRECTIONAL_ISOLATE", type := .byte, accessFlags := 25, slot := 59, constantValue := 0 }, { name := "MIN_HIGH_SURROGATE", type := .char, accessFlags := 25, slot := 60, constantValue := 0 }, { name := "MAX_HIGH_SURROGATE", type := .char, accessFlags := 25, slot := 61, constantValue := 0 }, { name := "MIN_LOW_SURROGATE", type := .char, accessFlags := 25, slot := 62, constantValue := 0 }, { name := "MAX_LOW_SURROGATE", type := .char, accessFlags := 25, slot := 63, constantValue := 0 }, { name := "MIN_SURROGATE", type := .char, accessFlags := 25, slot := 64, constantValue := 0 }, { name := "MAX_SURROGATE", type := .char, accessFlags := 25, slot := 65, constantValue := 0 }, { name := "MIN_SUPPLEMENTARY_CODE_POINT", type := .int, accessFlags := 25, slot := 66, constantValue := 0 }, { name := "MIN_CODE_POINT", type := .int, accessFlags := 25, slot := 67, constantValue := 0 }, { name := "MAX_CODE_POINT", type := .int, accessFlags := 25, slot := 68, constantValue := 0 }, { name := "value", type := .char, accessFlags := 18, slot := 0, constantValue := 0 }, { name := "serialVersionUID", type := .long, accessFlags := 26, slot := 69, constantValue := 0 }, { name := "SIZE", type := .int, accessFlags := 25, slot := 70, constantValue := 0 }, { name := "BYTES", type := .int, accessFlags := 25, slot := 71, constantValue := 0 }, { name := "$assertionsDisabled", type := .boolean, accessFlags := 4120, slot := 72, constantValue := 0 }]
  methods := #[k12m0]
  instanceTypes := #[.char]
  staticTypes := #[.int, .int, .char, .char, (.object "java/lang/Class"), .byte, .byte, .byte, .byte, .byte, .byte, .byte, .byte, .byte, .byte, .byte, .byte, .byte, .byte, .byte, .byte, .byte, .byte, .byte, .byte, .byte, .byte, .byte, .byte, .byte, .byte, .byte, .byte, .byte, .byte, .int, .byte, .byte, .byte, .byte, .byte, .byte, .byte, .byte, .byte, .byte, .byte, .byte, .byte, .byte, .byte, .byte, .byte, .byte, .byte, .byte, .byte, .byte, .byte, .byte, .char, .char, .char, .char, .char, .char, .int, .int, .int, .long, .int, .int, .boolean]
  resolved := Array.replicate 604 none
  statics := none }

def pool13 : Array CpInfo := pool [(1, .class_ 2), (0, u "java/lang/String"), (1, .class_ 6), (1, u "java/lang/Object"), (0, u "<init>"), (0, u "()V"), (0, .methodref 1 10), (0, .nameAndType 11 12), (0, u "checkIndex"), (0, u "(II)V"), (1, .class_ 16), (1, u "java/lang/StringLatin1"), (36, u "([BI)C"), (36, u "canEncode"), (14, u "(C)Z"), (15, u "$assertionsDisabled"), (0, u "Z"), (98, .class_ 223), (1, u "java/lang/StringLatin1$LinesSpliterator"), (28, u "charAt"), (137, .class_ 391), (0, u "java/lang/StringLatin1$CharsSpliterator")] 3

def k13m0 : Method := { name := "<init>", desc := "()V", sig := { parameters := [], returnType := none }, accessFlags := 0, code := none }
def k13c1 : Code := { maxStack := 2, maxLocals := 2, code := jdk_43_method_2_code, exceptionTable := #[], attributes := #[] }
def k13m1 : Method := { name := "charAt", desc := "([BI)C", sig := { parameters := [(.array .byte), .int], returnType := some .char }, accessFlags := 9, code := some k13c1 }
def k13c2 : Code := { maxStack := 2, maxLocals := 1, code := jdk_43_method_3_code, exceptionTable := #[], attributes := #[] }
def k13m2 : Method := { name := "canEncode", desc := "(C)Z", sig := { parameters := [.char], returnType := some .boolean }, accessFlags := 9, code := some k13c2 }
/-- java/lang/StringLatin1 -/
def k13 : Class := { plain "java/lang/StringLatin1" (some 0) with
  accessFlags := 48
  interfaces := #[]
  cf := some (fileOf pool13 14 #[.nestMembers #[390, 221]] #[{ accessFlags := 0, nameIndex := 7, descriptorIndex := 8, attributes := #[] }, { accessFlags := 9, nameIndex := 252, descriptorIndex := 53, attributes := #[] }, { accessFlags := 9, nameIndex := 90, descriptorIndex := 105, attributes := #[] }] 48 4 #[] #[{ accessFlags := 4120, nameIndex := 121, descriptorIndex := 122, attributes := #[] }])
  fields := #[{ name := "$assertionsDisabled", type := .boolean, accessFlags := 4120, slot := 0, constantValue := 0 }]
  methods := #[k13m0, k13m1, k13m2]
  instanceTypes := #[]
  staticTypes := #[.boolean]
  resolved := Array.replicate 395 none
  statics := none }

def pool14 : Array CpInfo := pool [(2, .class_ 4), (1, u "java/lang/Object"), (0, u "<init>"), (0, u "()V"), (7, .class_ 16), (1, u "java/util/Arrays"), (57, .class_ 76), (1, u "java/util/Arrays$NaturalOrder"), (32, u "()Ljava/lang/Object;"), (3, .class_ 115), (1, u "java/util/Arrays$LegacyMergeSort"), (1, u "Z"), (10, .nameAndType 129 109), (0, u "clone"), (9, u "copyOfRange"), (170, .methodref 311 128), (0, .class_ 312), (0, u "[B"), (29, u "([BII)[B"), (32, .class_ 376), (0, u "java/util/Arrays$ArrayList"), (68, u "$assertionsDisabled"), (269, u "MIN_ARRAY_SORT_GRAN"), (0, u "I"), (2, u "INSERTIONSORT_THRESHOLD"), (255, .class_ 976), (0, u "java/util/Arrays$ArrayItr")] 52

def k14m0 : Method := { name := "<init>", desc := "()V", sig := { parameters := [], returnType := none }, accessFlags := 2, code := none }
def k14c1 : Code := { maxStack := 3, maxLocals := 3, code := jdk_65_method_132_code, exceptionTable := #[], attributes := #[] }
def k14m1 : Method := { name := "copyOfRange", desc := "([BII)[B", sig := { parameters := [(.array .byte), .int, .int], returnType := some (.array .byte) }, accessFlags := 9, code := some k14c1 }
/-- java/util/Arrays -/
def k14 : Class := { plain "java/util/Arrays" (some 0) with
  accessFlags := 49
  interfaces := #[]
  cf := some (fileOf pool14 14 #[.nestMembers #[975, 375, 113, 74]] #[{ accessFlags := 2, nameIndex := 5, descriptorIndex := 6, attributes := #[] }, { accessFlags := 9, nameIndex := 139, descriptorIndex := 342, attributes := #[] }] 49 2 #[] #[{ accessFlags := 26, nameIndex := 715, descriptorIndex := 716, attributes := #[] }, { accessFlags := 26, nameIndex := 719, descriptorIndex := 716, attributes := #[] }, { accessFlags := 4120, nameIndex := 445, descriptorIndex := 117, attributes := #[] }])
  fields := #[{ name := "MIN_ARRAY_SORT_GRAN", type := .int, accessFlags := 26, slot := 0, constantValue := 0 }, { name := "INSERTIONSORT_THRESHOLD", type := .int, accessFlags := 26, slot := 1, constantValue := 0 }, { name := "$assertionsDisabled", type := .boolean, accessFlags := 4120, slot := 2, constantValue := 0 }]
  methods := #[k14m0, k14m1]
  instanceTypes := #[]
  staticTypes := #[.int, .int, .boolean]
  resolved := Array.replicate 1029 none
  statics := none }

def pool15 : Array CpInfo := pool [(1, .class_ 2), (0, u "java/lang/Cloneable"), (0, .class_ 4), (0, u "java/lang/Object")] 2

/-- java/lang/Cloneable -/
def k15 : Class := { plain "java/lang/Cloneable" (some 0) with
  accessFlags := 1537
  interfaces := #[]
  cf := some (fileOf pool15 1 #[] #[] 1537 3 #[] #[])
  fields := #[]
  methods := #[]
  instanceTypes := #[]
  staticTypes := #[]
  resolved := Array.replicate 7 none
  statics := none }

def pool16 : Array CpInfo := pool [(2, .class_ 4), (1, u "java/lang/Object"), (0, u "<init>"), (0, u "()V"), (17, .class_ 26), (1, u "jdk/internal/util/Preconditions"), (6, u "checkIndex"), (21, .class_ 56), (0, u "jdk/internal/util/Preconditions$4"), (57, .class_ 115), (0, u "jdk/internal/util/Preconditions$1"), (7, u "SIOOBE_FORMATTER"), (0, u "Ljava/util/function/BiFunction;"), (0, .class_ 126), (0, u "jdk/internal/util/Preconditions$2"), (3, u "AIOOBE_FORMATTER"), (0, .class_ 132), (0, u "jdk/internal/util/Preconditions$3"), (3, u "IOOBE_FORMATTER"), (41, u "(IILjava/util/function/BiFunction;)I")] 15

def k16m0 : Method := { name := "<init>", desc := "()V", sig := { parameters := [], returnType := none }, accessFlags := 1, code := none }
def k16c1 : Code := { maxStack := 3, maxLocals := 3, code := jdk_41_method_11_code, exceptionTable := #[], attributes := #[] }
def k16m1 : Method := { name := "checkIndex", desc := "(IILjava/util/function/BiFunction;)I", sig := { parameters := [.int, .int, (.object "java/util/function/BiFunction")], returnType := some .int }, accessFlags := 9, code := some k16c1 }
/-- jdk/internal/util/Preconditions -/
def k16 : Class := { plain "jdk/internal/util/Preconditions" (some 0) with
  accessFlags := 33
  interfaces := #[]
  cf := some (fileOf pool16 24 #[.nestMembers #[55, 131, 125, 114]] #[{ accessFlags := 1, nameIndex := 5, descriptorIndex := 6, attributes := #[] }, { accessFlags := 9, nameIndex := 33, descriptorIndex := 178, attributes := #[] }] 33 2 #[] #[{ accessFlags := 25, nameIndex := 123, descriptorIndex := 124, attributes := #[] }, { accessFlags := 25, nameIndex := 130, descriptorIndex := 124, attributes := #[] }, { accessFlags := 25, nameIndex := 136, descriptorIndex := 124, attributes := #[] }])
  fields := #[{ name := "SIOOBE_FORMATTER", type := (.object "java/util/function/BiFunction"), accessFlags := 25, slot := 0, constantValue := 0 }, { name := "AIOOBE_FORMATTER", type := (.object "java/util/function/BiFunction"), accessFlags := 25, slot := 1, constantValue := 0 }, { name := "IOOBE_FORMATTER", type := (.object "java/util/function/BiFunction"), accessFlags := 25, slot := 2, constantValue := 0 }]
  methods := #[k16m0, k16m1]
  instanceTypes := #[]
  staticTypes := #[(.object "java/util/function/BiFunction"), (.object "java/util/function/BiFunction"), (.object "java/util/function/BiFunction")]
  resolved := Array.replicate 194 none
  statics := some 1 }

def pool17 : Array CpInfo := pool [(1, .class_ 2), (0, u "java/lang/Math"), (1, .class_ 6), (1, u "java/lang/Object"), (0, u "<init>"), (0, u "()V"), (89, .class_ 100), (1, u "java/lang/Math$RandomNumberGeneratorHolder"), (71, u "negativeZeroFloatBits"), (0, u "J"), (2, u "negativeZeroDoubleBits"), (21, u "max"), (46, u "$assertionsDisabled"), (0, u "Z"), (88, u "(II)I"), (2, u "twoToTheDoubleScaleDown"), (0, u "D"), (4, u "twoToTheDoubleScaleUp"), (9, u "E"), (3, u "PI"), (2, u "TAU"), (2, u "DEGREES_TO_RADIANS"), (0, u "RADIANS_TO_DEGREES")] 94

def k17m0 : Method := { name := "<init>", desc := "()V", sig := { parameters := [], returnType := none }, accessFlags := 2, code := none }
def k17c1 : Code := { maxStack := 2, maxLocals := 2, code := jdk_29_method_65_code, exceptionTable := #[], attributes := #[] }
def k17m1 : Method := { name := "max", desc := "(II)I", sig := { parameters := [.int, .int], returnType := some .int }, accessFlags := 9, code := some k17c1 }
/-- java/lang/Math -/
def k17 : Class := { plain "java/lang/Math" (some 0) with
  accessFlags := 49
  interfaces := #[]
  cf := some (fileOf pool17 1 #[.nestMembers #[98]] #[{ accessFlags := 2, nameIndex := 7, descriptorIndex := 8, attributes := #[] }, { accessFlags := 9, nameIndex := 198, descriptorIndex := 335, attributes := #[] }] 49 4 #[] #[{ accessFlags := 25, nameIndex := 354, descriptorIndex := 339, attributes := #[] }, { accessFlags := 25, nameIndex := 358, descriptorIndex := 339, attributes := #[] }, { accessFlags := 25, nameIndex := 361, descriptorIndex := 339, attributes := #[] }, { accessFlags := 26, nameIndex := 364, descriptorIndex := 339, attributes := #[] }, { accessFlags := 26, nameIndex := 365, descriptorIndex := 339, attributes := #[] }, { accessFlags := 26, nameIndex := 172, descriptorIndex := 173, attributes := #[] }, { accessFlags := 26, nameIndex := 176, descriptorIndex := 173, attributes := #[] }, { accessFlags := 8, nameIndex := 344, descriptorIndex := 339, attributes := #[] }, { accessFlags := 8, nameIndex := 338, descriptorIndex := 339, attributes := #[] }, { accessFlags := 4120, nameIndex := 245, descriptorIndex := 246, attributes := #[] }])
  fields := #[{ name := "E", type := .double, accessFlags := 25, slot := 0, constantValue := 0 }, { name := "PI", type := .double, accessFlags := 25, slot := 1, constantValue := 0 }, { name := "TAU", type := .double, accessFlags := 25, slot := 2, constantValue := 0 }, { name := "DEGREES_TO_RADIANS", type := .double, accessFlags := 26, slot := 3, constantValue := 0 }, { name := "RADIANS_TO_DEGREES", type := .double, accessFlags := 26, slot := 4, constantValue := 0 }, { name := "negativeZeroFloatBits", type := .long, accessFlags := 26, slot := 5, constantValue := 0 }, { name := "negativeZeroDoubleBits", type := .long, accessFlags := 26, slot := 6, constantValue := 0 }, { name := "twoToTheDoubleScaleUp", type := .double, accessFlags := 8, slot := 7, constantValue := 0 }, { name := "twoToTheDoubleScaleDown", type := .double, accessFlags := 8, slot := 8, constantValue := 0 }, { name := "$assertionsDisabled", type := .boolean, accessFlags := 4120, slot := 9, constantValue := 0 }]
  methods := #[k17m0, k17m1]
  instanceTypes := #[]
  staticTypes := #[.double, .double, .double, .double, .double, .long, .long, .double, .double, .boolean]
  resolved := Array.replicate 460 none
  statics := none }

def pool18 : Array CpInfo := pool [(9, u "<init>"), (6, .class_ 18), (1, u "java/lang/Object"), (0, u "()V"), (1, .class_ 23), (1, u "jdk/internal/util/ArraysSupport"), (0, u "LOG2_ARRAY_LONG_INDEX_SCALE"), (0, u "I"), (2, u "U"), (0, u "Ljdk/internal/misc/Unsafe;"), (8, u "BIG_ENDIAN"), (0, u "Z"), (8, u "LOG2_BYTE_BIT_SIZE"), (4, u "LOG2_ARRAY_INT_INDEX_SCALE"), (54, u "JLA"), (0, u "Ljdk/internal/access/JavaLangAccess;"), (11, u "LOG2_ARRAY_BOOLEAN_INDEX_SCALE"), (9, u "LOG2_ARRAY_BYTE_INDEX_SCALE"), (5, u "LOG2_ARRAY_CHAR_INDEX_SCALE"), (5, u "LOG2_ARRAY_SHORT_INDEX_SCALE"), (18, u "LOG2_ARRAY_FLOAT_INDEX_SCALE"), (24, u "LOG2_ARRAY_DOUBLE_INDEX_SCALE"), (89, u "T_BOOLEAN"), (2, u "T_CHAR"), (1, u "T_FLOAT"), (1, u "T_DOUBLE"), (1, u "T_BYTE"), (1, u "T_SHORT"), (1, u "T_INT"), (1, u "T_LONG"), (1, u "SOFT_MAX_ARRAY_LENGTH")] 83

def k18m0 : Method := { name := "<init>", desc := "()V", sig := { parameters := [], returnType := none }, accessFlags := 2, code := none }
/-- jdk/internal/util/ArraysSupport -/
def k18 : Class := { plain "jdk/internal/util/ArraysSupport" (some 0) with
  accessFlags := 33
  interfaces := #[]
  cf := some (fileOf pool18 21 #[] #[{ accessFlags := 2, nameIndex := 9, descriptorIndex := 19, attributes := #[] }] 33 16 #[] #[{ accessFlags := 24, nameIndex := 28, descriptorIndex := 29, attributes := #[] }, { accessFlags := 26, nameIndex := 38, descriptorIndex := 39, attributes := #[] }, { accessFlags := 25, nameIndex := 121, descriptorIndex := 25, attributes := #[] }, { accessFlags := 25, nameIndex := 131, descriptorIndex := 25, attributes := #[] }, { accessFlags := 25, nameIndex := 137, descriptorIndex := 25, attributes := #[] }, { accessFlags := 25, nameIndex := 143, descriptorIndex := 25, attributes := #[] }, { accessFlags := 25, nameIndex := 53, descriptorIndex := 25, attributes := #[] }, { accessFlags := 25, nameIndex := 24, descriptorIndex := 25, attributes := #[] }, { accessFlags := 25, nameIndex := 162, descriptorIndex := 25, attributes := #[] }, { accessFlags := 25, nameIndex := 187, descriptorIndex := 25, attributes := #[] }, { accessFlags := 26, nameIndex := 48, descriptorIndex := 25, attributes := #[] }, { accessFlags := 25, nameIndex := 277, descriptorIndex := 25, attributes := #[] }, { accessFlags := 25, nameIndex := 280, descriptorIndex := 25, attributes := #[] }, { accessFlags := 25, nameIndex := 282, descriptorIndex := 25, attributes := #[] }, { accessFlags := 25, nameIndex := 284, descriptorIndex := 25, attributes := #[] }, { accessFlags := 25, nameIndex := 286, descriptorIndex := 25, attributes := #[] }, { accessFlags := 25, nameIndex := 288, descriptorIndex := 25, attributes := #[] }, { accessFlags := 25, nameIndex := 290, descriptorIndex := 25, attributes := #[] }, { accessFlags := 25, nameIndex := 292, descriptorIndex := 25, attributes := #[] }, { accessFlags := 26, nameIndex := 108, descriptorIndex := 109, attributes := #[] }, { accessFlags := 25, nameIndex := 294, descriptorIndex := 25, attributes := #[] }])
  fields := #[{ name := "U", type := (.object "jdk/internal/misc/Unsafe"), accessFlags := 24, slot := 0, constantValue := 0 }, { name := "BIG_ENDIAN", type := .boolean, accessFlags := 26, slot := 1, constantValue := 0 }, { name := "LOG2_ARRAY_BOOLEAN_INDEX_SCALE", type := .int, accessFlags := 25, slot := 2, constantValue := 0 }, { name := "LOG2_ARRAY_BYTE_INDEX_SCALE", type := .int, accessFlags := 25, slot := 3, constantValue := 0 }, { name := "LOG2_ARRAY_CHAR_INDEX_SCALE", type := .int, accessFlags := 25, slot := 4, constantValue := 0 }, { name := "LOG2_ARRAY_SHORT_INDEX_SCALE", type := .int, accessFlags := 25, slot := 5, constantValue := 0 }, { name := "LOG2_ARRAY_INT_INDEX_SCALE", type := .int, accessFlags := 25, slot := 6, constantValue := 0 }, { name := "LOG2_ARRAY_LONG_INDEX_SCALE", type := .int, accessFlags := 25, slot := 7, constantValue := 0 }, { name := "LOG2_ARRAY_FLOAT_INDEX_SCALE", type := .int, accessFlags := 25, slot := 8, constantValue := 0 }, { name := "LOG2_ARRAY_DOUBLE_INDEX_SCALE", type := .int, accessFlags := 25, slot := 9, constantValue := 0 }, { name := "LOG2_BYTE_BIT_SIZE", type := .int, accessFlags := 26, slot := 10, constantValue := 0 }, { name := "T_BOOLEAN", type := .int, accessFlags := 25, slot := 11, constantValue := 0 }, { name := "T_CHAR", type := .int, accessFlags := 25, slot := 12, constantValue := 0 }, { name := "T_FLOAT", type := .int, accessFlags := 25, slot := 13, constantValue := 0 }, { name := "T_DOUBLE", type := .int, accessFlags := 25, slot := 14, constantValue := 0 }, { name := "T_BYTE", type := .int, accessFlags := 25, slot := 15, constantValue := 0 }, { name := "T_SHORT", type := .int, accessFlags := 25, slot := 16, constantValue := 0 }, { name := "T_INT", type := .int, accessFlags := 25, slot := 17, constantValue := 0 }, { name := "T_LONG", type := .int, accessFlags := 25, slot := 18, constantValue := 0 }, { name := "JLA", type := (.object "jdk/internal/access/JavaLangAccess"), accessFlags := 26, slot := 19, constantValue := 0 }, { name := "SOFT_MAX_ARRAY_LENGTH", type := .int, accessFlags := 25, slot := 20, constantValue := 0 }]
  methods := #[k18m0]
  instanceTypes := #[]
  staticTypes := #[(.object "jdk/internal/misc/Unsafe"), .boolean, .int, .int, .int, .int, .int, .int, .int, .int, .int, .int, .int, .int, .int, .int, .int, .int, .int, (.object "jdk/internal/access/JavaLangAccess"), .int]
  resolved := Array.replicate 378 none
  statics := none }

/-- the primitive byte -/
def k19 : Class := { plain "byte" none with kind := .primitive 'B', accessFlags := 0x411 }
/-- [B -/
def k20 : Class := { plain "[B" (some 0) with kind := .array 19 .byte, interfaces := #[15, 6], accessFlags := 1041 }

/-- the primitive int -/
def k21 : Class := { plain "int" none with kind := .primitive 'I', accessFlags := 0x411 }
/-- [I -/
def k22 : Class := { plain "[I" (some 0) with kind := .array 21 .int, interfaces := #[15, 6], accessFlags := 1041 }

def heap : Heap := #[{ cls := 11, slots := #[.long 0, .int 1, .null, .int 0, .null, .int 0, .int 0], vm := .statics 11 },
  { cls := 16, slots := #[.null, .null, .null], vm := .statics 16 }]
def classes : Array Class := #[k0, k1, k2, k3, k4, k5, k6, k7, k8, k9, k10, k11, k12, k13, k14, k15, k16, k17, k18, k19, k20, k21, k22]
def interned : List (Array UInt16 × Addr) := []
def slotsUsed : Nat := 10
def theMethod : MethodId := ⟨1, 1⟩
def args0 : Array Value := #[.int 4, .int 3, .int 9, .int 20, .int 31]
def aboutOver (below : List Frame) : State where
  vm := { classes := classes, interned := interned.toArray }
  heap := heap
  slotsUsed := slotsUsed
  threads := #[{ frames := .invoking theMethod args0 :: below }]
def below0 : List Frame := [.native { method := ⟨0, 0⟩, args := #[] }]
def about1 : State := aboutOver below0
def p0 : Program := .bare "" "" ""
def e0 : Env := launch0.env 0 0 0
theorem w_frames : about1.frames = Frame.invoking theMethod args0 :: below0 := rfl
set_option maxRecDepth 65536 in
theorem w_args : argsFit about1.vm theMethod args0 = true := by decide +kernel
set_option maxRecDepth 65536 in
theorem w_heap : heapFits about1 = true := by decide +kernel
set_option maxRecDepth 65536 in
theorem w_runnable : about1.curStatus? = some .runnable := by decide +kernel
set_option maxRecDepth 65536 in
theorem w_alone : about1.alone = true := by decide +kernel
set_option maxRecDepth 65536 in
theorem w_named : about1.methodNamed? x = some theMethod := by decide +kernel
set_option maxRecDepth 65536 in
theorem w_hears : about1.hears theMethod below0 = true := by decide +kernel
set_option maxRecDepth 65536 in
theorem w_ripe : about1.ripe theMethod args0 below0 = true := by decide +kernel
theorem w_running : about1.status = .running := rfl
set_option maxRecDepth 65536 in
theorem w_room : about1.hasRoom e0.platform room_1 = true :=
  launch0.hasRoom_least _ room_1 (by decide +kernel) (by decide +kernel) (by decide +kernel) (by decide +kernel) (by decide +kernel) (by decide +kernel)
theorem allAtoms_all (ts : List Jvm.Cond) (a : Array Jvm.Value) (st : Jvm.State) : (allAtoms ts).before a st = ts.all (fun c => c.before a st) := by
  induction ts with
  | nil => rfl
  | cons c t ih =>
    show (Jvm.Cond.and c (allAtoms t)).before a st = _
    rw [Jvm.Cond.before_and, ih, List.all_cons]
def words1 : List Jvm.Cond := Jvm.Cond.code x code maxLocals ret :: tables_1
/-- a 'code' word, met by the world's own term for the bytes: nothing is compared byte by byte -/
theorem code_word {y : MethodName} {bytes : ByteArray} {mx : Nat} {rt : Option FieldType} {a : Array Value} {s : State} {m : MethodId} {meth : Method} {c : Code} (h1 : s.methodNamed? y = some m) (h2 : s.vm.method? m = some meth) (h3 : meth.code = some c) (h4 : c.code = bytes)
    (h5 : (c.maxLocals == mx && c.exceptionTable.isEmpty && decide (c.maxStack ≤ mostOperands) && decide (meth.sig.returnType = rt) && !meth.locks && decide (parseMethodDescriptor y.desc = some meth.sig)) = true) : (Jvm.Cond.code y bytes mx rt).before a s = true := by
  simp only [Bool.and_eq_true, beq_iff_eq, Bool.not_eq_true', decide_eq_true_eq] at h5
  obtain ⟨⟨⟨⟨⟨g1, g2⟩, g3⟩, g4⟩, g5⟩, g6⟩ := h5
  simp [Cond.before, Cond.holds, Cond.value, h1, h2, h3, h4, g1, g2, g3, g4, g5, g6]
def isCode : Jvm.Cond → Bool
  | .code _ _ _ _ => true
  | _ => false
theorem all_split {L : List Jvm.Cond} {P : Jvm.Cond → Bool} (h1 : L.all (fun c => isCode c || P c) = true) (h2 : ∀ c ∈ L.filter isCode, P c = true) : L.all P = true := by
  refine List.all_eq_true.mpr fun c hc => ?_
  have h := List.all_eq_true.mp h1 c hc
  rcases Bool.eq_false_or_eq_true (isCode c) with hi | hi
  · exact h2 c (List.mem_filter.mpr ⟨hc, hi⟩)
  · simpa [hi] using h
set_option maxRecDepth 65536 in
theorem w_c0 : (Jvm.Cond.code x code maxLocals ret).before args0 about1 = true := code_word (m := ⟨1, 1⟩) (meth := k1m1) (c := k1c1) (by decide +kernel) rfl rfl rfl (by decide +kernel)
set_option maxRecDepth 65536 in
theorem w_c1 : (Jvm.Cond.code ({ cls := "com/example/cloud_to_core/cloudtocore/model/SupportedFeatures", name := "of", desc := "([I)Ljava/lang/String;" } : Jvm.MethodName) prog_29_method_3_code (8 : Nat) (Option.some (Jvm.ClassFile.FieldType.object "java/lang/String"))).before args0 about1 = true := code_word (m := ⟨2, 1⟩) (meth := k2m1) (c := k2c1) (by decide +kernel) rfl rfl rfl (by decide +kernel)
set_option maxRecDepth 65536 in
theorem w_c2 : (Jvm.Cond.code ({ cls := "java/lang/StringBuilder", name := "<init>", desc := "(I)V" } : Jvm.MethodName) jdk_67_method_2_code (2 : Nat) (Option.none : Option Jvm.ClassFile.FieldType)).before args0 about1 = true := code_word (m := ⟨8, 1⟩) (meth := k8m1) (c := k8c1) (by decide +kernel) rfl rfl rfl (by decide +kernel)
set_option maxRecDepth 65536 in
theorem w_c3 : (Jvm.Cond.code ({ cls := "java/lang/AbstractStringBuilder", name := "<init>", desc := "(I)V" } : Jvm.MethodName) jdk_68_method_2_code (2 : Nat) (Option.none : Option Jvm.ClassFile.FieldType)).before args0 about1 = true := code_word (m := ⟨5, 1⟩) (meth := k5m1) (c := k5c1) (by decide +kernel) rfl rfl rfl (by decide +kernel)
set_option maxRecDepth 65536 in
theorem w_c4 : (Jvm.Cond.code ({ cls := "java/lang/Object", name := "<init>", desc := "()V" } : Jvm.MethodName) object_method_1_code (1 : Nat) (Option.none : Option Jvm.ClassFile.FieldType)).before args0 about1 = true := code_word (m := ⟨0, 0⟩) (meth := k0m0) (c := k0c0) (by decide +kernel) rfl rfl rfl (by decide +kernel)
set_option maxRecDepth 65536 in
theorem w_c5 : (Jvm.Cond.code ({ cls := "java/lang/Character", name := "forDigit", desc := "(II)C" } : Jvm.MethodName) jdk_89_method_92_code (2 : Nat) (Option.some Jvm.ClassFile.FieldType.char)).before args0 about1 = true := code_word (m := ⟨12, 0⟩) (meth := k12m0) (c := k12c0) (by decide +kernel) rfl rfl rfl (by decide +kernel)
set_option maxRecDepth 65536 in
theorem w_c6 : (Jvm.Cond.code ({ cls := "java/lang/StringBuilder", name := "append", desc := "(C)Ljava/lang/StringBuilder;" } : Jvm.MethodName) jdk_67_method_14_code (2 : Nat) (Option.some (Jvm.ClassFile.FieldType.object "java/lang/StringBuilder"))).before args0 about1 = true := code_word (m := ⟨8, 2⟩) (meth := k8m2) (c := k8c2) (by decide +kernel) rfl rfl rfl (by decide +kernel)
set_option maxRecDepth 65536 in
theorem w_c7 : (Jvm.Cond.code ({ cls := "java/lang/AbstractStringBuilder", name := "append", desc := "(C)Ljava/lang/AbstractStringBuilder;" } : Jvm.MethodName) jdk_68_method_31_code (2 : Nat) (Option.some (Jvm.ClassFile.FieldType.object "java/lang/AbstractStringBuilder"))).before args0 about1 = true := code_word (m := ⟨5, 4⟩) (meth := k5m4) (c := k5c4) (by decide +kernel) rfl rfl rfl (by decide +kernel)
set_option maxRecDepth 65536 in
theorem w_c8 : (Jvm.Cond.code ({ cls := "java/lang/AbstractStringBuilder", name := "ensureCapacityInternal", desc := "(I)V" } : Jvm.MethodName) jdk_68_method_9_code (3 : Nat) (Option.none : Option Jvm.ClassFile.FieldType)).before args0 about1 = true := code_word (m := ⟨5, 3⟩) (meth := k5m3) (c := k5c3) (by decide +kernel) rfl rfl rfl (by decide +kernel)
set_option maxRecDepth 65536 in
theorem w_c9 : (Jvm.Cond.code ({ cls := "java/lang/AbstractStringBuilder", name := "isLatin1", desc := "()Z" } : Jvm.MethodName) jdk_68_method_68_code (1 : Nat) (Option.some Jvm.ClassFile.FieldType.boolean)).before args0 about1 = true := code_word (m := ⟨5, 6⟩) (meth := k5m6) (c := k5c6) (by decide +kernel) rfl rfl rfl (by decide +kernel)
set_option maxRecDepth 65536 in
theorem w_c10 : (Jvm.Cond.code ({ cls := "java/lang/StringLatin1", name := "canEncode", desc := "(C)Z" } : Jvm.MethodName) jdk_43_method_3_code (1 : Nat) (Option.some Jvm.ClassFile.FieldType.boolean)).before args0 about1 = true := code_word (m := ⟨13, 2⟩) (meth := k13m2) (c := k13c2) (by decide +kernel) rfl rfl rfl (by decide +kernel)
set_option maxRecDepth 65536 in
theorem w_c11 : (Jvm.Cond.code ({ cls := "java/lang/StringBuilder", name := "toString", desc := "()Ljava/lang/String;" } : Jvm.MethodName) jdk_67_method_42_code (1 : Nat) (Option.some (Jvm.ClassFile.FieldType.object "java/lang/String"))).before args0 about1 = true := code_word (m := ⟨8, 3⟩) (meth := k8m3) (c := k8c3) (by decide +kernel) rfl rfl rfl (by decide +kernel)
set_option maxRecDepth 65536 in
theorem w_c12 : (Jvm.Cond.code ({ cls := "java/lang/String", name := "<init>", desc := "(Ljava/lang/StringBuilder;)V" } : Jvm.MethodName) jdk_42_method_53_code (2 : Nat) (Option.none : Option Jvm.ClassFile.FieldType)).before args0 about1 = true := code_word (m := ⟨11, 1⟩) (meth := k11m1) (c := k11c1) (by decide +kernel) rfl rfl rfl (by decide +kernel)
set_option maxRecDepth 65536 in
theorem w_c13 : (Jvm.Cond.code ({ cls := "java/lang/String", name := "<init>", desc := "(Ljava/lang/AbstractStringBuilder;Ljava/lang/Void;)V" } : Jvm.MethodName) jdk_42_method_150_code (5 : Nat) (Option.none : Option Jvm.ClassFile.FieldType)).before args0 about1 = true := code_word (m := ⟨11, 4⟩) (meth := k11m4) (c := k11c4) (by decide +kernel) rfl rfl rfl (by decide +kernel)
set_option maxRecDepth 65536 in
theorem w_c14 : (Jvm.Cond.code ({ cls := "java/lang/AbstractStringBuilder", name := "getValue", desc := "()[B" } : Jvm.MethodName) jdk_68_method_64_code (1 : Nat) (Option.some (Jvm.ClassFile.FieldType.array Jvm.ClassFile.FieldType.byte))).before args0 about1 = true := code_word (m := ⟨5, 5⟩) (meth := k5m5) (c := k5c5) (by decide +kernel) rfl rfl rfl (by decide +kernel)
set_option maxRecDepth 65536 in
theorem w_c15 : (Jvm.Cond.code ({ cls := "java/lang/StringBuilder", name := "length", desc := "()I" } : Jvm.MethodName) jdk_67_method_93_code (1 : Nat) (Option.some Jvm.ClassFile.FieldType.int)).before args0 about1 = true := code_word (m := ⟨8, 4⟩) (meth := k8m4) (c := k8c4) (by decide +kernel) rfl rfl rfl (by decide +kernel)
set_option maxRecDepth 65536 in
theorem w_c16 : (Jvm.Cond.code ({ cls := "java/lang/AbstractStringBuilder", name := "length", desc := "()I" } : Jvm.MethodName) jdk_68_method_6_code (1 : Nat) (Option.some Jvm.ClassFile.FieldType.int)).before args0 about1 = true := code_word (m := ⟨5, 2⟩) (meth := k5m2) (c := k5c2) (by decide +kernel) rfl rfl rfl (by decide +kernel)
set_option maxRecDepth 65536 in
theorem w_c17 : (Jvm.Cond.code ({ cls := "java/util/Arrays", name := "copyOfRange", desc := "([BII)[B" } : Jvm.MethodName) jdk_65_method_132_code (3 : Nat) (Option.some (Jvm.ClassFile.FieldType.array Jvm.ClassFile.FieldType.byte))).before args0 about1 = true := code_word (m := ⟨14, 1⟩) (meth := k14m1) (c := k14c1) (by decide +kernel) rfl rfl rfl (by decide +kernel)
set_option maxRecDepth 65536 in
theorem w_c18 : (Jvm.Cond.code ({ cls := "com/example/cloud_to_core/cloudtocore/model/SupportedFeaturesOfPinLaw", name := "hexLength", desc := "(J)I" } : Jvm.MethodName) method_4_code (2 : Nat) (Option.some Jvm.ClassFile.FieldType.int)).before args0 about1 = true := code_word (m := ⟨1, 3⟩) (meth := k1m3) (c := k1c3) (by decide +kernel) rfl rfl rfl (by decide +kernel)
set_option maxRecDepth 65536 in
theorem w_c19 : (Jvm.Cond.code ({ cls := "java/lang/String", name := "length", desc := "()I" } : Jvm.MethodName) jdk_42_method_54_code (1 : Nat) (Option.some Jvm.ClassFile.FieldType.int)).before args0 about1 = true := code_word (m := ⟨11, 2⟩) (meth := k11m2) (c := k11c2) (by decide +kernel) rfl rfl rfl (by decide +kernel)
set_option maxRecDepth 65536 in
theorem w_c20 : (Jvm.Cond.code ({ cls := "java/lang/String", name := "coder", desc := "()B" } : Jvm.MethodName) jdk_42_method_152_code (1 : Nat) (Option.some Jvm.ClassFile.FieldType.byte)).before args0 about1 = true := code_word (m := ⟨11, 5⟩) (meth := k11m5) (c := k11c5) (by decide +kernel) rfl rfl rfl (by decide +kernel)
set_option maxRecDepth 65536 in
theorem w_c21 : (Jvm.Cond.code ({ cls := "com/example/cloud_to_core/cloudtocore/model/SupportedFeaturesOfPinLaw", name := "digitOk", desc := "(Ljava/lang/String;IIJ)Z" } : Jvm.MethodName) method_5_code (7 : Nat) (Option.some Jvm.ClassFile.FieldType.boolean)).before args0 about1 = true := code_word (m := ⟨1, 4⟩) (meth := k1m4) (c := k1c4) (by decide +kernel) rfl rfl rfl (by decide +kernel)
set_option maxRecDepth 65536 in
theorem w_c22 : (Jvm.Cond.code ({ cls := "java/lang/String", name := "charAt", desc := "(I)C" } : Jvm.MethodName) jdk_42_method_56_code (2 : Nat) (Option.some Jvm.ClassFile.FieldType.char)).before args0 about1 = true := code_word (m := ⟨11, 3⟩) (meth := k11m3) (c := k11c3) (by decide +kernel) rfl rfl rfl (by decide +kernel)
set_option maxRecDepth 65536 in
theorem w_c23 : (Jvm.Cond.code ({ cls := "java/lang/String", name := "isLatin1", desc := "()Z" } : Jvm.MethodName) jdk_42_method_154_code (1 : Nat) (Option.some Jvm.ClassFile.FieldType.boolean)).before args0 about1 = true := code_word (m := ⟨11, 6⟩) (meth := k11m6) (c := k11c6) (by decide +kernel) rfl rfl rfl (by decide +kernel)
set_option maxRecDepth 65536 in
theorem w_c24 : (Jvm.Cond.code ({ cls := "java/lang/StringLatin1", name := "charAt", desc := "([BI)C" } : Jvm.MethodName) jdk_43_method_2_code (2 : Nat) (Option.some Jvm.ClassFile.FieldType.char)).before args0 about1 = true := code_word (m := ⟨13, 1⟩) (meth := k13m1) (c := k13c1) (by decide +kernel) rfl rfl rfl (by decide +kernel)
set_option maxRecDepth 65536 in
theorem w_c25 : (Jvm.Cond.code ({ cls := "java/lang/String", name := "checkIndex", desc := "(II)V" } : Jvm.MethodName) jdk_42_method_155_code (2 : Nat) (Option.none : Option Jvm.ClassFile.FieldType)).before args0 about1 = true := code_word (m := ⟨11, 7⟩) (meth := k11m7) (c := k11c7) (by decide +kernel) rfl rfl rfl (by decide +kernel)
set_option maxRecDepth 65536 in
theorem w_c26 : (Jvm.Cond.code ({ cls := "jdk/internal/util/Preconditions", name := "checkIndex", desc := "(IILjava/util/function/BiFunction;)I" } : Jvm.MethodName) jdk_41_method_11_code (3 : Nat) (Option.some Jvm.ClassFile.FieldType.int)).before args0 about1 = true := code_word (m := ⟨16, 1⟩) (meth := k16m1) (c := k16c1) (by decide +kernel) rfl rfl rfl (by decide +kernel)
set_option maxRecDepth 65536 in
theorem w_c27 : (Jvm.Cond.code ({ cls := "com/example/cloud_to_core/cloudtocore/model/SupportedFeaturesOfPinLaw", name := "bit", desc := "(I)J" } : Jvm.MethodName) method_3_code (1 : Nat) (Option.some Jvm.ClassFile.FieldType.long)).before args0 about1 = true := code_word (m := ⟨1, 2⟩) (meth := k1m2) (c := k1c2) (by decide +kernel) rfl rfl rfl (by decide +kernel)
set_option maxRecDepth 65536 in
theorem w_c28 : (Jvm.Cond.code ({ cls := "java/lang/Math", name := "max", desc := "(II)I" } : Jvm.MethodName) jdk_29_method_65_code (2 : Nat) (Option.some Jvm.ClassFile.FieldType.int)).before args0 about1 = true := code_word (m := ⟨17, 1⟩) (meth := k17m1) (c := k17c1) (by decide +kernel) rfl rfl rfl (by decide +kernel)
def codes1 : List Jvm.Cond := [Jvm.Cond.code x code maxLocals ret, Jvm.Cond.code ({ cls := "com/example/cloud_to_core/cloudtocore/model/SupportedFeatures", name := "of", desc := "([I)Ljava/lang/String;" } : Jvm.MethodName) prog_29_method_3_code (8 : Nat) (Option.some (Jvm.ClassFile.FieldType.object "java/lang/String")), Jvm.Cond.code ({ cls := "java/lang/StringBuilder", name := "<init>", desc := "(I)V" } : Jvm.MethodName) jdk_67_method_2_code (2 : Nat) (Option.none : Option Jvm.ClassFile.FieldType), Jvm.Cond.code ({ cls := "java/lang/AbstractStringBuilder", name := "<init>", desc := "(I)V" } : Jvm.MethodName) jdk_68_method_2_code (2 : Nat) (Option.none : Option Jvm.ClassFile.FieldType), Jvm.Cond.code ({ cls := "java/lang/Object", name := "<init>", desc := "()V" } : Jvm.MethodName) object_method_1_code (1 : Nat) (Option.none : Option Jvm.ClassFile.FieldType), Jvm.Cond.code ({ cls := "java/lang/Character", name := "forDigit", desc := "(II)C" } : Jvm.MethodName) jdk_89_method_92_code (2 : Nat) (Option.some Jvm.ClassFile.FieldType.char), Jvm.Cond.code ({ cls := "java/lang/StringBuilder", name := "append", desc := "(C)Ljava/lang/StringBuilder;" } : Jvm.MethodName) jdk_67_method_14_code (2 : Nat) (Option.some (Jvm.ClassFile.FieldType.object "java/lang/StringBuilder")), Jvm.Cond.code ({ cls := "java/lang/AbstractStringBuilder", name := "append", desc := "(C)Ljava/lang/AbstractStringBuilder;" } : Jvm.MethodName) jdk_68_method_31_code (2 : Nat) (Option.some (Jvm.ClassFile.FieldType.object "java/lang/AbstractStringBuilder")), Jvm.Cond.code ({ cls := "java/lang/AbstractStringBuilder", name := "ensureCapacityInternal", desc := "(I)V" } : Jvm.MethodName) jdk_68_method_9_code (3 : Nat) (Option.none : Option Jvm.ClassFile.FieldType), Jvm.Cond.code ({ cls := "java/lang/AbstractStringBuilder", name := "isLatin1", desc := "()Z" } : Jvm.MethodName) jdk_68_method_68_code (1 : Nat) (Option.some Jvm.ClassFile.FieldType.boolean), Jvm.Cond.code ({ cls := "java/lang/StringLatin1", name := "canEncode", desc := "(C)Z" } : Jvm.MethodName) jdk_43_method_3_code (1 : Nat) (Option.some Jvm.ClassFile.FieldType.boolean), Jvm.Cond.code ({ cls := "java/lang/StringBuilder", name := "toString", desc := "()Ljava/lang/String;" } : Jvm.MethodName) jdk_67_method_42_code (1 : Nat) (Option.some (Jvm.ClassFile.FieldType.object "java/lang/String")), Jvm.Cond.code ({ cls := "java/lang/String", name := "<init>", desc := "(Ljava/lang/StringBuilder;)V" } : Jvm.MethodName) jdk_42_method_53_code (2 : Nat) (Option.none : Option Jvm.ClassFile.FieldType), Jvm.Cond.code ({ cls := "java/lang/String", name := "<init>", desc := "(Ljava/lang/AbstractStringBuilder;Ljava/lang/Void;)V" } : Jvm.MethodName) jdk_42_method_150_code (5 : Nat) (Option.none : Option Jvm.ClassFile.FieldType), Jvm.Cond.code ({ cls := "java/lang/AbstractStringBuilder", name := "getValue", desc := "()[B" } : Jvm.MethodName) jdk_68_method_64_code (1 : Nat) (Option.some (Jvm.ClassFile.FieldType.array Jvm.ClassFile.FieldType.byte)), Jvm.Cond.code ({ cls := "java/lang/StringBuilder", name := "length", desc := "()I" } : Jvm.MethodName) jdk_67_method_93_code (1 : Nat) (Option.some Jvm.ClassFile.FieldType.int), Jvm.Cond.code ({ cls := "java/lang/AbstractStringBuilder", name := "length", desc := "()I" } : Jvm.MethodName) jdk_68_method_6_code (1 : Nat) (Option.some Jvm.ClassFile.FieldType.int), Jvm.Cond.code ({ cls := "java/util/Arrays", name := "copyOfRange", desc := "([BII)[B" } : Jvm.MethodName) jdk_65_method_132_code (3 : Nat) (Option.some (Jvm.ClassFile.FieldType.array Jvm.ClassFile.FieldType.byte)), Jvm.Cond.code ({ cls := "com/example/cloud_to_core/cloudtocore/model/SupportedFeaturesOfPinLaw", name := "hexLength", desc := "(J)I" } : Jvm.MethodName) method_4_code (2 : Nat) (Option.some Jvm.ClassFile.FieldType.int), Jvm.Cond.code ({ cls := "java/lang/String", name := "length", desc := "()I" } : Jvm.MethodName) jdk_42_method_54_code (1 : Nat) (Option.some Jvm.ClassFile.FieldType.int), Jvm.Cond.code ({ cls := "java/lang/String", name := "coder", desc := "()B" } : Jvm.MethodName) jdk_42_method_152_code (1 : Nat) (Option.some Jvm.ClassFile.FieldType.byte), Jvm.Cond.code ({ cls := "com/example/cloud_to_core/cloudtocore/model/SupportedFeaturesOfPinLaw", name := "digitOk", desc := "(Ljava/lang/String;IIJ)Z" } : Jvm.MethodName) method_5_code (7 : Nat) (Option.some Jvm.ClassFile.FieldType.boolean), Jvm.Cond.code ({ cls := "java/lang/String", name := "charAt", desc := "(I)C" } : Jvm.MethodName) jdk_42_method_56_code (2 : Nat) (Option.some Jvm.ClassFile.FieldType.char), Jvm.Cond.code ({ cls := "java/lang/String", name := "isLatin1", desc := "()Z" } : Jvm.MethodName) jdk_42_method_154_code (1 : Nat) (Option.some Jvm.ClassFile.FieldType.boolean), Jvm.Cond.code ({ cls := "java/lang/StringLatin1", name := "charAt", desc := "([BI)C" } : Jvm.MethodName) jdk_43_method_2_code (2 : Nat) (Option.some Jvm.ClassFile.FieldType.char), Jvm.Cond.code ({ cls := "java/lang/String", name := "checkIndex", desc := "(II)V" } : Jvm.MethodName) jdk_42_method_155_code (2 : Nat) (Option.none : Option Jvm.ClassFile.FieldType), Jvm.Cond.code ({ cls := "jdk/internal/util/Preconditions", name := "checkIndex", desc := "(IILjava/util/function/BiFunction;)I" } : Jvm.MethodName) jdk_41_method_11_code (3 : Nat) (Option.some Jvm.ClassFile.FieldType.int), Jvm.Cond.code ({ cls := "com/example/cloud_to_core/cloudtocore/model/SupportedFeaturesOfPinLaw", name := "bit", desc := "(I)J" } : Jvm.MethodName) method_3_code (1 : Nat) (Option.some Jvm.ClassFile.FieldType.long), Jvm.Cond.code ({ cls := "java/lang/Math", name := "max", desc := "(II)I" } : Jvm.MethodName) jdk_29_method_65_code (2 : Nat) (Option.some Jvm.ClassFile.FieldType.int)]
set_option maxRecDepth 65536 in
theorem codes_eq : words1.filter isCode = codes1 := rfl
theorem w_codes : ∀ c ∈ words1.filter isCode, c.before args0 about1 = true := by
  rw [codes_eq]
  intro c hc
  simp only [codes1, List.mem_cons, List.not_mem_nil, or_false] at hc
  rcases hc with rfl | rfl | rfl | rfl | rfl | rfl | rfl | rfl | rfl | rfl | rfl | rfl | rfl | rfl | rfl | rfl | rfl | rfl | rfl | rfl | rfl | rfl | rfl | rfl | rfl | rfl | rfl | rfl | rfl
  · exact w_c0
  · exact w_c1
  · exact w_c2
  · exact w_c3
  · exact w_c4
  · exact w_c5
  · exact w_c6
  · exact w_c7
  · exact w_c8
  · exact w_c9
  · exact w_c10
  · exact w_c11
  · exact w_c12
  · exact w_c13
  · exact w_c14
  · exact w_c15
  · exact w_c16
  · exact w_c17
  · exact w_c18
  · exact w_c19
  · exact w_c20
  · exact w_c21
  · exact w_c22
  · exact w_c23
  · exact w_c24
  · exact w_c25
  · exact w_c26
  · exact w_c27
  · exact w_c28
set_option maxRecDepth 65536 in
theorem w_t1 : (words1.take 24).all (fun c => isCode c || c.before args0 about1) = true := by decide +kernel
set_option maxRecDepth 65536 in
theorem w_t2 : ((words1.drop 24).take 24).all (fun c => isCode c || c.before args0 about1) = true := by decide +kernel
set_option maxRecDepth 65536 in
theorem w_t3 : (((words1.drop 24).drop 24).take 24).all (fun c => isCode c || c.before args0 about1) = true := by decide +kernel
set_option maxRecDepth 65536 in
theorem w_t4 : ((((words1.drop 24).drop 24).drop 24).take 24).all (fun c => isCode c || c.before args0 about1) = true := by decide +kernel
set_option maxRecDepth 65536 in
theorem w_t5 : (((((words1.drop 24).drop 24).drop 24).drop 24).take 24).all (fun c => isCode c || c.before args0 about1) = true := by decide +kernel
set_option maxRecDepth 65536 in
theorem w_t6 : ((((((words1.drop 24).drop 24).drop 24).drop 24).drop 24).take 24).all (fun c => isCode c || c.before args0 about1) = true := by decide +kernel
set_option maxRecDepth 65536 in
theorem w_t7 : ((((((words1.drop 24).drop 24).drop 24).drop 24).drop 24).drop 24).all (fun c => isCode c || c.before args0 about1) = true := by decide +kernel
theorem w_tables : (allAtoms (Jvm.Cond.code x code maxLocals ret :: tables_1)).before args0 about1 = true := by
  rw [allAtoms_all]
  show words1.all (fun c => c.before args0 about1) = true
  refine all_split ?_ w_codes
  rw [← List.take_append_drop 24 words1, List.all_append, w_t1, ← List.take_append_drop 24 (words1.drop 24), List.all_append, w_t2, ← List.take_append_drop 24 ((words1.drop 24).drop 24), List.all_append, w_t3, ← List.take_append_drop 24 (((words1.drop 24).drop 24).drop 24), List.all_append, w_t4, ← List.take_append_drop 24 ((((words1.drop 24).drop 24).drop 24).drop 24), List.all_append, w_t5, ← List.take_append_drop 24 (((((words1.drop 24).drop 24).drop 24).drop 24).drop 24), List.all_append, w_t6, w_t7]
  rfl
set_option maxRecDepth 65536 in
theorem w_rest : rest_1_c.before args0 about1 = true := by decide +kernel
set_option maxRecDepth 65536 in
theorem w_case : (Jvm.Cond.and given_1 narrow_1).before args0 about1 = true := by decide +kernel
theorem w_applies : (headSpec (Jvm.Cond.code x code maxLocals ret :: tables_1) room_1).applies x e0.platform about1 = true :=
  (Spec.applies_iff w_frames).mpr ⟨w_running, w_runnable, w_alone, w_named, w_hears, w_ripe, w_room, w_tables⟩
theorem atStart : AtStart classFile x code maxLocals ret World_1 tables_1 room_1 Calls_1 rest_1 Pre_1 launch0 p0 e0 about1 theMethod args0 below0 :=
  ⟨lists_1, trivial, launch0.admits_env _ _ _, launch0.least_env, fairChoices_fair.cas, fairChoices_fair.clock, w_frames, w_args, w_heap, w_applies, trivial, w_rest, w_case⟩
end start1
theorem witness_1 : WitnessClaimed_1 := ⟨start1.p0, start1.e0, start1.about1, start1.theMethod, start1.args0, start1.below0, start1.atStart⟩
end Jvm.Pilot.@@N@@
