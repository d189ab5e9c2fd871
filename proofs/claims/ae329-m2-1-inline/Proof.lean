import JvmDerived
import JvmDerived.Pilot.@@N@@Statement
import JvmDerived.Pilot.@@N@@Code
set_option linter.unusedVariables false
set_option linter.unusedSimpArgs false
set_option maxRecDepth 65536
set_option maxHeartbeats 40000000
namespace Jvm.RoadKit
open Sem ClassFile Op Lib Jvm.Stand Jvm.Free Jvm.LawKit
section New
variable {p : Program} {l : Launch} {e : Env} {R : Room} {s : State} {m : MethodId} {args : Array Value} {below : List Frame} {meth : Method} {c : Code} {T : State} {locs : List Loc} {cells slots : Nat}
theorem retI (X : Stand p l e R s m args below meth c T locs cells slots) (hx : p.tables.exec = Jvm.exec) {pc : Nat} {Ls : Array Slot} {z : Int32} {rest : List Value} (hret : meth.sig.returnType = some .int) (hd : decode c.code pc = .ok (.ireturn, 1)) {fs : List Frame}
    (hl : ∀ (f : JFrame) (acts : List Action), f.method = m → f.locked = none → f.entered = [] → (doReturn e (T.setTop f) acts (some (.int z))).1 = T.setFrames fs) : Steps p.tables e below (T.setTop (mkF m pc Ls (.int z :: rest))) (T.setFrames fs) := by
  have hm' : T.vm.method? m = some meth := X.method'
  have hn : narrow .int (.int z) = .int z := rfl
  show Steps p.tables e below (T.setTop { method := m, pc := pc, locals := Ls, stack := _ :: rest, locked := none }) _
  jvm_step X.here [X.here.top, hx, hd, hm', hret, hn]
  first | (intro acts; rw [hl _ acts rfl rfl rfl]) | rw [hl _ _ rfl rfl rfl]
  exact Steps.refl _
abbrev vI (x : Int32) : Slot := .val (.int x)
abbrev vJ (x : Int64) : Slot := .val (.long x)
abbrev vR (x : Addr) : Slot := .val (.ref x)
abbrev iI (x : Int32) : Value := .int x
abbrev iJ (x : Int64) : Value := .long x
abbrev iR (x : Addr) : Value := .ref x
abbrev SA {tb : Tables} {e : Env} {b : List Frame} {t : State} (T : State) (m : MethodId) (pc : Nat) (L : Array Slot) (S : List Value) : Prop := Steps tb e b (T.setTop (mkF m pc L S)) t
theorem wz {g : JFrame} {rest : List Value} {W : Nat} (h : 2 * g.monitorRoom + (rest.map fun v => v.category).sum = W) : 2 * g.monitorRoom + (rest.map fun v => v.category).sum ≤ W := Nat.le_of_eq h
/-- from one frame to another over the same heap -/
def own_Mid (X : Stand p l e R s m args below meth c T locs cells slots) (h : Heap) (F F' : JFrame) : Prop :=
  ∃ T', Stand p l e R s m args below meth c T' locs cells slots ∧ T'.heap = h ∧ ∀ t, Steps p.tables e below (T'.setTop F') t → Steps p.tables e below (T.setTop F) t
/-- no interface: known of one method of the class, said of another -/
theorem own_nf {s : State} {y z : MethodName} {args : Array Value} (hc : z.cls = y.cls) (h : NotFace s z) (hz : (Cond.instanceMethod z).before args s = true) : NotFace s y := fun r0 h0 => by
  obtain ⟨r1, -, h1, -, -, -⟩ := Cond.instanceMethod_spec hz
  have e1 := findClass_of_methodNamed h0
  have e2 := findClass_of_methodNamed h1
  rw [hc, e1] at e2
  obtain ⟨k, k1, k2⟩ := h r1 h1
  exact ⟨k, by rw [Option.some.inj e2]; exact k1, k2⟩
theorem own_same {s : State} {args : Array Value} {y : MethodName} (hi : (Cond.instanceMethod y).before args s = true) (hnf : NotFace s y) (hy : y.cls ≠ "java/lang/invoke/MethodHandle" ∧ y.cls ≠ "java/lang/invoke/VarHandle") : (Cond.sameMethod y.cls y.cls y.name y.desc).before args s = true := by
  obtain ⟨mk, methM, hnamed, hmethM, -, -⟩ := Cond.instanceMethod_spec hi
  have hfound := State.methodFound?_of_named hnamed hy
  have hc := findClass_of_methodNamed hnamed
  obtain ⟨k, hk, hni⟩ := hnf _ hnamed
  simp [Cond.before, Cond.holds, Cond.value, hc, hk, hni, hfound, hnamed]
/-- a private method is its own choice: its class is made by 'new' -/
theorem own_selPriv {s : State} {args : Array Value} {y : MethodName} {n : Nat} (hi : (Cond.instantiable y.cls n).before args s = true) (hpriv : s.PrivateAt y) (hinst : (Cond.instanceMethod y).before args s = true) (hy : y.cls ≠ "java/lang/invoke/MethodHandle" ∧ y.cls ≠ "java/lang/invoke/VarHandle") : (Cond.selects y.cls y y).before args s = true := by
  obtain ⟨c, k, h1, h2, -, h4, -, -⟩ := Cond.instantiable_spec hi
  exact Stand.selects_self_of_private h1 h2 (Bool.or_eq_false_iff.mp h4).1 hpriv hinst hy
theorem own_selPriv2 {s : State} {args : Array Value} {y : MethodName} (hnf : NotFace s y) (hpriv : s.PrivateAt y) (hinst : (Cond.instanceMethod y).before args s = true) (hy : y.cls ≠ "java/lang/invoke/MethodHandle" ∧ y.cls ≠ "java/lang/invoke/VarHandle") : (Cond.selects y.cls y y).before args s = true := by
  obtain ⟨mk, methM, hnamed, -, -, -⟩ := Cond.instanceMethod_spec hinst
  obtain ⟨k, hk, hni⟩ := hnf _ hnamed
  exact Stand.selects_self_of_private (findClass_of_methodNamed hnamed) hk hni hpriv hinst hy
end New
end Jvm.RoadKit
namespace Jvm.Pilot.@@N@@
open Jvm Jvm.ClassFile Sem Op Lib Jvm.Free Jvm.Stand Jvm.LawKit Jvm.RoadKit Bundle Jvm.Pilot.@@N@@.Jvm.D
theorem ww {a0 : Array Value} {Z : State} (hw : ∀ d ∈ tables_1, d.before a0 Z = true) (i : Nat) {d : Jvm.Cond} (e : tables_1[i]? = some d) : d.before a0 Z = true := hw _ (List.mem_of_getElem? e)
abbrev mn_0 : MethodName := (⟨"java/lang/String", "coder", "()B"⟩ : MethodName)
abbrev mn_1 : MethodName := (⟨"java/lang/String", "length", "()I"⟩ : MethodName)
abbrev mn_2 : MethodName := (⟨"java/lang/String", "getBytes", "([BIB)V"⟩ : MethodName)
abbrev mn_3 : MethodName := (⟨"java/lang/AbstractStringBuilder", "inflateIfNeededFor", "(Ljava/lang/String;)V"⟩ : MethodName)
abbrev mn_4 : MethodName := (⟨"java/lang/AbstractStringBuilder", "ensureCapacityInternal", "(I)V"⟩ : MethodName)
abbrev mn_5 : MethodName := (⟨"java/lang/AbstractStringBuilder", "putStringAt", "(ILjava/lang/String;)V"⟩ : MethodName)
abbrev mn_6 : MethodName := (⟨"java/lang/Math", "max", "(II)I"⟩ : MethodName)
abbrev mn_7 : MethodName := (⟨"java/lang/Math", "min", "(II)I"⟩ : MethodName)
abbrev mn_8 : MethodName := (⟨"jdk/internal/util/ArraysSupport", "newLength", "(III)I"⟩ : MethodName)
abbrev mn_9 : MethodName := (⟨"java/lang/AbstractStringBuilder", "newCapacity", "(I)I"⟩ : MethodName)
abbrev mn_10 : MethodName := (⟨"java/util/Arrays", "copyOf", "([BI)[B"⟩ : MethodName)
abbrev mn_11 : MethodName := (⟨"java/lang/AbstractStringBuilder", "append", "(Ljava/lang/String;)Ljava/lang/AbstractStringBuilder;"⟩ : MethodName)
abbrev mn_12 : MethodName := (⟨"java/lang/StringBuilder", "append", "(Ljava/lang/String;)Ljava/lang/StringBuilder;"⟩ : MethodName)
abbrev mn_13 : MethodName := (⟨"java/util/Arrays", "checkLength", "(II)V"⟩ : MethodName)
abbrev mn_14 : MethodName := (⟨"java/util/Arrays", "copyOfRangeByte", "([BII)[B"⟩ : MethodName)
abbrev mn_15 : MethodName := (⟨"java/util/Arrays", "copyOfRange", "([BII)[B"⟩ : MethodName)
abbrev mn_16 : MethodName := (⟨"java/lang/AbstractStringBuilder", "getValue", "()[B"⟩ : MethodName)
abbrev mn_17 : MethodName := (⟨"java/lang/AbstractStringBuilder", "length", "()I"⟩ : MethodName)
abbrev mn_18 : MethodName := (⟨"java/lang/StringBuilder", "length", "()I"⟩ : MethodName)
abbrev mn_19 : MethodName := (⟨"java/lang/AbstractStringBuilder", "isLatin1", "()Z"⟩ : MethodName)
abbrev mn_20 : MethodName := (⟨"java/lang/String", "<init>", "(Ljava/lang/AbstractStringBuilder;Ljava/lang/Void;)V"⟩ : MethodName)
abbrev mn_21 : MethodName := (⟨"java/lang/String", "<init>", "(Ljava/lang/StringBuilder;)V"⟩ : MethodName)
abbrev mn_22 : MethodName := (⟨"java/lang/StringBuilder", "toString", "()Ljava/lang/String;"⟩ : MethodName)
abbrev mn_23 : MethodName := (⟨"java/lang/String", "isLatin1", "()Z"⟩ : MethodName)
abbrev mn_24 : MethodName := (⟨"jdk/internal/util/Preconditions", "checkIndex", "(IILjava/util/function/BiFunction;)I"⟩ : MethodName)
abbrev mn_25 : MethodName := (⟨"java/lang/String", "checkIndex", "(II)V"⟩ : MethodName)
abbrev mn_26 : MethodName := (⟨"java/lang/StringLatin1", "charAt", "([BI)C"⟩ : MethodName)
abbrev mn_27 : MethodName := (⟨"java/lang/String", "charAt", "(I)C"⟩ : MethodName)
abbrev mn_28 : MethodName := (⟨"java/lang/AbstractStringBuilder", "<init>", "(I)V"⟩ : MethodName)
abbrev mn_29 : MethodName := (⟨"java/lang/StringBuilder", "<init>", "()V"⟩ : MethodName)
abbrev mn_30 : MethodName := (⟨"java/lang/StringLatin1", "canEncode", "(C)Z"⟩ : MethodName)
abbrev mn_31 : MethodName := (⟨"java/lang/StringLatin1", "toBytes", "(C)[B"⟩ : MethodName)
abbrev mn_32 : MethodName := (⟨"java/lang/String", "<init>", "([BB)V"⟩ : MethodName)
abbrev mn_33 : MethodName := (⟨"java/lang/String", "valueOf", "(C)Ljava/lang/String;"⟩ : MethodName)
abbrev mn_34 : MethodName := (⟨"com/example/cloud_to_core/cloudtocore/auth/HttpAuthorizationChallengePinLaw", "realmAt", "(Ljava/lang/String;I)Z"⟩ : MethodName)
abbrev mn_35 : MethodName := (⟨"com/example/cloud_to_core/cloudtocore/auth/HttpAuthorizationChallengePinLaw", "errorAt", "(Ljava/lang/String;I)Z"⟩ : MethodName)
abbrev mn_36 : MethodName := (⟨"com/example/cloud_to_core/cloudtocore/auth/HttpAuthorization", "challenge", "(Ljava/lang/String;Ljava/lang/String;)Ljava/lang/String;"⟩ : MethodName)
abbrev mn_37 : MethodName := (⟨"java/lang/StringUTF16", "compress", "([CI[BII)I"⟩ : MethodName)
abbrev mn_38 : MethodName := (⟨"java/lang/StringUTF16", "compress", "([CII)[B"⟩ : MethodName)
abbrev mn_39 : MethodName := (⟨"java/lang/StringUTF16", "coderFromArrayLen", "([BI)B"⟩ : MethodName)
abbrev mn_40 : MethodName := (⟨"java/lang/String", "<init>", "([CIILjava/lang/Void;)V"⟩ : MethodName)
abbrev mn_41 : MethodName := (⟨"java/lang/String", "<init>", "([C)V"⟩ : MethodName)
theorem pd_0 : parseMethodDescriptor "()B" = some ⟨[], some .byte⟩ := by decide +kernel
theorem pd_1 : parseMethodDescriptor "(Ljava/lang/String;)V" = some ⟨[(.object "java/lang/String")], none⟩ := by decide +kernel
theorem pd_2 : parseMethodDescriptor "([BIB)V" = some ⟨[(.array .byte), .int, .byte], none⟩ := by decide +kernel
theorem pd_3 : parseMethodDescriptor "(II)I" = some ⟨[.int, .int], some .int⟩ := by decide +kernel
theorem pd_4 : parseMethodDescriptor "(III)I" = some ⟨[.int, .int, .int], some .int⟩ := by decide +kernel
theorem pd_5 : parseMethodDescriptor "(I)I" = some ⟨[.int], some .int⟩ := by decide +kernel
theorem pd_6 : parseMethodDescriptor "([BI)[B" = some ⟨[(.array .byte), .int], some (.array .byte)⟩ := by decide +kernel
theorem pd_7 : parseMethodDescriptor "()I" = some ⟨[], some .int⟩ := by decide +kernel
theorem pd_8 : parseMethodDescriptor "(I)V" = some ⟨[.int], none⟩ := by decide +kernel
theorem pd_9 : parseMethodDescriptor "(ILjava/lang/String;)V" = some ⟨[.int, (.object "java/lang/String")], none⟩ := by decide +kernel
theorem pd_10 : parseMethodDescriptor "(Ljava/lang/String;)Ljava/lang/AbstractStringBuilder;" = some ⟨[(.object "java/lang/String")], some (.object "java/lang/AbstractStringBuilder")⟩ := by decide +kernel
theorem pd_11 : parseMethodDescriptor "(II)V" = some ⟨[.int, .int], none⟩ := by decide +kernel
theorem pd_12 : parseMethodDescriptor "([BII)[B" = some ⟨[(.array .byte), .int, .int], some (.array .byte)⟩ := by decide +kernel
theorem pd_13 : parseMethodDescriptor "()[B" = some ⟨[], some (.array .byte)⟩ := by decide +kernel
theorem pd_14 : parseMethodDescriptor "()Z" = some ⟨[], some .boolean⟩ := by decide +kernel
theorem pd_15 : parseMethodDescriptor "(Ljava/lang/AbstractStringBuilder;Ljava/lang/Void;)V" = some ⟨[(.object "java/lang/AbstractStringBuilder"), (.object "java/lang/Void")], none⟩ := by decide +kernel
theorem pd_16 : parseMethodDescriptor "(Ljava/lang/StringBuilder;)V" = some ⟨[(.object "java/lang/StringBuilder")], none⟩ := by decide +kernel
theorem pd_17 : parseMethodDescriptor "(IILjava/util/function/BiFunction;)I" = some ⟨[.int, .int, (.object "java/util/function/BiFunction")], some .int⟩ := by decide +kernel
theorem pd_18 : parseMethodDescriptor "([BI)C" = some ⟨[(.array .byte), .int], some .char⟩ := by decide +kernel
theorem pd_19 : parseMethodDescriptor "(C)Z" = some ⟨[.char], some .boolean⟩ := by decide +kernel
theorem pd_20 : parseMethodDescriptor "(C)[B" = some ⟨[.char], some (.array .byte)⟩ := by decide +kernel
theorem pd_21 : parseMethodDescriptor "([BB)V" = some ⟨[(.array .byte), .byte], none⟩ := by decide +kernel
theorem pd_22 : parseMethodDescriptor "(I)C" = some ⟨[.int], some .char⟩ := by decide +kernel
theorem pd_23 : parseMethodDescriptor "()V" = some ⟨[], none⟩ := by decide +kernel
theorem pd_24 : parseMethodDescriptor "(Ljava/lang/String;)Ljava/lang/StringBuilder;" = some ⟨[(.object "java/lang/String")], some (.object "java/lang/StringBuilder")⟩ := by decide +kernel
theorem pd_25 : parseMethodDescriptor "()Ljava/lang/String;" = some ⟨[], some (.object "java/lang/String")⟩ := by decide +kernel
theorem pd_26 : parseMethodDescriptor "([CI[BII)I" = some ⟨[(.array .char), .int, (.array .byte), .int, .int], some .int⟩ := by decide +kernel
theorem pd_27 : parseMethodDescriptor "([CII)[B" = some ⟨[(.array .char), .int, .int], some (.array .byte)⟩ := by decide +kernel
theorem pd_28 : parseMethodDescriptor "([BI)B" = some ⟨[(.array .byte), .int], some .byte⟩ := by decide +kernel
theorem pd_29 : parseMethodDescriptor "([CIILjava/lang/Void;)V" = some ⟨[(.array .char), .int, .int, (.object "java/lang/Void")], none⟩ := by decide +kernel
theorem pd_30 : parseMethodDescriptor "(Ljava/lang/String;Ljava/lang/String;)Ljava/lang/String;" = some ⟨[(.object "java/lang/String"), (.object "java/lang/String")], some (.object "java/lang/String")⟩ := by decide +kernel
theorem pd_31 : parseMethodDescriptor "(C)Ljava/lang/String;" = some ⟨[.char], some (.object "java/lang/String")⟩ := by decide +kernel
theorem pd_32 : parseMethodDescriptor "([C)V" = some ⟨[(.array .char)], none⟩ := by decide +kernel
theorem pd_33 : parseMethodDescriptor "(Ljava/lang/String;I)Z" = some ⟨[(.object "java/lang/String"), .int], some .boolean⟩ := by decide +kernel

abbrev own_bs (A : List Int32) : List Value := A.map Value.int
theorem own_shl0 (x : Int32) : x <<< ((0 : Int32) &&& 31) = x := by
  have h := c_ishl x 0 0 (by decide)
  have r1 := rng32 x
  have r2 := rng32 (x <<< ((0 : Int32) &&& 31))
  apply Int32.toInt_inj.mp
  omega
theorem own_z0 : (0 : Int32).toNatClampNeg = 0 := rfl
theorem own_shr0 (x : Int32) : x >>> ((0 : Int32) &&& 31) = x := by
  apply Int32.toInt_inj.mp
  rw [c_ishr x 0 0 (by decide)]; simp
theorem own_bsApp (A B : List Int32) : own_bs (A ++ B) = own_bs A ++ own_bs B := List.map_append
theorem own_rangeB (B : List Int32) (d : Value) : ((List.range B.length).map fun i => (own_bs B).getD (0 + i) d) = own_bs B := by
  apply List.ext_getElem
  · simp
  · intro i h1 h2
    have h3 : i < B.length := by simpa using h1
    simp [List.getD_eq_getElem?_getD, h3]
theorem own_cpy {Z : State} {h : Heap} {b : Addr} {k : ClassId} {cap : Int32} {A B : List Int32} {n sp z : Int32} {m : Nat} (hA : n.toNatClampNeg = A.length) (hs : sp.toNatClampNeg = 0) (hB : z.toNatClampNeg = B.length)
    (F : Arv Z h b k .byte cap ((own_bs A ++ List.replicate m (Value.int (0 : Int32))).take n.toNatClampNeg ++ ((List.range z.toNatClampNeg).map fun i => (own_bs B).getD (sp.toNatClampNeg + i) (.int (0 : Int32))) ++ (own_bs A ++ List.replicate m (Value.int (0 : Int32))).drop (n.toNatClampNeg + z.toNatClampNeg)) (.int (0 : Int32))) : Arv Z h b k .byte cap (own_bs (A ++ B)) (.int (0 : Int32)) := by
  rw [hA, hs, hB, own_rangeB, List.take_left' (by simp), List.drop_append, List.drop_eq_nil_of_le (by simp), List.nil_append, List.drop_replicate, ← own_bsApp] at F
  exact F.pad fun i => (pad_rep _ _ _ i).symm
theorem own_cpN {Z : State} {h : Heap} {b : Addr} {k : ClassId} {cap nc : Int32} {A : List Int32} {m : Nat} (hA : A.length ≤ cap.toNatClampNeg)
    (F : Arv Z h b k .byte nc (([] ++ List.replicate m (Value.int (0 : Int32))).take (0 : Int32).toNatClampNeg ++ ((List.range cap.toNatClampNeg).map fun i => (own_bs A).getD ((0 : Int32).toNatClampNeg + i) (.int (0 : Int32))) ++ ([] ++ List.replicate m (Value.int (0 : Int32))).drop ((0 : Int32).toNatClampNeg + cap.toNatClampNeg)) (.int (0 : Int32))) : Arv Z h b k .byte nc (own_bs A) (.int (0 : Int32)) := by
  refine F.pad fun i => ?_
  rw [own_z0]
  simp only [List.take_zero, List.nil_append, List.drop_replicate, Nat.zero_add]
  rw [pad_rep]
  simp only [List.getD_eq_getElem?_getD, List.getElem?_map]
  by_cases q : i < cap.toNatClampNeg
  · rw [List.getElem?_range q]; simp
  · rw [List.getElem?_eq_none (l := List.range _) (by simpa using q), List.getElem?_eq_none (l := A) (by omega)]; rfl
theorem own_ncne {nc : Int32} (h : ¬ (2147483639 : Int32) < nc) : ¬ nc = (2147483647 : Int32) := fun e => h (by rw [e]; decide)

theorem d8_0 : decode jdk_42_method_152_code 0 = .ok (.getstatic 38, 3) := by decide +kernel
theorem d8_3 : decode jdk_42_method_152_code 3 = .ok (.ifCond .eq 10, 3) := by decide +kernel
theorem d8_6 : decode jdk_42_method_152_code 6 = .ok (.aload_n 0, 1) := by decide +kernel
theorem d8_7 : decode jdk_42_method_152_code 7 = .ok (.getfield 15, 3) := by decide +kernel
theorem d8_10 : decode jdk_42_method_152_code 10 = .ok (.goto 4, 3) := by decide +kernel
theorem d8_14 : decode jdk_42_method_152_code 14 = .ok (.ireturn, 1) := by decide +kernel
theorem pn_0 : plainName "java/lang/String" = true := by first | (simp [plainName, overriddenIn]; done) | decide +kernel
theorem ef_8 (m : MethodId) (x0 : Addr) : entryFrame m #[(.ref x0)] 1 = mkF m 0 #[.val (.ref x0)] [] := by first | (simp [entryFrame, mkF, argsToLocals, Value.category]; done) | rfl
def Q8 (Z : State) (a1 : Addr) (cs : Int32) (h0 : Heap) (v : Option Value) (h : Heap) (L : List Loc) : Prop := v = some (.int (0 : Int32)) ∧ L = [] ∧ h = h0
theorem rm8 (l : Launch) (Z : State) (a0 : Array Value) (hw : ∀ d ∈ tables_1, d.before a0 Z = true) (ws : List Jvm.Cond) (a1 : Addr) (cs : Int32) (h0 : Heap) (n0 : Nat) (O0 : Old Z n0 h0) (Fc_a1 : Fld Z h0 a1 "java/lang/String" "coder" "B" (.int (0 : Int32))) (S_CS : Sta Z Z.heap "java/lang/String" "COMPACT_STRINGS" "Z" (.int cs)) (h_cs : ¬ cs = (0 : Int32)) :
    MetFree l mn_0 (head1 (Jvm.Cond.code mn_0 jdk_42_method_152_code 1 (some .byte) :: ws) ({ frames := 0, cells := 0, slots := 0, locals := 0 } : Room)) (fun a U => a = #[(.ref a1)] ∧ Z.Warmed39 U.vm ∧ U.heap = h0) (fun _ _ _ _ _ => True) (fun _ U o U' => ∃ v L, o = .returned v ∧ Q8 Z a1 cs h0 v U'.heap L ∧ FrameEnd U o U' L ({ frames := 0, cells := 0, slots := 0, locals := 0 } : Room).cells ({ frames := 0, cells := 0, slots := 0, locals := 0 } : Room).slots) := by
  refine MetFree.of_bodySF (plainFor_of_name pn_0) hisR ?_
  intro p e s m args below meth c s₁ Bd hml0 hP hK
  obtain ⟨rfl, hZ, hh⟩ := hP
  have hx := Bd.exec
  have hby := Bd.bytes
  have hml : c.maxLocals = 1 := hml0
  have hown : s.vm.findClass "java/lang/String" = some m.cls := findClass_of_methodNamed Bd.named
  have hnm := (name_of_methodNamed Bd.named Bd.method).1
  have X0 : Stand p l e ({ frames := 0, cells := 0, slots := 0, locals := 0 } : Room) s m #[(.ref a1)] below meth c s₁ [] 0 0 := Stand.of_body Bd
  have e0 : s₁.heap = h0 := by rw [← hh, Bd.state]; rfl
  have pre0 : ∀ t, Steps p.tables e below (s₁.setTop (mkF m 0 #[.val (.ref a1)] [])) t → Steps p.tables e below (s₁.setTop (entryFrame m #[(.ref a1)] 1)) t := fun t k => castTop (ef_8 m a1) k
  obtain ⟨T1, X1, e1, st1⟩ := getS2 X0 hx hZ hown (host := "") (Or.inl (ww hw 53 rfl)) Via.refl e0 (S_CS.ext O0.2) (g := (mkF m 0 #[vR a1] [])) rfl (hb hby d8_0)
  obtain ⟨T2, X2, e2, st2⟩ := getF X1 hx hZ hown (host := "") (Or.inl (ww hw 54 rfl)) Via.refl e1 Fc_a1 (g := (mkF m 7 #[vR a1] [iR a1])) rfl rfl (hb hby d8_7)
  obtain ⟨fs, hr, hrun, hended, hW, hsame⟩ := X2.leave (v := some (.int (0 : Int32))) (fun h => by rw [Bd.returns] at h; cases h)
  refine ⟨_, _, pre0 _ ?_, hrun, hended, _, _, rfl, ?_, ⟨_, rfl⟩, hW, hsame.mono (by decide) (by decide)⟩
  · show SA s₁ m 0 #[vR a1] []
    refine st1 _ ?_
    show SA T1 m 3 #[vR a1] [iI cs]
    refine XS.ifNo X1.here hx rfl (hb hby d8_3) rfl ((if0 _ _).trans (feq h_cs).1) ?_
    show SA T1 m 6 #[vR a1] []
    refine XS.aloadN X1.here hx rfl (hb hby d8_6) rfl rfl ?_
    show SA T1 m 7 #[vR a1] [iR a1]
    refine st2 _ ?_
    show SA T2 m 10 #[vR a1] [iI 0]
    refine XS.goto X2.here hx rfl (pc0 := 10) (pc' := 14) rfl (hb hby d8_10) (by decide) (by decide) ?_
    show Steps _ _ _ (T2.setTop (mkF m 14 #[vR a1] [iI 0])) _
    exact retN X2 hx (t := .byte) Bd.returns (by simp) (hb hby d8_14) hr
  · show Q8 Z a1 cs h0 _ T2.heap _
    rw [e2]
    exact ⟨rfl, rfl, rfl⟩
theorem d7_0 : decode jdk_42_method_54_code 0 = .ok (.aload_n 0, 1) := by decide +kernel
theorem d7_1 : decode jdk_42_method_54_code 1 = .ok (.getfield 9, 3) := by decide +kernel
theorem d7_4 : decode jdk_42_method_54_code 4 = .ok (.arraylength, 1) := by decide +kernel
theorem d7_5 : decode jdk_42_method_54_code 5 = .ok (.aload_n 0, 1) := by decide +kernel
theorem d7_6 : decode jdk_42_method_54_code 6 = .ok (.invokevirtual 335, 3) := by decide +kernel
theorem d7_9 : decode jdk_42_method_54_code 9 = .ok (.ishr, 1) := by decide +kernel
theorem d7_10 : decode jdk_42_method_54_code 10 = .ok (.ireturn, 1) := by decide +kernel
theorem ef_7 (m : MethodId) (x0 : Addr) : entryFrame m #[(.ref x0)] 1 = mkF m 0 #[.val (.ref x0)] [] := by first | (simp [entryFrame, mkF, argsToLocals, Value.category]; done) | rfl
def Q7 (Z : State) (a1 : Addr) (d : Addr) (kd : ClassId) (z : Int32) (B : List Int32) (cs : Int32) (h0 : Heap) (v : Option Value) (h : Heap) (L : List Loc) : Prop := v = some (.int z) ∧ L = [] ∧ h = h0
theorem rm7 (l : Launch) (Z : State) (a0 : Array Value) (hw : ∀ d ∈ tables_1, d.before a0 Z = true) (ws : List Jvm.Cond) (a1 : Addr) (d : Addr) (kd : ClassId) (z : Int32) (B : List Int32) (cs : Int32) (h0 : Heap) (n0 : Nat) (O0 : Old Z n0 h0) (E_a1 : Exa Z h0 a1 "java/lang/String") (Fc_a1 : Fld Z h0 a1 "java/lang/String" "coder" "B" (.int (0 : Int32))) (Fv_a1 : Fld Z h0 a1 "java/lang/String" "value" "[B" (.ref d)) (V_d : Arv Z h0 d kd .byte z (own_bs B) (.int (0 : Int32))) (hz : ¬ z < 0) (hB : z.toNatClampNeg = B.length) (S_CS : Sta Z Z.heap "java/lang/String" "COMPACT_STRINGS" "Z" (.int cs)) (h_cs : ¬ cs = (0 : Int32)) :
    MetFree l mn_1 (head1 (Jvm.Cond.code mn_1 jdk_42_method_54_code 1 (some .int) :: ws) ({ frames := 1, cells := 0, slots := 0, locals := 13 } : Room)) (fun a U => a = #[(.ref a1)] ∧ Z.Warmed39 U.vm ∧ U.heap = h0) (fun _ _ _ _ _ => True) (fun _ U o U' => ∃ v L, o = .returned v ∧ Q7 Z a1 d kd z B cs h0 v U'.heap L ∧ FrameEnd U o U' L ({ frames := 1, cells := 0, slots := 0, locals := 13 } : Room).cells ({ frames := 1, cells := 0, slots := 0, locals := 13 } : Room).slots) := by
  refine MetFree.of_bodySF (plainFor_of_name pn_0) hisR ?_
  intro p e s m args below meth c s₁ Bd hml0 hP hK
  obtain ⟨rfl, hZ, hh⟩ := hP
  have hx := Bd.exec
  have hby := Bd.bytes
  have hml : c.maxLocals = 1 := hml0
  have hown : s.vm.findClass "java/lang/String" = some m.cls := findClass_of_methodNamed Bd.named
  have hnm := (name_of_methodNamed Bd.named Bd.method).1
  have X0 : Stand p l e ({ frames := 1, cells := 0, slots := 0, locals := 13 } : Room) s m #[(.ref a1)] below meth c s₁ [] 0 0 := Stand.of_body Bd
  have e0 : s₁.heap = h0 := by rw [← hh, Bd.state]; rfl
  have pre0 : ∀ t, Steps p.tables e below (s₁.setTop (mkF m 0 #[.val (.ref a1)] [])) t → Steps p.tables e below (s₁.setTop (entryFrame m #[(.ref a1)] 1)) t := fun t k => castTop (ef_7 m a1) k
  obtain ⟨T1, X1, e1, st1⟩ := getF X0 hx hZ hown (host := "") (Or.inl (ww hw 47 rfl)) Via.refl e0 Fv_a1 (g := (mkF m 1 #[vR a1] [iR a1])) rfl rfl (hb hby d7_1)
  obtain ⟨cl2, Ar2, q2, S2, M2, H2, G2⟩ := id V_d
  obtain ⟨cq3, kq3, q3a, q3b, q3c⟩ := isOf hZ e1 E_a1
  obtain ⟨_, _, ⟨T3, L3, k3, n3⟩, -, X3, ⟨Lc3, hQ3, l3, y3, z3⟩, st3⟩ := X1.virtualBack hx (y := mn_0) (z := mn_0) hown (mvT hZ (ww hw 48 rfl)) (mvT hZ (ww hw 49 rfl)) (notFace_of_selects (args := #[]) (mvT hZ (ww hw 51 rfl))) (mvT hZ (ww hw 51 rfl)) (mvT hZ (ww hw 50 rfl)) (by decide) (backOf (W := 1) (rm8 l Z a0 hw [] a1 cs h0 n0 O0 Fc_a1 S_CS h_cs) hZ (ww hw 52 rfl) (ww hw 1 rfl) (by decide) (by decide)) q3a q3c (g := (mkF m 6 #[vR a1] [iR a1, iI z])) rfl (by rw [hml]; rfl) (Steps.refl _) (argsL := []) (rest := [(.int z)]) (lenOf pd_0 rfl) rfl (wz rfl) (hb hby d7_6) (fun _ _ => ⟨rfl, e1, (by decide : 0 + 0 ≤ _), (by decide : 0 + 0 ≤ _)⟩)
  dsimp only [Pt.U, Pt.locs, Pt.cells, Pt.slots] at X3 l3 y3 z3 st3 hQ3
  subst l3 y3 z3
  obtain ⟨rfl, rfl, e3⟩ := hQ3
  try rw [List.append_nil] at X3
  obtain ⟨fs, hr, hrun, hended, hW, hsame⟩ := X3.leave (v := some (.int (z >>> ((0 : Int32) &&& 31)))) (fun h => by rw [Bd.returns] at h; cases h)
  refine ⟨_, _, pre0 _ ?_, hrun, hended, _, _, rfl, ?_, ⟨_, rfl⟩, hW, hsame.mono (by decide) (by decide)⟩
  · show SA s₁ m 0 #[vR a1] []
    refine XS.aloadN X0.here hx rfl (hb hby d7_0) rfl rfl ?_
    show SA s₁ m 1 #[vR a1] [iR a1]
    refine st1 _ ?_
    show SA T1 m 4 #[vR a1] [iR d]
    refine X1.arraylength hx (by rw [e1]; exact Ar2.1) (State.isArrayOf_alike hZ.alike Ar2.2.1) (g := (mkF m 4 #[vR a1] [iR d])) rfl rfl (hb hby d7_4) _ ?_
    rw [len_of S2 M2]
    show SA T1 m 5 #[vR a1] [iI z]
    refine XS.aloadN X1.here hx rfl (hb hby d7_5) rfl rfl ?_
    show SA T1 m 6 #[vR a1] [iR a1, iI z]
    refine st3.trans ?_
    show SA T3 m 9 #[vR a1] [iI 0, iI z]
    refine XS.ishr X3.here hx rfl (hb hby d7_9) rfl ?_
    show Steps _ _ _ (T3.setTop (mkF m 10 #[vR a1] [iI (z >>> ((0 : Int32) &&& 31))])) _
    exact retI X3 hx Bd.returns (hb hby d7_10) hr
  · show Q7 Z a1 d kd z B cs h0 _ T3.heap _
    rw [e3]
    exact ⟨by rw [own_shr0], rfl, rfl⟩
theorem d12_0 : decode jdk_42_method_147_code 0 = .ok (.aload_n 0, 1) := by decide +kernel
theorem d12_1 : decode jdk_42_method_147_code 1 = .ok (.invokevirtual 335, 3) := by decide +kernel
theorem d12_4 : decode jdk_42_method_147_code 4 = .ok (.iload_n 3, 1) := by decide +kernel
theorem d12_5 : decode jdk_42_method_147_code 5 = .ok (.if_icmp .ne 23, 3) := by decide +kernel
theorem d12_8 : decode jdk_42_method_147_code 8 = .ok (.aload_n 0, 1) := by decide +kernel
theorem d12_9 : decode jdk_42_method_147_code 9 = .ok (.getfield 9, 3) := by decide +kernel
theorem d12_12 : decode jdk_42_method_147_code 12 = .ok (.iconst 0, 1) := by decide +kernel
theorem d12_13 : decode jdk_42_method_147_code 13 = .ok (.aload_n 1, 1) := by decide +kernel
theorem d12_14 : decode jdk_42_method_147_code 14 = .ok (.iload_n 2, 1) := by decide +kernel
theorem d12_15 : decode jdk_42_method_147_code 15 = .ok (.iload_n 3, 1) := by decide +kernel
theorem d12_16 : decode jdk_42_method_147_code 16 = .ok (.ishl, 1) := by decide +kernel
theorem d12_17 : decode jdk_42_method_147_code 17 = .ok (.aload_n 0, 1) := by decide +kernel
theorem d12_18 : decode jdk_42_method_147_code 18 = .ok (.getfield 9, 3) := by decide +kernel
theorem d12_21 : decode jdk_42_method_147_code 21 = .ok (.arraylength, 1) := by decide +kernel
theorem d12_22 : decode jdk_42_method_147_code 22 = .ok (.invokestatic 212, 3) := by decide +kernel
theorem d12_25 : decode jdk_42_method_147_code 25 = .ok (.goto 18, 3) := by decide +kernel
theorem d12_43 : decode jdk_42_method_147_code 43 = .ok (.return_, 1) := by decide +kernel
theorem ef_12 (m : MethodId) (x0 : Addr) (x1 : Addr) (x2 : Int32) : entryFrame m #[(.ref x0), (.ref x1), (.int x2), (.int (0 : Int32))] 4 = mkF m 0 #[.val (.ref x0), .val (.ref x1), .val (.int x2), .val (.int (0 : Int32))] [] := by first | (simp [entryFrame, mkF, argsToLocals, Value.category]; done) | rfl
def Q12 (Z : State) (a1 : Addr) (a2 : Addr) (p3 : Int32) (d : Addr) (kd : ClassId) (z : Int32) (B : List Int32) (ka : ClassId) (cap : Int32) (A : List Int32) (cs : Int32) (h0 : Heap) (n0 : Nat) (v : Option Value) (h : Heap) (L : List Loc) : Prop := v = none ∧ Fr n0 L ∧ Keep h0 h [a2] ∧ Arv Z h a2 ka .byte cap (own_bs (A ++ B)) (.int (0 : Int32))
theorem rm12 (l : Launch) (Z : State) (a0 : Array Value) (hw : ∀ d ∈ tables_1, d.before a0 Z = true) (ws : List Jvm.Cond) (a1 : Addr) (a2 : Addr) (p3 : Int32) (d : Addr) (kd : ClassId) (z : Int32) (B : List Int32) (ka : ClassId) (cap : Int32) (A : List Int32) (cs : Int32) (h0 : Heap) (n0 : Nat) (Z0 : n0 ≤ h0.size) (O0 : Old Z n0 h0) (E_a1 : Exa Z h0 a1 "java/lang/String") (Fc_a1 : Fld Z h0 a1 "java/lang/String" "coder" "B" (.int (0 : Int32))) (Fv_a1 : Fld Z h0 a1 "java/lang/String" "value" "[B" (.ref d)) (V_d : Arv Z h0 d kd .byte z (own_bs B) (.int (0 : Int32))) (hz : ¬ z < 0) (hB : z.toNatClampNeg = B.length) (V_a2 : Arv Z h0 a2 ka .byte cap (own_bs A) (.int (0 : Int32))) (g_a2 : n0 ≤ a2) (hn : ¬ p3 < 0) (hA : p3.toNatClampNeg = A.length) (hle : p3.toNatClampNeg + z.toNatClampNeg ≤ cap.toNatClampNeg) (S_CS : Sta Z Z.heap "java/lang/String" "COMPACT_STRINGS" "Z" (.int cs)) (h_cs : ¬ cs = (0 : Int32)) :
    MetFree l mn_2 (head1 (Jvm.Cond.code mn_2 jdk_42_method_147_code 4 none :: ws) ({ frames := 1, cells := 0, slots := 0, locals := 18 } : Room)) (fun a U => a = #[(.ref a1), (.ref a2), (.int p3), (.int (0 : Int32))] ∧ Z.Warmed39 U.vm ∧ U.heap = h0) (fun _ _ _ _ _ => True) (fun _ U o U' => ∃ v L, o = .returned v ∧ Q12 Z a1 a2 p3 d kd z B ka cap A cs h0 n0 v U'.heap L ∧ FrameEnd U o U' L ({ frames := 1, cells := 0, slots := 0, locals := 18 } : Room).cells ({ frames := 1, cells := 0, slots := 0, locals := 18 } : Room).slots) := by
  refine MetFree.of_bodySF (plainFor_of_name pn_0) hisR ?_
  intro p e s m args below meth c s₁ Bd hml0 hP hK
  obtain ⟨rfl, hZ, hh⟩ := hP
  have hx := Bd.exec
  have hby := Bd.bytes
  have hml : c.maxLocals = 4 := hml0
  have hown : s.vm.findClass "java/lang/String" = some m.cls := findClass_of_methodNamed Bd.named
  have hnm := (name_of_methodNamed Bd.named Bd.method).1
  have X0 : Stand p l e ({ frames := 1, cells := 0, slots := 0, locals := 18 } : Room) s m #[(.ref a1), (.ref a2), (.int p3), (.int (0 : Int32))] below meth c s₁ [] 0 0 := Stand.of_body Bd
  have e0 : s₁.heap = h0 := by rw [← hh, Bd.state]; rfl
  have N0 := Fr.nil n0
  have K0 := Keep.refl h0 [a2]
  have pre0 : ∀ t, Steps p.tables e below (s₁.setTop (mkF m 0 #[.val (.ref a1), .val (.ref a2), .val (.int p3), .val (.int (0 : Int32))] [])) t → Steps p.tables e below (s₁.setTop (entryFrame m #[(.ref a1), (.ref a2), (.int p3), (.int (0 : Int32))] 4)) t := fun t k => castTop (ef_12 m a1 a2 p3) k
  obtain ⟨cq1, kq1, q1a, q1b, q1c⟩ := isOf hZ e0 E_a1
  obtain ⟨_, _, ⟨T1, L1, k1, n1⟩, -, X1, ⟨Lc1, hQ1, l1, y1, z1⟩, st1⟩ := X0.virtualBack hx (y := mn_0) (z := mn_0) hown (mvT hZ (ww hw 48 rfl)) (mvT hZ (ww hw 49 rfl)) (notFace_of_selects (args := #[]) (mvT hZ (ww hw 51 rfl))) (mvT hZ (ww hw 51 rfl)) (mvT hZ (ww hw 50 rfl)) (by decide) (backOf (W := 0) (rm8 l Z a0 hw [] a1 cs h0 n0 O0 Fc_a1 S_CS h_cs) hZ (ww hw 52 rfl) (ww hw 1 rfl) (by decide) (by decide)) q1a q1c (g := (mkF m 1 #[vR a1, vR a2, vI p3, vI 0] [iR a1])) rfl (by rw [hml]; rfl) (Steps.refl _) (argsL := []) (rest := []) (lenOf pd_0 rfl) rfl (wz rfl) (hb hby d12_1) (fun _ _ => ⟨rfl, e0, (by decide : 0 + 0 ≤ _), (by decide : 0 + 0 ≤ _)⟩)
  dsimp only [Pt.U, Pt.locs, Pt.cells, Pt.slots] at X1 l1 y1 z1 st1 hQ1
  subst l1 y1 z1
  obtain ⟨rfl, rfl, e1⟩ := hQ1
  try rw [List.append_nil] at X1
  obtain ⟨T2, X2, e2, st2⟩ := getF X1 hx hZ hown (host := "") (Or.inl (ww hw 47 rfl)) Via.refl e1 Fv_a1 (g := (mkF m 9 #[vR a1, vR a2, vI p3, vI 0] [iR a1])) rfl rfl (hb hby d12_9)
  obtain ⟨T3, X3, e3, st3⟩ := getF X2 hx hZ hown (host := "") (Or.inl (ww hw 47 rfl)) Via.refl e2 Fv_a1 (g := (mkF m 18 #[vR a1, vR a2, vI p3, vI 0] [iR a1, iI p3, iR a2, iI 0, iR d])) rfl rfl (hb hby d12_18)
  obtain ⟨cl4, Ar4, q4, S4, M4, H4, G4⟩ := id V_d
  obtain ⟨T5, h5, L5, X5, e5, N5, K5q, V5q, st5⟩ := cpA X3 hx hZ hown (ww hw 78 rfl) (ww hw 81 rfl) (ww hw 79 rfl) (ww hw 80 rfl) e3 V_d (V_a2.pad (pad_rep _ _ cap.toNatClampNeg)) (Or.inl ⟨rfl, rfl⟩) (by decide) hn hz (by rw [own_z0]; omega) hle rfl (by rw [List.length_append, List.length_replicate]; omega) N0 g_a2 (g := (mkF m 22 #[vR a1, vR a2, vI p3, vI 0] [iI z, iI p3, iR a2, iI 0, iR d])) rfl (by rw [hml]; rfl) rfl (hb hby d12_22) (by decide) (W := 0) (wz rfl) (by decide)
  have K5 : Keep h0 h5 [a2] := Keep.trans K0 K5q (allS (Or.inl (List.mem_of_getElem? (i := 0) rfl)) all0)
  have V5 : Arv Z h5 a2 ka .byte cap (own_bs (A ++ B)) (.int (0 : Int32)) := own_cpy hA own_z0 hB V5q
  obtain ⟨fs, hr, hrun, hended, hW, hsame⟩ := X5.leave (v := none) (fun _ => rfl)
  refine ⟨_, _, pre0 _ ?_, hrun, hended, _, _, rfl, ?_, ⟨_, rfl⟩, hW, hsame.mono (by decide) (by decide)⟩
  · show SA s₁ m 0 #[vR a1, vR a2, vI p3, vI 0] []
    refine XS.aloadN X0.here hx rfl (hb hby d12_0) rfl rfl ?_
    show SA s₁ m 1 #[vR a1, vR a2, vI p3, vI 0] [iR a1]
    refine st1.trans ?_
    show SA T1 m 4 #[vR a1, vR a2, vI p3, vI 0] [iI 0]
    refine XS.iloadN X1.here hx rfl (hb hby d12_4) rfl ?_
    show SA T1 m 5 #[vR a1, vR a2, vI p3, vI 0] [iI 0, iI 0]
    refine XS.icmpNo X1.here hx rfl (hb hby d12_5) rfl (teq (by decide : (0 : Int32) = (0 : Int32))).2 ?_
    show SA T1 m 8 #[vR a1, vR a2, vI p3, vI 0] []
    refine XS.aloadN X1.here hx rfl (hb hby d12_8) rfl rfl ?_
    show SA T1 m 9 #[vR a1, vR a2, vI p3, vI 0] [iR a1]
    refine st2 _ ?_
    show SA T2 m 12 #[vR a1, vR a2, vI p3, vI 0] [iR d]
    refine XS.iconst X2.here hx rfl (hb hby d12_12) ?_
    show SA T2 m 13 #[vR a1, vR a2, vI p3, vI 0] [iI 0, iR d]
    refine XS.aloadN X2.here hx rfl (hb hby d12_13) rfl rfl ?_
    show SA T2 m 14 #[vR a1, vR a2, vI p3, vI 0] [iR a2, iI 0, iR d]
    refine XS.iloadN X2.here hx rfl (hb hby d12_14) rfl ?_
    show SA T2 m 15 #[vR a1, vR a2, vI p3, vI 0] [iI p3, iR a2, iI 0, iR d]
    refine XS.iloadN X2.here hx rfl (hb hby d12_15) rfl ?_
    show SA T2 m 16 #[vR a1, vR a2, vI p3, vI 0] [iI 0, iI p3, iR a2, iI 0, iR d]
    refine XS.ishl X2.here hx rfl (hb hby d12_16) rfl ?_
    rw [own_shl0]
    show SA T2 m 17 #[vR a1, vR a2, vI p3, vI 0] [iI p3, iR a2, iI 0, iR d]
    refine XS.aloadN X2.here hx rfl (hb hby d12_17) rfl rfl ?_
    show SA T2 m 18 #[vR a1, vR a2, vI p3, vI 0] [iR a1, iI p3, iR a2, iI 0, iR d]
    refine st3 _ ?_
    show SA T3 m 21 #[vR a1, vR a2, vI p3, vI 0] [iR d, iI p3, iR a2, iI 0, iR d]
    refine X3.arraylength hx (by rw [e3]; exact Ar4.1) (State.isArrayOf_alike hZ.alike Ar4.2.1) (g := (mkF m 21 #[vR a1, vR a2, vI p3, vI 0] [iR d, iI p3, iR a2, iI 0, iR d])) rfl rfl (hb hby d12_21) _ ?_
    rw [len_of S4 M4]
    show SA T3 m 22 #[vR a1, vR a2, vI p3, vI 0] [iI z, iI p3, iR a2, iI 0, iR d]
    refine st5 _ ?_
    show SA T5 m 25 #[vR a1, vR a2, vI p3, vI 0] []
    refine XS.goto X5.here hx rfl (pc0 := 25) (pc' := 43) rfl (hb hby d12_25) (by decide) (by decide) ?_
    show Steps _ _ _ (T5.setTop (mkF m 43 #[vR a1, vR a2, vI p3, vI 0] [])) _
    exact X5.returnOut hx Bd.returns (hb hby d12_43) hr
  · show Q12 Z a1 a2 p3 d kd z B ka cap A cs h0 n0 _ T5.heap _
    rw [e5]
    exact ⟨rfl, N5, K5, V5⟩
theorem d11_0 : decode jdk_68_method_71_code 0 = .ok (.getstatic 18, 3) := by decide +kernel
theorem d11_3 : decode jdk_68_method_71_code 3 = .ok (.ifCond .eq 18, 3) := by decide +kernel
theorem d11_6 : decode jdk_68_method_71_code 6 = .ok (.aload_n 0, 1) := by decide +kernel
theorem d11_7 : decode jdk_68_method_71_code 7 = .ok (.getfield 22, 3) := by decide +kernel
theorem d11_10 : decode jdk_68_method_71_code 10 = .ok (.aload_n 1, 1) := by decide +kernel
theorem d11_11 : decode jdk_68_method_71_code 11 = .ok (.invokevirtual 40, 3) := by decide +kernel
theorem d11_14 : decode jdk_68_method_71_code 14 = .ok (.if_icmp .eq 7, 3) := by decide +kernel
theorem d11_21 : decode jdk_68_method_71_code 21 = .ok (.return_, 1) := by decide +kernel
theorem pn_1 : plainName "java/lang/AbstractStringBuilder" = true := by first | (simp [plainName, overriddenIn]; done) | decide +kernel
theorem ef_11 (m : MethodId) (x0 : Addr) (x1 : Addr) : entryFrame m #[(.ref x0), (.ref x1)] 2 = mkF m 0 #[.val (.ref x0), .val (.ref x1)] [] := by first | (simp [entryFrame, mkF, argsToLocals, Value.category]; done) | rfl
def Q11 (Z : State) (a1 : Addr) (a2 : Addr) (d : Addr) (kd : ClassId) (z : Int32) (B : List Int32) (cs : Int32) (h0 : Heap) (v : Option Value) (h : Heap) (L : List Loc) : Prop := v = none ∧ L = [] ∧ h = h0
theorem rm11 (l : Launch) (Z : State) (a0 : Array Value) (hw : ∀ d ∈ tables_1, d.before a0 Z = true) (ws : List Jvm.Cond) (a1 : Addr) (a2 : Addr) (d : Addr) (kd : ClassId) (z : Int32) (B : List Int32) (cs : Int32) (h0 : Heap) (n0 : Nat) (O0 : Old Z n0 h0) (Gc_a1 : Fld Z h0 a1 "java/lang/AbstractStringBuilder" "coder" "B" (.int (0 : Int32))) (E_a2 : Exa Z h0 a2 "java/lang/String") (Fc_a2 : Fld Z h0 a2 "java/lang/String" "coder" "B" (.int (0 : Int32))) (Fv_a2 : Fld Z h0 a2 "java/lang/String" "value" "[B" (.ref d)) (V_d : Arv Z h0 d kd .byte z (own_bs B) (.int (0 : Int32))) (hz : ¬ z < 0) (hB : z.toNatClampNeg = B.length) (S_CS : Sta Z Z.heap "java/lang/String" "COMPACT_STRINGS" "Z" (.int cs)) (h_cs : ¬ cs = (0 : Int32)) :
    MetFree l mn_3 (head1 (Jvm.Cond.code mn_3 jdk_68_method_71_code 2 none :: ws) ({ frames := 1, cells := 0, slots := 0, locals := 13 } : Room)) (fun a U => a = #[(.ref a1), (.ref a2)] ∧ Z.Warmed39 U.vm ∧ U.heap = h0) (fun _ _ _ _ _ => True) (fun _ U o U' => ∃ v L, o = .returned v ∧ Q11 Z a1 a2 d kd z B cs h0 v U'.heap L ∧ FrameEnd U o U' L ({ frames := 1, cells := 0, slots := 0, locals := 13 } : Room).cells ({ frames := 1, cells := 0, slots := 0, locals := 13 } : Room).slots) := by
  refine MetFree.of_bodySF (plainFor_of_name pn_1) hisR ?_
  intro p e s m args below meth c s₁ Bd hml0 hP hK
  obtain ⟨rfl, hZ, hh⟩ := hP
  have hx := Bd.exec
  have hby := Bd.bytes
  have hml : c.maxLocals = 2 := hml0
  have hown : s.vm.findClass "java/lang/AbstractStringBuilder" = some m.cls := findClass_of_methodNamed Bd.named
  have hnm := (name_of_methodNamed Bd.named Bd.method).1
  have X0 : Stand p l e ({ frames := 1, cells := 0, slots := 0, locals := 13 } : Room) s m #[(.ref a1), (.ref a2)] below meth c s₁ [] 0 0 := Stand.of_body Bd
  have e0 : s₁.heap = h0 := by rw [← hh, Bd.state]; rfl
  have pre0 : ∀ t, Steps p.tables e below (s₁.setTop (mkF m 0 #[.val (.ref a1), .val (.ref a2)] [])) t → Steps p.tables e below (s₁.setTop (entryFrame m #[(.ref a1), (.ref a2)] 2)) t := fun t k => castTop (ef_11 m a1 a2) k
  obtain ⟨T1, X1, e1, st1⟩ := getS2 X0 hx hZ hown (host := "") (Or.inl (ww hw 27 rfl)) Via.refl e0 (S_CS.ext O0.2) (g := (mkF m 0 #[vR a1, vR a2] [])) rfl (hb hby d11_0)
  obtain ⟨T2, X2, e2, st2⟩ := getF X1 hx hZ hown (host := "") (Or.inl (ww hw 30 rfl)) Via.refl e1 Gc_a1 (g := (mkF m 7 #[vR a1, vR a2] [iR a1])) rfl rfl (hb hby d11_7)
  obtain ⟨cq3, kq3, q3a, q3b, q3c⟩ := isOf hZ e2 E_a2
  obtain ⟨_, _, ⟨T3, L3, k3, n3⟩, -, X3, ⟨Lc3, hQ3, l3, y3, z3⟩, st3⟩ := X2.virtualBack hx (y := mn_0) (z := mn_0) hown (mvT hZ (ww hw 72 rfl)) (mvT hZ (ww hw 49 rfl)) (notFace_of_selects (args := #[]) (mvT hZ (ww hw 51 rfl))) (mvT hZ (ww hw 51 rfl)) (mvT hZ (ww hw 50 rfl)) (by decide) (backOf (W := 1) (rm8 l Z a0 hw [] a2 cs h0 n0 O0 Fc_a2 S_CS h_cs) hZ (ww hw 52 rfl) (ww hw 1 rfl) (by decide) (by decide)) q3a q3c (g := (mkF m 11 #[vR a1, vR a2] [iR a2, iI 0])) rfl (by rw [hml]; rfl) (Steps.refl _) (argsL := []) (rest := [(.int (0 : Int32))]) (lenOf pd_0 rfl) rfl (wz rfl) (hb hby d11_11) (fun _ _ => ⟨rfl, e2, (by decide : 0 + 0 ≤ _), (by decide : 0 + 0 ≤ _)⟩)
  dsimp only [Pt.U, Pt.locs, Pt.cells, Pt.slots] at X3 l3 y3 z3 st3 hQ3
  subst l3 y3 z3
  obtain ⟨rfl, rfl, e3⟩ := hQ3
  try rw [List.append_nil] at X3
  obtain ⟨fs, hr, hrun, hended, hW, hsame⟩ := X3.leave (v := none) (fun _ => rfl)
  refine ⟨_, _, pre0 _ ?_, hrun, hended, _, _, rfl, ?_, ⟨_, rfl⟩, hW, hsame.mono (by decide) (by decide)⟩
  · show SA s₁ m 0 #[vR a1, vR a2] []
    refine st1 _ ?_
    show SA T1 m 3 #[vR a1, vR a2] [iI cs]
    refine XS.ifNo X1.here hx rfl (hb hby d11_3) rfl ((if0 _ _).trans (feq h_cs).1) ?_
    show SA T1 m 6 #[vR a1, vR a2] []
    refine XS.aloadN X1.here hx rfl (hb hby d11_6) rfl rfl ?_
    show SA T1 m 7 #[vR a1, vR a2] [iR a1]
    refine st2 _ ?_
    show SA T2 m 10 #[vR a1, vR a2] [iI 0]
    refine XS.aloadN X2.here hx rfl (hb hby d11_10) rfl rfl ?_
    show SA T2 m 11 #[vR a1, vR a2] [iR a2, iI 0]
    refine st3.trans ?_
    show SA T3 m 14 #[vR a1, vR a2] [iI 0, iI 0]
    refine XS.icmpYes X3.here hx rfl (pc0 := 14) (pc' := 21) rfl (hb hby d11_14) rfl (teq (by decide : (0 : Int32) = (0 : Int32))).1 (by decide) (by decide) ?_
    show Steps _ _ _ (T3.setTop (mkF m 21 #[vR a1, vR a2] [])) _
    exact X3.returnOut hx Bd.returns (hb hby d11_21) hr
  · show Q11 Z a1 a2 d kd z B cs h0 _ T3.heap _
    rw [e3]
    exact ⟨rfl, rfl, rfl⟩
theorem d10_0 : decode jdk_68_method_73_code 0 = .ok (.aload_n 0, 1) := by decide +kernel
theorem d10_1 : decode jdk_68_method_73_code 1 = .ok (.aload_n 2, 1) := by decide +kernel
theorem d10_2 : decode jdk_68_method_73_code 2 = .ok (.invokevirtual 397, 3) := by decide +kernel
theorem d10_5 : decode jdk_68_method_73_code 5 = .ok (.aload_n 2, 1) := by decide +kernel
theorem d10_6 : decode jdk_68_method_73_code 6 = .ok (.aload_n 0, 1) := by decide +kernel
theorem d10_7 : decode jdk_68_method_73_code 7 = .ok (.getfield 15, 3) := by decide +kernel
theorem d10_10 : decode jdk_68_method_73_code 10 = .ok (.iload_n 1, 1) := by decide +kernel
theorem d10_11 : decode jdk_68_method_73_code 11 = .ok (.aload_n 0, 1) := by decide +kernel
theorem d10_12 : decode jdk_68_method_73_code 12 = .ok (.getfield 22, 3) := by decide +kernel
theorem d10_15 : decode jdk_68_method_73_code 15 = .ok (.invokevirtual 399, 3) := by decide +kernel
theorem d10_18 : decode jdk_68_method_73_code 18 = .ok (.return_, 1) := by decide +kernel
theorem ef_10 (m : MethodId) (x0 : Addr) (x1 : Int32) (x2 : Addr) : entryFrame m #[(.ref x0), (.int x1), (.ref x2)] 3 = mkF m 0 #[.val (.ref x0), .val (.int x1), .val (.ref x2)] [] := by first | (simp [entryFrame, mkF, argsToLocals, Value.category]; done) | rfl
def Q10 (Z : State) (a1 : Addr) (p2 : Int32) (a3 : Addr) (b : Addr) (kb : ClassId) (cap : Int32) (A : List Int32) (d : Addr) (kd : ClassId) (z : Int32) (B : List Int32) (cs : Int32) (h0 : Heap) (n0 : Nat) (v : Option Value) (h : Heap) (L : List Loc) : Prop := v = none ∧ Fr n0 L ∧ Keep h0 h [b] ∧ Arv Z h b kb .byte cap (own_bs (A ++ B)) (.int (0 : Int32))
theorem rm10 (l : Launch) (Z : State) (a0 : Array Value) (hw : ∀ d ∈ tables_1, d.before a0 Z = true) (ws : List Jvm.Cond) (a1 : Addr) (p2 : Int32) (a3 : Addr) (b : Addr) (kb : ClassId) (cap : Int32) (A : List Int32) (d : Addr) (kd : ClassId) (z : Int32) (B : List Int32) (cs : Int32) (h0 : Heap) (n0 : Nat) (Z0 : n0 ≤ h0.size) (O0 : Old Z n0 h0) (E_a1 : Exa Z h0 a1 "java/lang/StringBuilder") (Gv_a1 : Fld Z h0 a1 "java/lang/AbstractStringBuilder" "value" "[B" (.ref b)) (Gc_a1 : Fld Z h0 a1 "java/lang/AbstractStringBuilder" "coder" "B" (.int (0 : Int32))) (V_b : Arv Z h0 b kb .byte cap (own_bs A) (.int (0 : Int32))) (g_b : n0 ≤ b) (E_a3 : Exa Z h0 a3 "java/lang/String") (Fc_a3 : Fld Z h0 a3 "java/lang/String" "coder" "B" (.int (0 : Int32))) (Fv_a3 : Fld Z h0 a3 "java/lang/String" "value" "[B" (.ref d)) (V_d : Arv Z h0 d kd .byte z (own_bs B) (.int (0 : Int32))) (hz : ¬ z < 0) (hB : z.toNatClampNeg = B.length) (hn : ¬ p2 < 0) (hA : p2.toNatClampNeg = A.length) (hle : p2.toNatClampNeg + z.toNatClampNeg ≤ cap.toNatClampNeg) (S_CS : Sta Z Z.heap "java/lang/String" "COMPACT_STRINGS" "Z" (.int cs)) (h_cs : ¬ cs = (0 : Int32)) :
    MetFree l mn_5 (head1 (Jvm.Cond.code mn_5 jdk_68_method_73_code 3 none :: ws) ({ frames := 2, cells := 0, slots := 0, locals := 33 } : Room)) (fun a U => a = #[(.ref a1), (.int p2), (.ref a3)] ∧ Z.Warmed39 U.vm ∧ U.heap = h0) (fun _ _ _ _ _ => True) (fun _ U o U' => ∃ v L, o = .returned v ∧ Q10 Z a1 p2 a3 b kb cap A d kd z B cs h0 n0 v U'.heap L ∧ FrameEnd U o U' L ({ frames := 2, cells := 0, slots := 0, locals := 33 } : Room).cells ({ frames := 2, cells := 0, slots := 0, locals := 33 } : Room).slots) := by
  refine MetFree.of_bodySF (plainFor_of_name pn_1) hisR ?_
  intro p e s m args below meth c s₁ Bd hml0 hP hK
  obtain ⟨rfl, hZ, hh⟩ := hP
  have hx := Bd.exec
  have hby := Bd.bytes
  have hml : c.maxLocals = 3 := hml0
  have hown : s.vm.findClass "java/lang/AbstractStringBuilder" = some m.cls := findClass_of_methodNamed Bd.named
  have hnm := (name_of_methodNamed Bd.named Bd.method).1
  have X0 : Stand p l e ({ frames := 2, cells := 0, slots := 0, locals := 33 } : Room) s m #[(.ref a1), (.int p2), (.ref a3)] below meth c s₁ [] 0 0 := Stand.of_body Bd
  have e0 : s₁.heap = h0 := by rw [← hh, Bd.state]; rfl
  have N0 := Fr.nil n0
  have K0 := Keep.refl h0 [b]
  have pre0 : ∀ t, Steps p.tables e below (s₁.setTop (mkF m 0 #[.val (.ref a1), .val (.int p2), .val (.ref a3)] [])) t → Steps p.tables e below (s₁.setTop (entryFrame m #[(.ref a1), (.int p2), (.ref a3)] 3)) t := fun t k => castTop (ef_10 m a1 p2 a3) k
  obtain ⟨cq1, q1, q1'⟩ := E_a1.cell
  obtain ⟨_, _, ⟨T1, L1, k1, n1⟩, -, X1, ⟨Lc1, hQ1, l1, y1, z1⟩, st1⟩ := X0.privateBack hx (y := mn_3) hown (mvT hZ (ww hw 67 rfl)) (mvT hZ (ww hw 68 rfl)) (own_selPriv2 (own_nf (z := mn_4) rfl (notFace_of_selects (args := #[]) (mvT hZ (ww hw 60 rfl))) (mvT hZ (ww hw 58 rfl) (args := #[]))) (Cond.privateMethod_at (mvP hZ (ww hw 69 rfl) (args := #[]))) (mvT hZ (ww hw 68 rfl)) (by decide)) (Cond.privateMethod_at (mvP hZ (ww hw 69 rfl) (args := #[]))) (mvT hZ (ww hw 71 rfl)) (by decide) (backOf (W := 0) (rm11 l Z a0 hw [] a1 a3 d kd z B cs h0 n0 O0 Gc_a1 E_a3 Fc_a3 Fv_a3 V_d hz hB S_CS h_cs) hZ (ww hw 71 rfl) (ww hw 22 rfl) (by decide) (by decide)) (g := (mkF m 2 #[vR a1, vI p2, vR a3] [iR a3, iR a1])) rfl (by rw [hml]; rfl) (Steps.refl _) (a := a1) (by rw [e0]; exact q1) q1' (argsL := [(.ref a3)]) (rest := []) (lenOf pd_1 rfl) rfl (wz rfl) (hb hby d10_2) (fun _ _ => ⟨rfl, e0, (by decide : 0 + 0 ≤ _), (by decide : 0 + 0 ≤ _)⟩)
  dsimp only [Pt.U, Pt.locs, Pt.cells, Pt.slots] at X1 l1 y1 z1 st1 hQ1
  subst l1 y1 z1
  obtain ⟨rfl, rfl, e1⟩ := hQ1
  try rw [List.append_nil] at X1
  obtain ⟨T2, X2, e2, st2⟩ := getF X1 hx hZ hown (host := "") (Or.inl (ww hw 28 rfl)) Via.refl e1 Gv_a1 (g := (mkF m 7 #[vR a1, vI p2, vR a3] [iR a1, iR a3])) rfl rfl (hb hby d10_7)
  obtain ⟨T3, X3, e3, st3⟩ := getF X2 hx hZ hown (host := "") (Or.inl (ww hw 30 rfl)) Via.refl e2 Gc_a1 (g := (mkF m 12 #[vR a1, vI p2, vR a3] [iR a1, iI p2, iR b, iR a3])) rfl rfl (hb hby d10_12)
  obtain ⟨cq4, kq4, q4a, q4b, q4c⟩ := isOf hZ e3 E_a3
  obtain ⟨_, _, ⟨T4, L4, k4, n4⟩, -, X4, ⟨Lc4, hQ4, l4, y4, z4⟩, st4⟩ := X3.virtualBack hx (y := mn_2) (z := mn_2) hown (mvT hZ (ww hw 73 rfl)) (mvT hZ (ww hw 74 rfl)) (notFace_of_selects (args := #[]) (mvT hZ (ww hw 76 rfl))) (mvT hZ (ww hw 76 rfl)) (mvT hZ (ww hw 75 rfl)) (by decide) (backOf (W := 0) (rm12 l Z a0 hw [] a3 b p2 d kd z B kb cap A cs h0 n0 (Nat.le_trans Z0 K0.1) O0 E_a3 Fc_a3 Fv_a3 V_d hz hB V_b g_b hn hA hle S_CS h_cs) hZ (ww hw 77 rfl) (ww hw 1 rfl) (by decide) (by decide)) q4a q4c (g := (mkF m 15 #[vR a1, vI p2, vR a3] [iI 0, iI p2, iR b, iR a3])) rfl (by rw [hml]; rfl) (Steps.refl _) (argsL := [(.ref b), (.int p2), (.int (0 : Int32))]) (rest := []) (lenOf pd_2 rfl) rfl (wz rfl) (hb hby d10_15) (fun _ _ => ⟨rfl, e3, (by decide : 0 + 0 ≤ _), (by decide : 0 + 0 ≤ _)⟩)
  dsimp only [Pt.U, Pt.locs, Pt.cells, Pt.slots] at X4 l4 y4 z4 st4 hQ4
  subst l4 y4 z4
  obtain ⟨rfl, N4q, K4q, V4q⟩ := hQ4
  have N4 := Fr.app N0 N4q
  have K4 : Keep h0 T4.heap [b] := Keep.trans K0 K4q (allS (Or.inl (List.mem_of_getElem? (i := 0) rfl)) all0)
  obtain ⟨fs, hr, hrun, hended, hW, hsame⟩ := X4.leave (v := none) (fun _ => rfl)
  refine ⟨_, _, pre0 _ ?_, hrun, hended, _, _, rfl, ?_, ⟨_, rfl⟩, hW, hsame.mono (by decide) (by decide)⟩
  · show SA s₁ m 0 #[vR a1, vI p2, vR a3] []
    refine XS.aloadN X0.here hx rfl (hb hby d10_0) rfl rfl ?_
    show SA s₁ m 1 #[vR a1, vI p2, vR a3] [iR a1]
    refine XS.aloadN X0.here hx rfl (hb hby d10_1) rfl rfl ?_
    show SA s₁ m 2 #[vR a1, vI p2, vR a3] [iR a3, iR a1]
    refine st1.trans ?_
    show SA T1 m 5 #[vR a1, vI p2, vR a3] []
    refine XS.aloadN X1.here hx rfl (hb hby d10_5) rfl rfl ?_
    show SA T1 m 6 #[vR a1, vI p2, vR a3] [iR a3]
    refine XS.aloadN X1.here hx rfl (hb hby d10_6) rfl rfl ?_
    show SA T1 m 7 #[vR a1, vI p2, vR a3] [iR a1, iR a3]
    refine st2 _ ?_
    show SA T2 m 10 #[vR a1, vI p2, vR a3] [iR b, iR a3]
    refine XS.iloadN X2.here hx rfl (hb hby d10_10) rfl ?_
    show SA T2 m 11 #[vR a1, vI p2, vR a3] [iI p2, iR b, iR a3]
    refine XS.aloadN X2.here hx rfl (hb hby d10_11) rfl rfl ?_
    show SA T2 m 12 #[vR a1, vI p2, vR a3] [iR a1, iI p2, iR b, iR a3]
    refine st3 _ ?_
    show SA T3 m 15 #[vR a1, vI p2, vR a3] [iI 0, iI p2, iR b, iR a3]
    refine st4.trans ?_
    show Steps _ _ _ (T4.setTop (mkF m 18 #[vR a1, vI p2, vR a3] [])) _
    exact X4.returnOut hx Bd.returns (hb hby d10_18) hr
  · show Q10 Z a1 p2 a3 b kb cap A d kd z B cs h0 n0 _ T4.heap _
    exact ⟨rfl, N4, K4, V4q⟩
def own_max (p1 : Int32) (p2 : Int32) : Int32 := (if p1 < p2 then p2 else p1)
theorem d15_0 : decode jdk_29_method_65_code 0 = .ok (.iload_n 0, 1) := by decide +kernel
theorem d15_1 : decode jdk_29_method_65_code 1 = .ok (.iload_n 1, 1) := by decide +kernel
theorem d15_2 : decode jdk_29_method_65_code 2 = .ok (.if_icmp .lt 7, 3) := by decide +kernel
theorem d15_5 : decode jdk_29_method_65_code 5 = .ok (.iload_n 0, 1) := by decide +kernel
theorem d15_6 : decode jdk_29_method_65_code 6 = .ok (.goto 4, 3) := by decide +kernel
theorem d15_9 : decode jdk_29_method_65_code 9 = .ok (.iload_n 1, 1) := by decide +kernel
theorem d15_10 : decode jdk_29_method_65_code 10 = .ok (.ireturn, 1) := by decide +kernel
theorem ef_15 (m : MethodId) (x0 : Int32) (x1 : Int32) : entryFrame m #[(.int x0), (.int x1)] 2 = mkF m 0 #[.val (.int x0), .val (.int x1)] [] := by first | (simp [entryFrame, mkF, argsToLocals, Value.category]; done) | rfl
def Q15 (Z : State) (p1 : Int32) (p2 : Int32) (h0 : Heap) (v : Option Value) (h : Heap) (L : List Loc) : Prop := v = some (.int (own_max p1 p2)) ∧ L = [] ∧ h = h0
theorem rm15 (l : Launch) (Z : State) (a0 : Array Value) (hw : ∀ d ∈ tables_1, d.before a0 Z = true) (ws : List Jvm.Cond) (p1 : Int32) (p2 : Int32) (h0 : Heap) :
    MetFree l mn_6 (head1 (Jvm.Cond.code mn_6 jdk_29_method_65_code 2 (some .int) :: ws) ({ frames := 0, cells := 0, slots := 0, locals := 0 } : Room)) (fun a U => a = #[(.int p1), (.int p2)] ∧ Z.Warmed39 U.vm ∧ U.heap = h0) (fun _ _ _ _ _ => True) (fun _ U o U' => ∃ v L, o = .returned v ∧ Q15 Z p1 p2 h0 v U'.heap L ∧ FrameEnd U o U' L ({ frames := 0, cells := 0, slots := 0, locals := 0 } : Room).cells ({ frames := 0, cells := 0, slots := 0, locals := 0 } : Room).slots) := by
  refine MetFree.of_bodySF (Jvm.Free.JP.mathPlain rfl (by decide +kernel)) hisR ?_
  intro p e s m args below meth c s₁ Bd hml0 hP hK
  obtain ⟨rfl, hZ, hh⟩ := hP
  have hx := Bd.exec
  have hby := Bd.bytes
  have hml : c.maxLocals = 2 := hml0
  have hown : s.vm.findClass "java/lang/Math" = some m.cls := findClass_of_methodNamed Bd.named
  have hnm := (name_of_methodNamed Bd.named Bd.method).1
  have X0 : Stand p l e ({ frames := 0, cells := 0, slots := 0, locals := 0 } : Room) s m #[(.int p1), (.int p2)] below meth c s₁ [] 0 0 := Stand.of_body Bd
  have e0 : s₁.heap = h0 := by rw [← hh, Bd.state]; rfl
  have pre0 : ∀ t, Steps p.tables e below (s₁.setTop (mkF m 0 #[.val (.int p1), .val (.int p2)] [])) t → Steps p.tables e below (s₁.setTop (entryFrame m #[(.int p1), (.int p2)] 2)) t := fun t k => castTop (ef_15 m p1 p2) k
  obtain ⟨v1, hv1⟩ : ∃ z : Int32, z = (if p1 < p2 then p2 else p1) := ⟨_, rfl⟩
  obtain ⟨T2, X2, e2, st2⟩ : own_Mid X0 h0 (mkF m 2 #[vI p1, vI p2] [iI p2, iI p1]) (mkF m 10 #[vI p1, vI p2] [iI v1]) := by
    by_cases hc3 : p1 < p2
    · refine ⟨s₁, X0, e0, fun t kt => ?_⟩
      subst hv1
      simp only [if_pos hc3] at kt
      show SA s₁ m 2 #[vI p1, vI p2] [iI p2, iI p1]
      refine XS.icmpYes X0.here hx rfl (pc0 := 2) (pc' := 9) rfl (hb hby d15_2) rfl (tlt hc3).1 (by decide) (by decide) ?_
      show SA s₁ m 9 #[vI p1, vI p2] []
      refine XS.iloadN X0.here hx rfl (hb hby d15_9) rfl ?_
      exact kt
    · refine ⟨s₁, X0, e0, fun t kt => ?_⟩
      subst hv1
      simp only [if_neg hc3] at kt
      show SA s₁ m 2 #[vI p1, vI p2] [iI p2, iI p1]
      refine XS.icmpNo X0.here hx rfl (hb hby d15_2) rfl (flt hc3).1 ?_
      show SA s₁ m 5 #[vI p1, vI p2] []
      refine XS.iloadN X0.here hx rfl (hb hby d15_5) rfl ?_
      show SA s₁ m 6 #[vI p1, vI p2] [iI p1]
      refine XS.goto X0.here hx rfl (pc0 := 6) (pc' := 10) rfl (hb hby d15_6) (by decide) (by decide) ?_
      exact kt
  obtain ⟨fs, hr, hrun, hended, hW, hsame⟩ := X2.leave (v := some (.int v1)) (fun h => by rw [Bd.returns] at h; cases h)
  refine ⟨_, _, pre0 _ ?_, hrun, hended, _, _, rfl, ?_, ⟨_, rfl⟩, hW, hsame.mono (by decide) (by decide)⟩
  · show SA s₁ m 0 #[vI p1, vI p2] []
    refine XS.iloadN X0.here hx rfl (hb hby d15_0) rfl ?_
    show SA s₁ m 1 #[vI p1, vI p2] [iI p1]
    refine XS.iloadN X0.here hx rfl (hb hby d15_1) rfl ?_
    show SA s₁ m 2 #[vI p1, vI p2] [iI p2, iI p1]
    refine st2 _ ?_
    show Steps _ _ _ (T2.setTop (mkF m 10 #[vI p1, vI p2] [iI v1])) _
    exact retI X2 hx Bd.returns (hb hby d15_10) hr
  · show Q15 Z p1 p2 h0 _ T2.heap _
    rw [e2]
    exact ⟨by subst hv1; first | rfl | (simp only [own_max]; done) | (simp only [own_max]; rfl) | (simp only [own_max, nar] ; first | rfl | (simp; done) | decide), rfl, rfl⟩
def own_min (p1 : Int32) (p2 : Int32) : Int32 := (if p2 < p1 then p2 else p1)
theorem d17_0 : decode jdk_29_method_69_code 0 = .ok (.iload_n 0, 1) := by decide +kernel
theorem d17_1 : decode jdk_29_method_69_code 1 = .ok (.iload_n 1, 1) := by decide +kernel
theorem d17_2 : decode jdk_29_method_69_code 2 = .ok (.if_icmp .gt 7, 3) := by decide +kernel
theorem d17_5 : decode jdk_29_method_69_code 5 = .ok (.iload_n 0, 1) := by decide +kernel
theorem d17_6 : decode jdk_29_method_69_code 6 = .ok (.goto 4, 3) := by decide +kernel
theorem d17_9 : decode jdk_29_method_69_code 9 = .ok (.iload_n 1, 1) := by decide +kernel
theorem d17_10 : decode jdk_29_method_69_code 10 = .ok (.ireturn, 1) := by decide +kernel
theorem ef_17 (m : MethodId) (x0 : Int32) (x1 : Int32) : entryFrame m #[(.int x0), (.int x1)] 2 = mkF m 0 #[.val (.int x0), .val (.int x1)] [] := by first | (simp [entryFrame, mkF, argsToLocals, Value.category]; done) | rfl
def Q17 (Z : State) (p1 : Int32) (p2 : Int32) (h0 : Heap) (v : Option Value) (h : Heap) (L : List Loc) : Prop := v = some (.int (own_min p1 p2)) ∧ L = [] ∧ h = h0
theorem rm17 (l : Launch) (Z : State) (a0 : Array Value) (hw : ∀ d ∈ tables_1, d.before a0 Z = true) (ws : List Jvm.Cond) (p1 : Int32) (p2 : Int32) (h0 : Heap) :
    MetFree l mn_7 (head1 (Jvm.Cond.code mn_7 jdk_29_method_69_code 2 (some .int) :: ws) ({ frames := 0, cells := 0, slots := 0, locals := 0 } : Room)) (fun a U => a = #[(.int p1), (.int p2)] ∧ Z.Warmed39 U.vm ∧ U.heap = h0) (fun _ _ _ _ _ => True) (fun _ U o U' => ∃ v L, o = .returned v ∧ Q17 Z p1 p2 h0 v U'.heap L ∧ FrameEnd U o U' L ({ frames := 0, cells := 0, slots := 0, locals := 0 } : Room).cells ({ frames := 0, cells := 0, slots := 0, locals := 0 } : Room).slots) := by
  refine MetFree.of_bodySF (Jvm.Free.JP.mathPlain rfl (by decide +kernel)) hisR ?_
  intro p e s m args below meth c s₁ Bd hml0 hP hK
  obtain ⟨rfl, hZ, hh⟩ := hP
  have hx := Bd.exec
  have hby := Bd.bytes
  have hml : c.maxLocals = 2 := hml0
  have hown : s.vm.findClass "java/lang/Math" = some m.cls := findClass_of_methodNamed Bd.named
  have hnm := (name_of_methodNamed Bd.named Bd.method).1
  have X0 : Stand p l e ({ frames := 0, cells := 0, slots := 0, locals := 0 } : Room) s m #[(.int p1), (.int p2)] below meth c s₁ [] 0 0 := Stand.of_body Bd
  have e0 : s₁.heap = h0 := by rw [← hh, Bd.state]; rfl
  have pre0 : ∀ t, Steps p.tables e below (s₁.setTop (mkF m 0 #[.val (.int p1), .val (.int p2)] [])) t → Steps p.tables e below (s₁.setTop (entryFrame m #[(.int p1), (.int p2)] 2)) t := fun t k => castTop (ef_17 m p1 p2) k
  obtain ⟨v1, hv1⟩ : ∃ z : Int32, z = (if p2 < p1 then p2 else p1) := ⟨_, rfl⟩
  obtain ⟨T2, X2, e2, st2⟩ : own_Mid X0 h0 (mkF m 2 #[vI p1, vI p2] [iI p2, iI p1]) (mkF m 10 #[vI p1, vI p2] [iI v1]) := by
    by_cases hc3 : p2 < p1
    · refine ⟨s₁, X0, e0, fun t kt => ?_⟩
      subst hv1
      simp only [if_pos hc3] at kt
      show SA s₁ m 2 #[vI p1, vI p2] [iI p2, iI p1]
      refine XS.icmpYes X0.here hx rfl (pc0 := 2) (pc' := 9) rfl (hb hby d17_2) rfl (tlt hc3).2.2.1 (by decide) (by decide) ?_
      show SA s₁ m 9 #[vI p1, vI p2] []
      refine XS.iloadN X0.here hx rfl (hb hby d17_9) rfl ?_
      exact kt
    · refine ⟨s₁, X0, e0, fun t kt => ?_⟩
      subst hv1
      simp only [if_neg hc3] at kt
      show SA s₁ m 2 #[vI p1, vI p2] [iI p2, iI p1]
      refine XS.icmpNo X0.here hx rfl (hb hby d17_2) rfl (flt hc3).2.2.1 ?_
      show SA s₁ m 5 #[vI p1, vI p2] []
      refine XS.iloadN X0.here hx rfl (hb hby d17_5) rfl ?_
      show SA s₁ m 6 #[vI p1, vI p2] [iI p1]
      refine XS.goto X0.here hx rfl (pc0 := 6) (pc' := 10) rfl (hb hby d17_6) (by decide) (by decide) ?_
      exact kt
  obtain ⟨fs, hr, hrun, hended, hW, hsame⟩ := X2.leave (v := some (.int v1)) (fun h => by rw [Bd.returns] at h; cases h)
  refine ⟨_, _, pre0 _ ?_, hrun, hended, _, _, rfl, ?_, ⟨_, rfl⟩, hW, hsame.mono (by decide) (by decide)⟩
  · show SA s₁ m 0 #[vI p1, vI p2] []
    refine XS.iloadN X0.here hx rfl (hb hby d17_0) rfl ?_
    show SA s₁ m 1 #[vI p1, vI p2] [iI p1]
    refine XS.iloadN X0.here hx rfl (hb hby d17_1) rfl ?_
    show SA s₁ m 2 #[vI p1, vI p2] [iI p2, iI p1]
    refine st2 _ ?_
    show Steps _ _ _ (T2.setTop (mkF m 10 #[vI p1, vI p2] [iI v1])) _
    exact retI X2 hx Bd.returns (hb hby d17_10) hr
  · show Q17 Z p1 p2 h0 _ T2.heap _
    rw [e2]
    exact ⟨by subst hv1; first | rfl | (simp only [own_min]; done) | (simp only [own_min]; rfl) | (simp only [own_min, nar] ; first | rfl | (simp; done) | decide), rfl, rfl⟩
def Q17_e (Z : State) (p1 : Int32) (p2 : Int32) (r : Int32) (h0 : Heap) (v : Option Value) (h : Heap) (L : List Loc) : Prop := v = some (.int r) ∧ L = [] ∧ h = h0
theorem rm17_e (l : Launch) (Z : State) (a0 : Array Value) (hw : ∀ d ∈ tables_1, d.before a0 Z = true) (ws : List Jvm.Cond) (p1 : Int32) (p2 : Int32) (r : Int32) (h0 : Heap) (hr : own_min p1 p2 = r) :
    MetFree l mn_7 (head1 (Jvm.Cond.code mn_7 jdk_29_method_69_code 2 (some .int) :: ws) ({ frames := 0, cells := 0, slots := 0, locals := 0 } : Room)) (fun a U => a = #[(.int p1), (.int p2)] ∧ Z.Warmed39 U.vm ∧ U.heap = h0) (fun _ _ _ _ _ => True) (fun _ U o U' => ∃ v L, o = .returned v ∧ Q17_e Z p1 p2 r h0 v U'.heap L ∧ FrameEnd U o U' L ({ frames := 0, cells := 0, slots := 0, locals := 0 } : Room).cells ({ frames := 0, cells := 0, slots := 0, locals := 0 } : Room).slots) := by
  subst hr
  exact rm17 l Z a0 hw ws p1 p2 h0
theorem own_minL {a b : Int32} (h : a < b) : own_min a b = a := by
  unfold own_min
  rw [Int32.lt_iff_toInt_lt] at h
  split
  · next q => rw [Int32.lt_iff_toInt_lt] at q; omega
  · rfl
theorem own_ltN {a b : Int32} (h0 : ¬ a < 0) (h : a < b) : a.toNatClampNeg ≤ b.toNatClampNeg ∧ ¬ b = a ∧ ¬ b < 0 := by
  have e0 : (0 : Int32).toInt = 0 := rfl
  refine ⟨?_, fun e => ?_, ?_⟩
  · rw [Int32.lt_iff_toInt_lt] at *; simp only [Int32.toNatClampNeg]; omega
  · rw [e, Int32.lt_iff_toInt_lt] at h; omega
  · rw [Int32.lt_iff_toInt_lt] at *; omega
theorem d14_0 : decode jdk_48_method_27_code 0 = .ok (.iload_n 0, 1) := by decide +kernel
theorem d14_1 : decode jdk_48_method_27_code 1 = .ok (.iload_n 1, 1) := by decide +kernel
theorem d14_2 : decode jdk_48_method_27_code 2 = .ok (.iload_n 2, 1) := by decide +kernel
theorem d14_3 : decode jdk_48_method_27_code 3 = .ok (.invokestatic 194, 3) := by decide +kernel
theorem d14_6 : decode jdk_48_method_27_code 6 = .ok (.iadd, 1) := by decide +kernel
theorem d14_7 : decode jdk_48_method_27_code 7 = .ok (.istore_n 3, 1) := by decide +kernel
theorem d14_8 : decode jdk_48_method_27_code 8 = .ok (.iconst 0, 1) := by decide +kernel
theorem d14_9 : decode jdk_48_method_27_code 9 = .ok (.iload_n 3, 1) := by decide +kernel
theorem d14_10 : decode jdk_48_method_27_code 10 = .ok (.if_icmp .ge 11, 3) := by decide +kernel
theorem d14_13 : decode jdk_48_method_27_code 13 = .ok (.iload_n 3, 1) := by decide +kernel
theorem d14_14 : decode jdk_48_method_27_code 14 = .ok (.ldc 200, 2) := by decide +kernel
theorem d14_16 : decode jdk_48_method_27_code 16 = .ok (.if_icmp .gt 5, 3) := by decide +kernel
theorem d14_19 : decode jdk_48_method_27_code 19 = .ok (.iload_n 3, 1) := by decide +kernel
theorem d14_20 : decode jdk_48_method_27_code 20 = .ok (.ireturn, 1) := by decide +kernel
theorem pn_2 : plainName "jdk/internal/util/ArraysSupport" = true := by first | (simp [plainName, overriddenIn]; done) | decide +kernel
theorem ef_14 (m : MethodId) (x0 : Int32) (x1 : Int32) (x2 : Int32) : entryFrame m #[(.int x0), (.int x1), (.int x2)] 4 = mkF m 0 #[.val (.int x0), .val (.int x1), .val (.int x2), .unset] [] := by first | (simp [entryFrame, mkF, argsToLocals, Value.category]; done) | rfl
def Q14 (Z : State) (p1 : Int32) (p2 : Int32) (p3 : Int32) (nc : Int32) (h0 : Heap) (v : Option Value) (h : Heap) (L : List Loc) : Prop := v = some (.int nc) ∧ L = [] ∧ h = h0
theorem rm14 (l : Launch) (Z : State) (a0 : Array Value) (hw : ∀ d ∈ tables_1, d.before a0 Z = true) (ws : List Jvm.Cond) (p1 : Int32) (p2 : Int32) (p3 : Int32) (nc : Int32) (h0 : Heap) (hnc : (p1 + (own_max p2 p3)) = nc) (h1 : (0 : Int32) < nc) (h2 : ¬ (2147483639 : Int32) < nc) :
    MetFree l mn_8 (head1 (Jvm.Cond.code mn_8 jdk_48_method_27_code 4 (some .int) :: ws) ({ frames := 1, cells := 0, slots := 0, locals := 14 } : Room)) (fun a U => a = #[(.int p1), (.int p2), (.int p3)] ∧ Z.Warmed39 U.vm ∧ U.heap = h0) (fun _ _ _ _ _ => True) (fun _ U o U' => ∃ v L, o = .returned v ∧ Q14 Z p1 p2 p3 nc h0 v U'.heap L ∧ FrameEnd U o U' L ({ frames := 1, cells := 0, slots := 0, locals := 14 } : Room).cells ({ frames := 1, cells := 0, slots := 0, locals := 14 } : Room).slots) := by
  refine MetFree.of_bodySF (plainFor_of_name pn_2) hisR ?_
  intro p e s m args below meth c s₁ Bd hml0 hP hK
  obtain ⟨rfl, hZ, hh⟩ := hP
  have hx := Bd.exec
  have hby := Bd.bytes
  have hml : c.maxLocals = 4 := hml0
  have hown : s.vm.findClass "jdk/internal/util/ArraysSupport" = some m.cls := findClass_of_methodNamed Bd.named
  have hnm := (name_of_methodNamed Bd.named Bd.method).1
  have X0 : Stand p l e ({ frames := 1, cells := 0, slots := 0, locals := 14 } : Room) s m #[(.int p1), (.int p2), (.int p3)] below meth c s₁ [] 0 0 := Stand.of_body Bd
  have e0 : s₁.heap = h0 := by rw [← hh, Bd.state]; rfl
  have pre0 : ∀ t, Steps p.tables e below (s₁.setTop (mkF m 0 #[.val (.int p1), .val (.int p2), .val (.int p3), .unset] [])) t → Steps p.tables e below (s₁.setTop (entryFrame m #[(.int p1), (.int p2), (.int p3)] 4)) t := fun t k => castTop (ef_14 m p1 p2 p3) k
  obtain ⟨_, _, ⟨T1, L1, k1, n1⟩, -, X1, ⟨Lc1, hQ1, l1, y1, z1⟩, st1⟩ := Jvm.LawKit.callS X0 hx (y := mn_6) hown (mvT hZ (ww hw 93 rfl)) (mvT hZ (ww hw 94 rfl)) (mvT hZ (ww hw 95 rfl)) (mvT hZ (ww hw 96 rfl)) (by decide) (backOf (W := 1) (rm15 l Z a0 hw [] p2 p3 h0 ) hZ (ww hw 96 rfl) (ww hw 95 rfl) (by decide) (by decide)) (g := (mkF m 3 #[vI p1, vI p2, vI p3, .unset] [iI p3, iI p2, iI p1])) rfl (by rw [hml]; rfl) (argsL := [(.int p2), (.int p3)]) (rest := [(.int p1)]) (lenOf pd_3 rfl) rfl (wz rfl) (hb hby d14_3) (fun _ _ => ⟨rfl, e0, (by decide : 0 + 0 ≤ _), (by decide : 0 + 0 ≤ _)⟩)
  dsimp only [Pt.U, Pt.locs, Pt.cells, Pt.slots] at X1 l1 y1 z1 st1 hQ1
  subst l1 y1 z1
  obtain ⟨rfl, rfl, e1⟩ := hQ1
  try rw [List.append_nil] at X1
  have hh2 : (0 : Int32) < (p1 + (own_max p2 p3)) := (by rw [hnc]; exact h1)
  have hh3 : ¬ ((2147483639 : Int32) < (p1 + (own_max p2 p3))) := (by rw [hnc]; exact h2)
  obtain ⟨fs, hr, hrun, hended, hW, hsame⟩ := X1.leave (v := some (.int (p1 + (own_max p2 p3)))) (fun h => by rw [Bd.returns] at h; cases h)
  refine ⟨_, _, pre0 _ ?_, hrun, hended, _, _, rfl, ?_, ⟨_, rfl⟩, hW, hsame.mono (by decide) (by decide)⟩
  · show SA s₁ m 0 #[vI p1, vI p2, vI p3, .unset] []
    refine XS.iloadN X0.here hx rfl (hb hby d14_0) rfl ?_
    show SA s₁ m 1 #[vI p1, vI p2, vI p3, .unset] [iI p1]
    refine XS.iloadN X0.here hx rfl (hb hby d14_1) rfl ?_
    show SA s₁ m 2 #[vI p1, vI p2, vI p3, .unset] [iI p2, iI p1]
    refine XS.iloadN X0.here hx rfl (hb hby d14_2) rfl ?_
    show SA s₁ m 3 #[vI p1, vI p2, vI p3, .unset] [iI p3, iI p2, iI p1]
    refine st1 _ ?_
    show SA T1 m 6 #[vI p1, vI p2, vI p3, .unset] [iI (own_max p2 p3), iI p1]
    refine XS.iadd X1.here hx rfl (hb hby d14_6) rfl ?_
    show SA T1 m 7 #[vI p1, vI p2, vI p3, .unset] [iI (p1 + (own_max p2 p3))]
    refine XS.istoreN X1.here hx rfl (hb hby d14_7) rfl (l' := #[vI p1, vI p2, vI p3, vI (p1 + (own_max p2 p3))]) rfl ?_
    show SA T1 m 8 #[vI p1, vI p2, vI p3, vI (p1 + (own_max p2 p3))] []
    refine XS.iconst X1.here hx rfl (hb hby d14_8) ?_
    show SA T1 m 9 #[vI p1, vI p2, vI p3, vI (p1 + (own_max p2 p3))] [iI 0]
    refine XS.iloadN X1.here hx rfl (hb hby d14_9) rfl ?_
    show SA T1 m 10 #[vI p1, vI p2, vI p3, vI (p1 + (own_max p2 p3))] [iI (p1 + (own_max p2 p3)), iI 0]
    refine XS.icmpNo X1.here hx rfl (hb hby d14_10) rfl (tlt hh2).2.1 ?_
    show SA T1 m 13 #[vI p1, vI p2, vI p3, vI (p1 + (own_max p2 p3))] []
    refine XS.iloadN X1.here hx rfl (hb hby d14_13) rfl ?_
    show SA T1 m 14 #[vI p1, vI p2, vI p3, vI (p1 + (own_max p2 p3))] [iI (p1 + (own_max p2 p3))]
    refine X1.ldcInt hx hown (mvT hZ (ww hw 97 rfl)) (g := (mkF m 14 #[vI p1, vI p2, vI p3, vI (p1 + (own_max p2 p3))] [iI (p1 + (own_max p2 p3))])) rfl (hb hby d14_14) _ ?_
    show SA T1 m 16 #[vI p1, vI p2, vI p3, vI (p1 + (own_max p2 p3))] [iI 2147483639, iI (p1 + (own_max p2 p3))]
    refine XS.icmpNo X1.here hx rfl (hb hby d14_16) rfl (flt hh3).2.2.1 ?_
    show SA T1 m 19 #[vI p1, vI p2, vI p3, vI (p1 + (own_max p2 p3))] []
    refine XS.iloadN X1.here hx rfl (hb hby d14_19) rfl ?_
    show Steps _ _ _ (T1.setTop (mkF m 20 #[vI p1, vI p2, vI p3, vI (p1 + (own_max p2 p3))] [iI (p1 + (own_max p2 p3))])) _
    exact retI X1 hx Bd.returns (hb hby d14_20) hr
  · show Q14 Z p1 p2 p3 nc h0 _ T1.heap _
    rw [e1]
    exact ⟨by rw [hnc], rfl, rfl⟩
theorem d13_0 : decode jdk_68_method_10_code 0 = .ok (.aload_n 0, 1) := by decide +kernel
theorem d13_1 : decode jdk_68_method_10_code 1 = .ok (.getfield 15, 3) := by decide +kernel
theorem d13_4 : decode jdk_68_method_10_code 4 = .ok (.arraylength, 1) := by decide +kernel
theorem d13_5 : decode jdk_68_method_10_code 5 = .ok (.istore_n 2, 1) := by decide +kernel
theorem d13_6 : decode jdk_68_method_10_code 6 = .ok (.iload_n 1, 1) := by decide +kernel
theorem d13_7 : decode jdk_68_method_10_code 7 = .ok (.aload_n 0, 1) := by decide +kernel
theorem d13_8 : decode jdk_68_method_10_code 8 = .ok (.getfield 22, 3) := by decide +kernel
theorem d13_11 : decode jdk_68_method_10_code 11 = .ok (.ishl, 1) := by decide +kernel
theorem d13_12 : decode jdk_68_method_10_code 12 = .ok (.istore_n 3, 1) := by decide +kernel
theorem d13_13 : decode jdk_68_method_10_code 13 = .ok (.iload_n 3, 1) := by decide +kernel
theorem d13_14 : decode jdk_68_method_10_code 14 = .ok (.iload_n 2, 1) := by decide +kernel
theorem d13_15 : decode jdk_68_method_10_code 15 = .ok (.isub, 1) := by decide +kernel
theorem d13_16 : decode jdk_68_method_10_code 16 = .ok (.istore 4, 2) := by decide +kernel
theorem d13_18 : decode jdk_68_method_10_code 18 = .ok (.iload_n 2, 1) := by decide +kernel
theorem d13_19 : decode jdk_68_method_10_code 19 = .ok (.iload 4, 2) := by decide +kernel
theorem d13_21 : decode jdk_68_method_10_code 21 = .ok (.iload_n 2, 1) := by decide +kernel
theorem d13_22 : decode jdk_68_method_10_code 22 = .ok (.iconst 2, 1) := by decide +kernel
theorem d13_23 : decode jdk_68_method_10_code 23 = .ok (.aload_n 0, 1) := by decide +kernel
theorem d13_24 : decode jdk_68_method_10_code 24 = .ok (.getfield 22, 3) := by decide +kernel
theorem d13_27 : decode jdk_68_method_10_code 27 = .ok (.ishl, 1) := by decide +kernel
theorem d13_28 : decode jdk_68_method_10_code 28 = .ok (.iadd, 1) := by decide +kernel
theorem d13_29 : decode jdk_68_method_10_code 29 = .ok (.invokestatic 114, 3) := by decide +kernel
theorem d13_32 : decode jdk_68_method_10_code 32 = .ok (.istore 5, 2) := by decide +kernel
theorem d13_34 : decode jdk_68_method_10_code 34 = .ok (.iload 5, 2) := by decide +kernel
theorem d13_36 : decode jdk_68_method_10_code 36 = .ok (.ldc 39, 2) := by decide +kernel
theorem d13_38 : decode jdk_68_method_10_code 38 = .ok (.if_icmp .ne 13, 3) := by decide +kernel
theorem d13_51 : decode jdk_68_method_10_code 51 = .ok (.iload 5, 2) := by decide +kernel
theorem d13_53 : decode jdk_68_method_10_code 53 = .ok (.aload_n 0, 1) := by decide +kernel
theorem d13_54 : decode jdk_68_method_10_code 54 = .ok (.getfield 22, 3) := by decide +kernel
theorem d13_57 : decode jdk_68_method_10_code 57 = .ok (.ishr, 1) := by decide +kernel
theorem d13_58 : decode jdk_68_method_10_code 58 = .ok (.ireturn, 1) := by decide +kernel
theorem ef_13 (m : MethodId) (x0 : Addr) (x1 : Int32) : entryFrame m #[(.ref x0), (.int x1)] 6 = mkF m 0 #[.val (.ref x0), .val (.int x1), .unset, .unset, .unset, .unset] [] := by first | (simp [entryFrame, mkF, argsToLocals, Value.category]; done) | rfl
def Q13 (Z : State) (a1 : Addr) (p2 : Int32) (b : Addr) (kb : ClassId) (cap : Int32) (A : List Int32) (nc : Int32) (h0 : Heap) (v : Option Value) (h : Heap) (L : List Loc) : Prop := v = some (.int nc) ∧ L = [] ∧ h = h0
theorem rm13 (l : Launch) (Z : State) (a0 : Array Value) (hw : ∀ d ∈ tables_1, d.before a0 Z = true) (ws : List Jvm.Cond) (a1 : Addr) (p2 : Int32) (b : Addr) (kb : ClassId) (cap : Int32) (A : List Int32) (nc : Int32) (h0 : Heap) (E_a1 : Exa Z h0 a1 "java/lang/StringBuilder") (Gv_a1 : Fld Z h0 a1 "java/lang/AbstractStringBuilder" "value" "[B" (.ref b)) (Gc_a1 : Fld Z h0 a1 "java/lang/AbstractStringBuilder" "coder" "B" (.int (0 : Int32))) (V_b : Arv Z h0 b kb .byte cap (own_bs A) (.int (0 : Int32))) (hnc : (cap + (own_max (p2 - cap) (cap + (2 : Int32)))) = nc) (h1 : (0 : Int32) < nc) (h2 : ¬ (2147483639 : Int32) < nc) :
    MetFree l mn_9 (head1 (Jvm.Cond.code mn_9 jdk_68_method_10_code 6 (some .int) :: ws) ({ frames := 2, cells := 0, slots := 0, locals := 29 } : Room)) (fun a U => a = #[(.ref a1), (.int p2)] ∧ Z.Warmed39 U.vm ∧ U.heap = h0) (fun _ _ _ _ _ => True) (fun _ U o U' => ∃ v L, o = .returned v ∧ Q13 Z a1 p2 b kb cap A nc h0 v U'.heap L ∧ FrameEnd U o U' L ({ frames := 2, cells := 0, slots := 0, locals := 29 } : Room).cells ({ frames := 2, cells := 0, slots := 0, locals := 29 } : Room).slots) := by
  refine MetFree.of_bodySF (plainFor_of_name pn_1) hisR ?_
  intro p e s m args below meth c s₁ Bd hml0 hP hK
  obtain ⟨rfl, hZ, hh⟩ := hP
  have hx := Bd.exec
  have hby := Bd.bytes
  have hml : c.maxLocals = 6 := hml0
  have hown : s.vm.findClass "java/lang/AbstractStringBuilder" = some m.cls := findClass_of_methodNamed Bd.named
  have hnm := (name_of_methodNamed Bd.named Bd.method).1
  have X0 : Stand p l e ({ frames := 2, cells := 0, slots := 0, locals := 29 } : Room) s m #[(.ref a1), (.int p2)] below meth c s₁ [] 0 0 := Stand.of_body Bd
  have e0 : s₁.heap = h0 := by rw [← hh, Bd.state]; rfl
  have pre0 : ∀ t, Steps p.tables e below (s₁.setTop (mkF m 0 #[.val (.ref a1), .val (.int p2), .unset, .unset, .unset, .unset] [])) t → Steps p.tables e below (s₁.setTop (entryFrame m #[(.ref a1), (.int p2)] 6)) t := fun t k => castTop (ef_13 m a1 p2) k
  obtain ⟨T1, X1, e1, st1⟩ := getF X0 hx hZ hown (host := "") (Or.inl (ww hw 28 rfl)) Via.refl e0 Gv_a1 (g := (mkF m 1 #[vR a1, vI p2, .unset, .unset, .unset, .unset] [iR a1])) rfl rfl (hb hby d13_1)
  obtain ⟨cl2, Ar2, q2, S2, M2, H2, G2⟩ := id V_b
  obtain ⟨T3, X3, e3, st3⟩ := getF X1 hx hZ hown (host := "") (Or.inl (ww hw 30 rfl)) Via.refl e1 Gc_a1 (g := (mkF m 8 #[vR a1, vI p2, vI cap, .unset, .unset, .unset] [iR a1, iI p2])) rfl rfl (hb hby d13_8)
  obtain ⟨T4, X4, e4, st4⟩ := getF X3 hx hZ hown (host := "") (Or.inl (ww hw 30 rfl)) Via.refl e3 Gc_a1 (g := (mkF m 24 #[vR a1, vI p2, vI cap, vI p2, vI (p2 - cap), .unset] [iR a1, iI 2, iI cap, iI (p2 - cap), iI cap])) rfl rfl (hb hby d13_24)
  obtain ⟨_, _, ⟨T5, L5, k5, n5⟩, -, X5, ⟨Lc5, hQ5, l5, y5, z5⟩, st5⟩ := Jvm.LawKit.callS X4 hx (y := mn_8) hown (mvT hZ (ww hw 89 rfl)) (mvT hZ (ww hw 90 rfl)) (mvT hZ (ww hw 91 rfl)) (mvT hZ (ww hw 92 rfl)) (by decide) (backOf (W := 0) (rm14 l Z a0 hw [] cap (p2 - cap) (cap + (2 : Int32)) nc h0 hnc h1 h2) hZ (ww hw 92 rfl) (ww hw 91 rfl) (by decide) (by decide)) (g := (mkF m 29 #[vR a1, vI p2, vI cap, vI p2, vI (p2 - cap), .unset] [iI (cap + (2 : Int32)), iI (p2 - cap), iI cap])) rfl (by rw [hml]; rfl) (argsL := [(.int cap), (.int (p2 - cap)), (.int (cap + (2 : Int32)))]) (rest := []) (lenOf pd_4 rfl) rfl (wz rfl) (hb hby d13_29) (fun _ _ => ⟨rfl, e4, (by decide : 0 + 0 ≤ _), (by decide : 0 + 0 ≤ _)⟩)
  dsimp only [Pt.U, Pt.locs, Pt.cells, Pt.slots] at X5 l5 y5 z5 st5 hQ5
  subst l5 y5 z5
  obtain ⟨rfl, rfl, e5⟩ := hQ5
  try rw [List.append_nil] at X5
  have hh6 : ¬ (nc = (2147483647 : Int32)) := (own_ncne h2)
  obtain ⟨T7, X7, e7, st7⟩ := getF X5 hx hZ hown (host := "") (Or.inl (ww hw 30 rfl)) Via.refl e5 Gc_a1 (g := (mkF m 54 #[vR a1, vI p2, vI cap, vI p2, vI (p2 - cap), vI nc] [iR a1, iI nc])) rfl rfl (hb hby d13_54)
  obtain ⟨fs, hr, hrun, hended, hW, hsame⟩ := X7.leave (v := some (.int nc)) (fun h => by rw [Bd.returns] at h; cases h)
  refine ⟨_, _, pre0 _ ?_, hrun, hended, _, _, rfl, ?_, ⟨_, rfl⟩, hW, hsame.mono (by decide) (by decide)⟩
  · show SA s₁ m 0 #[vR a1, vI p2, .unset, .unset, .unset, .unset] []
    refine XS.aloadN X0.here hx rfl (hb hby d13_0) rfl rfl ?_
    show SA s₁ m 1 #[vR a1, vI p2, .unset, .unset, .unset, .unset] [iR a1]
    refine st1 _ ?_
    show SA T1 m 4 #[vR a1, vI p2, .unset, .unset, .unset, .unset] [iR b]
    refine X1.arraylength hx (by rw [e1]; exact Ar2.1) (State.isArrayOf_alike hZ.alike Ar2.2.1) (g := (mkF m 4 #[vR a1, vI p2, .unset, .unset, .unset, .unset] [iR b])) rfl rfl (hb hby d13_4) _ ?_
    rw [len_of S2 M2]
    show SA T1 m 5 #[vR a1, vI p2, .unset, .unset, .unset, .unset] [iI cap]
    refine XS.istoreN X1.here hx rfl (hb hby d13_5) rfl (l' := #[vR a1, vI p2, vI cap, .unset, .unset, .unset]) rfl ?_
    show SA T1 m 6 #[vR a1, vI p2, vI cap, .unset, .unset, .unset] []
    refine XS.iloadN X1.here hx rfl (hb hby d13_6) rfl ?_
    show SA T1 m 7 #[vR a1, vI p2, vI cap, .unset, .unset, .unset] [iI p2]
    refine XS.aloadN X1.here hx rfl (hb hby d13_7) rfl rfl ?_
    show SA T1 m 8 #[vR a1, vI p2, vI cap, .unset, .unset, .unset] [iR a1, iI p2]
    refine st3 _ ?_
    show SA T3 m 11 #[vR a1, vI p2, vI cap, .unset, .unset, .unset] [iI 0, iI p2]
    refine XS.ishl X3.here hx rfl (hb hby d13_11) rfl ?_
    rw [own_shl0]
    show SA T3 m 12 #[vR a1, vI p2, vI cap, .unset, .unset, .unset] [iI p2]
    refine XS.istoreN X3.here hx rfl (hb hby d13_12) rfl (l' := #[vR a1, vI p2, vI cap, vI p2, .unset, .unset]) rfl ?_
    show SA T3 m 13 #[vR a1, vI p2, vI cap, vI p2, .unset, .unset] []
    refine XS.iloadN X3.here hx rfl (hb hby d13_13) rfl ?_
    show SA T3 m 14 #[vR a1, vI p2, vI cap, vI p2, .unset, .unset] [iI p2]
    refine XS.iloadN X3.here hx rfl (hb hby d13_14) rfl ?_
    show SA T3 m 15 #[vR a1, vI p2, vI cap, vI p2, .unset, .unset] [iI cap, iI p2]
    refine XS.isub X3.here hx rfl (hb hby d13_15) rfl ?_
    show SA T3 m 16 #[vR a1, vI p2, vI cap, vI p2, .unset, .unset] [iI (p2 - cap)]
    refine XS.istore X3.here hx rfl (hb hby d13_16) rfl (l' := #[vR a1, vI p2, vI cap, vI p2, vI (p2 - cap), .unset]) rfl ?_
    show SA T3 m 18 #[vR a1, vI p2, vI cap, vI p2, vI (p2 - cap), .unset] []
    refine XS.iloadN X3.here hx rfl (hb hby d13_18) rfl ?_
    show SA T3 m 19 #[vR a1, vI p2, vI cap, vI p2, vI (p2 - cap), .unset] [iI cap]
    refine XS.iload X3.here hx rfl (hb hby d13_19) rfl ?_
    show SA T3 m 21 #[vR a1, vI p2, vI cap, vI p2, vI (p2 - cap), .unset] [iI (p2 - cap), iI cap]
    refine XS.iloadN X3.here hx rfl (hb hby d13_21) rfl ?_
    show SA T3 m 22 #[vR a1, vI p2, vI cap, vI p2, vI (p2 - cap), .unset] [iI cap, iI (p2 - cap), iI cap]
    refine XS.iconst X3.here hx rfl (hb hby d13_22) ?_
    show SA T3 m 23 #[vR a1, vI p2, vI cap, vI p2, vI (p2 - cap), .unset] [iI 2, iI cap, iI (p2 - cap), iI cap]
    refine XS.aloadN X3.here hx rfl (hb hby d13_23) rfl rfl ?_
    show SA T3 m 24 #[vR a1, vI p2, vI cap, vI p2, vI (p2 - cap), .unset] [iR a1, iI 2, iI cap, iI (p2 - cap), iI cap]
    refine st4 _ ?_
    show SA T4 m 27 #[vR a1, vI p2, vI cap, vI p2, vI (p2 - cap), .unset] [iI 0, iI 2, iI cap, iI (p2 - cap), iI cap]
    refine XS.ishl X4.here hx rfl (hb hby d13_27) rfl ?_
    rw [(by decide : ((2 : Int32) <<< ((0 : Int32) &&& 31)) = (2 : Int32))]
    show SA T4 m 28 #[vR a1, vI p2, vI cap, vI p2, vI (p2 - cap), .unset] [iI 2, iI cap, iI (p2 - cap), iI cap]
    refine XS.iadd X4.here hx rfl (hb hby d13_28) rfl ?_
    show SA T4 m 29 #[vR a1, vI p2, vI cap, vI p2, vI (p2 - cap), .unset] [iI (cap + (2 : Int32)), iI (p2 - cap), iI cap]
    refine st5 _ ?_
    show SA T5 m 32 #[vR a1, vI p2, vI cap, vI p2, vI (p2 - cap), .unset] [iI nc]
    refine XS.istore X5.here hx rfl (hb hby d13_32) rfl (l' := #[vR a1, vI p2, vI cap, vI p2, vI (p2 - cap), vI nc]) rfl ?_
    show SA T5 m 34 #[vR a1, vI p2, vI cap, vI p2, vI (p2 - cap), vI nc] []
    refine XS.iload X5.here hx rfl (hb hby d13_34) rfl ?_
    show SA T5 m 36 #[vR a1, vI p2, vI cap, vI p2, vI (p2 - cap), vI nc] [iI nc]
    refine X5.ldcInt hx hown (mvT hZ (ww hw 98 rfl)) (g := (mkF m 36 #[vR a1, vI p2, vI cap, vI p2, vI (p2 - cap), vI nc] [iI nc])) rfl (hb hby d13_36) _ ?_
    show SA T5 m 38 #[vR a1, vI p2, vI cap, vI p2, vI (p2 - cap), vI nc] [iI 2147483647, iI nc]
    refine XS.icmpYes X5.here hx rfl (pc0 := 38) (pc' := 51) rfl (hb hby d13_38) rfl (feq hh6).2 (by decide) (by decide) ?_
    show SA T5 m 51 #[vR a1, vI p2, vI cap, vI p2, vI (p2 - cap), vI nc] []
    refine XS.iload X5.here hx rfl (hb hby d13_51) rfl ?_
    show SA T5 m 53 #[vR a1, vI p2, vI cap, vI p2, vI (p2 - cap), vI nc] [iI nc]
    refine XS.aloadN X5.here hx rfl (hb hby d13_53) rfl rfl ?_
    show SA T5 m 54 #[vR a1, vI p2, vI cap, vI p2, vI (p2 - cap), vI nc] [iR a1, iI nc]
    refine st7 _ ?_
    show SA T7 m 57 #[vR a1, vI p2, vI cap, vI p2, vI (p2 - cap), vI nc] [iI 0, iI nc]
    refine XS.ishr X7.here hx rfl (hb hby d13_57) rfl ?_
    rw [own_shr0]
    show Steps _ _ _ (T7.setTop (mkF m 58 #[vR a1, vI p2, vI cap, vI p2, vI (p2 - cap), vI nc] [iI nc])) _
    exact retI X7 hx Bd.returns (hb hby d13_58) hr
  · show Q13 Z a1 p2 b kb cap A nc h0 _ T7.heap _
    rw [e7]
    exact ⟨rfl, rfl, rfl⟩
theorem d16_0 : decode jdk_65_method_121_code 0 = .ok (.iload_n 1, 1) := by decide +kernel
theorem d16_1 : decode jdk_65_method_121_code 1 = .ok (.aload_n 0, 1) := by decide +kernel
theorem d16_2 : decode jdk_65_method_121_code 2 = .ok (.arraylength, 1) := by decide +kernel
theorem d16_3 : decode jdk_65_method_121_code 3 = .ok (.if_icmp .ne 11, 3) := by decide +kernel
theorem d16_14 : decode jdk_65_method_121_code 14 = .ok (.iload_n 1, 1) := by decide +kernel
theorem d16_15 : decode jdk_65_method_121_code 15 = .ok (.newarray .byte, 2) := by decide +kernel
theorem d16_17 : decode jdk_65_method_121_code 17 = .ok (.astore_n 2, 1) := by decide +kernel
theorem d16_18 : decode jdk_65_method_121_code 18 = .ok (.aload_n 0, 1) := by decide +kernel
theorem d16_19 : decode jdk_65_method_121_code 19 = .ok (.iconst 0, 1) := by decide +kernel
theorem d16_20 : decode jdk_65_method_121_code 20 = .ok (.aload_n 2, 1) := by decide +kernel
theorem d16_21 : decode jdk_65_method_121_code 21 = .ok (.iconst 0, 1) := by decide +kernel
theorem d16_22 : decode jdk_65_method_121_code 22 = .ok (.aload_n 0, 1) := by decide +kernel
theorem d16_23 : decode jdk_65_method_121_code 23 = .ok (.arraylength, 1) := by decide +kernel
theorem d16_24 : decode jdk_65_method_121_code 24 = .ok (.iload_n 1, 1) := by decide +kernel
theorem d16_25 : decode jdk_65_method_121_code 25 = .ok (.invokestatic 304, 3) := by decide +kernel
theorem d16_28 : decode jdk_65_method_121_code 28 = .ok (.invokestatic 150, 3) := by decide +kernel
theorem d16_31 : decode jdk_65_method_121_code 31 = .ok (.aload_n 2, 1) := by decide +kernel
theorem d16_32 : decode jdk_65_method_121_code 32 = .ok (.areturn, 1) := by decide +kernel
theorem pn_3 : plainName "java/util/Arrays" = true := by first | (simp [plainName, overriddenIn]; done) | decide +kernel
theorem ef_16 (m : MethodId) (x0 : Addr) (x1 : Int32) : entryFrame m #[(.ref x0), (.int x1)] 3 = mkF m 0 #[.val (.ref x0), .val (.int x1), .unset] [] := by first | (simp [entryFrame, mkF, argsToLocals, Value.category]; done) | rfl
def Q16 (Z : State) (a1 : Addr) (p2 : Int32) (kb : ClassId) (cap : Int32) (A : List Int32) (h0 : Heap) (n0 : Nat) (v : Option Value) (h : Heap) (L : List Loc) : Prop := ∃ (o : Addr) (ko : ClassId), v = some (.ref o) ∧ Fr n0 L ∧ Keep h0 h [] ∧ Arv Z h o ko .byte p2 (own_bs A) (.int (0 : Int32)) ∧ Exa Z h o "[B" ∧ h0.size ≤ o
theorem rm16 (l : Launch) (Z : State) (a0 : Array Value) (hw : ∀ d ∈ tables_1, d.before a0 Z = true) (ws : List Jvm.Cond) (a1 : Addr) (p2 : Int32) (kb : ClassId) (cap : Int32) (A : List Int32) (h0 : Heap) (n0 : Nat) (Z0 : n0 ≤ h0.size) (V_b : Arv Z h0 a1 kb .byte cap (own_bs A) (.int (0 : Int32))) (hc : ¬ cap < 0) (hg : cap < p2) (hm : p2.toNatClampNeg ≤ 70) (hAc : A.length ≤ cap.toNatClampNeg) :
    MetFree l mn_10 (head1 (Jvm.Cond.code mn_10 jdk_65_method_121_code 3 (some (.array .byte)) :: ws) ({ frames := 1, cells := 1, slots := 70, locals := 18 } : Room)) (fun a U => a = #[(.ref a1), (.int p2)] ∧ Z.Warmed39 U.vm ∧ U.heap = h0) (fun _ _ _ _ _ => True) (fun _ U o U' => ∃ v L, o = .returned v ∧ Q16 Z a1 p2 kb cap A h0 n0 v U'.heap L ∧ FrameEnd U o U' L ({ frames := 1, cells := 1, slots := 70, locals := 18 } : Room).cells ({ frames := 1, cells := 1, slots := 70, locals := 18 } : Room).slots) := by
  refine MetFree.of_bodySF (plainFor_of_name pn_3) hisR ?_
  intro p e s m args below meth c s₁ Bd hml0 hP hK
  obtain ⟨rfl, hZ, hh⟩ := hP
  have hx := Bd.exec
  have hby := Bd.bytes
  have hml : c.maxLocals = 3 := hml0
  have hown : s.vm.findClass "java/util/Arrays" = some m.cls := findClass_of_methodNamed Bd.named
  have hnm := (name_of_methodNamed Bd.named Bd.method).1
  have X0 : Stand p l e ({ frames := 1, cells := 1, slots := 70, locals := 18 } : Room) s m #[(.ref a1), (.int p2)] below meth c s₁ [] 0 0 := Stand.of_body Bd
  have e0 : s₁.heap = h0 := by rw [← hh, Bd.state]; rfl
  have N0 := Fr.nil n0
  have K0 := Keep.refl h0 []
  have pre0 : ∀ t, Steps p.tables e below (s₁.setTop (mkF m 0 #[.val (.ref a1), .val (.int p2), .unset] [])) t → Steps p.tables e below (s₁.setTop (entryFrame m #[(.ref a1), (.int p2)] 3)) t := fun t k => castTop (ef_16 m a1 p2) k
  obtain ⟨cl1, Ar1, q1, S1, M1, H1, G1⟩ := id V_b
  have hh2 : ¬ (p2 = cap) := (own_ltN hc hg).2.1
  obtain ⟨T3, h3, k3, X3, e3, E3, A3, B3, st3⟩ := newPE X0 hx hZ (ww hw 3 rfl) e0 (g := (mkF m 15 #[vR a1, vI p2, .unset] [iI p2])) rfl (hb hby d16_15) rfl (own_ltN hc hg).2.2 (cap := 70) hm (by decide) (by decide) (by decide) rfl
  obtain ⟨b3, g3⟩ : ∃ z, z = h0.size := ⟨_, rfl⟩
  rw [← g3] at A3 B3 st3
  have ne_a1_b3 : a1 ≠ b3 := Nat.ne_of_lt (Nat.lt_of_lt_of_le V_b.lt (Nat.le_of_eq g3.symm))
  have sz_b3 : h0.size ≤ b3 := Nat.le_trans K0.1 (Nat.le_of_eq g3.symm)
  have g_b3 : n0 ≤ b3 := Nat.le_trans Z0 sz_b3
  have K3 : Keep h0 h3 [] := K0.ext E3
  have V3 : Arv Z h3 b3 k3 .byte p2 [] (.int (0 : Int32)) := (Arv.new A3 (own_ltN hc hg).2.2).pad (pad_rep [] (.int (0 : Int32)) 0)
  have fk4 := (V_b.ext E3)
  obtain ⟨cl5, Ar5, q5, S5, M5, H5, G5⟩ := id fk4
  obtain ⟨_, _, ⟨T6, L6, k6, n6⟩, -, X6, ⟨Lc6, hQ6, l6, y6, z6⟩, st6⟩ := Jvm.LawKit.callS X3 hx (y := mn_7) hown (mvT hZ (ww hw 103 rfl)) (mvT hZ (ww hw 104 rfl)) (mvT hZ (ww hw 95 rfl)) (mvT hZ (ww hw 105 rfl)) (by decide) (backOf (W := 4) (rm17_e l Z a0 hw [] cap p2 cap h3 (own_minL hg)) hZ (ww hw 105 rfl) (ww hw 95 rfl) (by decide) (by decide)) (g := (mkF m 25 #[vR a1, vI p2, vR b3] [iI p2, iI cap, iI 0, iR b3, iI 0, iR a1])) rfl (by rw [hml]; rfl) (argsL := [(.int cap), (.int p2)]) (rest := [(.int (0 : Int32)), (.ref b3), (.int (0 : Int32)), (.ref a1)]) (lenOf pd_3 rfl) rfl (wz rfl) (hb hby d16_25) (fun _ _ => ⟨rfl, e3, (by decide : 1 + 0 ≤ _), (by decide : 70 + 0 ≤ _)⟩)
  dsimp only [Pt.U, Pt.locs, Pt.cells, Pt.slots] at X6 l6 y6 z6 st6 hQ6
  subst l6 y6 z6
  obtain ⟨rfl, rfl, e6⟩ := hQ6
  try rw [List.append_nil] at X6
  obtain ⟨T7, h7, L7, X7, e7, N7, K7q, V7q, st7⟩ := cpA X6 hx hZ hown (ww hw 106 rfl) (ww hw 81 rfl) (ww hw 79 rfl) (ww hw 80 rfl) e6 fk4 (V3.pad (pad_rep [] _ p2.toNatClampNeg)) (Or.inl ⟨rfl, rfl⟩) (by decide) (by decide) hc (by rw [own_z0]; omega) (by rw [own_z0, Nat.zero_add]; exact (own_ltN hc hg).1) rfl (by rw [own_z0, List.length_append, List.length_replicate]; have := (own_ltN hc hg).1; simp; omega) N0 g_b3 (g := (mkF m 28 #[vR a1, vI p2, vR b3] [iI cap, iI 0, iR b3, iI 0, iR a1])) rfl (by rw [hml]; rfl) rfl (hb hby d16_28) (by decide) (W := 0) (wz rfl) (by decide)
  have K7 : Keep h0 h7 [] := Keep.trans K3 K7q (allS (Or.inr sz_b3) all0)
  have V7 : Arv Z h7 b3 k3 .byte p2 (own_bs A) (.int (0 : Int32)) := own_cpN hAc V7q
  obtain ⟨fs, hr, hrun, hended, hW, hsame⟩ := X7.leave (v := some (.ref b3)) (fun h => by rw [Bd.returns] at h; cases h)
  have fk8 := (B3.keep K7q)
  refine ⟨_, _, pre0 _ ?_, hrun, hended, _, _, rfl, ?_, ⟨_, rfl⟩, hW, hsame.mono (by decide) (by decide)⟩
  · show SA s₁ m 0 #[vR a1, vI p2, .unset] []
    refine XS.iloadN X0.here hx rfl (hb hby d16_0) rfl ?_
    show SA s₁ m 1 #[vR a1, vI p2, .unset] [iI p2]
    refine XS.aloadN X0.here hx rfl (hb hby d16_1) rfl rfl ?_
    show SA s₁ m 2 #[vR a1, vI p2, .unset] [iR a1, iI p2]
    refine X0.arraylength hx (by rw [e0]; exact Ar1.1) (State.isArrayOf_alike hZ.alike Ar1.2.1) (g := (mkF m 2 #[vR a1, vI p2, .unset] [iR a1, iI p2])) rfl rfl (hb hby d16_2) _ ?_
    rw [len_of S1 M1]
    show SA s₁ m 3 #[vR a1, vI p2, .unset] [iI cap, iI p2]
    refine XS.icmpYes X0.here hx rfl (pc0 := 3) (pc' := 14) rfl (hb hby d16_3) rfl (feq hh2).2 (by decide) (by decide) ?_
    show SA s₁ m 14 #[vR a1, vI p2, .unset] []
    refine XS.iloadN X0.here hx rfl (hb hby d16_14) rfl ?_
    show SA s₁ m 15 #[vR a1, vI p2, .unset] [iI p2]
    refine st3 _ ?_
    show SA T3 m 17 #[vR a1, vI p2, .unset] [iR b3]
    refine XS.astoreN X3.here hx rfl (hb hby d16_17) rfl rfl (l' := #[vR a1, vI p2, vR b3]) rfl ?_
    show SA T3 m 18 #[vR a1, vI p2, vR b3] []
    refine XS.aloadN X3.here hx rfl (hb hby d16_18) rfl rfl ?_
    show SA T3 m 19 #[vR a1, vI p2, vR b3] [iR a1]
    refine XS.iconst X3.here hx rfl (hb hby d16_19) ?_
    show SA T3 m 20 #[vR a1, vI p2, vR b3] [iI 0, iR a1]
    refine XS.aloadN X3.here hx rfl (hb hby d16_20) rfl rfl ?_
    show SA T3 m 21 #[vR a1, vI p2, vR b3] [iR b3, iI 0, iR a1]
    refine XS.iconst X3.here hx rfl (hb hby d16_21) ?_
    show SA T3 m 22 #[vR a1, vI p2, vR b3] [iI 0, iR b3, iI 0, iR a1]
    refine XS.aloadN X3.here hx rfl (hb hby d16_22) rfl rfl ?_
    show SA T3 m 23 #[vR a1, vI p2, vR b3] [iR a1, iI 0, iR b3, iI 0, iR a1]
    refine X3.arraylength hx (by rw [e3]; exact Ar5.1) (State.isArrayOf_alike hZ.alike Ar5.2.1) (g := (mkF m 23 #[vR a1, vI p2, vR b3] [iR a1, iI 0, iR b3, iI 0, iR a1])) rfl rfl (hb hby d16_23) _ ?_
    rw [len_of S5 M5]
    show SA T3 m 24 #[vR a1, vI p2, vR b3] [iI cap, iI 0, iR b3, iI 0, iR a1]
    refine XS.iloadN X3.here hx rfl (hb hby d16_24) rfl ?_
    show SA T3 m 25 #[vR a1, vI p2, vR b3] [iI p2, iI cap, iI 0, iR b3, iI 0, iR a1]
    refine st6 _ ?_
    show SA T6 m 28 #[vR a1, vI p2, vR b3] [iI cap, iI 0, iR b3, iI 0, iR a1]
    refine st7 _ ?_
    show SA T7 m 31 #[vR a1, vI p2, vR b3] []
    refine XS.aloadN X7.here hx rfl (hb hby d16_31) rfl rfl ?_
    show Steps _ _ _ (T7.setTop (mkF m 32 #[vR a1, vI p2, vR b3] [iR b3])) _
    jvm_step X7.here [X7.here.top, hx, (hb hby d16_32), X7.method', Bd.returns, Value.isRef, FieldType.isReference]
    first | (intro acts; rw [hr _ acts rfl rfl rfl]) | rw [hr _ _ rfl rfl rfl]
    exact Steps.refl _
  · show Q16 Z a1 p2 kb cap A h0 n0 _ T7.heap _
    rw [e7]
    exact ⟨_, _, rfl, N7, K7, V7, fk8, sz_b3⟩
theorem own_ens (nz p : Int32) (h : ¬ nz < p) (h0 : ¬ p < 0) : ¬ ((0 : Int32) < (p - (nz >>> ((0 : Int32) &&& 31)))) := by
  rw [own_shr0]
  have h1 := c_isub p nz
  have h2 := rng32 nz
  have h3 := rng32 p
  have h4 := rng32 (p - nz)
  have e0 : (0 : Int32).toInt = 0 := rfl
  rw [Int32.lt_iff_toInt_lt] at h h0 ⊢
  rw [e0] at h0 ⊢
  omega
theorem d9_0 : decode jdk_68_method_9_code 0 = .ok (.aload_n 0, 1) := by decide +kernel
theorem d9_1 : decode jdk_68_method_9_code 1 = .ok (.getfield 15, 3) := by decide +kernel
theorem d9_4 : decode jdk_68_method_9_code 4 = .ok (.arraylength, 1) := by decide +kernel
theorem d9_5 : decode jdk_68_method_9_code 5 = .ok (.aload_n 0, 1) := by decide +kernel
theorem d9_6 : decode jdk_68_method_9_code 6 = .ok (.getfield 22, 3) := by decide +kernel
theorem d9_9 : decode jdk_68_method_9_code 9 = .ok (.ishr, 1) := by decide +kernel
theorem d9_10 : decode jdk_68_method_9_code 10 = .ok (.istore_n 2, 1) := by decide +kernel
theorem d9_11 : decode jdk_68_method_9_code 11 = .ok (.iload_n 1, 1) := by decide +kernel
theorem d9_12 : decode jdk_68_method_9_code 12 = .ok (.iload_n 2, 1) := by decide +kernel
theorem d9_13 : decode jdk_68_method_9_code 13 = .ok (.isub, 1) := by decide +kernel
theorem d9_14 : decode jdk_68_method_9_code 14 = .ok (.ifCond .le 24, 3) := by decide +kernel
theorem d9_38 : decode jdk_68_method_9_code 38 = .ok (.return_, 1) := by decide +kernel
theorem ef_9_f (m : MethodId) (x0 : Addr) (x1 : Int32) : entryFrame m #[(.ref x0), (.int x1)] 3 = mkF m 0 #[.val (.ref x0), .val (.int x1), .unset] [] := by first | (simp [entryFrame, mkF, argsToLocals, Value.category]; done) | rfl
def Q9_f (Z : State) (a1 : Addr) (p2 : Int32) (b : Addr) (kb : ClassId) (cap : Int32) (A : List Int32) (h0 : Heap) (v : Option Value) (h : Heap) (L : List Loc) : Prop := v = none ∧ L = [] ∧ h = h0
theorem rm9_f (l : Launch) (Z : State) (a0 : Array Value) (hw : ∀ d ∈ tables_1, d.before a0 Z = true) (ws : List Jvm.Cond) (a1 : Addr) (p2 : Int32) (b : Addr) (kb : ClassId) (cap : Int32) (A : List Int32) (h0 : Heap) (E_a1 : Exa Z h0 a1 "java/lang/StringBuilder") (Gv_a1 : Fld Z h0 a1 "java/lang/AbstractStringBuilder" "value" "[B" (.ref b)) (Gc_a1 : Fld Z h0 a1 "java/lang/AbstractStringBuilder" "coder" "B" (.int (0 : Int32))) (V_b : Arv Z h0 b kb .byte cap (own_bs A) (.int (0 : Int32))) (hle : ¬ cap < p2) (hp : ¬ p2 < 0) :
    MetFree l mn_4 (head1 (Jvm.Cond.code mn_4 jdk_68_method_9_code 3 none :: ws) ({ frames := 0, cells := 0, slots := 0, locals := 0 } : Room)) (fun a U => a = #[(.ref a1), (.int p2)] ∧ Z.Warmed39 U.vm ∧ U.heap = h0) (fun _ _ _ _ _ => True) (fun _ U o U' => ∃ v L, o = .returned v ∧ Q9_f Z a1 p2 b kb cap A h0 v U'.heap L ∧ FrameEnd U o U' L ({ frames := 0, cells := 0, slots := 0, locals := 0 } : Room).cells ({ frames := 0, cells := 0, slots := 0, locals := 0 } : Room).slots) := by
  refine MetFree.of_bodySF (plainFor_of_name pn_1) hisR ?_
  intro p e s m args below meth c s₁ Bd hml0 hP hK
  obtain ⟨rfl, hZ, hh⟩ := hP
  have hx := Bd.exec
  have hby := Bd.bytes
  have hml : c.maxLocals = 3 := hml0
  have hown : s.vm.findClass "java/lang/AbstractStringBuilder" = some m.cls := findClass_of_methodNamed Bd.named
  have hnm := (name_of_methodNamed Bd.named Bd.method).1
  have X0 : Stand p l e ({ frames := 0, cells := 0, slots := 0, locals := 0 } : Room) s m #[(.ref a1), (.int p2)] below meth c s₁ [] 0 0 := Stand.of_body Bd
  have e0 : s₁.heap = h0 := by rw [← hh, Bd.state]; rfl
  have pre0 : ∀ t, Steps p.tables e below (s₁.setTop (mkF m 0 #[.val (.ref a1), .val (.int p2), .unset] [])) t → Steps p.tables e below (s₁.setTop (entryFrame m #[(.ref a1), (.int p2)] 3)) t := fun t k => castTop (ef_9_f m a1 p2) k
  obtain ⟨T1, X1, e1, st1⟩ := getF X0 hx hZ hown (host := "") (Or.inl (ww hw 28 rfl)) Via.refl e0 Gv_a1 (g := (mkF m 1 #[vR a1, vI p2, .unset] [iR a1])) rfl rfl (hb hby d9_1)
  obtain ⟨cl2, Ar2, q2, S2, M2, H2, G2⟩ := id V_b
  obtain ⟨T3, X3, e3, st3⟩ := getF X1 hx hZ hown (host := "") (Or.inl (ww hw 30 rfl)) Via.refl e1 Gc_a1 (g := (mkF m 6 #[vR a1, vI p2, .unset] [iR a1, iI cap])) rfl rfl (hb hby d9_6)
  have hh4 : ¬ ((0 : Int32) < (p2 - (cap >>> ((0 : Int32) &&& 31)))) := own_ens cap p2 hle hp
  obtain ⟨fs, hr, hrun, hended, hW, hsame⟩ := X3.leave (v := none) (fun _ => rfl)
  refine ⟨_, _, pre0 _ ?_, hrun, hended, _, _, rfl, ?_, ⟨_, rfl⟩, hW, hsame.mono (by decide) (by decide)⟩
  · show SA s₁ m 0 #[vR a1, vI p2, .unset] []
    refine XS.aloadN X0.here hx rfl (hb hby d9_0) rfl rfl ?_
    show SA s₁ m 1 #[vR a1, vI p2, .unset] [iR a1]
    refine st1 _ ?_
    show SA T1 m 4 #[vR a1, vI p2, .unset] [iR b]
    refine X1.arraylength hx (by rw [e1]; exact Ar2.1) (State.isArrayOf_alike hZ.alike Ar2.2.1) (g := (mkF m 4 #[vR a1, vI p2, .unset] [iR b])) rfl rfl (hb hby d9_4) _ ?_
    rw [len_of S2 M2]
    show SA T1 m 5 #[vR a1, vI p2, .unset] [iI cap]
    refine XS.aloadN X1.here hx rfl (hb hby d9_5) rfl rfl ?_
    show SA T1 m 6 #[vR a1, vI p2, .unset] [iR a1, iI cap]
    refine st3 _ ?_
    show SA T3 m 9 #[vR a1, vI p2, .unset] [iI 0, iI cap]
    refine XS.ishr X3.here hx rfl (hb hby d9_9) rfl ?_
    show SA T3 m 10 #[vR a1, vI p2, .unset] [iI (cap >>> ((0 : Int32) &&& 31))]
    refine XS.istoreN X3.here hx rfl (hb hby d9_10) rfl (l' := #[vR a1, vI p2, vI (cap >>> ((0 : Int32) &&& 31))]) rfl ?_
    show SA T3 m 11 #[vR a1, vI p2, vI (cap >>> ((0 : Int32) &&& 31))] []
    refine XS.iloadN X3.here hx rfl (hb hby d9_11) rfl ?_
    show SA T3 m 12 #[vR a1, vI p2, vI (cap >>> ((0 : Int32) &&& 31))] [iI p2]
    refine XS.iloadN X3.here hx rfl (hb hby d9_12) rfl ?_
    show SA T3 m 13 #[vR a1, vI p2, vI (cap >>> ((0 : Int32) &&& 31))] [iI (cap >>> ((0 : Int32) &&& 31)), iI p2]
    refine XS.isub X3.here hx rfl (hb hby d9_13) rfl ?_
    show SA T3 m 14 #[vR a1, vI p2, vI (cap >>> ((0 : Int32) &&& 31))] [iI (p2 - (cap >>> ((0 : Int32) &&& 31)))]
    refine XS.ifYes X3.here hx rfl (pc0 := 14) (pc' := 38) rfl (hb hby d9_14) rfl ((if0 _ _).trans (flt hh4).2.2.2) (by decide) (by decide) ?_
    show Steps _ _ _ (T3.setTop (mkF m 38 #[vR a1, vI p2, vI (cap >>> ((0 : Int32) &&& 31))] [])) _
    exact X3.returnOut hx Bd.returns (hb hby d9_38) hr
  · show Q9_f Z a1 p2 b kb cap A h0 _ T3.heap _
    rw [e3]
    exact ⟨rfl, rfl, rfl⟩
theorem own_ensG (nz p : Int32) (h : nz < p) (h0 : ¬ nz < 0) : ((0 : Int32) < (p - (nz >>> ((0 : Int32) &&& 31)))) := by
  rw [own_shr0]
  have h1 := c_isub p nz
  have h2 := rng32 nz
  have h3 := rng32 p
  have h4 := rng32 (p - nz)
  have e0 : (0 : Int32).toInt = 0 := rfl
  rw [Int32.lt_iff_toInt_lt] at h h0 ⊢
  rw [e0] at h0 ⊢
  omega
theorem d9_17 : decode jdk_68_method_9_code 17 = .ok (.aload_n 0, 1) := by decide +kernel
theorem d9_18 : decode jdk_68_method_9_code 18 = .ok (.aload_n 0, 1) := by decide +kernel
theorem d9_19 : decode jdk_68_method_9_code 19 = .ok (.getfield 15, 3) := by decide +kernel
theorem d9_22 : decode jdk_68_method_9_code 22 = .ok (.aload_n 0, 1) := by decide +kernel
theorem d9_23 : decode jdk_68_method_9_code 23 = .ok (.iload_n 1, 1) := by decide +kernel
theorem d9_24 : decode jdk_68_method_9_code 24 = .ok (.invokevirtual 104, 3) := by decide +kernel
theorem d9_27 : decode jdk_68_method_9_code 27 = .ok (.aload_n 0, 1) := by decide +kernel
theorem d9_28 : decode jdk_68_method_9_code 28 = .ok (.getfield 22, 3) := by decide +kernel
theorem d9_31 : decode jdk_68_method_9_code 31 = .ok (.ishl, 1) := by decide +kernel
theorem d9_32 : decode jdk_68_method_9_code 32 = .ok (.invokestatic 108, 3) := by decide +kernel
theorem d9_35 : decode jdk_68_method_9_code 35 = .ok (.putfield 15, 3) := by decide +kernel
theorem ef_9_g (m : MethodId) (x0 : Addr) (x1 : Int32) : entryFrame m #[(.ref x0), (.int x1)] 3 = mkF m 0 #[.val (.ref x0), .val (.int x1), .unset] [] := by first | (simp [entryFrame, mkF, argsToLocals, Value.category]; done) | rfl
def Q9_g (Z : State) (a1 : Addr) (p2 : Int32) (b : Addr) (kb : ClassId) (cap : Int32) (A : List Int32) (nc n : Int32) (h0 : Heap) (n0 : Nat) (v : Option Value) (h : Heap) (L : List Loc) : Prop := ∃ (o : Addr) (ko : ClassId), v = none ∧ Fr n0 L ∧ Keep h0 h [a1] ∧ Exa Z h a1 "java/lang/StringBuilder" ∧ Fld Z h a1 "java/lang/AbstractStringBuilder" "value" "[B" (.ref o) ∧ Fld Z h a1 "java/lang/AbstractStringBuilder" "coder" "B" (.int (0 : Int32)) ∧ Fld Z h a1 "java/lang/AbstractStringBuilder" "count" "I" (.int n) ∧ Arv Z h o ko .byte nc (own_bs A) (.int (0 : Int32)) ∧ Exa Z h o "[B" ∧ h0.size ≤ o
theorem rm9_g (l : Launch) (Z : State) (a0 : Array Value) (hw : ∀ d ∈ tables_1, d.before a0 Z = true) (ws : List Jvm.Cond) (a1 : Addr) (p2 : Int32) (b : Addr) (kb : ClassId) (cap : Int32) (A : List Int32) (nc n : Int32) (h0 : Heap) (n0 : Nat) (Z0 : n0 ≤ h0.size) (E_a1 : Exa Z h0 a1 "java/lang/StringBuilder") (Gv_a1 : Fld Z h0 a1 "java/lang/AbstractStringBuilder" "value" "[B" (.ref b)) (Gc_a1 : Fld Z h0 a1 "java/lang/AbstractStringBuilder" "coder" "B" (.int (0 : Int32))) (V_b : Arv Z h0 b kb .byte cap (own_bs A) (.int (0 : Int32))) (g_b : n0 ≤ b) (Gn_a1 : Fld Z h0 a1 "java/lang/AbstractStringBuilder" "count" "I" (.int n)) (g_a1 : n0 ≤ a1) (ne_a1_b : a1 ≠ b) (hlt : cap < p2) (hnc : (cap + (own_max (p2 - cap) (cap + (2 : Int32)))) = nc) (h1 : (0 : Int32) < nc) (h2 : ¬ (2147483639 : Int32) < nc) (hc : ¬ cap < 0) (hg : cap < nc) (hm : nc.toNatClampNeg ≤ 70) (hAc : A.length ≤ cap.toNatClampNeg) :
    MetFree l mn_4 (head1 (Jvm.Cond.code mn_4 jdk_68_method_9_code 3 none :: ws) ({ frames := 3, cells := 1, slots := 70, locals := 48 } : Room)) (fun a U => a = #[(.ref a1), (.int p2)] ∧ Z.Warmed39 U.vm ∧ U.heap = h0) (fun _ _ _ _ _ => True) (fun _ U o U' => ∃ v L, o = .returned v ∧ Q9_g Z a1 p2 b kb cap A nc n h0 n0 v U'.heap L ∧ FrameEnd U o U' L ({ frames := 3, cells := 1, slots := 70, locals := 48 } : Room).cells ({ frames := 3, cells := 1, slots := 70, locals := 48 } : Room).slots) := by
  refine MetFree.of_bodySF (plainFor_of_name pn_1) hisR ?_
  intro p e s m args below meth c s₁ Bd hml0 hP hK
  obtain ⟨rfl, hZ, hh⟩ := hP
  have hx := Bd.exec
  have hby := Bd.bytes
  have hml : c.maxLocals = 3 := hml0
  have hown : s.vm.findClass "java/lang/AbstractStringBuilder" = some m.cls := findClass_of_methodNamed Bd.named
  have hnm := (name_of_methodNamed Bd.named Bd.method).1
  have X0 : Stand p l e ({ frames := 3, cells := 1, slots := 70, locals := 48 } : Room) s m #[(.ref a1), (.int p2)] below meth c s₁ [] 0 0 := Stand.of_body Bd
  have e0 : s₁.heap = h0 := by rw [← hh, Bd.state]; rfl
  have N0 := Fr.nil n0
  have K0 := Keep.refl h0 [a1]
  have pre0 : ∀ t, Steps p.tables e below (s₁.setTop (mkF m 0 #[.val (.ref a1), .val (.int p2), .unset] [])) t → Steps p.tables e below (s₁.setTop (entryFrame m #[(.ref a1), (.int p2)] 3)) t := fun t k => castTop (ef_9_g m a1 p2) k
  obtain ⟨T1, X1, e1, st1⟩ := getF X0 hx hZ hown (host := "") (Or.inl (ww hw 28 rfl)) Via.refl e0 Gv_a1 (g := (mkF m 1 #[vR a1, vI p2, .unset] [iR a1])) rfl rfl (hb hby d9_1)
  obtain ⟨cl2, Ar2, q2, S2, M2, H2, G2⟩ := id V_b
  obtain ⟨T3, X3, e3, st3⟩ := getF X1 hx hZ hown (host := "") (Or.inl (ww hw 30 rfl)) Via.refl e1 Gc_a1 (g := (mkF m 6 #[vR a1, vI p2, .unset] [iR a1, iI cap])) rfl rfl (hb hby d9_6)
  have hh4 : (0 : Int32) < (p2 - (cap >>> ((0 : Int32) &&& 31))) := own_ensG cap p2 hlt hc
  obtain ⟨T5, X5, e5, st5⟩ := getF X3 hx hZ hown (host := "") (Or.inl (ww hw 28 rfl)) Via.refl e3 Gv_a1 (g := (mkF m 19 #[vR a1, vI p2, vI (cap >>> ((0 : Int32) &&& 31))] [iR a1, iR a1])) rfl rfl (hb hby d9_19)
  obtain ⟨cq6, q6, q6'⟩ := E_a1.cell
  obtain ⟨_, _, ⟨T6, L6, k6, n6⟩, -, X6, ⟨Lc6, hQ6, l6, y6, z6⟩, st6⟩ := X5.privateBack hx (y := mn_9) hown (mvT hZ (ww hw 84 rfl)) (mvT hZ (ww hw 85 rfl)) (own_selPriv2 (own_nf (z := mn_4) rfl (notFace_of_selects (args := #[]) (mvT hZ (ww hw 60 rfl))) (mvT hZ (ww hw 58 rfl) (args := #[]))) (Cond.privateMethod_at (mvP hZ (ww hw 86 rfl) (args := #[]))) (mvT hZ (ww hw 85 rfl)) (by decide)) (Cond.privateMethod_at (mvP hZ (ww hw 86 rfl) (args := #[]))) (mvT hZ (ww hw 88 rfl)) (by decide) (backOf (W := 2) (rm13 l Z a0 hw [] a1 p2 b kb cap A nc h0 E_a1 Gv_a1 Gc_a1 V_b hnc h1 h2) hZ (ww hw 88 rfl) (ww hw 22 rfl) (by decide) (by decide)) (g := (mkF m 24 #[vR a1, vI p2, vI (cap >>> ((0 : Int32) &&& 31))] [iI p2, iR a1, iR b, iR a1])) rfl (by rw [hml]; rfl) (Steps.refl _) (a := a1) (by rw [e5]; exact q6) q6' (argsL := [(.int p2)]) (rest := [(.ref b), (.ref a1)]) (lenOf pd_5 rfl) rfl (wz rfl) (hb hby d9_24) (fun _ _ => ⟨rfl, e5, (by decide : 0 + 0 ≤ _), (by decide : 0 + 0 ≤ _)⟩)
  dsimp only [Pt.U, Pt.locs, Pt.cells, Pt.slots] at X6 l6 y6 z6 st6 hQ6
  subst l6 y6 z6
  obtain ⟨rfl, rfl, e6⟩ := hQ6
  try rw [List.append_nil] at X6
  obtain ⟨T7, X7, e7, st7⟩ := getF X6 hx hZ hown (host := "") (Or.inl (ww hw 30 rfl)) Via.refl e6 Gc_a1 (g := (mkF m 28 #[vR a1, vI p2, vI (cap >>> ((0 : Int32) &&& 31))] [iR a1, iI nc, iR b, iR a1])) rfl rfl (hb hby d9_28)
  obtain ⟨_, _, ⟨T8, L8, k8, n8⟩, -, X8, ⟨Lc8, hQ8, l8, y8, z8⟩, st8⟩ := Jvm.LawKit.callS X7 hx (y := mn_10) hown (mvT hZ (ww hw 99 rfl)) (mvT hZ (ww hw 100 rfl)) (mvT hZ (ww hw 101 rfl)) (mvT hZ (ww hw 102 rfl)) (by decide) (backOf (W := 1) (rm16 l Z a0 hw [] b nc kb cap A h0 n0 (Nat.le_trans Z0 K0.1) V_b hc hg hm hAc) hZ (ww hw 102 rfl) (ww hw 101 rfl) (by decide) (by decide)) (g := (mkF m 32 #[vR a1, vI p2, vI (cap >>> ((0 : Int32) &&& 31))] [iI nc, iR b, iR a1])) rfl (by rw [hml]; rfl) (argsL := [(.ref b), (.int nc)]) (rest := [(.ref a1)]) (lenOf pd_6 rfl) rfl (wz rfl) (hb hby d9_32) (fun _ _ => ⟨rfl, e7, (by decide : 0 + 1 ≤ _), (by decide : 0 + 70 ≤ _)⟩)
  dsimp only [Pt.U, Pt.locs, Pt.cells, Pt.slots] at X8 l8 y8 z8 st8 hQ8
  subst l8 y8 z8
  obtain ⟨d8, kd8, rfl, N8q, K8q, V8q, G8q, z_d8⟩ := hQ8
  have ne_a1_d8 : a1 ≠ d8 := Nat.ne_of_lt (Nat.lt_of_lt_of_le E_a1.lt z_d8)
  have ne_b_d8 : b ≠ d8 := Nat.ne_of_lt (Nat.lt_of_lt_of_le V_b.lt z_d8)
  have sz_d8 : h0.size ≤ d8 := Nat.le_trans K0.1 z_d8
  have g_d8 : n0 ≤ d8 := Nat.le_trans Z0 sz_d8
  have N8 := Fr.app N0 N8q
  have K8 : Keep h0 T8.heap [a1] := Keep.trans K0 K8q all0
  have fk9 := (Gv_a1.keep K8q nin0)
  have fk10 := (E_a1.keep K8q)
  obtain ⟨T11, h11, X11, e11, W11, st11⟩ := putF X8 hx hZ hown (host := "") (Or.inl (ww hw 28 rfl)) Via.refl rfl fk9 fk10 (Or.inl (ww hw 29 rfl)) (ww hw 13 rfl) (ty := (.array .byte)) (by decide) rfl rfl (g := (mkF m 35 #[vR a1, vI p2, vI (cap >>> ((0 : Int32) &&& 31))] [iR d8, iR a1])) rfl rfl (hb hby d9_35)
  have Fw11 := fk9.same W11
  have K11 : Keep h0 h11 [a1] := K8.wr W11 (Or.inl (List.mem_of_getElem? (i := 0) rfl))
  have N11 := Fr.snoc X11 N8 g_a1
  obtain ⟨fs, hr, hrun, hended, hW, hsame⟩ := X11.leave (v := none) (fun _ => rfl)
  have fk12 := (fk10.wr W11)
  have fk13 := ((Gc_a1.keep K8q nin0).other W11 (Or.inr (slot_ne (Or.inl (ww hw 31 rfl)) (Or.inl (ww hw 29 rfl)) (by decide) (t := .byte) (t' := (.array .byte)) (by decide) (by decide))))
  have fk14 := ((Gn_a1.keep K8q nin0).other W11 (Or.inr (slot_ne (Or.inl (ww hw 56 rfl)) (Or.inl (ww hw 29 rfl)) (by decide) (t := .int) (t' := (.array .byte)) (by decide) (by decide))))
  have fk15 := (V8q.other W11 (Ne.symm ne_a1_d8))
  have fk16 := (G8q.wr W11)
  refine ⟨_, _, pre0 _ ?_, hrun, hended, _, _, rfl, ?_, ⟨_, rfl⟩, hW, hsame.mono (by decide) (by decide)⟩
  · show SA s₁ m 0 #[vR a1, vI p2, .unset] []
    refine XS.aloadN X0.here hx rfl (hb hby d9_0) rfl rfl ?_
    show SA s₁ m 1 #[vR a1, vI p2, .unset] [iR a1]
    refine st1 _ ?_
    show SA T1 m 4 #[vR a1, vI p2, .unset] [iR b]
    refine X1.arraylength hx (by rw [e1]; exact Ar2.1) (State.isArrayOf_alike hZ.alike Ar2.2.1) (g := (mkF m 4 #[vR a1, vI p2, .unset] [iR b])) rfl rfl (hb hby d9_4) _ ?_
    rw [len_of S2 M2]
    show SA T1 m 5 #[vR a1, vI p2, .unset] [iI cap]
    refine XS.aloadN X1.here hx rfl (hb hby d9_5) rfl rfl ?_
    show SA T1 m 6 #[vR a1, vI p2, .unset] [iR a1, iI cap]
    refine st3 _ ?_
    show SA T3 m 9 #[vR a1, vI p2, .unset] [iI 0, iI cap]
    refine XS.ishr X3.here hx rfl (hb hby d9_9) rfl ?_
    show SA T3 m 10 #[vR a1, vI p2, .unset] [iI (cap >>> ((0 : Int32) &&& 31))]
    refine XS.istoreN X3.here hx rfl (hb hby d9_10) rfl (l' := #[vR a1, vI p2, vI (cap >>> ((0 : Int32) &&& 31))]) rfl ?_
    show SA T3 m 11 #[vR a1, vI p2, vI (cap >>> ((0 : Int32) &&& 31))] []
    refine XS.iloadN X3.here hx rfl (hb hby d9_11) rfl ?_
    show SA T3 m 12 #[vR a1, vI p2, vI (cap >>> ((0 : Int32) &&& 31))] [iI p2]
    refine XS.iloadN X3.here hx rfl (hb hby d9_12) rfl ?_
    show SA T3 m 13 #[vR a1, vI p2, vI (cap >>> ((0 : Int32) &&& 31))] [iI (cap >>> ((0 : Int32) &&& 31)), iI p2]
    refine XS.isub X3.here hx rfl (hb hby d9_13) rfl ?_
    show SA T3 m 14 #[vR a1, vI p2, vI (cap >>> ((0 : Int32) &&& 31))] [iI (p2 - (cap >>> ((0 : Int32) &&& 31)))]
    refine XS.ifNo X3.here hx rfl (hb hby d9_14) rfl ((if0 _ _).trans (tlt hh4).2.2.2) ?_
    show SA T3 m 17 #[vR a1, vI p2, vI (cap >>> ((0 : Int32) &&& 31))] []
    refine XS.aloadN X3.here hx rfl (hb hby d9_17) rfl rfl ?_
    show SA T3 m 18 #[vR a1, vI p2, vI (cap >>> ((0 : Int32) &&& 31))] [iR a1]
    refine XS.aloadN X3.here hx rfl (hb hby d9_18) rfl rfl ?_
    show SA T3 m 19 #[vR a1, vI p2, vI (cap >>> ((0 : Int32) &&& 31))] [iR a1, iR a1]
    refine st5 _ ?_
    show SA T5 m 22 #[vR a1, vI p2, vI (cap >>> ((0 : Int32) &&& 31))] [iR b, iR a1]
    refine XS.aloadN X5.here hx rfl (hb hby d9_22) rfl rfl ?_
    show SA T5 m 23 #[vR a1, vI p2, vI (cap >>> ((0 : Int32) &&& 31))] [iR a1, iR b, iR a1]
    refine XS.iloadN X5.here hx rfl (hb hby d9_23) rfl ?_
    show SA T5 m 24 #[vR a1, vI p2, vI (cap >>> ((0 : Int32) &&& 31))] [iI p2, iR a1, iR b, iR a1]
    refine st6.trans ?_
    show SA T6 m 27 #[vR a1, vI p2, vI (cap >>> ((0 : Int32) &&& 31))] [iI nc, iR b, iR a1]
    refine XS.aloadN X6.here hx rfl (hb hby d9_27) rfl rfl ?_
    show SA T6 m 28 #[vR a1, vI p2, vI (cap >>> ((0 : Int32) &&& 31))] [iR a1, iI nc, iR b, iR a1]
    refine st7 _ ?_
    show SA T7 m 31 #[vR a1, vI p2, vI (cap >>> ((0 : Int32) &&& 31))] [iI 0, iI nc, iR b, iR a1]
    refine XS.ishl X7.here hx rfl (hb hby d9_31) rfl ?_
    rw [own_shl0]
    show SA T7 m 32 #[vR a1, vI p2, vI (cap >>> ((0 : Int32) &&& 31))] [iI nc, iR b, iR a1]
    refine st8 _ ?_
    show SA T8 m 35 #[vR a1, vI p2, vI (cap >>> ((0 : Int32) &&& 31))] [iR d8, iR a1]
    refine st11 _ ?_
    show Steps _ _ _ (T11.setTop (mkF m 38 #[vR a1, vI p2, vI (cap >>> ((0 : Int32) &&& 31))] [])) _
    exact X11.returnOut hx Bd.returns (hb hby d9_38) hr
  · show Q9_g Z a1 p2 b kb cap A nc n h0 n0 _ T11.heap _
    rw [e11]
    exact ⟨_, _, rfl, N11, K11, fk12, Fw11, fk13, fk14, fk15, fk16, sz_d8⟩
theorem own_fit {a b : Int32} (h : ¬ a < b) : b.toNatClampNeg ≤ a.toNatClampNeg := by
  rw [Int32.lt_iff_toInt_lt] at h; simp only [Int32.toNatClampNeg]; omega
theorem d6_0 : decode jdk_68_method_22_code 0 = .ok (.aload_n 1, 1) := by decide +kernel
theorem d6_1 : decode jdk_68_method_22_code 1 = .ok (.ifnonnull 8, 3) := by decide +kernel
theorem d6_9 : decode jdk_68_method_22_code 9 = .ok (.aload_n 1, 1) := by decide +kernel
theorem d6_10 : decode jdk_68_method_22_code 10 = .ok (.invokevirtual 32, 3) := by decide +kernel
theorem d6_13 : decode jdk_68_method_22_code 13 = .ok (.istore_n 2, 1) := by decide +kernel
theorem d6_14 : decode jdk_68_method_22_code 14 = .ok (.aload_n 0, 1) := by decide +kernel
theorem d6_15 : decode jdk_68_method_22_code 15 = .ok (.aload_n 0, 1) := by decide +kernel
theorem d6_16 : decode jdk_68_method_22_code 16 = .ok (.getfield 79, 3) := by decide +kernel
theorem d6_19 : decode jdk_68_method_22_code 19 = .ok (.iload_n 2, 1) := by decide +kernel
theorem d6_20 : decode jdk_68_method_22_code 20 = .ok (.iadd, 1) := by decide +kernel
theorem d6_21 : decode jdk_68_method_22_code 21 = .ok (.invokevirtual 100, 3) := by decide +kernel
theorem d6_24 : decode jdk_68_method_22_code 24 = .ok (.aload_n 0, 1) := by decide +kernel
theorem d6_25 : decode jdk_68_method_22_code 25 = .ok (.aload_n 0, 1) := by decide +kernel
theorem d6_26 : decode jdk_68_method_22_code 26 = .ok (.getfield 79, 3) := by decide +kernel
theorem d6_29 : decode jdk_68_method_22_code 29 = .ok (.aload_n 1, 1) := by decide +kernel
theorem d6_30 : decode jdk_68_method_22_code 30 = .ok (.invokevirtual 208, 3) := by decide +kernel
theorem d6_33 : decode jdk_68_method_22_code 33 = .ok (.aload_n 0, 1) := by decide +kernel
theorem d6_34 : decode jdk_68_method_22_code 34 = .ok (.dup, 1) := by decide +kernel
theorem d6_35 : decode jdk_68_method_22_code 35 = .ok (.getfield 79, 3) := by decide +kernel
theorem d6_38 : decode jdk_68_method_22_code 38 = .ok (.iload_n 2, 1) := by decide +kernel
theorem d6_39 : decode jdk_68_method_22_code 39 = .ok (.iadd, 1) := by decide +kernel
theorem d6_40 : decode jdk_68_method_22_code 40 = .ok (.putfield 79, 3) := by decide +kernel
theorem d6_43 : decode jdk_68_method_22_code 43 = .ok (.aload_n 0, 1) := by decide +kernel
theorem d6_44 : decode jdk_68_method_22_code 44 = .ok (.areturn, 1) := by decide +kernel
theorem ef_6_f (m : MethodId) (x0 : Addr) (x1 : Addr) : entryFrame m #[(.ref x0), (.ref x1)] 3 = mkF m 0 #[.val (.ref x0), .val (.ref x1), .unset] [] := by first | (simp [entryFrame, mkF, argsToLocals, Value.category]; done) | rfl
def Q6_f (Z : State) (a1 : Addr) (a2 : Addr) (b : Addr) (kb : ClassId) (cap : Int32) (A : List Int32) (d : Addr) (kd : ClassId) (z : Int32) (B : List Int32) (n : Int32) (cs : Int32) (h0 : Heap) (n0 : Nat) (v : Option Value) (h : Heap) (L : List Loc) : Prop := v = some (.ref a1) ∧ Fr n0 L ∧ Keep h0 h [a1, b] ∧ Exa Z h a1 "java/lang/StringBuilder" ∧ Fld Z h a1 "java/lang/AbstractStringBuilder" "value" "[B" (.ref b) ∧ Fld Z h a1 "java/lang/AbstractStringBuilder" "coder" "B" (.int (0 : Int32)) ∧ Fld Z h a1 "java/lang/AbstractStringBuilder" "count" "I" (.int (n + z)) ∧ Arv Z h b kb .byte cap (own_bs (A ++ B)) (.int (0 : Int32))
theorem rm6_f (l : Launch) (Z : State) (a0 : Array Value) (hw : ∀ d ∈ tables_1, d.before a0 Z = true) (ws : List Jvm.Cond) (a1 : Addr) (a2 : Addr) (b : Addr) (kb : ClassId) (cap : Int32) (A : List Int32) (d : Addr) (kd : ClassId) (z : Int32) (B : List Int32) (n : Int32) (cs : Int32) (h0 : Heap) (n0 : Nat) (Z0 : n0 ≤ h0.size) (O0 : Old Z n0 h0) (E_a1 : Exa Z h0 a1 "java/lang/StringBuilder") (Gv_a1 : Fld Z h0 a1 "java/lang/AbstractStringBuilder" "value" "[B" (.ref b)) (Gc_a1 : Fld Z h0 a1 "java/lang/AbstractStringBuilder" "coder" "B" (.int (0 : Int32))) (V_b : Arv Z h0 b kb .byte cap (own_bs A) (.int (0 : Int32))) (g_b : n0 ≤ b) (Gn_a1 : Fld Z h0 a1 "java/lang/AbstractStringBuilder" "count" "I" (.int n)) (g_a1 : n0 ≤ a1) (ne_a1_b : a1 ≠ b) (E_a2 : Exa Z h0 a2 "java/lang/String") (Fc_a2 : Fld Z h0 a2 "java/lang/String" "coder" "B" (.int (0 : Int32))) (Fv_a2 : Fld Z h0 a2 "java/lang/String" "value" "[B" (.ref d)) (V_d : Arv Z h0 d kd .byte z (own_bs B) (.int (0 : Int32))) (hz : ¬ z < 0) (hB : z.toNatClampNeg = B.length) (ne_a1_a2 : a1 ≠ a2) (ne_a1_d : a1 ≠ d) (ne_a2_b : a2 ≠ b) (ne_b_d : b ≠ d) (hn : ¬ n < 0) (hA : n.toNatClampNeg = A.length) (hs : (n + z).toNatClampNeg = n.toNatClampNeg + z.toNatClampNeg) (hs0 : ¬ (n + z) < 0) (hc : ¬ cap < 0) (hle : ¬ cap < (n + z)) (S_CS : Sta Z Z.heap "java/lang/String" "COMPACT_STRINGS" "Z" (.int cs)) (h_cs : ¬ cs = (0 : Int32)) :
    MetFree l mn_11 (head1 (Jvm.Cond.code mn_11 jdk_68_method_22_code 3 (some (.object "java/lang/AbstractStringBuilder")) :: ws) ({ frames := 3, cells := 0, slots := 0, locals := 47 } : Room)) (fun a U => a = #[(.ref a1), (.ref a2)] ∧ Z.Warmed39 U.vm ∧ U.heap = h0) (fun _ _ _ _ _ => True) (fun _ U o U' => ∃ v L, o = .returned v ∧ Q6_f Z a1 a2 b kb cap A d kd z B n cs h0 n0 v U'.heap L ∧ FrameEnd U o U' L ({ frames := 3, cells := 0, slots := 0, locals := 47 } : Room).cells ({ frames := 3, cells := 0, slots := 0, locals := 47 } : Room).slots) := by
  refine MetFree.of_bodySF (plainFor_of_name pn_1) hisR ?_
  intro p e s m args below meth c s₁ Bd hml0 hP hK
  obtain ⟨rfl, hZ, hh⟩ := hP
  have hx := Bd.exec
  have hby := Bd.bytes
  have hml : c.maxLocals = 3 := hml0
  have hown : s.vm.findClass "java/lang/AbstractStringBuilder" = some m.cls := findClass_of_methodNamed Bd.named
  have hnm := (name_of_methodNamed Bd.named Bd.method).1
  have X0 : Stand p l e ({ frames := 3, cells := 0, slots := 0, locals := 47 } : Room) s m #[(.ref a1), (.ref a2)] below meth c s₁ [] 0 0 := Stand.of_body Bd
  have e0 : s₁.heap = h0 := by rw [← hh, Bd.state]; rfl
  have N0 := Fr.nil n0
  have K0 := Keep.refl h0 [a1, b]
  have pre0 : ∀ t, Steps p.tables e below (s₁.setTop (mkF m 0 #[.val (.ref a1), .val (.ref a2), .unset] [])) t → Steps p.tables e below (s₁.setTop (entryFrame m #[(.ref a1), (.ref a2)] 3)) t := fun t k => castTop (ef_6_f m a1 a2) k
  obtain ⟨cq1, kq1, q1a, q1b, q1c⟩ := isOf hZ e0 E_a2
  obtain ⟨_, _, ⟨T1, L1, k1, n1⟩, -, X1, ⟨Lc1, hQ1, l1, y1, z1⟩, st1⟩ := X0.virtualBack hx (y := mn_1) (z := mn_1) hown (mvT hZ (ww hw 42 rfl)) (mvT hZ (ww hw 43 rfl)) (notFace_of_selects (args := #[]) (mvT hZ (ww hw 45 rfl))) (mvT hZ (ww hw 45 rfl)) (mvT hZ (ww hw 44 rfl)) (by decide) (backOf (W := 0) (rm7 l Z a0 hw [] a2 d kd z B cs h0 n0 O0 E_a2 Fc_a2 Fv_a2 V_d hz hB S_CS h_cs) hZ (ww hw 46 rfl) (ww hw 1 rfl) (by decide) (by decide)) q1a q1c (g := (mkF m 10 #[vR a1, vR a2, .unset] [iR a2])) rfl (by rw [hml]; rfl) (Steps.refl _) (argsL := []) (rest := []) (lenOf pd_7 rfl) rfl (wz rfl) (hb hby d6_10) (fun _ _ => ⟨rfl, e0, (by decide : 0 + 0 ≤ _), (by decide : 0 + 0 ≤ _)⟩)
  dsimp only [Pt.U, Pt.locs, Pt.cells, Pt.slots] at X1 l1 y1 z1 st1 hQ1
  subst l1 y1 z1
  obtain ⟨rfl, rfl, e1⟩ := hQ1
  try rw [List.append_nil] at X1
  obtain ⟨T2, X2, e2, st2⟩ := getF X1 hx hZ hown (host := "") (Or.inl (ww hw 55 rfl)) Via.refl e1 Gn_a1 (g := (mkF m 16 #[vR a1, vR a2, vI z] [iR a1, iR a1])) rfl rfl (hb hby d6_16)
  obtain ⟨cq3, q3, q3'⟩ := E_a1.cell
  obtain ⟨_, _, ⟨T3, L3, k3, n3⟩, -, X3, ⟨Lc3, hQ3, l3, y3, z3⟩, st3⟩ := X2.privateBack hx (y := mn_4) hown (mvT hZ (ww hw 57 rfl)) (mvT hZ (ww hw 58 rfl)) (own_selPriv2 (own_nf (z := mn_4) rfl (notFace_of_selects (args := #[]) (mvT hZ (ww hw 60 rfl))) (mvT hZ (ww hw 58 rfl) (args := #[]))) (Cond.privateMethod_at (mvP hZ (ww hw 59 rfl) (args := #[]))) (mvT hZ (ww hw 58 rfl)) (by decide)) (Cond.privateMethod_at (mvP hZ (ww hw 59 rfl) (args := #[]))) (mvT hZ (ww hw 61 rfl)) (by decide) (backOf (W := 0) (rm9_f l Z a0 hw [] a1 (n + z) b kb cap A h0 E_a1 Gv_a1 Gc_a1 V_b hle hs0) hZ (ww hw 61 rfl) (ww hw 22 rfl) (by decide) (by decide)) (g := (mkF m 21 #[vR a1, vR a2, vI z] [iI (n + z), iR a1])) rfl (by rw [hml]; rfl) (Steps.refl _) (a := a1) (by rw [e2]; exact q3) q3' (argsL := [(.int (n + z))]) (rest := []) (lenOf pd_8 rfl) rfl (wz rfl) (hb hby d6_21) (fun _ _ => ⟨rfl, e2, (by decide : 0 + 0 ≤ _), (by decide : 0 + 0 ≤ _)⟩)
  dsimp only [Pt.U, Pt.locs, Pt.cells, Pt.slots] at X3 l3 y3 z3 st3 hQ3
  subst l3 y3 z3
  obtain ⟨rfl, rfl, e3⟩ := hQ3
  try rw [List.append_nil] at X3
  obtain ⟨T4, X4, e4, st4⟩ := getF X3 hx hZ hown (host := "") (Or.inl (ww hw 55 rfl)) Via.refl e3 Gn_a1 (g := (mkF m 26 #[vR a1, vR a2, vI z] [iR a1, iR a1])) rfl rfl (hb hby d6_26)
  obtain ⟨cq5, q5, q5'⟩ := E_a1.cell
  obtain ⟨_, _, ⟨T5, L5, k5, n5⟩, -, X5, ⟨Lc5, hQ5, l5, y5, z5⟩, st5⟩ := X4.privateBack hx (y := mn_5) hown (mvT hZ (ww hw 62 rfl)) (mvT hZ (ww hw 63 rfl)) (own_selPriv2 (own_nf (z := mn_4) rfl (notFace_of_selects (args := #[]) (mvT hZ (ww hw 60 rfl))) (mvT hZ (ww hw 58 rfl) (args := #[]))) (Cond.privateMethod_at (mvP hZ (ww hw 64 rfl) (args := #[]))) (mvT hZ (ww hw 63 rfl)) (by decide)) (Cond.privateMethod_at (mvP hZ (ww hw 64 rfl) (args := #[]))) (mvT hZ (ww hw 66 rfl)) (by decide) (backOf (W := 0) (rm10 l Z a0 hw [] a1 n a2 b kb cap A d kd z B cs h0 n0 (Nat.le_trans Z0 K0.1) O0 E_a1 Gv_a1 Gc_a1 V_b g_b E_a2 Fc_a2 Fv_a2 V_d hz hB hn hA (by rw [← hs]; exact own_fit hle) S_CS h_cs) hZ (ww hw 66 rfl) (ww hw 22 rfl) (by decide) (by decide)) (g := (mkF m 30 #[vR a1, vR a2, vI z] [iR a2, iI n, iR a1])) rfl (by rw [hml]; rfl) (Steps.refl _) (a := a1) (by rw [e4]; exact q5) q5' (argsL := [(.int n), (.ref a2)]) (rest := []) (lenOf pd_9 rfl) rfl (wz rfl) (hb hby d6_30) (fun _ _ => ⟨rfl, e4, (by decide : 0 + 0 ≤ _), (by decide : 0 + 0 ≤ _)⟩)
  dsimp only [Pt.U, Pt.locs, Pt.cells, Pt.slots] at X5 l5 y5 z5 st5 hQ5
  subst l5 y5 z5
  obtain ⟨rfl, N5q, K5q, V5q⟩ := hQ5
  have N5 := Fr.app N0 N5q
  have K5 : Keep h0 T5.heap [a1, b] := Keep.trans K0 K5q (allS (Or.inl (List.mem_of_getElem? (i := 1) rfl)) all0)
  have fk6 := (Gn_a1.keep K5q (ninS ne_a1_b nin0))
  obtain ⟨T7, X7, e7, st7⟩ := getF X5 hx hZ hown (host := "") (Or.inl (ww hw 55 rfl)) Via.refl rfl fk6 (g := (mkF m 35 #[vR a1, vR a2, vI z] [iR a1, iR a1])) rfl rfl (hb hby d6_35)
  have fk8 := (E_a1.keep K5q)
  obtain ⟨T9, h9, X9, e9, W9, st9⟩ := putF X7 hx hZ hown (host := "") (Or.inl (ww hw 55 rfl)) Via.refl e7 fk6 fk8 (Or.inl (ww hw 56 rfl)) (ww hw 13 rfl) (ty := .int) (by decide) rfl rfl (g := (mkF m 40 #[vR a1, vR a2, vI z] [iI (n + z), iR a1])) rfl rfl (hb hby d6_40)
  have Fw9 := fk6.same W9
  have K9 : Keep h0 h9 [a1, b] := K5.wr W9 (Or.inl (List.mem_of_getElem? (i := 0) rfl))
  have N9 := Fr.snoc X9 N5 g_a1
  obtain ⟨fs, hr, hrun, hended, hW, hsame⟩ := X9.leave (v := some (.ref a1)) (fun h => by rw [Bd.returns] at h; cases h)
  have fk10 := (fk8.wr W9)
  have fk11 := ((Gv_a1.keep K5q (ninS ne_a1_b nin0)).other W9 (Or.inr (slot_ne (Or.inl (ww hw 29 rfl)) (Or.inl (ww hw 56 rfl)) (by decide) (t := (.array .byte)) (t' := .int) (by decide) (by decide))))
  have fk12 := ((Gc_a1.keep K5q (ninS ne_a1_b nin0)).other W9 (Or.inr (slot_ne (Or.inl (ww hw 31 rfl)) (Or.inl (ww hw 56 rfl)) (by decide) (t := .byte) (t' := .int) (by decide) (by decide))))
  have fk13 := (V5q.other W9 (Ne.symm ne_a1_b))
  refine ⟨_, _, pre0 _ ?_, hrun, hended, _, _, rfl, ?_, ⟨_, rfl⟩, hW, hsame.mono (by decide) (by decide)⟩
  · show SA s₁ m 0 #[vR a1, vR a2, .unset] []
    refine XS.aloadN X0.here hx rfl (hb hby d6_0) rfl rfl ?_
    show SA s₁ m 1 #[vR a1, vR a2, .unset] [iR a2]
    refine XS.ifnonnullYes X0.here hx rfl (pc0 := 1) (pc' := 9) rfl (hb hby d6_1) rfl (by decide) (by decide) ?_
    show SA s₁ m 9 #[vR a1, vR a2, .unset] []
    refine XS.aloadN X0.here hx rfl (hb hby d6_9) rfl rfl ?_
    show SA s₁ m 10 #[vR a1, vR a2, .unset] [iR a2]
    refine st1.trans ?_
    show SA T1 m 13 #[vR a1, vR a2, .unset] [iI z]
    refine XS.istoreN X1.here hx rfl (hb hby d6_13) rfl (l' := #[vR a1, vR a2, vI z]) rfl ?_
    show SA T1 m 14 #[vR a1, vR a2, vI z] []
    refine XS.aloadN X1.here hx rfl (hb hby d6_14) rfl rfl ?_
    show SA T1 m 15 #[vR a1, vR a2, vI z] [iR a1]
    refine XS.aloadN X1.here hx rfl (hb hby d6_15) rfl rfl ?_
    show SA T1 m 16 #[vR a1, vR a2, vI z] [iR a1, iR a1]
    refine st2 _ ?_
    show SA T2 m 19 #[vR a1, vR a2, vI z] [iI n, iR a1]
    refine XS.iloadN X2.here hx rfl (hb hby d6_19) rfl ?_
    show SA T2 m 20 #[vR a1, vR a2, vI z] [iI z, iI n, iR a1]
    refine XS.iadd X2.here hx rfl (hb hby d6_20) rfl ?_
    show SA T2 m 21 #[vR a1, vR a2, vI z] [iI (n + z), iR a1]
    refine st3.trans ?_
    show SA T3 m 24 #[vR a1, vR a2, vI z] []
    refine XS.aloadN X3.here hx rfl (hb hby d6_24) rfl rfl ?_
    show SA T3 m 25 #[vR a1, vR a2, vI z] [iR a1]
    refine XS.aloadN X3.here hx rfl (hb hby d6_25) rfl rfl ?_
    show SA T3 m 26 #[vR a1, vR a2, vI z] [iR a1, iR a1]
    refine st4 _ ?_
    show SA T4 m 29 #[vR a1, vR a2, vI z] [iI n, iR a1]
    refine XS.aloadN X4.here hx rfl (hb hby d6_29) rfl rfl ?_
    show SA T4 m 30 #[vR a1, vR a2, vI z] [iR a2, iI n, iR a1]
    refine st5.trans ?_
    show SA T5 m 33 #[vR a1, vR a2, vI z] []
    refine XS.aloadN X5.here hx rfl (hb hby d6_33) rfl rfl ?_
    show SA T5 m 34 #[vR a1, vR a2, vI z] [iR a1]
    refine XS.dup X5.here hx rfl (hb hby d6_34) rfl rfl ?_
    show SA T5 m 35 #[vR a1, vR a2, vI z] [iR a1, iR a1]
    refine st7 _ ?_
    show SA T7 m 38 #[vR a1, vR a2, vI z] [iI n, iR a1]
    refine XS.iloadN X7.here hx rfl (hb hby d6_38) rfl ?_
    show SA T7 m 39 #[vR a1, vR a2, vI z] [iI z, iI n, iR a1]
    refine XS.iadd X7.here hx rfl (hb hby d6_39) rfl ?_
    show SA T7 m 40 #[vR a1, vR a2, vI z] [iI (n + z), iR a1]
    refine st9 _ ?_
    show SA T9 m 43 #[vR a1, vR a2, vI z] []
    refine XS.aloadN X9.here hx rfl (hb hby d6_43) rfl rfl ?_
    show Steps _ _ _ (T9.setTop (mkF m 44 #[vR a1, vR a2, vI z] [iR a1])) _
    jvm_step X9.here [X9.here.top, hx, (hb hby d6_44), X9.method', Bd.returns, Value.isRef, FieldType.isReference]
    first | (intro acts; rw [hr _ acts rfl rfl rfl]) | rw [hr _ _ rfl rfl rfl]
    exact Steps.refl _
  · show Q6_f Z a1 a2 b kb cap A d kd z B n cs h0 n0 _ T9.heap _
    rw [e9]
    exact ⟨rfl, N9, K9, fk10, fk11, fk12, Fw9, fk13⟩
theorem d5_0 : decode jdk_67_method_7_code 0 = .ok (.aload_n 0, 1) := by decide +kernel
theorem d5_1 : decode jdk_67_method_7_code 1 = .ok (.aload_n 1, 1) := by decide +kernel
theorem d5_2 : decode jdk_67_method_7_code 2 = .ok (.invokespecial 29, 3) := by decide +kernel
theorem d5_5 : decode jdk_67_method_7_code 5 = .ok (.pop, 1) := by decide +kernel
theorem d5_6 : decode jdk_67_method_7_code 6 = .ok (.aload_n 0, 1) := by decide +kernel
theorem d5_7 : decode jdk_67_method_7_code 7 = .ok (.areturn, 1) := by decide +kernel
theorem pn_4 : plainName "java/lang/StringBuilder" = true := by first | (simp [plainName, overriddenIn]; done) | decide +kernel
theorem ef_5_f (m : MethodId) (x0 : Addr) (x1 : Addr) : entryFrame m #[(.ref x0), (.ref x1)] 2 = mkF m 0 #[.val (.ref x0), .val (.ref x1)] [] := by first | (simp [entryFrame, mkF, argsToLocals, Value.category]; done) | rfl
def Q5_f (Z : State) (a1 : Addr) (a2 : Addr) (b : Addr) (kb : ClassId) (cap : Int32) (A : List Int32) (d : Addr) (kd : ClassId) (z : Int32) (B : List Int32) (n : Int32) (cs : Int32) (h0 : Heap) (n0 : Nat) (v : Option Value) (h : Heap) (L : List Loc) : Prop := v = some (.ref a1) ∧ Fr n0 L ∧ Keep h0 h [a1, b] ∧ Exa Z h a1 "java/lang/StringBuilder" ∧ Fld Z h a1 "java/lang/AbstractStringBuilder" "value" "[B" (.ref b) ∧ Fld Z h a1 "java/lang/AbstractStringBuilder" "coder" "B" (.int (0 : Int32)) ∧ Fld Z h a1 "java/lang/AbstractStringBuilder" "count" "I" (.int (n + z)) ∧ Arv Z h b kb .byte cap (own_bs (A ++ B)) (.int (0 : Int32))
theorem rm5_f (l : Launch) (Z : State) (a0 : Array Value) (hw : ∀ d ∈ tables_1, d.before a0 Z = true) (ws : List Jvm.Cond) (a1 : Addr) (a2 : Addr) (b : Addr) (kb : ClassId) (cap : Int32) (A : List Int32) (d : Addr) (kd : ClassId) (z : Int32) (B : List Int32) (n : Int32) (cs : Int32) (h0 : Heap) (n0 : Nat) (Z0 : n0 ≤ h0.size) (O0 : Old Z n0 h0) (E_a1 : Exa Z h0 a1 "java/lang/StringBuilder") (Gv_a1 : Fld Z h0 a1 "java/lang/AbstractStringBuilder" "value" "[B" (.ref b)) (Gc_a1 : Fld Z h0 a1 "java/lang/AbstractStringBuilder" "coder" "B" (.int (0 : Int32))) (V_b : Arv Z h0 b kb .byte cap (own_bs A) (.int (0 : Int32))) (g_b : n0 ≤ b) (Gn_a1 : Fld Z h0 a1 "java/lang/AbstractStringBuilder" "count" "I" (.int n)) (g_a1 : n0 ≤ a1) (ne_a1_b : a1 ≠ b) (E_a2 : Exa Z h0 a2 "java/lang/String") (Fc_a2 : Fld Z h0 a2 "java/lang/String" "coder" "B" (.int (0 : Int32))) (Fv_a2 : Fld Z h0 a2 "java/lang/String" "value" "[B" (.ref d)) (V_d : Arv Z h0 d kd .byte z (own_bs B) (.int (0 : Int32))) (hz : ¬ z < 0) (hB : z.toNatClampNeg = B.length) (ne_a1_a2 : a1 ≠ a2) (ne_a1_d : a1 ≠ d) (ne_a2_b : a2 ≠ b) (ne_b_d : b ≠ d) (hn : ¬ n < 0) (hA : n.toNatClampNeg = A.length) (hs : (n + z).toNatClampNeg = n.toNatClampNeg + z.toNatClampNeg) (hs0 : ¬ (n + z) < 0) (hc : ¬ cap < 0) (hle : ¬ cap < (n + z)) (S_CS : Sta Z Z.heap "java/lang/String" "COMPACT_STRINGS" "Z" (.int cs)) (h_cs : ¬ cs = (0 : Int32)) :
    MetFree l mn_12 (head1 (Jvm.Cond.code mn_12 jdk_67_method_7_code 2 (some (.object "java/lang/StringBuilder")) :: ws) ({ frames := 4, cells := 0, slots := 0, locals := 61 } : Room)) (fun a U => a = #[(.ref a1), (.ref a2)] ∧ Z.Warmed39 U.vm ∧ U.heap = h0) (fun _ _ _ _ _ => True) (fun _ U o U' => ∃ v L, o = .returned v ∧ Q5_f Z a1 a2 b kb cap A d kd z B n cs h0 n0 v U'.heap L ∧ FrameEnd U o U' L ({ frames := 4, cells := 0, slots := 0, locals := 61 } : Room).cells ({ frames := 4, cells := 0, slots := 0, locals := 61 } : Room).slots) := by
  refine MetFree.of_bodySF (plainFor_of_name pn_4) hisR ?_
  intro p e s m args below meth c s₁ Bd hml0 hP hK
  obtain ⟨rfl, hZ, hh⟩ := hP
  have hx := Bd.exec
  have hby := Bd.bytes
  have hml : c.maxLocals = 2 := hml0
  have hown : s.vm.findClass "java/lang/StringBuilder" = some m.cls := findClass_of_methodNamed Bd.named
  have hnm := (name_of_methodNamed Bd.named Bd.method).1
  have X0 : Stand p l e ({ frames := 4, cells := 0, slots := 0, locals := 61 } : Room) s m #[(.ref a1), (.ref a2)] below meth c s₁ [] 0 0 := Stand.of_body Bd
  have e0 : s₁.heap = h0 := by rw [← hh, Bd.state]; rfl
  have N0 := Fr.nil n0
  have K0 := Keep.refl h0 [a1, b]
  have pre0 : ∀ t, Steps p.tables e below (s₁.setTop (mkF m 0 #[.val (.ref a1), .val (.ref a2)] [])) t → Steps p.tables e below (s₁.setTop (entryFrame m #[(.ref a1), (.ref a2)] 2)) t := fun t k => castTop (ef_5_f m a1 a2) k
  obtain ⟨_, _, ⟨T1, L1, k1, n1⟩, -, X1, ⟨Lc1, hQ1, l1, y1, z1⟩, st1⟩ := superBack X0 hx hZ (y := mn_11) hown (ww hw 37 rfl) (own_same (ww hw 38 rfl) (own_nf (z := mn_4) rfl (notFace_of_selects (ww hw 60 rfl)) (ww hw 58 rfl)) (by decide)) (ww hw 38 rfl) (ww hw 39 rfl) (by decide) (backOf (W := 0) (rm6_f l Z a0 hw [] a1 a2 b kb cap A d kd z B n cs h0 n0 (Nat.le_trans Z0 K0.1) O0 E_a1 Gv_a1 Gc_a1 V_b g_b Gn_a1 g_a1 ne_a1_b E_a2 Fc_a2 Fv_a2 V_d hz hB ne_a1_a2 ne_a1_d ne_a2_b ne_b_d hn hA hs hs0 hc hle S_CS h_cs) hZ (ww hw 41 rfl) (ww hw 22 rfl) (by decide) (by decide)) e0 (Ins.self E_a1) (g := (mkF m 2 #[vR a1, vR a2] [iR a2, iR a1])) rfl (by rw [hml]; rfl) (ww hw 41 rfl) (argsL := [(.ref a2)]) (rest := []) (lenOf pd_10 rfl) rfl (wz rfl) (hb hby d5_2) (fun _ _ => ⟨rfl, e0, (by decide : 0 + 0 ≤ _), (by decide : 0 + 0 ≤ _)⟩)
  dsimp only [Pt.U, Pt.locs, Pt.cells, Pt.slots] at X1 l1 y1 z1 st1 hQ1
  subst l1 y1 z1
  obtain ⟨rfl, N1q, K1q, E1q, Fv1q, Fc1q, Fn1q, V1q⟩ := hQ1
  have N1 := Fr.app N0 N1q
  have K1 : Keep h0 T1.heap [a1, b] := Keep.trans K0 K1q (allS (Or.inl (List.mem_of_getElem? (i := 0) rfl)) (allS (Or.inl (List.mem_of_getElem? (i := 1) rfl)) all0))
  obtain ⟨fs, hr, hrun, hended, hW, hsame⟩ := X1.leave (v := some (.ref a1)) (fun h => by rw [Bd.returns] at h; cases h)
  refine ⟨_, _, pre0 _ ?_, hrun, hended, _, _, rfl, ?_, ⟨_, rfl⟩, hW, hsame.mono (by decide) (by decide)⟩
  · show SA s₁ m 0 #[vR a1, vR a2] []
    refine XS.aloadN X0.here hx rfl (hb hby d5_0) rfl rfl ?_
    show SA s₁ m 1 #[vR a1, vR a2] [iR a1]
    refine XS.aloadN X0.here hx rfl (hb hby d5_1) rfl rfl ?_
    show SA s₁ m 2 #[vR a1, vR a2] [iR a2, iR a1]
    refine st1.trans ?_
    show SA T1 m 5 #[vR a1, vR a2] [iR a1]
    refine XS.pop X1.here hx rfl (hb hby d5_5) rfl rfl ?_
    show SA T1 m 6 #[vR a1, vR a2] []
    refine XS.aloadN X1.here hx rfl (hb hby d5_6) rfl rfl ?_
    show Steps _ _ _ (T1.setTop (mkF m 7 #[vR a1, vR a2] [iR a1])) _
    jvm_step X1.here [X1.here.top, hx, (hb hby d5_7), X1.method', Bd.returns, Value.isRef, FieldType.isReference]
    first | (intro acts; rw [hr _ acts rfl rfl rfl]) | rw [hr _ _ rfl rfl rfl]
    exact Steps.refl _
  · show Q5_f Z a1 a2 b kb cap A d kd z B n cs h0 n0 _ T1.heap _
    exact ⟨rfl, N1, K1, E1q, Fv1q, Fc1q, Fn1q, V1q⟩
theorem ef_6_g (m : MethodId) (x0 : Addr) (x1 : Addr) : entryFrame m #[(.ref x0), (.ref x1)] 3 = mkF m 0 #[.val (.ref x0), .val (.ref x1), .unset] [] := by first | (simp [entryFrame, mkF, argsToLocals, Value.category]; done) | rfl
def Q6_g (Z : State) (a1 : Addr) (a2 : Addr) (b : Addr) (kb : ClassId) (cap : Int32) (A : List Int32) (d : Addr) (kd : ClassId) (z : Int32) (B : List Int32) (n : Int32) (nc : Int32) (cs : Int32) (h0 : Heap) (n0 : Nat) (v : Option Value) (h : Heap) (L : List Loc) : Prop := ∃ (o : Addr) (ko : ClassId), v = some (.ref a1) ∧ Fr n0 L ∧ Keep h0 h [a1] ∧ Exa Z h a1 "java/lang/StringBuilder" ∧ Fld Z h a1 "java/lang/AbstractStringBuilder" "value" "[B" (.ref o) ∧ Fld Z h a1 "java/lang/AbstractStringBuilder" "coder" "B" (.int (0 : Int32)) ∧ Fld Z h a1 "java/lang/AbstractStringBuilder" "count" "I" (.int (n + z)) ∧ Arv Z h o ko .byte nc (own_bs (A ++ B)) (.int (0 : Int32)) ∧ Exa Z h o "[B" ∧ h0.size ≤ o
theorem rm6_g (l : Launch) (Z : State) (a0 : Array Value) (hw : ∀ d ∈ tables_1, d.before a0 Z = true) (ws : List Jvm.Cond) (a1 : Addr) (a2 : Addr) (b : Addr) (kb : ClassId) (cap : Int32) (A : List Int32) (d : Addr) (kd : ClassId) (z : Int32) (B : List Int32) (n : Int32) (nc : Int32) (cs : Int32) (h0 : Heap) (n0 : Nat) (Z0 : n0 ≤ h0.size) (O0 : Old Z n0 h0) (E_a1 : Exa Z h0 a1 "java/lang/StringBuilder") (Gv_a1 : Fld Z h0 a1 "java/lang/AbstractStringBuilder" "value" "[B" (.ref b)) (Gc_a1 : Fld Z h0 a1 "java/lang/AbstractStringBuilder" "coder" "B" (.int (0 : Int32))) (V_b : Arv Z h0 b kb .byte cap (own_bs A) (.int (0 : Int32))) (g_b : n0 ≤ b) (Gn_a1 : Fld Z h0 a1 "java/lang/AbstractStringBuilder" "count" "I" (.int n)) (g_a1 : n0 ≤ a1) (ne_a1_b : a1 ≠ b) (E_a2 : Exa Z h0 a2 "java/lang/String") (Fc_a2 : Fld Z h0 a2 "java/lang/String" "coder" "B" (.int (0 : Int32))) (Fv_a2 : Fld Z h0 a2 "java/lang/String" "value" "[B" (.ref d)) (V_d : Arv Z h0 d kd .byte z (own_bs B) (.int (0 : Int32))) (hz : ¬ z < 0) (hB : z.toNatClampNeg = B.length) (ne_a1_a2 : a1 ≠ a2) (ne_a1_d : a1 ≠ d) (ne_a2_b : a2 ≠ b) (ne_b_d : b ≠ d) (hn : ¬ n < 0) (hA : n.toNatClampNeg = A.length) (hs : (n + z).toNatClampNeg = n.toNatClampNeg + z.toNatClampNeg) (hs0 : ¬ (n + z) < 0) (hc : ¬ cap < 0) (hlt : cap < (n + z)) (hnc : (cap + (own_max ((n + z) - cap) (cap + (2 : Int32)))) = nc) (h1 : (0 : Int32) < nc) (h2 : ¬ (2147483639 : Int32) < nc) (hg : cap < nc) (hm : nc.toNatClampNeg ≤ 70) (hAc : A.length ≤ cap.toNatClampNeg) (hle : ¬ nc < (n + z)) (S_CS : Sta Z Z.heap "java/lang/String" "COMPACT_STRINGS" "Z" (.int cs)) (h_cs : ¬ cs = (0 : Int32)) :
    MetFree l mn_11 (head1 (Jvm.Cond.code mn_11 jdk_68_method_22_code 3 (some (.object "java/lang/AbstractStringBuilder")) :: ws) ({ frames := 4, cells := 1, slots := 70, locals := 62 } : Room)) (fun a U => a = #[(.ref a1), (.ref a2)] ∧ Z.Warmed39 U.vm ∧ U.heap = h0) (fun _ _ _ _ _ => True) (fun _ U o U' => ∃ v L, o = .returned v ∧ Q6_g Z a1 a2 b kb cap A d kd z B n nc cs h0 n0 v U'.heap L ∧ FrameEnd U o U' L ({ frames := 4, cells := 1, slots := 70, locals := 62 } : Room).cells ({ frames := 4, cells := 1, slots := 70, locals := 62 } : Room).slots) := by
  refine MetFree.of_bodySF (plainFor_of_name pn_1) hisR ?_
  intro p e s m args below meth c s₁ Bd hml0 hP hK
  obtain ⟨rfl, hZ, hh⟩ := hP
  have hx := Bd.exec
  have hby := Bd.bytes
  have hml : c.maxLocals = 3 := hml0
  have hown : s.vm.findClass "java/lang/AbstractStringBuilder" = some m.cls := findClass_of_methodNamed Bd.named
  have hnm := (name_of_methodNamed Bd.named Bd.method).1
  have X0 : Stand p l e ({ frames := 4, cells := 1, slots := 70, locals := 62 } : Room) s m #[(.ref a1), (.ref a2)] below meth c s₁ [] 0 0 := Stand.of_body Bd
  have e0 : s₁.heap = h0 := by rw [← hh, Bd.state]; rfl
  have N0 := Fr.nil n0
  have K0 := Keep.refl h0 [a1]
  have pre0 : ∀ t, Steps p.tables e below (s₁.setTop (mkF m 0 #[.val (.ref a1), .val (.ref a2), .unset] [])) t → Steps p.tables e below (s₁.setTop (entryFrame m #[(.ref a1), (.ref a2)] 3)) t := fun t k => castTop (ef_6_g m a1 a2) k
  obtain ⟨cq1, kq1, q1a, q1b, q1c⟩ := isOf hZ e0 E_a2
  obtain ⟨_, _, ⟨T1, L1, k1, n1⟩, -, X1, ⟨Lc1, hQ1, l1, y1, z1⟩, st1⟩ := X0.virtualBack hx (y := mn_1) (z := mn_1) hown (mvT hZ (ww hw 42 rfl)) (mvT hZ (ww hw 43 rfl)) (notFace_of_selects (args := #[]) (mvT hZ (ww hw 45 rfl))) (mvT hZ (ww hw 45 rfl)) (mvT hZ (ww hw 44 rfl)) (by decide) (backOf (W := 0) (rm7 l Z a0 hw [] a2 d kd z B cs h0 n0 O0 E_a2 Fc_a2 Fv_a2 V_d hz hB S_CS h_cs) hZ (ww hw 46 rfl) (ww hw 1 rfl) (by decide) (by decide)) q1a q1c (g := (mkF m 10 #[vR a1, vR a2, .unset] [iR a2])) rfl (by rw [hml]; rfl) (Steps.refl _) (argsL := []) (rest := []) (lenOf pd_7 rfl) rfl (wz rfl) (hb hby d6_10) (fun _ _ => ⟨rfl, e0, (by decide : 0 + 0 ≤ _), (by decide : 0 + 0 ≤ _)⟩)
  dsimp only [Pt.U, Pt.locs, Pt.cells, Pt.slots] at X1 l1 y1 z1 st1 hQ1
  subst l1 y1 z1
  obtain ⟨rfl, rfl, e1⟩ := hQ1
  try rw [List.append_nil] at X1
  obtain ⟨T2, X2, e2, st2⟩ := getF X1 hx hZ hown (host := "") (Or.inl (ww hw 55 rfl)) Via.refl e1 Gn_a1 (g := (mkF m 16 #[vR a1, vR a2, vI z] [iR a1, iR a1])) rfl rfl (hb hby d6_16)
  obtain ⟨cq3, q3, q3'⟩ := E_a1.cell
  obtain ⟨_, _, ⟨T3, L3, k3, n3⟩, -, X3, ⟨Lc3, hQ3, l3, y3, z3⟩, st3⟩ := X2.privateBack hx (y := mn_4) hown (mvT hZ (ww hw 57 rfl)) (mvT hZ (ww hw 58 rfl)) (own_selPriv2 (own_nf (z := mn_4) rfl (notFace_of_selects (args := #[]) (mvT hZ (ww hw 60 rfl))) (mvT hZ (ww hw 58 rfl) (args := #[]))) (Cond.privateMethod_at (mvP hZ (ww hw 59 rfl) (args := #[]))) (mvT hZ (ww hw 58 rfl)) (by decide)) (Cond.privateMethod_at (mvP hZ (ww hw 59 rfl) (args := #[]))) (mvT hZ (ww hw 61 rfl)) (by decide) (backOf (W := 0) (rm9_g l Z a0 hw [] a1 (n + z) b kb cap A nc n h0 n0 (Nat.le_trans Z0 K0.1) E_a1 Gv_a1 Gc_a1 V_b g_b Gn_a1 g_a1 ne_a1_b hlt hnc h1 h2 hc hg hm hAc) hZ (ww hw 61 rfl) (ww hw 22 rfl) (by decide) (by decide)) (g := (mkF m 21 #[vR a1, vR a2, vI z] [iI (n + z), iR a1])) rfl (by rw [hml]; rfl) (Steps.refl _) (a := a1) (by rw [e2]; exact q3) q3' (argsL := [(.int (n + z))]) (rest := []) (lenOf pd_8 rfl) rfl (wz rfl) (hb hby d6_21) (fun _ _ => ⟨rfl, e2, (by decide : 0 + 1 ≤ _), (by decide : 0 + 70 ≤ _)⟩)
  dsimp only [Pt.U, Pt.locs, Pt.cells, Pt.slots] at X3 l3 y3 z3 st3 hQ3
  subst l3 y3 z3
  obtain ⟨d3, kd3, rfl, N3q, K3q, E3q, Fv3q, Fc3q, Fn3q, V3q, G3q, z_d3⟩ := hQ3
  have ne_a1_d3 : a1 ≠ d3 := Nat.ne_of_lt (Nat.lt_of_lt_of_le E_a1.lt z_d3)
  have ne_a2_d3 : a2 ≠ d3 := Nat.ne_of_lt (Nat.lt_of_lt_of_le E_a2.lt z_d3)
  have ne_b_d3 : b ≠ d3 := Nat.ne_of_lt (Nat.lt_of_lt_of_le V_b.lt z_d3)
  have ne_d_d3 : d ≠ d3 := Nat.ne_of_lt (Nat.lt_of_lt_of_le V_d.lt z_d3)
  have sz_d3 : h0.size ≤ d3 := Nat.le_trans K0.1 z_d3
  have g_d3 : n0 ≤ d3 := Nat.le_trans Z0 sz_d3
  have N3 := Fr.app N0 N3q
  have K3 : Keep h0 T3.heap [a1] := Keep.trans K0 K3q (allS (Or.inl (List.mem_of_getElem? (i := 0) rfl)) all0)
  obtain ⟨T4, X4, e4, st4⟩ := getF X3 hx hZ hown (host := "") (Or.inl (ww hw 55 rfl)) Via.refl rfl Fn3q (g := (mkF m 26 #[vR a1, vR a2, vI z] [iR a1, iR a1])) rfl rfl (hb hby d6_26)
  have fk6 := (E_a2.keep K3q)
  have fk7 := (Fc_a2.keep K3q (ninS (Ne.symm ne_a1_a2) nin0))
  have fk8 := (Fv_a2.keep K3q (ninS (Ne.symm ne_a1_a2) nin0))
  have fk9 := (V_d.keep K3q (ninS (Ne.symm ne_a1_d) nin0))
  have Oh10 := O0.keep K3 (allS g_a1 all0)
  obtain ⟨cq5, q5, q5'⟩ := E3q.cell
  obtain ⟨_, _, ⟨T5, L5, k5, n5⟩, -, X5, ⟨Lc5, hQ5, l5, y5, z5⟩, st5⟩ := X4.privateBack hx (y := mn_5) hown (mvT hZ (ww hw 62 rfl)) (mvT hZ (ww hw 63 rfl)) (own_selPriv2 (own_nf (z := mn_4) rfl (notFace_of_selects (args := #[]) (mvT hZ (ww hw 60 rfl))) (mvT hZ (ww hw 58 rfl) (args := #[]))) (Cond.privateMethod_at (mvP hZ (ww hw 64 rfl) (args := #[]))) (mvT hZ (ww hw 63 rfl)) (by decide)) (Cond.privateMethod_at (mvP hZ (ww hw 64 rfl) (args := #[]))) (mvT hZ (ww hw 66 rfl)) (by decide) (backOf (W := 0) (rm10 l Z a0 hw [] a1 n a2 d3 kd3 nc A d kd z B cs T3.heap n0 (Nat.le_trans Z0 K3.1) Oh10 E3q Fv3q Fc3q V3q g_d3 fk6 fk7 fk8 fk9 hz hB hn hA (by rw [← hs]; exact own_fit hle) S_CS h_cs) hZ (ww hw 66 rfl) (ww hw 22 rfl) (by decide) (by decide)) (g := (mkF m 30 #[vR a1, vR a2, vI z] [iR a2, iI n, iR a1])) rfl (by rw [hml]; rfl) (Steps.refl _) (a := a1) (by rw [e4]; exact q5) q5' (argsL := [(.int n), (.ref a2)]) (rest := []) (lenOf pd_9 rfl) rfl (wz rfl) (hb hby d6_30) (fun _ _ => ⟨rfl, e4, (by decide : 1 + 0 ≤ _), (by decide : 70 + 0 ≤ _)⟩)
  dsimp only [Pt.U, Pt.locs, Pt.cells, Pt.slots] at X5 l5 y5 z5 st5 hQ5
  subst l5 y5 z5
  obtain ⟨rfl, N5q, K5q, V5q⟩ := hQ5
  have N5 := Fr.app N3 N5q
  have K5 : Keep h0 T5.heap [a1] := Keep.trans K3 K5q (allS (Or.inr sz_d3) all0)
  have fk11 := (Fn3q.keep K5q (ninS ne_a1_d3 nin0))
  obtain ⟨T12, X12, e12, st12⟩ := getF X5 hx hZ hown (host := "") (Or.inl (ww hw 55 rfl)) Via.refl rfl fk11 (g := (mkF m 35 #[vR a1, vR a2, vI z] [iR a1, iR a1])) rfl rfl (hb hby d6_35)
  have fk13 := (E3q.keep K5q)
  obtain ⟨T14, h14, X14, e14, W14, st14⟩ := putF X12 hx hZ hown (host := "") (Or.inl (ww hw 55 rfl)) Via.refl e12 fk11 fk13 (Or.inl (ww hw 56 rfl)) (ww hw 13 rfl) (ty := .int) (by decide) rfl rfl (g := (mkF m 40 #[vR a1, vR a2, vI z] [iI (n + z), iR a1])) rfl rfl (hb hby d6_40)
  have Fw14 := fk11.same W14
  have K14 : Keep h0 h14 [a1] := K5.wr W14 (Or.inl (List.mem_of_getElem? (i := 0) rfl))
  have N14 := Fr.snoc X14 N5 g_a1
  obtain ⟨fs, hr, hrun, hended, hW, hsame⟩ := X14.leave (v := some (.ref a1)) (fun h => by rw [Bd.returns] at h; cases h)
  have fk15 := (fk13.wr W14)
  have fk16 := ((Fv3q.keep K5q (ninS ne_a1_d3 nin0)).other W14 (Or.inr (slot_ne (Or.inl (ww hw 29 rfl)) (Or.inl (ww hw 56 rfl)) (by decide) (t := (.array .byte)) (t' := .int) (by decide) (by decide))))
  have fk17 := ((Fc3q.keep K5q (ninS ne_a1_d3 nin0)).other W14 (Or.inr (slot_ne (Or.inl (ww hw 31 rfl)) (Or.inl (ww hw 56 rfl)) (by decide) (t := .byte) (t' := .int) (by decide) (by decide))))
  have fk18 := (V5q.other W14 (Ne.symm ne_a1_d3))
  have fk19 := ((G3q.keep K5q).wr W14)
  refine ⟨_, _, pre0 _ ?_, hrun, hended, _, _, rfl, ?_, ⟨_, rfl⟩, hW, hsame.mono (by decide) (by decide)⟩
  · show SA s₁ m 0 #[vR a1, vR a2, .unset] []
    refine XS.aloadN X0.here hx rfl (hb hby d6_0) rfl rfl ?_
    show SA s₁ m 1 #[vR a1, vR a2, .unset] [iR a2]
    refine XS.ifnonnullYes X0.here hx rfl (pc0 := 1) (pc' := 9) rfl (hb hby d6_1) rfl (by decide) (by decide) ?_
    show SA s₁ m 9 #[vR a1, vR a2, .unset] []
    refine XS.aloadN X0.here hx rfl (hb hby d6_9) rfl rfl ?_
    show SA s₁ m 10 #[vR a1, vR a2, .unset] [iR a2]
    refine st1.trans ?_
    show SA T1 m 13 #[vR a1, vR a2, .unset] [iI z]
    refine XS.istoreN X1.here hx rfl (hb hby d6_13) rfl (l' := #[vR a1, vR a2, vI z]) rfl ?_
    show SA T1 m 14 #[vR a1, vR a2, vI z] []
    refine XS.aloadN X1.here hx rfl (hb hby d6_14) rfl rfl ?_
    show SA T1 m 15 #[vR a1, vR a2, vI z] [iR a1]
    refine XS.aloadN X1.here hx rfl (hb hby d6_15) rfl rfl ?_
    show SA T1 m 16 #[vR a1, vR a2, vI z] [iR a1, iR a1]
    refine st2 _ ?_
    show SA T2 m 19 #[vR a1, vR a2, vI z] [iI n, iR a1]
    refine XS.iloadN X2.here hx rfl (hb hby d6_19) rfl ?_
    show SA T2 m 20 #[vR a1, vR a2, vI z] [iI z, iI n, iR a1]
    refine XS.iadd X2.here hx rfl (hb hby d6_20) rfl ?_
    show SA T2 m 21 #[vR a1, vR a2, vI z] [iI (n + z), iR a1]
    refine st3.trans ?_
    show SA T3 m 24 #[vR a1, vR a2, vI z] []
    refine XS.aloadN X3.here hx rfl (hb hby d6_24) rfl rfl ?_
    show SA T3 m 25 #[vR a1, vR a2, vI z] [iR a1]
    refine XS.aloadN X3.here hx rfl (hb hby d6_25) rfl rfl ?_
    show SA T3 m 26 #[vR a1, vR a2, vI z] [iR a1, iR a1]
    refine st4 _ ?_
    show SA T4 m 29 #[vR a1, vR a2, vI z] [iI n, iR a1]
    refine XS.aloadN X4.here hx rfl (hb hby d6_29) rfl rfl ?_
    show SA T4 m 30 #[vR a1, vR a2, vI z] [iR a2, iI n, iR a1]
    refine st5.trans ?_
    show SA T5 m 33 #[vR a1, vR a2, vI z] []
    refine XS.aloadN X5.here hx rfl (hb hby d6_33) rfl rfl ?_
    show SA T5 m 34 #[vR a1, vR a2, vI z] [iR a1]
    refine XS.dup X5.here hx rfl (hb hby d6_34) rfl rfl ?_
    show SA T5 m 35 #[vR a1, vR a2, vI z] [iR a1, iR a1]
    refine st12 _ ?_
    show SA T12 m 38 #[vR a1, vR a2, vI z] [iI n, iR a1]
    refine XS.iloadN X12.here hx rfl (hb hby d6_38) rfl ?_
    show SA T12 m 39 #[vR a1, vR a2, vI z] [iI z, iI n, iR a1]
    refine XS.iadd X12.here hx rfl (hb hby d6_39) rfl ?_
    show SA T12 m 40 #[vR a1, vR a2, vI z] [iI (n + z), iR a1]
    refine st14 _ ?_
    show SA T14 m 43 #[vR a1, vR a2, vI z] []
    refine XS.aloadN X14.here hx rfl (hb hby d6_43) rfl rfl ?_
    show Steps _ _ _ (T14.setTop (mkF m 44 #[vR a1, vR a2, vI z] [iR a1])) _
    jvm_step X14.here [X14.here.top, hx, (hb hby d6_44), X14.method', Bd.returns, Value.isRef, FieldType.isReference]
    first | (intro acts; rw [hr _ acts rfl rfl rfl]) | rw [hr _ _ rfl rfl rfl]
    exact Steps.refl _
  · show Q6_g Z a1 a2 b kb cap A d kd z B n nc cs h0 n0 _ T14.heap _
    rw [e14]
    exact ⟨_, _, rfl, N14, K14, fk15, fk16, fk17, Fw14, fk18, fk19, sz_d3⟩
theorem ef_5_g (m : MethodId) (x0 : Addr) (x1 : Addr) : entryFrame m #[(.ref x0), (.ref x1)] 2 = mkF m 0 #[.val (.ref x0), .val (.ref x1)] [] := by first | (simp [entryFrame, mkF, argsToLocals, Value.category]; done) | rfl
def Q5_g (Z : State) (a1 : Addr) (a2 : Addr) (b : Addr) (kb : ClassId) (cap : Int32) (A : List Int32) (d : Addr) (kd : ClassId) (z : Int32) (B : List Int32) (n : Int32) (nc : Int32) (cs : Int32) (h0 : Heap) (n0 : Nat) (v : Option Value) (h : Heap) (L : List Loc) : Prop := ∃ (o : Addr) (ko : ClassId), v = some (.ref a1) ∧ Fr n0 L ∧ Keep h0 h [a1] ∧ Exa Z h a1 "java/lang/StringBuilder" ∧ Fld Z h a1 "java/lang/AbstractStringBuilder" "value" "[B" (.ref o) ∧ Fld Z h a1 "java/lang/AbstractStringBuilder" "coder" "B" (.int (0 : Int32)) ∧ Fld Z h a1 "java/lang/AbstractStringBuilder" "count" "I" (.int (n + z)) ∧ Arv Z h o ko .byte nc (own_bs (A ++ B)) (.int (0 : Int32)) ∧ Exa Z h o "[B" ∧ h0.size ≤ o
theorem rm5_g (l : Launch) (Z : State) (a0 : Array Value) (hw : ∀ d ∈ tables_1, d.before a0 Z = true) (ws : List Jvm.Cond) (a1 : Addr) (a2 : Addr) (b : Addr) (kb : ClassId) (cap : Int32) (A : List Int32) (d : Addr) (kd : ClassId) (z : Int32) (B : List Int32) (n : Int32) (nc : Int32) (cs : Int32) (h0 : Heap) (n0 : Nat) (Z0 : n0 ≤ h0.size) (O0 : Old Z n0 h0) (E_a1 : Exa Z h0 a1 "java/lang/StringBuilder") (Gv_a1 : Fld Z h0 a1 "java/lang/AbstractStringBuilder" "value" "[B" (.ref b)) (Gc_a1 : Fld Z h0 a1 "java/lang/AbstractStringBuilder" "coder" "B" (.int (0 : Int32))) (V_b : Arv Z h0 b kb .byte cap (own_bs A) (.int (0 : Int32))) (g_b : n0 ≤ b) (Gn_a1 : Fld Z h0 a1 "java/lang/AbstractStringBuilder" "count" "I" (.int n)) (g_a1 : n0 ≤ a1) (ne_a1_b : a1 ≠ b) (E_a2 : Exa Z h0 a2 "java/lang/String") (Fc_a2 : Fld Z h0 a2 "java/lang/String" "coder" "B" (.int (0 : Int32))) (Fv_a2 : Fld Z h0 a2 "java/lang/String" "value" "[B" (.ref d)) (V_d : Arv Z h0 d kd .byte z (own_bs B) (.int (0 : Int32))) (hz : ¬ z < 0) (hB : z.toNatClampNeg = B.length) (ne_a1_a2 : a1 ≠ a2) (ne_a1_d : a1 ≠ d) (ne_a2_b : a2 ≠ b) (ne_b_d : b ≠ d) (hn : ¬ n < 0) (hA : n.toNatClampNeg = A.length) (hs : (n + z).toNatClampNeg = n.toNatClampNeg + z.toNatClampNeg) (hs0 : ¬ (n + z) < 0) (hc : ¬ cap < 0) (hlt : cap < (n + z)) (hnc : (cap + (own_max ((n + z) - cap) (cap + (2 : Int32)))) = nc) (h1 : (0 : Int32) < nc) (h2 : ¬ (2147483639 : Int32) < nc) (hg : cap < nc) (hm : nc.toNatClampNeg ≤ 70) (hAc : A.length ≤ cap.toNatClampNeg) (hle : ¬ nc < (n + z)) (S_CS : Sta Z Z.heap "java/lang/String" "COMPACT_STRINGS" "Z" (.int cs)) (h_cs : ¬ cs = (0 : Int32)) :
    MetFree l mn_12 (head1 (Jvm.Cond.code mn_12 jdk_67_method_7_code 2 (some (.object "java/lang/StringBuilder")) :: ws) ({ frames := 5, cells := 1, slots := 70, locals := 76 } : Room)) (fun a U => a = #[(.ref a1), (.ref a2)] ∧ Z.Warmed39 U.vm ∧ U.heap = h0) (fun _ _ _ _ _ => True) (fun _ U o U' => ∃ v L, o = .returned v ∧ Q5_g Z a1 a2 b kb cap A d kd z B n nc cs h0 n0 v U'.heap L ∧ FrameEnd U o U' L ({ frames := 5, cells := 1, slots := 70, locals := 76 } : Room).cells ({ frames := 5, cells := 1, slots := 70, locals := 76 } : Room).slots) := by
  refine MetFree.of_bodySF (plainFor_of_name pn_4) hisR ?_
  intro p e s m args below meth c s₁ Bd hml0 hP hK
  obtain ⟨rfl, hZ, hh⟩ := hP
  have hx := Bd.exec
  have hby := Bd.bytes
  have hml : c.maxLocals = 2 := hml0
  have hown : s.vm.findClass "java/lang/StringBuilder" = some m.cls := findClass_of_methodNamed Bd.named
  have hnm := (name_of_methodNamed Bd.named Bd.method).1
  have X0 : Stand p l e ({ frames := 5, cells := 1, slots := 70, locals := 76 } : Room) s m #[(.ref a1), (.ref a2)] below meth c s₁ [] 0 0 := Stand.of_body Bd
  have e0 : s₁.heap = h0 := by rw [← hh, Bd.state]; rfl
  have N0 := Fr.nil n0
  have K0 := Keep.refl h0 [a1]
  have pre0 : ∀ t, Steps p.tables e below (s₁.setTop (mkF m 0 #[.val (.ref a1), .val (.ref a2)] [])) t → Steps p.tables e below (s₁.setTop (entryFrame m #[(.ref a1), (.ref a2)] 2)) t := fun t k => castTop (ef_5_g m a1 a2) k
  obtain ⟨_, _, ⟨T1, L1, k1, n1⟩, -, X1, ⟨Lc1, hQ1, l1, y1, z1⟩, st1⟩ := superBack X0 hx hZ (y := mn_11) hown (ww hw 37 rfl) (own_same (ww hw 38 rfl) (own_nf (z := mn_4) rfl (notFace_of_selects (ww hw 60 rfl)) (ww hw 58 rfl)) (by decide)) (ww hw 38 rfl) (ww hw 39 rfl) (by decide) (backOf (W := 0) (rm6_g l Z a0 hw [] a1 a2 b kb cap A d kd z B n nc cs h0 n0 (Nat.le_trans Z0 K0.1) O0 E_a1 Gv_a1 Gc_a1 V_b g_b Gn_a1 g_a1 ne_a1_b E_a2 Fc_a2 Fv_a2 V_d hz hB ne_a1_a2 ne_a1_d ne_a2_b ne_b_d hn hA hs hs0 hc hlt hnc h1 h2 hg hm hAc hle S_CS h_cs) hZ (ww hw 41 rfl) (ww hw 22 rfl) (by decide) (by decide)) e0 (Ins.self E_a1) (g := (mkF m 2 #[vR a1, vR a2] [iR a2, iR a1])) rfl (by rw [hml]; rfl) (ww hw 41 rfl) (argsL := [(.ref a2)]) (rest := []) (lenOf pd_10 rfl) rfl (wz rfl) (hb hby d5_2) (fun _ _ => ⟨rfl, e0, (by decide : 0 + 1 ≤ _), (by decide : 0 + 70 ≤ _)⟩)
  dsimp only [Pt.U, Pt.locs, Pt.cells, Pt.slots] at X1 l1 y1 z1 st1 hQ1
  subst l1 y1 z1
  obtain ⟨d1, kd1, rfl, N1q, K1q, E1q, Fv1q, Fc1q, Fn1q, V1q, G1q, z_d1⟩ := hQ1
  have ne_a1_d1 : a1 ≠ d1 := Nat.ne_of_lt (Nat.lt_of_lt_of_le E_a1.lt z_d1)
  have ne_a2_d1 : a2 ≠ d1 := Nat.ne_of_lt (Nat.lt_of_lt_of_le E_a2.lt z_d1)
  have ne_b_d1 : b ≠ d1 := Nat.ne_of_lt (Nat.lt_of_lt_of_le V_b.lt z_d1)
  have ne_d_d1 : d ≠ d1 := Nat.ne_of_lt (Nat.lt_of_lt_of_le V_d.lt z_d1)
  have sz_d1 : h0.size ≤ d1 := Nat.le_trans K0.1 z_d1
  have g_d1 : n0 ≤ d1 := Nat.le_trans Z0 sz_d1
  have N1 := Fr.app N0 N1q
  have K1 : Keep h0 T1.heap [a1] := Keep.trans K0 K1q (allS (Or.inl (List.mem_of_getElem? (i := 0) rfl)) all0)
  obtain ⟨fs, hr, hrun, hended, hW, hsame⟩ := X1.leave (v := some (.ref a1)) (fun h => by rw [Bd.returns] at h; cases h)
  refine ⟨_, _, pre0 _ ?_, hrun, hended, _, _, rfl, ?_, ⟨_, rfl⟩, hW, hsame.mono (by decide) (by decide)⟩
  · show SA s₁ m 0 #[vR a1, vR a2] []
    refine XS.aloadN X0.here hx rfl (hb hby d5_0) rfl rfl ?_
    show SA s₁ m 1 #[vR a1, vR a2] [iR a1]
    refine XS.aloadN X0.here hx rfl (hb hby d5_1) rfl rfl ?_
    show SA s₁ m 2 #[vR a1, vR a2] [iR a2, iR a1]
    refine st1.trans ?_
    show SA T1 m 5 #[vR a1, vR a2] [iR a1]
    refine XS.pop X1.here hx rfl (hb hby d5_5) rfl rfl ?_
    show SA T1 m 6 #[vR a1, vR a2] []
    refine XS.aloadN X1.here hx rfl (hb hby d5_6) rfl rfl ?_
    show Steps _ _ _ (T1.setTop (mkF m 7 #[vR a1, vR a2] [iR a1])) _
    jvm_step X1.here [X1.here.top, hx, (hb hby d5_7), X1.method', Bd.returns, Value.isRef, FieldType.isReference]
    first | (intro acts; rw [hr _ acts rfl rfl rfl]) | rw [hr _ _ rfl rfl rfl]
    exact Steps.refl _
  · show Q5_g Z a1 a2 b kb cap A d kd z B n nc cs h0 n0 _ T1.heap _
    exact ⟨_, _, rfl, N1, K1, E1q, Fv1q, Fc1q, Fn1q, V1q, G1q, sz_d1⟩
theorem own_sub0 (x : Int32) : x - (0 : Int32) = x := by
  have h := c_isub x 0
  have e0 : (0 : Int32).toInt = 0 := rfl
  have r1 := rng32 x
  have r2 := rng32 (x - 0)
  apply Int32.toInt_inj.mp
  omega
theorem own_minR {a b : Int32} (h : b < a) : own_min a b = b := by
  unfold own_min
  rw [Int32.lt_iff_toInt_lt] at h
  split
  · rfl
  · next q => rw [Int32.lt_iff_toInt_lt] at q; omega
theorem d27_0 : decode jdk_65_method_131_code 0 = .ok (.iload_n 1, 1) := by decide +kernel
theorem d27_1 : decode jdk_65_method_131_code 1 = .ok (.iload_n 0, 1) := by decide +kernel
theorem d27_2 : decode jdk_65_method_131_code 2 = .ok (.if_icmp .ge 35, 3) := by decide +kernel
theorem d27_37 : decode jdk_65_method_131_code 37 = .ok (.return_, 1) := by decide +kernel
theorem ef_27 (m : MethodId) (x0 : Int32) (x1 : Int32) : entryFrame m #[(.int x0), (.int x1)] 2 = mkF m 0 #[.val (.int x0), .val (.int x1)] [] := by first | (simp [entryFrame, mkF, argsToLocals, Value.category]; done) | rfl
def Q27 (Z : State) (p1 : Int32) (p2 : Int32) (h0 : Heap) (v : Option Value) (h : Heap) (L : List Loc) : Prop := v = none ∧ L = [] ∧ h = h0
theorem rm27 (l : Launch) (Z : State) (a0 : Array Value) (hw : ∀ d ∈ tables_1, d.before a0 Z = true) (ws : List Jvm.Cond) (p1 : Int32) (p2 : Int32) (h0 : Heap) (hk : ¬ p2 < p1) :
    MetFree l mn_13 (head1 (Jvm.Cond.code mn_13 jdk_65_method_131_code 2 none :: ws) ({ frames := 0, cells := 0, slots := 0, locals := 0 } : Room)) (fun a U => a = #[(.int p1), (.int p2)] ∧ Z.Warmed39 U.vm ∧ U.heap = h0) (fun _ _ _ _ _ => True) (fun _ U o U' => ∃ v L, o = .returned v ∧ Q27 Z p1 p2 h0 v U'.heap L ∧ FrameEnd U o U' L ({ frames := 0, cells := 0, slots := 0, locals := 0 } : Room).cells ({ frames := 0, cells := 0, slots := 0, locals := 0 } : Room).slots) := by
  refine MetFree.of_bodySF (plainFor_of_name pn_3) hisR ?_
  intro p e s m args below meth c s₁ Bd hml0 hP hK
  obtain ⟨rfl, hZ, hh⟩ := hP
  have hx := Bd.exec
  have hby := Bd.bytes
  have hml : c.maxLocals = 2 := hml0
  have hown : s.vm.findClass "java/util/Arrays" = some m.cls := findClass_of_methodNamed Bd.named
  have hnm := (name_of_methodNamed Bd.named Bd.method).1
  have X0 : Stand p l e ({ frames := 0, cells := 0, slots := 0, locals := 0 } : Room) s m #[(.int p1), (.int p2)] below meth c s₁ [] 0 0 := Stand.of_body Bd
  have e0 : s₁.heap = h0 := by rw [← hh, Bd.state]; rfl
  have pre0 : ∀ t, Steps p.tables e below (s₁.setTop (mkF m 0 #[.val (.int p1), .val (.int p2)] [])) t → Steps p.tables e below (s₁.setTop (entryFrame m #[(.int p1), (.int p2)] 2)) t := fun t k => castTop (ef_27 m p1 p2) k
  obtain ⟨fs, hr, hrun, hended, hW, hsame⟩ := X0.leave (v := none) (fun _ => rfl)
  refine ⟨_, _, pre0 _ ?_, hrun, hended, _, _, rfl, ?_, ⟨_, rfl⟩, hW, hsame.mono (by decide) (by decide)⟩
  · show SA s₁ m 0 #[vI p1, vI p2] []
    refine XS.iloadN X0.here hx rfl (hb hby d27_0) rfl ?_
    show SA s₁ m 1 #[vI p1, vI p2] [iI p2]
    refine XS.iloadN X0.here hx rfl (hb hby d27_1) rfl ?_
    show SA s₁ m 2 #[vI p1, vI p2] [iI p1, iI p2]
    refine XS.icmpYes X0.here hx rfl (pc0 := 2) (pc' := 37) rfl (hb hby d27_2) rfl (flt hk).2.1 (by decide) (by decide) ?_
    show Steps _ _ _ (s₁.setTop (mkF m 37 #[vI p1, vI p2] [])) _
    exact X0.returnOut hx Bd.returns (hb hby d27_37) hr
  · show Q27 Z p1 p2 h0 _ s₁.heap _
    rw [e0]
    exact ⟨rfl, rfl, rfl⟩
theorem d26_0 : decode jdk_65_method_133_code 0 = .ok (.iload_n 1, 1) := by decide +kernel
theorem d26_1 : decode jdk_65_method_133_code 1 = .ok (.iload_n 2, 1) := by decide +kernel
theorem d26_2 : decode jdk_65_method_133_code 2 = .ok (.invokestatic 343, 3) := by decide +kernel
theorem d26_5 : decode jdk_65_method_133_code 5 = .ok (.iload_n 2, 1) := by decide +kernel
theorem d26_6 : decode jdk_65_method_133_code 6 = .ok (.iload_n 1, 1) := by decide +kernel
theorem d26_7 : decode jdk_65_method_133_code 7 = .ok (.isub, 1) := by decide +kernel
theorem d26_8 : decode jdk_65_method_133_code 8 = .ok (.istore_n 3, 1) := by decide +kernel
theorem d26_9 : decode jdk_65_method_133_code 9 = .ok (.iload_n 3, 1) := by decide +kernel
theorem d26_10 : decode jdk_65_method_133_code 10 = .ok (.newarray .byte, 2) := by decide +kernel
theorem d26_12 : decode jdk_65_method_133_code 12 = .ok (.astore 4, 2) := by decide +kernel
theorem d26_14 : decode jdk_65_method_133_code 14 = .ok (.aload_n 0, 1) := by decide +kernel
theorem d26_15 : decode jdk_65_method_133_code 15 = .ok (.iload_n 1, 1) := by decide +kernel
theorem d26_16 : decode jdk_65_method_133_code 16 = .ok (.aload 4, 2) := by decide +kernel
theorem d26_18 : decode jdk_65_method_133_code 18 = .ok (.iconst 0, 1) := by decide +kernel
theorem d26_19 : decode jdk_65_method_133_code 19 = .ok (.aload_n 0, 1) := by decide +kernel
theorem d26_20 : decode jdk_65_method_133_code 20 = .ok (.arraylength, 1) := by decide +kernel
theorem d26_21 : decode jdk_65_method_133_code 21 = .ok (.iload_n 1, 1) := by decide +kernel
theorem d26_22 : decode jdk_65_method_133_code 22 = .ok (.isub, 1) := by decide +kernel
theorem d26_23 : decode jdk_65_method_133_code 23 = .ok (.iload_n 3, 1) := by decide +kernel
theorem d26_24 : decode jdk_65_method_133_code 24 = .ok (.invokestatic 304, 3) := by decide +kernel
theorem d26_27 : decode jdk_65_method_133_code 27 = .ok (.invokestatic 150, 3) := by decide +kernel
theorem d26_30 : decode jdk_65_method_133_code 30 = .ok (.aload 4, 2) := by decide +kernel
theorem d26_32 : decode jdk_65_method_133_code 32 = .ok (.areturn, 1) := by decide +kernel
theorem ef_26 (m : MethodId) (x0 : Addr) (x2 : Int32) : entryFrame m #[(.ref x0), (.int (0 : Int32)), (.int x2)] 5 = mkF m 0 #[.val (.ref x0), .val (.int (0 : Int32)), .val (.int x2), .unset, .unset] [] := by first | (simp [entryFrame, mkF, argsToLocals, Value.category]; done) | rfl
def Q26 (Z : State) (a1 : Addr) (kb : ClassId) (cap n : Int32) (A : List Int32) (h0 : Heap) (n0 : Nat) (v : Option Value) (h : Heap) (L : List Loc) : Prop := ∃ (o : Addr) (ko : ClassId), v = some (.ref o) ∧ Fr n0 L ∧ Keep h0 h [] ∧ Arv Z h o ko .byte n (own_bs A) (.int (0 : Int32)) ∧ h0.size ≤ o
theorem rm26 (l : Launch) (Z : State) (a0 : Array Value) (hw : ∀ d ∈ tables_1, d.before a0 Z = true) (ws : List Jvm.Cond) (a1 : Addr) (kb : ClassId) (cap n : Int32) (A : List Int32) (h0 : Heap) (n0 : Nat) (Z0 : n0 ≤ h0.size) (V_b : Arv Z h0 a1 kb .byte cap (own_bs A) (.int (0 : Int32))) (hn : ¬ n < 0) (hl : n < cap) (hm : n.toNatClampNeg ≤ 70) (hA : n.toNatClampNeg = A.length) :
    MetFree l mn_14 (head1 (Jvm.Cond.code mn_14 jdk_65_method_133_code 5 (some (.array .byte)) :: ws) ({ frames := 1, cells := 1, slots := 70, locals := 18 } : Room)) (fun a U => a = #[(.ref a1), (.int (0 : Int32)), (.int n)] ∧ Z.Warmed39 U.vm ∧ U.heap = h0) (fun _ _ _ _ _ => True) (fun _ U o U' => ∃ v L, o = .returned v ∧ Q26 Z a1 kb cap n A h0 n0 v U'.heap L ∧ FrameEnd U o U' L ({ frames := 1, cells := 1, slots := 70, locals := 18 } : Room).cells ({ frames := 1, cells := 1, slots := 70, locals := 18 } : Room).slots) := by
  refine MetFree.of_bodySF (plainFor_of_name pn_3) hisR ?_
  intro p e s m args below meth c s₁ Bd hml0 hP hK
  obtain ⟨rfl, hZ, hh⟩ := hP
  have hx := Bd.exec
  have hby := Bd.bytes
  have hml : c.maxLocals = 5 := hml0
  have hown : s.vm.findClass "java/util/Arrays" = some m.cls := findClass_of_methodNamed Bd.named
  have hnm := (name_of_methodNamed Bd.named Bd.method).1
  have X0 : Stand p l e ({ frames := 1, cells := 1, slots := 70, locals := 18 } : Room) s m #[(.ref a1), (.int (0 : Int32)), (.int n)] below meth c s₁ [] 0 0 := Stand.of_body Bd
  have e0 : s₁.heap = h0 := by rw [← hh, Bd.state]; rfl
  have N0 := Fr.nil n0
  have K0 := Keep.refl h0 []
  have pre0 : ∀ t, Steps p.tables e below (s₁.setTop (mkF m 0 #[.val (.ref a1), .val (.int (0 : Int32)), .val (.int n), .unset, .unset] [])) t → Steps p.tables e below (s₁.setTop (entryFrame m #[(.ref a1), (.int (0 : Int32)), (.int n)] 5)) t := fun t k => castTop (ef_26 m a1 n) k
  obtain ⟨_, _, ⟨T1, L1, k1, n1⟩, -, X1, ⟨Lc1, hQ1, l1, y1, z1⟩, st1⟩ := Jvm.LawKit.callS X0 hx (y := mn_13) hown (mvT hZ (ww hw 146 rfl)) (mvT hZ (ww hw 147 rfl)) (mvT hZ (ww hw 101 rfl)) (mvT hZ (ww hw 148 rfl)) (by decide) (backOf (W := 0) (rm27 l Z a0 hw [] (0 : Int32) n h0 hn) hZ (ww hw 148 rfl) (ww hw 101 rfl) (by decide) (by decide)) (g := (mkF m 2 #[vR a1, vI 0, vI n, .unset, .unset] [iI n, iI 0])) rfl (by rw [hml]; rfl) (argsL := [(.int (0 : Int32)), (.int n)]) (rest := []) (lenOf pd_11 rfl) rfl (wz rfl) (hb hby d26_2) (fun _ _ => ⟨rfl, e0, (by decide : 0 + 0 ≤ _), (by decide : 0 + 0 ≤ _)⟩)
  dsimp only [Pt.U, Pt.locs, Pt.cells, Pt.slots] at X1 l1 y1 z1 st1 hQ1
  subst l1 y1 z1
  obtain ⟨rfl, rfl, e1⟩ := hQ1
  try rw [List.append_nil] at X1
  obtain ⟨T2, h2, k2, X2, e2, E2, A2, st2⟩ := newP X1 hx hZ (ww hw 3 rfl) e1 (g := (mkF m 10 #[vR a1, vI 0, vI n, vI n, .unset] [iI n])) rfl (hb hby d26_10) rfl hn (cap := 70) hm (by decide) (by decide) (by decide)
  obtain ⟨b2, g2⟩ : ∃ z, z = h0.size := ⟨_, rfl⟩
  rw [← g2] at A2 st2
  have ne_a1_b2 : a1 ≠ b2 := Nat.ne_of_lt (Nat.lt_of_lt_of_le V_b.lt (Nat.le_of_eq g2.symm))
  have sz_b2 : h0.size ≤ b2 := Nat.le_trans K0.1 (Nat.le_of_eq g2.symm)
  have g_b2 : n0 ≤ b2 := Nat.le_trans Z0 sz_b2
  have K2 : Keep h0 h2 [] := K0.ext E2
  have V2 : Arv Z h2 b2 k2 .byte n [] (.int (0 : Int32)) := (Arv.new A2 hn).pad (pad_rep [] (.int (0 : Int32)) 0)
  have fk3 := (V_b.ext E2)
  obtain ⟨cl4, Ar4, q4, S4, M4, H4, G4⟩ := id fk3
  obtain ⟨_, _, ⟨T5, L5, k5, n5⟩, -, X5, ⟨Lc5, hQ5, l5, y5, z5⟩, st5⟩ := Jvm.LawKit.callS X2 hx (y := mn_7) hown (mvT hZ (ww hw 103 rfl)) (mvT hZ (ww hw 104 rfl)) (mvT hZ (ww hw 95 rfl)) (mvT hZ (ww hw 105 rfl)) (by decide) (backOf (W := 4) (rm17_e l Z a0 hw [] cap n n h2 (own_minR hl)) hZ (ww hw 105 rfl) (ww hw 95 rfl) (by decide) (by decide)) (g := (mkF m 24 #[vR a1, vI 0, vI n, vI n, vR b2] [iI n, iI cap, iI 0, iR b2, iI 0, iR a1])) rfl (by rw [hml]; rfl) (argsL := [(.int cap), (.int n)]) (rest := [(.int (0 : Int32)), (.ref b2), (.int (0 : Int32)), (.ref a1)]) (lenOf pd_3 rfl) rfl (wz rfl) (hb hby d26_24) (fun _ _ => ⟨rfl, e2, (by decide : 1 + 0 ≤ _), (by decide : 70 + 0 ≤ _)⟩)
  dsimp only [Pt.U, Pt.locs, Pt.cells, Pt.slots] at X5 l5 y5 z5 st5 hQ5
  subst l5 y5 z5
  obtain ⟨rfl, rfl, e5⟩ := hQ5
  try rw [List.append_nil] at X5
  obtain ⟨T6, h6, L6, X6, e6, N6, K6q, V6q, st6⟩ := cpA X5 hx hZ hown (ww hw 106 rfl) (ww hw 81 rfl) (ww hw 79 rfl) (ww hw 80 rfl) e5 fk3 (V2.pad (pad_rep [] _ n.toNatClampNeg)) (Or.inl ⟨rfl, rfl⟩) (by decide) (by decide) hn (by rw [own_z0, Nat.zero_add]; exact (own_ltN hn hl).1) (by rw [own_z0, Nat.zero_add]; exact Nat.le_refl _) rfl (by rw [own_z0, List.length_append, List.length_replicate]; simp) N0 g_b2 (g := (mkF m 27 #[vR a1, vI 0, vI n, vI n, vR b2] [iI n, iI 0, iR b2, iI 0, iR a1])) rfl (by rw [hml]; rfl) rfl (hb hby d26_27) (by decide) (W := 0) (wz rfl) (by decide)
  have K6 : Keep h0 h6 [] := Keep.trans K2 K6q (allS (Or.inr sz_b2) all0)
  have V6 : Arv Z h6 b2 k2 .byte n (own_bs A) (.int (0 : Int32)) := own_cpN (Nat.le_of_eq hA.symm) V6q
  obtain ⟨fs, hr, hrun, hended, hW, hsame⟩ := X6.leave (v := some (.ref b2)) (fun h => by rw [Bd.returns] at h; cases h)
  refine ⟨_, _, pre0 _ ?_, hrun, hended, _, _, rfl, ?_, ⟨_, rfl⟩, hW, hsame.mono (by decide) (by decide)⟩
  · show SA s₁ m 0 #[vR a1, vI 0, vI n, .unset, .unset] []
    refine XS.iloadN X0.here hx rfl (hb hby d26_0) rfl ?_
    show SA s₁ m 1 #[vR a1, vI 0, vI n, .unset, .unset] [iI 0]
    refine XS.iloadN X0.here hx rfl (hb hby d26_1) rfl ?_
    show SA s₁ m 2 #[vR a1, vI 0, vI n, .unset, .unset] [iI n, iI 0]
    refine st1 _ ?_
    show SA T1 m 5 #[vR a1, vI 0, vI n, .unset, .unset] []
    refine XS.iloadN X1.here hx rfl (hb hby d26_5) rfl ?_
    show SA T1 m 6 #[vR a1, vI 0, vI n, .unset, .unset] [iI n]
    refine XS.iloadN X1.here hx rfl (hb hby d26_6) rfl ?_
    show SA T1 m 7 #[vR a1, vI 0, vI n, .unset, .unset] [iI 0, iI n]
    refine XS.isub X1.here hx rfl (hb hby d26_7) rfl ?_
    rw [own_sub0]
    show SA T1 m 8 #[vR a1, vI 0, vI n, .unset, .unset] [iI n]
    refine XS.istoreN X1.here hx rfl (hb hby d26_8) rfl (l' := #[vR a1, vI 0, vI n, vI n, .unset]) rfl ?_
    show SA T1 m 9 #[vR a1, vI 0, vI n, vI n, .unset] []
    refine XS.iloadN X1.here hx rfl (hb hby d26_9) rfl ?_
    show SA T1 m 10 #[vR a1, vI 0, vI n, vI n, .unset] [iI n]
    refine st2 _ ?_
    show SA T2 m 12 #[vR a1, vI 0, vI n, vI n, .unset] [iR b2]
    refine XS.astore X2.here hx rfl (hb hby d26_12) rfl rfl (l' := #[vR a1, vI 0, vI n, vI n, vR b2]) rfl ?_
    show SA T2 m 14 #[vR a1, vI 0, vI n, vI n, vR b2] []
    refine XS.aloadN X2.here hx rfl (hb hby d26_14) rfl rfl ?_
    show SA T2 m 15 #[vR a1, vI 0, vI n, vI n, vR b2] [iR a1]
    refine XS.iloadN X2.here hx rfl (hb hby d26_15) rfl ?_
    show SA T2 m 16 #[vR a1, vI 0, vI n, vI n, vR b2] [iI 0, iR a1]
    refine XS.aload X2.here hx rfl (hb hby d26_16) rfl rfl ?_
    show SA T2 m 18 #[vR a1, vI 0, vI n, vI n, vR b2] [iR b2, iI 0, iR a1]
    refine XS.iconst X2.here hx rfl (hb hby d26_18) ?_
    show SA T2 m 19 #[vR a1, vI 0, vI n, vI n, vR b2] [iI 0, iR b2, iI 0, iR a1]
    refine XS.aloadN X2.here hx rfl (hb hby d26_19) rfl rfl ?_
    show SA T2 m 20 #[vR a1, vI 0, vI n, vI n, vR b2] [iR a1, iI 0, iR b2, iI 0, iR a1]
    refine X2.arraylength hx (by rw [e2]; exact Ar4.1) (State.isArrayOf_alike hZ.alike Ar4.2.1) (g := (mkF m 20 #[vR a1, vI 0, vI n, vI n, vR b2] [iR a1, iI 0, iR b2, iI 0, iR a1])) rfl rfl (hb hby d26_20) _ ?_
    rw [len_of S4 M4]
    show SA T2 m 21 #[vR a1, vI 0, vI n, vI n, vR b2] [iI cap, iI 0, iR b2, iI 0, iR a1]
    refine XS.iloadN X2.here hx rfl (hb hby d26_21) rfl ?_
    show SA T2 m 22 #[vR a1, vI 0, vI n, vI n, vR b2] [iI 0, iI cap, iI 0, iR b2, iI 0, iR a1]
    refine XS.isub X2.here hx rfl (hb hby d26_22) rfl ?_
    rw [own_sub0]
    show SA T2 m 23 #[vR a1, vI 0, vI n, vI n, vR b2] [iI cap, iI 0, iR b2, iI 0, iR a1]
    refine XS.iloadN X2.here hx rfl (hb hby d26_23) rfl ?_
    show SA T2 m 24 #[vR a1, vI 0, vI n, vI n, vR b2] [iI n, iI cap, iI 0, iR b2, iI 0, iR a1]
    refine st5 _ ?_
    show SA T5 m 27 #[vR a1, vI 0, vI n, vI n, vR b2] [iI n, iI 0, iR b2, iI 0, iR a1]
    refine st6 _ ?_
    show SA T6 m 30 #[vR a1, vI 0, vI n, vI n, vR b2] []
    refine XS.aload X6.here hx rfl (hb hby d26_30) rfl rfl ?_
    show Steps _ _ _ (T6.setTop (mkF m 32 #[vR a1, vI 0, vI n, vI n, vR b2] [iR b2])) _
    jvm_step X6.here [X6.here.top, hx, (hb hby d26_32), X6.method', Bd.returns, Value.isRef, FieldType.isReference]
    first | (intro acts; rw [hr _ acts rfl rfl rfl]) | rw [hr _ _ rfl rfl rfl]
    exact Steps.refl _
  · show Q26 Z a1 kb cap n A h0 n0 _ T6.heap _
    rw [e6]
    exact ⟨_, _, rfl, N6, K6, V6, sz_b2⟩
theorem d25_0 : decode jdk_65_method_132_code 0 = .ok (.iload_n 1, 1) := by decide +kernel
theorem d25_1 : decode jdk_65_method_132_code 1 = .ok (.ifCond .ne 9, 3) := by decide +kernel
theorem d25_4 : decode jdk_65_method_132_code 4 = .ok (.iload_n 2, 1) := by decide +kernel
theorem d25_5 : decode jdk_65_method_132_code 5 = .ok (.aload_n 0, 1) := by decide +kernel
theorem d25_6 : decode jdk_65_method_132_code 6 = .ok (.arraylength, 1) := by decide +kernel
theorem d25_7 : decode jdk_65_method_132_code 7 = .ok (.if_icmp .eq 10, 3) := by decide +kernel
theorem d25_10 : decode jdk_65_method_132_code 10 = .ok (.aload_n 0, 1) := by decide +kernel
theorem d25_11 : decode jdk_65_method_132_code 11 = .ok (.iload_n 1, 1) := by decide +kernel
theorem d25_12 : decode jdk_65_method_132_code 12 = .ok (.iload_n 2, 1) := by decide +kernel
theorem d25_13 : decode jdk_65_method_132_code 13 = .ok (.invokestatic 339, 3) := by decide +kernel
theorem d25_16 : decode jdk_65_method_132_code 16 = .ok (.areturn, 1) := by decide +kernel
theorem ef_25 (m : MethodId) (x0 : Addr) (x2 : Int32) : entryFrame m #[(.ref x0), (.int (0 : Int32)), (.int x2)] 3 = mkF m 0 #[.val (.ref x0), .val (.int (0 : Int32)), .val (.int x2)] [] := by first | (simp [entryFrame, mkF, argsToLocals, Value.category]; done) | rfl
def Q25 (Z : State) (a1 : Addr) (kb : ClassId) (cap n : Int32) (A : List Int32) (h0 : Heap) (n0 : Nat) (v : Option Value) (h : Heap) (L : List Loc) : Prop := ∃ (o : Addr) (ko : ClassId), v = some (.ref o) ∧ Fr n0 L ∧ Keep h0 h [] ∧ Arv Z h o ko .byte n (own_bs A) (.int (0 : Int32)) ∧ h0.size ≤ o
theorem rm25 (l : Launch) (Z : State) (a0 : Array Value) (hw : ∀ d ∈ tables_1, d.before a0 Z = true) (ws : List Jvm.Cond) (a1 : Addr) (kb : ClassId) (cap n : Int32) (A : List Int32) (h0 : Heap) (n0 : Nat) (Z0 : n0 ≤ h0.size) (V_b : Arv Z h0 a1 kb .byte cap (own_bs A) (.int (0 : Int32))) (hn : ¬ n < 0) (hl : n < cap) (hm : n.toNatClampNeg ≤ 70) (hA : n.toNatClampNeg = A.length) :
    MetFree l mn_15 (head1 (Jvm.Cond.code mn_15 jdk_65_method_132_code 3 (some (.array .byte)) :: ws) ({ frames := 2, cells := 1, slots := 70, locals := 34 } : Room)) (fun a U => a = #[(.ref a1), (.int (0 : Int32)), (.int n)] ∧ Z.Warmed39 U.vm ∧ U.heap = h0) (fun _ _ _ _ _ => True) (fun _ U o U' => ∃ v L, o = .returned v ∧ Q25 Z a1 kb cap n A h0 n0 v U'.heap L ∧ FrameEnd U o U' L ({ frames := 2, cells := 1, slots := 70, locals := 34 } : Room).cells ({ frames := 2, cells := 1, slots := 70, locals := 34 } : Room).slots) := by
  refine MetFree.of_bodySF (plainFor_of_name pn_3) hisR ?_
  intro p e s m args below meth c s₁ Bd hml0 hP hK
  obtain ⟨rfl, hZ, hh⟩ := hP
  have hx := Bd.exec
  have hby := Bd.bytes
  have hml : c.maxLocals = 3 := hml0
  have hown : s.vm.findClass "java/util/Arrays" = some m.cls := findClass_of_methodNamed Bd.named
  have hnm := (name_of_methodNamed Bd.named Bd.method).1
  have X0 : Stand p l e ({ frames := 2, cells := 1, slots := 70, locals := 34 } : Room) s m #[(.ref a1), (.int (0 : Int32)), (.int n)] below meth c s₁ [] 0 0 := Stand.of_body Bd
  have e0 : s₁.heap = h0 := by rw [← hh, Bd.state]; rfl
  have N0 := Fr.nil n0
  have K0 := Keep.refl h0 []
  have pre0 : ∀ t, Steps p.tables e below (s₁.setTop (mkF m 0 #[.val (.ref a1), .val (.int (0 : Int32)), .val (.int n)] [])) t → Steps p.tables e below (s₁.setTop (entryFrame m #[(.ref a1), (.int (0 : Int32)), (.int n)] 3)) t := fun t k => castTop (ef_25 m a1 n) k
  obtain ⟨cl1, Ar1, q1, S1, M1, H1, G1⟩ := id V_b
  have hh2 : ¬ (n = cap) := (fun e => absurd hl (by rw [e]; exact fun q => Int32.lt_irrefl q))
  obtain ⟨_, _, ⟨T3, L3, k3, n3⟩, -, X3, ⟨Lc3, hQ3, l3, y3, z3⟩, st3⟩ := Jvm.LawKit.callS X0 hx (y := mn_14) hown (mvT hZ (ww hw 143 rfl)) (mvT hZ (ww hw 144 rfl)) (mvT hZ (ww hw 101 rfl)) (mvT hZ (ww hw 145 rfl)) (by decide) (backOf (W := 0) (rm26 l Z a0 hw [] a1 kb cap n A h0 n0 (Nat.le_trans Z0 K0.1) V_b hn hl hm hA) hZ (ww hw 145 rfl) (ww hw 101 rfl) (by decide) (by decide)) (g := (mkF m 13 #[vR a1, vI 0, vI n] [iI n, iI 0, iR a1])) rfl (by rw [hml]; rfl) (argsL := [(.ref a1), (.int (0 : Int32)), (.int n)]) (rest := []) (lenOf pd_12 rfl) rfl (wz rfl) (hb hby d25_13) (fun _ _ => ⟨rfl, e0, (by decide : 0 + 1 ≤ _), (by decide : 0 + 70 ≤ _)⟩)
  dsimp only [Pt.U, Pt.locs, Pt.cells, Pt.slots] at X3 l3 y3 z3 st3 hQ3
  subst l3 y3 z3
  obtain ⟨d3, kd3, rfl, N3q, K3q, V3q, z_d3⟩ := hQ3
  have ne_a1_d3 : a1 ≠ d3 := Nat.ne_of_lt (Nat.lt_of_lt_of_le V_b.lt z_d3)
  have sz_d3 : h0.size ≤ d3 := Nat.le_trans K0.1 z_d3
  have g_d3 : n0 ≤ d3 := Nat.le_trans Z0 sz_d3
  have N3 := Fr.app N0 N3q
  have K3 : Keep h0 T3.heap [] := Keep.trans K0 K3q all0
  obtain ⟨fs, hr, hrun, hended, hW, hsame⟩ := X3.leave (v := some (.ref d3)) (fun h => by rw [Bd.returns] at h; cases h)
  refine ⟨_, _, pre0 _ ?_, hrun, hended, _, _, rfl, ?_, ⟨_, rfl⟩, hW, hsame.mono (by decide) (by decide)⟩
  · show SA s₁ m 0 #[vR a1, vI 0, vI n] []
    refine XS.iloadN X0.here hx rfl (hb hby d25_0) rfl ?_
    show SA s₁ m 1 #[vR a1, vI 0, vI n] [iI 0]
    refine XS.ifNo X0.here hx rfl (hb hby d25_1) rfl ((if0 _ _).trans (teq (by decide : (0 : Int32) = (0 : Int32))).2) ?_
    show SA s₁ m 4 #[vR a1, vI 0, vI n] []
    refine XS.iloadN X0.here hx rfl (hb hby d25_4) rfl ?_
    show SA s₁ m 5 #[vR a1, vI 0, vI n] [iI n]
    refine XS.aloadN X0.here hx rfl (hb hby d25_5) rfl rfl ?_
    show SA s₁ m 6 #[vR a1, vI 0, vI n] [iR a1, iI n]
    refine X0.arraylength hx (by rw [e0]; exact Ar1.1) (State.isArrayOf_alike hZ.alike Ar1.2.1) (g := (mkF m 6 #[vR a1, vI 0, vI n] [iR a1, iI n])) rfl rfl (hb hby d25_6) _ ?_
    rw [len_of S1 M1]
    show SA s₁ m 7 #[vR a1, vI 0, vI n] [iI cap, iI n]
    refine XS.icmpNo X0.here hx rfl (hb hby d25_7) rfl (feq hh2).1 ?_
    show SA s₁ m 10 #[vR a1, vI 0, vI n] []
    refine XS.aloadN X0.here hx rfl (hb hby d25_10) rfl rfl ?_
    show SA s₁ m 11 #[vR a1, vI 0, vI n] [iR a1]
    refine XS.iloadN X0.here hx rfl (hb hby d25_11) rfl ?_
    show SA s₁ m 12 #[vR a1, vI 0, vI n] [iI 0, iR a1]
    refine XS.iloadN X0.here hx rfl (hb hby d25_12) rfl ?_
    show SA s₁ m 13 #[vR a1, vI 0, vI n] [iI n, iI 0, iR a1]
    refine st3 _ ?_
    show Steps _ _ _ (T3.setTop (mkF m 16 #[vR a1, vI 0, vI n] [iR d3])) _
    jvm_step X3.here [X3.here.top, hx, (hb hby d25_16), X3.method', Bd.returns, Value.isRef, FieldType.isReference]
    first | (intro acts; rw [hr _ acts rfl rfl rfl]) | rw [hr _ _ rfl rfl rfl]
    exact Steps.refl _
  · show Q25 Z a1 kb cap n A h0 n0 _ T3.heap _
    exact ⟨_, _, rfl, N3, K3, V3q, sz_d3⟩
theorem d25_17 : decode jdk_65_method_132_code 17 = .ok (.aload_n 0, 1) := by decide +kernel
theorem d25_18 : decode jdk_65_method_132_code 18 = .ok (.invokevirtual 310, 3) := by decide +kernel
theorem d25_21 : decode jdk_65_method_132_code 21 = .ok (.checkcast 311, 3) := by decide +kernel
theorem d25_24 : decode jdk_65_method_132_code 24 = .ok (.areturn, 1) := by decide +kernel
theorem ef_25_e (m : MethodId) (x0 : Addr) (x2 : Int32) : entryFrame m #[(.ref x0), (.int (0 : Int32)), (.int x2)] 3 = mkF m 0 #[.val (.ref x0), .val (.int (0 : Int32)), .val (.int x2)] [] := by first | (simp [entryFrame, mkF, argsToLocals, Value.category]; done) | rfl
def Q25_e (Z : State) (a1 : Addr) (kb : ClassId) (n : Int32) (A : List Int32) (h0 : Heap) (n0 : Nat) (v : Option Value) (h : Heap) (L : List Loc) : Prop := ∃ (o : Addr) (ko : ClassId), v = some (.ref o) ∧ Fr n0 L ∧ Keep h0 h [] ∧ Arv Z h o ko .byte n (own_bs A) (.int (0 : Int32)) ∧ h0.size ≤ o
theorem rm25_e (l : Launch) (Z : State) (a0 : Array Value) (hw : ∀ d ∈ tables_1, d.before a0 Z = true) (ws : List Jvm.Cond) (a1 : Addr) (kb : ClassId) (n : Int32) (A : List Int32) (h0 : Heap) (n0 : Nat) (Z0 : n0 ≤ h0.size) (V_b : Arv Z h0 a1 kb .byte n (own_bs A) (.int (0 : Int32))) (E_b : Exa Z h0 a1 "[B") (hm : n.toNatClampNeg ≤ 70) :
    MetFree l mn_15 (head1 (Jvm.Cond.code mn_15 jdk_65_method_132_code 3 (some (.array .byte)) :: ws) ({ frames := 2, cells := 1, slots := 70, locals := 34 } : Room)) (fun a U => a = #[(.ref a1), (.int (0 : Int32)), (.int n)] ∧ Z.Warmed39 U.vm ∧ U.heap = h0) (fun _ _ _ _ _ => True) (fun _ U o U' => ∃ v L, o = .returned v ∧ Q25_e Z a1 kb n A h0 n0 v U'.heap L ∧ FrameEnd U o U' L ({ frames := 2, cells := 1, slots := 70, locals := 34 } : Room).cells ({ frames := 2, cells := 1, slots := 70, locals := 34 } : Room).slots) := by
  refine MetFree.of_bodySF (plainFor_of_name pn_3) hisR ?_
  intro p e s m args below meth c s₁ Bd hml0 hP hK
  obtain ⟨rfl, hZ, hh⟩ := hP
  have hx := Bd.exec
  have hby := Bd.bytes
  have hml : c.maxLocals = 3 := hml0
  have hown : s.vm.findClass "java/util/Arrays" = some m.cls := findClass_of_methodNamed Bd.named
  have hnm := (name_of_methodNamed Bd.named Bd.method).1
  have X0 : Stand p l e ({ frames := 2, cells := 1, slots := 70, locals := 34 } : Room) s m #[(.ref a1), (.int (0 : Int32)), (.int n)] below meth c s₁ [] 0 0 := Stand.of_body Bd
  have e0 : s₁.heap = h0 := by rw [← hh, Bd.state]; rfl
  have N0 := Fr.nil n0
  have K0 := Keep.refl h0 []
  have pre0 : ∀ t, Steps p.tables e below (s₁.setTop (mkF m 0 #[.val (.ref a1), .val (.int (0 : Int32)), .val (.int n)] [])) t → Steps p.tables e below (s₁.setTop (entryFrame m #[(.ref a1), (.int (0 : Int32)), (.int n)] 3)) t := fun t k => castTop (ef_25_e m a1 n) k
  obtain ⟨cl1, Ar1, q1, S1, M1, H1, G1⟩ := id V_b
  obtain ⟨T2, h2, X2, e2, E2, A2, B2, st2⟩ := cloneH X0 hx hZ hown (ww hw 211 rfl) (ww hw 212 rfl) (ww hw 216 rfl) (ww hw 214 rfl) (ww hw 215 rfl) (ww hw 217 rfl) e0 V_b.arh E_b (g := (mkF m 18 #[vR a1, vI 0, vI n] [iR a1])) rfl (by rw [hml]; rfl) rfl (hb hby d25_18) (by decide) (W := 0) (cap := 70) (wz rfl) (by decide) hm (by decide) (by decide)
  obtain ⟨b2, g2⟩ : ∃ z, z = h0.size := ⟨_, rfl⟩
  rw [← g2] at A2 B2 st2
  have ne_a1_b2 : a1 ≠ b2 := Nat.ne_of_lt (Nat.lt_of_lt_of_le V_b.lt (Nat.le_of_eq g2.symm))
  have sz_b2 : h0.size ≤ b2 := Nat.le_trans K0.1 (Nat.le_of_eq g2.symm)
  have g_b2 : n0 ≤ b2 := Nat.le_trans Z0 sz_b2
  have K2 : Keep h0 h2 [] := K0.ext E2
  have V2 : Arv Z h2 b2 kb .byte n (own_bs A) (.int (0 : Int32)) := A2
  obtain ⟨T3, X3, e3, st3⟩ := castY X2 hx hZ hown (ww hw 218 rfl) e2 (Ins.self B2) (g := (mkF m 21 #[vR a1, vI 0, vI n] [iR b2])) rfl rfl (hb hby d25_21)
  obtain ⟨fs, hr, hrun, hended, hW, hsame⟩ := X3.leave (v := some (.ref b2)) (fun h => by rw [Bd.returns] at h; cases h)
  refine ⟨_, _, pre0 _ ?_, hrun, hended, _, _, rfl, ?_, ⟨_, rfl⟩, hW, hsame.mono (by decide) (by decide)⟩
  · show SA s₁ m 0 #[vR a1, vI 0, vI n] []
    refine XS.iloadN X0.here hx rfl (hb hby d25_0) rfl ?_
    show SA s₁ m 1 #[vR a1, vI 0, vI n] [iI 0]
    refine XS.ifNo X0.here hx rfl (hb hby d25_1) rfl ((if0 _ _).trans (teq (by decide : (0 : Int32) = (0 : Int32))).2) ?_
    show SA s₁ m 4 #[vR a1, vI 0, vI n] []
    refine XS.iloadN X0.here hx rfl (hb hby d25_4) rfl ?_
    show SA s₁ m 5 #[vR a1, vI 0, vI n] [iI n]
    refine XS.aloadN X0.here hx rfl (hb hby d25_5) rfl rfl ?_
    show SA s₁ m 6 #[vR a1, vI 0, vI n] [iR a1, iI n]
    refine X0.arraylength hx (by rw [e0]; exact Ar1.1) (State.isArrayOf_alike hZ.alike Ar1.2.1) (g := (mkF m 6 #[vR a1, vI 0, vI n] [iR a1, iI n])) rfl rfl (hb hby d25_6) _ ?_
    rw [len_of S1 M1]
    show SA s₁ m 7 #[vR a1, vI 0, vI n] [iI n, iI n]
    refine XS.icmpYes X0.here hx rfl (pc0 := 7) (pc' := 17) rfl (hb hby d25_7) rfl (teq (rfl : n = n)).1 (by decide) (by decide) ?_
    show SA s₁ m 17 #[vR a1, vI 0, vI n] []
    refine XS.aloadN X0.here hx rfl (hb hby d25_17) rfl rfl ?_
    show SA s₁ m 18 #[vR a1, vI 0, vI n] [iR a1]
    refine st2 _ ?_
    show SA T2 m 21 #[vR a1, vI 0, vI n] [iR b2]
    refine st3 _ ?_
    show Steps _ _ _ (T3.setTop (mkF m 24 #[vR a1, vI 0, vI n] [iR b2])) _
    jvm_step X3.here [X3.here.top, hx, (hb hby d25_24), X3.method', Bd.returns, Value.isRef, FieldType.isReference]
    first | (intro acts; rw [hr _ acts rfl rfl rfl]) | rw [hr _ _ rfl rfl rfl]
    exact Steps.refl _
  · show Q25_e Z a1 kb n A h0 n0 _ T3.heap _
    rw [e3]
    exact ⟨_, _, rfl, N0, K2, V2, sz_b2⟩
def Q25_u (Z : State) (a1 : Addr) (kb : ClassId) (cap n : Int32) (A : List Int32) (h0 : Heap) (n0 : Nat) (v : Option Value) (h : Heap) (L : List Loc) : Prop := ∃ (o : Addr) (ko : ClassId), v = some (.ref o) ∧ Fr n0 L ∧ Keep h0 h [] ∧ Arv Z h o ko .byte n (own_bs A) (.int (0 : Int32)) ∧ h0.size ≤ o
theorem rm25_u (l : Launch) (Z : State) (a0 : Array Value) (hw : ∀ d ∈ tables_1, d.before a0 Z = true) (ws : List Jvm.Cond) (a1 : Addr) (kb : ClassId) (cap n : Int32) (A : List Int32) (h0 : Heap) (n0 : Nat) (Z0 : n0 ≤ h0.size) (V_b : Arv Z h0 a1 kb .byte cap (own_bs A) (.int (0 : Int32))) (E_b : Exa Z h0 a1 "[B") (hn : ¬ n < 0) (hl : ¬ cap < n) (hm : n.toNatClampNeg ≤ 70) (hA : n.toNatClampNeg = A.length) :
    MetFree l mn_15 (head1 (Jvm.Cond.code mn_15 jdk_65_method_132_code 3 (some (.array .byte)) :: ws) ({ frames := 2, cells := 1, slots := 70, locals := 34 } : Room)) (fun a U => a = #[(.ref a1), (.int (0 : Int32)), (.int n)] ∧ Z.Warmed39 U.vm ∧ U.heap = h0) (fun _ _ _ _ _ => True) (fun _ U o U' => ∃ v L, o = .returned v ∧ Q25_u Z a1 kb cap n A h0 n0 v U'.heap L ∧ FrameEnd U o U' L ({ frames := 2, cells := 1, slots := 70, locals := 34 } : Room).cells ({ frames := 2, cells := 1, slots := 70, locals := 34 } : Room).slots) := by
  by_cases q : cap = n
  · subst q
    exact rm25_e l Z a0 hw ws a1 kb _ A h0 n0 Z0 V_b E_b hm
  · refine rm25 l Z a0 hw ws a1 kb cap n A h0 n0 Z0 V_b hn ?_ hm hA
    have q' : ¬ cap.toInt = n.toInt := fun z => q (Int32.toInt_inj.mp z)
    rw [Int32.lt_iff_toInt_lt] at *
    omega
theorem d21_0 : decode jdk_68_method_64_code 0 = .ok (.aload_n 0, 1) := by decide +kernel
theorem d21_1 : decode jdk_68_method_64_code 1 = .ok (.getfield 15, 3) := by decide +kernel
theorem d21_4 : decode jdk_68_method_64_code 4 = .ok (.areturn, 1) := by decide +kernel
theorem ef_21 (m : MethodId) (x0 : Addr) : entryFrame m #[(.ref x0)] 1 = mkF m 0 #[.val (.ref x0)] [] := by first | (simp [entryFrame, mkF, argsToLocals, Value.category]; done) | rfl
def Q21 (Z : State) (a1 : Addr) (b : Addr) (h0 : Heap) (v : Option Value) (h : Heap) (L : List Loc) : Prop := v = some (.ref b) ∧ L = [] ∧ h = h0
theorem rm21 (l : Launch) (Z : State) (a0 : Array Value) (hw : ∀ d ∈ tables_1, d.before a0 Z = true) (ws : List Jvm.Cond) (a1 : Addr) (b : Addr) (h0 : Heap) (F_v : Fld Z h0 a1 "java/lang/AbstractStringBuilder" "value" "[B" (.ref b)) :
    MetFree l mn_16 (head1 (Jvm.Cond.code mn_16 jdk_68_method_64_code 1 (some (.array .byte)) :: ws) ({ frames := 0, cells := 0, slots := 0, locals := 0 } : Room)) (fun a U => a = #[(.ref a1)] ∧ Z.Warmed39 U.vm ∧ U.heap = h0) (fun _ _ _ _ _ => True) (fun _ U o U' => ∃ v L, o = .returned v ∧ Q21 Z a1 b h0 v U'.heap L ∧ FrameEnd U o U' L ({ frames := 0, cells := 0, slots := 0, locals := 0 } : Room).cells ({ frames := 0, cells := 0, slots := 0, locals := 0 } : Room).slots) := by
  refine MetFree.of_bodySF (plainFor_of_name pn_1) hisR ?_
  intro p e s m args below meth c s₁ Bd hml0 hP hK
  obtain ⟨rfl, hZ, hh⟩ := hP
  have hx := Bd.exec
  have hby := Bd.bytes
  have hml : c.maxLocals = 1 := hml0
  have hown : s.vm.findClass "java/lang/AbstractStringBuilder" = some m.cls := findClass_of_methodNamed Bd.named
  have hnm := (name_of_methodNamed Bd.named Bd.method).1
  have X0 : Stand p l e ({ frames := 0, cells := 0, slots := 0, locals := 0 } : Room) s m #[(.ref a1)] below meth c s₁ [] 0 0 := Stand.of_body Bd
  have e0 : s₁.heap = h0 := by rw [← hh, Bd.state]; rfl
  have pre0 : ∀ t, Steps p.tables e below (s₁.setTop (mkF m 0 #[.val (.ref a1)] [])) t → Steps p.tables e below (s₁.setTop (entryFrame m #[(.ref a1)] 1)) t := fun t k => castTop (ef_21 m a1) k
  obtain ⟨T1, X1, e1, st1⟩ := getF X0 hx hZ hown (host := "") (Or.inl (ww hw 28 rfl)) Via.refl e0 F_v (g := (mkF m 1 #[vR a1] [iR a1])) rfl rfl (hb hby d21_1)
  obtain ⟨fs, hr, hrun, hended, hW, hsame⟩ := X1.leave (v := some (.ref b)) (fun h => by rw [Bd.returns] at h; cases h)
  refine ⟨_, _, pre0 _ ?_, hrun, hended, _, _, rfl, ?_, ⟨_, rfl⟩, hW, hsame.mono (by decide) (by decide)⟩
  · show SA s₁ m 0 #[vR a1] []
    refine XS.aloadN X0.here hx rfl (hb hby d21_0) rfl rfl ?_
    show SA s₁ m 1 #[vR a1] [iR a1]
    refine st1 _ ?_
    show Steps _ _ _ (T1.setTop (mkF m 4 #[vR a1] [iR b])) _
    jvm_step X1.here [X1.here.top, hx, (hb hby d21_4), X1.method', Bd.returns, Value.isRef, FieldType.isReference]
    first | (intro acts; rw [hr _ acts rfl rfl rfl]) | rw [hr _ _ rfl rfl rfl]
    exact Steps.refl _
  · show Q21 Z a1 b h0 _ T1.heap _
    rw [e1]
    exact ⟨rfl, rfl, rfl⟩
theorem d23_0 : decode jdk_68_method_6_code 0 = .ok (.aload_n 0, 1) := by decide +kernel
theorem d23_1 : decode jdk_68_method_6_code 1 = .ok (.getfield 79, 3) := by decide +kernel
theorem d23_4 : decode jdk_68_method_6_code 4 = .ok (.ireturn, 1) := by decide +kernel
theorem ef_23 (m : MethodId) (x0 : Addr) : entryFrame m #[(.ref x0)] 1 = mkF m 0 #[.val (.ref x0)] [] := by first | (simp [entryFrame, mkF, argsToLocals, Value.category]; done) | rfl
def Q23 (Z : State) (a1 : Addr) (n : Int32) (h0 : Heap) (v : Option Value) (h : Heap) (L : List Loc) : Prop := v = some (.int n) ∧ L = [] ∧ h = h0
theorem rm23 (l : Launch) (Z : State) (a0 : Array Value) (hw : ∀ d ∈ tables_1, d.before a0 Z = true) (ws : List Jvm.Cond) (a1 : Addr) (n : Int32) (h0 : Heap) (F_n : Fld Z h0 a1 "java/lang/AbstractStringBuilder" "count" "I" (.int n)) :
    MetFree l mn_17 (head1 (Jvm.Cond.code mn_17 jdk_68_method_6_code 1 (some .int) :: ws) ({ frames := 0, cells := 0, slots := 0, locals := 0 } : Room)) (fun a U => a = #[(.ref a1)] ∧ Z.Warmed39 U.vm ∧ U.heap = h0) (fun _ _ _ _ _ => True) (fun _ U o U' => ∃ v L, o = .returned v ∧ Q23 Z a1 n h0 v U'.heap L ∧ FrameEnd U o U' L ({ frames := 0, cells := 0, slots := 0, locals := 0 } : Room).cells ({ frames := 0, cells := 0, slots := 0, locals := 0 } : Room).slots) := by
  refine MetFree.of_bodySF (plainFor_of_name pn_1) hisR ?_
  intro p e s m args below meth c s₁ Bd hml0 hP hK
  obtain ⟨rfl, hZ, hh⟩ := hP
  have hx := Bd.exec
  have hby := Bd.bytes
  have hml : c.maxLocals = 1 := hml0
  have hown : s.vm.findClass "java/lang/AbstractStringBuilder" = some m.cls := findClass_of_methodNamed Bd.named
  have hnm := (name_of_methodNamed Bd.named Bd.method).1
  have X0 : Stand p l e ({ frames := 0, cells := 0, slots := 0, locals := 0 } : Room) s m #[(.ref a1)] below meth c s₁ [] 0 0 := Stand.of_body Bd
  have e0 : s₁.heap = h0 := by rw [← hh, Bd.state]; rfl
  have pre0 : ∀ t, Steps p.tables e below (s₁.setTop (mkF m 0 #[.val (.ref a1)] [])) t → Steps p.tables e below (s₁.setTop (entryFrame m #[(.ref a1)] 1)) t := fun t k => castTop (ef_23 m a1) k
  obtain ⟨T1, X1, e1, st1⟩ := getF X0 hx hZ hown (host := "") (Or.inl (ww hw 55 rfl)) Via.refl e0 F_n (g := (mkF m 1 #[vR a1] [iR a1])) rfl rfl (hb hby d23_1)
  obtain ⟨fs, hr, hrun, hended, hW, hsame⟩ := X1.leave (v := some (.int n)) (fun h => by rw [Bd.returns] at h; cases h)
  refine ⟨_, _, pre0 _ ?_, hrun, hended, _, _, rfl, ?_, ⟨_, rfl⟩, hW, hsame.mono (by decide) (by decide)⟩
  · show SA s₁ m 0 #[vR a1] []
    refine XS.aloadN X0.here hx rfl (hb hby d23_0) rfl rfl ?_
    show SA s₁ m 1 #[vR a1] [iR a1]
    refine st1 _ ?_
    show Steps _ _ _ (T1.setTop (mkF m 4 #[vR a1] [iI n])) _
    exact retI X1 hx Bd.returns (hb hby d23_4) hr
  · show Q23 Z a1 n h0 _ T1.heap _
    rw [e1]
    exact ⟨rfl, rfl, rfl⟩
theorem d22_0 : decode jdk_67_method_93_code 0 = .ok (.aload_n 0, 1) := by decide +kernel
theorem d22_1 : decode jdk_67_method_93_code 1 = .ok (.invokespecial 343, 3) := by decide +kernel
theorem d22_4 : decode jdk_67_method_93_code 4 = .ok (.ireturn, 1) := by decide +kernel
theorem ef_22 (m : MethodId) (x0 : Addr) : entryFrame m #[(.ref x0)] 1 = mkF m 0 #[.val (.ref x0)] [] := by first | (simp [entryFrame, mkF, argsToLocals, Value.category]; done) | rfl
def Q22 (Z : State) (a1 : Addr) (n : Int32) (h0 : Heap) (v : Option Value) (h : Heap) (L : List Loc) : Prop := v = some (.int n) ∧ L = [] ∧ h = h0
theorem rm22 (l : Launch) (Z : State) (a0 : Array Value) (hw : ∀ d ∈ tables_1, d.before a0 Z = true) (ws : List Jvm.Cond) (a1 : Addr) (n : Int32) (h0 : Heap) (E_a1 : Exa Z h0 a1 "java/lang/StringBuilder") (F_n : Fld Z h0 a1 "java/lang/AbstractStringBuilder" "count" "I" (.int n)) :
    MetFree l mn_18 (head1 (Jvm.Cond.code mn_18 jdk_67_method_93_code 1 (some .int) :: ws) ({ frames := 1, cells := 0, slots := 0, locals := 12 } : Room)) (fun a U => a = #[(.ref a1)] ∧ Z.Warmed39 U.vm ∧ U.heap = h0) (fun _ _ _ _ _ => True) (fun _ U o U' => ∃ v L, o = .returned v ∧ Q22 Z a1 n h0 v U'.heap L ∧ FrameEnd U o U' L ({ frames := 1, cells := 0, slots := 0, locals := 12 } : Room).cells ({ frames := 1, cells := 0, slots := 0, locals := 12 } : Room).slots) := by
  refine MetFree.of_bodySF (plainFor_of_name pn_4) hisR ?_
  intro p e s m args below meth c s₁ Bd hml0 hP hK
  obtain ⟨rfl, hZ, hh⟩ := hP
  have hx := Bd.exec
  have hby := Bd.bytes
  have hml : c.maxLocals = 1 := hml0
  have hown : s.vm.findClass "java/lang/StringBuilder" = some m.cls := findClass_of_methodNamed Bd.named
  have hnm := (name_of_methodNamed Bd.named Bd.method).1
  have X0 : Stand p l e ({ frames := 1, cells := 0, slots := 0, locals := 12 } : Room) s m #[(.ref a1)] below meth c s₁ [] 0 0 := Stand.of_body Bd
  have e0 : s₁.heap = h0 := by rw [← hh, Bd.state]; rfl
  have pre0 : ∀ t, Steps p.tables e below (s₁.setTop (mkF m 0 #[.val (.ref a1)] [])) t → Steps p.tables e below (s₁.setTop (entryFrame m #[(.ref a1)] 1)) t := fun t k => castTop (ef_22 m a1) k
  obtain ⟨_, _, ⟨T1, L1, k1, n1⟩, -, X1, ⟨Lc1, hQ1, l1, y1, z1⟩, st1⟩ := superBack X0 hx hZ (y := mn_17) hown (ww hw 133 rfl) (own_same (ww hw 129 rfl) (own_nf (z := mn_4) rfl (notFace_of_selects (ww hw 60 rfl)) (ww hw 58 rfl)) (by decide)) (ww hw 129 rfl) (ww hw 39 rfl) (by decide) (backOf (W := 0) (rm23 l Z a0 hw [] a1 n h0 F_n) hZ (ww hw 134 rfl) (ww hw 22 rfl) (by decide) (by decide)) e0 (Ins.self E_a1) (g := (mkF m 1 #[vR a1] [iR a1])) rfl (by rw [hml]; rfl) (ww hw 134 rfl) (argsL := []) (rest := []) (lenOf pd_7 rfl) rfl (wz rfl) (hb hby d22_1) (fun _ _ => ⟨rfl, e0, (by decide : 0 + 0 ≤ _), (by decide : 0 + 0 ≤ _)⟩)
  dsimp only [Pt.U, Pt.locs, Pt.cells, Pt.slots] at X1 l1 y1 z1 st1 hQ1
  subst l1 y1 z1
  obtain ⟨rfl, rfl, e1⟩ := hQ1
  try rw [List.append_nil] at X1
  obtain ⟨fs, hr, hrun, hended, hW, hsame⟩ := X1.leave (v := some (.int n)) (fun h => by rw [Bd.returns] at h; cases h)
  refine ⟨_, _, pre0 _ ?_, hrun, hended, _, _, rfl, ?_, ⟨_, rfl⟩, hW, hsame.mono (by decide) (by decide)⟩
  · show SA s₁ m 0 #[vR a1] []
    refine XS.aloadN X0.here hx rfl (hb hby d22_0) rfl rfl ?_
    show SA s₁ m 1 #[vR a1] [iR a1]
    refine st1.trans ?_
    show Steps _ _ _ (T1.setTop (mkF m 4 #[vR a1] [iI n])) _
    exact retI X1 hx Bd.returns (hb hby d22_4) hr
  · show Q22 Z a1 n h0 _ T1.heap _
    rw [e1]
    exact ⟨rfl, rfl, rfl⟩
theorem d24_0 : decode jdk_68_method_68_code 0 = .ok (.getstatic 18, 3) := by decide +kernel
theorem d24_3 : decode jdk_68_method_68_code 3 = .ok (.ifCond .eq 14, 3) := by decide +kernel
theorem d24_6 : decode jdk_68_method_68_code 6 = .ok (.aload_n 0, 1) := by decide +kernel
theorem d24_7 : decode jdk_68_method_68_code 7 = .ok (.getfield 22, 3) := by decide +kernel
theorem d24_10 : decode jdk_68_method_68_code 10 = .ok (.ifCond .ne 7, 3) := by decide +kernel
theorem d24_13 : decode jdk_68_method_68_code 13 = .ok (.iconst 1, 1) := by decide +kernel
theorem d24_14 : decode jdk_68_method_68_code 14 = .ok (.goto 4, 3) := by decide +kernel
theorem d24_18 : decode jdk_68_method_68_code 18 = .ok (.ireturn, 1) := by decide +kernel
theorem ef_24 (m : MethodId) (x0 : Addr) : entryFrame m #[(.ref x0)] 1 = mkF m 0 #[.val (.ref x0)] [] := by first | (simp [entryFrame, mkF, argsToLocals, Value.category]; done) | rfl
def Q24 (Z : State) (a1 : Addr) (cs : Int32) (h0 : Heap) (v : Option Value) (h : Heap) (L : List Loc) : Prop := v = some (.int (1 : Int32)) ∧ L = [] ∧ h = h0
theorem rm24 (l : Launch) (Z : State) (a0 : Array Value) (hw : ∀ d ∈ tables_1, d.before a0 Z = true) (ws : List Jvm.Cond) (a1 : Addr) (cs : Int32) (h0 : Heap) (n0 : Nat) (O0 : Old Z n0 h0) (F_c : Fld Z h0 a1 "java/lang/AbstractStringBuilder" "coder" "B" (.int (0 : Int32))) (S_CS : Sta Z Z.heap "java/lang/String" "COMPACT_STRINGS" "Z" (.int cs)) (h_cs : ¬ cs = (0 : Int32)) :
    MetFree l mn_19 (head1 (Jvm.Cond.code mn_19 jdk_68_method_68_code 1 (some .boolean) :: ws) ({ frames := 0, cells := 0, slots := 0, locals := 0 } : Room)) (fun a U => a = #[(.ref a1)] ∧ Z.Warmed39 U.vm ∧ U.heap = h0) (fun _ _ _ _ _ => True) (fun _ U o U' => ∃ v L, o = .returned v ∧ Q24 Z a1 cs h0 v U'.heap L ∧ FrameEnd U o U' L ({ frames := 0, cells := 0, slots := 0, locals := 0 } : Room).cells ({ frames := 0, cells := 0, slots := 0, locals := 0 } : Room).slots) := by
  refine MetFree.of_bodySF (plainFor_of_name pn_1) hisR ?_
  intro p e s m args below meth c s₁ Bd hml0 hP hK
  obtain ⟨rfl, hZ, hh⟩ := hP
  have hx := Bd.exec
  have hby := Bd.bytes
  have hml : c.maxLocals = 1 := hml0
  have hown : s.vm.findClass "java/lang/AbstractStringBuilder" = some m.cls := findClass_of_methodNamed Bd.named
  have hnm := (name_of_methodNamed Bd.named Bd.method).1
  have X0 : Stand p l e ({ frames := 0, cells := 0, slots := 0, locals := 0 } : Room) s m #[(.ref a1)] below meth c s₁ [] 0 0 := Stand.of_body Bd
  have e0 : s₁.heap = h0 := by rw [← hh, Bd.state]; rfl
  have pre0 : ∀ t, Steps p.tables e below (s₁.setTop (mkF m 0 #[.val (.ref a1)] [])) t → Steps p.tables e below (s₁.setTop (entryFrame m #[(.ref a1)] 1)) t := fun t k => castTop (ef_24 m a1) k
  obtain ⟨T1, X1, e1, st1⟩ := getS2 X0 hx hZ hown (host := "") (Or.inl (ww hw 27 rfl)) Via.refl e0 (S_CS.ext O0.2) (g := (mkF m 0 #[vR a1] [])) rfl (hb hby d24_0)
  obtain ⟨T2, X2, e2, st2⟩ := getF X1 hx hZ hown (host := "") (Or.inl (ww hw 30 rfl)) Via.refl e1 F_c (g := (mkF m 7 #[vR a1] [iR a1])) rfl rfl (hb hby d24_7)
  obtain ⟨fs, hr, hrun, hended, hW, hsame⟩ := X2.leave (v := some (.int (1 : Int32))) (fun h => by rw [Bd.returns] at h; cases h)
  refine ⟨_, _, pre0 _ ?_, hrun, hended, _, _, rfl, ?_, ⟨_, rfl⟩, hW, hsame.mono (by decide) (by decide)⟩
  · show SA s₁ m 0 #[vR a1] []
    refine st1 _ ?_
    show SA T1 m 3 #[vR a1] [iI cs]
    refine XS.ifNo X1.here hx rfl (hb hby d24_3) rfl ((if0 _ _).trans (feq h_cs).1) ?_
    show SA T1 m 6 #[vR a1] []
    refine XS.aloadN X1.here hx rfl (hb hby d24_6) rfl rfl ?_
    show SA T1 m 7 #[vR a1] [iR a1]
    refine st2 _ ?_
    show SA T2 m 10 #[vR a1] [iI 0]
    refine XS.ifNo X2.here hx rfl (hb hby d24_10) rfl ((if0 _ _).trans (teq (by decide : (0 : Int32) = (0 : Int32))).2) ?_
    show SA T2 m 13 #[vR a1] []
    refine XS.iconst X2.here hx rfl (hb hby d24_13) ?_
    show SA T2 m 14 #[vR a1] [iI 1]
    refine XS.goto X2.here hx rfl (pc0 := 14) (pc' := 18) rfl (hb hby d24_14) (by decide) (by decide) ?_
    show Steps _ _ _ (T2.setTop (mkF m 18 #[vR a1] [iI 1])) _
    exact retN X2 hx (t := .boolean) Bd.returns (by simp) (hb hby d24_18) hr
  · show Q24 Z a1 cs h0 _ T2.heap _
    rw [e2]
    exact ⟨rfl, rfl, rfl⟩
theorem d20_0 : decode jdk_42_method_150_code 0 = .ok (.aload_n 0, 1) := by decide +kernel
theorem d20_1 : decode jdk_42_method_150_code 1 = .ok (.invokespecial 1, 3) := by decide +kernel
theorem d20_4 : decode jdk_42_method_150_code 4 = .ok (.aload_n 1, 1) := by decide +kernel
theorem d20_5 : decode jdk_42_method_150_code 5 = .ok (.invokevirtual 552, 3) := by decide +kernel
theorem d20_8 : decode jdk_42_method_150_code 8 = .ok (.astore_n 3, 1) := by decide +kernel
theorem d20_9 : decode jdk_42_method_150_code 9 = .ok (.aload_n 1, 1) := by decide +kernel
theorem d20_10 : decode jdk_42_method_150_code 10 = .ok (.invokevirtual 549, 3) := by decide +kernel
theorem d20_13 : decode jdk_42_method_150_code 13 = .ok (.istore 4, 2) := by decide +kernel
theorem d20_15 : decode jdk_42_method_150_code 15 = .ok (.aload_n 1, 1) := by decide +kernel
theorem d20_16 : decode jdk_42_method_150_code 16 = .ok (.invokevirtual 1047, 3) := by decide +kernel
theorem d20_19 : decode jdk_42_method_150_code 19 = .ok (.ifCond .eq 22, 3) := by decide +kernel
theorem d20_22 : decode jdk_42_method_150_code 22 = .ok (.aload_n 0, 1) := by decide +kernel
theorem d20_23 : decode jdk_42_method_150_code 23 = .ok (.iconst 0, 1) := by decide +kernel
theorem d20_24 : decode jdk_42_method_150_code 24 = .ok (.putfield 15, 3) := by decide +kernel
theorem d20_27 : decode jdk_42_method_150_code 27 = .ok (.aload_n 0, 1) := by decide +kernel
theorem d20_28 : decode jdk_42_method_150_code 28 = .ok (.aload_n 3, 1) := by decide +kernel
theorem d20_29 : decode jdk_42_method_150_code 29 = .ok (.iconst 0, 1) := by decide +kernel
theorem d20_30 : decode jdk_42_method_150_code 30 = .ok (.iload 4, 2) := by decide +kernel
theorem d20_32 : decode jdk_42_method_150_code 32 = .ok (.invokestatic 54, 3) := by decide +kernel
theorem d20_35 : decode jdk_42_method_150_code 35 = .ok (.putfield 9, 3) := by decide +kernel
theorem d20_38 : decode jdk_42_method_150_code 38 = .ok (.goto 59, 3) := by decide +kernel
theorem d20_97 : decode jdk_42_method_150_code 97 = .ok (.return_, 1) := by decide +kernel
theorem ef_20 (m : MethodId) (x0 : Addr) (x1 : Addr) : entryFrame m #[(.ref x0), (.ref x1), .null] 5 = mkF m 0 #[.val (.ref x0), .val (.ref x1), .val .null, .unset, .unset] [] := by first | (simp [entryFrame, mkF, argsToLocals, Value.category]; done) | rfl
def Q20 (Z : State) (a1 : Addr) (a2 : Addr) (b : Addr) (kb : ClassId) (cap : Int32) (A : List Int32) (n : Int32) (cs : Int32) (h0 : Heap) (n0 : Nat) (v : Option Value) (h : Heap) (L : List Loc) : Prop := ∃ (o : Addr) (ko : ClassId), v = none ∧ Fr n0 L ∧ Keep h0 h [a1] ∧ Exa Z h a1 "java/lang/String" ∧ Fld Z h a1 "java/lang/String" "coder" "B" (.int (0 : Int32)) ∧ Fld Z h a1 "java/lang/String" "value" "[B" (.ref o) ∧ Arv Z h o ko .byte n (own_bs A) (.int (0 : Int32)) ∧ h0.size ≤ o
theorem rm20 (l : Launch) (Z : State) (a0 : Array Value) (hw : ∀ d ∈ tables_1, d.before a0 Z = true) (ws : List Jvm.Cond) (a1 : Addr) (a2 : Addr) (b : Addr) (kb : ClassId) (cap : Int32) (A : List Int32) (n : Int32) (cs : Int32) (h0 : Heap) (n0 : Nat) (Z0 : n0 ≤ h0.size) (O0 : Old Z n0 h0) (E_a1 : Exa Z h0 a1 "java/lang/String") (g_a1 : n0 ≤ a1) (H_v : Fld Z h0 a1 "java/lang/String" "value" "[B" .null) (H_c : Fld Z h0 a1 "java/lang/String" "coder" "B" (.int (0 : Int32))) (ne_a1_a2 : a1 ≠ a2) (ne_a1_b : a1 ≠ b) (E_a2 : Exa Z h0 a2 "java/lang/StringBuilder") (Gv_a2 : Fld Z h0 a2 "java/lang/AbstractStringBuilder" "value" "[B" (.ref b)) (Gc_a2 : Fld Z h0 a2 "java/lang/AbstractStringBuilder" "coder" "B" (.int (0 : Int32))) (V_b : Arv Z h0 b kb .byte cap (own_bs A) (.int (0 : Int32))) (Gn_a2 : Fld Z h0 a2 "java/lang/AbstractStringBuilder" "count" "I" (.int n)) (hn : ¬ n < 0) (hl : ¬ cap < n) (hm : n.toNatClampNeg ≤ 70) (hA : n.toNatClampNeg = A.length) (E_b : Exa Z h0 b "[B") (S_CS : Sta Z Z.heap "java/lang/String" "COMPACT_STRINGS" "Z" (.int cs)) (h_cs : ¬ cs = (0 : Int32)) :
    MetFree l mn_20 (head1 (Jvm.Cond.code mn_20 jdk_42_method_150_code 5 none :: ws) ({ frames := 3, cells := 1, slots := 70, locals := 49 } : Room)) (fun a U => a = #[(.ref a1), (.ref a2), .null] ∧ Z.Warmed39 U.vm ∧ U.heap = h0) (fun _ _ _ _ _ => True) (fun _ U o U' => ∃ v L, o = .returned v ∧ Q20 Z a1 a2 b kb cap A n cs h0 n0 v U'.heap L ∧ FrameEnd U o U' L ({ frames := 3, cells := 1, slots := 70, locals := 49 } : Room).cells ({ frames := 3, cells := 1, slots := 70, locals := 49 } : Room).slots) := by
  refine MetFree.of_bodySF (plainFor_of_name pn_0) hisR ?_
  intro p e s m args below meth c s₁ Bd hml0 hP hK
  obtain ⟨rfl, hZ, hh⟩ := hP
  have hx := Bd.exec
  have hby := Bd.bytes
  have hml : c.maxLocals = 5 := hml0
  have hown : s.vm.findClass "java/lang/String" = some m.cls := findClass_of_methodNamed Bd.named
  have hnm := (name_of_methodNamed Bd.named Bd.method).1
  have X0 : Stand p l e ({ frames := 3, cells := 1, slots := 70, locals := 49 } : Room) s m #[(.ref a1), (.ref a2), .null] below meth c s₁ [] 0 0 := Stand.of_body Bd
  have e0 : s₁.heap = h0 := by rw [← hh, Bd.state]; rfl
  have N0 := Fr.nil n0
  have K0 := Keep.refl h0 [a1]
  have pre0 : ∀ t, Steps p.tables e below (s₁.setTop (mkF m 0 #[.val (.ref a1), .val (.ref a2), .val .null, .unset, .unset] [])) t → Steps p.tables e below (s₁.setTop (entryFrame m #[(.ref a1), (.ref a2), .null] 5)) t := fun t k => castTop (ef_20 m a1 a2) k
  obtain ⟨T1, X1, e1, st1⟩ := initO X0 hx hZ hown (ww hw 121 rfl) (ww hw 25 rfl) (ww hw 26 rfl) e0 (g := (mkF m 1 #[vR a1, vR a2, .val .null, .unset, .unset] [iR a1])) rfl (by rw [hml]; rfl) rfl (hb hby d20_1) (by decide) (W := 0) (wz rfl) (by decide)
  obtain ⟨cq2, kq2, q2a, q2b, q2c⟩ := isOf hZ e1 E_a2
  obtain ⟨_, _, ⟨T2, L2, k2, n2⟩, -, X2, ⟨Lc2, hQ2, l2, y2, z2⟩, st2⟩ := X1.virtualBack hx (y := mn_16) (z := mn_16) hown (mvT hZ (ww hw 122 rfl)) (mvT hZ (ww hw 123 rfl)) (notFace_of_selects (args := #[]) (mvT hZ (ww hw 125 rfl))) (mvT hZ (ww hw 125 rfl)) (mvT hZ (ww hw 124 rfl)) (by decide) (backOf (W := 0) (rm21 l Z a0 hw [] a2 b h0 Gv_a2) hZ (ww hw 126 rfl) (ww hw 22 rfl) (by decide) (by decide)) q2a q2c (g := (mkF m 5 #[vR a1, vR a2, .val .null, .unset, .unset] [iR a2])) rfl (by rw [hml]; rfl) (Steps.refl _) (argsL := []) (rest := []) (lenOf pd_13 rfl) rfl (wz rfl) (hb hby d20_5) (fun _ _ => ⟨rfl, e1, (by decide : 0 + 0 ≤ _), (by decide : 0 + 0 ≤ _)⟩)
  dsimp only [Pt.U, Pt.locs, Pt.cells, Pt.slots] at X2 l2 y2 z2 st2 hQ2
  subst l2 y2 z2
  obtain ⟨rfl, rfl, e2⟩ := hQ2
  try rw [List.append_nil] at X2
  obtain ⟨cq3, kq3, q3a, q3b, q3c⟩ := isOf hZ e2 E_a2
  obtain ⟨_, _, ⟨T3, L3, k3, n3⟩, -, X3, ⟨Lc3, hQ3, l3, y3, z3⟩, st3⟩ := X2.virtualBack hx (y := mn_17) (z := mn_18) hown (mvT hZ (ww hw 127 rfl)) (mvT hZ (ww hw 128 rfl)) (own_nf (z := mn_4) rfl (notFace_of_selects (args := #[]) (mvT hZ (ww hw 60 rfl))) (mvT hZ (ww hw 58 rfl) (args := #[]))) (mvT hZ (ww hw 130 rfl)) (mvT hZ (ww hw 131 rfl)) (by decide) (backOf (W := 0) (rm22 l Z a0 hw [] a2 n h0 E_a2 Gn_a2) hZ (ww hw 132 rfl) (ww hw 14 rfl) (by decide) (by decide)) q3a q3c (g := (mkF m 10 #[vR a1, vR a2, .val .null, vR b, .unset] [iR a2])) rfl (by rw [hml]; rfl) (Steps.refl _) (argsL := []) (rest := []) (lenOf pd_7 rfl) rfl (wz rfl) (hb hby d20_10) (fun _ _ => ⟨rfl, e2, (by decide : 0 + 0 ≤ _), (by decide : 0 + 0 ≤ _)⟩)
  dsimp only [Pt.U, Pt.locs, Pt.cells, Pt.slots] at X3 l3 y3 z3 st3 hQ3
  subst l3 y3 z3
  obtain ⟨rfl, rfl, e3⟩ := hQ3
  try rw [List.append_nil] at X3
  obtain ⟨cq4, kq4, q4a, q4b, q4c⟩ := isOf hZ e3 E_a2
  obtain ⟨_, _, ⟨T4, L4, k4, n4⟩, -, X4, ⟨Lc4, hQ4, l4, y4, z4⟩, st4⟩ := X3.virtualBack hx (y := mn_19) (z := mn_19) hown (mvT hZ (ww hw 135 rfl)) (mvT hZ (ww hw 136 rfl)) (notFace_of_selects (args := #[]) (mvT hZ (ww hw 138 rfl))) (mvT hZ (ww hw 138 rfl)) (mvT hZ (ww hw 137 rfl)) (by decide) (backOf (W := 0) (rm24 l Z a0 hw [] a2 cs h0 n0 O0 Gc_a2 S_CS h_cs) hZ (ww hw 139 rfl) (ww hw 22 rfl) (by decide) (by decide)) q4a q4c (g := (mkF m 16 #[vR a1, vR a2, .val .null, vR b, vI n] [iR a2])) rfl (by rw [hml]; rfl) (Steps.refl _) (argsL := []) (rest := []) (lenOf pd_14 rfl) rfl (wz rfl) (hb hby d20_16) (fun _ _ => ⟨rfl, e3, (by decide : 0 + 0 ≤ _), (by decide : 0 + 0 ≤ _)⟩)
  dsimp only [Pt.U, Pt.locs, Pt.cells, Pt.slots] at X4 l4 y4 z4 st4 hQ4
  subst l4 y4 z4
  obtain ⟨rfl, rfl, e4⟩ := hQ4
  try rw [List.append_nil] at X4
  obtain ⟨T5, h5, X5, e5, W5, st5⟩ := putFN X4 hx hZ hown (ww hw 54 rfl) Via.refl e4 H_c E_a1 (Or.inr ⟨(ww hw 5 rfl), rfl, hnm⟩) (ww hw 2 rfl) (ty := .byte) (v' := (.int (0 : Int32))) (by decide) rfl (by decide) (g := (mkF m 24 #[vR a1, vR a2, .val .null, vR b, vI n] [iI 0, iR a1])) rfl rfl (hb hby d20_24)
  have Fw5 := H_c.same W5
  have K5 : Keep h0 h5 [a1] := K0.wr W5 (Or.inl (List.mem_of_getElem? (i := 0) rfl))
  have N5 := Fr.snoc X5 N0 g_a1
  have fk7 := (V_b.other W5 (Ne.symm ne_a1_b))
  have fk8 := (E_b.wr W5)
  obtain ⟨_, _, ⟨T6, L6, k6, n6⟩, -, X6, ⟨Lc6, hQ6, l6, y6, z6⟩, st6⟩ := Jvm.LawKit.callS X5 hx (y := mn_15) hown (mvT hZ (ww hw 140 rfl)) (mvT hZ (ww hw 141 rfl)) (mvT hZ (ww hw 101 rfl)) (mvT hZ (ww hw 142 rfl)) (by decide) (backOf (W := 1) (rm25_u l Z a0 hw [] b kb cap n A h5 n0 (Nat.le_trans Z0 K5.1) fk7 fk8 hn hl hm hA) hZ (ww hw 142 rfl) (ww hw 101 rfl) (by decide) (by decide)) (g := (mkF m 32 #[vR a1, vR a2, .val .null, vR b, vI n] [iI n, iI 0, iR b, iR a1])) rfl (by rw [hml]; rfl) (argsL := [(.ref b), (.int (0 : Int32)), (.int n)]) (rest := [(.ref a1)]) (lenOf pd_12 rfl) rfl (wz rfl) (hb hby d20_32) (fun _ _ => ⟨rfl, e5, (by decide : 0 + 1 ≤ _), (by decide : 0 + 70 ≤ _)⟩)
  dsimp only [Pt.U, Pt.locs, Pt.cells, Pt.slots] at X6 l6 y6 z6 st6 hQ6
  subst l6 y6 z6
  obtain ⟨d6, kd6, rfl, N6q, K6q, V6q, z_d6⟩ := hQ6
  have fk9 := (E_a1.wr W5)
  have fk10 := (E_a2.wr W5)
  have ne_a1_d6 : a1 ≠ d6 := Nat.ne_of_lt (Nat.lt_of_lt_of_le fk9.lt z_d6)
  have ne_a2_d6 : a2 ≠ d6 := Nat.ne_of_lt (Nat.lt_of_lt_of_le fk10.lt z_d6)
  have ne_b_d6 : b ≠ d6 := Nat.ne_of_lt (Nat.lt_of_lt_of_le fk7.lt z_d6)
  have sz_d6 : h0.size ≤ d6 := Nat.le_trans K5.1 z_d6
  have g_d6 : n0 ≤ d6 := Nat.le_trans Z0 sz_d6
  have N6 := Fr.app N5 N6q
  have K6 : Keep h0 T6.heap [a1] := Keep.trans K5 K6q all0
  have fk11 := ((H_v.other W5 (Or.inr (slot_ne (Or.inr (ww hw 4 rfl)) (Or.inr (ww hw 5 rfl)) (by decide) (t := (.array .byte)) (t' := .byte) (by decide) (by decide)))).keep K6q nin0)
  have fk12 := (fk9.keep K6q)
  obtain ⟨T13, h13, X13, e13, W13, st13⟩ := putF X6 hx hZ hown (host := "") (Or.inl (ww hw 47 rfl)) Via.refl rfl fk11 fk12 (Or.inr ⟨(ww hw 4 rfl), rfl, hnm⟩) (ww hw 2 rfl) (ty := (.array .byte)) (by decide) rfl rfl (g := (mkF m 35 #[vR a1, vR a2, .val .null, vR b, vI n] [iR d6, iR a1])) rfl rfl (hb hby d20_35)
  have Fw13 := fk11.same W13
  have K13 : Keep h0 h13 [a1] := K6.wr W13 (Or.inl (List.mem_of_getElem? (i := 0) rfl))
  have N13 := Fr.snoc X13 N6 g_a1
  obtain ⟨fs, hr, hrun, hended, hW, hsame⟩ := X13.leave (v := none) (fun _ => rfl)
  have fk14 := (fk12.wr W13)
  have fk15 := ((Fw5.keep K6q nin0).other W13 (Or.inr (slot_ne (Or.inr (ww hw 5 rfl)) (Or.inr (ww hw 4 rfl)) (by decide) (t := .byte) (t' := (.array .byte)) (by decide) (by decide))))
  have fk16 := (V6q.other W13 (Ne.symm ne_a1_d6))
  refine ⟨_, _, pre0 _ ?_, hrun, hended, _, _, rfl, ?_, ⟨_, rfl⟩, hW, hsame.mono (by decide) (by decide)⟩
  · show SA s₁ m 0 #[vR a1, vR a2, .val .null, .unset, .unset] []
    refine XS.aloadN X0.here hx rfl (hb hby d20_0) rfl rfl ?_
    show SA s₁ m 1 #[vR a1, vR a2, .val .null, .unset, .unset] [iR a1]
    refine st1 _ ?_
    show SA T1 m 4 #[vR a1, vR a2, .val .null, .unset, .unset] []
    refine XS.aloadN X1.here hx rfl (hb hby d20_4) rfl rfl ?_
    show SA T1 m 5 #[vR a1, vR a2, .val .null, .unset, .unset] [iR a2]
    refine st2.trans ?_
    show SA T2 m 8 #[vR a1, vR a2, .val .null, .unset, .unset] [iR b]
    refine XS.astoreN X2.here hx rfl (hb hby d20_8) rfl rfl (l' := #[vR a1, vR a2, .val .null, vR b, .unset]) rfl ?_
    show SA T2 m 9 #[vR a1, vR a2, .val .null, vR b, .unset] []
    refine XS.aloadN X2.here hx rfl (hb hby d20_9) rfl rfl ?_
    show SA T2 m 10 #[vR a1, vR a2, .val .null, vR b, .unset] [iR a2]
    refine st3.trans ?_
    show SA T3 m 13 #[vR a1, vR a2, .val .null, vR b, .unset] [iI n]
    refine XS.istore X3.here hx rfl (hb hby d20_13) rfl (l' := #[vR a1, vR a2, .val .null, vR b, vI n]) rfl ?_
    show SA T3 m 15 #[vR a1, vR a2, .val .null, vR b, vI n] []
    refine XS.aloadN X3.here hx rfl (hb hby d20_15) rfl rfl ?_
    show SA T3 m 16 #[vR a1, vR a2, .val .null, vR b, vI n] [iR a2]
    refine st4.trans ?_
    show SA T4 m 19 #[vR a1, vR a2, .val .null, vR b, vI n] [iI 1]
    refine XS.ifNo X4.here hx rfl (hb hby d20_19) rfl ((if0 _ _).trans (feq (by decide : ¬ ((1 : Int32) = (0 : Int32)))).1) ?_
    show SA T4 m 22 #[vR a1, vR a2, .val .null, vR b, vI n] []
    refine XS.aloadN X4.here hx rfl (hb hby d20_22) rfl rfl ?_
    show SA T4 m 23 #[vR a1, vR a2, .val .null, vR b, vI n] [iR a1]
    refine XS.iconst X4.here hx rfl (hb hby d20_23) ?_
    show SA T4 m 24 #[vR a1, vR a2, .val .null, vR b, vI n] [iI 0, iR a1]
    refine st5 _ ?_
    show SA T5 m 27 #[vR a1, vR a2, .val .null, vR b, vI n] []
    refine XS.aloadN X5.here hx rfl (hb hby d20_27) rfl rfl ?_
    show SA T5 m 28 #[vR a1, vR a2, .val .null, vR b, vI n] [iR a1]
    refine XS.aloadN X5.here hx rfl (hb hby d20_28) rfl rfl ?_
    show SA T5 m 29 #[vR a1, vR a2, .val .null, vR b, vI n] [iR b, iR a1]
    refine XS.iconst X5.here hx rfl (hb hby d20_29) ?_
    show SA T5 m 30 #[vR a1, vR a2, .val .null, vR b, vI n] [iI 0, iR b, iR a1]
    refine XS.iload X5.here hx rfl (hb hby d20_30) rfl ?_
    show SA T5 m 32 #[vR a1, vR a2, .val .null, vR b, vI n] [iI n, iI 0, iR b, iR a1]
    refine st6 _ ?_
    show SA T6 m 35 #[vR a1, vR a2, .val .null, vR b, vI n] [iR d6, iR a1]
    refine st13 _ ?_
    show SA T13 m 38 #[vR a1, vR a2, .val .null, vR b, vI n] []
    refine XS.goto X13.here hx rfl (pc0 := 38) (pc' := 97) rfl (hb hby d20_38) (by decide) (by decide) ?_
    show Steps _ _ _ (T13.setTop (mkF m 97 #[vR a1, vR a2, .val .null, vR b, vI n] [])) _
    exact X13.returnOut hx Bd.returns (hb hby d20_97) hr
  · show Q20 Z a1 a2 b kb cap A n cs h0 n0 _ T13.heap _
    rw [e13]
    exact ⟨_, _, rfl, N13, K13, fk14, fk15, Fw13, fk16, sz_d6⟩
theorem d19_0 : decode jdk_42_method_53_code 0 = .ok (.aload_n 0, 1) := by decide +kernel
theorem d19_1 : decode jdk_42_method_53_code 1 = .ok (.aload_n 1, 1) := by decide +kernel
theorem d19_2 : decode jdk_42_method_53_code 2 = .ok (.aconst_null, 1) := by decide +kernel
theorem d19_3 : decode jdk_42_method_53_code 3 = .ok (.invokespecial 489, 3) := by decide +kernel
theorem d19_6 : decode jdk_42_method_53_code 6 = .ok (.return_, 1) := by decide +kernel
theorem ef_19 (m : MethodId) (x0 : Addr) (x1 : Addr) : entryFrame m #[(.ref x0), (.ref x1)] 2 = mkF m 0 #[.val (.ref x0), .val (.ref x1)] [] := by first | (simp [entryFrame, mkF, argsToLocals, Value.category]; done) | rfl
def Q19 (Z : State) (a1 : Addr) (a2 : Addr) (b : Addr) (kb : ClassId) (cap : Int32) (A : List Int32) (n : Int32) (cs : Int32) (h0 : Heap) (n0 : Nat) (v : Option Value) (h : Heap) (L : List Loc) : Prop := ∃ (o : Addr) (ko : ClassId), v = none ∧ Fr n0 L ∧ Keep h0 h [a1] ∧ Exa Z h a1 "java/lang/String" ∧ Fld Z h a1 "java/lang/String" "coder" "B" (.int (0 : Int32)) ∧ Fld Z h a1 "java/lang/String" "value" "[B" (.ref o) ∧ Arv Z h o ko .byte n (own_bs A) (.int (0 : Int32)) ∧ h0.size ≤ o
theorem rm19 (l : Launch) (Z : State) (a0 : Array Value) (hw : ∀ d ∈ tables_1, d.before a0 Z = true) (ws : List Jvm.Cond) (a1 : Addr) (a2 : Addr) (b : Addr) (kb : ClassId) (cap : Int32) (A : List Int32) (n : Int32) (cs : Int32) (h0 : Heap) (n0 : Nat) (Z0 : n0 ≤ h0.size) (O0 : Old Z n0 h0) (E_a1 : Exa Z h0 a1 "java/lang/String") (g_a1 : n0 ≤ a1) (H_v : Fld Z h0 a1 "java/lang/String" "value" "[B" .null) (H_c : Fld Z h0 a1 "java/lang/String" "coder" "B" (.int (0 : Int32))) (ne_a1_a2 : a1 ≠ a2) (ne_a1_b : a1 ≠ b) (E_a2 : Exa Z h0 a2 "java/lang/StringBuilder") (Gv_a2 : Fld Z h0 a2 "java/lang/AbstractStringBuilder" "value" "[B" (.ref b)) (Gc_a2 : Fld Z h0 a2 "java/lang/AbstractStringBuilder" "coder" "B" (.int (0 : Int32))) (V_b : Arv Z h0 b kb .byte cap (own_bs A) (.int (0 : Int32))) (Gn_a2 : Fld Z h0 a2 "java/lang/AbstractStringBuilder" "count" "I" (.int n)) (hn : ¬ n < 0) (hl : ¬ cap < n) (hm : n.toNatClampNeg ≤ 70) (hA : n.toNatClampNeg = A.length) (E_b : Exa Z h0 b "[B") (S_CS : Sta Z Z.heap "java/lang/String" "COMPACT_STRINGS" "Z" (.int cs)) (h_cs : ¬ cs = (0 : Int32)) :
    MetFree l mn_21 (head1 (Jvm.Cond.code mn_21 jdk_42_method_53_code 2 none :: ws) ({ frames := 4, cells := 1, slots := 70, locals := 65 } : Room)) (fun a U => a = #[(.ref a1), (.ref a2)] ∧ Z.Warmed39 U.vm ∧ U.heap = h0) (fun _ _ _ _ _ => True) (fun _ U o U' => ∃ v L, o = .returned v ∧ Q19 Z a1 a2 b kb cap A n cs h0 n0 v U'.heap L ∧ FrameEnd U o U' L ({ frames := 4, cells := 1, slots := 70, locals := 65 } : Room).cells ({ frames := 4, cells := 1, slots := 70, locals := 65 } : Room).slots) := by
  refine MetFree.of_bodySF (plainFor_of_name pn_0) hisR ?_
  intro p e s m args below meth c s₁ Bd hml0 hP hK
  obtain ⟨rfl, hZ, hh⟩ := hP
  have hx := Bd.exec
  have hby := Bd.bytes
  have hml : c.maxLocals = 2 := hml0
  have hown : s.vm.findClass "java/lang/String" = some m.cls := findClass_of_methodNamed Bd.named
  have hnm := (name_of_methodNamed Bd.named Bd.method).1
  have X0 : Stand p l e ({ frames := 4, cells := 1, slots := 70, locals := 65 } : Room) s m #[(.ref a1), (.ref a2)] below meth c s₁ [] 0 0 := Stand.of_body Bd
  have e0 : s₁.heap = h0 := by rw [← hh, Bd.state]; rfl
  have N0 := Fr.nil n0
  have K0 := Keep.refl h0 [a1]
  have pre0 : ∀ t, Steps p.tables e below (s₁.setTop (mkF m 0 #[.val (.ref a1), .val (.ref a2)] [])) t → Steps p.tables e below (s₁.setTop (entryFrame m #[(.ref a1), (.ref a2)] 2)) t := fun t k => castTop (ef_19 m a1 a2) k
  obtain ⟨_, _, ⟨T1, L1, k1, n1⟩, -, X1, ⟨Lc1, hQ1, l1, y1, z1⟩, st1⟩ := X0.specialBack hx (y := mn_20) rfl hown (mvT hZ (ww hw 118 rfl)) (mvT hZ (ww hw 119 rfl)) (mvT hZ (ww hw 120 rfl)) (by decide) (backOf (W := 0) (rm20 l Z a0 hw [] a1 a2 b kb cap A n cs h0 n0 (Nat.le_trans Z0 K0.1) O0 E_a1 g_a1 H_v H_c ne_a1_a2 ne_a1_b E_a2 Gv_a2 Gc_a2 V_b Gn_a2 hn hl hm hA E_b S_CS h_cs) hZ (ww hw 120 rfl) (ww hw 1 rfl) (by decide) (by decide)) (g := (mkF m 3 #[vR a1, vR a2] [.null, iR a2, iR a1])) rfl (by rw [hml]; rfl) (Steps.refl _) (a := a1) (argsL := [(.ref a2), .null]) (rest := []) (lenOf pd_15 rfl) rfl (wz rfl) (hb hby d19_3) (fun _ _ => ⟨rfl, e0, (by decide : 0 + 1 ≤ _), (by decide : 0 + 70 ≤ _)⟩)
  dsimp only [Pt.U, Pt.locs, Pt.cells, Pt.slots] at X1 l1 y1 z1 st1 hQ1
  subst l1 y1 z1
  obtain ⟨d1, kd1, rfl, N1q, K1q, E1q, C1q, F1q, V1q, z_d1⟩ := hQ1
  have ne_a1_d1 : a1 ≠ d1 := Nat.ne_of_lt (Nat.lt_of_lt_of_le E_a1.lt z_d1)
  have ne_a2_d1 : a2 ≠ d1 := Nat.ne_of_lt (Nat.lt_of_lt_of_le E_a2.lt z_d1)
  have ne_b_d1 : b ≠ d1 := Nat.ne_of_lt (Nat.lt_of_lt_of_le V_b.lt z_d1)
  have sz_d1 : h0.size ≤ d1 := Nat.le_trans K0.1 z_d1
  have g_d1 : n0 ≤ d1 := Nat.le_trans Z0 sz_d1
  have N1 := Fr.app N0 N1q
  have K1 : Keep h0 T1.heap [a1] := Keep.trans K0 K1q (allS (Or.inl (List.mem_of_getElem? (i := 0) rfl)) all0)
  obtain ⟨fs, hr, hrun, hended, hW, hsame⟩ := X1.leave (v := none) (fun _ => rfl)
  refine ⟨_, _, pre0 _ ?_, hrun, hended, _, _, rfl, ?_, ⟨_, rfl⟩, hW, hsame.mono (by decide) (by decide)⟩
  · show SA s₁ m 0 #[vR a1, vR a2] []
    refine XS.aloadN X0.here hx rfl (hb hby d19_0) rfl rfl ?_
    show SA s₁ m 1 #[vR a1, vR a2] [iR a1]
    refine XS.aloadN X0.here hx rfl (hb hby d19_1) rfl rfl ?_
    show SA s₁ m 2 #[vR a1, vR a2] [iR a2, iR a1]
    refine XS.aconstNull X0.here hx rfl (hb hby d19_2) ?_
    show SA s₁ m 3 #[vR a1, vR a2] [.null, iR a2, iR a1]
    refine st1.trans ?_
    show Steps _ _ _ (T1.setTop (mkF m 6 #[vR a1, vR a2] [])) _
    exact X1.returnOut hx Bd.returns (hb hby d19_6) hr
  · show Q19 Z a1 a2 b kb cap A n cs h0 n0 _ T1.heap _
    exact ⟨_, _, rfl, N1, K1, E1q, C1q, F1q, V1q, sz_d1⟩
theorem d18_0 : decode jdk_67_method_42_code 0 = .ok (.new 18, 3) := by decide +kernel
theorem d18_3 : decode jdk_67_method_42_code 3 = .ok (.dup, 1) := by decide +kernel
theorem d18_4 : decode jdk_67_method_42_code 4 = .ok (.aload_n 0, 1) := by decide +kernel
theorem d18_5 : decode jdk_67_method_42_code 5 = .ok (.invokespecial 137, 3) := by decide +kernel
theorem d18_8 : decode jdk_67_method_42_code 8 = .ok (.areturn, 1) := by decide +kernel
theorem ef_18 (m : MethodId) (x0 : Addr) : entryFrame m #[(.ref x0)] 1 = mkF m 0 #[.val (.ref x0)] [] := by first | (simp [entryFrame, mkF, argsToLocals, Value.category]; done) | rfl
def Q18 (Z : State) (a1 : Addr) (b : Addr) (kb : ClassId) (cap : Int32) (A : List Int32) (n : Int32) (cs : Int32) (h0 : Heap) (n0 : Nat) (v : Option Value) (h : Heap) (L : List Loc) : Prop := ∃ (o d : Addr) (ko : ClassId), v = some (.ref o) ∧ Fr n0 L ∧ Keep h0 h [] ∧ Exa Z h o "java/lang/String" ∧ Fld Z h o "java/lang/String" "coder" "B" (.int (0 : Int32)) ∧ Fld Z h o "java/lang/String" "value" "[B" (.ref d) ∧ Arv Z h d ko .byte n (own_bs A) (.int (0 : Int32)) ∧ h0.size ≤ o ∧ h0.size ≤ d
theorem rm18 (l : Launch) (Z : State) (a0 : Array Value) (hw : ∀ d ∈ tables_1, d.before a0 Z = true) (ws : List Jvm.Cond) (a1 : Addr) (b : Addr) (kb : ClassId) (cap : Int32) (A : List Int32) (n : Int32) (cs : Int32) (h0 : Heap) (n0 : Nat) (Z0 : n0 ≤ h0.size) (O0 : Old Z n0 h0) (E_a1 : Exa Z h0 a1 "java/lang/StringBuilder") (Gv_a1 : Fld Z h0 a1 "java/lang/AbstractStringBuilder" "value" "[B" (.ref b)) (Gc_a1 : Fld Z h0 a1 "java/lang/AbstractStringBuilder" "coder" "B" (.int (0 : Int32))) (V_b : Arv Z h0 b kb .byte cap (own_bs A) (.int (0 : Int32))) (Gn_a1 : Fld Z h0 a1 "java/lang/AbstractStringBuilder" "count" "I" (.int n)) (hn : ¬ n < 0) (hl : ¬ cap < n) (hm : n.toNatClampNeg ≤ 70) (hA : n.toNatClampNeg = A.length) (E_b : Exa Z h0 b "[B") (S_CS : Sta Z Z.heap "java/lang/String" "COMPACT_STRINGS" "Z" (.int cs)) (h_cs : ¬ cs = (0 : Int32)) :
    MetFree l mn_22 (head1 (Jvm.Cond.code mn_22 jdk_67_method_42_code 1 (some (.object "java/lang/String")) :: ws) ({ frames := 5, cells := 2, slots := 74, locals := 79 } : Room)) (fun a U => a = #[(.ref a1)] ∧ Z.Warmed39 U.vm ∧ U.heap = h0) (fun _ _ _ _ _ => True) (fun _ U o U' => ∃ v L, o = .returned v ∧ Q18 Z a1 b kb cap A n cs h0 n0 v U'.heap L ∧ FrameEnd U o U' L ({ frames := 5, cells := 2, slots := 74, locals := 79 } : Room).cells ({ frames := 5, cells := 2, slots := 74, locals := 79 } : Room).slots) := by
  refine MetFree.of_bodySF (plainFor_of_name pn_4) hisR ?_
  intro p e s m args below meth c s₁ Bd hml0 hP hK
  obtain ⟨rfl, hZ, hh⟩ := hP
  have hx := Bd.exec
  have hby := Bd.bytes
  have hml : c.maxLocals = 1 := hml0
  have hown : s.vm.findClass "java/lang/StringBuilder" = some m.cls := findClass_of_methodNamed Bd.named
  have hnm := (name_of_methodNamed Bd.named Bd.method).1
  have X0 : Stand p l e ({ frames := 5, cells := 2, slots := 74, locals := 79 } : Room) s m #[(.ref a1)] below meth c s₁ [] 0 0 := Stand.of_body Bd
  have e0 : s₁.heap = h0 := by rw [← hh, Bd.state]; rfl
  have N0 := Fr.nil n0
  have K0 := Keep.refl h0 []
  have pre0 : ∀ t, Steps p.tables e below (s₁.setTop (mkF m 0 #[.val (.ref a1)] [])) t → Steps p.tables e below (s₁.setTop (entryFrame m #[(.ref a1)] 1)) t := fun t k => castTop (ef_18 m a1) k
  obtain ⟨T1, h1, X1, e1, E1, A1, D1, -, st1⟩ := newO X0 hx hZ hown (ww hw 113 rfl) (ww hw 2 rfl) (ww hw 1 rfl) e0 (g := (mkF m 0 #[vR a1] [])) rfl (hb hby d18_0) (by decide) (by decide)
  obtain ⟨b1, g1⟩ : ∃ z, z = h0.size := ⟨_, rfl⟩
  rw [← g1] at A1 D1 st1
  have ne_a1_b1 : a1 ≠ b1 := Nat.ne_of_lt (Nat.lt_of_lt_of_le E_a1.lt (Nat.le_of_eq g1.symm))
  have ne_b_b1 : b ≠ b1 := Nat.ne_of_lt (Nat.lt_of_lt_of_le V_b.lt (Nat.le_of_eq g1.symm))
  have sz_b1 : h0.size ≤ b1 := Nat.le_trans K0.1 (Nat.le_of_eq g1.symm)
  have g_b1 : n0 ≤ b1 := Nat.le_trans Z0 sz_b1
  have K1 : Keep h0 h1 [] := K0.ext E1
  have F_value_b1 : Fld Z h1 b1 "java/lang/String" "value" "[B" .null := D1 (Or.inr (ww hw 4 rfl)) (ty := (.array .byte)) (by decide)
  have F_coder_b1 : Fld Z h1 b1 "java/lang/String" "coder" "B" (.int (0 : Int32)) := D1 (Or.inr (ww hw 5 rfl)) (ty := .byte) (by decide)
  have fk3 := (E_a1.ext E1)
  have fk4 := (Gv_a1.ext E1)
  have fk5 := (Gc_a1.ext E1)
  have fk6 := (V_b.ext E1)
  have fk7 := (Gn_a1.ext E1)
  have fk8 := (E_b.ext E1)
  have Oh9 := O0.keep K1 all0
  obtain ⟨_, _, ⟨T2, L2, k2, n2⟩, -, X2, ⟨Lc2, hQ2, l2, y2, z2⟩, st2⟩ := X1.specialBack hx (y := mn_21) rfl hown (mvT hZ (ww hw 114 rfl)) (mvT hZ (ww hw 115 rfl)) (mvT hZ (ww hw 117 rfl)) (by decide) (backOf (W := 1) (rm19 l Z a0 hw [] b1 a1 b kb cap A n cs h1 n0 (Nat.le_trans Z0 K1.1) Oh9 A1 g_b1 F_value_b1 F_coder_b1 (Ne.symm ne_a1_b1) (Ne.symm ne_b_b1) fk3 fk4 fk5 fk6 fk7 hn hl hm hA fk8 S_CS h_cs) hZ (ww hw 117 rfl) (ww hw 1 rfl) (by decide) (by decide)) (g := (mkF m 5 #[vR a1] [iR a1, iR b1, iR b1])) rfl (by rw [hml]; rfl) (Steps.refl _) (a := b1) (argsL := [(.ref a1)]) (rest := [(.ref b1)]) (lenOf pd_16 rfl) rfl (wz rfl) (hb hby d18_5) (fun _ _ => ⟨rfl, e1, (by decide : 1 + 1 ≤ _), (by decide : 4 + 70 ≤ _)⟩)
  dsimp only [Pt.U, Pt.locs, Pt.cells, Pt.slots] at X2 l2 y2 z2 st2 hQ2
  subst l2 y2 z2
  obtain ⟨d2, kd2, rfl, N2q, K2q, E2q, C2q, F2q, V2q, z_d2⟩ := hQ2
  have ne_a1_d2 : a1 ≠ d2 := Nat.ne_of_lt (Nat.lt_of_lt_of_le fk3.lt z_d2)
  have ne_b_d2 : b ≠ d2 := Nat.ne_of_lt (Nat.lt_of_lt_of_le fk6.lt z_d2)
  have ne_b1_d2 : b1 ≠ d2 := Nat.ne_of_lt (Nat.lt_of_lt_of_le A1.lt z_d2)
  have sz_d2 : h0.size ≤ d2 := Nat.le_trans K1.1 z_d2
  have g_d2 : n0 ≤ d2 := Nat.le_trans Z0 sz_d2
  have N2 := Fr.app N0 N2q
  have K2 : Keep h0 T2.heap [] := Keep.trans K1 K2q (allS (Or.inr sz_b1) all0)
  obtain ⟨fs, hr, hrun, hended, hW, hsame⟩ := X2.leave (v := some (.ref b1)) (fun h => by rw [Bd.returns] at h; cases h)
  refine ⟨_, _, pre0 _ ?_, hrun, hended, _, _, rfl, ?_, ⟨_, rfl⟩, hW, hsame.mono (by decide) (by decide)⟩
  · show SA s₁ m 0 #[vR a1] []
    refine st1 _ ?_
    show SA T1 m 3 #[vR a1] [iR b1]
    refine XS.dup X1.here hx rfl (hb hby d18_3) rfl rfl ?_
    show SA T1 m 4 #[vR a1] [iR b1, iR b1]
    refine XS.aloadN X1.here hx rfl (hb hby d18_4) rfl rfl ?_
    show SA T1 m 5 #[vR a1] [iR a1, iR b1, iR b1]
    refine st2.trans ?_
    show Steps _ _ _ (T2.setTop (mkF m 8 #[vR a1] [iR b1])) _
    jvm_step X2.here [X2.here.top, hx, (hb hby d18_8), X2.method', Bd.returns, Value.isRef, FieldType.isReference]
    first | (intro acts; rw [hr _ acts rfl rfl rfl]) | rw [hr _ _ rfl rfl rfl]
    exact Steps.refl _
  · show Q18 Z a1 b kb cap A n cs h0 n0 _ T2.heap _
    exact ⟨_, _, _, rfl, N2, K2, E2q, C2q, F2q, V2q, sz_b1, sz_d2⟩
def own_chr (x : Int32) : Int32 := nar .char ((x &&& (255 : Int32)).toUInt32.toUInt16.toUInt32.toInt32)
theorem own_bsget (B : List Int32) (i : Nat) : (own_bs B).getD i (.int (0 : Int32)) = .int (B.getD i 0) := by
  simp only [List.getD_eq_getElem?_getD, List.getElem?_map]
  cases B[i]? <;> rfl
theorem own_chr2 (x : Int32) : nar .char (own_chr x) = own_chr x := by
  have h1 := c_i2c (x &&& (255 : Int32))
  have h2 := c_i2c ((x &&& (255 : Int32)).toUInt32.toUInt16.toUInt32.toInt32)
  have h3 := c_i2c (own_chr x)
  have e2 : own_chr x = ((x &&& (255 : Int32)).toUInt32.toUInt16.toUInt32.toInt32).toUInt32.toUInt16.toUInt32.toInt32 := rfl
  rw [← e2] at h2
  show (own_chr x).toUInt32.toUInt16.toUInt32.toInt32 = own_chr x
  apply Int32.toInt_inj.mp
  omega
theorem d30_0 : decode jdk_42_method_154_code 0 = .ok (.getstatic 38, 3) := by decide +kernel
theorem d30_3 : decode jdk_42_method_154_code 3 = .ok (.ifCond .eq 14, 3) := by decide +kernel
theorem d30_6 : decode jdk_42_method_154_code 6 = .ok (.aload_n 0, 1) := by decide +kernel
theorem d30_7 : decode jdk_42_method_154_code 7 = .ok (.getfield 15, 3) := by decide +kernel
theorem d30_10 : decode jdk_42_method_154_code 10 = .ok (.ifCond .ne 7, 3) := by decide +kernel
theorem d30_13 : decode jdk_42_method_154_code 13 = .ok (.iconst 1, 1) := by decide +kernel
theorem d30_14 : decode jdk_42_method_154_code 14 = .ok (.goto 4, 3) := by decide +kernel
theorem d30_18 : decode jdk_42_method_154_code 18 = .ok (.ireturn, 1) := by decide +kernel
theorem ef_30 (m : MethodId) (x0 : Addr) : entryFrame m #[(.ref x0)] 1 = mkF m 0 #[.val (.ref x0)] [] := by first | (simp [entryFrame, mkF, argsToLocals, Value.category]; done) | rfl
def Q30 (Z : State) (a1 : Addr) (cs : Int32) (h0 : Heap) (v : Option Value) (h : Heap) (L : List Loc) : Prop := v = some (.int (1 : Int32)) ∧ L = [] ∧ h = h0
theorem rm30 (l : Launch) (Z : State) (a0 : Array Value) (hw : ∀ d ∈ tables_1, d.before a0 Z = true) (ws : List Jvm.Cond) (a1 : Addr) (cs : Int32) (h0 : Heap) (n0 : Nat) (O0 : Old Z n0 h0) (Fc_a1 : Fld Z h0 a1 "java/lang/String" "coder" "B" (.int (0 : Int32))) (S_CS : Sta Z Z.heap "java/lang/String" "COMPACT_STRINGS" "Z" (.int cs)) (h_cs : ¬ cs = (0 : Int32)) :
    MetFree l mn_23 (head1 (Jvm.Cond.code mn_23 jdk_42_method_154_code 1 (some .boolean) :: ws) ({ frames := 0, cells := 0, slots := 0, locals := 0 } : Room)) (fun a U => a = #[(.ref a1)] ∧ Z.Warmed39 U.vm ∧ U.heap = h0) (fun _ _ _ _ _ => True) (fun _ U o U' => ∃ v L, o = .returned v ∧ Q30 Z a1 cs h0 v U'.heap L ∧ FrameEnd U o U' L ({ frames := 0, cells := 0, slots := 0, locals := 0 } : Room).cells ({ frames := 0, cells := 0, slots := 0, locals := 0 } : Room).slots) := by
  refine MetFree.of_bodySF (plainFor_of_name pn_0) hisR ?_
  intro p e s m args below meth c s₁ Bd hml0 hP hK
  obtain ⟨rfl, hZ, hh⟩ := hP
  have hx := Bd.exec
  have hby := Bd.bytes
  have hml : c.maxLocals = 1 := hml0
  have hown : s.vm.findClass "java/lang/String" = some m.cls := findClass_of_methodNamed Bd.named
  have hnm := (name_of_methodNamed Bd.named Bd.method).1
  have X0 : Stand p l e ({ frames := 0, cells := 0, slots := 0, locals := 0 } : Room) s m #[(.ref a1)] below meth c s₁ [] 0 0 := Stand.of_body Bd
  have e0 : s₁.heap = h0 := by rw [← hh, Bd.state]; rfl
  have pre0 : ∀ t, Steps p.tables e below (s₁.setTop (mkF m 0 #[.val (.ref a1)] [])) t → Steps p.tables e below (s₁.setTop (entryFrame m #[(.ref a1)] 1)) t := fun t k => castTop (ef_30 m a1) k
  obtain ⟨T1, X1, e1, st1⟩ := getS2 X0 hx hZ hown (host := "") (Or.inl (ww hw 53 rfl)) Via.refl e0 (S_CS.ext O0.2) (g := (mkF m 0 #[vR a1] [])) rfl (hb hby d30_0)
  obtain ⟨T2, X2, e2, st2⟩ := getF X1 hx hZ hown (host := "") (Or.inl (ww hw 54 rfl)) Via.refl e1 Fc_a1 (g := (mkF m 7 #[vR a1] [iR a1])) rfl rfl (hb hby d30_7)
  obtain ⟨fs, hr, hrun, hended, hW, hsame⟩ := X2.leave (v := some (.int (1 : Int32))) (fun h => by rw [Bd.returns] at h; cases h)
  refine ⟨_, _, pre0 _ ?_, hrun, hended, _, _, rfl, ?_, ⟨_, rfl⟩, hW, hsame.mono (by decide) (by decide)⟩
  · show SA s₁ m 0 #[vR a1] []
    refine st1 _ ?_
    show SA T1 m 3 #[vR a1] [iI cs]
    refine XS.ifNo X1.here hx rfl (hb hby d30_3) rfl ((if0 _ _).trans (feq h_cs).1) ?_
    show SA T1 m 6 #[vR a1] []
    refine XS.aloadN X1.here hx rfl (hb hby d30_6) rfl rfl ?_
    show SA T1 m 7 #[vR a1] [iR a1]
    refine st2 _ ?_
    show SA T2 m 10 #[vR a1] [iI 0]
    refine XS.ifNo X2.here hx rfl (hb hby d30_10) rfl ((if0 _ _).trans (teq (by decide : (0 : Int32) = (0 : Int32))).2) ?_
    show SA T2 m 13 #[vR a1] []
    refine XS.iconst X2.here hx rfl (hb hby d30_13) ?_
    show SA T2 m 14 #[vR a1] [iI 1]
    refine XS.goto X2.here hx rfl (pc0 := 14) (pc' := 18) rfl (hb hby d30_14) (by decide) (by decide) ?_
    show Steps _ _ _ (T2.setTop (mkF m 18 #[vR a1] [iI 1])) _
    exact retN X2 hx (t := .boolean) Bd.returns (by simp) (hb hby d30_18) hr
  · show Q30 Z a1 cs h0 _ T2.heap _
    rw [e2]
    exact ⟨rfl, rfl, rfl⟩
theorem d33_0 : decode jdk_41_method_11_code 0 = .ok (.iload_n 0, 1) := by decide +kernel
theorem d33_1 : decode jdk_41_method_11_code 1 = .ok (.ifCond .lt 8, 3) := by decide +kernel
theorem d33_4 : decode jdk_41_method_11_code 4 = .ok (.iload_n 0, 1) := by decide +kernel
theorem d33_5 : decode jdk_41_method_11_code 5 = .ok (.iload_n 1, 1) := by decide +kernel
theorem d33_6 : decode jdk_41_method_11_code 6 = .ok (.if_icmp .lt 10, 3) := by decide +kernel
theorem d33_16 : decode jdk_41_method_11_code 16 = .ok (.iload_n 0, 1) := by decide +kernel
theorem d33_17 : decode jdk_41_method_11_code 17 = .ok (.ireturn, 1) := by decide +kernel
theorem pn_5 : plainName "jdk/internal/util/Preconditions" = true := by first | (simp [plainName, overriddenIn]; done) | decide +kernel
theorem ef_33_n (m : MethodId) (x0 : Int32) (x1 : Int32) : entryFrame m #[(.int x0), (.int x1), .null] 3 = mkF m 0 #[.val (.int x0), .val (.int x1), .val .null] [] := by first | (simp [entryFrame, mkF, argsToLocals, Value.category]; done) | rfl
def Q33_n (Z : State) (p1 : Int32) (p2 : Int32) (h0 : Heap) (v : Option Value) (h : Heap) (L : List Loc) : Prop := v = some (.int p1) ∧ L = [] ∧ h = h0
theorem rm33_n (l : Launch) (Z : State) (a0 : Array Value) (hw : ∀ d ∈ tables_1, d.before a0 Z = true) (ws : List Jvm.Cond) (p1 : Int32) (p2 : Int32) (h0 : Heap) (hj0 : ¬ p1 < (0 : Int32)) (hj1 : p1 < p2) :
    MetFree l mn_24 (head1 (Jvm.Cond.code mn_24 jdk_41_method_11_code 3 (some .int) :: ws) ({ frames := 0, cells := 0, slots := 0, locals := 0 } : Room)) (fun a U => a = #[(.int p1), (.int p2), .null] ∧ Z.Warmed39 U.vm ∧ U.heap = h0) (fun _ _ _ _ _ => True) (fun _ U o U' => ∃ v L, o = .returned v ∧ Q33_n Z p1 p2 h0 v U'.heap L ∧ FrameEnd U o U' L ({ frames := 0, cells := 0, slots := 0, locals := 0 } : Room).cells ({ frames := 0, cells := 0, slots := 0, locals := 0 } : Room).slots) := by
  refine MetFree.of_bodySF (plainFor_of_name pn_5) hisR ?_
  intro p e s m args below meth c s₁ Bd hml0 hP hK
  obtain ⟨rfl, hZ, hh⟩ := hP
  have hx := Bd.exec
  have hby := Bd.bytes
  have hml : c.maxLocals = 3 := hml0
  have hown : s.vm.findClass "jdk/internal/util/Preconditions" = some m.cls := findClass_of_methodNamed Bd.named
  have hnm := (name_of_methodNamed Bd.named Bd.method).1
  have X0 : Stand p l e ({ frames := 0, cells := 0, slots := 0, locals := 0 } : Room) s m #[(.int p1), (.int p2), .null] below meth c s₁ [] 0 0 := Stand.of_body Bd
  have e0 : s₁.heap = h0 := by rw [← hh, Bd.state]; rfl
  have pre0 : ∀ t, Steps p.tables e below (s₁.setTop (mkF m 0 #[.val (.int p1), .val (.int p2), .val .null] [])) t → Steps p.tables e below (s₁.setTop (entryFrame m #[(.int p1), (.int p2), .null] 3)) t := fun t k => castTop (ef_33_n m p1 p2) k
  obtain ⟨fs, hr, hrun, hended, hW, hsame⟩ := X0.leave (v := some (.int p1)) (fun h => by rw [Bd.returns] at h; cases h)
  refine ⟨_, _, pre0 _ ?_, hrun, hended, _, _, rfl, ?_, ⟨_, rfl⟩, hW, hsame.mono (by decide) (by decide)⟩
  · show SA s₁ m 0 #[vI p1, vI p2, .val .null] []
    refine XS.iloadN X0.here hx rfl (hb hby d33_0) rfl ?_
    show SA s₁ m 1 #[vI p1, vI p2, .val .null] [iI p1]
    refine XS.ifNo X0.here hx rfl (hb hby d33_1) rfl ((if0 _ _).trans (flt hj0).1) ?_
    show SA s₁ m 4 #[vI p1, vI p2, .val .null] []
    refine XS.iloadN X0.here hx rfl (hb hby d33_4) rfl ?_
    show SA s₁ m 5 #[vI p1, vI p2, .val .null] [iI p1]
    refine XS.iloadN X0.here hx rfl (hb hby d33_5) rfl ?_
    show SA s₁ m 6 #[vI p1, vI p2, .val .null] [iI p2, iI p1]
    refine XS.icmpYes X0.here hx rfl (pc0 := 6) (pc' := 16) rfl (hb hby d33_6) rfl (tlt hj1).1 (by decide) (by decide) ?_
    show SA s₁ m 16 #[vI p1, vI p2, .val .null] []
    refine XS.iloadN X0.here hx rfl (hb hby d33_16) rfl ?_
    show Steps _ _ _ (s₁.setTop (mkF m 17 #[vI p1, vI p2, .val .null] [iI p1])) _
    exact retI X0 hx Bd.returns (hb hby d33_17) hr
  · show Q33_n Z p1 p2 h0 _ s₁.heap _
    rw [e0]
    exact ⟨rfl, rfl, rfl⟩
theorem d32_0 : decode jdk_42_method_155_code 0 = .ok (.iload_n 0, 1) := by decide +kernel
theorem d32_1 : decode jdk_42_method_155_code 1 = .ok (.iload_n 1, 1) := by decide +kernel
theorem d32_2 : decode jdk_42_method_155_code 2 = .ok (.getstatic 1053, 3) := by decide +kernel
theorem d32_5 : decode jdk_42_method_155_code 5 = .ok (.invokestatic 1059, 3) := by decide +kernel
theorem d32_8 : decode jdk_42_method_155_code 8 = .ok (.pop, 1) := by decide +kernel
theorem d32_9 : decode jdk_42_method_155_code 9 = .ok (.return_, 1) := by decide +kernel
theorem ef_32_n (m : MethodId) (x0 : Int32) (x1 : Int32) : entryFrame m #[(.int x0), (.int x1)] 2 = mkF m 0 #[.val (.int x0), .val (.int x1)] [] := by first | (simp [entryFrame, mkF, argsToLocals, Value.category]; done) | rfl
def Q32_n (Z : State) (p1 : Int32) (p2 : Int32) (h0 : Heap) (v : Option Value) (h : Heap) (L : List Loc) : Prop := v = none ∧ L = [] ∧ h = h0
theorem rm32_n (l : Launch) (Z : State) (a0 : Array Value) (hw : ∀ d ∈ tables_1, d.before a0 Z = true) (ws : List Jvm.Cond) (p1 : Int32) (p2 : Int32) (h0 : Heap) (n0 : Nat) (O0 : Old Z n0 h0) (S_F : Sta Z Z.heap "jdk/internal/util/Preconditions" "SIOOBE_FORMATTER" "Ljava/util/function/BiFunction;" .null) (hj0 : ¬ p1 < (0 : Int32)) (hj1 : p1 < p2) :
    MetFree l mn_25 (head1 (Jvm.Cond.code mn_25 jdk_42_method_155_code 2 none :: ws) ({ frames := 1, cells := 0, slots := 0, locals := 14 } : Room)) (fun a U => a = #[(.int p1), (.int p2)] ∧ Z.Warmed39 U.vm ∧ U.heap = h0) (fun _ _ _ _ _ => True) (fun _ U o U' => ∃ v L, o = .returned v ∧ Q32_n Z p1 p2 h0 v U'.heap L ∧ FrameEnd U o U' L ({ frames := 1, cells := 0, slots := 0, locals := 14 } : Room).cells ({ frames := 1, cells := 0, slots := 0, locals := 14 } : Room).slots) := by
  refine MetFree.of_bodySF (plainFor_of_name pn_0) hisR ?_
  intro p e s m args below meth c s₁ Bd hml0 hP hK
  obtain ⟨rfl, hZ, hh⟩ := hP
  have hx := Bd.exec
  have hby := Bd.bytes
  have hml : c.maxLocals = 2 := hml0
  have hown : s.vm.findClass "java/lang/String" = some m.cls := findClass_of_methodNamed Bd.named
  have hnm := (name_of_methodNamed Bd.named Bd.method).1
  have X0 : Stand p l e ({ frames := 1, cells := 0, slots := 0, locals := 14 } : Room) s m #[(.int p1), (.int p2)] below meth c s₁ [] 0 0 := Stand.of_body Bd
  have e0 : s₁.heap = h0 := by rw [← hh, Bd.state]; rfl
  have pre0 : ∀ t, Steps p.tables e below (s₁.setTop (mkF m 0 #[.val (.int p1), .val (.int p2)] [])) t → Steps p.tables e below (s₁.setTop (entryFrame m #[(.int p1), (.int p2)] 2)) t := fun t k => castTop (ef_32_n m p1 p2) k
  obtain ⟨T1, X1, e1, st1⟩ := getS2 X0 hx hZ hown (host := "") (Or.inl (ww hw 171 rfl)) Via.refl e0 (S_F.ext O0.2) (g := (mkF m 2 #[vI p1, vI p2] [iI p2, iI p1])) rfl (hb hby d32_2)
  obtain ⟨_, _, ⟨T2, L2, k2, n2⟩, -, X2, ⟨Lc2, hQ2, l2, y2, z2⟩, st2⟩ := Jvm.LawKit.callS X1 hx (y := mn_24) hown (mvT hZ (ww hw 173 rfl)) (mvT hZ (ww hw 174 rfl)) (mvT hZ (ww hw 172 rfl)) (mvT hZ (ww hw 175 rfl)) (by decide) (backOf (W := 0) (rm33_n l Z a0 hw [] p1 p2  h0 hj0 hj1) hZ (ww hw 175 rfl) (ww hw 172 rfl) (by decide) (by decide)) (g := (mkF m 5 #[vI p1, vI p2] [.null, iI p2, iI p1])) rfl (by rw [hml]; rfl) (argsL := [(.int p1), (.int p2), .null]) (rest := []) (lenOf pd_17 rfl) rfl (wz rfl) (hb hby d32_5) (fun _ _ => ⟨rfl, e1, (by decide : 0 + 0 ≤ _), (by decide : 0 + 0 ≤ _)⟩)
  dsimp only [Pt.U, Pt.locs, Pt.cells, Pt.slots] at X2 l2 y2 z2 st2 hQ2
  subst l2 y2 z2
  obtain ⟨rfl, rfl, e2⟩ := hQ2
  try rw [List.append_nil] at X2
  obtain ⟨fs, hr, hrun, hended, hW, hsame⟩ := X2.leave (v := none) (fun _ => rfl)
  refine ⟨_, _, pre0 _ ?_, hrun, hended, _, _, rfl, ?_, ⟨_, rfl⟩, hW, hsame.mono (by decide) (by decide)⟩
  · show SA s₁ m 0 #[vI p1, vI p2] []
    refine XS.iloadN X0.here hx rfl (hb hby d32_0) rfl ?_
    show SA s₁ m 1 #[vI p1, vI p2] [iI p1]
    refine XS.iloadN X0.here hx rfl (hb hby d32_1) rfl ?_
    show SA s₁ m 2 #[vI p1, vI p2] [iI p2, iI p1]
    refine st1 _ ?_
    show SA T1 m 5 #[vI p1, vI p2] [.null, iI p2, iI p1]
    refine st2 _ ?_
    show SA T2 m 8 #[vI p1, vI p2] [iI p1]
    refine XS.pop X2.here hx rfl (hb hby d32_8) rfl rfl ?_
    show Steps _ _ _ (T2.setTop (mkF m 9 #[vI p1, vI p2] [])) _
    exact X2.returnOut hx Bd.returns (hb hby d32_9) hr
  · show Q32_n Z p1 p2 h0 _ T2.heap _
    rw [e2]
    exact ⟨rfl, rfl, rfl⟩
theorem ef_33_r (m : MethodId) (x0 : Int32) (x1 : Int32) (x2 : Addr) : entryFrame m #[(.int x0), (.int x1), (.ref x2)] 3 = mkF m 0 #[.val (.int x0), .val (.int x1), .val (.ref x2)] [] := by first | (simp [entryFrame, mkF, argsToLocals, Value.category]; done) | rfl
def Q33_r (Z : State) (p1 : Int32) (p2 : Int32) (fa : Addr) (h0 : Heap) (v : Option Value) (h : Heap) (L : List Loc) : Prop := v = some (.int p1) ∧ L = [] ∧ h = h0
theorem rm33_r (l : Launch) (Z : State) (a0 : Array Value) (hw : ∀ d ∈ tables_1, d.before a0 Z = true) (ws : List Jvm.Cond) (p1 : Int32) (p2 : Int32) (fa : Addr) (h0 : Heap) (hj0 : ¬ p1 < (0 : Int32)) (hj1 : p1 < p2) :
    MetFree l mn_24 (head1 (Jvm.Cond.code mn_24 jdk_41_method_11_code 3 (some .int) :: ws) ({ frames := 0, cells := 0, slots := 0, locals := 0 } : Room)) (fun a U => a = #[(.int p1), (.int p2), (.ref fa)] ∧ Z.Warmed39 U.vm ∧ U.heap = h0) (fun _ _ _ _ _ => True) (fun _ U o U' => ∃ v L, o = .returned v ∧ Q33_r Z p1 p2 fa h0 v U'.heap L ∧ FrameEnd U o U' L ({ frames := 0, cells := 0, slots := 0, locals := 0 } : Room).cells ({ frames := 0, cells := 0, slots := 0, locals := 0 } : Room).slots) := by
  refine MetFree.of_bodySF (plainFor_of_name pn_5) hisR ?_
  intro p e s m args below meth c s₁ Bd hml0 hP hK
  obtain ⟨rfl, hZ, hh⟩ := hP
  have hx := Bd.exec
  have hby := Bd.bytes
  have hml : c.maxLocals = 3 := hml0
  have hown : s.vm.findClass "jdk/internal/util/Preconditions" = some m.cls := findClass_of_methodNamed Bd.named
  have hnm := (name_of_methodNamed Bd.named Bd.method).1
  have X0 : Stand p l e ({ frames := 0, cells := 0, slots := 0, locals := 0 } : Room) s m #[(.int p1), (.int p2), (.ref fa)] below meth c s₁ [] 0 0 := Stand.of_body Bd
  have e0 : s₁.heap = h0 := by rw [← hh, Bd.state]; rfl
  have pre0 : ∀ t, Steps p.tables e below (s₁.setTop (mkF m 0 #[.val (.int p1), .val (.int p2), .val (.ref fa)] [])) t → Steps p.tables e below (s₁.setTop (entryFrame m #[(.int p1), (.int p2), (.ref fa)] 3)) t := fun t k => castTop (ef_33_r m p1 p2 fa) k
  obtain ⟨fs, hr, hrun, hended, hW, hsame⟩ := X0.leave (v := some (.int p1)) (fun h => by rw [Bd.returns] at h; cases h)
  refine ⟨_, _, pre0 _ ?_, hrun, hended, _, _, rfl, ?_, ⟨_, rfl⟩, hW, hsame.mono (by decide) (by decide)⟩
  · show SA s₁ m 0 #[vI p1, vI p2, vR fa] []
    refine XS.iloadN X0.here hx rfl (hb hby d33_0) rfl ?_
    show SA s₁ m 1 #[vI p1, vI p2, vR fa] [iI p1]
    refine XS.ifNo X0.here hx rfl (hb hby d33_1) rfl ((if0 _ _).trans (flt hj0).1) ?_
    show SA s₁ m 4 #[vI p1, vI p2, vR fa] []
    refine XS.iloadN X0.here hx rfl (hb hby d33_4) rfl ?_
    show SA s₁ m 5 #[vI p1, vI p2, vR fa] [iI p1]
    refine XS.iloadN X0.here hx rfl (hb hby d33_5) rfl ?_
    show SA s₁ m 6 #[vI p1, vI p2, vR fa] [iI p2, iI p1]
    refine XS.icmpYes X0.here hx rfl (pc0 := 6) (pc' := 16) rfl (hb hby d33_6) rfl (tlt hj1).1 (by decide) (by decide) ?_
    show SA s₁ m 16 #[vI p1, vI p2, vR fa] []
    refine XS.iloadN X0.here hx rfl (hb hby d33_16) rfl ?_
    show Steps _ _ _ (s₁.setTop (mkF m 17 #[vI p1, vI p2, vR fa] [iI p1])) _
    exact retI X0 hx Bd.returns (hb hby d33_17) hr
  · show Q33_r Z p1 p2 fa h0 _ s₁.heap _
    rw [e0]
    exact ⟨rfl, rfl, rfl⟩
theorem ef_32_r (m : MethodId) (x0 : Int32) (x1 : Int32) : entryFrame m #[(.int x0), (.int x1)] 2 = mkF m 0 #[.val (.int x0), .val (.int x1)] [] := by first | (simp [entryFrame, mkF, argsToLocals, Value.category]; done) | rfl
def Q32_r (Z : State) (p1 : Int32) (p2 : Int32) (fa : Addr) (h0 : Heap) (v : Option Value) (h : Heap) (L : List Loc) : Prop := v = none ∧ L = [] ∧ h = h0
theorem rm32_r (l : Launch) (Z : State) (a0 : Array Value) (hw : ∀ d ∈ tables_1, d.before a0 Z = true) (ws : List Jvm.Cond) (p1 : Int32) (p2 : Int32) (fa : Addr) (h0 : Heap) (n0 : Nat) (O0 : Old Z n0 h0) (S_F : Sta Z Z.heap "jdk/internal/util/Preconditions" "SIOOBE_FORMATTER" "Ljava/util/function/BiFunction;" (.ref fa)) (hj0 : ¬ p1 < (0 : Int32)) (hj1 : p1 < p2) :
    MetFree l mn_25 (head1 (Jvm.Cond.code mn_25 jdk_42_method_155_code 2 none :: ws) ({ frames := 1, cells := 0, slots := 0, locals := 14 } : Room)) (fun a U => a = #[(.int p1), (.int p2)] ∧ Z.Warmed39 U.vm ∧ U.heap = h0) (fun _ _ _ _ _ => True) (fun _ U o U' => ∃ v L, o = .returned v ∧ Q32_r Z p1 p2 fa h0 v U'.heap L ∧ FrameEnd U o U' L ({ frames := 1, cells := 0, slots := 0, locals := 14 } : Room).cells ({ frames := 1, cells := 0, slots := 0, locals := 14 } : Room).slots) := by
  refine MetFree.of_bodySF (plainFor_of_name pn_0) hisR ?_
  intro p e s m args below meth c s₁ Bd hml0 hP hK
  obtain ⟨rfl, hZ, hh⟩ := hP
  have hx := Bd.exec
  have hby := Bd.bytes
  have hml : c.maxLocals = 2 := hml0
  have hown : s.vm.findClass "java/lang/String" = some m.cls := findClass_of_methodNamed Bd.named
  have hnm := (name_of_methodNamed Bd.named Bd.method).1
  have X0 : Stand p l e ({ frames := 1, cells := 0, slots := 0, locals := 14 } : Room) s m #[(.int p1), (.int p2)] below meth c s₁ [] 0 0 := Stand.of_body Bd
  have e0 : s₁.heap = h0 := by rw [← hh, Bd.state]; rfl
  have pre0 : ∀ t, Steps p.tables e below (s₁.setTop (mkF m 0 #[.val (.int p1), .val (.int p2)] [])) t → Steps p.tables e below (s₁.setTop (entryFrame m #[(.int p1), (.int p2)] 2)) t := fun t k => castTop (ef_32_r m p1 p2) k
  obtain ⟨T1, X1, e1, st1⟩ := getS2 X0 hx hZ hown (host := "") (Or.inl (ww hw 171 rfl)) Via.refl e0 (S_F.ext O0.2) (g := (mkF m 2 #[vI p1, vI p2] [iI p2, iI p1])) rfl (hb hby d32_2)
  obtain ⟨_, _, ⟨T2, L2, k2, n2⟩, -, X2, ⟨Lc2, hQ2, l2, y2, z2⟩, st2⟩ := Jvm.LawKit.callS X1 hx (y := mn_24) hown (mvT hZ (ww hw 173 rfl)) (mvT hZ (ww hw 174 rfl)) (mvT hZ (ww hw 172 rfl)) (mvT hZ (ww hw 175 rfl)) (by decide) (backOf (W := 0) (rm33_r l Z a0 hw [] p1 p2 fa h0 hj0 hj1) hZ (ww hw 175 rfl) (ww hw 172 rfl) (by decide) (by decide)) (g := (mkF m 5 #[vI p1, vI p2] [iR fa, iI p2, iI p1])) rfl (by rw [hml]; rfl) (argsL := [(.int p1), (.int p2), (.ref fa)]) (rest := []) (lenOf pd_17 rfl) rfl (wz rfl) (hb hby d32_5) (fun _ _ => ⟨rfl, e1, (by decide : 0 + 0 ≤ _), (by decide : 0 + 0 ≤ _)⟩)
  dsimp only [Pt.U, Pt.locs, Pt.cells, Pt.slots] at X2 l2 y2 z2 st2 hQ2
  subst l2 y2 z2
  obtain ⟨rfl, rfl, e2⟩ := hQ2
  try rw [List.append_nil] at X2
  obtain ⟨fs, hr, hrun, hended, hW, hsame⟩ := X2.leave (v := none) (fun _ => rfl)
  refine ⟨_, _, pre0 _ ?_, hrun, hended, _, _, rfl, ?_, ⟨_, rfl⟩, hW, hsame.mono (by decide) (by decide)⟩
  · show SA s₁ m 0 #[vI p1, vI p2] []
    refine XS.iloadN X0.here hx rfl (hb hby d32_0) rfl ?_
    show SA s₁ m 1 #[vI p1, vI p2] [iI p1]
    refine XS.iloadN X0.here hx rfl (hb hby d32_1) rfl ?_
    show SA s₁ m 2 #[vI p1, vI p2] [iI p2, iI p1]
    refine st1 _ ?_
    show SA T1 m 5 #[vI p1, vI p2] [iR fa, iI p2, iI p1]
    refine st2 _ ?_
    show SA T2 m 8 #[vI p1, vI p2] [iI p1]
    refine XS.pop X2.here hx rfl (hb hby d32_8) rfl rfl ?_
    show Steps _ _ _ (T2.setTop (mkF m 9 #[vI p1, vI p2] [])) _
    exact X2.returnOut hx Bd.returns (hb hby d32_9) hr
  · show Q32_r Z p1 p2 fa h0 _ T2.heap _
    rw [e2]
    exact ⟨rfl, rfl, rfl⟩
def Q32 (Z : State) (p1 : Int32) (p2 : Int32) (fm : Value) (h0 : Heap) (v : Option Value) (h : Heap) (L : List Loc) : Prop := v = none ∧ L = [] ∧ h = h0
theorem rm32 (l : Launch) (Z : State) (a0 : Array Value) (hw : ∀ d ∈ tables_1, d.before a0 Z = true) (ws : List Jvm.Cond) (p1 : Int32) (p2 : Int32) (fm : Value) (h0 : Heap) (n0 : Nat) (O0 : Old Z n0 h0) (S_F : Sta Z Z.heap "jdk/internal/util/Preconditions" "SIOOBE_FORMATTER" "Ljava/util/function/BiFunction;" fm) (h_fm : fm.isRef = true) (hj0 : ¬ p1 < (0 : Int32)) (hj1 : p1 < p2) :
    MetFree l mn_25 (head1 (Jvm.Cond.code mn_25 jdk_42_method_155_code 2 none :: ws) ({ frames := 1, cells := 0, slots := 0, locals := 14 } : Room)) (fun a U => a = #[(.int p1), (.int p2)] ∧ Z.Warmed39 U.vm ∧ U.heap = h0) (fun _ _ _ _ _ => True) (fun _ U o U' => ∃ v L, o = .returned v ∧ Q32 Z p1 p2 fm h0 v U'.heap L ∧ FrameEnd U o U' L ({ frames := 1, cells := 0, slots := 0, locals := 14 } : Room).cells ({ frames := 1, cells := 0, slots := 0, locals := 14 } : Room).slots) := by
  rcases ref_cases h_fm with rfl | ⟨fa, rfl⟩
  · exact rm32_n l Z a0 hw ws p1 p2 h0 n0 O0 S_F hj0 hj1
  · exact rm32_r l Z a0 hw ws p1 p2 fa h0 n0 O0 S_F hj0 hj1
theorem d31_0 : decode jdk_43_method_2_code 0 = .ok (.iload_n 1, 1) := by decide +kernel
theorem d31_1 : decode jdk_43_method_2_code 1 = .ok (.aload_n 0, 1) := by decide +kernel
theorem d31_2 : decode jdk_43_method_2_code 2 = .ok (.arraylength, 1) := by decide +kernel
theorem d31_3 : decode jdk_43_method_2_code 3 = .ok (.invokestatic 9, 3) := by decide +kernel
theorem d31_6 : decode jdk_43_method_2_code 6 = .ok (.aload_n 0, 1) := by decide +kernel
theorem d31_7 : decode jdk_43_method_2_code 7 = .ok (.iload_n 1, 1) := by decide +kernel
theorem d31_8 : decode jdk_43_method_2_code 8 = .ok (.baload, 1) := by decide +kernel
theorem d31_9 : decode jdk_43_method_2_code 9 = .ok (.sipush 255, 3) := by decide +kernel
theorem d31_12 : decode jdk_43_method_2_code 12 = .ok (.iand, 1) := by decide +kernel
theorem d31_13 : decode jdk_43_method_2_code 13 = .ok (.i2c, 1) := by decide +kernel
theorem d31_14 : decode jdk_43_method_2_code 14 = .ok (.ireturn, 1) := by decide +kernel
theorem pn_6 : plainName "java/lang/StringLatin1" = true := by first | (simp [plainName, overriddenIn]; done) | decide +kernel
theorem ef_31 (m : MethodId) (x0 : Addr) (x1 : Int32) : entryFrame m #[(.ref x0), (.int x1)] 2 = mkF m 0 #[.val (.ref x0), .val (.int x1)] [] := by first | (simp [entryFrame, mkF, argsToLocals, Value.category]; done) | rfl
def Q31 (Z : State) (a1 : Addr) (p2 : Int32) (kd : ClassId) (z : Int32) (B : List Int32) (fm : Value) (h0 : Heap) (v : Option Value) (h : Heap) (L : List Loc) : Prop := v = some (.int (own_chr (B.getD p2.toNatClampNeg 0))) ∧ L = [] ∧ h = h0
theorem rm31 (l : Launch) (Z : State) (a0 : Array Value) (hw : ∀ d ∈ tables_1, d.before a0 Z = true) (ws : List Jvm.Cond) (a1 : Addr) (p2 : Int32) (kd : ClassId) (z : Int32) (B : List Int32) (fm : Value) (h0 : Heap) (n0 : Nat) (O0 : Old Z n0 h0) (V_b : Arv Z h0 a1 kd .byte z (own_bs B) (.int (0 : Int32))) (hj0 : ¬ p2 < (0 : Int32)) (hj1 : p2 < z) (S_F : Sta Z Z.heap "jdk/internal/util/Preconditions" "SIOOBE_FORMATTER" "Ljava/util/function/BiFunction;" fm) (h_fm : fm.isRef = true) :
    MetFree l mn_26 (head1 (Jvm.Cond.code mn_26 jdk_43_method_2_code 2 (some .char) :: ws) ({ frames := 2, cells := 0, slots := 0, locals := 27 } : Room)) (fun a U => a = #[(.ref a1), (.int p2)] ∧ Z.Warmed39 U.vm ∧ U.heap = h0) (fun _ _ _ _ _ => True) (fun _ U o U' => ∃ v L, o = .returned v ∧ Q31 Z a1 p2 kd z B fm h0 v U'.heap L ∧ FrameEnd U o U' L ({ frames := 2, cells := 0, slots := 0, locals := 27 } : Room).cells ({ frames := 2, cells := 0, slots := 0, locals := 27 } : Room).slots) := by
  refine MetFree.of_bodySF (plainFor_of_name pn_6) hisR ?_
  intro p e s m args below meth c s₁ Bd hml0 hP hK
  obtain ⟨rfl, hZ, hh⟩ := hP
  have hx := Bd.exec
  have hby := Bd.bytes
  have hml : c.maxLocals = 2 := hml0
  have hown : s.vm.findClass "java/lang/StringLatin1" = some m.cls := findClass_of_methodNamed Bd.named
  have hnm := (name_of_methodNamed Bd.named Bd.method).1
  have X0 : Stand p l e ({ frames := 2, cells := 0, slots := 0, locals := 27 } : Room) s m #[(.ref a1), (.int p2)] below meth c s₁ [] 0 0 := Stand.of_body Bd
  have e0 : s₁.heap = h0 := by rw [← hh, Bd.state]; rfl
  have pre0 : ∀ t, Steps p.tables e below (s₁.setTop (mkF m 0 #[.val (.ref a1), .val (.int p2)] [])) t → Steps p.tables e below (s₁.setTop (entryFrame m #[(.ref a1), (.int p2)] 2)) t := fun t k => castTop (ef_31 m a1 p2) k
  obtain ⟨cl1, Ar1, q1, S1, M1, H1, G1⟩ := id V_b
  obtain ⟨_, _, ⟨T2, L2, k2, n2⟩, -, X2, ⟨Lc2, hQ2, l2, y2, z2⟩, st2⟩ := Jvm.LawKit.callS X0 hx (y := mn_25) hown (mvT hZ (ww hw 168 rfl)) (mvT hZ (ww hw 169 rfl)) (mvT hZ (ww hw 1 rfl)) (mvT hZ (ww hw 170 rfl)) (by decide) (backOf (W := 0) (rm32 l Z a0 hw [] p2 z fm h0 n0 O0 S_F h_fm hj0 hj1) hZ (ww hw 170 rfl) (ww hw 1 rfl) (by decide) (by decide)) (g := (mkF m 3 #[vR a1, vI p2] [iI z, iI p2])) rfl (by rw [hml]; rfl) (argsL := [(.int p2), (.int z)]) (rest := []) (lenOf pd_11 rfl) rfl (wz rfl) (hb hby d31_3) (fun _ _ => ⟨rfl, e0, (by decide : 0 + 0 ≤ _), (by decide : 0 + 0 ≤ _)⟩)
  dsimp only [Pt.U, Pt.locs, Pt.cells, Pt.slots] at X2 l2 y2 z2 st2 hQ2
  subst l2 y2 z2
  obtain ⟨rfl, rfl, e2⟩ := hQ2
  try rw [List.append_nil] at X2
  have hin3 : ¬ (p2 < 0 ∨ cl1.slots.size ≤ (p2).toNatClampNeg) := inb_of S1 ⟨hj0, hj1⟩
  have hat4 : cl1.slots[(p2).toNatClampNeg]? = some (.int (B.getD p2.toNatClampNeg 0)) := Has.at H1 hin3 (own_bsget B _)
  obtain ⟨fs, hr, hrun, hended, hW, hsame⟩ := X2.leave (v := some (.int (nar .char ((B.getD p2.toNatClampNeg 0) &&& (255 : Int32)).toUInt32.toUInt16.toUInt32.toInt32))) (fun h => by rw [Bd.returns] at h; cases h)
  refine ⟨_, _, pre0 _ ?_, hrun, hended, _, _, rfl, ?_, ⟨_, rfl⟩, hW, hsame.mono (by decide) (by decide)⟩
  · show SA s₁ m 0 #[vR a1, vI p2] []
    refine XS.iloadN X0.here hx rfl (hb hby d31_0) rfl ?_
    show SA s₁ m 1 #[vR a1, vI p2] [iI p2]
    refine XS.aloadN X0.here hx rfl (hb hby d31_1) rfl rfl ?_
    show SA s₁ m 2 #[vR a1, vI p2] [iR a1, iI p2]
    refine X0.arraylength hx (by rw [e0]; exact Ar1.1) (State.isArrayOf_alike hZ.alike Ar1.2.1) (g := (mkF m 2 #[vR a1, vI p2] [iR a1, iI p2])) rfl rfl (hb hby d31_2) _ ?_
    rw [len_of S1 M1]
    show SA s₁ m 3 #[vR a1, vI p2] [iI z, iI p2]
    refine st2 _ ?_
    show SA T2 m 6 #[vR a1, vI p2] []
    refine XS.aloadN X2.here hx rfl (hb hby d31_6) rfl rfl ?_
    show SA T2 m 7 #[vR a1, vI p2] [iR a1]
    refine XS.iloadN X2.here hx rfl (hb hby d31_7) rfl ?_
    show SA T2 m 8 #[vR a1, vI p2] [iI p2, iR a1]
    refine X2.baloadBytes hx (j := p2) (v := (.int (B.getD p2.toNatClampNeg 0))) (by rw [e2]; exact Ar1.1) (State.isArrayOf_alike hZ.alike Ar1.2.1) Ar1.2.2 hin3 hat4 (g := (mkF m 8 #[vR a1, vI p2] [iI p2, iR a1])) rfl rfl (hb hby d31_8) _ ?_
    show SA T2 m 9 #[vR a1, vI p2] [iI (B.getD p2.toNatClampNeg 0)]
    refine XS.sipush X2.here hx rfl (hb hby d31_9) ?_
    show SA T2 m 12 #[vR a1, vI p2] [iI 255, iI (B.getD p2.toNatClampNeg 0)]
    refine XS.iand X2.here hx rfl (hb hby d31_12) rfl ?_
    show SA T2 m 13 #[vR a1, vI p2] [iI ((B.getD p2.toNatClampNeg 0) &&& (255 : Int32))]
    refine XS.i2c X2.here hx rfl (hb hby d31_13) rfl ?_
    show Steps _ _ _ (T2.setTop (mkF m 14 #[vR a1, vI p2] [iI ((B.getD p2.toNatClampNeg 0) &&& (255 : Int32)).toUInt32.toUInt16.toUInt32.toInt32])) _
    exact retN X2 hx (t := .char) Bd.returns (by simp) (hb hby d31_14) hr
  · show Q31 Z a1 p2 kd z B fm h0 _ T2.heap _
    rw [e2]
    exact ⟨rfl, rfl, rfl⟩
theorem d29_0 : decode jdk_42_method_56_code 0 = .ok (.aload_n 0, 1) := by decide +kernel
theorem d29_1 : decode jdk_42_method_56_code 1 = .ok (.invokevirtual 492, 3) := by decide +kernel
theorem d29_4 : decode jdk_42_method_56_code 4 = .ok (.ifCond .eq 12, 3) := by decide +kernel
theorem d29_7 : decode jdk_42_method_56_code 7 = .ok (.aload_n 0, 1) := by decide +kernel
theorem d29_8 : decode jdk_42_method_56_code 8 = .ok (.getfield 9, 3) := by decide +kernel
theorem d29_11 : decode jdk_42_method_56_code 11 = .ok (.iload_n 1, 1) := by decide +kernel
theorem d29_12 : decode jdk_42_method_56_code 12 = .ok (.invokestatic 495, 3) := by decide +kernel
theorem d29_15 : decode jdk_42_method_56_code 15 = .ok (.ireturn, 1) := by decide +kernel
theorem ef_29 (m : MethodId) (x0 : Addr) (x1 : Int32) : entryFrame m #[(.ref x0), (.int x1)] 2 = mkF m 0 #[.val (.ref x0), .val (.int x1)] [] := by first | (simp [entryFrame, mkF, argsToLocals, Value.category]; done) | rfl
def Q29 (Z : State) (a1 : Addr) (p2 : Int32) (d : Addr) (kd : ClassId) (z : Int32) (B : List Int32) (cs : Int32) (fm : Value) (h0 : Heap) (v : Option Value) (h : Heap) (L : List Loc) : Prop := v = some (.int (own_chr (B.getD p2.toNatClampNeg 0))) ∧ L = [] ∧ h = h0
theorem rm29 (l : Launch) (Z : State) (a0 : Array Value) (hw : ∀ d ∈ tables_1, d.before a0 Z = true) (ws : List Jvm.Cond) (a1 : Addr) (p2 : Int32) (d : Addr) (kd : ClassId) (z : Int32) (B : List Int32) (cs : Int32) (fm : Value) (h0 : Heap) (n0 : Nat) (O0 : Old Z n0 h0) (E_a1 : Exa Z h0 a1 "java/lang/String") (Fc_a1 : Fld Z h0 a1 "java/lang/String" "coder" "B" (.int (0 : Int32))) (Fv_a1 : Fld Z h0 a1 "java/lang/String" "value" "[B" (.ref d)) (V_d : Arv Z h0 d kd .byte z (own_bs B) (.int (0 : Int32))) (hz : ¬ z < 0) (hB : z.toNatClampNeg = B.length) (hj0 : ¬ p2 < (0 : Int32)) (hj1 : p2 < z) (S_CS : Sta Z Z.heap "java/lang/String" "COMPACT_STRINGS" "Z" (.int cs)) (h_cs : ¬ cs = (0 : Int32)) (S_F : Sta Z Z.heap "jdk/internal/util/Preconditions" "SIOOBE_FORMATTER" "Ljava/util/function/BiFunction;" fm) (h_fm : fm.isRef = true) :
    MetFree l mn_27 (head1 (Jvm.Cond.code mn_27 jdk_42_method_56_code 2 (some .char) :: ws) ({ frames := 3, cells := 0, slots := 0, locals := 40 } : Room)) (fun a U => a = #[(.ref a1), (.int p2)] ∧ Z.Warmed39 U.vm ∧ U.heap = h0) (fun _ _ _ _ _ => True) (fun _ U o U' => ∃ v L, o = .returned v ∧ Q29 Z a1 p2 d kd z B cs fm h0 v U'.heap L ∧ FrameEnd U o U' L ({ frames := 3, cells := 0, slots := 0, locals := 40 } : Room).cells ({ frames := 3, cells := 0, slots := 0, locals := 40 } : Room).slots) := by
  refine MetFree.of_bodySF (plainFor_of_name pn_0) hisR ?_
  intro p e s m args below meth c s₁ Bd hml0 hP hK
  obtain ⟨rfl, hZ, hh⟩ := hP
  have hx := Bd.exec
  have hby := Bd.bytes
  have hml : c.maxLocals = 2 := hml0
  have hown : s.vm.findClass "java/lang/String" = some m.cls := findClass_of_methodNamed Bd.named
  have hnm := (name_of_methodNamed Bd.named Bd.method).1
  have X0 : Stand p l e ({ frames := 3, cells := 0, slots := 0, locals := 40 } : Room) s m #[(.ref a1), (.int p2)] below meth c s₁ [] 0 0 := Stand.of_body Bd
  have e0 : s₁.heap = h0 := by rw [← hh, Bd.state]; rfl
  have pre0 : ∀ t, Steps p.tables e below (s₁.setTop (mkF m 0 #[.val (.ref a1), .val (.int p2)] [])) t → Steps p.tables e below (s₁.setTop (entryFrame m #[(.ref a1), (.int p2)] 2)) t := fun t k => castTop (ef_29 m a1 p2) k
  obtain ⟨cq1, kq1, q1a, q1b, q1c⟩ := isOf hZ e0 E_a1
  obtain ⟨_, _, ⟨T1, L1, k1, n1⟩, -, X1, ⟨Lc1, hQ1, l1, y1, z1⟩, st1⟩ := X0.virtualBack hx (y := mn_23) (z := mn_23) hown (mvT hZ (ww hw 159 rfl)) (mvT hZ (ww hw 160 rfl)) (notFace_of_selects (args := #[]) (mvT hZ (ww hw 162 rfl))) (mvT hZ (ww hw 162 rfl)) (mvT hZ (ww hw 161 rfl)) (by decide) (backOf (W := 0) (rm30 l Z a0 hw [] a1 cs h0 n0 O0 Fc_a1 S_CS h_cs) hZ (ww hw 163 rfl) (ww hw 1 rfl) (by decide) (by decide)) q1a q1c (g := (mkF m 1 #[vR a1, vI p2] [iR a1])) rfl (by rw [hml]; rfl) (Steps.refl _) (argsL := []) (rest := []) (lenOf pd_14 rfl) rfl (wz rfl) (hb hby d29_1) (fun _ _ => ⟨rfl, e0, (by decide : 0 + 0 ≤ _), (by decide : 0 + 0 ≤ _)⟩)
  dsimp only [Pt.U, Pt.locs, Pt.cells, Pt.slots] at X1 l1 y1 z1 st1 hQ1
  subst l1 y1 z1
  obtain ⟨rfl, rfl, e1⟩ := hQ1
  try rw [List.append_nil] at X1
  obtain ⟨T2, X2, e2, st2⟩ := getF X1 hx hZ hown (host := "") (Or.inl (ww hw 47 rfl)) Via.refl e1 Fv_a1 (g := (mkF m 8 #[vR a1, vI p2] [iR a1])) rfl rfl (hb hby d29_8)
  obtain ⟨_, _, ⟨T3, L3, k3, n3⟩, -, X3, ⟨Lc3, hQ3, l3, y3, z3⟩, st3⟩ := Jvm.LawKit.callS X2 hx (y := mn_26) hown (mvT hZ (ww hw 164 rfl)) (mvT hZ (ww hw 165 rfl)) (mvT hZ (ww hw 166 rfl)) (mvT hZ (ww hw 167 rfl)) (by decide) (backOf (W := 0) (rm31 l Z a0 hw [] d p2 kd z B fm h0 n0 O0 V_d hj0 hj1 S_F h_fm) hZ (ww hw 167 rfl) (ww hw 166 rfl) (by decide) (by decide)) (g := (mkF m 12 #[vR a1, vI p2] [iI p2, iR d])) rfl (by rw [hml]; rfl) (argsL := [(.ref d), (.int p2)]) (rest := []) (lenOf pd_18 rfl) rfl (wz rfl) (hb hby d29_12) (fun _ _ => ⟨rfl, e2, (by decide : 0 + 0 ≤ _), (by decide : 0 + 0 ≤ _)⟩)
  dsimp only [Pt.U, Pt.locs, Pt.cells, Pt.slots] at X3 l3 y3 z3 st3 hQ3
  subst l3 y3 z3
  obtain ⟨rfl, rfl, e3⟩ := hQ3
  try rw [List.append_nil] at X3
  obtain ⟨fs, hr, hrun, hended, hW, hsame⟩ := X3.leave (v := some (.int (nar .char (own_chr (B.getD p2.toNatClampNeg 0))))) (fun h => by rw [Bd.returns] at h; cases h)
  refine ⟨_, _, pre0 _ ?_, hrun, hended, _, _, rfl, ?_, ⟨_, rfl⟩, hW, hsame.mono (by decide) (by decide)⟩
  · show SA s₁ m 0 #[vR a1, vI p2] []
    refine XS.aloadN X0.here hx rfl (hb hby d29_0) rfl rfl ?_
    show SA s₁ m 1 #[vR a1, vI p2] [iR a1]
    refine st1.trans ?_
    show SA T1 m 4 #[vR a1, vI p2] [iI 1]
    refine XS.ifNo X1.here hx rfl (hb hby d29_4) rfl ((if0 _ _).trans (feq (by decide : ¬ ((1 : Int32) = (0 : Int32)))).1) ?_
    show SA T1 m 7 #[vR a1, vI p2] []
    refine XS.aloadN X1.here hx rfl (hb hby d29_7) rfl rfl ?_
    show SA T1 m 8 #[vR a1, vI p2] [iR a1]
    refine st2 _ ?_
    show SA T2 m 11 #[vR a1, vI p2] [iR d]
    refine XS.iloadN X2.here hx rfl (hb hby d29_11) rfl ?_
    show SA T2 m 12 #[vR a1, vI p2] [iI p2, iR d]
    refine st3 _ ?_
    show Steps _ _ _ (T3.setTop (mkF m 15 #[vR a1, vI p2] [iI (own_chr (B.getD p2.toNatClampNeg 0))])) _
    exact retN X3 hx (t := .char) Bd.returns (by simp) (hb hby d29_15) hr
  · show Q29 Z a1 p2 d kd z B cs fm h0 _ T3.heap _
    rw [e3]
    exact ⟨by rw [own_chr2], rfl, rfl⟩
def Q29_v (Z : State) (a1 : Addr) (p2 : Int32) (d : Addr) (kd : ClassId) (z : Int32) (B : List Int32) (r : Int32) (cs : Int32) (fm : Value) (h0 : Heap) (v : Option Value) (h : Heap) (L : List Loc) : Prop := v = some (.int r) ∧ L = [] ∧ h = h0
theorem rm29_v (l : Launch) (Z : State) (a0 : Array Value) (hw : ∀ d ∈ tables_1, d.before a0 Z = true) (ws : List Jvm.Cond) (a1 : Addr) (p2 : Int32) (d : Addr) (kd : ClassId) (z : Int32) (B : List Int32) (r : Int32) (cs : Int32) (fm : Value) (h0 : Heap) (n0 : Nat) (O0 : Old Z n0 h0) (E_a1 : Exa Z h0 a1 "java/lang/String") (Fc_a1 : Fld Z h0 a1 "java/lang/String" "coder" "B" (.int (0 : Int32))) (Fv_a1 : Fld Z h0 a1 "java/lang/String" "value" "[B" (.ref d)) (V_d : Arv Z h0 d kd .byte z (own_bs B) (.int (0 : Int32))) (hz : ¬ z < 0) (hB : z.toNatClampNeg = B.length) (hj0 : ¬ p2 < (0 : Int32)) (hj1 : p2 < z) (hr : own_chr (B.getD p2.toNatClampNeg 0) = r) (S_CS : Sta Z Z.heap "java/lang/String" "COMPACT_STRINGS" "Z" (.int cs)) (h_cs : ¬ cs = (0 : Int32)) (S_F : Sta Z Z.heap "jdk/internal/util/Preconditions" "SIOOBE_FORMATTER" "Ljava/util/function/BiFunction;" fm) (h_fm : fm.isRef = true) :
    MetFree l mn_27 (head1 (Jvm.Cond.code mn_27 jdk_42_method_56_code 2 (some .char) :: ws) ({ frames := 3, cells := 0, slots := 0, locals := 40 } : Room)) (fun a U => a = #[(.ref a1), (.int p2)] ∧ Z.Warmed39 U.vm ∧ U.heap = h0) (fun _ _ _ _ _ => True) (fun _ U o U' => ∃ v L, o = .returned v ∧ Q29_v Z a1 p2 d kd z B r cs fm h0 v U'.heap L ∧ FrameEnd U o U' L ({ frames := 3, cells := 0, slots := 0, locals := 40 } : Room).cells ({ frames := 3, cells := 0, slots := 0, locals := 40 } : Room).slots) := by
  subst hr
  exact rm29 l Z a0 hw ws a1 p2 d kd z B cs fm h0 n0 O0 E_a1 Fc_a1 Fv_a1 V_d hz hB hj0 hj1 S_CS h_cs S_F h_fm
theorem own_gd {B : List Int32} {k r c : Int32} {i : Nat} (hk : k.toNatClampNeg = i) (hb : B.getD i 0 = c) (hc : own_chr c = r) : own_chr (B.getD k.toNatClampNeg 0) = r := by rw [hk, hb]; exact hc
theorem d3_0 : decode jdk_68_method_2_code 0 = .ok (.aload_n 0, 1) := by decide +kernel
theorem d3_1 : decode jdk_68_method_2_code 1 = .ok (.invokespecial 3, 3) := by decide +kernel
theorem d3_4 : decode jdk_68_method_2_code 4 = .ok (.getstatic 18, 3) := by decide +kernel
theorem d3_7 : decode jdk_68_method_2_code 7 = .ok (.ifCond .eq 18, 3) := by decide +kernel
theorem d3_10 : decode jdk_68_method_2_code 10 = .ok (.aload_n 0, 1) := by decide +kernel
theorem d3_11 : decode jdk_68_method_2_code 11 = .ok (.iload_n 1, 1) := by decide +kernel
theorem d3_12 : decode jdk_68_method_2_code 12 = .ok (.newarray .byte, 2) := by decide +kernel
theorem d3_14 : decode jdk_68_method_2_code 14 = .ok (.putfield 15, 3) := by decide +kernel
theorem d3_17 : decode jdk_68_method_2_code 17 = .ok (.aload_n 0, 1) := by decide +kernel
theorem d3_18 : decode jdk_68_method_2_code 18 = .ok (.iconst 0, 1) := by decide +kernel
theorem d3_19 : decode jdk_68_method_2_code 19 = .ok (.putfield 22, 3) := by decide +kernel
theorem d3_22 : decode jdk_68_method_2_code 22 = .ok (.goto 16, 3) := by decide +kernel
theorem d3_38 : decode jdk_68_method_2_code 38 = .ok (.return_, 1) := by decide +kernel
theorem ef_3 (m : MethodId) (x0 : Addr) : entryFrame m #[(.ref x0), (.int (16 : Int32))] 2 = mkF m 0 #[.val (.ref x0), .val (.int (16 : Int32))] [] := by first | (simp [entryFrame, mkF, argsToLocals, Value.category]; done) | rfl
def Q3 (Z : State) (a1 : Addr) (cs : Int32) (h0 : Heap) (n0 : Nat) (v : Option Value) (h : Heap) (L : List Loc) : Prop := ∃ (b : Addr) (kb : ClassId), v = none ∧ Fr n0 L ∧ Keep h0 h [a1] ∧ Exa Z h a1 "java/lang/StringBuilder" ∧ Fld Z h a1 "java/lang/AbstractStringBuilder" "value" "[B" (.ref b) ∧ Fld Z h a1 "java/lang/AbstractStringBuilder" "coder" "B" (.int (0 : Int32)) ∧ Fld Z h a1 "java/lang/AbstractStringBuilder" "count" "I" (.int (0 : Int32)) ∧ Arv Z h b kb .byte (16 : Int32) (own_bs []) (.int (0 : Int32)) ∧ Exa Z h b "[B" ∧ h0.size ≤ b
theorem rm3 (l : Launch) (Z : State) (a0 : Array Value) (hw : ∀ d ∈ tables_1, d.before a0 Z = true) (ws : List Jvm.Cond) (a1 : Addr) (cs : Int32) (h0 : Heap) (n0 : Nat) (Z0 : n0 ≤ h0.size) (O0 : Old Z n0 h0) (E_a1 : Exa Z h0 a1 "java/lang/StringBuilder") (g_a1 : n0 ≤ a1) (F_value : Fld Z h0 a1 "java/lang/AbstractStringBuilder" "value" "[B" .null) (F_coder : Fld Z h0 a1 "java/lang/AbstractStringBuilder" "coder" "B" (.int (0 : Int32))) (F_count : Fld Z h0 a1 "java/lang/AbstractStringBuilder" "count" "I" (.int (0 : Int32))) (S_CS : Sta Z Z.heap "java/lang/String" "COMPACT_STRINGS" "Z" (.int cs)) (h_cs : ¬ cs = (0 : Int32)) :
    MetFree l mn_28 (head1 (Jvm.Cond.code mn_28 jdk_68_method_2_code 2 none :: ws) ({ frames := 1, cells := 1, slots := 16, locals := 12 } : Room)) (fun a U => a = #[(.ref a1), (.int (16 : Int32))] ∧ Z.Warmed39 U.vm ∧ U.heap = h0) (fun _ _ _ _ _ => True) (fun _ U o U' => ∃ v L, o = .returned v ∧ Q3 Z a1 cs h0 n0 v U'.heap L ∧ FrameEnd U o U' L ({ frames := 1, cells := 1, slots := 16, locals := 12 } : Room).cells ({ frames := 1, cells := 1, slots := 16, locals := 12 } : Room).slots) := by
  refine MetFree.of_bodySF (plainFor_of_name pn_1) hisR ?_
  intro p e s m args below meth c s₁ Bd hml0 hP hK
  obtain ⟨rfl, hZ, hh⟩ := hP
  have hx := Bd.exec
  have hby := Bd.bytes
  have hml : c.maxLocals = 2 := hml0
  have hown : s.vm.findClass "java/lang/AbstractStringBuilder" = some m.cls := findClass_of_methodNamed Bd.named
  have hnm := (name_of_methodNamed Bd.named Bd.method).1
  have X0 : Stand p l e ({ frames := 1, cells := 1, slots := 16, locals := 12 } : Room) s m #[(.ref a1), (.int (16 : Int32))] below meth c s₁ [] 0 0 := Stand.of_body Bd
  have e0 : s₁.heap = h0 := by rw [← hh, Bd.state]; rfl
  have N0 := Fr.nil n0
  have K0 := Keep.refl h0 [a1]
  have pre0 : ∀ t, Steps p.tables e below (s₁.setTop (mkF m 0 #[.val (.ref a1), .val (.int (16 : Int32))] [])) t → Steps p.tables e below (s₁.setTop (entryFrame m #[(.ref a1), (.int (16 : Int32))] 2)) t := fun t k => castTop (ef_3 m a1) k
  obtain ⟨T1, X1, e1, st1⟩ := initO X0 hx hZ hown (ww hw 24 rfl) (ww hw 25 rfl) (ww hw 26 rfl) e0 (g := (mkF m 1 #[vR a1, vI 16] [iR a1])) rfl (by rw [hml]; rfl) rfl (hb hby d3_1) (by decide) (W := 0) (wz rfl) (by decide)
  obtain ⟨T2, X2, e2, st2⟩ := getS2 X1 hx hZ hown (host := "") (Or.inl (ww hw 27 rfl)) Via.refl e1 (S_CS.ext O0.2) (g := (mkF m 4 #[vR a1, vI 16] [])) rfl (hb hby d3_4)
  obtain ⟨T3, h3, k3, X3, e3, E3, A3, B3, st3⟩ := newPE X2 hx hZ (ww hw 3 rfl) e2 (g := (mkF m 12 #[vR a1, vI 16] [iI 16, iR a1])) rfl (hb hby d3_12) rfl (by decide) (cap := 16) (by decide) (by decide) (by decide) (by decide) rfl
  obtain ⟨b3, g3⟩ : ∃ z, z = h0.size := ⟨_, rfl⟩
  rw [← g3] at A3 B3 st3
  have ne_a1_b3 : a1 ≠ b3 := Nat.ne_of_lt (Nat.lt_of_lt_of_le E_a1.lt (Nat.le_of_eq g3.symm))
  have sz_b3 : h0.size ≤ b3 := Nat.le_trans K0.1 (Nat.le_of_eq g3.symm)
  have g_b3 : n0 ≤ b3 := Nat.le_trans Z0 sz_b3
  have K3 : Keep h0 h3 [a1] := K0.ext E3
  have V3 : Arv Z h3 b3 k3 .byte (16 : Int32) [(.int (0 : Int32)), (.int (0 : Int32)), (.int (0 : Int32)), (.int (0 : Int32)), (.int (0 : Int32)), (.int (0 : Int32)), (.int (0 : Int32)), (.int (0 : Int32)), (.int (0 : Int32)), (.int (0 : Int32)), (.int (0 : Int32)), (.int (0 : Int32)), (.int (0 : Int32)), (.int (0 : Int32)), (.int (0 : Int32)), (.int (0 : Int32))] (.int (0 : Int32)) := (Arv.new A3 (by decide)).pad (pad_rep [] (.int (0 : Int32)) 16)
  have fk4 := (F_value.ext E3)
  have fk5 := (E_a1.ext E3)
  obtain ⟨T6, h6, X6, e6, W6, st6⟩ := putF X3 hx hZ hown (host := "") (Or.inl (ww hw 28 rfl)) Via.refl e3 fk4 fk5 (Or.inl (ww hw 29 rfl)) (ww hw 13 rfl) (ty := (.array .byte)) (by decide) rfl rfl (g := (mkF m 14 #[vR a1, vI 16] [iR b3, iR a1])) rfl rfl (hb hby d3_14)
  have Fw6 := fk4.same W6
  have K6 : Keep h0 h6 [a1] := K3.wr W6 (Or.inl (List.mem_of_getElem? (i := 0) rfl))
  have N6 := Fr.snoc X6 N0 g_a1
  have fk7 := ((F_coder.ext E3).other W6 (Or.inr (slot_ne (Or.inl (ww hw 31 rfl)) (Or.inl (ww hw 29 rfl)) (by decide) (t := .byte) (t' := (.array .byte)) (by decide) (by decide))))
  have fk8 := (fk5.wr W6)
  obtain ⟨T9, h9, X9, e9, W9, st9⟩ := putFN X6 hx hZ hown (ww hw 30 rfl) Via.refl e6 fk7 fk8 (Or.inl (ww hw 31 rfl)) (ww hw 13 rfl) (ty := .byte) (v' := (.int (0 : Int32))) (by decide) rfl (by decide) (g := (mkF m 19 #[vR a1, vI 16] [iI 0, iR a1])) rfl rfl (hb hby d3_19)
  have Fw9 := fk7.same W9
  have K9 : Keep h0 h9 [a1] := K6.wr W9 (Or.inl (List.mem_of_getElem? (i := 0) rfl))
  have N9 := Fr.snoc X9 N6 g_a1
  obtain ⟨fs, hr, hrun, hended, hW, hsame⟩ := X9.leave (v := none) (fun _ => rfl)
  have fk10 := (fk8.wr W9)
  have fk11 := (Fw6.other W9 (Or.inr (slot_ne (Or.inl (ww hw 29 rfl)) (Or.inl (ww hw 31 rfl)) (by decide) (t := (.array .byte)) (t' := .byte) (by decide) (by decide))))
  have fk12 := (((F_count.ext E3).other W6 (Or.inr (slot_ne (Or.inl (ww hw 56 rfl)) (Or.inl (ww hw 29 rfl)) (by decide) (t := .int) (t' := (.array .byte)) (by decide) (by decide)))).other W9 (Or.inr (slot_ne (Or.inl (ww hw 56 rfl)) (Or.inl (ww hw 31 rfl)) (by decide) (t := .int) (t' := .byte) (by decide) (by decide))))
  have fk13 := ((V3.other W6 (Ne.symm ne_a1_b3)).other W9 (Ne.symm ne_a1_b3))
  have fk14 := ((B3.wr W6).wr W9)
  refine ⟨_, _, pre0 _ ?_, hrun, hended, _, _, rfl, ?_, ⟨_, rfl⟩, hW, hsame.mono (by decide) (by decide)⟩
  · show SA s₁ m 0 #[vR a1, vI 16] []
    refine XS.aloadN X0.here hx rfl (hb hby d3_0) rfl rfl ?_
    show SA s₁ m 1 #[vR a1, vI 16] [iR a1]
    refine st1 _ ?_
    show SA T1 m 4 #[vR a1, vI 16] []
    refine st2 _ ?_
    show SA T2 m 7 #[vR a1, vI 16] [iI cs]
    refine XS.ifNo X2.here hx rfl (hb hby d3_7) rfl ((if0 _ _).trans (feq h_cs).1) ?_
    show SA T2 m 10 #[vR a1, vI 16] []
    refine XS.aloadN X2.here hx rfl (hb hby d3_10) rfl rfl ?_
    show SA T2 m 11 #[vR a1, vI 16] [iR a1]
    refine XS.iloadN X2.here hx rfl (hb hby d3_11) rfl ?_
    show SA T2 m 12 #[vR a1, vI 16] [iI 16, iR a1]
    refine st3 _ ?_
    show SA T3 m 14 #[vR a1, vI 16] [iR b3, iR a1]
    refine st6 _ ?_
    show SA T6 m 17 #[vR a1, vI 16] []
    refine XS.aloadN X6.here hx rfl (hb hby d3_17) rfl rfl ?_
    show SA T6 m 18 #[vR a1, vI 16] [iR a1]
    refine XS.iconst X6.here hx rfl (hb hby d3_18) ?_
    show SA T6 m 19 #[vR a1, vI 16] [iI 0, iR a1]
    refine st9 _ ?_
    show SA T9 m 22 #[vR a1, vI 16] []
    refine XS.goto X9.here hx rfl (pc0 := 22) (pc' := 38) rfl (hb hby d3_22) (by decide) (by decide) ?_
    show Steps _ _ _ (T9.setTop (mkF m 38 #[vR a1, vI 16] [])) _
    exact X9.returnOut hx Bd.returns (hb hby d3_38) hr
  · show Q3 Z a1 cs h0 n0 _ T9.heap _
    rw [e9]
    exact ⟨_, _, rfl, N9, K9, fk10, fk11, Fw9, fk12, (fk13.pad (fun i => (pad_rep [] (.int (0 : Int32)) 16 i).symm)), fk14, sz_b3⟩
theorem d2_0 : decode jdk_67_method_1_code 0 = .ok (.aload_n 0, 1) := by decide +kernel
theorem d2_1 : decode jdk_67_method_1_code 1 = .ok (.bipush 16, 2) := by decide +kernel
theorem d2_3 : decode jdk_67_method_1_code 3 = .ok (.invokespecial 1, 3) := by decide +kernel
theorem d2_6 : decode jdk_67_method_1_code 6 = .ok (.return_, 1) := by decide +kernel
theorem ef_2 (m : MethodId) (x0 : Addr) : entryFrame m #[(.ref x0)] 1 = mkF m 0 #[.val (.ref x0)] [] := by first | (simp [entryFrame, mkF, argsToLocals, Value.category]; done) | rfl
def Q2 (Z : State) (a1 : Addr) (cs : Int32) (h0 : Heap) (n0 : Nat) (v : Option Value) (h : Heap) (L : List Loc) : Prop := ∃ (b : Addr) (kb : ClassId), v = none ∧ Fr n0 L ∧ Keep h0 h [a1] ∧ Exa Z h a1 "java/lang/StringBuilder" ∧ Fld Z h a1 "java/lang/AbstractStringBuilder" "value" "[B" (.ref b) ∧ Fld Z h a1 "java/lang/AbstractStringBuilder" "coder" "B" (.int (0 : Int32)) ∧ Fld Z h a1 "java/lang/AbstractStringBuilder" "count" "I" (.int (0 : Int32)) ∧ Arv Z h b kb .byte (16 : Int32) (own_bs []) (.int (0 : Int32)) ∧ Exa Z h b "[B" ∧ h0.size ≤ b
theorem rm2 (l : Launch) (Z : State) (a0 : Array Value) (hw : ∀ d ∈ tables_1, d.before a0 Z = true) (ws : List Jvm.Cond) (a1 : Addr) (cs : Int32) (h0 : Heap) (n0 : Nat) (Z0 : n0 ≤ h0.size) (O0 : Old Z n0 h0) (E_a1 : Exa Z h0 a1 "java/lang/StringBuilder") (g_a1 : n0 ≤ a1) (F_value : Fld Z h0 a1 "java/lang/AbstractStringBuilder" "value" "[B" .null) (F_coder : Fld Z h0 a1 "java/lang/AbstractStringBuilder" "coder" "B" (.int (0 : Int32))) (F_count : Fld Z h0 a1 "java/lang/AbstractStringBuilder" "count" "I" (.int (0 : Int32))) (S_CS : Sta Z Z.heap "java/lang/String" "COMPACT_STRINGS" "Z" (.int cs)) (h_cs : ¬ cs = (0 : Int32)) :
    MetFree l mn_29 (head1 (Jvm.Cond.code mn_29 jdk_67_method_1_code 1 none :: ws) ({ frames := 2, cells := 1, slots := 16, locals := 25 } : Room)) (fun a U => a = #[(.ref a1)] ∧ Z.Warmed39 U.vm ∧ U.heap = h0) (fun _ _ _ _ _ => True) (fun _ U o U' => ∃ v L, o = .returned v ∧ Q2 Z a1 cs h0 n0 v U'.heap L ∧ FrameEnd U o U' L ({ frames := 2, cells := 1, slots := 16, locals := 25 } : Room).cells ({ frames := 2, cells := 1, slots := 16, locals := 25 } : Room).slots) := by
  refine MetFree.of_bodySF (plainFor_of_name pn_4) hisR ?_
  intro p e s m args below meth c s₁ Bd hml0 hP hK
  obtain ⟨rfl, hZ, hh⟩ := hP
  have hx := Bd.exec
  have hby := Bd.bytes
  have hml : c.maxLocals = 1 := hml0
  have hown : s.vm.findClass "java/lang/StringBuilder" = some m.cls := findClass_of_methodNamed Bd.named
  have hnm := (name_of_methodNamed Bd.named Bd.method).1
  have X0 : Stand p l e ({ frames := 2, cells := 1, slots := 16, locals := 25 } : Room) s m #[(.ref a1)] below meth c s₁ [] 0 0 := Stand.of_body Bd
  have e0 : s₁.heap = h0 := by rw [← hh, Bd.state]; rfl
  have N0 := Fr.nil n0
  have K0 := Keep.refl h0 [a1]
  have pre0 : ∀ t, Steps p.tables e below (s₁.setTop (mkF m 0 #[.val (.ref a1)] [])) t → Steps p.tables e below (s₁.setTop (entryFrame m #[(.ref a1)] 1)) t := fun t k => castTop (ef_2 m a1) k
  obtain ⟨_, _, ⟨T1, L1, k1, n1⟩, -, X1, ⟨Lc1, hQ1, l1, y1, z1⟩, st1⟩ := X0.specialBack hx (y := mn_28) rfl hown (mvT hZ (ww hw 18 rfl)) (mvT hZ (ww hw 19 rfl)) (mvT hZ (ww hw 23 rfl)) (by decide) (backOf (W := 0) (rm3 l Z a0 hw [] a1 cs h0 n0 (Nat.le_trans Z0 K0.1) O0 E_a1 g_a1 F_value F_coder F_count S_CS h_cs) hZ (ww hw 23 rfl) (ww hw 22 rfl) (by decide) (by decide)) (g := (mkF m 3 #[vR a1] [iI 16, iR a1])) rfl (by rw [hml]; rfl) (Steps.refl _) (a := a1) (argsL := [(.int (16 : Int32))]) (rest := []) (lenOf pd_8 rfl) rfl (wz rfl) (hb hby d2_3) (fun _ _ => ⟨rfl, e0, (by decide : 0 + 1 ≤ _), (by decide : 0 + 16 ≤ _)⟩)
  dsimp only [Pt.U, Pt.locs, Pt.cells, Pt.slots] at X1 l1 y1 z1 st1 hQ1
  subst l1 y1 z1
  obtain ⟨d1, kd1, rfl, N1q, K1q, E1q, Fv1q, Fc1q, Fn1q, V1q, G1q, z_d1⟩ := hQ1
  have ne_a1_d1 : a1 ≠ d1 := Nat.ne_of_lt (Nat.lt_of_lt_of_le E_a1.lt z_d1)
  have sz_d1 : h0.size ≤ d1 := Nat.le_trans K0.1 z_d1
  have g_d1 : n0 ≤ d1 := Nat.le_trans Z0 sz_d1
  have N1 := Fr.app N0 N1q
  have K1 : Keep h0 T1.heap [a1] := Keep.trans K0 K1q (allS (Or.inl (List.mem_of_getElem? (i := 0) rfl)) all0)
  obtain ⟨fs, hr, hrun, hended, hW, hsame⟩ := X1.leave (v := none) (fun _ => rfl)
  refine ⟨_, _, pre0 _ ?_, hrun, hended, _, _, rfl, ?_, ⟨_, rfl⟩, hW, hsame.mono (by decide) (by decide)⟩
  · show SA s₁ m 0 #[vR a1] []
    refine XS.aloadN X0.here hx rfl (hb hby d2_0) rfl rfl ?_
    show SA s₁ m 1 #[vR a1] [iR a1]
    refine XS.bipush X0.here hx rfl (hb hby d2_1) ?_
    show SA s₁ m 3 #[vR a1] [iI 16, iR a1]
    refine st1.trans ?_
    show Steps _ _ _ (T1.setTop (mkF m 6 #[vR a1] [])) _
    exact X1.returnOut hx Bd.returns (hb hby d2_6) hr
  · show Q2 Z a1 cs h0 n0 _ T1.heap _
    exact ⟨_, _, rfl, N1, K1, E1q, Fv1q, Fc1q, Fn1q, V1q, G1q, sz_d1⟩
def own_can (p1 : Int32) : Int32 := (nar .boolean (if (255 : Int32) < p1 then (0 : Int32) else (1 : Int32)))
theorem d35_0 : decode jdk_43_method_3_code 0 = .ok (.iload_n 0, 1) := by decide +kernel
theorem d35_1 : decode jdk_43_method_3_code 1 = .ok (.sipush 255, 3) := by decide +kernel
theorem d35_4 : decode jdk_43_method_3_code 4 = .ok (.if_icmp .gt 7, 3) := by decide +kernel
theorem d35_7 : decode jdk_43_method_3_code 7 = .ok (.iconst 1, 1) := by decide +kernel
theorem d35_8 : decode jdk_43_method_3_code 8 = .ok (.goto 4, 3) := by decide +kernel
theorem d35_11 : decode jdk_43_method_3_code 11 = .ok (.iconst 0, 1) := by decide +kernel
theorem d35_12 : decode jdk_43_method_3_code 12 = .ok (.ireturn, 1) := by decide +kernel
theorem ef_35 (m : MethodId) (x0 : Int32) : entryFrame m #[(.int x0)] 1 = mkF m 0 #[.val (.int x0)] [] := by first | (simp [entryFrame, mkF, argsToLocals, Value.category]; done) | rfl
def Q35 (Z : State) (p1 : Int32) (h0 : Heap) (v : Option Value) (h : Heap) (L : List Loc) : Prop := v = some (.int (own_can p1)) ∧ L = [] ∧ h = h0
theorem rm35 (l : Launch) (Z : State) (a0 : Array Value) (hw : ∀ d ∈ tables_1, d.before a0 Z = true) (ws : List Jvm.Cond) (p1 : Int32) (h0 : Heap) :
    MetFree l mn_30 (head1 (Jvm.Cond.code mn_30 jdk_43_method_3_code 1 (some .boolean) :: ws) ({ frames := 0, cells := 0, slots := 0, locals := 0 } : Room)) (fun a U => a = #[(.int p1)] ∧ Z.Warmed39 U.vm ∧ U.heap = h0) (fun _ _ _ _ _ => True) (fun _ U o U' => ∃ v L, o = .returned v ∧ Q35 Z p1 h0 v U'.heap L ∧ FrameEnd U o U' L ({ frames := 0, cells := 0, slots := 0, locals := 0 } : Room).cells ({ frames := 0, cells := 0, slots := 0, locals := 0 } : Room).slots) := by
  refine MetFree.of_bodySF (plainFor_of_name pn_6) hisR ?_
  intro p e s m args below meth c s₁ Bd hml0 hP hK
  obtain ⟨rfl, hZ, hh⟩ := hP
  have hx := Bd.exec
  have hby := Bd.bytes
  have hml : c.maxLocals = 1 := hml0
  have hown : s.vm.findClass "java/lang/StringLatin1" = some m.cls := findClass_of_methodNamed Bd.named
  have hnm := (name_of_methodNamed Bd.named Bd.method).1
  have X0 : Stand p l e ({ frames := 0, cells := 0, slots := 0, locals := 0 } : Room) s m #[(.int p1)] below meth c s₁ [] 0 0 := Stand.of_body Bd
  have e0 : s₁.heap = h0 := by rw [← hh, Bd.state]; rfl
  have pre0 : ∀ t, Steps p.tables e below (s₁.setTop (mkF m 0 #[.val (.int p1)] [])) t → Steps p.tables e below (s₁.setTop (entryFrame m #[(.int p1)] 1)) t := fun t k => castTop (ef_35 m p1) k
  obtain ⟨v1, hv1⟩ : ∃ z : Int32, z = (if (255 : Int32) < p1 then (0 : Int32) else (1 : Int32)) := ⟨_, rfl⟩
  obtain ⟨T2, X2, e2, st2⟩ : own_Mid X0 h0 (mkF m 4 #[vI p1] [iI 255, iI p1]) (mkF m 12 #[vI p1] [iI v1]) := by
    by_cases hc3 : (255 : Int32) < p1
    · refine ⟨s₁, X0, e0, fun t kt => ?_⟩
      subst hv1
      simp only [if_pos hc3] at kt
      show SA s₁ m 4 #[vI p1] [iI 255, iI p1]
      refine XS.icmpYes X0.here hx rfl (pc0 := 4) (pc' := 11) rfl (hb hby d35_4) rfl (tlt hc3).2.2.1 (by decide) (by decide) ?_
      show SA s₁ m 11 #[vI p1] []
      refine XS.iconst X0.here hx rfl (hb hby d35_11) ?_
      exact kt
    · refine ⟨s₁, X0, e0, fun t kt => ?_⟩
      subst hv1
      simp only [if_neg hc3] at kt
      show SA s₁ m 4 #[vI p1] [iI 255, iI p1]
      refine XS.icmpNo X0.here hx rfl (hb hby d35_4) rfl (flt hc3).2.2.1 ?_
      show SA s₁ m 7 #[vI p1] []
      refine XS.iconst X0.here hx rfl (hb hby d35_7) ?_
      show SA s₁ m 8 #[vI p1] [iI 1]
      refine XS.goto X0.here hx rfl (pc0 := 8) (pc' := 12) rfl (hb hby d35_8) (by decide) (by decide) ?_
      exact kt
  obtain ⟨fs, hr, hrun, hended, hW, hsame⟩ := X2.leave (v := some (.int (nar .boolean v1))) (fun h => by rw [Bd.returns] at h; cases h)
  refine ⟨_, _, pre0 _ ?_, hrun, hended, _, _, rfl, ?_, ⟨_, rfl⟩, hW, hsame.mono (by decide) (by decide)⟩
  · show SA s₁ m 0 #[vI p1] []
    refine XS.iloadN X0.here hx rfl (hb hby d35_0) rfl ?_
    show SA s₁ m 1 #[vI p1] [iI p1]
    refine XS.sipush X0.here hx rfl (hb hby d35_1) ?_
    show SA s₁ m 4 #[vI p1] [iI 255, iI p1]
    refine st2 _ ?_
    show Steps _ _ _ (T2.setTop (mkF m 12 #[vI p1] [iI v1])) _
    exact retN X2 hx (t := .boolean) Bd.returns (by simp) (hb hby d35_12) hr
  · show Q35 Z p1 h0 _ T2.heap _
    rw [e2]
    exact ⟨by subst hv1; first | rfl | (simp only [own_can]; done) | (simp only [own_can]; rfl) | (simp only [own_can, nar] ; first | rfl | (simp; done) | decide), rfl, rfl⟩
theorem d36_0 : decode jdk_43_method_46_code 0 = .ok (.iconst 1, 1) := by decide +kernel
theorem d36_1 : decode jdk_43_method_46_code 1 = .ok (.newarray .byte, 2) := by decide +kernel
theorem d36_3 : decode jdk_43_method_46_code 3 = .ok (.dup, 1) := by decide +kernel
theorem d36_4 : decode jdk_43_method_46_code 4 = .ok (.iconst 0, 1) := by decide +kernel
theorem d36_5 : decode jdk_43_method_46_code 5 = .ok (.iload_n 0, 1) := by decide +kernel
theorem d36_6 : decode jdk_43_method_46_code 6 = .ok (.i2b, 1) := by decide +kernel
theorem d36_7 : decode jdk_43_method_46_code 7 = .ok (.bastore, 1) := by decide +kernel
theorem d36_8 : decode jdk_43_method_46_code 8 = .ok (.areturn, 1) := by decide +kernel
theorem ef_36 (m : MethodId) (x0 : Int32) : entryFrame m #[(.int x0)] 1 = mkF m 0 #[.val (.int x0)] [] := by first | (simp [entryFrame, mkF, argsToLocals, Value.category]; done) | rfl
def Q36 (Z : State) (p1 : Int32) (h0 : Heap) (n0 : Nat) (v : Option Value) (h : Heap) (L : List Loc) : Prop := ∃ (o : Addr) (ko : ClassId), v = some (.ref o) ∧ Fr n0 L ∧ Keep h0 h [] ∧ Arv Z h o ko .byte (1 : Int32) (own_bs [(nar .byte p1.toInt8.toInt32)]) (.int (0 : Int32)) ∧ h0.size ≤ o
theorem rm36 (l : Launch) (Z : State) (a0 : Array Value) (hw : ∀ d ∈ tables_1, d.before a0 Z = true) (ws : List Jvm.Cond) (p1 : Int32) (h0 : Heap) (n0 : Nat) (Z0 : n0 ≤ h0.size) :
    MetFree l mn_31 (head1 (Jvm.Cond.code mn_31 jdk_43_method_46_code 1 (some (.array .byte)) :: ws) ({ frames := 0, cells := 1, slots := 1, locals := 0 } : Room)) (fun a U => a = #[(.int p1)] ∧ Z.Warmed39 U.vm ∧ U.heap = h0) (fun _ _ _ _ _ => True) (fun _ U o U' => ∃ v L, o = .returned v ∧ Q36 Z p1 h0 n0 v U'.heap L ∧ FrameEnd U o U' L ({ frames := 0, cells := 1, slots := 1, locals := 0 } : Room).cells ({ frames := 0, cells := 1, slots := 1, locals := 0 } : Room).slots) := by
  refine MetFree.of_bodySF (plainFor_of_name pn_6) hisR ?_
  intro p e s m args below meth c s₁ Bd hml0 hP hK
  obtain ⟨rfl, hZ, hh⟩ := hP
  have hx := Bd.exec
  have hby := Bd.bytes
  have hml : c.maxLocals = 1 := hml0
  have hown : s.vm.findClass "java/lang/StringLatin1" = some m.cls := findClass_of_methodNamed Bd.named
  have hnm := (name_of_methodNamed Bd.named Bd.method).1
  have X0 : Stand p l e ({ frames := 0, cells := 1, slots := 1, locals := 0 } : Room) s m #[(.int p1)] below meth c s₁ [] 0 0 := Stand.of_body Bd
  have e0 : s₁.heap = h0 := by rw [← hh, Bd.state]; rfl
  have N0 := Fr.nil n0
  have K0 := Keep.refl h0 []
  have pre0 : ∀ t, Steps p.tables e below (s₁.setTop (mkF m 0 #[.val (.int p1)] [])) t → Steps p.tables e below (s₁.setTop (entryFrame m #[(.int p1)] 1)) t := fun t k => castTop (ef_36 m p1) k
  obtain ⟨T1, h1, k1, X1, e1, E1, A1, st1⟩ := newP X0 hx hZ (ww hw 3 rfl) e0 (g := (mkF m 1 #[vI p1] [iI 1])) rfl (hb hby d36_1) rfl (by decide) (cap := 1) (by decide) (by decide) (by decide) (by decide)
  obtain ⟨b1, g1⟩ : ∃ z, z = h0.size := ⟨_, rfl⟩
  rw [← g1] at A1 st1
  have sz_b1 : h0.size ≤ b1 := Nat.le_trans K0.1 (Nat.le_of_eq g1.symm)
  have g_b1 : n0 ≤ b1 := Nat.le_trans Z0 sz_b1
  have K1 : Keep h0 h1 [] := K0.ext E1
  have V1 : Arv Z h1 b1 k1 .byte (1 : Int32) [(.int (0 : Int32))] (.int (0 : Int32)) := (Arv.new A1 (by decide)).pad (pad_rep [] (.int (0 : Int32)) 1)
  obtain ⟨cl2, Ar2, q2, S2, M2, H2, G2⟩ := id V1
  have hin3 : ¬ ((0 : Int32) < 0 ∨ cl2.slots.size ≤ ((0 : Int32)).toNatClampNeg) := inb_of S2 ⟨by decide, by decide⟩
  obtain ⟨T4, h4, X4, e4, W4, st4⟩ := stB X1 hx hZ e1 Ar2 (j := (0 : Int32)) hin3 (g := (mkF m 7 #[vI p1] [iI p1.toInt8.toInt32, iI 0, iR b1, iR b1])) rfl rfl (hb hby d36_7)
  have V4 : Arv Z h4 b1 k1 .byte (1 : Int32) [(.int (nar .byte p1.toInt8.toInt32))] (.int (0 : Int32)) := Arv.set Ar2 q2 S2 M2 H2 G2 (fits_nar_byte _) W4 0 rfl (Nat.le_of_ble_eq_true rfl)
  have K4 : Keep h0 h4 [] := K1.wr W4 (Or.inr sz_b1)
  have N4 := Fr.snoc X4 N0 g_b1
  obtain ⟨fs, hr, hrun, hended, hW, hsame⟩ := X4.leave (v := some (.ref b1)) (fun h => by rw [Bd.returns] at h; cases h)
  refine ⟨_, _, pre0 _ ?_, hrun, hended, _, _, rfl, ?_, ⟨_, rfl⟩, hW, hsame.mono (by decide) (by decide)⟩
  · show SA s₁ m 0 #[vI p1] []
    refine XS.iconst X0.here hx rfl (hb hby d36_0) ?_
    show SA s₁ m 1 #[vI p1] [iI 1]
    refine st1 _ ?_
    show SA T1 m 3 #[vI p1] [iR b1]
    refine XS.dup X1.here hx rfl (hb hby d36_3) rfl rfl ?_
    show SA T1 m 4 #[vI p1] [iR b1, iR b1]
    refine XS.iconst X1.here hx rfl (hb hby d36_4) ?_
    show SA T1 m 5 #[vI p1] [iI 0, iR b1, iR b1]
    refine XS.iloadN X1.here hx rfl (hb hby d36_5) rfl ?_
    show SA T1 m 6 #[vI p1] [iI p1, iI 0, iR b1, iR b1]
    refine XS.i2b X1.here hx rfl (hb hby d36_6) rfl ?_
    show SA T1 m 7 #[vI p1] [iI p1.toInt8.toInt32, iI 0, iR b1, iR b1]
    refine st4 _ ?_
    show Steps _ _ _ (T4.setTop (mkF m 8 #[vI p1] [iR b1])) _
    jvm_step X4.here [X4.here.top, hx, (hb hby d36_8), X4.method', Bd.returns, Value.isRef, FieldType.isReference]
    first | (intro acts; rw [hr _ acts rfl rfl rfl]) | rw [hr _ _ rfl rfl rfl]
    exact Steps.refl _
  · show Q36 Z p1 h0 n0 _ T4.heap _
    rw [e4]
    exact ⟨_, _, rfl, N4, K4, V4, sz_b1⟩
theorem d37_0 : decode jdk_42_method_151_code 0 = .ok (.aload_n 0, 1) := by decide +kernel
theorem d37_1 : decode jdk_42_method_151_code 1 = .ok (.invokespecial 1, 3) := by decide +kernel
theorem d37_4 : decode jdk_42_method_151_code 4 = .ok (.aload_n 0, 1) := by decide +kernel
theorem d37_5 : decode jdk_42_method_151_code 5 = .ok (.aload_n 1, 1) := by decide +kernel
theorem d37_6 : decode jdk_42_method_151_code 6 = .ok (.putfield 9, 3) := by decide +kernel
theorem d37_9 : decode jdk_42_method_151_code 9 = .ok (.aload_n 0, 1) := by decide +kernel
theorem d37_10 : decode jdk_42_method_151_code 10 = .ok (.iload_n 2, 1) := by decide +kernel
theorem d37_11 : decode jdk_42_method_151_code 11 = .ok (.putfield 15, 3) := by decide +kernel
theorem d37_14 : decode jdk_42_method_151_code 14 = .ok (.return_, 1) := by decide +kernel
theorem ef_37 (m : MethodId) (x0 : Addr) (x1 : Addr) : entryFrame m #[(.ref x0), (.ref x1), (.int (0 : Int32))] 3 = mkF m 0 #[.val (.ref x0), .val (.ref x1), .val (.int (0 : Int32))] [] := by first | (simp [entryFrame, mkF, argsToLocals, Value.category]; done) | rfl
def Q37 (Z : State) (a1 : Addr) (a2 : Addr) (h0 : Heap) (n0 : Nat) (v : Option Value) (h : Heap) (L : List Loc) : Prop := v = none ∧ Fr n0 L ∧ Keep h0 h [a1] ∧ Exa Z h a1 "java/lang/String" ∧ Fld Z h a1 "java/lang/String" "coder" "B" (.int (0 : Int32)) ∧ Fld Z h a1 "java/lang/String" "value" "[B" (.ref a2)
theorem rm37 (l : Launch) (Z : State) (a0 : Array Value) (hw : ∀ d ∈ tables_1, d.before a0 Z = true) (ws : List Jvm.Cond) (a1 : Addr) (a2 : Addr) (h0 : Heap) (n0 : Nat) (Z0 : n0 ≤ h0.size) (E_a1 : Exa Z h0 a1 "java/lang/String") (g_a1 : n0 ≤ a1) (H_v : Fld Z h0 a1 "java/lang/String" "value" "[B" .null) (H_c : Fld Z h0 a1 "java/lang/String" "coder" "B" (.int (0 : Int32))) (ne_a1_a2 : a1 ≠ a2) :
    MetFree l mn_32 (head1 (Jvm.Cond.code mn_32 jdk_42_method_151_code 3 none :: ws) ({ frames := 1, cells := 0, slots := 0, locals := 12 } : Room)) (fun a U => a = #[(.ref a1), (.ref a2), (.int (0 : Int32))] ∧ Z.Warmed39 U.vm ∧ U.heap = h0) (fun _ _ _ _ _ => True) (fun _ U o U' => ∃ v L, o = .returned v ∧ Q37 Z a1 a2 h0 n0 v U'.heap L ∧ FrameEnd U o U' L ({ frames := 1, cells := 0, slots := 0, locals := 12 } : Room).cells ({ frames := 1, cells := 0, slots := 0, locals := 12 } : Room).slots) := by
  refine MetFree.of_bodySF (plainFor_of_name pn_0) hisR ?_
  intro p e s m args below meth c s₁ Bd hml0 hP hK
  obtain ⟨rfl, hZ, hh⟩ := hP
  have hx := Bd.exec
  have hby := Bd.bytes
  have hml : c.maxLocals = 3 := hml0
  have hown : s.vm.findClass "java/lang/String" = some m.cls := findClass_of_methodNamed Bd.named
  have hnm := (name_of_methodNamed Bd.named Bd.method).1
  have X0 : Stand p l e ({ frames := 1, cells := 0, slots := 0, locals := 12 } : Room) s m #[(.ref a1), (.ref a2), (.int (0 : Int32))] below meth c s₁ [] 0 0 := Stand.of_body Bd
  have e0 : s₁.heap = h0 := by rw [← hh, Bd.state]; rfl
  have N0 := Fr.nil n0
  have K0 := Keep.refl h0 [a1]
  have pre0 : ∀ t, Steps p.tables e below (s₁.setTop (mkF m 0 #[.val (.ref a1), .val (.ref a2), .val (.int (0 : Int32))] [])) t → Steps p.tables e below (s₁.setTop (entryFrame m #[(.ref a1), (.ref a2), (.int (0 : Int32))] 3)) t := fun t k => castTop (ef_37 m a1 a2) k
  obtain ⟨T1, X1, e1, st1⟩ := initO X0 hx hZ hown (ww hw 121 rfl) (ww hw 25 rfl) (ww hw 26 rfl) e0 (g := (mkF m 1 #[vR a1, vR a2, vI 0] [iR a1])) rfl (by rw [hml]; rfl) rfl (hb hby d37_1) (by decide) (W := 0) (wz rfl) (by decide)
  obtain ⟨T2, h2, X2, e2, W2, st2⟩ := putF X1 hx hZ hown (host := "") (Or.inl (ww hw 47 rfl)) Via.refl e1 H_v E_a1 (Or.inr ⟨(ww hw 4 rfl), rfl, hnm⟩) (ww hw 2 rfl) (ty := (.array .byte)) (by decide) rfl rfl (g := (mkF m 6 #[vR a1, vR a2, vI 0] [iR a2, iR a1])) rfl rfl (hb hby d37_6)
  have Fw2 := H_v.same W2
  have K2 : Keep h0 h2 [a1] := K0.wr W2 (Or.inl (List.mem_of_getElem? (i := 0) rfl))
  have N2 := Fr.snoc X2 N0 g_a1
  have fk3 := (H_c.other W2 (Or.inr (slot_ne (Or.inr (ww hw 5 rfl)) (Or.inr (ww hw 4 rfl)) (by decide) (t := .byte) (t' := (.array .byte)) (by decide) (by decide))))
  have fk4 := (E_a1.wr W2)
  obtain ⟨T5, h5, X5, e5, W5, st5⟩ := putFN X2 hx hZ hown (ww hw 54 rfl) Via.refl e2 fk3 fk4 (Or.inr ⟨(ww hw 5 rfl), rfl, hnm⟩) (ww hw 2 rfl) (ty := .byte) (v' := (.int (0 : Int32))) (by decide) rfl (by decide) (g := (mkF m 11 #[vR a1, vR a2, vI 0] [iI 0, iR a1])) rfl rfl (hb hby d37_11)
  have Fw5 := fk3.same W5
  have K5 : Keep h0 h5 [a1] := K2.wr W5 (Or.inl (List.mem_of_getElem? (i := 0) rfl))
  have N5 := Fr.snoc X5 N2 g_a1
  obtain ⟨fs, hr, hrun, hended, hW, hsame⟩ := X5.leave (v := none) (fun _ => rfl)
  have fk6 := (fk4.wr W5)
  have fk7 := (Fw2.other W5 (Or.inr (slot_ne (Or.inr (ww hw 4 rfl)) (Or.inr (ww hw 5 rfl)) (by decide) (t := (.array .byte)) (t' := .byte) (by decide) (by decide))))
  refine ⟨_, _, pre0 _ ?_, hrun, hended, _, _, rfl, ?_, ⟨_, rfl⟩, hW, hsame.mono (by decide) (by decide)⟩
  · show SA s₁ m 0 #[vR a1, vR a2, vI 0] []
    refine XS.aloadN X0.here hx rfl (hb hby d37_0) rfl rfl ?_
    show SA s₁ m 1 #[vR a1, vR a2, vI 0] [iR a1]
    refine st1 _ ?_
    show SA T1 m 4 #[vR a1, vR a2, vI 0] []
    refine XS.aloadN X1.here hx rfl (hb hby d37_4) rfl rfl ?_
    show SA T1 m 5 #[vR a1, vR a2, vI 0] [iR a1]
    refine XS.aloadN X1.here hx rfl (hb hby d37_5) rfl rfl ?_
    show SA T1 m 6 #[vR a1, vR a2, vI 0] [iR a2, iR a1]
    refine st2 _ ?_
    show SA T2 m 9 #[vR a1, vR a2, vI 0] []
    refine XS.aloadN X2.here hx rfl (hb hby d37_9) rfl rfl ?_
    show SA T2 m 10 #[vR a1, vR a2, vI 0] [iR a1]
    refine XS.iloadN X2.here hx rfl (hb hby d37_10) rfl ?_
    show SA T2 m 11 #[vR a1, vR a2, vI 0] [iI 0, iR a1]
    refine st5 _ ?_
    show Steps _ _ _ (T5.setTop (mkF m 14 #[vR a1, vR a2, vI 0] [])) _
    exact X5.returnOut hx Bd.returns (hb hby d37_14) hr
  · show Q37 Z a1 a2 h0 n0 _ T5.heap _
    rw [e5]
    exact ⟨rfl, N5, K5, fk6, Fw5, fk7⟩
theorem d34_0 : decode jdk_42_method_139_code 0 = .ok (.getstatic 38, 3) := by decide +kernel
theorem d34_3 : decode jdk_42_method_139_code 3 = .ok (.ifCond .eq 23, 3) := by decide +kernel
theorem d34_6 : decode jdk_42_method_139_code 6 = .ok (.iload_n 0, 1) := by decide +kernel
theorem d34_7 : decode jdk_42_method_139_code 7 = .ok (.invokestatic 1015, 3) := by decide +kernel
theorem d34_10 : decode jdk_42_method_139_code 10 = .ok (.ifCond .eq 16, 3) := by decide +kernel
theorem d34_13 : decode jdk_42_method_139_code 13 = .ok (.new 10, 3) := by decide +kernel
theorem d34_16 : decode jdk_42_method_139_code 16 = .ok (.dup, 1) := by decide +kernel
theorem d34_17 : decode jdk_42_method_139_code 17 = .ok (.iload_n 0, 1) := by decide +kernel
theorem d34_18 : decode jdk_42_method_139_code 18 = .ok (.invokestatic 1018, 3) := by decide +kernel
theorem d34_21 : decode jdk_42_method_139_code 21 = .ok (.iconst 0, 1) := by decide +kernel
theorem d34_22 : decode jdk_42_method_139_code 22 = .ok (.invokespecial 209, 3) := by decide +kernel
theorem d34_25 : decode jdk_42_method_139_code 25 = .ok (.areturn, 1) := by decide +kernel
theorem ef_34 (m : MethodId) (x0 : Int32) : entryFrame m #[(.int x0)] 1 = mkF m 0 #[.val (.int x0)] [] := by first | (simp [entryFrame, mkF, argsToLocals, Value.category]; done) | rfl
def Q34 (Z : State) (p1 : Int32) (cs : Int32) (h0 : Heap) (n0 : Nat) (v : Option Value) (h : Heap) (L : List Loc) : Prop := ∃ (o d : Addr) (ko : ClassId), v = some (.ref o) ∧ Fr n0 L ∧ Keep h0 h [] ∧ Exa Z h o "java/lang/String" ∧ Fld Z h o "java/lang/String" "coder" "B" (.int (0 : Int32)) ∧ Fld Z h o "java/lang/String" "value" "[B" (.ref d) ∧ Arv Z h d ko .byte (1 : Int32) (own_bs [(nar .byte p1.toInt8.toInt32)]) (.int (0 : Int32)) ∧ h0.size ≤ o ∧ h0.size ≤ d
theorem rm34 (l : Launch) (Z : State) (a0 : Array Value) (hw : ∀ d ∈ tables_1, d.before a0 Z = true) (ws : List Jvm.Cond) (p1 : Int32) (cs : Int32) (h0 : Heap) (n0 : Nat) (Z0 : n0 ≤ h0.size) (O0 : Old Z n0 h0) (hl : ¬ (255 : Int32) < p1) (S_CS : Sta Z Z.heap "java/lang/String" "COMPACT_STRINGS" "Z" (.int cs)) (h_cs : ¬ cs = (0 : Int32)) :
    MetFree l mn_33 (head1 (Jvm.Cond.code mn_33 jdk_42_method_139_code 1 (some (.object "java/lang/String")) :: ws) ({ frames := 2, cells := 2, slots := 5, locals := 27 } : Room)) (fun a U => a = #[(.int p1)] ∧ Z.Warmed39 U.vm ∧ U.heap = h0) (fun _ _ _ _ _ => True) (fun _ U o U' => ∃ v L, o = .returned v ∧ Q34 Z p1 cs h0 n0 v U'.heap L ∧ FrameEnd U o U' L ({ frames := 2, cells := 2, slots := 5, locals := 27 } : Room).cells ({ frames := 2, cells := 2, slots := 5, locals := 27 } : Room).slots) := by
  refine MetFree.of_bodySF (plainFor_of_name pn_0) hisR ?_
  intro p e s m args below meth c s₁ Bd hml0 hP hK
  obtain ⟨rfl, hZ, hh⟩ := hP
  have hx := Bd.exec
  have hby := Bd.bytes
  have hml : c.maxLocals = 1 := hml0
  have hown : s.vm.findClass "java/lang/String" = some m.cls := findClass_of_methodNamed Bd.named
  have hnm := (name_of_methodNamed Bd.named Bd.method).1
  have X0 : Stand p l e ({ frames := 2, cells := 2, slots := 5, locals := 27 } : Room) s m #[(.int p1)] below meth c s₁ [] 0 0 := Stand.of_body Bd
  have e0 : s₁.heap = h0 := by rw [← hh, Bd.state]; rfl
  have N0 := Fr.nil n0
  have K0 := Keep.refl h0 []
  have pre0 : ∀ t, Steps p.tables e below (s₁.setTop (mkF m 0 #[.val (.int p1)] [])) t → Steps p.tables e below (s₁.setTop (entryFrame m #[(.int p1)] 1)) t := fun t k => castTop (ef_34 m p1) k
  obtain ⟨T1, X1, e1, st1⟩ := getS2 X0 hx hZ hown (host := "") (Or.inl (ww hw 53 rfl)) Via.refl e0 (S_CS.ext O0.2) (g := (mkF m 0 #[vI p1] [])) rfl (hb hby d34_0)
  obtain ⟨_, _, ⟨T2, L2, k2, n2⟩, -, X2, ⟨Lc2, hQ2, l2, y2, z2⟩, st2⟩ := Jvm.LawKit.callS X1 hx (y := mn_30) hown (mvT hZ (ww hw 179 rfl)) (mvT hZ (ww hw 180 rfl)) (mvT hZ (ww hw 166 rfl)) (mvT hZ (ww hw 181 rfl)) (by decide) (backOf (W := 0) (rm35 l Z a0 hw [] p1 h0 ) hZ (ww hw 181 rfl) (ww hw 166 rfl) (by decide) (by decide)) (g := (mkF m 7 #[vI p1] [iI p1])) rfl (by rw [hml]; rfl) (argsL := [(.int p1)]) (rest := []) (lenOf pd_19 rfl) rfl (wz rfl) (hb hby d34_7) (fun _ _ => ⟨rfl, e1, (by decide : 0 + 0 ≤ _), (by decide : 0 + 0 ≤ _)⟩)
  dsimp only [Pt.U, Pt.locs, Pt.cells, Pt.slots] at X2 l2 y2 z2 st2 hQ2
  subst l2 y2 z2
  obtain ⟨rfl, rfl, e2⟩ := hQ2
  try rw [List.append_nil] at X2
  have hh3 : ¬ ((own_can p1) = (0 : Int32)) := (by unfold own_can; rw [if_neg hl]; decide)
  obtain ⟨T4, h4, X4, e4, E4, A4, D4, -, st4⟩ := newO X2 hx hZ hown (ww hw 182 rfl) (ww hw 2 rfl) (ww hw 1 rfl) e2 (g := (mkF m 13 #[vI p1] [])) rfl (hb hby d34_13) (by decide) (by decide)
  obtain ⟨b4, g4⟩ : ∃ z, z = h0.size := ⟨_, rfl⟩
  rw [← g4] at A4 D4 st4
  have sz_b4 : h0.size ≤ b4 := Nat.le_trans K0.1 (Nat.le_of_eq g4.symm)
  have g_b4 : n0 ≤ b4 := Nat.le_trans Z0 sz_b4
  have K4 : Keep h0 h4 [] := K0.ext E4
  have F_value_b4 : Fld Z h4 b4 "java/lang/String" "value" "[B" .null := D4 (Or.inr (ww hw 4 rfl)) (ty := (.array .byte)) (by decide)
  have F_coder_b4 : Fld Z h4 b4 "java/lang/String" "coder" "B" (.int (0 : Int32)) := D4 (Or.inr (ww hw 5 rfl)) (ty := .byte) (by decide)
  obtain ⟨_, _, ⟨T5, L5, k5, n5⟩, -, X5, ⟨Lc5, hQ5, l5, y5, z5⟩, st5⟩ := Jvm.LawKit.callS X4 hx (y := mn_31) hown (mvT hZ (ww hw 183 rfl)) (mvT hZ (ww hw 184 rfl)) (mvT hZ (ww hw 166 rfl)) (mvT hZ (ww hw 185 rfl)) (by decide) (backOf (W := 2) (rm36 l Z a0 hw [] p1 h4 n0 (Nat.le_trans Z0 K4.1) ) hZ (ww hw 185 rfl) (ww hw 166 rfl) (by decide) (by decide)) (g := (mkF m 18 #[vI p1] [iI p1, iR b4, iR b4])) rfl (by rw [hml]; rfl) (argsL := [(.int p1)]) (rest := [(.ref b4), (.ref b4)]) (lenOf pd_20 rfl) rfl (wz rfl) (hb hby d34_18) (fun _ _ => ⟨rfl, e4, (by decide : 1 + 1 ≤ _), (by decide : 4 + 1 ≤ _)⟩)
  dsimp only [Pt.U, Pt.locs, Pt.cells, Pt.slots] at X5 l5 y5 z5 st5 hQ5
  subst l5 y5 z5
  obtain ⟨d5, kd5, rfl, N5q, K5q, V5q, z_d5⟩ := hQ5
  have ne_b4_d5 : b4 ≠ d5 := Nat.ne_of_lt (Nat.lt_of_lt_of_le A4.lt z_d5)
  have sz_d5 : h0.size ≤ d5 := Nat.le_trans K4.1 z_d5
  have g_d5 : n0 ≤ d5 := Nat.le_trans Z0 sz_d5
  have N5 := Fr.app N0 N5q
  have K5 : Keep h0 T5.heap [] := Keep.trans K4 K5q all0
  have fk7 := (A4.keep K5q)
  have fk8 := (F_value_b4.keep K5q nin0)
  have fk9 := (F_coder_b4.keep K5q nin0)
  obtain ⟨_, _, ⟨T6, L6, k6, n6⟩, -, X6, ⟨Lc6, hQ6, l6, y6, z6⟩, st6⟩ := X5.specialBack hx (y := mn_32) rfl hown (mvT hZ (ww hw 186 rfl)) (mvT hZ (ww hw 187 rfl)) (mvT hZ (ww hw 188 rfl)) (by decide) (backOf (W := 1) (rm37 l Z a0 hw [] b4 d5 T5.heap n0 (Nat.le_trans Z0 K5.1) fk7 g_b4 fk8 fk9 ne_b4_d5) hZ (ww hw 188 rfl) (ww hw 1 rfl) (by decide) (by decide)) (g := (mkF m 22 #[vI p1] [iI 0, iR d5, iR b4, iR b4])) rfl (by rw [hml]; rfl) (Steps.refl _) (a := b4) (argsL := [(.ref d5), (.int (0 : Int32))]) (rest := [(.ref b4)]) (lenOf pd_21 rfl) rfl (wz rfl) (hb hby d34_22) (fun _ _ => ⟨rfl, rfl, (by decide : 2 + 0 ≤ _), (by decide : 5 + 0 ≤ _)⟩)
  dsimp only [Pt.U, Pt.locs, Pt.cells, Pt.slots] at X6 l6 y6 z6 st6 hQ6
  subst l6 y6 z6
  obtain ⟨rfl, N6q, K6q, E6q, C6q, F6q⟩ := hQ6
  have N6 := Fr.app N5 N6q
  have K6 : Keep h0 T6.heap [] := Keep.trans K5 K6q (allS (Or.inr sz_b4) all0)
  obtain ⟨fs, hr, hrun, hended, hW, hsame⟩ := X6.leave (v := some (.ref b4)) (fun h => by rw [Bd.returns] at h; cases h)
  have fk10 := (V5q.keep K6q (ninS (Ne.symm ne_b4_d5) nin0))
  refine ⟨_, _, pre0 _ ?_, hrun, hended, _, _, rfl, ?_, ⟨_, rfl⟩, hW, hsame.mono (by decide) (by decide)⟩
  · show SA s₁ m 0 #[vI p1] []
    refine st1 _ ?_
    show SA T1 m 3 #[vI p1] [iI cs]
    refine XS.ifNo X1.here hx rfl (hb hby d34_3) rfl ((if0 _ _).trans (feq h_cs).1) ?_
    show SA T1 m 6 #[vI p1] []
    refine XS.iloadN X1.here hx rfl (hb hby d34_6) rfl ?_
    show SA T1 m 7 #[vI p1] [iI p1]
    refine st2 _ ?_
    show SA T2 m 10 #[vI p1] [iI (own_can p1)]
    refine XS.ifNo X2.here hx rfl (hb hby d34_10) rfl ((if0 _ _).trans (feq hh3).1) ?_
    show SA T2 m 13 #[vI p1] []
    refine st4 _ ?_
    show SA T4 m 16 #[vI p1] [iR b4]
    refine XS.dup X4.here hx rfl (hb hby d34_16) rfl rfl ?_
    show SA T4 m 17 #[vI p1] [iR b4, iR b4]
    refine XS.iloadN X4.here hx rfl (hb hby d34_17) rfl ?_
    show SA T4 m 18 #[vI p1] [iI p1, iR b4, iR b4]
    refine st5 _ ?_
    show SA T5 m 21 #[vI p1] [iR d5, iR b4, iR b4]
    refine XS.iconst X5.here hx rfl (hb hby d34_21) ?_
    show SA T5 m 22 #[vI p1] [iI 0, iR d5, iR b4, iR b4]
    refine st6.trans ?_
    show Steps _ _ _ (T6.setTop (mkF m 25 #[vI p1] [iR b4])) _
    jvm_step X6.here [X6.here.top, hx, (hb hby d34_25), X6.method', Bd.returns, Value.isRef, FieldType.isReference]
    first | (intro acts; rw [hr _ acts rfl rfl rfl]) | rw [hr _ _ rfl rfl rfl]
    exact Steps.refl _
  · show Q34 Z p1 cs h0 n0 _ T6.heap _
    exact ⟨_, _, _, rfl, N6, K6, E6q, C6q, F6q, fk10, sz_b4, sz_d5⟩
abbrev own_by (v : Int32) : Int32 := nar .byte v.toInt8.toInt32
def own_B1 (a : List Int32) : List Int32 := a ++ [(32 : Int32), (114 : Int32), (101 : Int32), (97 : Int32), (108 : Int32), (109 : Int32), (61 : Int32), (34 : Int32), (99 : Int32), (108 : Int32), (111 : Int32), (117 : Int32), (100 : Int32), (45 : Int32), (116 : Int32), (111 : Int32), (45 : Int32), (99 : Int32), (111 : Int32), (114 : Int32), (101 : Int32), (34 : Int32)]
def own_B2 (a b : List Int32) : List Int32 := a ++ ([(32 : Int32), (114 : Int32), (101 : Int32), (97 : Int32), (108 : Int32), (109 : Int32), (61 : Int32), (34 : Int32), (99 : Int32), (108 : Int32), (111 : Int32), (117 : Int32), (100 : Int32), (45 : Int32), (116 : Int32), (111 : Int32), (45 : Int32), (99 : Int32), (111 : Int32), (114 : Int32), (101 : Int32), (34 : Int32)] ++ ([(44 : Int32), (32 : Int32), (101 : Int32), (114 : Int32), (114 : Int32), (111 : Int32), (114 : Int32), (61 : Int32), (34 : Int32)] ++ (b ++ [(34 : Int32)])))
abbrev own_Rk (p z : Int32) : Prop := (¬ p < (0 : Int32) ∧ p < z) ∧ (¬ (p + (1 : Int32)) < (0 : Int32) ∧ (p + (1 : Int32)) < z) ∧ (¬ (p + (2 : Int32)) < (0 : Int32) ∧ (p + (2 : Int32)) < z) ∧ (¬ (p + (3 : Int32)) < (0 : Int32) ∧ (p + (3 : Int32)) < z) ∧ (¬ (p + (4 : Int32)) < (0 : Int32) ∧ (p + (4 : Int32)) < z) ∧ (¬ (p + (5 : Int32)) < (0 : Int32) ∧ (p + (5 : Int32)) < z) ∧ (¬ (p + (6 : Int32)) < (0 : Int32) ∧ (p + (6 : Int32)) < z) ∧ (¬ (p + (7 : Int32)) < (0 : Int32) ∧ (p + (7 : Int32)) < z) ∧ (¬ (p + (8 : Int32)) < (0 : Int32) ∧ (p + (8 : Int32)) < z) ∧ (¬ (p + (9 : Int32)) < (0 : Int32) ∧ (p + (9 : Int32)) < z) ∧ (¬ (p + (10 : Int32)) < (0 : Int32) ∧ (p + (10 : Int32)) < z) ∧ (¬ (p + (11 : Int32)) < (0 : Int32) ∧ (p + (11 : Int32)) < z) ∧ (¬ (p + (12 : Int32)) < (0 : Int32) ∧ (p + (12 : Int32)) < z) ∧ (¬ (p + (13 : Int32)) < (0 : Int32) ∧ (p + (13 : Int32)) < z) ∧ (¬ (p + (14 : Int32)) < (0 : Int32) ∧ (p + (14 : Int32)) < z) ∧ (¬ (p + (15 : Int32)) < (0 : Int32) ∧ (p + (15 : Int32)) < z) ∧ (¬ (p + (16 : Int32)) < (0 : Int32) ∧ (p + (16 : Int32)) < z) ∧ (¬ (p + (17 : Int32)) < (0 : Int32) ∧ (p + (17 : Int32)) < z) ∧ (¬ (p + (18 : Int32)) < (0 : Int32) ∧ (p + (18 : Int32)) < z) ∧ (¬ (p + (19 : Int32)) < (0 : Int32) ∧ (p + (19 : Int32)) < z) ∧ (¬ (p + (20 : Int32)) < (0 : Int32) ∧ (p + (20 : Int32)) < z) ∧ (¬ (p + (21 : Int32)) < (0 : Int32) ∧ (p + (21 : Int32)) < z)
abbrev own_Re (B : List Int32) (p : Int32) : Prop := own_chr (B.getD p.toNatClampNeg 0) = (32 : Int32) ∧ own_chr (B.getD (p + (1 : Int32)).toNatClampNeg 0) = (114 : Int32) ∧ own_chr (B.getD (p + (2 : Int32)).toNatClampNeg 0) = (101 : Int32) ∧ own_chr (B.getD (p + (3 : Int32)).toNatClampNeg 0) = (97 : Int32) ∧ own_chr (B.getD (p + (4 : Int32)).toNatClampNeg 0) = (108 : Int32) ∧ own_chr (B.getD (p + (5 : Int32)).toNatClampNeg 0) = (109 : Int32) ∧ own_chr (B.getD (p + (6 : Int32)).toNatClampNeg 0) = (61 : Int32) ∧ own_chr (B.getD (p + (7 : Int32)).toNatClampNeg 0) = (34 : Int32) ∧ own_chr (B.getD (p + (8 : Int32)).toNatClampNeg 0) = (99 : Int32) ∧ own_chr (B.getD (p + (9 : Int32)).toNatClampNeg 0) = (108 : Int32) ∧ own_chr (B.getD (p + (10 : Int32)).toNatClampNeg 0) = (111 : Int32) ∧ own_chr (B.getD (p + (11 : Int32)).toNatClampNeg 0) = (117 : Int32) ∧ own_chr (B.getD (p + (12 : Int32)).toNatClampNeg 0) = (100 : Int32) ∧ own_chr (B.getD (p + (13 : Int32)).toNatClampNeg 0) = (45 : Int32) ∧ own_chr (B.getD (p + (14 : Int32)).toNatClampNeg 0) = (116 : Int32) ∧ own_chr (B.getD (p + (15 : Int32)).toNatClampNeg 0) = (111 : Int32) ∧ own_chr (B.getD (p + (16 : Int32)).toNatClampNeg 0) = (45 : Int32) ∧ own_chr (B.getD (p + (17 : Int32)).toNatClampNeg 0) = (99 : Int32) ∧ own_chr (B.getD (p + (18 : Int32)).toNatClampNeg 0) = (111 : Int32) ∧ own_chr (B.getD (p + (19 : Int32)).toNatClampNeg 0) = (114 : Int32) ∧ own_chr (B.getD (p + (20 : Int32)).toNatClampNeg 0) = (101 : Int32) ∧ own_chr (B.getD (p + (21 : Int32)).toNatClampNeg 0) = (34 : Int32)
theorem d28_0 : decode method_2_code 0 = .ok (.aload_n 0, 1) := by decide +kernel
theorem d28_1 : decode method_2_code 1 = .ok (.iload_n 1, 1) := by decide +kernel
theorem d28_2 : decode method_2_code 2 = .ok (.invokevirtual 7, 3) := by decide +kernel
theorem d28_5 : decode method_2_code 5 = .ok (.bipush 32, 2) := by decide +kernel
theorem d28_7 : decode method_2_code 7 = .ok (.if_icmp .ne 275, 3) := by decide +kernel
theorem d28_10 : decode method_2_code 10 = .ok (.aload_n 0, 1) := by decide +kernel
theorem d28_11 : decode method_2_code 11 = .ok (.iload_n 1, 1) := by decide +kernel
theorem d28_12 : decode method_2_code 12 = .ok (.iconst 1, 1) := by decide +kernel
theorem d28_13 : decode method_2_code 13 = .ok (.iadd, 1) := by decide +kernel
theorem d28_14 : decode method_2_code 14 = .ok (.invokevirtual 7, 3) := by decide +kernel
theorem d28_17 : decode method_2_code 17 = .ok (.bipush 114, 2) := by decide +kernel
theorem d28_19 : decode method_2_code 19 = .ok (.if_icmp .ne 263, 3) := by decide +kernel
theorem d28_22 : decode method_2_code 22 = .ok (.aload_n 0, 1) := by decide +kernel
theorem d28_23 : decode method_2_code 23 = .ok (.iload_n 1, 1) := by decide +kernel
theorem d28_24 : decode method_2_code 24 = .ok (.iconst 2, 1) := by decide +kernel
theorem d28_25 : decode method_2_code 25 = .ok (.iadd, 1) := by decide +kernel
theorem d28_26 : decode method_2_code 26 = .ok (.invokevirtual 7, 3) := by decide +kernel
theorem d28_29 : decode method_2_code 29 = .ok (.bipush 101, 2) := by decide +kernel
theorem d28_31 : decode method_2_code 31 = .ok (.if_icmp .ne 251, 3) := by decide +kernel
theorem d28_34 : decode method_2_code 34 = .ok (.aload_n 0, 1) := by decide +kernel
theorem d28_35 : decode method_2_code 35 = .ok (.iload_n 1, 1) := by decide +kernel
theorem d28_36 : decode method_2_code 36 = .ok (.iconst 3, 1) := by decide +kernel
theorem d28_37 : decode method_2_code 37 = .ok (.iadd, 1) := by decide +kernel
theorem d28_38 : decode method_2_code 38 = .ok (.invokevirtual 7, 3) := by decide +kernel
theorem d28_41 : decode method_2_code 41 = .ok (.bipush 97, 2) := by decide +kernel
theorem d28_43 : decode method_2_code 43 = .ok (.if_icmp .ne 239, 3) := by decide +kernel
theorem d28_46 : decode method_2_code 46 = .ok (.aload_n 0, 1) := by decide +kernel
theorem d28_47 : decode method_2_code 47 = .ok (.iload_n 1, 1) := by decide +kernel
theorem d28_48 : decode method_2_code 48 = .ok (.iconst 4, 1) := by decide +kernel
theorem d28_49 : decode method_2_code 49 = .ok (.iadd, 1) := by decide +kernel
theorem d28_50 : decode method_2_code 50 = .ok (.invokevirtual 7, 3) := by decide +kernel
theorem d28_53 : decode method_2_code 53 = .ok (.bipush 108, 2) := by decide +kernel
theorem d28_55 : decode method_2_code 55 = .ok (.if_icmp .ne 227, 3) := by decide +kernel
theorem d28_58 : decode method_2_code 58 = .ok (.aload_n 0, 1) := by decide +kernel
theorem d28_59 : decode method_2_code 59 = .ok (.iload_n 1, 1) := by decide +kernel
theorem d28_60 : decode method_2_code 60 = .ok (.iconst 5, 1) := by decide +kernel
theorem d28_61 : decode method_2_code 61 = .ok (.iadd, 1) := by decide +kernel
theorem d28_62 : decode method_2_code 62 = .ok (.invokevirtual 7, 3) := by decide +kernel
theorem d28_65 : decode method_2_code 65 = .ok (.bipush 109, 2) := by decide +kernel
theorem d28_67 : decode method_2_code 67 = .ok (.if_icmp .ne 215, 3) := by decide +kernel
theorem d28_70 : decode method_2_code 70 = .ok (.aload_n 0, 1) := by decide +kernel
theorem d28_71 : decode method_2_code 71 = .ok (.iload_n 1, 1) := by decide +kernel
theorem d28_72 : decode method_2_code 72 = .ok (.bipush 6, 2) := by decide +kernel
theorem d28_74 : decode method_2_code 74 = .ok (.iadd, 1) := by decide +kernel
theorem d28_75 : decode method_2_code 75 = .ok (.invokevirtual 7, 3) := by decide +kernel
theorem d28_78 : decode method_2_code 78 = .ok (.bipush 61, 2) := by decide +kernel
theorem d28_80 : decode method_2_code 80 = .ok (.if_icmp .ne 202, 3) := by decide +kernel
theorem d28_83 : decode method_2_code 83 = .ok (.aload_n 0, 1) := by decide +kernel
theorem d28_84 : decode method_2_code 84 = .ok (.iload_n 1, 1) := by decide +kernel
theorem d28_85 : decode method_2_code 85 = .ok (.bipush 7, 2) := by decide +kernel
theorem d28_87 : decode method_2_code 87 = .ok (.iadd, 1) := by decide +kernel
theorem d28_88 : decode method_2_code 88 = .ok (.invokevirtual 7, 3) := by decide +kernel
theorem d28_91 : decode method_2_code 91 = .ok (.bipush 34, 2) := by decide +kernel
theorem d28_93 : decode method_2_code 93 = .ok (.if_icmp .ne 189, 3) := by decide +kernel
theorem d28_96 : decode method_2_code 96 = .ok (.aload_n 0, 1) := by decide +kernel
theorem d28_97 : decode method_2_code 97 = .ok (.iload_n 1, 1) := by decide +kernel
theorem d28_98 : decode method_2_code 98 = .ok (.bipush 8, 2) := by decide +kernel
theorem d28_100 : decode method_2_code 100 = .ok (.iadd, 1) := by decide +kernel
theorem d28_101 : decode method_2_code 101 = .ok (.invokevirtual 7, 3) := by decide +kernel
theorem d28_104 : decode method_2_code 104 = .ok (.bipush 99, 2) := by decide +kernel
theorem d28_106 : decode method_2_code 106 = .ok (.if_icmp .ne 176, 3) := by decide +kernel
theorem d28_109 : decode method_2_code 109 = .ok (.aload_n 0, 1) := by decide +kernel
theorem d28_110 : decode method_2_code 110 = .ok (.iload_n 1, 1) := by decide +kernel
theorem d28_111 : decode method_2_code 111 = .ok (.bipush 9, 2) := by decide +kernel
theorem d28_113 : decode method_2_code 113 = .ok (.iadd, 1) := by decide +kernel
theorem d28_114 : decode method_2_code 114 = .ok (.invokevirtual 7, 3) := by decide +kernel
theorem d28_117 : decode method_2_code 117 = .ok (.bipush 108, 2) := by decide +kernel
theorem d28_119 : decode method_2_code 119 = .ok (.if_icmp .ne 163, 3) := by decide +kernel
theorem d28_122 : decode method_2_code 122 = .ok (.aload_n 0, 1) := by decide +kernel
theorem d28_123 : decode method_2_code 123 = .ok (.iload_n 1, 1) := by decide +kernel
theorem d28_124 : decode method_2_code 124 = .ok (.bipush 10, 2) := by decide +kernel
theorem d28_126 : decode method_2_code 126 = .ok (.iadd, 1) := by decide +kernel
theorem d28_127 : decode method_2_code 127 = .ok (.invokevirtual 7, 3) := by decide +kernel
theorem d28_130 : decode method_2_code 130 = .ok (.bipush 111, 2) := by decide +kernel
theorem d28_132 : decode method_2_code 132 = .ok (.if_icmp .ne 150, 3) := by decide +kernel
theorem d28_135 : decode method_2_code 135 = .ok (.aload_n 0, 1) := by decide +kernel
theorem d28_136 : decode method_2_code 136 = .ok (.iload_n 1, 1) := by decide +kernel
theorem d28_137 : decode method_2_code 137 = .ok (.bipush 11, 2) := by decide +kernel
theorem d28_139 : decode method_2_code 139 = .ok (.iadd, 1) := by decide +kernel
theorem d28_140 : decode method_2_code 140 = .ok (.invokevirtual 7, 3) := by decide +kernel
theorem d28_143 : decode method_2_code 143 = .ok (.bipush 117, 2) := by decide +kernel
theorem d28_145 : decode method_2_code 145 = .ok (.if_icmp .ne 137, 3) := by decide +kernel
theorem d28_148 : decode method_2_code 148 = .ok (.aload_n 0, 1) := by decide +kernel
theorem d28_149 : decode method_2_code 149 = .ok (.iload_n 1, 1) := by decide +kernel
theorem d28_150 : decode method_2_code 150 = .ok (.bipush 12, 2) := by decide +kernel
theorem d28_152 : decode method_2_code 152 = .ok (.iadd, 1) := by decide +kernel
theorem d28_153 : decode method_2_code 153 = .ok (.invokevirtual 7, 3) := by decide +kernel
theorem d28_156 : decode method_2_code 156 = .ok (.bipush 100, 2) := by decide +kernel
theorem d28_158 : decode method_2_code 158 = .ok (.if_icmp .ne 124, 3) := by decide +kernel
theorem d28_161 : decode method_2_code 161 = .ok (.aload_n 0, 1) := by decide +kernel
theorem d28_162 : decode method_2_code 162 = .ok (.iload_n 1, 1) := by decide +kernel
theorem d28_163 : decode method_2_code 163 = .ok (.bipush 13, 2) := by decide +kernel
theorem d28_165 : decode method_2_code 165 = .ok (.iadd, 1) := by decide +kernel
theorem d28_166 : decode method_2_code 166 = .ok (.invokevirtual 7, 3) := by decide +kernel
theorem d28_169 : decode method_2_code 169 = .ok (.bipush 45, 2) := by decide +kernel
theorem d28_171 : decode method_2_code 171 = .ok (.if_icmp .ne 111, 3) := by decide +kernel
theorem d28_174 : decode method_2_code 174 = .ok (.aload_n 0, 1) := by decide +kernel
theorem d28_175 : decode method_2_code 175 = .ok (.iload_n 1, 1) := by decide +kernel
theorem d28_176 : decode method_2_code 176 = .ok (.bipush 14, 2) := by decide +kernel
theorem d28_178 : decode method_2_code 178 = .ok (.iadd, 1) := by decide +kernel
theorem d28_179 : decode method_2_code 179 = .ok (.invokevirtual 7, 3) := by decide +kernel
theorem d28_182 : decode method_2_code 182 = .ok (.bipush 116, 2) := by decide +kernel
theorem d28_184 : decode method_2_code 184 = .ok (.if_icmp .ne 98, 3) := by decide +kernel
theorem d28_187 : decode method_2_code 187 = .ok (.aload_n 0, 1) := by decide +kernel
theorem d28_188 : decode method_2_code 188 = .ok (.iload_n 1, 1) := by decide +kernel
theorem d28_189 : decode method_2_code 189 = .ok (.bipush 15, 2) := by decide +kernel
theorem d28_191 : decode method_2_code 191 = .ok (.iadd, 1) := by decide +kernel
theorem d28_192 : decode method_2_code 192 = .ok (.invokevirtual 7, 3) := by decide +kernel
theorem d28_195 : decode method_2_code 195 = .ok (.bipush 111, 2) := by decide +kernel
theorem d28_197 : decode method_2_code 197 = .ok (.if_icmp .ne 85, 3) := by decide +kernel
theorem d28_200 : decode method_2_code 200 = .ok (.aload_n 0, 1) := by decide +kernel
theorem d28_201 : decode method_2_code 201 = .ok (.iload_n 1, 1) := by decide +kernel
theorem d28_202 : decode method_2_code 202 = .ok (.bipush 16, 2) := by decide +kernel
theorem d28_204 : decode method_2_code 204 = .ok (.iadd, 1) := by decide +kernel
theorem d28_205 : decode method_2_code 205 = .ok (.invokevirtual 7, 3) := by decide +kernel
theorem d28_208 : decode method_2_code 208 = .ok (.bipush 45, 2) := by decide +kernel
theorem d28_210 : decode method_2_code 210 = .ok (.if_icmp .ne 72, 3) := by decide +kernel
theorem d28_213 : decode method_2_code 213 = .ok (.aload_n 0, 1) := by decide +kernel
theorem d28_214 : decode method_2_code 214 = .ok (.iload_n 1, 1) := by decide +kernel
theorem d28_215 : decode method_2_code 215 = .ok (.bipush 17, 2) := by decide +kernel
theorem d28_217 : decode method_2_code 217 = .ok (.iadd, 1) := by decide +kernel
theorem d28_218 : decode method_2_code 218 = .ok (.invokevirtual 7, 3) := by decide +kernel
theorem d28_221 : decode method_2_code 221 = .ok (.bipush 99, 2) := by decide +kernel
theorem d28_223 : decode method_2_code 223 = .ok (.if_icmp .ne 59, 3) := by decide +kernel
theorem d28_226 : decode method_2_code 226 = .ok (.aload_n 0, 1) := by decide +kernel
theorem d28_227 : decode method_2_code 227 = .ok (.iload_n 1, 1) := by decide +kernel
theorem d28_228 : decode method_2_code 228 = .ok (.bipush 18, 2) := by decide +kernel
theorem d28_230 : decode method_2_code 230 = .ok (.iadd, 1) := by decide +kernel
theorem d28_231 : decode method_2_code 231 = .ok (.invokevirtual 7, 3) := by decide +kernel
theorem d28_234 : decode method_2_code 234 = .ok (.bipush 111, 2) := by decide +kernel
theorem d28_236 : decode method_2_code 236 = .ok (.if_icmp .ne 46, 3) := by decide +kernel
theorem d28_239 : decode method_2_code 239 = .ok (.aload_n 0, 1) := by decide +kernel
theorem d28_240 : decode method_2_code 240 = .ok (.iload_n 1, 1) := by decide +kernel
theorem d28_241 : decode method_2_code 241 = .ok (.bipush 19, 2) := by decide +kernel
theorem d28_243 : decode method_2_code 243 = .ok (.iadd, 1) := by decide +kernel
theorem d28_244 : decode method_2_code 244 = .ok (.invokevirtual 7, 3) := by decide +kernel
theorem d28_247 : decode method_2_code 247 = .ok (.bipush 114, 2) := by decide +kernel
theorem d28_249 : decode method_2_code 249 = .ok (.if_icmp .ne 33, 3) := by decide +kernel
theorem d28_252 : decode method_2_code 252 = .ok (.aload_n 0, 1) := by decide +kernel
theorem d28_253 : decode method_2_code 253 = .ok (.iload_n 1, 1) := by decide +kernel
theorem d28_254 : decode method_2_code 254 = .ok (.bipush 20, 2) := by decide +kernel
theorem d28_256 : decode method_2_code 256 = .ok (.iadd, 1) := by decide +kernel
theorem d28_257 : decode method_2_code 257 = .ok (.invokevirtual 7, 3) := by decide +kernel
theorem d28_260 : decode method_2_code 260 = .ok (.bipush 101, 2) := by decide +kernel
theorem d28_262 : decode method_2_code 262 = .ok (.if_icmp .ne 20, 3) := by decide +kernel
theorem d28_265 : decode method_2_code 265 = .ok (.aload_n 0, 1) := by decide +kernel
theorem d28_266 : decode method_2_code 266 = .ok (.iload_n 1, 1) := by decide +kernel
theorem d28_267 : decode method_2_code 267 = .ok (.bipush 21, 2) := by decide +kernel
theorem d28_269 : decode method_2_code 269 = .ok (.iadd, 1) := by decide +kernel
theorem d28_270 : decode method_2_code 270 = .ok (.invokevirtual 7, 3) := by decide +kernel
theorem d28_273 : decode method_2_code 273 = .ok (.bipush 34, 2) := by decide +kernel
theorem d28_275 : decode method_2_code 275 = .ok (.if_icmp .ne 7, 3) := by decide +kernel
theorem d28_278 : decode method_2_code 278 = .ok (.iconst 1, 1) := by decide +kernel
theorem d28_279 : decode method_2_code 279 = .ok (.goto 4, 3) := by decide +kernel
theorem d28_283 : decode method_2_code 283 = .ok (.ireturn, 1) := by decide +kernel
theorem pn_7 : plainName "com/example/cloud_to_core/cloudtocore/auth/HttpAuthorizationChallengePinLaw" = true := by first | (simp [plainName, overriddenIn]; done) | decide +kernel
theorem ef_28 (m : MethodId) (x0 : Addr) (x1 : Int32) : entryFrame m #[(.ref x0), (.int x1)] 2 = mkF m 0 #[.val (.ref x0), .val (.int x1)] [] := by first | (simp [entryFrame, mkF, argsToLocals, Value.category]; done) | rfl
def Q28 (Z : State) (a1 : Addr) (p2 : Int32) (d : Addr) (kd : ClassId) (z : Int32) (B : List Int32) (cs : Int32) (fm : Value) (h0 : Heap) (v : Option Value) (h : Heap) (L : List Loc) : Prop := v = some (.int (1 : Int32)) ∧ L = [] ∧ h = h0
theorem rm28 (l : Launch) (Z : State) (a0 : Array Value) (hw : ∀ d ∈ tables_1, d.before a0 Z = true) (ws : List Jvm.Cond) (a1 : Addr) (p2 : Int32) (d : Addr) (kd : ClassId) (z : Int32) (B : List Int32) (cs : Int32) (fm : Value) (h0 : Heap) (n0 : Nat) (O0 : Old Z n0 h0) (E_a1 : Exa Z h0 a1 "java/lang/String") (Fc_a1 : Fld Z h0 a1 "java/lang/String" "coder" "B" (.int (0 : Int32))) (Fv_a1 : Fld Z h0 a1 "java/lang/String" "value" "[B" (.ref d)) (V_d : Arv Z h0 d kd .byte z (own_bs B) (.int (0 : Int32))) (hz : ¬ z < 0) (hB : z.toNatClampNeg = B.length) (hk : own_Rk p2 z) (hR : own_Re B p2) (S_CS : Sta Z Z.heap "java/lang/String" "COMPACT_STRINGS" "Z" (.int cs)) (h_cs : ¬ cs = (0 : Int32)) (S_F : Sta Z Z.heap "jdk/internal/util/Preconditions" "SIOOBE_FORMATTER" "Ljava/util/function/BiFunction;" fm) (h_fm : fm.isRef = true) :
    MetFree l mn_34 (head1 (Jvm.Cond.code mn_34 method_2_code 2 (some .boolean) :: ws) ({ frames := 4, cells := 0, slots := 0, locals := 53 } : Room)) (fun a U => a = #[(.ref a1), (.int p2)] ∧ Z.Warmed39 U.vm ∧ U.heap = h0) (fun _ _ _ _ _ => True) (fun _ U o U' => ∃ v L, o = .returned v ∧ Q28 Z a1 p2 d kd z B cs fm h0 v U'.heap L ∧ FrameEnd U o U' L ({ frames := 4, cells := 0, slots := 0, locals := 53 } : Room).cells ({ frames := 4, cells := 0, slots := 0, locals := 53 } : Room).slots) := by
  refine MetFree.of_bodySF (plainFor_of_name pn_7) hisR ?_
  intro p e s m args below meth c s₁ Bd hml0 hP hK
  obtain ⟨rfl, hZ, hh⟩ := hP
  have hx := Bd.exec
  have hby := Bd.bytes
  have hml : c.maxLocals = 2 := hml0
  have hown : s.vm.findClass "com/example/cloud_to_core/cloudtocore/auth/HttpAuthorizationChallengePinLaw" = some m.cls := findClass_of_methodNamed Bd.named
  have hnm := (name_of_methodNamed Bd.named Bd.method).1
  have X0 : Stand p l e ({ frames := 4, cells := 0, slots := 0, locals := 53 } : Room) s m #[(.ref a1), (.int p2)] below meth c s₁ [] 0 0 := Stand.of_body Bd
  have e0 : s₁.heap = h0 := by rw [← hh, Bd.state]; rfl
  have pre0 : ∀ t, Steps p.tables e below (s₁.setTop (mkF m 0 #[.val (.ref a1), .val (.int p2)] [])) t → Steps p.tables e below (s₁.setTop (entryFrame m #[(.ref a1), (.int p2)] 2)) t := fun t k => castTop (ef_28 m a1 p2) k
  obtain ⟨cq1, kq1, q1a, q1b, q1c⟩ := isOf hZ e0 E_a1
  obtain ⟨_, _, ⟨T1, L1, k1, n1⟩, -, X1, ⟨Lc1, hQ1, l1, y1, z1⟩, st1⟩ := X0.virtualBack hx (y := mn_27) (z := mn_27) hown (mvT hZ (ww hw 154 rfl)) (mvT hZ (ww hw 155 rfl)) (notFace_of_selects (args := #[]) (mvT hZ (ww hw 157 rfl))) (mvT hZ (ww hw 157 rfl)) (mvT hZ (ww hw 156 rfl)) (by decide) (backOf (W := 0) (rm29_v l Z a0 hw [] a1 p2 d kd z B (32 : Int32) cs fm h0 n0 O0 E_a1 Fc_a1 Fv_a1 V_d hz hB hk.1.1 hk.1.2 hR.1 S_CS h_cs S_F h_fm) hZ (ww hw 158 rfl) (ww hw 1 rfl) (by decide) (by decide)) q1a q1c (g := (mkF m 2 #[vR a1, vI p2] [iI p2, iR a1])) rfl (by rw [hml]; rfl) (Steps.refl _) (argsL := [(.int p2)]) (rest := []) (lenOf pd_22 rfl) rfl (wz rfl) (hb hby d28_2) (fun _ _ => ⟨rfl, e0, (by decide : 0 + 0 ≤ _), (by decide : 0 + 0 ≤ _)⟩)
  dsimp only [Pt.U, Pt.locs, Pt.cells, Pt.slots] at X1 l1 y1 z1 st1 hQ1
  subst l1 y1 z1
  obtain ⟨rfl, rfl, e1⟩ := hQ1
  try rw [List.append_nil] at X1
  obtain ⟨cq2, kq2, q2a, q2b, q2c⟩ := isOf hZ e1 E_a1
  obtain ⟨_, _, ⟨T2, L2, k2, n2⟩, -, X2, ⟨Lc2, hQ2, l2, y2, z2⟩, st2⟩ := X1.virtualBack hx (y := mn_27) (z := mn_27) hown (mvT hZ (ww hw 154 rfl)) (mvT hZ (ww hw 155 rfl)) (notFace_of_selects (args := #[]) (mvT hZ (ww hw 157 rfl))) (mvT hZ (ww hw 157 rfl)) (mvT hZ (ww hw 156 rfl)) (by decide) (backOf (W := 0) (rm29_v l Z a0 hw [] a1 (p2 + (1 : Int32)) d kd z B (114 : Int32) cs fm h0 n0 O0 E_a1 Fc_a1 Fv_a1 V_d hz hB hk.2.1.1 hk.2.1.2 hR.2.1 S_CS h_cs S_F h_fm) hZ (ww hw 158 rfl) (ww hw 1 rfl) (by decide) (by decide)) q2a q2c (g := (mkF m 14 #[vR a1, vI p2] [iI (p2 + (1 : Int32)), iR a1])) rfl (by rw [hml]; rfl) (Steps.refl _) (argsL := [(.int (p2 + (1 : Int32)))]) (rest := []) (lenOf pd_22 rfl) rfl (wz rfl) (hb hby d28_14) (fun _ _ => ⟨rfl, e1, (by decide : 0 + 0 ≤ _), (by decide : 0 + 0 ≤ _)⟩)
  dsimp only [Pt.U, Pt.locs, Pt.cells, Pt.slots] at X2 l2 y2 z2 st2 hQ2
  subst l2 y2 z2
  obtain ⟨rfl, rfl, e2⟩ := hQ2
  try rw [List.append_nil] at X2
  obtain ⟨cq3, kq3, q3a, q3b, q3c⟩ := isOf hZ e2 E_a1
  obtain ⟨_, _, ⟨T3, L3, k3, n3⟩, -, X3, ⟨Lc3, hQ3, l3, y3, z3⟩, st3⟩ := X2.virtualBack hx (y := mn_27) (z := mn_27) hown (mvT hZ (ww hw 154 rfl)) (mvT hZ (ww hw 155 rfl)) (notFace_of_selects (args := #[]) (mvT hZ (ww hw 157 rfl))) (mvT hZ (ww hw 157 rfl)) (mvT hZ (ww hw 156 rfl)) (by decide) (backOf (W := 0) (rm29_v l Z a0 hw [] a1 (p2 + (2 : Int32)) d kd z B (101 : Int32) cs fm h0 n0 O0 E_a1 Fc_a1 Fv_a1 V_d hz hB hk.2.2.1.1 hk.2.2.1.2 hR.2.2.1 S_CS h_cs S_F h_fm) hZ (ww hw 158 rfl) (ww hw 1 rfl) (by decide) (by decide)) q3a q3c (g := (mkF m 26 #[vR a1, vI p2] [iI (p2 + (2 : Int32)), iR a1])) rfl (by rw [hml]; rfl) (Steps.refl _) (argsL := [(.int (p2 + (2 : Int32)))]) (rest := []) (lenOf pd_22 rfl) rfl (wz rfl) (hb hby d28_26) (fun _ _ => ⟨rfl, e2, (by decide : 0 + 0 ≤ _), (by decide : 0 + 0 ≤ _)⟩)
  dsimp only [Pt.U, Pt.locs, Pt.cells, Pt.slots] at X3 l3 y3 z3 st3 hQ3
  subst l3 y3 z3
  obtain ⟨rfl, rfl, e3⟩ := hQ3
  try rw [List.append_nil] at X3
  obtain ⟨cq4, kq4, q4a, q4b, q4c⟩ := isOf hZ e3 E_a1
  obtain ⟨_, _, ⟨T4, L4, k4, n4⟩, -, X4, ⟨Lc4, hQ4, l4, y4, z4⟩, st4⟩ := X3.virtualBack hx (y := mn_27) (z := mn_27) hown (mvT hZ (ww hw 154 rfl)) (mvT hZ (ww hw 155 rfl)) (notFace_of_selects (args := #[]) (mvT hZ (ww hw 157 rfl))) (mvT hZ (ww hw 157 rfl)) (mvT hZ (ww hw 156 rfl)) (by decide) (backOf (W := 0) (rm29_v l Z a0 hw [] a1 (p2 + (3 : Int32)) d kd z B (97 : Int32) cs fm h0 n0 O0 E_a1 Fc_a1 Fv_a1 V_d hz hB hk.2.2.2.1.1 hk.2.2.2.1.2 hR.2.2.2.1 S_CS h_cs S_F h_fm) hZ (ww hw 158 rfl) (ww hw 1 rfl) (by decide) (by decide)) q4a q4c (g := (mkF m 38 #[vR a1, vI p2] [iI (p2 + (3 : Int32)), iR a1])) rfl (by rw [hml]; rfl) (Steps.refl _) (argsL := [(.int (p2 + (3 : Int32)))]) (rest := []) (lenOf pd_22 rfl) rfl (wz rfl) (hb hby d28_38) (fun _ _ => ⟨rfl, e3, (by decide : 0 + 0 ≤ _), (by decide : 0 + 0 ≤ _)⟩)
  dsimp only [Pt.U, Pt.locs, Pt.cells, Pt.slots] at X4 l4 y4 z4 st4 hQ4
  subst l4 y4 z4
  obtain ⟨rfl, rfl, e4⟩ := hQ4
  try rw [List.append_nil] at X4
  obtain ⟨cq5, kq5, q5a, q5b, q5c⟩ := isOf hZ e4 E_a1
  obtain ⟨_, _, ⟨T5, L5, k5, n5⟩, -, X5, ⟨Lc5, hQ5, l5, y5, z5⟩, st5⟩ := X4.virtualBack hx (y := mn_27) (z := mn_27) hown (mvT hZ (ww hw 154 rfl)) (mvT hZ (ww hw 155 rfl)) (notFace_of_selects (args := #[]) (mvT hZ (ww hw 157 rfl))) (mvT hZ (ww hw 157 rfl)) (mvT hZ (ww hw 156 rfl)) (by decide) (backOf (W := 0) (rm29_v l Z a0 hw [] a1 (p2 + (4 : Int32)) d kd z B (108 : Int32) cs fm h0 n0 O0 E_a1 Fc_a1 Fv_a1 V_d hz hB hk.2.2.2.2.1.1 hk.2.2.2.2.1.2 hR.2.2.2.2.1 S_CS h_cs S_F h_fm) hZ (ww hw 158 rfl) (ww hw 1 rfl) (by decide) (by decide)) q5a q5c (g := (mkF m 50 #[vR a1, vI p2] [iI (p2 + (4 : Int32)), iR a1])) rfl (by rw [hml]; rfl) (Steps.refl _) (argsL := [(.int (p2 + (4 : Int32)))]) (rest := []) (lenOf pd_22 rfl) rfl (wz rfl) (hb hby d28_50) (fun _ _ => ⟨rfl, e4, (by decide : 0 + 0 ≤ _), (by decide : 0 + 0 ≤ _)⟩)
  dsimp only [Pt.U, Pt.locs, Pt.cells, Pt.slots] at X5 l5 y5 z5 st5 hQ5
  subst l5 y5 z5
  obtain ⟨rfl, rfl, e5⟩ := hQ5
  try rw [List.append_nil] at X5
  obtain ⟨cq6, kq6, q6a, q6b, q6c⟩ := isOf hZ e5 E_a1
  obtain ⟨_, _, ⟨T6, L6, k6, n6⟩, -, X6, ⟨Lc6, hQ6, l6, y6, z6⟩, st6⟩ := X5.virtualBack hx (y := mn_27) (z := mn_27) hown (mvT hZ (ww hw 154 rfl)) (mvT hZ (ww hw 155 rfl)) (notFace_of_selects (args := #[]) (mvT hZ (ww hw 157 rfl))) (mvT hZ (ww hw 157 rfl)) (mvT hZ (ww hw 156 rfl)) (by decide) (backOf (W := 0) (rm29_v l Z a0 hw [] a1 (p2 + (5 : Int32)) d kd z B (109 : Int32) cs fm h0 n0 O0 E_a1 Fc_a1 Fv_a1 V_d hz hB hk.2.2.2.2.2.1.1 hk.2.2.2.2.2.1.2 hR.2.2.2.2.2.1 S_CS h_cs S_F h_fm) hZ (ww hw 158 rfl) (ww hw 1 rfl) (by decide) (by decide)) q6a q6c (g := (mkF m 62 #[vR a1, vI p2] [iI (p2 + (5 : Int32)), iR a1])) rfl (by rw [hml]; rfl) (Steps.refl _) (argsL := [(.int (p2 + (5 : Int32)))]) (rest := []) (lenOf pd_22 rfl) rfl (wz rfl) (hb hby d28_62) (fun _ _ => ⟨rfl, e5, (by decide : 0 + 0 ≤ _), (by decide : 0 + 0 ≤ _)⟩)
  dsimp only [Pt.U, Pt.locs, Pt.cells, Pt.slots] at X6 l6 y6 z6 st6 hQ6
  subst l6 y6 z6
  obtain ⟨rfl, rfl, e6⟩ := hQ6
  try rw [List.append_nil] at X6
  obtain ⟨cq7, kq7, q7a, q7b, q7c⟩ := isOf hZ e6 E_a1
  obtain ⟨_, _, ⟨T7, L7, k7, n7⟩, -, X7, ⟨Lc7, hQ7, l7, y7, z7⟩, st7⟩ := X6.virtualBack hx (y := mn_27) (z := mn_27) hown (mvT hZ (ww hw 154 rfl)) (mvT hZ (ww hw 155 rfl)) (notFace_of_selects (args := #[]) (mvT hZ (ww hw 157 rfl))) (mvT hZ (ww hw 157 rfl)) (mvT hZ (ww hw 156 rfl)) (by decide) (backOf (W := 0) (rm29_v l Z a0 hw [] a1 (p2 + (6 : Int32)) d kd z B (61 : Int32) cs fm h0 n0 O0 E_a1 Fc_a1 Fv_a1 V_d hz hB hk.2.2.2.2.2.2.1.1 hk.2.2.2.2.2.2.1.2 hR.2.2.2.2.2.2.1 S_CS h_cs S_F h_fm) hZ (ww hw 158 rfl) (ww hw 1 rfl) (by decide) (by decide)) q7a q7c (g := (mkF m 75 #[vR a1, vI p2] [iI (p2 + (6 : Int32)), iR a1])) rfl (by rw [hml]; rfl) (Steps.refl _) (argsL := [(.int (p2 + (6 : Int32)))]) (rest := []) (lenOf pd_22 rfl) rfl (wz rfl) (hb hby d28_75) (fun _ _ => ⟨rfl, e6, (by decide : 0 + 0 ≤ _), (by decide : 0 + 0 ≤ _)⟩)
  dsimp only [Pt.U, Pt.locs, Pt.cells, Pt.slots] at X7 l7 y7 z7 st7 hQ7
  subst l7 y7 z7
  obtain ⟨rfl, rfl, e7⟩ := hQ7
  try rw [List.append_nil] at X7
  obtain ⟨cq8, kq8, q8a, q8b, q8c⟩ := isOf hZ e7 E_a1
  obtain ⟨_, _, ⟨T8, L8, k8, n8⟩, -, X8, ⟨Lc8, hQ8, l8, y8, z8⟩, st8⟩ := X7.virtualBack hx (y := mn_27) (z := mn_27) hown (mvT hZ (ww hw 154 rfl)) (mvT hZ (ww hw 155 rfl)) (notFace_of_selects (args := #[]) (mvT hZ (ww hw 157 rfl))) (mvT hZ (ww hw 157 rfl)) (mvT hZ (ww hw 156 rfl)) (by decide) (backOf (W := 0) (rm29_v l Z a0 hw [] a1 (p2 + (7 : Int32)) d kd z B (34 : Int32) cs fm h0 n0 O0 E_a1 Fc_a1 Fv_a1 V_d hz hB hk.2.2.2.2.2.2.2.1.1 hk.2.2.2.2.2.2.2.1.2 hR.2.2.2.2.2.2.2.1 S_CS h_cs S_F h_fm) hZ (ww hw 158 rfl) (ww hw 1 rfl) (by decide) (by decide)) q8a q8c (g := (mkF m 88 #[vR a1, vI p2] [iI (p2 + (7 : Int32)), iR a1])) rfl (by rw [hml]; rfl) (Steps.refl _) (argsL := [(.int (p2 + (7 : Int32)))]) (rest := []) (lenOf pd_22 rfl) rfl (wz rfl) (hb hby d28_88) (fun _ _ => ⟨rfl, e7, (by decide : 0 + 0 ≤ _), (by decide : 0 + 0 ≤ _)⟩)
  dsimp only [Pt.U, Pt.locs, Pt.cells, Pt.slots] at X8 l8 y8 z8 st8 hQ8
  subst l8 y8 z8
  obtain ⟨rfl, rfl, e8⟩ := hQ8
  try rw [List.append_nil] at X8
  obtain ⟨cq9, kq9, q9a, q9b, q9c⟩ := isOf hZ e8 E_a1
  obtain ⟨_, _, ⟨T9, L9, k9, n9⟩, -, X9, ⟨Lc9, hQ9, l9, y9, z9⟩, st9⟩ := X8.virtualBack hx (y := mn_27) (z := mn_27) hown (mvT hZ (ww hw 154 rfl)) (mvT hZ (ww hw 155 rfl)) (notFace_of_selects (args := #[]) (mvT hZ (ww hw 157 rfl))) (mvT hZ (ww hw 157 rfl)) (mvT hZ (ww hw 156 rfl)) (by decide) (backOf (W := 0) (rm29_v l Z a0 hw [] a1 (p2 + (8 : Int32)) d kd z B (99 : Int32) cs fm h0 n0 O0 E_a1 Fc_a1 Fv_a1 V_d hz hB hk.2.2.2.2.2.2.2.2.1.1 hk.2.2.2.2.2.2.2.2.1.2 hR.2.2.2.2.2.2.2.2.1 S_CS h_cs S_F h_fm) hZ (ww hw 158 rfl) (ww hw 1 rfl) (by decide) (by decide)) q9a q9c (g := (mkF m 101 #[vR a1, vI p2] [iI (p2 + (8 : Int32)), iR a1])) rfl (by rw [hml]; rfl) (Steps.refl _) (argsL := [(.int (p2 + (8 : Int32)))]) (rest := []) (lenOf pd_22 rfl) rfl (wz rfl) (hb hby d28_101) (fun _ _ => ⟨rfl, e8, (by decide : 0 + 0 ≤ _), (by decide : 0 + 0 ≤ _)⟩)
  dsimp only [Pt.U, Pt.locs, Pt.cells, Pt.slots] at X9 l9 y9 z9 st9 hQ9
  subst l9 y9 z9
  obtain ⟨rfl, rfl, e9⟩ := hQ9
  try rw [List.append_nil] at X9
  obtain ⟨cq10, kq10, q10a, q10b, q10c⟩ := isOf hZ e9 E_a1
  obtain ⟨_, _, ⟨T10, L10, k10, n10⟩, -, X10, ⟨Lc10, hQ10, l10, y10, z10⟩, st10⟩ := X9.virtualBack hx (y := mn_27) (z := mn_27) hown (mvT hZ (ww hw 154 rfl)) (mvT hZ (ww hw 155 rfl)) (notFace_of_selects (args := #[]) (mvT hZ (ww hw 157 rfl))) (mvT hZ (ww hw 157 rfl)) (mvT hZ (ww hw 156 rfl)) (by decide) (backOf (W := 0) (rm29_v l Z a0 hw [] a1 (p2 + (9 : Int32)) d kd z B (108 : Int32) cs fm h0 n0 O0 E_a1 Fc_a1 Fv_a1 V_d hz hB hk.2.2.2.2.2.2.2.2.2.1.1 hk.2.2.2.2.2.2.2.2.2.1.2 hR.2.2.2.2.2.2.2.2.2.1 S_CS h_cs S_F h_fm) hZ (ww hw 158 rfl) (ww hw 1 rfl) (by decide) (by decide)) q10a q10c (g := (mkF m 114 #[vR a1, vI p2] [iI (p2 + (9 : Int32)), iR a1])) rfl (by rw [hml]; rfl) (Steps.refl _) (argsL := [(.int (p2 + (9 : Int32)))]) (rest := []) (lenOf pd_22 rfl) rfl (wz rfl) (hb hby d28_114) (fun _ _ => ⟨rfl, e9, (by decide : 0 + 0 ≤ _), (by decide : 0 + 0 ≤ _)⟩)
  dsimp only [Pt.U, Pt.locs, Pt.cells, Pt.slots] at X10 l10 y10 z10 st10 hQ10
  subst l10 y10 z10
  obtain ⟨rfl, rfl, e10⟩ := hQ10
  try rw [List.append_nil] at X10
  obtain ⟨cq11, kq11, q11a, q11b, q11c⟩ := isOf hZ e10 E_a1
  obtain ⟨_, _, ⟨T11, L11, k11, n11⟩, -, X11, ⟨Lc11, hQ11, l11, y11, z11⟩, st11⟩ := X10.virtualBack hx (y := mn_27) (z := mn_27) hown (mvT hZ (ww hw 154 rfl)) (mvT hZ (ww hw 155 rfl)) (notFace_of_selects (args := #[]) (mvT hZ (ww hw 157 rfl))) (mvT hZ (ww hw 157 rfl)) (mvT hZ (ww hw 156 rfl)) (by decide) (backOf (W := 0) (rm29_v l Z a0 hw [] a1 (p2 + (10 : Int32)) d kd z B (111 : Int32) cs fm h0 n0 O0 E_a1 Fc_a1 Fv_a1 V_d hz hB hk.2.2.2.2.2.2.2.2.2.2.1.1 hk.2.2.2.2.2.2.2.2.2.2.1.2 hR.2.2.2.2.2.2.2.2.2.2.1 S_CS h_cs S_F h_fm) hZ (ww hw 158 rfl) (ww hw 1 rfl) (by decide) (by decide)) q11a q11c (g := (mkF m 127 #[vR a1, vI p2] [iI (p2 + (10 : Int32)), iR a1])) rfl (by rw [hml]; rfl) (Steps.refl _) (argsL := [(.int (p2 + (10 : Int32)))]) (rest := []) (lenOf pd_22 rfl) rfl (wz rfl) (hb hby d28_127) (fun _ _ => ⟨rfl, e10, (by decide : 0 + 0 ≤ _), (by decide : 0 + 0 ≤ _)⟩)
  dsimp only [Pt.U, Pt.locs, Pt.cells, Pt.slots] at X11 l11 y11 z11 st11 hQ11
  subst l11 y11 z11
  obtain ⟨rfl, rfl, e11⟩ := hQ11
  try rw [List.append_nil] at X11
  obtain ⟨cq12, kq12, q12a, q12b, q12c⟩ := isOf hZ e11 E_a1
  obtain ⟨_, _, ⟨T12, L12, k12, n12⟩, -, X12, ⟨Lc12, hQ12, l12, y12, z12⟩, st12⟩ := X11.virtualBack hx (y := mn_27) (z := mn_27) hown (mvT hZ (ww hw 154 rfl)) (mvT hZ (ww hw 155 rfl)) (notFace_of_selects (args := #[]) (mvT hZ (ww hw 157 rfl))) (mvT hZ (ww hw 157 rfl)) (mvT hZ (ww hw 156 rfl)) (by decide) (backOf (W := 0) (rm29_v l Z a0 hw [] a1 (p2 + (11 : Int32)) d kd z B (117 : Int32) cs fm h0 n0 O0 E_a1 Fc_a1 Fv_a1 V_d hz hB hk.2.2.2.2.2.2.2.2.2.2.2.1.1 hk.2.2.2.2.2.2.2.2.2.2.2.1.2 hR.2.2.2.2.2.2.2.2.2.2.2.1 S_CS h_cs S_F h_fm) hZ (ww hw 158 rfl) (ww hw 1 rfl) (by decide) (by decide)) q12a q12c (g := (mkF m 140 #[vR a1, vI p2] [iI (p2 + (11 : Int32)), iR a1])) rfl (by rw [hml]; rfl) (Steps.refl _) (argsL := [(.int (p2 + (11 : Int32)))]) (rest := []) (lenOf pd_22 rfl) rfl (wz rfl) (hb hby d28_140) (fun _ _ => ⟨rfl, e11, (by decide : 0 + 0 ≤ _), (by decide : 0 + 0 ≤ _)⟩)
  dsimp only [Pt.U, Pt.locs, Pt.cells, Pt.slots] at X12 l12 y12 z12 st12 hQ12
  subst l12 y12 z12
  obtain ⟨rfl, rfl, e12⟩ := hQ12
  try rw [List.append_nil] at X12
  obtain ⟨cq13, kq13, q13a, q13b, q13c⟩ := isOf hZ e12 E_a1
  obtain ⟨_, _, ⟨T13, L13, k13, n13⟩, -, X13, ⟨Lc13, hQ13, l13, y13, z13⟩, st13⟩ := X12.virtualBack hx (y := mn_27) (z := mn_27) hown (mvT hZ (ww hw 154 rfl)) (mvT hZ (ww hw 155 rfl)) (notFace_of_selects (args := #[]) (mvT hZ (ww hw 157 rfl))) (mvT hZ (ww hw 157 rfl)) (mvT hZ (ww hw 156 rfl)) (by decide) (backOf (W := 0) (rm29_v l Z a0 hw [] a1 (p2 + (12 : Int32)) d kd z B (100 : Int32) cs fm h0 n0 O0 E_a1 Fc_a1 Fv_a1 V_d hz hB hk.2.2.2.2.2.2.2.2.2.2.2.2.1.1 hk.2.2.2.2.2.2.2.2.2.2.2.2.1.2 hR.2.2.2.2.2.2.2.2.2.2.2.2.1 S_CS h_cs S_F h_fm) hZ (ww hw 158 rfl) (ww hw 1 rfl) (by decide) (by decide)) q13a q13c (g := (mkF m 153 #[vR a1, vI p2] [iI (p2 + (12 : Int32)), iR a1])) rfl (by rw [hml]; rfl) (Steps.refl _) (argsL := [(.int (p2 + (12 : Int32)))]) (rest := []) (lenOf pd_22 rfl) rfl (wz rfl) (hb hby d28_153) (fun _ _ => ⟨rfl, e12, (by decide : 0 + 0 ≤ _), (by decide : 0 + 0 ≤ _)⟩)
  dsimp only [Pt.U, Pt.locs, Pt.cells, Pt.slots] at X13 l13 y13 z13 st13 hQ13
  subst l13 y13 z13
  obtain ⟨rfl, rfl, e13⟩ := hQ13
  try rw [List.append_nil] at X13
  obtain ⟨cq14, kq14, q14a, q14b, q14c⟩ := isOf hZ e13 E_a1
  obtain ⟨_, _, ⟨T14, L14, k14, n14⟩, -, X14, ⟨Lc14, hQ14, l14, y14, z14⟩, st14⟩ := X13.virtualBack hx (y := mn_27) (z := mn_27) hown (mvT hZ (ww hw 154 rfl)) (mvT hZ (ww hw 155 rfl)) (notFace_of_selects (args := #[]) (mvT hZ (ww hw 157 rfl))) (mvT hZ (ww hw 157 rfl)) (mvT hZ (ww hw 156 rfl)) (by decide) (backOf (W := 0) (rm29_v l Z a0 hw [] a1 (p2 + (13 : Int32)) d kd z B (45 : Int32) cs fm h0 n0 O0 E_a1 Fc_a1 Fv_a1 V_d hz hB hk.2.2.2.2.2.2.2.2.2.2.2.2.2.1.1 hk.2.2.2.2.2.2.2.2.2.2.2.2.2.1.2 hR.2.2.2.2.2.2.2.2.2.2.2.2.2.1 S_CS h_cs S_F h_fm) hZ (ww hw 158 rfl) (ww hw 1 rfl) (by decide) (by decide)) q14a q14c (g := (mkF m 166 #[vR a1, vI p2] [iI (p2 + (13 : Int32)), iR a1])) rfl (by rw [hml]; rfl) (Steps.refl _) (argsL := [(.int (p2 + (13 : Int32)))]) (rest := []) (lenOf pd_22 rfl) rfl (wz rfl) (hb hby d28_166) (fun _ _ => ⟨rfl, e13, (by decide : 0 + 0 ≤ _), (by decide : 0 + 0 ≤ _)⟩)
  dsimp only [Pt.U, Pt.locs, Pt.cells, Pt.slots] at X14 l14 y14 z14 st14 hQ14
  subst l14 y14 z14
  obtain ⟨rfl, rfl, e14⟩ := hQ14
  try rw [List.append_nil] at X14
  obtain ⟨cq15, kq15, q15a, q15b, q15c⟩ := isOf hZ e14 E_a1
  obtain ⟨_, _, ⟨T15, L15, k15, n15⟩, -, X15, ⟨Lc15, hQ15, l15, y15, z15⟩, st15⟩ := X14.virtualBack hx (y := mn_27) (z := mn_27) hown (mvT hZ (ww hw 154 rfl)) (mvT hZ (ww hw 155 rfl)) (notFace_of_selects (args := #[]) (mvT hZ (ww hw 157 rfl))) (mvT hZ (ww hw 157 rfl)) (mvT hZ (ww hw 156 rfl)) (by decide) (backOf (W := 0) (rm29_v l Z a0 hw [] a1 (p2 + (14 : Int32)) d kd z B (116 : Int32) cs fm h0 n0 O0 E_a1 Fc_a1 Fv_a1 V_d hz hB hk.2.2.2.2.2.2.2.2.2.2.2.2.2.2.1.1 hk.2.2.2.2.2.2.2.2.2.2.2.2.2.2.1.2 hR.2.2.2.2.2.2.2.2.2.2.2.2.2.2.1 S_CS h_cs S_F h_fm) hZ (ww hw 158 rfl) (ww hw 1 rfl) (by decide) (by decide)) q15a q15c (g := (mkF m 179 #[vR a1, vI p2] [iI (p2 + (14 : Int32)), iR a1])) rfl (by rw [hml]; rfl) (Steps.refl _) (argsL := [(.int (p2 + (14 : Int32)))]) (rest := []) (lenOf pd_22 rfl) rfl (wz rfl) (hb hby d28_179) (fun _ _ => ⟨rfl, e14, (by decide : 0 + 0 ≤ _), (by decide : 0 + 0 ≤ _)⟩)
  dsimp only [Pt.U, Pt.locs, Pt.cells, Pt.slots] at X15 l15 y15 z15 st15 hQ15
  subst l15 y15 z15
  obtain ⟨rfl, rfl, e15⟩ := hQ15
  try rw [List.append_nil] at X15
  obtain ⟨cq16, kq16, q16a, q16b, q16c⟩ := isOf hZ e15 E_a1
  obtain ⟨_, _, ⟨T16, L16, k16, n16⟩, -, X16, ⟨Lc16, hQ16, l16, y16, z16⟩, st16⟩ := X15.virtualBack hx (y := mn_27) (z := mn_27) hown (mvT hZ (ww hw 154 rfl)) (mvT hZ (ww hw 155 rfl)) (notFace_of_selects (args := #[]) (mvT hZ (ww hw 157 rfl))) (mvT hZ (ww hw 157 rfl)) (mvT hZ (ww hw 156 rfl)) (by decide) (backOf (W := 0) (rm29_v l Z a0 hw [] a1 (p2 + (15 : Int32)) d kd z B (111 : Int32) cs fm h0 n0 O0 E_a1 Fc_a1 Fv_a1 V_d hz hB hk.2.2.2.2.2.2.2.2.2.2.2.2.2.2.2.1.1 hk.2.2.2.2.2.2.2.2.2.2.2.2.2.2.2.1.2 hR.2.2.2.2.2.2.2.2.2.2.2.2.2.2.2.1 S_CS h_cs S_F h_fm) hZ (ww hw 158 rfl) (ww hw 1 rfl) (by decide) (by decide)) q16a q16c (g := (mkF m 192 #[vR a1, vI p2] [iI (p2 + (15 : Int32)), iR a1])) rfl (by rw [hml]; rfl) (Steps.refl _) (argsL := [(.int (p2 + (15 : Int32)))]) (rest := []) (lenOf pd_22 rfl) rfl (wz rfl) (hb hby d28_192) (fun _ _ => ⟨rfl, e15, (by decide : 0 + 0 ≤ _), (by decide : 0 + 0 ≤ _)⟩)
  dsimp only [Pt.U, Pt.locs, Pt.cells, Pt.slots] at X16 l16 y16 z16 st16 hQ16
  subst l16 y16 z16
  obtain ⟨rfl, rfl, e16⟩ := hQ16
  try rw [List.append_nil] at X16
  obtain ⟨cq17, kq17, q17a, q17b, q17c⟩ := isOf hZ e16 E_a1
  obtain ⟨_, _, ⟨T17, L17, k17, n17⟩, -, X17, ⟨Lc17, hQ17, l17, y17, z17⟩, st17⟩ := X16.virtualBack hx (y := mn_27) (z := mn_27) hown (mvT hZ (ww hw 154 rfl)) (mvT hZ (ww hw 155 rfl)) (notFace_of_selects (args := #[]) (mvT hZ (ww hw 157 rfl))) (mvT hZ (ww hw 157 rfl)) (mvT hZ (ww hw 156 rfl)) (by decide) (backOf (W := 0) (rm29_v l Z a0 hw [] a1 (p2 + (16 : Int32)) d kd z B (45 : Int32) cs fm h0 n0 O0 E_a1 Fc_a1 Fv_a1 V_d hz hB hk.2.2.2.2.2.2.2.2.2.2.2.2.2.2.2.2.1.1 hk.2.2.2.2.2.2.2.2.2.2.2.2.2.2.2.2.1.2 hR.2.2.2.2.2.2.2.2.2.2.2.2.2.2.2.2.1 S_CS h_cs S_F h_fm) hZ (ww hw 158 rfl) (ww hw 1 rfl) (by decide) (by decide)) q17a q17c (g := (mkF m 205 #[vR a1, vI p2] [iI (p2 + (16 : Int32)), iR a1])) rfl (by rw [hml]; rfl) (Steps.refl _) (argsL := [(.int (p2 + (16 : Int32)))]) (rest := []) (lenOf pd_22 rfl) rfl (wz rfl) (hb hby d28_205) (fun _ _ => ⟨rfl, e16, (by decide : 0 + 0 ≤ _), (by decide : 0 + 0 ≤ _)⟩)
  dsimp only [Pt.U, Pt.locs, Pt.cells, Pt.slots] at X17 l17 y17 z17 st17 hQ17
  subst l17 y17 z17
  obtain ⟨rfl, rfl, e17⟩ := hQ17
  try rw [List.append_nil] at X17
  obtain ⟨cq18, kq18, q18a, q18b, q18c⟩ := isOf hZ e17 E_a1
  obtain ⟨_, _, ⟨T18, L18, k18, n18⟩, -, X18, ⟨Lc18, hQ18, l18, y18, z18⟩, st18⟩ := X17.virtualBack hx (y := mn_27) (z := mn_27) hown (mvT hZ (ww hw 154 rfl)) (mvT hZ (ww hw 155 rfl)) (notFace_of_selects (args := #[]) (mvT hZ (ww hw 157 rfl))) (mvT hZ (ww hw 157 rfl)) (mvT hZ (ww hw 156 rfl)) (by decide) (backOf (W := 0) (rm29_v l Z a0 hw [] a1 (p2 + (17 : Int32)) d kd z B (99 : Int32) cs fm h0 n0 O0 E_a1 Fc_a1 Fv_a1 V_d hz hB hk.2.2.2.2.2.2.2.2.2.2.2.2.2.2.2.2.2.1.1 hk.2.2.2.2.2.2.2.2.2.2.2.2.2.2.2.2.2.1.2 hR.2.2.2.2.2.2.2.2.2.2.2.2.2.2.2.2.2.1 S_CS h_cs S_F h_fm) hZ (ww hw 158 rfl) (ww hw 1 rfl) (by decide) (by decide)) q18a q18c (g := (mkF m 218 #[vR a1, vI p2] [iI (p2 + (17 : Int32)), iR a1])) rfl (by rw [hml]; rfl) (Steps.refl _) (argsL := [(.int (p2 + (17 : Int32)))]) (rest := []) (lenOf pd_22 rfl) rfl (wz rfl) (hb hby d28_218) (fun _ _ => ⟨rfl, e17, (by decide : 0 + 0 ≤ _), (by decide : 0 + 0 ≤ _)⟩)
  dsimp only [Pt.U, Pt.locs, Pt.cells, Pt.slots] at X18 l18 y18 z18 st18 hQ18
  subst l18 y18 z18
  obtain ⟨rfl, rfl, e18⟩ := hQ18
  try rw [List.append_nil] at X18
  obtain ⟨cq19, kq19, q19a, q19b, q19c⟩ := isOf hZ e18 E_a1
  obtain ⟨_, _, ⟨T19, L19, k19, n19⟩, -, X19, ⟨Lc19, hQ19, l19, y19, z19⟩, st19⟩ := X18.virtualBack hx (y := mn_27) (z := mn_27) hown (mvT hZ (ww hw 154 rfl)) (mvT hZ (ww hw 155 rfl)) (notFace_of_selects (args := #[]) (mvT hZ (ww hw 157 rfl))) (mvT hZ (ww hw 157 rfl)) (mvT hZ (ww hw 156 rfl)) (by decide) (backOf (W := 0) (rm29_v l Z a0 hw [] a1 (p2 + (18 : Int32)) d kd z B (111 : Int32) cs fm h0 n0 O0 E_a1 Fc_a1 Fv_a1 V_d hz hB hk.2.2.2.2.2.2.2.2.2.2.2.2.2.2.2.2.2.2.1.1 hk.2.2.2.2.2.2.2.2.2.2.2.2.2.2.2.2.2.2.1.2 hR.2.2.2.2.2.2.2.2.2.2.2.2.2.2.2.2.2.2.1 S_CS h_cs S_F h_fm) hZ (ww hw 158 rfl) (ww hw 1 rfl) (by decide) (by decide)) q19a q19c (g := (mkF m 231 #[vR a1, vI p2] [iI (p2 + (18 : Int32)), iR a1])) rfl (by rw [hml]; rfl) (Steps.refl _) (argsL := [(.int (p2 + (18 : Int32)))]) (rest := []) (lenOf pd_22 rfl) rfl (wz rfl) (hb hby d28_231) (fun _ _ => ⟨rfl, e18, (by decide : 0 + 0 ≤ _), (by decide : 0 + 0 ≤ _)⟩)
  dsimp only [Pt.U, Pt.locs, Pt.cells, Pt.slots] at X19 l19 y19 z19 st19 hQ19
  subst l19 y19 z19
  obtain ⟨rfl, rfl, e19⟩ := hQ19
  try rw [List.append_nil] at X19
  obtain ⟨cq20, kq20, q20a, q20b, q20c⟩ := isOf hZ e19 E_a1
  obtain ⟨_, _, ⟨T20, L20, k20, n20⟩, -, X20, ⟨Lc20, hQ20, l20, y20, z20⟩, st20⟩ := X19.virtualBack hx (y := mn_27) (z := mn_27) hown (mvT hZ (ww hw 154 rfl)) (mvT hZ (ww hw 155 rfl)) (notFace_of_selects (args := #[]) (mvT hZ (ww hw 157 rfl))) (mvT hZ (ww hw 157 rfl)) (mvT hZ (ww hw 156 rfl)) (by decide) (backOf (W := 0) (rm29_v l Z a0 hw [] a1 (p2 + (19 : Int32)) d kd z B (114 : Int32) cs fm h0 n0 O0 E_a1 Fc_a1 Fv_a1 V_d hz hB hk.2.2.2.2.2.2.2.2.2.2.2.2.2.2.2.2.2.2.2.1.1 hk.2.2.2.2.2.2.2.2.2.2.2.2.2.2.2.2.2.2.2.1.2 hR.2.2.2.2.2.2.2.2.2.2.2.2.2.2.2.2.2.2.2.1 S_CS h_cs S_F h_fm) hZ (ww hw 158 rfl) (ww hw 1 rfl) (by decide) (by decide)) q20a q20c (g := (mkF m 244 #[vR a1, vI p2] [iI (p2 + (19 : Int32)), iR a1])) rfl (by rw [hml]; rfl) (Steps.refl _) (argsL := [(.int (p2 + (19 : Int32)))]) (rest := []) (lenOf pd_22 rfl) rfl (wz rfl) (hb hby d28_244) (fun _ _ => ⟨rfl, e19, (by decide : 0 + 0 ≤ _), (by decide : 0 + 0 ≤ _)⟩)
  dsimp only [Pt.U, Pt.locs, Pt.cells, Pt.slots] at X20 l20 y20 z20 st20 hQ20
  subst l20 y20 z20
  obtain ⟨rfl, rfl, e20⟩ := hQ20
  try rw [List.append_nil] at X20
  obtain ⟨cq21, kq21, q21a, q21b, q21c⟩ := isOf hZ e20 E_a1
  obtain ⟨_, _, ⟨T21, L21, k21, n21⟩, -, X21, ⟨Lc21, hQ21, l21, y21, z21⟩, st21⟩ := X20.virtualBack hx (y := mn_27) (z := mn_27) hown (mvT hZ (ww hw 154 rfl)) (mvT hZ (ww hw 155 rfl)) (notFace_of_selects (args := #[]) (mvT hZ (ww hw 157 rfl))) (mvT hZ (ww hw 157 rfl)) (mvT hZ (ww hw 156 rfl)) (by decide) (backOf (W := 0) (rm29_v l Z a0 hw [] a1 (p2 + (20 : Int32)) d kd z B (101 : Int32) cs fm h0 n0 O0 E_a1 Fc_a1 Fv_a1 V_d hz hB hk.2.2.2.2.2.2.2.2.2.2.2.2.2.2.2.2.2.2.2.2.1.1 hk.2.2.2.2.2.2.2.2.2.2.2.2.2.2.2.2.2.2.2.2.1.2 hR.2.2.2.2.2.2.2.2.2.2.2.2.2.2.2.2.2.2.2.2.1 S_CS h_cs S_F h_fm) hZ (ww hw 158 rfl) (ww hw 1 rfl) (by decide) (by decide)) q21a q21c (g := (mkF m 257 #[vR a1, vI p2] [iI (p2 + (20 : Int32)), iR a1])) rfl (by rw [hml]; rfl) (Steps.refl _) (argsL := [(.int (p2 + (20 : Int32)))]) (rest := []) (lenOf pd_22 rfl) rfl (wz rfl) (hb hby d28_257) (fun _ _ => ⟨rfl, e20, (by decide : 0 + 0 ≤ _), (by decide : 0 + 0 ≤ _)⟩)
  dsimp only [Pt.U, Pt.locs, Pt.cells, Pt.slots] at X21 l21 y21 z21 st21 hQ21
  subst l21 y21 z21
  obtain ⟨rfl, rfl, e21⟩ := hQ21
  try rw [List.append_nil] at X21
  obtain ⟨cq22, kq22, q22a, q22b, q22c⟩ := isOf hZ e21 E_a1
  obtain ⟨_, _, ⟨T22, L22, k22, n22⟩, -, X22, ⟨Lc22, hQ22, l22, y22, z22⟩, st22⟩ := X21.virtualBack hx (y := mn_27) (z := mn_27) hown (mvT hZ (ww hw 154 rfl)) (mvT hZ (ww hw 155 rfl)) (notFace_of_selects (args := #[]) (mvT hZ (ww hw 157 rfl))) (mvT hZ (ww hw 157 rfl)) (mvT hZ (ww hw 156 rfl)) (by decide) (backOf (W := 0) (rm29_v l Z a0 hw [] a1 (p2 + (21 : Int32)) d kd z B (34 : Int32) cs fm h0 n0 O0 E_a1 Fc_a1 Fv_a1 V_d hz hB hk.2.2.2.2.2.2.2.2.2.2.2.2.2.2.2.2.2.2.2.2.2.1 hk.2.2.2.2.2.2.2.2.2.2.2.2.2.2.2.2.2.2.2.2.2.2 hR.2.2.2.2.2.2.2.2.2.2.2.2.2.2.2.2.2.2.2.2.2 S_CS h_cs S_F h_fm) hZ (ww hw 158 rfl) (ww hw 1 rfl) (by decide) (by decide)) q22a q22c (g := (mkF m 270 #[vR a1, vI p2] [iI (p2 + (21 : Int32)), iR a1])) rfl (by rw [hml]; rfl) (Steps.refl _) (argsL := [(.int (p2 + (21 : Int32)))]) (rest := []) (lenOf pd_22 rfl) rfl (wz rfl) (hb hby d28_270) (fun _ _ => ⟨rfl, e21, (by decide : 0 + 0 ≤ _), (by decide : 0 + 0 ≤ _)⟩)
  dsimp only [Pt.U, Pt.locs, Pt.cells, Pt.slots] at X22 l22 y22 z22 st22 hQ22
  subst l22 y22 z22
  obtain ⟨rfl, rfl, e22⟩ := hQ22
  try rw [List.append_nil] at X22
  obtain ⟨fs, hr, hrun, hended, hW, hsame⟩ := X22.leave (v := some (.int (1 : Int32))) (fun h => by rw [Bd.returns] at h; cases h)
  refine ⟨_, _, pre0 _ ?_, hrun, hended, _, _, rfl, ?_, ⟨_, rfl⟩, hW, hsame.mono (by decide) (by decide)⟩
  · show SA s₁ m 0 #[vR a1, vI p2] []
    refine XS.aloadN X0.here hx rfl (hb hby d28_0) rfl rfl ?_
    show SA s₁ m 1 #[vR a1, vI p2] [iR a1]
    refine XS.iloadN X0.here hx rfl (hb hby d28_1) rfl ?_
    show SA s₁ m 2 #[vR a1, vI p2] [iI p2, iR a1]
    refine st1.trans ?_
    show SA T1 m 5 #[vR a1, vI p2] [iI 32]
    refine XS.bipush X1.here hx rfl (hb hby d28_5) ?_
    show SA T1 m 7 #[vR a1, vI p2] [iI 32, iI 32]
    refine XS.icmpNo X1.here hx rfl (hb hby d28_7) rfl (teq (by decide : (32 : Int32) = (32 : Int32))).2 ?_
    show SA T1 m 10 #[vR a1, vI p2] []
    refine XS.aloadN X1.here hx rfl (hb hby d28_10) rfl rfl ?_
    show SA T1 m 11 #[vR a1, vI p2] [iR a1]
    refine XS.iloadN X1.here hx rfl (hb hby d28_11) rfl ?_
    show SA T1 m 12 #[vR a1, vI p2] [iI p2, iR a1]
    refine XS.iconst X1.here hx rfl (hb hby d28_12) ?_
    show SA T1 m 13 #[vR a1, vI p2] [iI 1, iI p2, iR a1]
    refine XS.iadd X1.here hx rfl (hb hby d28_13) rfl ?_
    show SA T1 m 14 #[vR a1, vI p2] [iI (p2 + (1 : Int32)), iR a1]
    refine st2.trans ?_
    show SA T2 m 17 #[vR a1, vI p2] [iI 114]
    refine XS.bipush X2.here hx rfl (hb hby d28_17) ?_
    show SA T2 m 19 #[vR a1, vI p2] [iI 114, iI 114]
    refine XS.icmpNo X2.here hx rfl (hb hby d28_19) rfl (teq (by decide : (114 : Int32) = (114 : Int32))).2 ?_
    show SA T2 m 22 #[vR a1, vI p2] []
    refine XS.aloadN X2.here hx rfl (hb hby d28_22) rfl rfl ?_
    show SA T2 m 23 #[vR a1, vI p2] [iR a1]
    refine XS.iloadN X2.here hx rfl (hb hby d28_23) rfl ?_
    show SA T2 m 24 #[vR a1, vI p2] [iI p2, iR a1]
    refine XS.iconst X2.here hx rfl (hb hby d28_24) ?_
    show SA T2 m 25 #[vR a1, vI p2] [iI 2, iI p2, iR a1]
    refine XS.iadd X2.here hx rfl (hb hby d28_25) rfl ?_
    show SA T2 m 26 #[vR a1, vI p2] [iI (p2 + (2 : Int32)), iR a1]
    refine st3.trans ?_
    show SA T3 m 29 #[vR a1, vI p2] [iI 101]
    refine XS.bipush X3.here hx rfl (hb hby d28_29) ?_
    show SA T3 m 31 #[vR a1, vI p2] [iI 101, iI 101]
    refine XS.icmpNo X3.here hx rfl (hb hby d28_31) rfl (teq (by decide : (101 : Int32) = (101 : Int32))).2 ?_
    show SA T3 m 34 #[vR a1, vI p2] []
    refine XS.aloadN X3.here hx rfl (hb hby d28_34) rfl rfl ?_
    show SA T3 m 35 #[vR a1, vI p2] [iR a1]
    refine XS.iloadN X3.here hx rfl (hb hby d28_35) rfl ?_
    show SA T3 m 36 #[vR a1, vI p2] [iI p2, iR a1]
    refine XS.iconst X3.here hx rfl (hb hby d28_36) ?_
    show SA T3 m 37 #[vR a1, vI p2] [iI 3, iI p2, iR a1]
    refine XS.iadd X3.here hx rfl (hb hby d28_37) rfl ?_
    show SA T3 m 38 #[vR a1, vI p2] [iI (p2 + (3 : Int32)), iR a1]
    refine st4.trans ?_
    show SA T4 m 41 #[vR a1, vI p2] [iI 97]
    refine XS.bipush X4.here hx rfl (hb hby d28_41) ?_
    show SA T4 m 43 #[vR a1, vI p2] [iI 97, iI 97]
    refine XS.icmpNo X4.here hx rfl (hb hby d28_43) rfl (teq (by decide : (97 : Int32) = (97 : Int32))).2 ?_
    show SA T4 m 46 #[vR a1, vI p2] []
    refine XS.aloadN X4.here hx rfl (hb hby d28_46) rfl rfl ?_
    show SA T4 m 47 #[vR a1, vI p2] [iR a1]
    refine XS.iloadN X4.here hx rfl (hb hby d28_47) rfl ?_
    show SA T4 m 48 #[vR a1, vI p2] [iI p2, iR a1]
    refine XS.iconst X4.here hx rfl (hb hby d28_48) ?_
    show SA T4 m 49 #[vR a1, vI p2] [iI 4, iI p2, iR a1]
    refine XS.iadd X4.here hx rfl (hb hby d28_49) rfl ?_
    show SA T4 m 50 #[vR a1, vI p2] [iI (p2 + (4 : Int32)), iR a1]
    refine st5.trans ?_
    show SA T5 m 53 #[vR a1, vI p2] [iI 108]
    refine XS.bipush X5.here hx rfl (hb hby d28_53) ?_
    show SA T5 m 55 #[vR a1, vI p2] [iI 108, iI 108]
    refine XS.icmpNo X5.here hx rfl (hb hby d28_55) rfl (teq (by decide : (108 : Int32) = (108 : Int32))).2 ?_
    show SA T5 m 58 #[vR a1, vI p2] []
    refine XS.aloadN X5.here hx rfl (hb hby d28_58) rfl rfl ?_
    show SA T5 m 59 #[vR a1, vI p2] [iR a1]
    refine XS.iloadN X5.here hx rfl (hb hby d28_59) rfl ?_
    show SA T5 m 60 #[vR a1, vI p2] [iI p2, iR a1]
    refine XS.iconst X5.here hx rfl (hb hby d28_60) ?_
    show SA T5 m 61 #[vR a1, vI p2] [iI 5, iI p2, iR a1]
    refine XS.iadd X5.here hx rfl (hb hby d28_61) rfl ?_
    show SA T5 m 62 #[vR a1, vI p2] [iI (p2 + (5 : Int32)), iR a1]
    refine st6.trans ?_
    show SA T6 m 65 #[vR a1, vI p2] [iI 109]
    refine XS.bipush X6.here hx rfl (hb hby d28_65) ?_
    show SA T6 m 67 #[vR a1, vI p2] [iI 109, iI 109]
    refine XS.icmpNo X6.here hx rfl (hb hby d28_67) rfl (teq (by decide : (109 : Int32) = (109 : Int32))).2 ?_
    show SA T6 m 70 #[vR a1, vI p2] []
    refine XS.aloadN X6.here hx rfl (hb hby d28_70) rfl rfl ?_
    show SA T6 m 71 #[vR a1, vI p2] [iR a1]
    refine XS.iloadN X6.here hx rfl (hb hby d28_71) rfl ?_
    show SA T6 m 72 #[vR a1, vI p2] [iI p2, iR a1]
    refine XS.bipush X6.here hx rfl (hb hby d28_72) ?_
    show SA T6 m 74 #[vR a1, vI p2] [iI 6, iI p2, iR a1]
    refine XS.iadd X6.here hx rfl (hb hby d28_74) rfl ?_
    show SA T6 m 75 #[vR a1, vI p2] [iI (p2 + (6 : Int32)), iR a1]
    refine st7.trans ?_
    show SA T7 m 78 #[vR a1, vI p2] [iI 61]
    refine XS.bipush X7.here hx rfl (hb hby d28_78) ?_
    show SA T7 m 80 #[vR a1, vI p2] [iI 61, iI 61]
    refine XS.icmpNo X7.here hx rfl (hb hby d28_80) rfl (teq (by decide : (61 : Int32) = (61 : Int32))).2 ?_
    show SA T7 m 83 #[vR a1, vI p2] []
    refine XS.aloadN X7.here hx rfl (hb hby d28_83) rfl rfl ?_
    show SA T7 m 84 #[vR a1, vI p2] [iR a1]
    refine XS.iloadN X7.here hx rfl (hb hby d28_84) rfl ?_
    show SA T7 m 85 #[vR a1, vI p2] [iI p2, iR a1]
    refine XS.bipush X7.here hx rfl (hb hby d28_85) ?_
    show SA T7 m 87 #[vR a1, vI p2] [iI 7, iI p2, iR a1]
    refine XS.iadd X7.here hx rfl (hb hby d28_87) rfl ?_
    show SA T7 m 88 #[vR a1, vI p2] [iI (p2 + (7 : Int32)), iR a1]
    refine st8.trans ?_
    show SA T8 m 91 #[vR a1, vI p2] [iI 34]
    refine XS.bipush X8.here hx rfl (hb hby d28_91) ?_
    show SA T8 m 93 #[vR a1, vI p2] [iI 34, iI 34]
    refine XS.icmpNo X8.here hx rfl (hb hby d28_93) rfl (teq (by decide : (34 : Int32) = (34 : Int32))).2 ?_
    show SA T8 m 96 #[vR a1, vI p2] []
    refine XS.aloadN X8.here hx rfl (hb hby d28_96) rfl rfl ?_
    show SA T8 m 97 #[vR a1, vI p2] [iR a1]
    refine XS.iloadN X8.here hx rfl (hb hby d28_97) rfl ?_
    show SA T8 m 98 #[vR a1, vI p2] [iI p2, iR a1]
    refine XS.bipush X8.here hx rfl (hb hby d28_98) ?_
    show SA T8 m 100 #[vR a1, vI p2] [iI 8, iI p2, iR a1]
    refine XS.iadd X8.here hx rfl (hb hby d28_100) rfl ?_
    show SA T8 m 101 #[vR a1, vI p2] [iI (p2 + (8 : Int32)), iR a1]
    refine st9.trans ?_
    show SA T9 m 104 #[vR a1, vI p2] [iI 99]
    refine XS.bipush X9.here hx rfl (hb hby d28_104) ?_
    show SA T9 m 106 #[vR a1, vI p2] [iI 99, iI 99]
    refine XS.icmpNo X9.here hx rfl (hb hby d28_106) rfl (teq (by decide : (99 : Int32) = (99 : Int32))).2 ?_
    show SA T9 m 109 #[vR a1, vI p2] []
    refine XS.aloadN X9.here hx rfl (hb hby d28_109) rfl rfl ?_
    show SA T9 m 110 #[vR a1, vI p2] [iR a1]
    refine XS.iloadN X9.here hx rfl (hb hby d28_110) rfl ?_
    show SA T9 m 111 #[vR a1, vI p2] [iI p2, iR a1]
    refine XS.bipush X9.here hx rfl (hb hby d28_111) ?_
    show SA T9 m 113 #[vR a1, vI p2] [iI 9, iI p2, iR a1]
    refine XS.iadd X9.here hx rfl (hb hby d28_113) rfl ?_
    show SA T9 m 114 #[vR a1, vI p2] [iI (p2 + (9 : Int32)), iR a1]
    refine st10.trans ?_
    show SA T10 m 117 #[vR a1, vI p2] [iI 108]
    refine XS.bipush X10.here hx rfl (hb hby d28_117) ?_
    show SA T10 m 119 #[vR a1, vI p2] [iI 108, iI 108]
    refine XS.icmpNo X10.here hx rfl (hb hby d28_119) rfl (teq (by decide : (108 : Int32) = (108 : Int32))).2 ?_
    show SA T10 m 122 #[vR a1, vI p2] []
    refine XS.aloadN X10.here hx rfl (hb hby d28_122) rfl rfl ?_
    show SA T10 m 123 #[vR a1, vI p2] [iR a1]
    refine XS.iloadN X10.here hx rfl (hb hby d28_123) rfl ?_
    show SA T10 m 124 #[vR a1, vI p2] [iI p2, iR a1]
    refine XS.bipush X10.here hx rfl (hb hby d28_124) ?_
    show SA T10 m 126 #[vR a1, vI p2] [iI 10, iI p2, iR a1]
    refine XS.iadd X10.here hx rfl (hb hby d28_126) rfl ?_
    show SA T10 m 127 #[vR a1, vI p2] [iI (p2 + (10 : Int32)), iR a1]
    refine st11.trans ?_
    show SA T11 m 130 #[vR a1, vI p2] [iI 111]
    refine XS.bipush X11.here hx rfl (hb hby d28_130) ?_
    show SA T11 m 132 #[vR a1, vI p2] [iI 111, iI 111]
    refine XS.icmpNo X11.here hx rfl (hb hby d28_132) rfl (teq (by decide : (111 : Int32) = (111 : Int32))).2 ?_
    show SA T11 m 135 #[vR a1, vI p2] []
    refine XS.aloadN X11.here hx rfl (hb hby d28_135) rfl rfl ?_
    show SA T11 m 136 #[vR a1, vI p2] [iR a1]
    refine XS.iloadN X11.here hx rfl (hb hby d28_136) rfl ?_
    show SA T11 m 137 #[vR a1, vI p2] [iI p2, iR a1]
    refine XS.bipush X11.here hx rfl (hb hby d28_137) ?_
    show SA T11 m 139 #[vR a1, vI p2] [iI 11, iI p2, iR a1]
    refine XS.iadd X11.here hx rfl (hb hby d28_139) rfl ?_
    show SA T11 m 140 #[vR a1, vI p2] [iI (p2 + (11 : Int32)), iR a1]
    refine st12.trans ?_
    show SA T12 m 143 #[vR a1, vI p2] [iI 117]
    refine XS.bipush X12.here hx rfl (hb hby d28_143) ?_
    show SA T12 m 145 #[vR a1, vI p2] [iI 117, iI 117]
    refine XS.icmpNo X12.here hx rfl (hb hby d28_145) rfl (teq (by decide : (117 : Int32) = (117 : Int32))).2 ?_
    show SA T12 m 148 #[vR a1, vI p2] []
    refine XS.aloadN X12.here hx rfl (hb hby d28_148) rfl rfl ?_
    show SA T12 m 149 #[vR a1, vI p2] [iR a1]
    refine XS.iloadN X12.here hx rfl (hb hby d28_149) rfl ?_
    show SA T12 m 150 #[vR a1, vI p2] [iI p2, iR a1]
    refine XS.bipush X12.here hx rfl (hb hby d28_150) ?_
    show SA T12 m 152 #[vR a1, vI p2] [iI 12, iI p2, iR a1]
    refine XS.iadd X12.here hx rfl (hb hby d28_152) rfl ?_
    show SA T12 m 153 #[vR a1, vI p2] [iI (p2 + (12 : Int32)), iR a1]
    refine st13.trans ?_
    show SA T13 m 156 #[vR a1, vI p2] [iI 100]
    refine XS.bipush X13.here hx rfl (hb hby d28_156) ?_
    show SA T13 m 158 #[vR a1, vI p2] [iI 100, iI 100]
    refine XS.icmpNo X13.here hx rfl (hb hby d28_158) rfl (teq (by decide : (100 : Int32) = (100 : Int32))).2 ?_
    show SA T13 m 161 #[vR a1, vI p2] []
    refine XS.aloadN X13.here hx rfl (hb hby d28_161) rfl rfl ?_
    show SA T13 m 162 #[vR a1, vI p2] [iR a1]
    refine XS.iloadN X13.here hx rfl (hb hby d28_162) rfl ?_
    show SA T13 m 163 #[vR a1, vI p2] [iI p2, iR a1]
    refine XS.bipush X13.here hx rfl (hb hby d28_163) ?_
    show SA T13 m 165 #[vR a1, vI p2] [iI 13, iI p2, iR a1]
    refine XS.iadd X13.here hx rfl (hb hby d28_165) rfl ?_
    show SA T13 m 166 #[vR a1, vI p2] [iI (p2 + (13 : Int32)), iR a1]
    refine st14.trans ?_
    show SA T14 m 169 #[vR a1, vI p2] [iI 45]
    refine XS.bipush X14.here hx rfl (hb hby d28_169) ?_
    show SA T14 m 171 #[vR a1, vI p2] [iI 45, iI 45]
    refine XS.icmpNo X14.here hx rfl (hb hby d28_171) rfl (teq (by decide : (45 : Int32) = (45 : Int32))).2 ?_
    show SA T14 m 174 #[vR a1, vI p2] []
    refine XS.aloadN X14.here hx rfl (hb hby d28_174) rfl rfl ?_
    show SA T14 m 175 #[vR a1, vI p2] [iR a1]
    refine XS.iloadN X14.here hx rfl (hb hby d28_175) rfl ?_
    show SA T14 m 176 #[vR a1, vI p2] [iI p2, iR a1]
    refine XS.bipush X14.here hx rfl (hb hby d28_176) ?_
    show SA T14 m 178 #[vR a1, vI p2] [iI 14, iI p2, iR a1]
    refine XS.iadd X14.here hx rfl (hb hby d28_178) rfl ?_
    show SA T14 m 179 #[vR a1, vI p2] [iI (p2 + (14 : Int32)), iR a1]
    refine st15.trans ?_
    show SA T15 m 182 #[vR a1, vI p2] [iI 116]
    refine XS.bipush X15.here hx rfl (hb hby d28_182) ?_
    show SA T15 m 184 #[vR a1, vI p2] [iI 116, iI 116]
    refine XS.icmpNo X15.here hx rfl (hb hby d28_184) rfl (teq (by decide : (116 : Int32) = (116 : Int32))).2 ?_
    show SA T15 m 187 #[vR a1, vI p2] []
    refine XS.aloadN X15.here hx rfl (hb hby d28_187) rfl rfl ?_
    show SA T15 m 188 #[vR a1, vI p2] [iR a1]
    refine XS.iloadN X15.here hx rfl (hb hby d28_188) rfl ?_
    show SA T15 m 189 #[vR a1, vI p2] [iI p2, iR a1]
    refine XS.bipush X15.here hx rfl (hb hby d28_189) ?_
    show SA T15 m 191 #[vR a1, vI p2] [iI 15, iI p2, iR a1]
    refine XS.iadd X15.here hx rfl (hb hby d28_191) rfl ?_
    show SA T15 m 192 #[vR a1, vI p2] [iI (p2 + (15 : Int32)), iR a1]
    refine st16.trans ?_
    show SA T16 m 195 #[vR a1, vI p2] [iI 111]
    refine XS.bipush X16.here hx rfl (hb hby d28_195) ?_
    show SA T16 m 197 #[vR a1, vI p2] [iI 111, iI 111]
    refine XS.icmpNo X16.here hx rfl (hb hby d28_197) rfl (teq (by decide : (111 : Int32) = (111 : Int32))).2 ?_
    show SA T16 m 200 #[vR a1, vI p2] []
    refine XS.aloadN X16.here hx rfl (hb hby d28_200) rfl rfl ?_
    show SA T16 m 201 #[vR a1, vI p2] [iR a1]
    refine XS.iloadN X16.here hx rfl (hb hby d28_201) rfl ?_
    show SA T16 m 202 #[vR a1, vI p2] [iI p2, iR a1]
    refine XS.bipush X16.here hx rfl (hb hby d28_202) ?_
    show SA T16 m 204 #[vR a1, vI p2] [iI 16, iI p2, iR a1]
    refine XS.iadd X16.here hx rfl (hb hby d28_204) rfl ?_
    show SA T16 m 205 #[vR a1, vI p2] [iI (p2 + (16 : Int32)), iR a1]
    refine st17.trans ?_
    show SA T17 m 208 #[vR a1, vI p2] [iI 45]
    refine XS.bipush X17.here hx rfl (hb hby d28_208) ?_
    show SA T17 m 210 #[vR a1, vI p2] [iI 45, iI 45]
    refine XS.icmpNo X17.here hx rfl (hb hby d28_210) rfl (teq (by decide : (45 : Int32) = (45 : Int32))).2 ?_
    show SA T17 m 213 #[vR a1, vI p2] []
    refine XS.aloadN X17.here hx rfl (hb hby d28_213) rfl rfl ?_
    show SA T17 m 214 #[vR a1, vI p2] [iR a1]
    refine XS.iloadN X17.here hx rfl (hb hby d28_214) rfl ?_
    show SA T17 m 215 #[vR a1, vI p2] [iI p2, iR a1]
    refine XS.bipush X17.here hx rfl (hb hby d28_215) ?_
    show SA T17 m 217 #[vR a1, vI p2] [iI 17, iI p2, iR a1]
    refine XS.iadd X17.here hx rfl (hb hby d28_217) rfl ?_
    show SA T17 m 218 #[vR a1, vI p2] [iI (p2 + (17 : Int32)), iR a1]
    refine st18.trans ?_
    show SA T18 m 221 #[vR a1, vI p2] [iI 99]
    refine XS.bipush X18.here hx rfl (hb hby d28_221) ?_
    show SA T18 m 223 #[vR a1, vI p2] [iI 99, iI 99]
    refine XS.icmpNo X18.here hx rfl (hb hby d28_223) rfl (teq (by decide : (99 : Int32) = (99 : Int32))).2 ?_
    show SA T18 m 226 #[vR a1, vI p2] []
    refine XS.aloadN X18.here hx rfl (hb hby d28_226) rfl rfl ?_
    show SA T18 m 227 #[vR a1, vI p2] [iR a1]
    refine XS.iloadN X18.here hx rfl (hb hby d28_227) rfl ?_
    show SA T18 m 228 #[vR a1, vI p2] [iI p2, iR a1]
    refine XS.bipush X18.here hx rfl (hb hby d28_228) ?_
    show SA T18 m 230 #[vR a1, vI p2] [iI 18, iI p2, iR a1]
    refine XS.iadd X18.here hx rfl (hb hby d28_230) rfl ?_
    show SA T18 m 231 #[vR a1, vI p2] [iI (p2 + (18 : Int32)), iR a1]
    refine st19.trans ?_
    show SA T19 m 234 #[vR a1, vI p2] [iI 111]
    refine XS.bipush X19.here hx rfl (hb hby d28_234) ?_
    show SA T19 m 236 #[vR a1, vI p2] [iI 111, iI 111]
    refine XS.icmpNo X19.here hx rfl (hb hby d28_236) rfl (teq (by decide : (111 : Int32) = (111 : Int32))).2 ?_
    show SA T19 m 239 #[vR a1, vI p2] []
    refine XS.aloadN X19.here hx rfl (hb hby d28_239) rfl rfl ?_
    show SA T19 m 240 #[vR a1, vI p2] [iR a1]
    refine XS.iloadN X19.here hx rfl (hb hby d28_240) rfl ?_
    show SA T19 m 241 #[vR a1, vI p2] [iI p2, iR a1]
    refine XS.bipush X19.here hx rfl (hb hby d28_241) ?_
    show SA T19 m 243 #[vR a1, vI p2] [iI 19, iI p2, iR a1]
    refine XS.iadd X19.here hx rfl (hb hby d28_243) rfl ?_
    show SA T19 m 244 #[vR a1, vI p2] [iI (p2 + (19 : Int32)), iR a1]
    refine st20.trans ?_
    show SA T20 m 247 #[vR a1, vI p2] [iI 114]
    refine XS.bipush X20.here hx rfl (hb hby d28_247) ?_
    show SA T20 m 249 #[vR a1, vI p2] [iI 114, iI 114]
    refine XS.icmpNo X20.here hx rfl (hb hby d28_249) rfl (teq (by decide : (114 : Int32) = (114 : Int32))).2 ?_
    show SA T20 m 252 #[vR a1, vI p2] []
    refine XS.aloadN X20.here hx rfl (hb hby d28_252) rfl rfl ?_
    show SA T20 m 253 #[vR a1, vI p2] [iR a1]
    refine XS.iloadN X20.here hx rfl (hb hby d28_253) rfl ?_
    show SA T20 m 254 #[vR a1, vI p2] [iI p2, iR a1]
    refine XS.bipush X20.here hx rfl (hb hby d28_254) ?_
    show SA T20 m 256 #[vR a1, vI p2] [iI 20, iI p2, iR a1]
    refine XS.iadd X20.here hx rfl (hb hby d28_256) rfl ?_
    show SA T20 m 257 #[vR a1, vI p2] [iI (p2 + (20 : Int32)), iR a1]
    refine st21.trans ?_
    show SA T21 m 260 #[vR a1, vI p2] [iI 101]
    refine XS.bipush X21.here hx rfl (hb hby d28_260) ?_
    show SA T21 m 262 #[vR a1, vI p2] [iI 101, iI 101]
    refine XS.icmpNo X21.here hx rfl (hb hby d28_262) rfl (teq (by decide : (101 : Int32) = (101 : Int32))).2 ?_
    show SA T21 m 265 #[vR a1, vI p2] []
    refine XS.aloadN X21.here hx rfl (hb hby d28_265) rfl rfl ?_
    show SA T21 m 266 #[vR a1, vI p2] [iR a1]
    refine XS.iloadN X21.here hx rfl (hb hby d28_266) rfl ?_
    show SA T21 m 267 #[vR a1, vI p2] [iI p2, iR a1]
    refine XS.bipush X21.here hx rfl (hb hby d28_267) ?_
    show SA T21 m 269 #[vR a1, vI p2] [iI 21, iI p2, iR a1]
    refine XS.iadd X21.here hx rfl (hb hby d28_269) rfl ?_
    show SA T21 m 270 #[vR a1, vI p2] [iI (p2 + (21 : Int32)), iR a1]
    refine st22.trans ?_
    show SA T22 m 273 #[vR a1, vI p2] [iI 34]
    refine XS.bipush X22.here hx rfl (hb hby d28_273) ?_
    show SA T22 m 275 #[vR a1, vI p2] [iI 34, iI 34]
    refine XS.icmpNo X22.here hx rfl (hb hby d28_275) rfl (teq (by decide : (34 : Int32) = (34 : Int32))).2 ?_
    show SA T22 m 278 #[vR a1, vI p2] []
    refine XS.iconst X22.here hx rfl (hb hby d28_278) ?_
    show SA T22 m 279 #[vR a1, vI p2] [iI 1]
    refine XS.goto X22.here hx rfl (pc0 := 279) (pc' := 283) rfl (hb hby d28_279) (by decide) (by decide) ?_
    show Steps _ _ _ (T22.setTop (mkF m 283 #[vR a1, vI p2] [iI 1])) _
    exact retN X22 hx (t := .boolean) Bd.returns (by simp) (hb hby d28_283) hr
  · show Q28 Z a1 p2 d kd z B cs fm h0 _ T22.heap _
    rw [e22]
    exact ⟨rfl, rfl, rfl⟩
abbrev own_Ek (p z : Int32) : Prop := (¬ p < (0 : Int32) ∧ p < z) ∧ (¬ (p + (1 : Int32)) < (0 : Int32) ∧ (p + (1 : Int32)) < z) ∧ (¬ (p + (2 : Int32)) < (0 : Int32) ∧ (p + (2 : Int32)) < z) ∧ (¬ (p + (3 : Int32)) < (0 : Int32) ∧ (p + (3 : Int32)) < z) ∧ (¬ (p + (4 : Int32)) < (0 : Int32) ∧ (p + (4 : Int32)) < z) ∧ (¬ (p + (5 : Int32)) < (0 : Int32) ∧ (p + (5 : Int32)) < z) ∧ (¬ (p + (6 : Int32)) < (0 : Int32) ∧ (p + (6 : Int32)) < z) ∧ (¬ (p + (7 : Int32)) < (0 : Int32) ∧ (p + (7 : Int32)) < z) ∧ (¬ (p + (8 : Int32)) < (0 : Int32) ∧ (p + (8 : Int32)) < z)
abbrev own_Ee (B : List Int32) (p : Int32) : Prop := own_chr (B.getD p.toNatClampNeg 0) = (44 : Int32) ∧ own_chr (B.getD (p + (1 : Int32)).toNatClampNeg 0) = (32 : Int32) ∧ own_chr (B.getD (p + (2 : Int32)).toNatClampNeg 0) = (101 : Int32) ∧ own_chr (B.getD (p + (3 : Int32)).toNatClampNeg 0) = (114 : Int32) ∧ own_chr (B.getD (p + (4 : Int32)).toNatClampNeg 0) = (114 : Int32) ∧ own_chr (B.getD (p + (5 : Int32)).toNatClampNeg 0) = (111 : Int32) ∧ own_chr (B.getD (p + (6 : Int32)).toNatClampNeg 0) = (114 : Int32) ∧ own_chr (B.getD (p + (7 : Int32)).toNatClampNeg 0) = (61 : Int32) ∧ own_chr (B.getD (p + (8 : Int32)).toNatClampNeg 0) = (34 : Int32)
theorem d38_0 : decode method_3_code 0 = .ok (.aload_n 0, 1) := by decide +kernel
theorem d38_1 : decode method_3_code 1 = .ok (.iload_n 1, 1) := by decide +kernel
theorem d38_2 : decode method_3_code 2 = .ok (.invokevirtual 7, 3) := by decide +kernel
theorem d38_5 : decode method_3_code 5 = .ok (.bipush 44, 2) := by decide +kernel
theorem d38_7 : decode method_3_code 7 = .ok (.if_icmp .ne 106, 3) := by decide +kernel
theorem d38_10 : decode method_3_code 10 = .ok (.aload_n 0, 1) := by decide +kernel
theorem d38_11 : decode method_3_code 11 = .ok (.iload_n 1, 1) := by decide +kernel
theorem d38_12 : decode method_3_code 12 = .ok (.iconst 1, 1) := by decide +kernel
theorem d38_13 : decode method_3_code 13 = .ok (.iadd, 1) := by decide +kernel
theorem d38_14 : decode method_3_code 14 = .ok (.invokevirtual 7, 3) := by decide +kernel
theorem d38_17 : decode method_3_code 17 = .ok (.bipush 32, 2) := by decide +kernel
theorem d38_19 : decode method_3_code 19 = .ok (.if_icmp .ne 94, 3) := by decide +kernel
theorem d38_22 : decode method_3_code 22 = .ok (.aload_n 0, 1) := by decide +kernel
theorem d38_23 : decode method_3_code 23 = .ok (.iload_n 1, 1) := by decide +kernel
theorem d38_24 : decode method_3_code 24 = .ok (.iconst 2, 1) := by decide +kernel
theorem d38_25 : decode method_3_code 25 = .ok (.iadd, 1) := by decide +kernel
theorem d38_26 : decode method_3_code 26 = .ok (.invokevirtual 7, 3) := by decide +kernel
theorem d38_29 : decode method_3_code 29 = .ok (.bipush 101, 2) := by decide +kernel
theorem d38_31 : decode method_3_code 31 = .ok (.if_icmp .ne 82, 3) := by decide +kernel
theorem d38_34 : decode method_3_code 34 = .ok (.aload_n 0, 1) := by decide +kernel
theorem d38_35 : decode method_3_code 35 = .ok (.iload_n 1, 1) := by decide +kernel
theorem d38_36 : decode method_3_code 36 = .ok (.iconst 3, 1) := by decide +kernel
theorem d38_37 : decode method_3_code 37 = .ok (.iadd, 1) := by decide +kernel
theorem d38_38 : decode method_3_code 38 = .ok (.invokevirtual 7, 3) := by decide +kernel
theorem d38_41 : decode method_3_code 41 = .ok (.bipush 114, 2) := by decide +kernel
theorem d38_43 : decode method_3_code 43 = .ok (.if_icmp .ne 70, 3) := by decide +kernel
theorem d38_46 : decode method_3_code 46 = .ok (.aload_n 0, 1) := by decide +kernel
theorem d38_47 : decode method_3_code 47 = .ok (.iload_n 1, 1) := by decide +kernel
theorem d38_48 : decode method_3_code 48 = .ok (.iconst 4, 1) := by decide +kernel
theorem d38_49 : decode method_3_code 49 = .ok (.iadd, 1) := by decide +kernel
theorem d38_50 : decode method_3_code 50 = .ok (.invokevirtual 7, 3) := by decide +kernel
theorem d38_53 : decode method_3_code 53 = .ok (.bipush 114, 2) := by decide +kernel
theorem d38_55 : decode method_3_code 55 = .ok (.if_icmp .ne 58, 3) := by decide +kernel
theorem d38_58 : decode method_3_code 58 = .ok (.aload_n 0, 1) := by decide +kernel
theorem d38_59 : decode method_3_code 59 = .ok (.iload_n 1, 1) := by decide +kernel
theorem d38_60 : decode method_3_code 60 = .ok (.iconst 5, 1) := by decide +kernel
theorem d38_61 : decode method_3_code 61 = .ok (.iadd, 1) := by decide +kernel
theorem d38_62 : decode method_3_code 62 = .ok (.invokevirtual 7, 3) := by decide +kernel
theorem d38_65 : decode method_3_code 65 = .ok (.bipush 111, 2) := by decide +kernel
theorem d38_67 : decode method_3_code 67 = .ok (.if_icmp .ne 46, 3) := by decide +kernel
theorem d38_70 : decode method_3_code 70 = .ok (.aload_n 0, 1) := by decide +kernel
theorem d38_71 : decode method_3_code 71 = .ok (.iload_n 1, 1) := by decide +kernel
theorem d38_72 : decode method_3_code 72 = .ok (.bipush 6, 2) := by decide +kernel
theorem d38_74 : decode method_3_code 74 = .ok (.iadd, 1) := by decide +kernel
theorem d38_75 : decode method_3_code 75 = .ok (.invokevirtual 7, 3) := by decide +kernel
theorem d38_78 : decode method_3_code 78 = .ok (.bipush 114, 2) := by decide +kernel
theorem d38_80 : decode method_3_code 80 = .ok (.if_icmp .ne 33, 3) := by decide +kernel
theorem d38_83 : decode method_3_code 83 = .ok (.aload_n 0, 1) := by decide +kernel
theorem d38_84 : decode method_3_code 84 = .ok (.iload_n 1, 1) := by decide +kernel
theorem d38_85 : decode method_3_code 85 = .ok (.bipush 7, 2) := by decide +kernel
theorem d38_87 : decode method_3_code 87 = .ok (.iadd, 1) := by decide +kernel
theorem d38_88 : decode method_3_code 88 = .ok (.invokevirtual 7, 3) := by decide +kernel
theorem d38_91 : decode method_3_code 91 = .ok (.bipush 61, 2) := by decide +kernel
theorem d38_93 : decode method_3_code 93 = .ok (.if_icmp .ne 20, 3) := by decide +kernel
theorem d38_96 : decode method_3_code 96 = .ok (.aload_n 0, 1) := by decide +kernel
theorem d38_97 : decode method_3_code 97 = .ok (.iload_n 1, 1) := by decide +kernel
theorem d38_98 : decode method_3_code 98 = .ok (.bipush 8, 2) := by decide +kernel
theorem d38_100 : decode method_3_code 100 = .ok (.iadd, 1) := by decide +kernel
theorem d38_101 : decode method_3_code 101 = .ok (.invokevirtual 7, 3) := by decide +kernel
theorem d38_104 : decode method_3_code 104 = .ok (.bipush 34, 2) := by decide +kernel
theorem d38_106 : decode method_3_code 106 = .ok (.if_icmp .ne 7, 3) := by decide +kernel
theorem d38_109 : decode method_3_code 109 = .ok (.iconst 1, 1) := by decide +kernel
theorem d38_110 : decode method_3_code 110 = .ok (.goto 4, 3) := by decide +kernel
theorem d38_114 : decode method_3_code 114 = .ok (.ireturn, 1) := by decide +kernel
theorem ef_38 (m : MethodId) (x0 : Addr) (x1 : Int32) : entryFrame m #[(.ref x0), (.int x1)] 2 = mkF m 0 #[.val (.ref x0), .val (.int x1)] [] := by first | (simp [entryFrame, mkF, argsToLocals, Value.category]; done) | rfl
def Q38 (Z : State) (a1 : Addr) (p2 : Int32) (d : Addr) (kd : ClassId) (z : Int32) (B : List Int32) (cs : Int32) (fm : Value) (h0 : Heap) (v : Option Value) (h : Heap) (L : List Loc) : Prop := v = some (.int (1 : Int32)) ∧ L = [] ∧ h = h0
theorem rm38 (l : Launch) (Z : State) (a0 : Array Value) (hw : ∀ d ∈ tables_1, d.before a0 Z = true) (ws : List Jvm.Cond) (a1 : Addr) (p2 : Int32) (d : Addr) (kd : ClassId) (z : Int32) (B : List Int32) (cs : Int32) (fm : Value) (h0 : Heap) (n0 : Nat) (O0 : Old Z n0 h0) (E_a1 : Exa Z h0 a1 "java/lang/String") (Fc_a1 : Fld Z h0 a1 "java/lang/String" "coder" "B" (.int (0 : Int32))) (Fv_a1 : Fld Z h0 a1 "java/lang/String" "value" "[B" (.ref d)) (V_d : Arv Z h0 d kd .byte z (own_bs B) (.int (0 : Int32))) (hz : ¬ z < 0) (hB : z.toNatClampNeg = B.length) (hk : own_Ek p2 z) (hR : own_Ee B p2) (S_CS : Sta Z Z.heap "java/lang/String" "COMPACT_STRINGS" "Z" (.int cs)) (h_cs : ¬ cs = (0 : Int32)) (S_F : Sta Z Z.heap "jdk/internal/util/Preconditions" "SIOOBE_FORMATTER" "Ljava/util/function/BiFunction;" fm) (h_fm : fm.isRef = true) :
    MetFree l mn_35 (head1 (Jvm.Cond.code mn_35 method_3_code 2 (some .boolean) :: ws) ({ frames := 4, cells := 0, slots := 0, locals := 53 } : Room)) (fun a U => a = #[(.ref a1), (.int p2)] ∧ Z.Warmed39 U.vm ∧ U.heap = h0) (fun _ _ _ _ _ => True) (fun _ U o U' => ∃ v L, o = .returned v ∧ Q38 Z a1 p2 d kd z B cs fm h0 v U'.heap L ∧ FrameEnd U o U' L ({ frames := 4, cells := 0, slots := 0, locals := 53 } : Room).cells ({ frames := 4, cells := 0, slots := 0, locals := 53 } : Room).slots) := by
  refine MetFree.of_bodySF (plainFor_of_name pn_7) hisR ?_
  intro p e s m args below meth c s₁ Bd hml0 hP hK
  obtain ⟨rfl, hZ, hh⟩ := hP
  have hx := Bd.exec
  have hby := Bd.bytes
  have hml : c.maxLocals = 2 := hml0
  have hown : s.vm.findClass "com/example/cloud_to_core/cloudtocore/auth/HttpAuthorizationChallengePinLaw" = some m.cls := findClass_of_methodNamed Bd.named
  have hnm := (name_of_methodNamed Bd.named Bd.method).1
  have X0 : Stand p l e ({ frames := 4, cells := 0, slots := 0, locals := 53 } : Room) s m #[(.ref a1), (.int p2)] below meth c s₁ [] 0 0 := Stand.of_body Bd
  have e0 : s₁.heap = h0 := by rw [← hh, Bd.state]; rfl
  have pre0 : ∀ t, Steps p.tables e below (s₁.setTop (mkF m 0 #[.val (.ref a1), .val (.int p2)] [])) t → Steps p.tables e below (s₁.setTop (entryFrame m #[(.ref a1), (.int p2)] 2)) t := fun t k => castTop (ef_38 m a1 p2) k
  obtain ⟨cq1, kq1, q1a, q1b, q1c⟩ := isOf hZ e0 E_a1
  obtain ⟨_, _, ⟨T1, L1, k1, n1⟩, -, X1, ⟨Lc1, hQ1, l1, y1, z1⟩, st1⟩ := X0.virtualBack hx (y := mn_27) (z := mn_27) hown (mvT hZ (ww hw 154 rfl)) (mvT hZ (ww hw 155 rfl)) (notFace_of_selects (args := #[]) (mvT hZ (ww hw 157 rfl))) (mvT hZ (ww hw 157 rfl)) (mvT hZ (ww hw 156 rfl)) (by decide) (backOf (W := 0) (rm29_v l Z a0 hw [] a1 p2 d kd z B (44 : Int32) cs fm h0 n0 O0 E_a1 Fc_a1 Fv_a1 V_d hz hB hk.1.1 hk.1.2 hR.1 S_CS h_cs S_F h_fm) hZ (ww hw 158 rfl) (ww hw 1 rfl) (by decide) (by decide)) q1a q1c (g := (mkF m 2 #[vR a1, vI p2] [iI p2, iR a1])) rfl (by rw [hml]; rfl) (Steps.refl _) (argsL := [(.int p2)]) (rest := []) (lenOf pd_22 rfl) rfl (wz rfl) (hb hby d38_2) (fun _ _ => ⟨rfl, e0, (by decide : 0 + 0 ≤ _), (by decide : 0 + 0 ≤ _)⟩)
  dsimp only [Pt.U, Pt.locs, Pt.cells, Pt.slots] at X1 l1 y1 z1 st1 hQ1
  subst l1 y1 z1
  obtain ⟨rfl, rfl, e1⟩ := hQ1
  try rw [List.append_nil] at X1
  obtain ⟨cq2, kq2, q2a, q2b, q2c⟩ := isOf hZ e1 E_a1
  obtain ⟨_, _, ⟨T2, L2, k2, n2⟩, -, X2, ⟨Lc2, hQ2, l2, y2, z2⟩, st2⟩ := X1.virtualBack hx (y := mn_27) (z := mn_27) hown (mvT hZ (ww hw 154 rfl)) (mvT hZ (ww hw 155 rfl)) (notFace_of_selects (args := #[]) (mvT hZ (ww hw 157 rfl))) (mvT hZ (ww hw 157 rfl)) (mvT hZ (ww hw 156 rfl)) (by decide) (backOf (W := 0) (rm29_v l Z a0 hw [] a1 (p2 + (1 : Int32)) d kd z B (32 : Int32) cs fm h0 n0 O0 E_a1 Fc_a1 Fv_a1 V_d hz hB hk.2.1.1 hk.2.1.2 hR.2.1 S_CS h_cs S_F h_fm) hZ (ww hw 158 rfl) (ww hw 1 rfl) (by decide) (by decide)) q2a q2c (g := (mkF m 14 #[vR a1, vI p2] [iI (p2 + (1 : Int32)), iR a1])) rfl (by rw [hml]; rfl) (Steps.refl _) (argsL := [(.int (p2 + (1 : Int32)))]) (rest := []) (lenOf pd_22 rfl) rfl (wz rfl) (hb hby d38_14) (fun _ _ => ⟨rfl, e1, (by decide : 0 + 0 ≤ _), (by decide : 0 + 0 ≤ _)⟩)
  dsimp only [Pt.U, Pt.locs, Pt.cells, Pt.slots] at X2 l2 y2 z2 st2 hQ2
  subst l2 y2 z2
  obtain ⟨rfl, rfl, e2⟩ := hQ2
  try rw [List.append_nil] at X2
  obtain ⟨cq3, kq3, q3a, q3b, q3c⟩ := isOf hZ e2 E_a1
  obtain ⟨_, _, ⟨T3, L3, k3, n3⟩, -, X3, ⟨Lc3, hQ3, l3, y3, z3⟩, st3⟩ := X2.virtualBack hx (y := mn_27) (z := mn_27) hown (mvT hZ (ww hw 154 rfl)) (mvT hZ (ww hw 155 rfl)) (notFace_of_selects (args := #[]) (mvT hZ (ww hw 157 rfl))) (mvT hZ (ww hw 157 rfl)) (mvT hZ (ww hw 156 rfl)) (by decide) (backOf (W := 0) (rm29_v l Z a0 hw [] a1 (p2 + (2 : Int32)) d kd z B (101 : Int32) cs fm h0 n0 O0 E_a1 Fc_a1 Fv_a1 V_d hz hB hk.2.2.1.1 hk.2.2.1.2 hR.2.2.1 S_CS h_cs S_F h_fm) hZ (ww hw 158 rfl) (ww hw 1 rfl) (by decide) (by decide)) q3a q3c (g := (mkF m 26 #[vR a1, vI p2] [iI (p2 + (2 : Int32)), iR a1])) rfl (by rw [hml]; rfl) (Steps.refl _) (argsL := [(.int (p2 + (2 : Int32)))]) (rest := []) (lenOf pd_22 rfl) rfl (wz rfl) (hb hby d38_26) (fun _ _ => ⟨rfl, e2, (by decide : 0 + 0 ≤ _), (by decide : 0 + 0 ≤ _)⟩)
  dsimp only [Pt.U, Pt.locs, Pt.cells, Pt.slots] at X3 l3 y3 z3 st3 hQ3
  subst l3 y3 z3
  obtain ⟨rfl, rfl, e3⟩ := hQ3
  try rw [List.append_nil] at X3
  obtain ⟨cq4, kq4, q4a, q4b, q4c⟩ := isOf hZ e3 E_a1
  obtain ⟨_, _, ⟨T4, L4, k4, n4⟩, -, X4, ⟨Lc4, hQ4, l4, y4, z4⟩, st4⟩ := X3.virtualBack hx (y := mn_27) (z := mn_27) hown (mvT hZ (ww hw 154 rfl)) (mvT hZ (ww hw 155 rfl)) (notFace_of_selects (args := #[]) (mvT hZ (ww hw 157 rfl))) (mvT hZ (ww hw 157 rfl)) (mvT hZ (ww hw 156 rfl)) (by decide) (backOf (W := 0) (rm29_v l Z a0 hw [] a1 (p2 + (3 : Int32)) d kd z B (114 : Int32) cs fm h0 n0 O0 E_a1 Fc_a1 Fv_a1 V_d hz hB hk.2.2.2.1.1 hk.2.2.2.1.2 hR.2.2.2.1 S_CS h_cs S_F h_fm) hZ (ww hw 158 rfl) (ww hw 1 rfl) (by decide) (by decide)) q4a q4c (g := (mkF m 38 #[vR a1, vI p2] [iI (p2 + (3 : Int32)), iR a1])) rfl (by rw [hml]; rfl) (Steps.refl _) (argsL := [(.int (p2 + (3 : Int32)))]) (rest := []) (lenOf pd_22 rfl) rfl (wz rfl) (hb hby d38_38) (fun _ _ => ⟨rfl, e3, (by decide : 0 + 0 ≤ _), (by decide : 0 + 0 ≤ _)⟩)
  dsimp only [Pt.U, Pt.locs, Pt.cells, Pt.slots] at X4 l4 y4 z4 st4 hQ4
  subst l4 y4 z4
  obtain ⟨rfl, rfl, e4⟩ := hQ4
  try rw [List.append_nil] at X4
  obtain ⟨cq5, kq5, q5a, q5b, q5c⟩ := isOf hZ e4 E_a1
  obtain ⟨_, _, ⟨T5, L5, k5, n5⟩, -, X5, ⟨Lc5, hQ5, l5, y5, z5⟩, st5⟩ := X4.virtualBack hx (y := mn_27) (z := mn_27) hown (mvT hZ (ww hw 154 rfl)) (mvT hZ (ww hw 155 rfl)) (notFace_of_selects (args := #[]) (mvT hZ (ww hw 157 rfl))) (mvT hZ (ww hw 157 rfl)) (mvT hZ (ww hw 156 rfl)) (by decide) (backOf (W := 0) (rm29_v l Z a0 hw [] a1 (p2 + (4 : Int32)) d kd z B (114 : Int32) cs fm h0 n0 O0 E_a1 Fc_a1 Fv_a1 V_d hz hB hk.2.2.2.2.1.1 hk.2.2.2.2.1.2 hR.2.2.2.2.1 S_CS h_cs S_F h_fm) hZ (ww hw 158 rfl) (ww hw 1 rfl) (by decide) (by decide)) q5a q5c (g := (mkF m 50 #[vR a1, vI p2] [iI (p2 + (4 : Int32)), iR a1])) rfl (by rw [hml]; rfl) (Steps.refl _) (argsL := [(.int (p2 + (4 : Int32)))]) (rest := []) (lenOf pd_22 rfl) rfl (wz rfl) (hb hby d38_50) (fun _ _ => ⟨rfl, e4, (by decide : 0 + 0 ≤ _), (by decide : 0 + 0 ≤ _)⟩)
  dsimp only [Pt.U, Pt.locs, Pt.cells, Pt.slots] at X5 l5 y5 z5 st5 hQ5
  subst l5 y5 z5
  obtain ⟨rfl, rfl, e5⟩ := hQ5
  try rw [List.append_nil] at X5
  obtain ⟨cq6, kq6, q6a, q6b, q6c⟩ := isOf hZ e5 E_a1
  obtain ⟨_, _, ⟨T6, L6, k6, n6⟩, -, X6, ⟨Lc6, hQ6, l6, y6, z6⟩, st6⟩ := X5.virtualBack hx (y := mn_27) (z := mn_27) hown (mvT hZ (ww hw 154 rfl)) (mvT hZ (ww hw 155 rfl)) (notFace_of_selects (args := #[]) (mvT hZ (ww hw 157 rfl))) (mvT hZ (ww hw 157 rfl)) (mvT hZ (ww hw 156 rfl)) (by decide) (backOf (W := 0) (rm29_v l Z a0 hw [] a1 (p2 + (5 : Int32)) d kd z B (111 : Int32) cs fm h0 n0 O0 E_a1 Fc_a1 Fv_a1 V_d hz hB hk.2.2.2.2.2.1.1 hk.2.2.2.2.2.1.2 hR.2.2.2.2.2.1 S_CS h_cs S_F h_fm) hZ (ww hw 158 rfl) (ww hw 1 rfl) (by decide) (by decide)) q6a q6c (g := (mkF m 62 #[vR a1, vI p2] [iI (p2 + (5 : Int32)), iR a1])) rfl (by rw [hml]; rfl) (Steps.refl _) (argsL := [(.int (p2 + (5 : Int32)))]) (rest := []) (lenOf pd_22 rfl) rfl (wz rfl) (hb hby d38_62) (fun _ _ => ⟨rfl, e5, (by decide : 0 + 0 ≤ _), (by decide : 0 + 0 ≤ _)⟩)
  dsimp only [Pt.U, Pt.locs, Pt.cells, Pt.slots] at X6 l6 y6 z6 st6 hQ6
  subst l6 y6 z6
  obtain ⟨rfl, rfl, e6⟩ := hQ6
  try rw [List.append_nil] at X6
  obtain ⟨cq7, kq7, q7a, q7b, q7c⟩ := isOf hZ e6 E_a1
  obtain ⟨_, _, ⟨T7, L7, k7, n7⟩, -, X7, ⟨Lc7, hQ7, l7, y7, z7⟩, st7⟩ := X6.virtualBack hx (y := mn_27) (z := mn_27) hown (mvT hZ (ww hw 154 rfl)) (mvT hZ (ww hw 155 rfl)) (notFace_of_selects (args := #[]) (mvT hZ (ww hw 157 rfl))) (mvT hZ (ww hw 157 rfl)) (mvT hZ (ww hw 156 rfl)) (by decide) (backOf (W := 0) (rm29_v l Z a0 hw [] a1 (p2 + (6 : Int32)) d kd z B (114 : Int32) cs fm h0 n0 O0 E_a1 Fc_a1 Fv_a1 V_d hz hB hk.2.2.2.2.2.2.1.1 hk.2.2.2.2.2.2.1.2 hR.2.2.2.2.2.2.1 S_CS h_cs S_F h_fm) hZ (ww hw 158 rfl) (ww hw 1 rfl) (by decide) (by decide)) q7a q7c (g := (mkF m 75 #[vR a1, vI p2] [iI (p2 + (6 : Int32)), iR a1])) rfl (by rw [hml]; rfl) (Steps.refl _) (argsL := [(.int (p2 + (6 : Int32)))]) (rest := []) (lenOf pd_22 rfl) rfl (wz rfl) (hb hby d38_75) (fun _ _ => ⟨rfl, e6, (by decide : 0 + 0 ≤ _), (by decide : 0 + 0 ≤ _)⟩)
  dsimp only [Pt.U, Pt.locs, Pt.cells, Pt.slots] at X7 l7 y7 z7 st7 hQ7
  subst l7 y7 z7
  obtain ⟨rfl, rfl, e7⟩ := hQ7
  try rw [List.append_nil] at X7
  obtain ⟨cq8, kq8, q8a, q8b, q8c⟩ := isOf hZ e7 E_a1
  obtain ⟨_, _, ⟨T8, L8, k8, n8⟩, -, X8, ⟨Lc8, hQ8, l8, y8, z8⟩, st8⟩ := X7.virtualBack hx (y := mn_27) (z := mn_27) hown (mvT hZ (ww hw 154 rfl)) (mvT hZ (ww hw 155 rfl)) (notFace_of_selects (args := #[]) (mvT hZ (ww hw 157 rfl))) (mvT hZ (ww hw 157 rfl)) (mvT hZ (ww hw 156 rfl)) (by decide) (backOf (W := 0) (rm29_v l Z a0 hw [] a1 (p2 + (7 : Int32)) d kd z B (61 : Int32) cs fm h0 n0 O0 E_a1 Fc_a1 Fv_a1 V_d hz hB hk.2.2.2.2.2.2.2.1.1 hk.2.2.2.2.2.2.2.1.2 hR.2.2.2.2.2.2.2.1 S_CS h_cs S_F h_fm) hZ (ww hw 158 rfl) (ww hw 1 rfl) (by decide) (by decide)) q8a q8c (g := (mkF m 88 #[vR a1, vI p2] [iI (p2 + (7 : Int32)), iR a1])) rfl (by rw [hml]; rfl) (Steps.refl _) (argsL := [(.int (p2 + (7 : Int32)))]) (rest := []) (lenOf pd_22 rfl) rfl (wz rfl) (hb hby d38_88) (fun _ _ => ⟨rfl, e7, (by decide : 0 + 0 ≤ _), (by decide : 0 + 0 ≤ _)⟩)
  dsimp only [Pt.U, Pt.locs, Pt.cells, Pt.slots] at X8 l8 y8 z8 st8 hQ8
  subst l8 y8 z8
  obtain ⟨rfl, rfl, e8⟩ := hQ8
  try rw [List.append_nil] at X8
  obtain ⟨cq9, kq9, q9a, q9b, q9c⟩ := isOf hZ e8 E_a1
  obtain ⟨_, _, ⟨T9, L9, k9, n9⟩, -, X9, ⟨Lc9, hQ9, l9, y9, z9⟩, st9⟩ := X8.virtualBack hx (y := mn_27) (z := mn_27) hown (mvT hZ (ww hw 154 rfl)) (mvT hZ (ww hw 155 rfl)) (notFace_of_selects (args := #[]) (mvT hZ (ww hw 157 rfl))) (mvT hZ (ww hw 157 rfl)) (mvT hZ (ww hw 156 rfl)) (by decide) (backOf (W := 0) (rm29_v l Z a0 hw [] a1 (p2 + (8 : Int32)) d kd z B (34 : Int32) cs fm h0 n0 O0 E_a1 Fc_a1 Fv_a1 V_d hz hB hk.2.2.2.2.2.2.2.2.1 hk.2.2.2.2.2.2.2.2.2 hR.2.2.2.2.2.2.2.2 S_CS h_cs S_F h_fm) hZ (ww hw 158 rfl) (ww hw 1 rfl) (by decide) (by decide)) q9a q9c (g := (mkF m 101 #[vR a1, vI p2] [iI (p2 + (8 : Int32)), iR a1])) rfl (by rw [hml]; rfl) (Steps.refl _) (argsL := [(.int (p2 + (8 : Int32)))]) (rest := []) (lenOf pd_22 rfl) rfl (wz rfl) (hb hby d38_101) (fun _ _ => ⟨rfl, e8, (by decide : 0 + 0 ≤ _), (by decide : 0 + 0 ≤ _)⟩)
  dsimp only [Pt.U, Pt.locs, Pt.cells, Pt.slots] at X9 l9 y9 z9 st9 hQ9
  subst l9 y9 z9
  obtain ⟨rfl, rfl, e9⟩ := hQ9
  try rw [List.append_nil] at X9
  obtain ⟨fs, hr, hrun, hended, hW, hsame⟩ := X9.leave (v := some (.int (1 : Int32))) (fun h => by rw [Bd.returns] at h; cases h)
  refine ⟨_, _, pre0 _ ?_, hrun, hended, _, _, rfl, ?_, ⟨_, rfl⟩, hW, hsame.mono (by decide) (by decide)⟩
  · show SA s₁ m 0 #[vR a1, vI p2] []
    refine XS.aloadN X0.here hx rfl (hb hby d38_0) rfl rfl ?_
    show SA s₁ m 1 #[vR a1, vI p2] [iR a1]
    refine XS.iloadN X0.here hx rfl (hb hby d38_1) rfl ?_
    show SA s₁ m 2 #[vR a1, vI p2] [iI p2, iR a1]
    refine st1.trans ?_
    show SA T1 m 5 #[vR a1, vI p2] [iI 44]
    refine XS.bipush X1.here hx rfl (hb hby d38_5) ?_
    show SA T1 m 7 #[vR a1, vI p2] [iI 44, iI 44]
    refine XS.icmpNo X1.here hx rfl (hb hby d38_7) rfl (teq (by decide : (44 : Int32) = (44 : Int32))).2 ?_
    show SA T1 m 10 #[vR a1, vI p2] []
    refine XS.aloadN X1.here hx rfl (hb hby d38_10) rfl rfl ?_
    show SA T1 m 11 #[vR a1, vI p2] [iR a1]
    refine XS.iloadN X1.here hx rfl (hb hby d38_11) rfl ?_
    show SA T1 m 12 #[vR a1, vI p2] [iI p2, iR a1]
    refine XS.iconst X1.here hx rfl (hb hby d38_12) ?_
    show SA T1 m 13 #[vR a1, vI p2] [iI 1, iI p2, iR a1]
    refine XS.iadd X1.here hx rfl (hb hby d38_13) rfl ?_
    show SA T1 m 14 #[vR a1, vI p2] [iI (p2 + (1 : Int32)), iR a1]
    refine st2.trans ?_
    show SA T2 m 17 #[vR a1, vI p2] [iI 32]
    refine XS.bipush X2.here hx rfl (hb hby d38_17) ?_
    show SA T2 m 19 #[vR a1, vI p2] [iI 32, iI 32]
    refine XS.icmpNo X2.here hx rfl (hb hby d38_19) rfl (teq (by decide : (32 : Int32) = (32 : Int32))).2 ?_
    show SA T2 m 22 #[vR a1, vI p2] []
    refine XS.aloadN X2.here hx rfl (hb hby d38_22) rfl rfl ?_
    show SA T2 m 23 #[vR a1, vI p2] [iR a1]
    refine XS.iloadN X2.here hx rfl (hb hby d38_23) rfl ?_
    show SA T2 m 24 #[vR a1, vI p2] [iI p2, iR a1]
    refine XS.iconst X2.here hx rfl (hb hby d38_24) ?_
    show SA T2 m 25 #[vR a1, vI p2] [iI 2, iI p2, iR a1]
    refine XS.iadd X2.here hx rfl (hb hby d38_25) rfl ?_
    show SA T2 m 26 #[vR a1, vI p2] [iI (p2 + (2 : Int32)), iR a1]
    refine st3.trans ?_
    show SA T3 m 29 #[vR a1, vI p2] [iI 101]
    refine XS.bipush X3.here hx rfl (hb hby d38_29) ?_
    show SA T3 m 31 #[vR a1, vI p2] [iI 101, iI 101]
    refine XS.icmpNo X3.here hx rfl (hb hby d38_31) rfl (teq (by decide : (101 : Int32) = (101 : Int32))).2 ?_
    show SA T3 m 34 #[vR a1, vI p2] []
    refine XS.aloadN X3.here hx rfl (hb hby d38_34) rfl rfl ?_
    show SA T3 m 35 #[vR a1, vI p2] [iR a1]
    refine XS.iloadN X3.here hx rfl (hb hby d38_35) rfl ?_
    show SA T3 m 36 #[vR a1, vI p2] [iI p2, iR a1]
    refine XS.iconst X3.here hx rfl (hb hby d38_36) ?_
    show SA T3 m 37 #[vR a1, vI p2] [iI 3, iI p2, iR a1]
    refine XS.iadd X3.here hx rfl (hb hby d38_37) rfl ?_
    show SA T3 m 38 #[vR a1, vI p2] [iI (p2 + (3 : Int32)), iR a1]
    refine st4.trans ?_
    show SA T4 m 41 #[vR a1, vI p2] [iI 114]
    refine XS.bipush X4.here hx rfl (hb hby d38_41) ?_
    show SA T4 m 43 #[vR a1, vI p2] [iI 114, iI 114]
    refine XS.icmpNo X4.here hx rfl (hb hby d38_43) rfl (teq (by decide : (114 : Int32) = (114 : Int32))).2 ?_
    show SA T4 m 46 #[vR a1, vI p2] []
    refine XS.aloadN X4.here hx rfl (hb hby d38_46) rfl rfl ?_
    show SA T4 m 47 #[vR a1, vI p2] [iR a1]
    refine XS.iloadN X4.here hx rfl (hb hby d38_47) rfl ?_
    show SA T4 m 48 #[vR a1, vI p2] [iI p2, iR a1]
    refine XS.iconst X4.here hx rfl (hb hby d38_48) ?_
    show SA T4 m 49 #[vR a1, vI p2] [iI 4, iI p2, iR a1]
    refine XS.iadd X4.here hx rfl (hb hby d38_49) rfl ?_
    show SA T4 m 50 #[vR a1, vI p2] [iI (p2 + (4 : Int32)), iR a1]
    refine st5.trans ?_
    show SA T5 m 53 #[vR a1, vI p2] [iI 114]
    refine XS.bipush X5.here hx rfl (hb hby d38_53) ?_
    show SA T5 m 55 #[vR a1, vI p2] [iI 114, iI 114]
    refine XS.icmpNo X5.here hx rfl (hb hby d38_55) rfl (teq (by decide : (114 : Int32) = (114 : Int32))).2 ?_
    show SA T5 m 58 #[vR a1, vI p2] []
    refine XS.aloadN X5.here hx rfl (hb hby d38_58) rfl rfl ?_
    show SA T5 m 59 #[vR a1, vI p2] [iR a1]
    refine XS.iloadN X5.here hx rfl (hb hby d38_59) rfl ?_
    show SA T5 m 60 #[vR a1, vI p2] [iI p2, iR a1]
    refine XS.iconst X5.here hx rfl (hb hby d38_60) ?_
    show SA T5 m 61 #[vR a1, vI p2] [iI 5, iI p2, iR a1]
    refine XS.iadd X5.here hx rfl (hb hby d38_61) rfl ?_
    show SA T5 m 62 #[vR a1, vI p2] [iI (p2 + (5 : Int32)), iR a1]
    refine st6.trans ?_
    show SA T6 m 65 #[vR a1, vI p2] [iI 111]
    refine XS.bipush X6.here hx rfl (hb hby d38_65) ?_
    show SA T6 m 67 #[vR a1, vI p2] [iI 111, iI 111]
    refine XS.icmpNo X6.here hx rfl (hb hby d38_67) rfl (teq (by decide : (111 : Int32) = (111 : Int32))).2 ?_
    show SA T6 m 70 #[vR a1, vI p2] []
    refine XS.aloadN X6.here hx rfl (hb hby d38_70) rfl rfl ?_
    show SA T6 m 71 #[vR a1, vI p2] [iR a1]
    refine XS.iloadN X6.here hx rfl (hb hby d38_71) rfl ?_
    show SA T6 m 72 #[vR a1, vI p2] [iI p2, iR a1]
    refine XS.bipush X6.here hx rfl (hb hby d38_72) ?_
    show SA T6 m 74 #[vR a1, vI p2] [iI 6, iI p2, iR a1]
    refine XS.iadd X6.here hx rfl (hb hby d38_74) rfl ?_
    show SA T6 m 75 #[vR a1, vI p2] [iI (p2 + (6 : Int32)), iR a1]
    refine st7.trans ?_
    show SA T7 m 78 #[vR a1, vI p2] [iI 114]
    refine XS.bipush X7.here hx rfl (hb hby d38_78) ?_
    show SA T7 m 80 #[vR a1, vI p2] [iI 114, iI 114]
    refine XS.icmpNo X7.here hx rfl (hb hby d38_80) rfl (teq (by decide : (114 : Int32) = (114 : Int32))).2 ?_
    show SA T7 m 83 #[vR a1, vI p2] []
    refine XS.aloadN X7.here hx rfl (hb hby d38_83) rfl rfl ?_
    show SA T7 m 84 #[vR a1, vI p2] [iR a1]
    refine XS.iloadN X7.here hx rfl (hb hby d38_84) rfl ?_
    show SA T7 m 85 #[vR a1, vI p2] [iI p2, iR a1]
    refine XS.bipush X7.here hx rfl (hb hby d38_85) ?_
    show SA T7 m 87 #[vR a1, vI p2] [iI 7, iI p2, iR a1]
    refine XS.iadd X7.here hx rfl (hb hby d38_87) rfl ?_
    show SA T7 m 88 #[vR a1, vI p2] [iI (p2 + (7 : Int32)), iR a1]
    refine st8.trans ?_
    show SA T8 m 91 #[vR a1, vI p2] [iI 61]
    refine XS.bipush X8.here hx rfl (hb hby d38_91) ?_
    show SA T8 m 93 #[vR a1, vI p2] [iI 61, iI 61]
    refine XS.icmpNo X8.here hx rfl (hb hby d38_93) rfl (teq (by decide : (61 : Int32) = (61 : Int32))).2 ?_
    show SA T8 m 96 #[vR a1, vI p2] []
    refine XS.aloadN X8.here hx rfl (hb hby d38_96) rfl rfl ?_
    show SA T8 m 97 #[vR a1, vI p2] [iR a1]
    refine XS.iloadN X8.here hx rfl (hb hby d38_97) rfl ?_
    show SA T8 m 98 #[vR a1, vI p2] [iI p2, iR a1]
    refine XS.bipush X8.here hx rfl (hb hby d38_98) ?_
    show SA T8 m 100 #[vR a1, vI p2] [iI 8, iI p2, iR a1]
    refine XS.iadd X8.here hx rfl (hb hby d38_100) rfl ?_
    show SA T8 m 101 #[vR a1, vI p2] [iI (p2 + (8 : Int32)), iR a1]
    refine st9.trans ?_
    show SA T9 m 104 #[vR a1, vI p2] [iI 34]
    refine XS.bipush X9.here hx rfl (hb hby d38_104) ?_
    show SA T9 m 106 #[vR a1, vI p2] [iI 34, iI 34]
    refine XS.icmpNo X9.here hx rfl (hb hby d38_106) rfl (teq (by decide : (34 : Int32) = (34 : Int32))).2 ?_
    show SA T9 m 109 #[vR a1, vI p2] []
    refine XS.iconst X9.here hx rfl (hb hby d38_109) ?_
    show SA T9 m 110 #[vR a1, vI p2] [iI 1]
    refine XS.goto X9.here hx rfl (pc0 := 110) (pc' := 114) rfl (hb hby d38_110) (by decide) (by decide) ?_
    show Steps _ _ _ (T9.setTop (mkF m 114 #[vR a1, vI p2] [iI 1])) _
    exact retN X9 hx (t := .boolean) Bd.returns (by simp) (hb hby d38_114) hr
  · show Q38 Z a1 p2 d kd z B cs fm h0 _ T9.heap _
    rw [e9]
    exact ⟨rfl, rfl, rfl⟩
theorem own_re1_0 : own_Re (own_B1 []) (0 : Int32) := ⟨own_gd (i := 0) (c := (32 : Int32)) (by decide) rfl (by decide), own_gd (i := 1) (c := (114 : Int32)) (by decide) rfl (by decide), own_gd (i := 2) (c := (101 : Int32)) (by decide) rfl (by decide), own_gd (i := 3) (c := (97 : Int32)) (by decide) rfl (by decide), own_gd (i := 4) (c := (108 : Int32)) (by decide) rfl (by decide), own_gd (i := 5) (c := (109 : Int32)) (by decide) rfl (by decide), own_gd (i := 6) (c := (61 : Int32)) (by decide) rfl (by decide), own_gd (i := 7) (c := (34 : Int32)) (by decide) rfl (by decide), own_gd (i := 8) (c := (99 : Int32)) (by decide) rfl (by decide), own_gd (i := 9) (c := (108 : Int32)) (by decide) rfl (by decide), own_gd (i := 10) (c := (111 : Int32)) (by decide) rfl (by decide), own_gd (i := 11) (c := (117 : Int32)) (by decide) rfl (by decide), own_gd (i := 12) (c := (100 : Int32)) (by decide) rfl (by decide), own_gd (i := 13) (c := (45 : Int32)) (by decide) rfl (by decide), own_gd (i := 14) (c := (116 : Int32)) (by decide) rfl (by decide), own_gd (i := 15) (c := (111 : Int32)) (by decide) rfl (by decide), own_gd (i := 16) (c := (45 : Int32)) (by decide) rfl (by decide), own_gd (i := 17) (c := (99 : Int32)) (by decide) rfl (by decide), own_gd (i := 18) (c := (111 : Int32)) (by decide) rfl (by decide), own_gd (i := 19) (c := (114 : Int32)) (by decide) rfl (by decide), own_gd (i := 20) (c := (101 : Int32)) (by decide) rfl (by decide), own_gd (i := 21) (c := (34 : Int32)) (by decide) rfl (by decide)⟩
theorem own_re2_0 (b : List Int32) : own_Re (own_B2 [] b) (0 : Int32) := ⟨own_gd (i := 0) (c := (32 : Int32)) (by decide) rfl (by decide), own_gd (i := 1) (c := (114 : Int32)) (by decide) rfl (by decide), own_gd (i := 2) (c := (101 : Int32)) (by decide) rfl (by decide), own_gd (i := 3) (c := (97 : Int32)) (by decide) rfl (by decide), own_gd (i := 4) (c := (108 : Int32)) (by decide) rfl (by decide), own_gd (i := 5) (c := (109 : Int32)) (by decide) rfl (by decide), own_gd (i := 6) (c := (61 : Int32)) (by decide) rfl (by decide), own_gd (i := 7) (c := (34 : Int32)) (by decide) rfl (by decide), own_gd (i := 8) (c := (99 : Int32)) (by decide) rfl (by decide), own_gd (i := 9) (c := (108 : Int32)) (by decide) rfl (by decide), own_gd (i := 10) (c := (111 : Int32)) (by decide) rfl (by decide), own_gd (i := 11) (c := (117 : Int32)) (by decide) rfl (by decide), own_gd (i := 12) (c := (100 : Int32)) (by decide) rfl (by decide), own_gd (i := 13) (c := (45 : Int32)) (by decide) rfl (by decide), own_gd (i := 14) (c := (116 : Int32)) (by decide) rfl (by decide), own_gd (i := 15) (c := (111 : Int32)) (by decide) rfl (by decide), own_gd (i := 16) (c := (45 : Int32)) (by decide) rfl (by decide), own_gd (i := 17) (c := (99 : Int32)) (by decide) rfl (by decide), own_gd (i := 18) (c := (111 : Int32)) (by decide) rfl (by decide), own_gd (i := 19) (c := (114 : Int32)) (by decide) rfl (by decide), own_gd (i := 20) (c := (101 : Int32)) (by decide) rfl (by decide), own_gd (i := 21) (c := (34 : Int32)) (by decide) rfl (by decide)⟩
theorem own_er2_0 (b : List Int32) : own_Ee (own_B2 [] b) ((0 : Int32) + (22 : Int32)) := ⟨own_gd (i := 22) (c := (44 : Int32)) (by decide) rfl (by decide), own_gd (i := 23) (c := (32 : Int32)) (by decide) rfl (by decide), own_gd (i := 24) (c := (101 : Int32)) (by decide) rfl (by decide), own_gd (i := 25) (c := (114 : Int32)) (by decide) rfl (by decide), own_gd (i := 26) (c := (114 : Int32)) (by decide) rfl (by decide), own_gd (i := 27) (c := (111 : Int32)) (by decide) rfl (by decide), own_gd (i := 28) (c := (114 : Int32)) (by decide) rfl (by decide), own_gd (i := 29) (c := (61 : Int32)) (by decide) rfl (by decide), own_gd (i := 30) (c := (34 : Int32)) (by decide) rfl (by decide)⟩
theorem own_re1_1 (x0 : Int32) : own_Re (own_B1 [x0]) (1 : Int32) := ⟨own_gd (i := 1) (c := (32 : Int32)) (by decide) rfl (by decide), own_gd (i := 2) (c := (114 : Int32)) (by decide) rfl (by decide), own_gd (i := 3) (c := (101 : Int32)) (by decide) rfl (by decide), own_gd (i := 4) (c := (97 : Int32)) (by decide) rfl (by decide), own_gd (i := 5) (c := (108 : Int32)) (by decide) rfl (by decide), own_gd (i := 6) (c := (109 : Int32)) (by decide) rfl (by decide), own_gd (i := 7) (c := (61 : Int32)) (by decide) rfl (by decide), own_gd (i := 8) (c := (34 : Int32)) (by decide) rfl (by decide), own_gd (i := 9) (c := (99 : Int32)) (by decide) rfl (by decide), own_gd (i := 10) (c := (108 : Int32)) (by decide) rfl (by decide), own_gd (i := 11) (c := (111 : Int32)) (by decide) rfl (by decide), own_gd (i := 12) (c := (117 : Int32)) (by decide) rfl (by decide), own_gd (i := 13) (c := (100 : Int32)) (by decide) rfl (by decide), own_gd (i := 14) (c := (45 : Int32)) (by decide) rfl (by decide), own_gd (i := 15) (c := (116 : Int32)) (by decide) rfl (by decide), own_gd (i := 16) (c := (111 : Int32)) (by decide) rfl (by decide), own_gd (i := 17) (c := (45 : Int32)) (by decide) rfl (by decide), own_gd (i := 18) (c := (99 : Int32)) (by decide) rfl (by decide), own_gd (i := 19) (c := (111 : Int32)) (by decide) rfl (by decide), own_gd (i := 20) (c := (114 : Int32)) (by decide) rfl (by decide), own_gd (i := 21) (c := (101 : Int32)) (by decide) rfl (by decide), own_gd (i := 22) (c := (34 : Int32)) (by decide) rfl (by decide)⟩
theorem own_re2_1 (x0 : Int32) (b : List Int32) : own_Re (own_B2 [x0] b) (1 : Int32) := ⟨own_gd (i := 1) (c := (32 : Int32)) (by decide) rfl (by decide), own_gd (i := 2) (c := (114 : Int32)) (by decide) rfl (by decide), own_gd (i := 3) (c := (101 : Int32)) (by decide) rfl (by decide), own_gd (i := 4) (c := (97 : Int32)) (by decide) rfl (by decide), own_gd (i := 5) (c := (108 : Int32)) (by decide) rfl (by decide), own_gd (i := 6) (c := (109 : Int32)) (by decide) rfl (by decide), own_gd (i := 7) (c := (61 : Int32)) (by decide) rfl (by decide), own_gd (i := 8) (c := (34 : Int32)) (by decide) rfl (by decide), own_gd (i := 9) (c := (99 : Int32)) (by decide) rfl (by decide), own_gd (i := 10) (c := (108 : Int32)) (by decide) rfl (by decide), own_gd (i := 11) (c := (111 : Int32)) (by decide) rfl (by decide), own_gd (i := 12) (c := (117 : Int32)) (by decide) rfl (by decide), own_gd (i := 13) (c := (100 : Int32)) (by decide) rfl (by decide), own_gd (i := 14) (c := (45 : Int32)) (by decide) rfl (by decide), own_gd (i := 15) (c := (116 : Int32)) (by decide) rfl (by decide), own_gd (i := 16) (c := (111 : Int32)) (by decide) rfl (by decide), own_gd (i := 17) (c := (45 : Int32)) (by decide) rfl (by decide), own_gd (i := 18) (c := (99 : Int32)) (by decide) rfl (by decide), own_gd (i := 19) (c := (111 : Int32)) (by decide) rfl (by decide), own_gd (i := 20) (c := (114 : Int32)) (by decide) rfl (by decide), own_gd (i := 21) (c := (101 : Int32)) (by decide) rfl (by decide), own_gd (i := 22) (c := (34 : Int32)) (by decide) rfl (by decide)⟩
theorem own_er2_1 (x0 : Int32) (b : List Int32) : own_Ee (own_B2 [x0] b) ((1 : Int32) + (22 : Int32)) := ⟨own_gd (i := 23) (c := (44 : Int32)) (by decide) rfl (by decide), own_gd (i := 24) (c := (32 : Int32)) (by decide) rfl (by decide), own_gd (i := 25) (c := (101 : Int32)) (by decide) rfl (by decide), own_gd (i := 26) (c := (114 : Int32)) (by decide) rfl (by decide), own_gd (i := 27) (c := (114 : Int32)) (by decide) rfl (by decide), own_gd (i := 28) (c := (111 : Int32)) (by decide) rfl (by decide), own_gd (i := 29) (c := (114 : Int32)) (by decide) rfl (by decide), own_gd (i := 30) (c := (61 : Int32)) (by decide) rfl (by decide), own_gd (i := 31) (c := (34 : Int32)) (by decide) rfl (by decide)⟩
theorem own_re1_2 (x0 x1 : Int32) : own_Re (own_B1 [x0, x1]) (2 : Int32) := ⟨own_gd (i := 2) (c := (32 : Int32)) (by decide) rfl (by decide), own_gd (i := 3) (c := (114 : Int32)) (by decide) rfl (by decide), own_gd (i := 4) (c := (101 : Int32)) (by decide) rfl (by decide), own_gd (i := 5) (c := (97 : Int32)) (by decide) rfl (by decide), own_gd (i := 6) (c := (108 : Int32)) (by decide) rfl (by decide), own_gd (i := 7) (c := (109 : Int32)) (by decide) rfl (by decide), own_gd (i := 8) (c := (61 : Int32)) (by decide) rfl (by decide), own_gd (i := 9) (c := (34 : Int32)) (by decide) rfl (by decide), own_gd (i := 10) (c := (99 : Int32)) (by decide) rfl (by decide), own_gd (i := 11) (c := (108 : Int32)) (by decide) rfl (by decide), own_gd (i := 12) (c := (111 : Int32)) (by decide) rfl (by decide), own_gd (i := 13) (c := (117 : Int32)) (by decide) rfl (by decide), own_gd (i := 14) (c := (100 : Int32)) (by decide) rfl (by decide), own_gd (i := 15) (c := (45 : Int32)) (by decide) rfl (by decide), own_gd (i := 16) (c := (116 : Int32)) (by decide) rfl (by decide), own_gd (i := 17) (c := (111 : Int32)) (by decide) rfl (by decide), own_gd (i := 18) (c := (45 : Int32)) (by decide) rfl (by decide), own_gd (i := 19) (c := (99 : Int32)) (by decide) rfl (by decide), own_gd (i := 20) (c := (111 : Int32)) (by decide) rfl (by decide), own_gd (i := 21) (c := (114 : Int32)) (by decide) rfl (by decide), own_gd (i := 22) (c := (101 : Int32)) (by decide) rfl (by decide), own_gd (i := 23) (c := (34 : Int32)) (by decide) rfl (by decide)⟩
theorem own_re2_2 (x0 x1 : Int32) (b : List Int32) : own_Re (own_B2 [x0, x1] b) (2 : Int32) := ⟨own_gd (i := 2) (c := (32 : Int32)) (by decide) rfl (by decide), own_gd (i := 3) (c := (114 : Int32)) (by decide) rfl (by decide), own_gd (i := 4) (c := (101 : Int32)) (by decide) rfl (by decide), own_gd (i := 5) (c := (97 : Int32)) (by decide) rfl (by decide), own_gd (i := 6) (c := (108 : Int32)) (by decide) rfl (by decide), own_gd (i := 7) (c := (109 : Int32)) (by decide) rfl (by decide), own_gd (i := 8) (c := (61 : Int32)) (by decide) rfl (by decide), own_gd (i := 9) (c := (34 : Int32)) (by decide) rfl (by decide), own_gd (i := 10) (c := (99 : Int32)) (by decide) rfl (by decide), own_gd (i := 11) (c := (108 : Int32)) (by decide) rfl (by decide), own_gd (i := 12) (c := (111 : Int32)) (by decide) rfl (by decide), own_gd (i := 13) (c := (117 : Int32)) (by decide) rfl (by decide), own_gd (i := 14) (c := (100 : Int32)) (by decide) rfl (by decide), own_gd (i := 15) (c := (45 : Int32)) (by decide) rfl (by decide), own_gd (i := 16) (c := (116 : Int32)) (by decide) rfl (by decide), own_gd (i := 17) (c := (111 : Int32)) (by decide) rfl (by decide), own_gd (i := 18) (c := (45 : Int32)) (by decide) rfl (by decide), own_gd (i := 19) (c := (99 : Int32)) (by decide) rfl (by decide), own_gd (i := 20) (c := (111 : Int32)) (by decide) rfl (by decide), own_gd (i := 21) (c := (114 : Int32)) (by decide) rfl (by decide), own_gd (i := 22) (c := (101 : Int32)) (by decide) rfl (by decide), own_gd (i := 23) (c := (34 : Int32)) (by decide) rfl (by decide)⟩
theorem own_er2_2 (x0 x1 : Int32) (b : List Int32) : own_Ee (own_B2 [x0, x1] b) ((2 : Int32) + (22 : Int32)) := ⟨own_gd (i := 24) (c := (44 : Int32)) (by decide) rfl (by decide), own_gd (i := 25) (c := (32 : Int32)) (by decide) rfl (by decide), own_gd (i := 26) (c := (101 : Int32)) (by decide) rfl (by decide), own_gd (i := 27) (c := (114 : Int32)) (by decide) rfl (by decide), own_gd (i := 28) (c := (114 : Int32)) (by decide) rfl (by decide), own_gd (i := 29) (c := (111 : Int32)) (by decide) rfl (by decide), own_gd (i := 30) (c := (114 : Int32)) (by decide) rfl (by decide), own_gd (i := 31) (c := (61 : Int32)) (by decide) rfl (by decide), own_gd (i := 32) (c := (34 : Int32)) (by decide) rfl (by decide)⟩
theorem own_strAtoms {a0 : Array Value} {Z : State} (hw : ∀ d ∈ tables_1, d.before a0 Z = true) : ∀ a ∈ Bundle.stringAtoms, a.before a0 Z = true := by
  intro a ha
  simp only [Bundle.stringAtoms, List.mem_cons, List.not_mem_nil, or_false] at ha
  rcases ha with rfl | rfl | rfl | rfl | rfl | rfl | rfl
  · exact (ww hw 1 rfl)
  · exact (ww hw 2 rfl)
  · exact (ww hw 3 rfl)
  · exact (ww hw 4 rfl)
  · exact (ww hw 5 rfl)
  · exact (ww hw 6 rfl)
  · exact (ww hw 7 rfl)
theorem own_ct0 : (∀ c ∈ (" realm=\"" : String).toList, c.toNat < 256) ∧ (" realm=\"" : String).toList.map (fun c => Value.int (Jvm.Lit.byteI c.toNat.toUInt16)) = own_bs [(32 : Int32), (114 : Int32), (101 : Int32), (97 : Int32), (108 : Int32), (109 : Int32), (61 : Int32), (34 : Int32)] := by
  first | exact ⟨by decide, rfl⟩ | exact ⟨by decide, by decide⟩ | (constructor <;> decide +kernel)
theorem own_ct1 : (∀ c ∈ ("cloud-to-core" : String).toList, c.toNat < 256) ∧ ("cloud-to-core" : String).toList.map (fun c => Value.int (Jvm.Lit.byteI c.toNat.toUInt16)) = own_bs [(99 : Int32), (108 : Int32), (111 : Int32), (117 : Int32), (100 : Int32), (45 : Int32), (116 : Int32), (111 : Int32), (45 : Int32), (99 : Int32), (111 : Int32), (114 : Int32), (101 : Int32)] := by
  first | exact ⟨by decide, rfl⟩ | exact ⟨by decide, by decide⟩ | (constructor <;> decide +kernel)
theorem own_ct2 : (∀ c ∈ ("\"" : String).toList, c.toNat < 256) ∧ ("\"" : String).toList.map (fun c => Value.int (Jvm.Lit.byteI c.toNat.toUInt16)) = own_bs [(34 : Int32)] := by
  first | exact ⟨by decide, rfl⟩ | exact ⟨by decide, by decide⟩ | (constructor <;> decide +kernel)
theorem own_ct3 : (∀ c ∈ (", error=\"" : String).toList, c.toNat < 256) ∧ (", error=\"" : String).toList.map (fun c => Value.int (Jvm.Lit.byteI c.toNat.toUInt16)) = own_bs [(44 : Int32), (32 : Int32), (101 : Int32), (114 : Int32), (114 : Int32), (111 : Int32), (114 : Int32), (61 : Int32), (34 : Int32)] := by
  first | exact ⟨by decide, rfl⟩ | exact ⟨by decide, by decide⟩ | (constructor <;> decide +kernel)
theorem own_ct4 : (∀ c ∈ ("" : String).toList, c.toNat < 256) ∧ ("" : String).toList.map (fun c => Value.int (Jvm.Lit.byteI c.toNat.toUInt16)) = own_bs [] := by
  first | exact ⟨by decide, rfl⟩ | exact ⟨by decide, by decide⟩ | (constructor <;> decide +kernel)
theorem own_EW {a0 : Array Value} {Z : State} (hw : ∀ d ∈ tables_1, d.before a0 Z = true) : EW Z a0 consts_1 := (EW.cons (ww hw 82 rfl) own_ct0.1 (EW.cons (ww hw 83 rfl) own_ct1.1 (EW.cons (ww hw 107 rfl) own_ct2.1 (EW.cons (ww hw 189 rfl) own_ct3.1 (EW.cons (ww hw 0 rfl) own_ct4.1 EW.nil)))))
def own_QX (Z : State) (zz : Int32) (BB : List Int32) (h0 : Heap) (n0 : Nat) (v : Option Value) (h : Heap) (L : List Loc) : Prop := ∃ (o d : Addr) (ko : ClassId), v = some (.ref o) ∧ Fr n0 L ∧ Keep h0 h [] ∧ Exa Z h o "java/lang/String" ∧ Fld Z h o "java/lang/String" "coder" "B" (.int (0 : Int32)) ∧ Fld Z h o "java/lang/String" "value" "[B" (.ref d) ∧ Arv Z h d ko .byte zz (own_bs BB) (.int (0 : Int32))
theorem own_pn0 (zp : Int32) (h : zp = (0 : Int32) ∨ zp = (1 : Int32) ∨ zp = (2 : Int32)) : ¬ (0 : Int32) < 0 := by
  rcases h with rfl | rfl | rfl <;> decide
theorem own_pn1 (zp : Int32) (Bp : List Int32) (hBp : zp.toNatClampNeg = Bp.length) (h : zp = (0 : Int32) ∨ zp = (1 : Int32) ∨ zp = (2 : Int32)) : (0 : Int32).toNatClampNeg = ([] : List Int32).length := by
  rcases h with rfl | rfl | rfl <;> (simp only [List.length_append, List.length_cons, List.length_nil, ← hBp]; decide)
theorem own_pn2 (zp : Int32) (h : zp = (0 : Int32) ∨ zp = (1 : Int32) ∨ zp = (2 : Int32)) : ((0 : Int32) + zp).toNatClampNeg = (0 : Int32).toNatClampNeg + zp.toNatClampNeg := by
  rcases h with rfl | rfl | rfl <;> decide
theorem own_pn3 (zp : Int32) (h : zp = (0 : Int32) ∨ zp = (1 : Int32) ∨ zp = (2 : Int32)) : ¬ ((0 : Int32) + zp) < 0 := by
  rcases h with rfl | rfl | rfl <;> decide
theorem own_pn4 (zp : Int32) (h : zp = (0 : Int32) ∨ zp = (1 : Int32) ∨ zp = (2 : Int32)) : ¬ (16 : Int32) < ((0 : Int32) + zp) := by
  rcases h with rfl | rfl | rfl <;> decide
theorem own_pn5 (zp : Int32) (Bp : List Int32) (hBp : zp.toNatClampNeg = Bp.length) (h : zp = (0 : Int32) ∨ zp = (1 : Int32) ∨ zp = (2 : Int32)) : ((0 : Int32) + zp).toNatClampNeg = (([] ++ Bp) : List Int32).length := by
  rcases h with rfl | rfl | rfl <;> (simp only [List.length_append, List.length_cons, List.length_nil, ← hBp]; decide)
theorem own_pn6 (zp : Int32) (h : zp = (0 : Int32) ∨ zp = (1 : Int32) ∨ zp = (2 : Int32)) : (((0 : Int32) + zp) + (8 : Int32)).toNatClampNeg = ((0 : Int32) + zp).toNatClampNeg + (8 : Int32).toNatClampNeg := by
  rcases h with rfl | rfl | rfl <;> decide
theorem own_pn7 (zp : Int32) (h : zp = (0 : Int32) ∨ zp = (1 : Int32) ∨ zp = (2 : Int32)) : ¬ (((0 : Int32) + zp) + (8 : Int32)) < 0 := by
  rcases h with rfl | rfl | rfl <;> decide
theorem own_pn8 (zp : Int32) (h : zp = (0 : Int32) ∨ zp = (1 : Int32) ∨ zp = (2 : Int32)) : ¬ (16 : Int32) < (((0 : Int32) + zp) + (8 : Int32)) := by
  rcases h with rfl | rfl | rfl <;> decide
theorem own_pn9 (zp : Int32) (Bp : List Int32) (hBp : zp.toNatClampNeg = Bp.length) (h : zp = (0 : Int32) ∨ zp = (1 : Int32) ∨ zp = (2 : Int32)) : (((0 : Int32) + zp) + (8 : Int32)).toNatClampNeg = ((([] ++ Bp) ++ [(32 : Int32), (114 : Int32), (101 : Int32), (97 : Int32), (108 : Int32), (109 : Int32), (61 : Int32), (34 : Int32)]) : List Int32).length := by
  rcases h with rfl | rfl | rfl <;> (simp only [List.length_append, List.length_cons, List.length_nil, ← hBp]; decide)
theorem own_pn10 (zp : Int32) (h : zp = (0 : Int32) ∨ zp = (1 : Int32) ∨ zp = (2 : Int32)) : ((((0 : Int32) + zp) + (8 : Int32)) + (13 : Int32)).toNatClampNeg = (((0 : Int32) + zp) + (8 : Int32)).toNatClampNeg + (13 : Int32).toNatClampNeg := by
  rcases h with rfl | rfl | rfl <;> decide
theorem own_pn11 (zp : Int32) (h : zp = (0 : Int32) ∨ zp = (1 : Int32) ∨ zp = (2 : Int32)) : ¬ ((((0 : Int32) + zp) + (8 : Int32)) + (13 : Int32)) < 0 := by
  rcases h with rfl | rfl | rfl <;> decide
theorem own_pn12 (zp : Int32) (h : zp = (0 : Int32) ∨ zp = (1 : Int32) ∨ zp = (2 : Int32)) : (16 : Int32) < ((((0 : Int32) + zp) + (8 : Int32)) + (13 : Int32)) := by
  rcases h with rfl | rfl | rfl <;> decide
theorem own_pn13 (zp : Int32) (h : zp = (0 : Int32) ∨ zp = (1 : Int32) ∨ zp = (2 : Int32)) : ((16 : Int32) + (own_max (((((0 : Int32) + zp) + (8 : Int32)) + (13 : Int32)) - (16 : Int32)) ((16 : Int32) + (2 : Int32)))) = (34 : Int32) := by
  rcases h with rfl | rfl | rfl <;> decide
theorem own_pn14 (zp : Int32) (Bp : List Int32) (hBp : zp.toNatClampNeg = Bp.length) (h : zp = (0 : Int32) ∨ zp = (1 : Int32) ∨ zp = (2 : Int32)) : ((([] ++ Bp) ++ [(32 : Int32), (114 : Int32), (101 : Int32), (97 : Int32), (108 : Int32), (109 : Int32), (61 : Int32), (34 : Int32)]) : List Int32).length ≤ (16 : Int32).toNatClampNeg := by
  rcases h with rfl | rfl | rfl <;> (simp only [List.length_append, List.length_cons, List.length_nil, ← hBp]; decide)
theorem own_pn15 (zp : Int32) (h : zp = (0 : Int32) ∨ zp = (1 : Int32) ∨ zp = (2 : Int32)) : ¬ (34 : Int32) < ((((0 : Int32) + zp) + (8 : Int32)) + (13 : Int32)) := by
  rcases h with rfl | rfl | rfl <;> decide
theorem own_pn16 (zp : Int32) (Bp : List Int32) (hBp : zp.toNatClampNeg = Bp.length) (h : zp = (0 : Int32) ∨ zp = (1 : Int32) ∨ zp = (2 : Int32)) : ((((0 : Int32) + zp) + (8 : Int32)) + (13 : Int32)).toNatClampNeg = (((([] ++ Bp) ++ [(32 : Int32), (114 : Int32), (101 : Int32), (97 : Int32), (108 : Int32), (109 : Int32), (61 : Int32), (34 : Int32)]) ++ [(99 : Int32), (108 : Int32), (111 : Int32), (117 : Int32), (100 : Int32), (45 : Int32), (116 : Int32), (111 : Int32), (45 : Int32), (99 : Int32), (111 : Int32), (114 : Int32), (101 : Int32)]) : List Int32).length := by
  rcases h with rfl | rfl | rfl <;> (simp only [List.length_append, List.length_cons, List.length_nil, ← hBp]; decide)
theorem own_pn17 (zp : Int32) (h : zp = (0 : Int32) ∨ zp = (1 : Int32) ∨ zp = (2 : Int32)) : (((((0 : Int32) + zp) + (8 : Int32)) + (13 : Int32)) + (1 : Int32)).toNatClampNeg = ((((0 : Int32) + zp) + (8 : Int32)) + (13 : Int32)).toNatClampNeg + (1 : Int32).toNatClampNeg := by
  rcases h with rfl | rfl | rfl <;> decide
theorem own_pn18 (zp : Int32) (h : zp = (0 : Int32) ∨ zp = (1 : Int32) ∨ zp = (2 : Int32)) : ¬ (((((0 : Int32) + zp) + (8 : Int32)) + (13 : Int32)) + (1 : Int32)) < 0 := by
  rcases h with rfl | rfl | rfl <;> decide
theorem own_pn19 (zp : Int32) (h : zp = (0 : Int32) ∨ zp = (1 : Int32) ∨ zp = (2 : Int32)) : ¬ (34 : Int32) < (((((0 : Int32) + zp) + (8 : Int32)) + (13 : Int32)) + (1 : Int32)) := by
  rcases h with rfl | rfl | rfl <;> decide
theorem own_pn20 (zp : Int32) (Bp : List Int32) (hBp : zp.toNatClampNeg = Bp.length) (h : zp = (0 : Int32) ∨ zp = (1 : Int32) ∨ zp = (2 : Int32)) : (((((0 : Int32) + zp) + (8 : Int32)) + (13 : Int32)) + (1 : Int32)).toNatClampNeg = ((((([] ++ Bp) ++ [(32 : Int32), (114 : Int32), (101 : Int32), (97 : Int32), (108 : Int32), (109 : Int32), (61 : Int32), (34 : Int32)]) ++ [(99 : Int32), (108 : Int32), (111 : Int32), (117 : Int32), (100 : Int32), (45 : Int32), (116 : Int32), (111 : Int32), (45 : Int32), (99 : Int32), (111 : Int32), (114 : Int32), (101 : Int32)]) ++ [(34 : Int32)]) : List Int32).length := by
  rcases h with rfl | rfl | rfl <;> (simp only [List.length_append, List.length_cons, List.length_nil, ← hBp]; decide)
theorem own_pn21 (zp : Int32) (h : zp = (0 : Int32) ∨ zp = (1 : Int32) ∨ zp = (2 : Int32)) : (((((0 : Int32) + zp) + (8 : Int32)) + (13 : Int32)) + (1 : Int32)).toNatClampNeg ≤ 70 := by
  rcases h with rfl | rfl | rfl <;> decide
theorem d1_0 : decode prog_1_method_3_code 0 = .ok (.new 31, 3) := by decide +kernel
theorem d1_3 : decode prog_1_method_3_code 3 = .ok (.dup, 1) := by decide +kernel
theorem d1_4 : decode prog_1_method_3_code 4 = .ok (.invokespecial 33, 3) := by decide +kernel
theorem d1_7 : decode prog_1_method_3_code 7 = .ok (.aload_n 0, 1) := by decide +kernel
theorem d1_8 : decode prog_1_method_3_code 8 = .ok (.invokevirtual 34, 3) := by decide +kernel
theorem d1_11 : decode prog_1_method_3_code 11 = .ok (.ldc 38, 2) := by decide +kernel
theorem d1_13 : decode prog_1_method_3_code 13 = .ok (.invokevirtual 34, 3) := by decide +kernel
theorem d1_16 : decode prog_1_method_3_code 16 = .ok (.ldc 42, 2) := by decide +kernel
theorem d1_18 : decode prog_1_method_3_code 18 = .ok (.invokevirtual 34, 3) := by decide +kernel
theorem d1_21 : decode prog_1_method_3_code 21 = .ok (.ldc 44, 2) := by decide +kernel
theorem d1_23 : decode prog_1_method_3_code 23 = .ok (.invokevirtual 34, 3) := by decide +kernel
theorem d1_26 : decode prog_1_method_3_code 26 = .ok (.invokevirtual 46, 3) := by decide +kernel
theorem d1_29 : decode prog_1_method_3_code 29 = .ok (.astore_n 2, 1) := by decide +kernel
theorem d1_30 : decode prog_1_method_3_code 30 = .ok (.aload_n 1, 1) := by decide +kernel
theorem d1_31 : decode prog_1_method_3_code 31 = .ok (.ifnull 32, 3) := by decide +kernel
theorem d1_63 : decode prog_1_method_3_code 63 = .ok (.aload_n 2, 1) := by decide +kernel
theorem d1_64 : decode prog_1_method_3_code 64 = .ok (.areturn, 1) := by decide +kernel
theorem pn_8 : plainName "com/example/cloud_to_core/cloudtocore/auth/HttpAuthorization" = true := by first | (simp [plainName, overriddenIn]; done) | decide +kernel
theorem ef_1_n (m : MethodId) (x0 : Addr) : entryFrame m #[(.ref x0), .null] 3 = mkF m 0 #[.val (.ref x0), .val .null, .unset] [] := by first | (simp [entryFrame, mkF, argsToLocals, Value.category]; done) | rfl
def Q1_n (Z : State) (a1 : Addr) (dp : Addr) (kdp : ClassId) (zp : Int32) (Bp : List Int32) (zz : Int32) (BB : List Int32) (cs : Int32) (h0 : Heap) (n0 : Nat) (v : Option Value) (h : Heap) (L : List Loc) : Prop := ∃ (o d : Addr) (ko : ClassId), v = some (.ref o) ∧ Fr n0 L ∧ Keep h0 h [] ∧ Exa Z h o "java/lang/String" ∧ Fld Z h o "java/lang/String" "coder" "B" (.int (0 : Int32)) ∧ Fld Z h o "java/lang/String" "value" "[B" (.ref d) ∧ Arv Z h d ko .byte zz (own_bs BB) (.int (0 : Int32))
theorem rm1_n (l : Launch) (Z : State) (a0 : Array Value) (hw : ∀ d ∈ tables_1, d.before a0 Z = true) (ws : List Jvm.Cond) (a1 : Addr) (dp : Addr) (kdp : ClassId) (zp : Int32) (Bp : List Int32) (zz : Int32) (BB : List Int32) (cs : Int32) (h0 : Heap) (n0 : Nat) (Z0 : n0 ≤ h0.size) (O0 : Old Z n0 h0) (E_a1 : Exa Z h0 a1 "java/lang/String") (Fc_a1 : Fld Z h0 a1 "java/lang/String" "coder" "B" (.int (0 : Int32))) (Fv_a1 : Fld Z h0 a1 "java/lang/String" "value" "[B" (.ref dp)) (V_dp : Arv Z h0 dp kdp .byte zp (own_bs Bp) (.int (0 : Int32))) (hzp : ¬ zp < 0) (hBp : zp.toNatClampNeg = Bp.length) (hp : zp = (0 : Int32) ∨ zp = (1 : Int32) ∨ zp = (2 : Int32)) (hzz : (((((0 : Int32) + zp) + (8 : Int32)) + (13 : Int32)) + (1 : Int32)) = zz) (hBB : (((([] ++ Bp) ++ [(32 : Int32), (114 : Int32), (101 : Int32), (97 : Int32), (108 : Int32), (109 : Int32), (61 : Int32), (34 : Int32)]) ++ [(99 : Int32), (108 : Int32), (111 : Int32), (117 : Int32), (100 : Int32), (45 : Int32), (116 : Int32), (111 : Int32), (45 : Int32), (99 : Int32), (111 : Int32), (114 : Int32), (101 : Int32)]) ++ [(34 : Int32)]) = BB) (S_CS : Sta Z Z.heap "java/lang/String" "COMPACT_STRINGS" "Z" (.int cs)) (h_cs : ¬ cs = (0 : Int32)) :
    MetFree l mn_36 (head1 (Jvm.Cond.code mn_36 prog_1_method_3_code 3 (some (.object "java/lang/String")) :: ws) ({ frames := 6, cells := 11, slots := 264, locals := 91 } : Room)) (fun a U => a = #[(.ref a1), .null] ∧ Z.Warmed39 U.vm ∧ U.heap = h0 ∧ CHv Z consts_1 U.vm h0) (fun _ _ _ _ _ => True) (fun _ U o U' => ∃ v L, o = .returned v ∧ Q1_n Z a1 dp kdp zp Bp zz BB cs h0 n0 v U'.heap L ∧ CHr Z consts_1 U.vm U.heap U'.vm U'.heap ∧ ReturnedEndW U o U' L ({ frames := 6, cells := 11, slots := 264, locals := 91 } : Room).cells ({ frames := 6, cells := 11, slots := 264, locals := 91 } : Room).slots) := by
  refine MetFree.of_bodySF (plainFor_of_name pn_8) hisR ?_
  intro p e s m args below meth c s₁ Bd hml0 hP hK
  obtain ⟨rfl, hZ, hh, hC0⟩ := hP
  have hx := Bd.exec
  have hby := Bd.bytes
  have hml : c.maxLocals = 3 := hml0
  have hown : s.vm.findClass "com/example/cloud_to_core/cloudtocore/auth/HttpAuthorization" = some m.cls := findClass_of_methodNamed Bd.named
  have hnm := (name_of_methodNamed Bd.named Bd.method).1
  have X0 : Stand p l e ({ frames := 6, cells := 11, slots := 264, locals := 91 } : Room) s m #[(.ref a1), .null] below meth c s₁ [] 0 0 := Stand.of_body Bd
  have e0 : s₁.heap = h0 := by rw [← hh, Bd.state]; rfl
  have R0 := CHr.refl hC0
  have N0 := Fr.nil n0
  have K0 := Keep.refl h0 []
  have pre0 : ∀ t, Steps p.tables e below (s₁.setTop (mkF m 0 #[.val (.ref a1), .val .null, .unset] [])) t → Steps p.tables e below (s₁.setTop (entryFrame m #[(.ref a1), .null] 3)) t := fun t k => castTop (ef_1_n m a1) k
  obtain ⟨T1, h1, X1, e1, E1, A1, D1, -, st1⟩ := newO X0 hx hZ hown (ww hw 12 rfl) (ww hw 13 rfl) (ww hw 14 rfl) e0 (g := (mkF m 0 #[vR a1, .val .null, .unset] [])) rfl (hb hby d1_0) (by decide) (by decide)
  obtain ⟨b1, g1⟩ : ∃ z, z = h0.size := ⟨_, rfl⟩
  rw [← g1] at A1 D1 st1
  have ne_a1_b1 : a1 ≠ b1 := Nat.ne_of_lt (Nat.lt_of_lt_of_le E_a1.lt (Nat.le_of_eq g1.symm))
  have ne_dp_b1 : dp ≠ b1 := Nat.ne_of_lt (Nat.lt_of_lt_of_le V_dp.lt (Nat.le_of_eq g1.symm))
  have sz_b1 : h0.size ≤ b1 := Nat.le_trans K0.1 (Nat.le_of_eq g1.symm)
  have g_b1 : n0 ≤ b1 := Nat.le_trans Z0 sz_b1
  have K1 : Keep h0 h1 [] := K0.ext E1
  have F_value_b1 : Fld Z h1 b1 "java/lang/AbstractStringBuilder" "value" "[B" .null := D1 (Or.inl (ww hw 29 rfl)) (ty := (.array .byte)) (by decide)
  have F_coder_b1 : Fld Z h1 b1 "java/lang/AbstractStringBuilder" "coder" "B" (.int (0 : Int32)) := D1 (Or.inl (ww hw 31 rfl)) (ty := .byte) (by decide)
  have F_count_b1 : Fld Z h1 b1 "java/lang/AbstractStringBuilder" "count" "I" (.int (0 : Int32)) := D1 (Or.inl (ww hw 56 rfl)) (ty := .int) (by decide)
  have Oh3 := O0.keep K1 all0
  obtain ⟨_, _, ⟨T2, L2, k2, n2⟩, -, X2, ⟨Lc2, hQ2, l2, y2, z2⟩, st2⟩ := X1.specialBack hx (y := mn_29) rfl hown (mvT hZ (ww hw 15 rfl)) (mvT hZ (ww hw 16 rfl)) (mvT hZ (ww hw 17 rfl)) (by decide) (backOf (W := 1) (rm2 l Z a0 hw [] b1 cs h1 n0 (Nat.le_trans Z0 K1.1) Oh3 A1 g_b1 F_value_b1 F_coder_b1 F_count_b1 S_CS h_cs) hZ (ww hw 17 rfl) (ww hw 14 rfl) (by decide) (by decide)) (g := (mkF m 4 #[vR a1, .val .null, .unset] [iR b1, iR b1])) rfl (by rw [hml]; rfl) (Steps.refl _) (a := b1) (argsL := []) (rest := [(.ref b1)]) (lenOf pd_23 rfl) rfl (wz rfl) (hb hby d1_4) (fun _ _ => ⟨rfl, e1, (by decide : 1 + 1 ≤ _), (by decide : 4 + 16 ≤ _)⟩)
  dsimp only [Pt.U, Pt.locs, Pt.cells, Pt.slots] at X2 l2 y2 z2 st2 hQ2
  subst l2 y2 z2
  obtain ⟨d2, kd2, rfl, N2q, K2q, E2q, Fv2q, Fc2q, Fn2q, V2q, G2q, z_d2⟩ := hQ2
  have fk4 := (E_a1.ext E1)
  have fk5 := (V_dp.ext E1)
  have ne_a1_d2 : a1 ≠ d2 := Nat.ne_of_lt (Nat.lt_of_lt_of_le fk4.lt z_d2)
  have ne_dp_d2 : dp ≠ d2 := Nat.ne_of_lt (Nat.lt_of_lt_of_le fk5.lt z_d2)
  have ne_b1_d2 : b1 ≠ d2 := Nat.ne_of_lt (Nat.lt_of_lt_of_le A1.lt z_d2)
  have sz_d2 : h0.size ≤ d2 := Nat.le_trans K1.1 z_d2
  have g_d2 : n0 ≤ d2 := Nat.le_trans Z0 sz_d2
  have N2 := Fr.app N0 N2q
  have K2 : Keep h0 T2.heap [] := Keep.trans K1 K2q (allS (Or.inr sz_b1) all0)
  have fk7 := (fk4.keep K2q)
  have fk8 := ((Fc_a1.ext E1).keep K2q (ninS ne_a1_b1 nin0))
  have fk9 := ((Fv_a1.ext E1).keep K2q (ninS ne_a1_b1 nin0))
  have fk10 := (fk5.keep K2q (ninS ne_dp_b1 nin0))
  have Oh11 := O0.keep K2 all0
  obtain ⟨cq6, kq6, q6a, q6b, q6c⟩ := isOf hZ rfl E2q
  obtain ⟨_, _, ⟨T6, L6, k6, n6⟩, -, X6, ⟨Lc6, hQ6, l6, y6, z6⟩, st6⟩ := X2.virtualBack hx (y := mn_12) (z := mn_12) hown (mvT hZ (ww hw 32 rfl)) (mvT hZ (ww hw 33 rfl)) (notFace_of_selects (args := #[]) (mvT hZ (ww hw 35 rfl))) (mvT hZ (ww hw 35 rfl)) (mvT hZ (ww hw 34 rfl)) (by decide) (backOf (W := 0) (rm5_f l Z a0 hw [] b1 a1 d2 kd2 (16 : Int32) [] dp kdp zp Bp (0 : Int32) cs T2.heap n0 (Nat.le_trans Z0 K2.1) Oh11 E2q Fv2q Fc2q V2q g_d2 Fn2q g_b1 ne_b1_d2 fk7 fk8 fk9 fk10 hzp hBp (Ne.symm ne_a1_b1) (Ne.symm ne_dp_b1) ne_a1_d2 (Ne.symm ne_dp_d2) (own_pn0 zp hp) (own_pn1 zp Bp hBp hp) (own_pn2 zp hp) (own_pn3 zp hp) (by decide) (own_pn4 zp hp) S_CS h_cs) hZ (ww hw 36 rfl) (ww hw 14 rfl) (by decide) (by decide)) q6a q6c (g := (mkF m 8 #[vR a1, .val .null, .unset] [iR a1, iR b1])) rfl (by rw [hml]; rfl) (Steps.refl _) (argsL := [(.ref a1)]) (rest := []) (lenOf pd_24 rfl) rfl (wz rfl) (hb hby d1_8) (fun _ _ => ⟨rfl, rfl, (by decide : 2 + 0 ≤ _), (by decide : 20 + 0 ≤ _)⟩)
  dsimp only [Pt.U, Pt.locs, Pt.cells, Pt.slots] at X6 l6 y6 z6 st6 hQ6
  subst l6 y6 z6
  obtain ⟨rfl, N6q, K6q, E6q, Fv6q, Fc6q, Fn6q, V6q⟩ := hQ6
  have N6 := Fr.app N2 N6q
  have K6 : Keep h0 T6.heap [] := Keep.trans K2 K6q (allS (Or.inr sz_b1) (allS (Or.inr sz_d2) all0))
  have S12_b1 := Safe.ext E1 R0.1 (Safe.new (Nat.le_of_eq g1.symm))
  have R12 := R0.trans (CHr.ext E1 R0.1)
  have sq13 : ∀ x ∈ [b1], Safe Z consts_1 s.vm _ x := (sfS S12_b1 sf0)
  have S13_b1 := Safe.keep K2q sq13 R12.1 S12_b1
  have S13_d2 := Safe.keep K2q sq13 R12.1 (Safe.new z_d2)
  have R13 := R12.trans (CHr.keep K2q sq13 R12.1)
  have sq14 : ∀ x ∈ [b1, d2], Safe Z consts_1 s.vm _ x := (sfS S13_b1 (sfS S13_d2 sf0))
  have S14_b1 := Safe.keep K6q sq14 R13.1 S13_b1
  have S14_d2 := Safe.keep K6q sq14 R13.1 S13_d2
  have R14 := R13.trans (CHr.keep K6q sq14 R13.1)
  have fk15 := (G2q.keep K6q)
  obtain ⟨la16, T16, h16, kk16, lb16, kl16, X16, e16, E16, hS16, hk16, hZ, hown, EE16, FC16, FV16, VV16, -, -, C16, li16, ne16, st16⟩ := ldcCH (s := s) (vm0 := s.vm) X6 hx hZ hown (ww hw 82 rfl) (own_strAtoms hw) rfl ((State.WarmedH.refl s).since 0) (Nat.zero_le _) (own_EW hw) (List.mem_of_getElem? (i := 0) rfl) R14.1 (vs := own_bs [(32 : Int32), (114 : Int32), (101 : Int32), (97 : Int32), (108 : Int32), (109 : Int32), (61 : Int32), (34 : Int32)]) (z := (8 : Int32)) own_ct0 (by decide) (by decide) (g := (mkF m 11 #[vR a1, .val .null, .unset] [iR b1])) rfl (hb hby d1_11) (n := 32) (by decide) (by decide) (by decide) (by decide)
  have K16 : Keep h0 h16 [] := K6.ext E16
  have S16_b1 := C16.safe E6q.lt S14_b1
  have S16_d2 := C16.safe fk15.lt S14_d2
  have R16 := R14.trans C16
  have fk18 := (E6q.ext E16)
  have fk19 := (Fv6q.ext E16)
  have fk20 := (Fc6q.ext E16)
  have fk21 := (V6q.ext E16)
  have fk22 := (Fn6q.ext E16)
  have Oh23 := O0.keep K16 all0
  obtain ⟨cq17, kq17, q17a, q17b, q17c⟩ := isOf hZ e16 fk18
  obtain ⟨_, _, ⟨T17, L17, k17, n17⟩, -, X17, ⟨Lc17, hQ17, l17, y17, z17⟩, st17⟩ := X16.virtualBack hx (y := mn_12) (z := mn_12) hown (mvT hZ (ww hw 32 rfl)) (mvT hZ (ww hw 33 rfl)) (notFace_of_selects (args := #[]) (mvT hZ (ww hw 35 rfl))) (mvT hZ (ww hw 35 rfl)) (mvT hZ (ww hw 34 rfl)) (by decide) (backOf (W := 0) (rm5_f l Z a0 hw [] b1 la16 d2 kd2 (16 : Int32) ([] ++ Bp) lb16 kl16 (8 : Int32) [(32 : Int32), (114 : Int32), (101 : Int32), (97 : Int32), (108 : Int32), (109 : Int32), (61 : Int32), (34 : Int32)] ((0 : Int32) + zp) cs h16 n0 (Nat.le_trans Z0 K16.1) Oh23 fk18 fk19 fk20 fk21 g_d2 fk22 g_b1 ne_b1_d2 EE16 FC16 FV16 VV16 (by decide) (by decide) (ne16 _ S16_b1).1 (ne16 _ S16_b1).2 (Ne.symm (ne16 _ S16_d2).1) (ne16 _ S16_d2).2 (own_pn3 zp hp) (own_pn5 zp Bp hBp hp) (own_pn6 zp hp) (own_pn7 zp hp) (by decide) (own_pn8 zp hp) S_CS h_cs) hZ (ww hw 36 rfl) (ww hw 14 rfl) (by decide) (by decide)) q17a q17c (g := (mkF m 13 #[vR a1, .val .null, .unset] [iR la16, iR b1])) rfl (by rw [hml]; rfl) (Steps.refl _) (argsL := [(.ref la16)]) (rest := []) (lenOf pd_24 rfl) rfl (wz rfl) (hb hby d1_13) (fun _ _ => ⟨rfl, e16, (by decide : 4 + 0 ≤ _), (by decide : 56 + 0 ≤ _)⟩)
  dsimp only [Pt.U, Pt.locs, Pt.cells, Pt.slots] at X17 l17 y17 z17 st17 hQ17
  subst l17 y17 z17
  obtain ⟨rfl, N17q, K17q, E17q, Fv17q, Fc17q, Fn17q, V17q⟩ := hQ17
  have N17 := Fr.app N6 N17q
  have K17 : Keep h0 T17.heap [] := Keep.trans K16 K17q (allS (Or.inr sz_b1) (allS (Or.inr sz_d2) all0))
  have sq24 : ∀ x ∈ [b1, d2], Safe Z consts_1 T16.vm _ x := (sfS S16_b1 (sfS S16_d2 sf0))
  have S24_b1 := Safe.keep K17q sq24 R16.1 S16_b1
  have S24_d2 := Safe.keep K17q sq24 R16.1 S16_d2
  have R24 := R16.trans (CHr.keep K17q sq24 R16.1)
  have fk25 := ((fk15.ext E16).keep K17q)
  obtain ⟨la26, T26, h26, kk26, lb26, kl26, X26, e26, E26, hS26, hk26, hZ, hown, EE26, FC26, FV26, VV26, -, -, C26, li26, ne26, st26⟩ := ldcCH (s := s) (vm0 := T16.vm) X17 hx hZ hown (ww hw 83 rfl) (own_strAtoms hw) rfl hS16 (Nat.le_trans hk16 K17q.1) (own_EW hw) (List.mem_of_getElem? (i := 1) rfl) R24.1 (vs := own_bs [(99 : Int32), (108 : Int32), (111 : Int32), (117 : Int32), (100 : Int32), (45 : Int32), (116 : Int32), (111 : Int32), (45 : Int32), (99 : Int32), (111 : Int32), (114 : Int32), (101 : Int32)]) (z := (13 : Int32)) own_ct1 (by decide) (by decide) (g := (mkF m 16 #[vR a1, .val .null, .unset] [iR b1])) rfl (hb hby d1_16) (n := 52) (by decide) (by decide) (by decide) (by decide)
  have K26 : Keep h0 h26 [] := K17.ext E26
  have S26_b1 := C26.safe E17q.lt S24_b1
  have S26_d2 := C26.safe fk25.lt S24_d2
  have R26 := R24.trans C26
  have fk28 := (E17q.ext E26)
  have fk29 := (Fv17q.ext E26)
  have fk30 := (Fc17q.ext E26)
  have fk31 := (V17q.ext E26)
  have fk32 := (Fn17q.ext E26)
  have Oh33 := O0.keep K26 all0
  obtain ⟨cq27, kq27, q27a, q27b, q27c⟩ := isOf hZ e26 fk28
  obtain ⟨_, _, ⟨T27, L27, k27, n27⟩, -, X27, ⟨Lc27, hQ27, l27, y27, z27⟩, st27⟩ := X26.virtualBack hx (y := mn_12) (z := mn_12) hown (mvT hZ (ww hw 32 rfl)) (mvT hZ (ww hw 33 rfl)) (notFace_of_selects (args := #[]) (mvT hZ (ww hw 35 rfl))) (mvT hZ (ww hw 35 rfl)) (mvT hZ (ww hw 34 rfl)) (by decide) (backOf (W := 0) (rm5_g l Z a0 hw [] b1 la26 d2 kd2 (16 : Int32) (([] ++ Bp) ++ [(32 : Int32), (114 : Int32), (101 : Int32), (97 : Int32), (108 : Int32), (109 : Int32), (61 : Int32), (34 : Int32)]) lb26 kl26 (13 : Int32) [(99 : Int32), (108 : Int32), (111 : Int32), (117 : Int32), (100 : Int32), (45 : Int32), (116 : Int32), (111 : Int32), (45 : Int32), (99 : Int32), (111 : Int32), (114 : Int32), (101 : Int32)] (((0 : Int32) + zp) + (8 : Int32)) (34 : Int32) cs h26 n0 (Nat.le_trans Z0 K26.1) Oh33 fk28 fk29 fk30 fk31 g_d2 fk32 g_b1 ne_b1_d2 EE26 FC26 FV26 VV26 (by decide) (by decide) (ne26 _ S26_b1).1 (ne26 _ S26_b1).2 (Ne.symm (ne26 _ S26_d2).1) (ne26 _ S26_d2).2 (own_pn7 zp hp) (own_pn9 zp Bp hBp hp) (own_pn10 zp hp) (own_pn11 zp hp) (by decide) (own_pn12 zp hp) (own_pn13 zp hp) (by decide) (by decide) (by decide) (by decide) (own_pn14 zp Bp hBp hp) (own_pn15 zp hp) S_CS h_cs) hZ (ww hw 36 rfl) (ww hw 14 rfl) (by decide) (by decide)) q27a q27c (g := (mkF m 18 #[vR a1, .val .null, .unset] [iR la26, iR b1])) rfl (by rw [hml]; rfl) (Steps.refl _) (argsL := [(.ref la26)]) (rest := []) (lenOf pd_24 rfl) rfl (wz rfl) (hb hby d1_18) (fun _ _ => ⟨rfl, e26, (by decide : 6 + 1 ≤ _), (by decide : 112 + 70 ≤ _)⟩)
  dsimp only [Pt.U, Pt.locs, Pt.cells, Pt.slots] at X27 l27 y27 z27 st27 hQ27
  subst l27 y27 z27
  obtain ⟨d27, kd27, rfl, N27q, K27q, E27q, Fv27q, Fc27q, Fn27q, V27q, G27q, z_d27⟩ := hQ27
  have fk34 := ((((fk7.keep K6q).ext E16).keep K17q).ext E26)
  have fk35 := ((((fk10.keep K6q (ninS ne_dp_b1 (ninS ne_dp_d2 nin0))).ext E16).keep K17q (ninS ne_dp_b1 (ninS ne_dp_d2 nin0))).ext E26)
  have fk36 := (fk25.ext E26)
  have fk37 := ((EE16.keep K17q).ext E26)
  have fk38 := ((VV16.keep K17q (ninS (Ne.symm (ne16 _ S16_b1).2) (ninS (Ne.symm (ne16 _ S16_d2).2) nin0))).ext E26)
  have ne_a1_d27 : a1 ≠ d27 := Nat.ne_of_lt (Nat.lt_of_lt_of_le fk34.lt z_d27)
  have ne_dp_d27 : dp ≠ d27 := Nat.ne_of_lt (Nat.lt_of_lt_of_le fk35.lt z_d27)
  have ne_b1_d27 : b1 ≠ d27 := Nat.ne_of_lt (Nat.lt_of_lt_of_le fk28.lt z_d27)
  have ne_d2_d27 : d2 ≠ d27 := Nat.ne_of_lt (Nat.lt_of_lt_of_le fk36.lt z_d27)
  have ne_la16_d27 : la16 ≠ d27 := Nat.ne_of_lt (Nat.lt_of_lt_of_le fk37.lt z_d27)
  have ne_lb16_d27 : lb16 ≠ d27 := Nat.ne_of_lt (Nat.lt_of_lt_of_le fk38.lt z_d27)
  have ne_la26_d27 : la26 ≠ d27 := Nat.ne_of_lt (Nat.lt_of_lt_of_le EE26.lt z_d27)
  have ne_lb26_d27 : lb26 ≠ d27 := Nat.ne_of_lt (Nat.lt_of_lt_of_le VV26.lt z_d27)
  have sz_d27 : h0.size ≤ d27 := Nat.le_trans K26.1 z_d27
  have g_d27 : n0 ≤ d27 := Nat.le_trans Z0 sz_d27
  have N27 := Fr.app N17 N27q
  have K27 : Keep h0 T27.heap [] := Keep.trans K26 K27q (allS (Or.inr sz_b1) all0)
  have sq39 : ∀ x ∈ [b1], Safe Z consts_1 T26.vm _ x := (sfS S26_b1 sf0)
  have S39_b1 := Safe.keep K27q sq39 R26.1 S26_b1
  have S39_d2 := Safe.keep K27q sq39 R26.1 S26_d2
  have S39_d27 := Safe.keep K27q sq39 R26.1 (Safe.new z_d27)
  have R39 := R26.trans (CHr.keep K27q sq39 R26.1)
  have fk40 := (fk36.keep K27q)
  obtain ⟨la41, T41, h41, kk41, lb41, kl41, X41, e41, E41, hS41, hk41, hZ, hown, EE41, FC41, FV41, VV41, -, -, C41, li41, ne41, st41⟩ := ldcCH (s := s) (vm0 := T26.vm) X27 hx hZ hown (ww hw 107 rfl) (own_strAtoms hw) rfl hS26 (Nat.le_trans hk26 K27q.1) (own_EW hw) (List.mem_of_getElem? (i := 2) rfl) R39.1 (vs := own_bs [(34 : Int32)]) (z := (1 : Int32)) own_ct2 (by decide) (by decide) (g := (mkF m 21 #[vR a1, .val .null, .unset] [iR b1])) rfl (hb hby d1_21) (n := 4) (by decide) (by decide) (by decide) (by decide)
  have K41 : Keep h0 h41 [] := K27.ext E41
  have S41_b1 := C41.safe E27q.lt S39_b1
  have S41_d2 := C41.safe fk40.lt S39_d2
  have S41_d27 := C41.safe V27q.lt S39_d27
  have R41 := R39.trans C41
  have fk43 := (E27q.ext E41)
  have fk44 := (Fv27q.ext E41)
  have fk45 := (Fc27q.ext E41)
  have fk46 := (V27q.ext E41)
  have fk47 := (Fn27q.ext E41)
  have Oh48 := O0.keep K41 all0
  obtain ⟨cq42, kq42, q42a, q42b, q42c⟩ := isOf hZ e41 fk43
  obtain ⟨_, _, ⟨T42, L42, k42, n42⟩, -, X42, ⟨Lc42, hQ42, l42, y42, z42⟩, st42⟩ := X41.virtualBack hx (y := mn_12) (z := mn_12) hown (mvT hZ (ww hw 32 rfl)) (mvT hZ (ww hw 33 rfl)) (notFace_of_selects (args := #[]) (mvT hZ (ww hw 35 rfl))) (mvT hZ (ww hw 35 rfl)) (mvT hZ (ww hw 34 rfl)) (by decide) (backOf (W := 0) (rm5_f l Z a0 hw [] b1 la41 d27 kd27 (34 : Int32) ((([] ++ Bp) ++ [(32 : Int32), (114 : Int32), (101 : Int32), (97 : Int32), (108 : Int32), (109 : Int32), (61 : Int32), (34 : Int32)]) ++ [(99 : Int32), (108 : Int32), (111 : Int32), (117 : Int32), (100 : Int32), (45 : Int32), (116 : Int32), (111 : Int32), (45 : Int32), (99 : Int32), (111 : Int32), (114 : Int32), (101 : Int32)]) lb41 kl41 (1 : Int32) [(34 : Int32)] ((((0 : Int32) + zp) + (8 : Int32)) + (13 : Int32)) cs h41 n0 (Nat.le_trans Z0 K41.1) Oh48 fk43 fk44 fk45 fk46 g_d27 fk47 g_b1 ne_b1_d27 EE41 FC41 FV41 VV41 (by decide) (by decide) (ne41 _ S41_b1).1 (ne41 _ S41_b1).2 (Ne.symm (ne41 _ S41_d27).1) (ne41 _ S41_d27).2 (own_pn11 zp hp) (own_pn16 zp Bp hBp hp) (own_pn17 zp hp) (own_pn18 zp hp) (by decide) (own_pn19 zp hp) S_CS h_cs) hZ (ww hw 36 rfl) (ww hw 14 rfl) (by decide) (by decide)) q42a q42c (g := (mkF m 23 #[vR a1, .val .null, .unset] [iR la41, iR b1])) rfl (by rw [hml]; rfl) (Steps.refl _) (argsL := [(.ref la41)]) (rest := []) (lenOf pd_24 rfl) rfl (wz rfl) (hb hby d1_23) (fun _ _ => ⟨rfl, e41, (by decide : 9 + 0 ≤ _), (by decide : 190 + 0 ≤ _)⟩)
  dsimp only [Pt.U, Pt.locs, Pt.cells, Pt.slots] at X42 l42 y42 z42 st42 hQ42
  subst l42 y42 z42
  obtain ⟨rfl, N42q, K42q, E42q, Fv42q, Fc42q, Fn42q, V42q⟩ := hQ42
  have N42 := Fr.app N27 N42q
  have K42 : Keep h0 T42.heap [] := Keep.trans K41 K42q (allS (Or.inr sz_b1) (allS (Or.inr sz_d27) all0))
  have fk50 := ((G27q.ext E41).keep K42q)
  have Oh51 := O0.keep K42 all0
  obtain ⟨cq49, kq49, q49a, q49b, q49c⟩ := isOf hZ rfl E42q
  obtain ⟨_, _, ⟨T49, L49, k49, n49⟩, -, X49, ⟨Lc49, hQ49, l49, y49, z49⟩, st49⟩ := X42.virtualBack hx (y := mn_22) (z := mn_22) hown (mvT hZ (ww hw 108 rfl)) (mvT hZ (ww hw 109 rfl)) (notFace_of_selects (args := #[]) (mvT hZ (ww hw 111 rfl))) (mvT hZ (ww hw 111 rfl)) (mvT hZ (ww hw 110 rfl)) (by decide) (backOf (W := 0) (rm18 l Z a0 hw [] b1 d27 kd27 (34 : Int32) (((([] ++ Bp) ++ [(32 : Int32), (114 : Int32), (101 : Int32), (97 : Int32), (108 : Int32), (109 : Int32), (61 : Int32), (34 : Int32)]) ++ [(99 : Int32), (108 : Int32), (111 : Int32), (117 : Int32), (100 : Int32), (45 : Int32), (116 : Int32), (111 : Int32), (45 : Int32), (99 : Int32), (111 : Int32), (114 : Int32), (101 : Int32)]) ++ [(34 : Int32)]) (((((0 : Int32) + zp) + (8 : Int32)) + (13 : Int32)) + (1 : Int32)) cs T42.heap n0 (Nat.le_trans Z0 K42.1) Oh51 E42q Fv42q Fc42q V42q Fn42q (own_pn18 zp hp) (own_pn19 zp hp) (own_pn21 zp hp) (own_pn20 zp Bp hBp hp) fk50 S_CS h_cs) hZ (ww hw 112 rfl) (ww hw 14 rfl) (by decide) (by decide)) q49a q49c (g := (mkF m 26 #[vR a1, .val .null, .unset] [iR b1])) rfl (by rw [hml]; rfl) (Steps.refl _) (argsL := []) (rest := []) (lenOf pd_25 rfl) rfl (wz rfl) (hb hby d1_26) (fun _ _ => ⟨rfl, rfl, (by decide : 9 + 2 ≤ _), (by decide : 190 + 74 ≤ _)⟩)
  dsimp only [Pt.U, Pt.locs, Pt.cells, Pt.slots] at X49 l49 y49 z49 st49 hQ49
  subst l49 y49 z49
  obtain ⟨o49, d49, kd49, rfl, N49q, K49q, E49q, C49q, F49q, V49q, z_o49, z_d49⟩ := hQ49
  have fk52 := (((fk34.keep K27q).ext E41).keep K42q)
  have fk53 := (((fk35.keep K27q (ninS ne_dp_b1 nin0)).ext E41).keep K42q (ninS ne_dp_b1 (ninS ne_dp_d27 nin0)))
  have fk54 := ((fk40.ext E41).keep K42q)
  have fk55 := (((fk37.keep K27q).ext E41).keep K42q)
  have fk56 := (((fk38.keep K27q (ninS (Ne.symm (ne16 _ S16_b1).2) nin0)).ext E41).keep K42q (ninS (Ne.symm (ne16 _ S16_b1).2) (ninS ne_lb16_d27 nin0)))
  have fk57 := (((EE26.keep K27q).ext E41).keep K42q)
  have fk58 := (((VV26.keep K27q (ninS (Ne.symm (ne26 _ S26_b1).2) nin0)).ext E41).keep K42q (ninS (Ne.symm (ne26 _ S26_b1).2) (ninS ne_lb26_d27 nin0)))
  have fk59 := (EE41.keep K42q)
  have fk60 := (VV41.keep K42q (ninS (Ne.symm (ne41 _ S41_b1).2) (ninS (Ne.symm (ne41 _ S41_d27).2) nin0)))
  have ne_a1_o49 : a1 ≠ o49 := Nat.ne_of_lt (Nat.lt_of_lt_of_le fk52.lt z_o49)
  have ne_dp_o49 : dp ≠ o49 := Nat.ne_of_lt (Nat.lt_of_lt_of_le fk53.lt z_o49)
  have ne_b1_o49 : b1 ≠ o49 := Nat.ne_of_lt (Nat.lt_of_lt_of_le E42q.lt z_o49)
  have ne_d2_o49 : d2 ≠ o49 := Nat.ne_of_lt (Nat.lt_of_lt_of_le fk54.lt z_o49)
  have ne_la16_o49 : la16 ≠ o49 := Nat.ne_of_lt (Nat.lt_of_lt_of_le fk55.lt z_o49)
  have ne_lb16_o49 : lb16 ≠ o49 := Nat.ne_of_lt (Nat.lt_of_lt_of_le fk56.lt z_o49)
  have ne_la26_o49 : la26 ≠ o49 := Nat.ne_of_lt (Nat.lt_of_lt_of_le fk57.lt z_o49)
  have ne_lb26_o49 : lb26 ≠ o49 := Nat.ne_of_lt (Nat.lt_of_lt_of_le fk58.lt z_o49)
  have ne_d27_o49 : d27 ≠ o49 := Nat.ne_of_lt (Nat.lt_of_lt_of_le V42q.lt z_o49)
  have ne_la41_o49 : la41 ≠ o49 := Nat.ne_of_lt (Nat.lt_of_lt_of_le fk59.lt z_o49)
  have ne_lb41_o49 : lb41 ≠ o49 := Nat.ne_of_lt (Nat.lt_of_lt_of_le fk60.lt z_o49)
  have sz_o49 : h0.size ≤ o49 := Nat.le_trans K42.1 z_o49
  have g_o49 : n0 ≤ o49 := Nat.le_trans Z0 sz_o49
  have ne_a1_d49 : a1 ≠ d49 := Nat.ne_of_lt (Nat.lt_of_lt_of_le fk52.lt z_d49)
  have ne_dp_d49 : dp ≠ d49 := Nat.ne_of_lt (Nat.lt_of_lt_of_le fk53.lt z_d49)
  have ne_b1_d49 : b1 ≠ d49 := Nat.ne_of_lt (Nat.lt_of_lt_of_le E42q.lt z_d49)
  have ne_d2_d49 : d2 ≠ d49 := Nat.ne_of_lt (Nat.lt_of_lt_of_le fk54.lt z_d49)
  have ne_la16_d49 : la16 ≠ d49 := Nat.ne_of_lt (Nat.lt_of_lt_of_le fk55.lt z_d49)
  have ne_lb16_d49 : lb16 ≠ d49 := Nat.ne_of_lt (Nat.lt_of_lt_of_le fk56.lt z_d49)
  have ne_la26_d49 : la26 ≠ d49 := Nat.ne_of_lt (Nat.lt_of_lt_of_le fk57.lt z_d49)
  have ne_lb26_d49 : lb26 ≠ d49 := Nat.ne_of_lt (Nat.lt_of_lt_of_le fk58.lt z_d49)
  have ne_d27_d49 : d27 ≠ d49 := Nat.ne_of_lt (Nat.lt_of_lt_of_le V42q.lt z_d49)
  have ne_la41_d49 : la41 ≠ d49 := Nat.ne_of_lt (Nat.lt_of_lt_of_le fk59.lt z_d49)
  have ne_lb41_d49 : lb41 ≠ d49 := Nat.ne_of_lt (Nat.lt_of_lt_of_le fk60.lt z_d49)
  have sz_d49 : h0.size ≤ d49 := Nat.le_trans K42.1 z_d49
  have g_d49 : n0 ≤ d49 := Nat.le_trans Z0 sz_d49
  have N49 := Fr.app N42 N49q
  have K49 : Keep h0 T49.heap [] := Keep.trans K42 K49q all0
  have sq61 : ∀ x ∈ [b1, d27], Safe Z consts_1 T41.vm _ x := (sfS S41_b1 (sfS S41_d27 sf0))
  have S61_b1 := Safe.keep K42q sq61 R41.1 S41_b1
  have S61_d2 := Safe.keep K42q sq61 R41.1 S41_d2
  have S61_d27 := Safe.keep K42q sq61 R41.1 S41_d27
  have R61 := R41.trans (CHr.keep K42q sq61 R41.1)
  have S62_b1 := Safe.keep K49q sf0 R61.1 S61_b1
  have S62_d2 := Safe.keep K49q sf0 R61.1 S61_d2
  have S62_d27 := Safe.keep K49q sf0 R61.1 S61_d27
  have S62_o49 := Safe.keep K49q sf0 R61.1 (Safe.new z_o49)
  have S62_d49 := Safe.keep K49q sf0 R61.1 (Safe.new z_d49)
  have R62 := R61.trans (CHr.keep K49q sf0 R61.1)
  have hfin := R62.trans (CHv.at (s := s) (vm0 := T41.vm) X49 hZ (own_EW hw) R62.1)
  obtain ⟨fs, hr, hrun, hended, hEnd⟩ := X49.leaveW hS41 (Nat.le_trans (Nat.le_trans hk41 K42q.1) K49q.1) (v := some (.ref o49)) (fun h => by rw [Bd.returns] at h; cases h)
  refine ⟨_, _, pre0 _ ?_, hrun, hended, _, _, rfl, ?_, (by rw [hh]; show CHr Z consts_1 s.vm h0 T49.vm T49.heap; exact hfin), ⟨hEnd.1, hEnd.2.1, hEnd.2.2.1, hEnd.2.2.2.mono (by decide) (by decide)⟩⟩
  · show SA s₁ m 0 #[vR a1, .val .null, .unset] []
    refine st1 _ ?_
    show SA T1 m 3 #[vR a1, .val .null, .unset] [iR b1]
    refine XS.dup X1.here hx rfl (hb hby d1_3) rfl rfl ?_
    show SA T1 m 4 #[vR a1, .val .null, .unset] [iR b1, iR b1]
    refine st2.trans ?_
    show SA T2 m 7 #[vR a1, .val .null, .unset] [iR b1]
    refine XS.aloadN X2.here hx rfl (hb hby d1_7) rfl rfl ?_
    show SA T2 m 8 #[vR a1, .val .null, .unset] [iR a1, iR b1]
    refine st6.trans ?_
    show SA T6 m 11 #[vR a1, .val .null, .unset] [iR b1]
    refine st16 _ ?_
    show SA T16 m 13 #[vR a1, .val .null, .unset] [iR la16, iR b1]
    refine st17.trans ?_
    show SA T17 m 16 #[vR a1, .val .null, .unset] [iR b1]
    refine st26 _ ?_
    show SA T26 m 18 #[vR a1, .val .null, .unset] [iR la26, iR b1]
    refine st27.trans ?_
    show SA T27 m 21 #[vR a1, .val .null, .unset] [iR b1]
    refine st41 _ ?_
    show SA T41 m 23 #[vR a1, .val .null, .unset] [iR la41, iR b1]
    refine st42.trans ?_
    show SA T42 m 26 #[vR a1, .val .null, .unset] [iR b1]
    refine st49.trans ?_
    show SA T49 m 29 #[vR a1, .val .null, .unset] [iR o49]
    refine XS.astoreN X49.here hx rfl (hb hby d1_29) rfl rfl (l' := #[vR a1, .val .null, vR o49]) rfl ?_
    show SA T49 m 30 #[vR a1, .val .null, vR o49] []
    refine XS.aloadN X49.here hx rfl (hb hby d1_30) rfl rfl ?_
    show SA T49 m 31 #[vR a1, .val .null, vR o49] [.null]
    refine XS.ifnullYes X49.here hx rfl (pc0 := 31) (pc' := 63) rfl (hb hby d1_31) rfl (by decide) (by decide) ?_
    show SA T49 m 63 #[vR a1, .val .null, vR o49] []
    refine XS.aloadN X49.here hx rfl (hb hby d1_63) rfl rfl ?_
    show Steps _ _ _ (T49.setTop (mkF m 64 #[vR a1, .val .null, vR o49] [iR o49])) _
    jvm_step X49.here [X49.here.top, hx, (hb hby d1_64), X49.method', Bd.returns, Value.isRef, FieldType.isReference]
    first | (intro acts; rw [hr _ acts rfl rfl rfl]) | rw [hr _ _ rfl rfl rfl]
    exact Steps.refl _
  · show Q1_n Z a1 dp kdp zp Bp zz BB cs h0 n0 _ T49.heap _
    exact ⟨_, _, _, rfl, N49, K49, E49q, C49q, F49q, (by rw [← hzz, ← hBB]; exact V49q)⟩
theorem own_pa0 (zp zq : Int32) (h : (zp = (0 : Int32) ∧ zq = (0 : Int32)) ∨ (zp = (0 : Int32) ∧ zq = (1 : Int32)) ∨ (zp = (1 : Int32) ∧ zq = (0 : Int32))) : ¬ (0 : Int32) < 0 := by
  rcases h with ⟨rfl, rfl⟩ | ⟨rfl, rfl⟩ | ⟨rfl, rfl⟩ <;> decide
theorem own_pa1 (zp zq : Int32) (A1c Bq : List Int32) (hA1c : (((((0 : Int32) + zp) + (8 : Int32)) + (13 : Int32)) + (1 : Int32)).toNatClampNeg = A1c.length) (hBq : zq.toNatClampNeg = Bq.length) (h : (zp = (0 : Int32) ∧ zq = (0 : Int32)) ∨ (zp = (0 : Int32) ∧ zq = (1 : Int32)) ∨ (zp = (1 : Int32) ∧ zq = (0 : Int32))) : (0 : Int32).toNatClampNeg = ([] : List Int32).length := by
  rcases h with ⟨rfl, rfl⟩ | ⟨rfl, rfl⟩ | ⟨rfl, rfl⟩ <;> (simp only [List.length_append, List.length_cons, List.length_nil, ← hA1c, ← hBq]; decide)
theorem own_pa2 (zp zq : Int32) (h : (zp = (0 : Int32) ∧ zq = (0 : Int32)) ∨ (zp = (0 : Int32) ∧ zq = (1 : Int32)) ∨ (zp = (1 : Int32) ∧ zq = (0 : Int32))) : ((0 : Int32) + (((((0 : Int32) + zp) + (8 : Int32)) + (13 : Int32)) + (1 : Int32))).toNatClampNeg = (0 : Int32).toNatClampNeg + (((((0 : Int32) + zp) + (8 : Int32)) + (13 : Int32)) + (1 : Int32)).toNatClampNeg := by
  rcases h with ⟨rfl, rfl⟩ | ⟨rfl, rfl⟩ | ⟨rfl, rfl⟩ <;> decide
theorem own_pa3 (zp zq : Int32) (h : (zp = (0 : Int32) ∧ zq = (0 : Int32)) ∨ (zp = (0 : Int32) ∧ zq = (1 : Int32)) ∨ (zp = (1 : Int32) ∧ zq = (0 : Int32))) : ¬ ((0 : Int32) + (((((0 : Int32) + zp) + (8 : Int32)) + (13 : Int32)) + (1 : Int32))) < 0 := by
  rcases h with ⟨rfl, rfl⟩ | ⟨rfl, rfl⟩ | ⟨rfl, rfl⟩ <;> decide
theorem own_pa4 (zp zq : Int32) (h : (zp = (0 : Int32) ∧ zq = (0 : Int32)) ∨ (zp = (0 : Int32) ∧ zq = (1 : Int32)) ∨ (zp = (1 : Int32) ∧ zq = (0 : Int32))) : (16 : Int32) < ((0 : Int32) + (((((0 : Int32) + zp) + (8 : Int32)) + (13 : Int32)) + (1 : Int32))) := by
  rcases h with ⟨rfl, rfl⟩ | ⟨rfl, rfl⟩ | ⟨rfl, rfl⟩ <;> decide
theorem own_pa5 (zp zq : Int32) (h : (zp = (0 : Int32) ∧ zq = (0 : Int32)) ∨ (zp = (0 : Int32) ∧ zq = (1 : Int32)) ∨ (zp = (1 : Int32) ∧ zq = (0 : Int32))) : ((16 : Int32) + (own_max (((0 : Int32) + (((((0 : Int32) + zp) + (8 : Int32)) + (13 : Int32)) + (1 : Int32))) - (16 : Int32)) ((16 : Int32) + (2 : Int32)))) = (34 : Int32) := by
  rcases h with ⟨rfl, rfl⟩ | ⟨rfl, rfl⟩ | ⟨rfl, rfl⟩ <;> decide
theorem own_pa6 (zp zq : Int32) (A1c Bq : List Int32) (hA1c : (((((0 : Int32) + zp) + (8 : Int32)) + (13 : Int32)) + (1 : Int32)).toNatClampNeg = A1c.length) (hBq : zq.toNatClampNeg = Bq.length) (h : (zp = (0 : Int32) ∧ zq = (0 : Int32)) ∨ (zp = (0 : Int32) ∧ zq = (1 : Int32)) ∨ (zp = (1 : Int32) ∧ zq = (0 : Int32))) : ([] : List Int32).length ≤ (16 : Int32).toNatClampNeg := by
  rcases h with ⟨rfl, rfl⟩ | ⟨rfl, rfl⟩ | ⟨rfl, rfl⟩ <;> (simp only [List.length_append, List.length_cons, List.length_nil, ← hA1c, ← hBq]; decide)
theorem own_pa7 (zp zq : Int32) (h : (zp = (0 : Int32) ∧ zq = (0 : Int32)) ∨ (zp = (0 : Int32) ∧ zq = (1 : Int32)) ∨ (zp = (1 : Int32) ∧ zq = (0 : Int32))) : ¬ (34 : Int32) < ((0 : Int32) + (((((0 : Int32) + zp) + (8 : Int32)) + (13 : Int32)) + (1 : Int32))) := by
  rcases h with ⟨rfl, rfl⟩ | ⟨rfl, rfl⟩ | ⟨rfl, rfl⟩ <;> decide
theorem own_pa8 (zp zq : Int32) (A1c Bq : List Int32) (hA1c : (((((0 : Int32) + zp) + (8 : Int32)) + (13 : Int32)) + (1 : Int32)).toNatClampNeg = A1c.length) (hBq : zq.toNatClampNeg = Bq.length) (h : (zp = (0 : Int32) ∧ zq = (0 : Int32)) ∨ (zp = (0 : Int32) ∧ zq = (1 : Int32)) ∨ (zp = (1 : Int32) ∧ zq = (0 : Int32))) : ((0 : Int32) + (((((0 : Int32) + zp) + (8 : Int32)) + (13 : Int32)) + (1 : Int32))).toNatClampNeg = (([] ++ A1c) : List Int32).length := by
  rcases h with ⟨rfl, rfl⟩ | ⟨rfl, rfl⟩ | ⟨rfl, rfl⟩ <;> (simp only [List.length_append, List.length_cons, List.length_nil, ← hA1c, ← hBq]; decide)
theorem own_pa9 (zp zq : Int32) (h : (zp = (0 : Int32) ∧ zq = (0 : Int32)) ∨ (zp = (0 : Int32) ∧ zq = (1 : Int32)) ∨ (zp = (1 : Int32) ∧ zq = (0 : Int32))) : (((0 : Int32) + (((((0 : Int32) + zp) + (8 : Int32)) + (13 : Int32)) + (1 : Int32))) + (9 : Int32)).toNatClampNeg = ((0 : Int32) + (((((0 : Int32) + zp) + (8 : Int32)) + (13 : Int32)) + (1 : Int32))).toNatClampNeg + (9 : Int32).toNatClampNeg := by
  rcases h with ⟨rfl, rfl⟩ | ⟨rfl, rfl⟩ | ⟨rfl, rfl⟩ <;> decide
theorem own_pa10 (zp zq : Int32) (h : (zp = (0 : Int32) ∧ zq = (0 : Int32)) ∨ (zp = (0 : Int32) ∧ zq = (1 : Int32)) ∨ (zp = (1 : Int32) ∧ zq = (0 : Int32))) : ¬ (((0 : Int32) + (((((0 : Int32) + zp) + (8 : Int32)) + (13 : Int32)) + (1 : Int32))) + (9 : Int32)) < 0 := by
  rcases h with ⟨rfl, rfl⟩ | ⟨rfl, rfl⟩ | ⟨rfl, rfl⟩ <;> decide
theorem own_pa11 (zp zq : Int32) (h : (zp = (0 : Int32) ∧ zq = (0 : Int32)) ∨ (zp = (0 : Int32) ∧ zq = (1 : Int32)) ∨ (zp = (1 : Int32) ∧ zq = (0 : Int32))) : ¬ (34 : Int32) < (((0 : Int32) + (((((0 : Int32) + zp) + (8 : Int32)) + (13 : Int32)) + (1 : Int32))) + (9 : Int32)) := by
  rcases h with ⟨rfl, rfl⟩ | ⟨rfl, rfl⟩ | ⟨rfl, rfl⟩ <;> decide
theorem own_pa12 (zp zq : Int32) (A1c Bq : List Int32) (hA1c : (((((0 : Int32) + zp) + (8 : Int32)) + (13 : Int32)) + (1 : Int32)).toNatClampNeg = A1c.length) (hBq : zq.toNatClampNeg = Bq.length) (h : (zp = (0 : Int32) ∧ zq = (0 : Int32)) ∨ (zp = (0 : Int32) ∧ zq = (1 : Int32)) ∨ (zp = (1 : Int32) ∧ zq = (0 : Int32))) : (((0 : Int32) + (((((0 : Int32) + zp) + (8 : Int32)) + (13 : Int32)) + (1 : Int32))) + (9 : Int32)).toNatClampNeg = ((([] ++ A1c) ++ [(44 : Int32), (32 : Int32), (101 : Int32), (114 : Int32), (114 : Int32), (111 : Int32), (114 : Int32), (61 : Int32), (34 : Int32)]) : List Int32).length := by
  rcases h with ⟨rfl, rfl⟩ | ⟨rfl, rfl⟩ | ⟨rfl, rfl⟩ <;> (simp only [List.length_append, List.length_cons, List.length_nil, ← hA1c, ← hBq]; decide)
theorem own_pa13 (zp zq : Int32) (h : (zp = (0 : Int32) ∧ zq = (0 : Int32)) ∨ (zp = (0 : Int32) ∧ zq = (1 : Int32)) ∨ (zp = (1 : Int32) ∧ zq = (0 : Int32))) : ((((0 : Int32) + (((((0 : Int32) + zp) + (8 : Int32)) + (13 : Int32)) + (1 : Int32))) + (9 : Int32)) + zq).toNatClampNeg = (((0 : Int32) + (((((0 : Int32) + zp) + (8 : Int32)) + (13 : Int32)) + (1 : Int32))) + (9 : Int32)).toNatClampNeg + zq.toNatClampNeg := by
  rcases h with ⟨rfl, rfl⟩ | ⟨rfl, rfl⟩ | ⟨rfl, rfl⟩ <;> decide
theorem own_pa14 (zp zq : Int32) (h : (zp = (0 : Int32) ∧ zq = (0 : Int32)) ∨ (zp = (0 : Int32) ∧ zq = (1 : Int32)) ∨ (zp = (1 : Int32) ∧ zq = (0 : Int32))) : ¬ ((((0 : Int32) + (((((0 : Int32) + zp) + (8 : Int32)) + (13 : Int32)) + (1 : Int32))) + (9 : Int32)) + zq) < 0 := by
  rcases h with ⟨rfl, rfl⟩ | ⟨rfl, rfl⟩ | ⟨rfl, rfl⟩ <;> decide
theorem own_pa15 (zp zq : Int32) (h : (zp = (0 : Int32) ∧ zq = (0 : Int32)) ∨ (zp = (0 : Int32) ∧ zq = (1 : Int32)) ∨ (zp = (1 : Int32) ∧ zq = (0 : Int32))) : ¬ (34 : Int32) < ((((0 : Int32) + (((((0 : Int32) + zp) + (8 : Int32)) + (13 : Int32)) + (1 : Int32))) + (9 : Int32)) + zq) := by
  rcases h with ⟨rfl, rfl⟩ | ⟨rfl, rfl⟩ | ⟨rfl, rfl⟩ <;> decide
theorem own_pa16 (zp zq : Int32) (A1c Bq : List Int32) (hA1c : (((((0 : Int32) + zp) + (8 : Int32)) + (13 : Int32)) + (1 : Int32)).toNatClampNeg = A1c.length) (hBq : zq.toNatClampNeg = Bq.length) (h : (zp = (0 : Int32) ∧ zq = (0 : Int32)) ∨ (zp = (0 : Int32) ∧ zq = (1 : Int32)) ∨ (zp = (1 : Int32) ∧ zq = (0 : Int32))) : ((((0 : Int32) + (((((0 : Int32) + zp) + (8 : Int32)) + (13 : Int32)) + (1 : Int32))) + (9 : Int32)) + zq).toNatClampNeg = (((([] ++ A1c) ++ [(44 : Int32), (32 : Int32), (101 : Int32), (114 : Int32), (114 : Int32), (111 : Int32), (114 : Int32), (61 : Int32), (34 : Int32)]) ++ Bq) : List Int32).length := by
  rcases h with ⟨rfl, rfl⟩ | ⟨rfl, rfl⟩ | ⟨rfl, rfl⟩ <;> (simp only [List.length_append, List.length_cons, List.length_nil, ← hA1c, ← hBq]; decide)
theorem own_pa17 (zp zq : Int32) (h : (zp = (0 : Int32) ∧ zq = (0 : Int32)) ∨ (zp = (0 : Int32) ∧ zq = (1 : Int32)) ∨ (zp = (1 : Int32) ∧ zq = (0 : Int32))) : (((((0 : Int32) + (((((0 : Int32) + zp) + (8 : Int32)) + (13 : Int32)) + (1 : Int32))) + (9 : Int32)) + zq) + (1 : Int32)).toNatClampNeg = ((((0 : Int32) + (((((0 : Int32) + zp) + (8 : Int32)) + (13 : Int32)) + (1 : Int32))) + (9 : Int32)) + zq).toNatClampNeg + (1 : Int32).toNatClampNeg := by
  rcases h with ⟨rfl, rfl⟩ | ⟨rfl, rfl⟩ | ⟨rfl, rfl⟩ <;> decide
theorem own_pa18 (zp zq : Int32) (h : (zp = (0 : Int32) ∧ zq = (0 : Int32)) ∨ (zp = (0 : Int32) ∧ zq = (1 : Int32)) ∨ (zp = (1 : Int32) ∧ zq = (0 : Int32))) : ¬ (((((0 : Int32) + (((((0 : Int32) + zp) + (8 : Int32)) + (13 : Int32)) + (1 : Int32))) + (9 : Int32)) + zq) + (1 : Int32)) < 0 := by
  rcases h with ⟨rfl, rfl⟩ | ⟨rfl, rfl⟩ | ⟨rfl, rfl⟩ <;> decide
theorem own_pa19 (zp zq : Int32) (h : (zp = (0 : Int32) ∧ zq = (0 : Int32)) ∨ (zp = (0 : Int32) ∧ zq = (1 : Int32)) ∨ (zp = (1 : Int32) ∧ zq = (0 : Int32))) : ¬ (34 : Int32) < (((((0 : Int32) + (((((0 : Int32) + zp) + (8 : Int32)) + (13 : Int32)) + (1 : Int32))) + (9 : Int32)) + zq) + (1 : Int32)) := by
  rcases h with ⟨rfl, rfl⟩ | ⟨rfl, rfl⟩ | ⟨rfl, rfl⟩ <;> decide
theorem own_pa20 (zp zq : Int32) (A1c Bq : List Int32) (hA1c : (((((0 : Int32) + zp) + (8 : Int32)) + (13 : Int32)) + (1 : Int32)).toNatClampNeg = A1c.length) (hBq : zq.toNatClampNeg = Bq.length) (h : (zp = (0 : Int32) ∧ zq = (0 : Int32)) ∨ (zp = (0 : Int32) ∧ zq = (1 : Int32)) ∨ (zp = (1 : Int32) ∧ zq = (0 : Int32))) : (((((0 : Int32) + (((((0 : Int32) + zp) + (8 : Int32)) + (13 : Int32)) + (1 : Int32))) + (9 : Int32)) + zq) + (1 : Int32)).toNatClampNeg = ((((([] ++ A1c) ++ [(44 : Int32), (32 : Int32), (101 : Int32), (114 : Int32), (114 : Int32), (111 : Int32), (114 : Int32), (61 : Int32), (34 : Int32)]) ++ Bq) ++ [(34 : Int32)]) : List Int32).length := by
  rcases h with ⟨rfl, rfl⟩ | ⟨rfl, rfl⟩ | ⟨rfl, rfl⟩ <;> (simp only [List.length_append, List.length_cons, List.length_nil, ← hA1c, ← hBq]; decide)
theorem own_pa21 (zp zq : Int32) (h : (zp = (0 : Int32) ∧ zq = (0 : Int32)) ∨ (zp = (0 : Int32) ∧ zq = (1 : Int32)) ∨ (zp = (1 : Int32) ∧ zq = (0 : Int32))) : (((((0 : Int32) + (((((0 : Int32) + zp) + (8 : Int32)) + (13 : Int32)) + (1 : Int32))) + (9 : Int32)) + zq) + (1 : Int32)).toNatClampNeg ≤ 70 := by
  rcases h with ⟨rfl, rfl⟩ | ⟨rfl, rfl⟩ | ⟨rfl, rfl⟩ <;> decide
theorem own_pb0 (zp zq : Int32) (h : (zp = (0 : Int32) ∧ zq = (2 : Int32)) ∨ (zp = (1 : Int32) ∧ zq = (1 : Int32)) ∨ (zp = (2 : Int32) ∧ zq = (0 : Int32))) : ¬ (0 : Int32) < 0 := by
  rcases h with ⟨rfl, rfl⟩ | ⟨rfl, rfl⟩ | ⟨rfl, rfl⟩ <;> decide
theorem own_pb1 (zp zq : Int32) (A1c Bq : List Int32) (hA1c : (((((0 : Int32) + zp) + (8 : Int32)) + (13 : Int32)) + (1 : Int32)).toNatClampNeg = A1c.length) (hBq : zq.toNatClampNeg = Bq.length) (h : (zp = (0 : Int32) ∧ zq = (2 : Int32)) ∨ (zp = (1 : Int32) ∧ zq = (1 : Int32)) ∨ (zp = (2 : Int32) ∧ zq = (0 : Int32))) : (0 : Int32).toNatClampNeg = ([] : List Int32).length := by
  rcases h with ⟨rfl, rfl⟩ | ⟨rfl, rfl⟩ | ⟨rfl, rfl⟩ <;> (simp only [List.length_append, List.length_cons, List.length_nil, ← hA1c, ← hBq]; decide)
theorem own_pb2 (zp zq : Int32) (h : (zp = (0 : Int32) ∧ zq = (2 : Int32)) ∨ (zp = (1 : Int32) ∧ zq = (1 : Int32)) ∨ (zp = (2 : Int32) ∧ zq = (0 : Int32))) : ((0 : Int32) + (((((0 : Int32) + zp) + (8 : Int32)) + (13 : Int32)) + (1 : Int32))).toNatClampNeg = (0 : Int32).toNatClampNeg + (((((0 : Int32) + zp) + (8 : Int32)) + (13 : Int32)) + (1 : Int32)).toNatClampNeg := by
  rcases h with ⟨rfl, rfl⟩ | ⟨rfl, rfl⟩ | ⟨rfl, rfl⟩ <;> decide
theorem own_pb3 (zp zq : Int32) (h : (zp = (0 : Int32) ∧ zq = (2 : Int32)) ∨ (zp = (1 : Int32) ∧ zq = (1 : Int32)) ∨ (zp = (2 : Int32) ∧ zq = (0 : Int32))) : ¬ ((0 : Int32) + (((((0 : Int32) + zp) + (8 : Int32)) + (13 : Int32)) + (1 : Int32))) < 0 := by
  rcases h with ⟨rfl, rfl⟩ | ⟨rfl, rfl⟩ | ⟨rfl, rfl⟩ <;> decide
theorem own_pb4 (zp zq : Int32) (h : (zp = (0 : Int32) ∧ zq = (2 : Int32)) ∨ (zp = (1 : Int32) ∧ zq = (1 : Int32)) ∨ (zp = (2 : Int32) ∧ zq = (0 : Int32))) : (16 : Int32) < ((0 : Int32) + (((((0 : Int32) + zp) + (8 : Int32)) + (13 : Int32)) + (1 : Int32))) := by
  rcases h with ⟨rfl, rfl⟩ | ⟨rfl, rfl⟩ | ⟨rfl, rfl⟩ <;> decide
theorem own_pb5 (zp zq : Int32) (h : (zp = (0 : Int32) ∧ zq = (2 : Int32)) ∨ (zp = (1 : Int32) ∧ zq = (1 : Int32)) ∨ (zp = (2 : Int32) ∧ zq = (0 : Int32))) : ((16 : Int32) + (own_max (((0 : Int32) + (((((0 : Int32) + zp) + (8 : Int32)) + (13 : Int32)) + (1 : Int32))) - (16 : Int32)) ((16 : Int32) + (2 : Int32)))) = (34 : Int32) := by
  rcases h with ⟨rfl, rfl⟩ | ⟨rfl, rfl⟩ | ⟨rfl, rfl⟩ <;> decide
theorem own_pb6 (zp zq : Int32) (A1c Bq : List Int32) (hA1c : (((((0 : Int32) + zp) + (8 : Int32)) + (13 : Int32)) + (1 : Int32)).toNatClampNeg = A1c.length) (hBq : zq.toNatClampNeg = Bq.length) (h : (zp = (0 : Int32) ∧ zq = (2 : Int32)) ∨ (zp = (1 : Int32) ∧ zq = (1 : Int32)) ∨ (zp = (2 : Int32) ∧ zq = (0 : Int32))) : ([] : List Int32).length ≤ (16 : Int32).toNatClampNeg := by
  rcases h with ⟨rfl, rfl⟩ | ⟨rfl, rfl⟩ | ⟨rfl, rfl⟩ <;> (simp only [List.length_append, List.length_cons, List.length_nil, ← hA1c, ← hBq]; decide)
theorem own_pb7 (zp zq : Int32) (h : (zp = (0 : Int32) ∧ zq = (2 : Int32)) ∨ (zp = (1 : Int32) ∧ zq = (1 : Int32)) ∨ (zp = (2 : Int32) ∧ zq = (0 : Int32))) : ¬ (34 : Int32) < ((0 : Int32) + (((((0 : Int32) + zp) + (8 : Int32)) + (13 : Int32)) + (1 : Int32))) := by
  rcases h with ⟨rfl, rfl⟩ | ⟨rfl, rfl⟩ | ⟨rfl, rfl⟩ <;> decide
theorem own_pb8 (zp zq : Int32) (A1c Bq : List Int32) (hA1c : (((((0 : Int32) + zp) + (8 : Int32)) + (13 : Int32)) + (1 : Int32)).toNatClampNeg = A1c.length) (hBq : zq.toNatClampNeg = Bq.length) (h : (zp = (0 : Int32) ∧ zq = (2 : Int32)) ∨ (zp = (1 : Int32) ∧ zq = (1 : Int32)) ∨ (zp = (2 : Int32) ∧ zq = (0 : Int32))) : ((0 : Int32) + (((((0 : Int32) + zp) + (8 : Int32)) + (13 : Int32)) + (1 : Int32))).toNatClampNeg = (([] ++ A1c) : List Int32).length := by
  rcases h with ⟨rfl, rfl⟩ | ⟨rfl, rfl⟩ | ⟨rfl, rfl⟩ <;> (simp only [List.length_append, List.length_cons, List.length_nil, ← hA1c, ← hBq]; decide)
theorem own_pb9 (zp zq : Int32) (h : (zp = (0 : Int32) ∧ zq = (2 : Int32)) ∨ (zp = (1 : Int32) ∧ zq = (1 : Int32)) ∨ (zp = (2 : Int32) ∧ zq = (0 : Int32))) : (((0 : Int32) + (((((0 : Int32) + zp) + (8 : Int32)) + (13 : Int32)) + (1 : Int32))) + (9 : Int32)).toNatClampNeg = ((0 : Int32) + (((((0 : Int32) + zp) + (8 : Int32)) + (13 : Int32)) + (1 : Int32))).toNatClampNeg + (9 : Int32).toNatClampNeg := by
  rcases h with ⟨rfl, rfl⟩ | ⟨rfl, rfl⟩ | ⟨rfl, rfl⟩ <;> decide
theorem own_pb10 (zp zq : Int32) (h : (zp = (0 : Int32) ∧ zq = (2 : Int32)) ∨ (zp = (1 : Int32) ∧ zq = (1 : Int32)) ∨ (zp = (2 : Int32) ∧ zq = (0 : Int32))) : ¬ (((0 : Int32) + (((((0 : Int32) + zp) + (8 : Int32)) + (13 : Int32)) + (1 : Int32))) + (9 : Int32)) < 0 := by
  rcases h with ⟨rfl, rfl⟩ | ⟨rfl, rfl⟩ | ⟨rfl, rfl⟩ <;> decide
theorem own_pb11 (zp zq : Int32) (h : (zp = (0 : Int32) ∧ zq = (2 : Int32)) ∨ (zp = (1 : Int32) ∧ zq = (1 : Int32)) ∨ (zp = (2 : Int32) ∧ zq = (0 : Int32))) : ¬ (34 : Int32) < (((0 : Int32) + (((((0 : Int32) + zp) + (8 : Int32)) + (13 : Int32)) + (1 : Int32))) + (9 : Int32)) := by
  rcases h with ⟨rfl, rfl⟩ | ⟨rfl, rfl⟩ | ⟨rfl, rfl⟩ <;> decide
theorem own_pb12 (zp zq : Int32) (A1c Bq : List Int32) (hA1c : (((((0 : Int32) + zp) + (8 : Int32)) + (13 : Int32)) + (1 : Int32)).toNatClampNeg = A1c.length) (hBq : zq.toNatClampNeg = Bq.length) (h : (zp = (0 : Int32) ∧ zq = (2 : Int32)) ∨ (zp = (1 : Int32) ∧ zq = (1 : Int32)) ∨ (zp = (2 : Int32) ∧ zq = (0 : Int32))) : (((0 : Int32) + (((((0 : Int32) + zp) + (8 : Int32)) + (13 : Int32)) + (1 : Int32))) + (9 : Int32)).toNatClampNeg = ((([] ++ A1c) ++ [(44 : Int32), (32 : Int32), (101 : Int32), (114 : Int32), (114 : Int32), (111 : Int32), (114 : Int32), (61 : Int32), (34 : Int32)]) : List Int32).length := by
  rcases h with ⟨rfl, rfl⟩ | ⟨rfl, rfl⟩ | ⟨rfl, rfl⟩ <;> (simp only [List.length_append, List.length_cons, List.length_nil, ← hA1c, ← hBq]; decide)
theorem own_pb13 (zp zq : Int32) (h : (zp = (0 : Int32) ∧ zq = (2 : Int32)) ∨ (zp = (1 : Int32) ∧ zq = (1 : Int32)) ∨ (zp = (2 : Int32) ∧ zq = (0 : Int32))) : ((((0 : Int32) + (((((0 : Int32) + zp) + (8 : Int32)) + (13 : Int32)) + (1 : Int32))) + (9 : Int32)) + zq).toNatClampNeg = (((0 : Int32) + (((((0 : Int32) + zp) + (8 : Int32)) + (13 : Int32)) + (1 : Int32))) + (9 : Int32)).toNatClampNeg + zq.toNatClampNeg := by
  rcases h with ⟨rfl, rfl⟩ | ⟨rfl, rfl⟩ | ⟨rfl, rfl⟩ <;> decide
theorem own_pb14 (zp zq : Int32) (h : (zp = (0 : Int32) ∧ zq = (2 : Int32)) ∨ (zp = (1 : Int32) ∧ zq = (1 : Int32)) ∨ (zp = (2 : Int32) ∧ zq = (0 : Int32))) : ¬ ((((0 : Int32) + (((((0 : Int32) + zp) + (8 : Int32)) + (13 : Int32)) + (1 : Int32))) + (9 : Int32)) + zq) < 0 := by
  rcases h with ⟨rfl, rfl⟩ | ⟨rfl, rfl⟩ | ⟨rfl, rfl⟩ <;> decide
theorem own_pb15 (zp zq : Int32) (h : (zp = (0 : Int32) ∧ zq = (2 : Int32)) ∨ (zp = (1 : Int32) ∧ zq = (1 : Int32)) ∨ (zp = (2 : Int32) ∧ zq = (0 : Int32))) : ¬ (34 : Int32) < ((((0 : Int32) + (((((0 : Int32) + zp) + (8 : Int32)) + (13 : Int32)) + (1 : Int32))) + (9 : Int32)) + zq) := by
  rcases h with ⟨rfl, rfl⟩ | ⟨rfl, rfl⟩ | ⟨rfl, rfl⟩ <;> decide
theorem own_pb16 (zp zq : Int32) (A1c Bq : List Int32) (hA1c : (((((0 : Int32) + zp) + (8 : Int32)) + (13 : Int32)) + (1 : Int32)).toNatClampNeg = A1c.length) (hBq : zq.toNatClampNeg = Bq.length) (h : (zp = (0 : Int32) ∧ zq = (2 : Int32)) ∨ (zp = (1 : Int32) ∧ zq = (1 : Int32)) ∨ (zp = (2 : Int32) ∧ zq = (0 : Int32))) : ((((0 : Int32) + (((((0 : Int32) + zp) + (8 : Int32)) + (13 : Int32)) + (1 : Int32))) + (9 : Int32)) + zq).toNatClampNeg = (((([] ++ A1c) ++ [(44 : Int32), (32 : Int32), (101 : Int32), (114 : Int32), (114 : Int32), (111 : Int32), (114 : Int32), (61 : Int32), (34 : Int32)]) ++ Bq) : List Int32).length := by
  rcases h with ⟨rfl, rfl⟩ | ⟨rfl, rfl⟩ | ⟨rfl, rfl⟩ <;> (simp only [List.length_append, List.length_cons, List.length_nil, ← hA1c, ← hBq]; decide)
theorem own_pb17 (zp zq : Int32) (h : (zp = (0 : Int32) ∧ zq = (2 : Int32)) ∨ (zp = (1 : Int32) ∧ zq = (1 : Int32)) ∨ (zp = (2 : Int32) ∧ zq = (0 : Int32))) : (((((0 : Int32) + (((((0 : Int32) + zp) + (8 : Int32)) + (13 : Int32)) + (1 : Int32))) + (9 : Int32)) + zq) + (1 : Int32)).toNatClampNeg = ((((0 : Int32) + (((((0 : Int32) + zp) + (8 : Int32)) + (13 : Int32)) + (1 : Int32))) + (9 : Int32)) + zq).toNatClampNeg + (1 : Int32).toNatClampNeg := by
  rcases h with ⟨rfl, rfl⟩ | ⟨rfl, rfl⟩ | ⟨rfl, rfl⟩ <;> decide
theorem own_pb18 (zp zq : Int32) (h : (zp = (0 : Int32) ∧ zq = (2 : Int32)) ∨ (zp = (1 : Int32) ∧ zq = (1 : Int32)) ∨ (zp = (2 : Int32) ∧ zq = (0 : Int32))) : ¬ (((((0 : Int32) + (((((0 : Int32) + zp) + (8 : Int32)) + (13 : Int32)) + (1 : Int32))) + (9 : Int32)) + zq) + (1 : Int32)) < 0 := by
  rcases h with ⟨rfl, rfl⟩ | ⟨rfl, rfl⟩ | ⟨rfl, rfl⟩ <;> decide
theorem own_pb19 (zp zq : Int32) (h : (zp = (0 : Int32) ∧ zq = (2 : Int32)) ∨ (zp = (1 : Int32) ∧ zq = (1 : Int32)) ∨ (zp = (2 : Int32) ∧ zq = (0 : Int32))) : ¬ (34 : Int32) < (((((0 : Int32) + (((((0 : Int32) + zp) + (8 : Int32)) + (13 : Int32)) + (1 : Int32))) + (9 : Int32)) + zq) + (1 : Int32)) := by
  rcases h with ⟨rfl, rfl⟩ | ⟨rfl, rfl⟩ | ⟨rfl, rfl⟩ <;> decide
theorem own_pb20 (zp zq : Int32) (A1c Bq : List Int32) (hA1c : (((((0 : Int32) + zp) + (8 : Int32)) + (13 : Int32)) + (1 : Int32)).toNatClampNeg = A1c.length) (hBq : zq.toNatClampNeg = Bq.length) (h : (zp = (0 : Int32) ∧ zq = (2 : Int32)) ∨ (zp = (1 : Int32) ∧ zq = (1 : Int32)) ∨ (zp = (2 : Int32) ∧ zq = (0 : Int32))) : (((((0 : Int32) + (((((0 : Int32) + zp) + (8 : Int32)) + (13 : Int32)) + (1 : Int32))) + (9 : Int32)) + zq) + (1 : Int32)).toNatClampNeg = ((((([] ++ A1c) ++ [(44 : Int32), (32 : Int32), (101 : Int32), (114 : Int32), (114 : Int32), (111 : Int32), (114 : Int32), (61 : Int32), (34 : Int32)]) ++ Bq) ++ [(34 : Int32)]) : List Int32).length := by
  rcases h with ⟨rfl, rfl⟩ | ⟨rfl, rfl⟩ | ⟨rfl, rfl⟩ <;> (simp only [List.length_append, List.length_cons, List.length_nil, ← hA1c, ← hBq]; decide)
theorem own_pb21 (zp zq : Int32) (h : (zp = (0 : Int32) ∧ zq = (2 : Int32)) ∨ (zp = (1 : Int32) ∧ zq = (1 : Int32)) ∨ (zp = (2 : Int32) ∧ zq = (0 : Int32))) : (((((0 : Int32) + (((((0 : Int32) + zp) + (8 : Int32)) + (13 : Int32)) + (1 : Int32))) + (9 : Int32)) + zq) + (1 : Int32)).toNatClampNeg ≤ 70 := by
  rcases h with ⟨rfl, rfl⟩ | ⟨rfl, rfl⟩ | ⟨rfl, rfl⟩ <;> decide
theorem own_pc0 (zp zq : Int32) (h : (zp = (1 : Int32) ∧ zq = (2 : Int32)) ∨ (zp = (2 : Int32) ∧ zq = (1 : Int32))) : ¬ (0 : Int32) < 0 := by
  rcases h with ⟨rfl, rfl⟩ | ⟨rfl, rfl⟩ <;> decide
theorem own_pc1 (zp zq : Int32) (A1c Bq : List Int32) (hA1c : (((((0 : Int32) + zp) + (8 : Int32)) + (13 : Int32)) + (1 : Int32)).toNatClampNeg = A1c.length) (hBq : zq.toNatClampNeg = Bq.length) (h : (zp = (1 : Int32) ∧ zq = (2 : Int32)) ∨ (zp = (2 : Int32) ∧ zq = (1 : Int32))) : (0 : Int32).toNatClampNeg = ([] : List Int32).length := by
  rcases h with ⟨rfl, rfl⟩ | ⟨rfl, rfl⟩ <;> (simp only [List.length_append, List.length_cons, List.length_nil, ← hA1c, ← hBq]; decide)
theorem own_pc2 (zp zq : Int32) (h : (zp = (1 : Int32) ∧ zq = (2 : Int32)) ∨ (zp = (2 : Int32) ∧ zq = (1 : Int32))) : ((0 : Int32) + (((((0 : Int32) + zp) + (8 : Int32)) + (13 : Int32)) + (1 : Int32))).toNatClampNeg = (0 : Int32).toNatClampNeg + (((((0 : Int32) + zp) + (8 : Int32)) + (13 : Int32)) + (1 : Int32)).toNatClampNeg := by
  rcases h with ⟨rfl, rfl⟩ | ⟨rfl, rfl⟩ <;> decide
theorem own_pc3 (zp zq : Int32) (h : (zp = (1 : Int32) ∧ zq = (2 : Int32)) ∨ (zp = (2 : Int32) ∧ zq = (1 : Int32))) : ¬ ((0 : Int32) + (((((0 : Int32) + zp) + (8 : Int32)) + (13 : Int32)) + (1 : Int32))) < 0 := by
  rcases h with ⟨rfl, rfl⟩ | ⟨rfl, rfl⟩ <;> decide
theorem own_pc4 (zp zq : Int32) (h : (zp = (1 : Int32) ∧ zq = (2 : Int32)) ∨ (zp = (2 : Int32) ∧ zq = (1 : Int32))) : (16 : Int32) < ((0 : Int32) + (((((0 : Int32) + zp) + (8 : Int32)) + (13 : Int32)) + (1 : Int32))) := by
  rcases h with ⟨rfl, rfl⟩ | ⟨rfl, rfl⟩ <;> decide
theorem own_pc5 (zp zq : Int32) (h : (zp = (1 : Int32) ∧ zq = (2 : Int32)) ∨ (zp = (2 : Int32) ∧ zq = (1 : Int32))) : ((16 : Int32) + (own_max (((0 : Int32) + (((((0 : Int32) + zp) + (8 : Int32)) + (13 : Int32)) + (1 : Int32))) - (16 : Int32)) ((16 : Int32) + (2 : Int32)))) = (34 : Int32) := by
  rcases h with ⟨rfl, rfl⟩ | ⟨rfl, rfl⟩ <;> decide
theorem own_pc6 (zp zq : Int32) (A1c Bq : List Int32) (hA1c : (((((0 : Int32) + zp) + (8 : Int32)) + (13 : Int32)) + (1 : Int32)).toNatClampNeg = A1c.length) (hBq : zq.toNatClampNeg = Bq.length) (h : (zp = (1 : Int32) ∧ zq = (2 : Int32)) ∨ (zp = (2 : Int32) ∧ zq = (1 : Int32))) : ([] : List Int32).length ≤ (16 : Int32).toNatClampNeg := by
  rcases h with ⟨rfl, rfl⟩ | ⟨rfl, rfl⟩ <;> (simp only [List.length_append, List.length_cons, List.length_nil, ← hA1c, ← hBq]; decide)
theorem own_pc7 (zp zq : Int32) (h : (zp = (1 : Int32) ∧ zq = (2 : Int32)) ∨ (zp = (2 : Int32) ∧ zq = (1 : Int32))) : ¬ (34 : Int32) < ((0 : Int32) + (((((0 : Int32) + zp) + (8 : Int32)) + (13 : Int32)) + (1 : Int32))) := by
  rcases h with ⟨rfl, rfl⟩ | ⟨rfl, rfl⟩ <;> decide
theorem own_pc8 (zp zq : Int32) (A1c Bq : List Int32) (hA1c : (((((0 : Int32) + zp) + (8 : Int32)) + (13 : Int32)) + (1 : Int32)).toNatClampNeg = A1c.length) (hBq : zq.toNatClampNeg = Bq.length) (h : (zp = (1 : Int32) ∧ zq = (2 : Int32)) ∨ (zp = (2 : Int32) ∧ zq = (1 : Int32))) : ((0 : Int32) + (((((0 : Int32) + zp) + (8 : Int32)) + (13 : Int32)) + (1 : Int32))).toNatClampNeg = (([] ++ A1c) : List Int32).length := by
  rcases h with ⟨rfl, rfl⟩ | ⟨rfl, rfl⟩ <;> (simp only [List.length_append, List.length_cons, List.length_nil, ← hA1c, ← hBq]; decide)
theorem own_pc9 (zp zq : Int32) (h : (zp = (1 : Int32) ∧ zq = (2 : Int32)) ∨ (zp = (2 : Int32) ∧ zq = (1 : Int32))) : (((0 : Int32) + (((((0 : Int32) + zp) + (8 : Int32)) + (13 : Int32)) + (1 : Int32))) + (9 : Int32)).toNatClampNeg = ((0 : Int32) + (((((0 : Int32) + zp) + (8 : Int32)) + (13 : Int32)) + (1 : Int32))).toNatClampNeg + (9 : Int32).toNatClampNeg := by
  rcases h with ⟨rfl, rfl⟩ | ⟨rfl, rfl⟩ <;> decide
theorem own_pc10 (zp zq : Int32) (h : (zp = (1 : Int32) ∧ zq = (2 : Int32)) ∨ (zp = (2 : Int32) ∧ zq = (1 : Int32))) : ¬ (((0 : Int32) + (((((0 : Int32) + zp) + (8 : Int32)) + (13 : Int32)) + (1 : Int32))) + (9 : Int32)) < 0 := by
  rcases h with ⟨rfl, rfl⟩ | ⟨rfl, rfl⟩ <;> decide
theorem own_pc11 (zp zq : Int32) (h : (zp = (1 : Int32) ∧ zq = (2 : Int32)) ∨ (zp = (2 : Int32) ∧ zq = (1 : Int32))) : ¬ (34 : Int32) < (((0 : Int32) + (((((0 : Int32) + zp) + (8 : Int32)) + (13 : Int32)) + (1 : Int32))) + (9 : Int32)) := by
  rcases h with ⟨rfl, rfl⟩ | ⟨rfl, rfl⟩ <;> decide
theorem own_pc12 (zp zq : Int32) (A1c Bq : List Int32) (hA1c : (((((0 : Int32) + zp) + (8 : Int32)) + (13 : Int32)) + (1 : Int32)).toNatClampNeg = A1c.length) (hBq : zq.toNatClampNeg = Bq.length) (h : (zp = (1 : Int32) ∧ zq = (2 : Int32)) ∨ (zp = (2 : Int32) ∧ zq = (1 : Int32))) : (((0 : Int32) + (((((0 : Int32) + zp) + (8 : Int32)) + (13 : Int32)) + (1 : Int32))) + (9 : Int32)).toNatClampNeg = ((([] ++ A1c) ++ [(44 : Int32), (32 : Int32), (101 : Int32), (114 : Int32), (114 : Int32), (111 : Int32), (114 : Int32), (61 : Int32), (34 : Int32)]) : List Int32).length := by
  rcases h with ⟨rfl, rfl⟩ | ⟨rfl, rfl⟩ <;> (simp only [List.length_append, List.length_cons, List.length_nil, ← hA1c, ← hBq]; decide)
theorem own_pc13 (zp zq : Int32) (h : (zp = (1 : Int32) ∧ zq = (2 : Int32)) ∨ (zp = (2 : Int32) ∧ zq = (1 : Int32))) : ((((0 : Int32) + (((((0 : Int32) + zp) + (8 : Int32)) + (13 : Int32)) + (1 : Int32))) + (9 : Int32)) + zq).toNatClampNeg = (((0 : Int32) + (((((0 : Int32) + zp) + (8 : Int32)) + (13 : Int32)) + (1 : Int32))) + (9 : Int32)).toNatClampNeg + zq.toNatClampNeg := by
  rcases h with ⟨rfl, rfl⟩ | ⟨rfl, rfl⟩ <;> decide
theorem own_pc14 (zp zq : Int32) (h : (zp = (1 : Int32) ∧ zq = (2 : Int32)) ∨ (zp = (2 : Int32) ∧ zq = (1 : Int32))) : ¬ ((((0 : Int32) + (((((0 : Int32) + zp) + (8 : Int32)) + (13 : Int32)) + (1 : Int32))) + (9 : Int32)) + zq) < 0 := by
  rcases h with ⟨rfl, rfl⟩ | ⟨rfl, rfl⟩ <;> decide
theorem own_pc15 (zp zq : Int32) (h : (zp = (1 : Int32) ∧ zq = (2 : Int32)) ∨ (zp = (2 : Int32) ∧ zq = (1 : Int32))) : ¬ (34 : Int32) < ((((0 : Int32) + (((((0 : Int32) + zp) + (8 : Int32)) + (13 : Int32)) + (1 : Int32))) + (9 : Int32)) + zq) := by
  rcases h with ⟨rfl, rfl⟩ | ⟨rfl, rfl⟩ <;> decide
theorem own_pc16 (zp zq : Int32) (A1c Bq : List Int32) (hA1c : (((((0 : Int32) + zp) + (8 : Int32)) + (13 : Int32)) + (1 : Int32)).toNatClampNeg = A1c.length) (hBq : zq.toNatClampNeg = Bq.length) (h : (zp = (1 : Int32) ∧ zq = (2 : Int32)) ∨ (zp = (2 : Int32) ∧ zq = (1 : Int32))) : ((((0 : Int32) + (((((0 : Int32) + zp) + (8 : Int32)) + (13 : Int32)) + (1 : Int32))) + (9 : Int32)) + zq).toNatClampNeg = (((([] ++ A1c) ++ [(44 : Int32), (32 : Int32), (101 : Int32), (114 : Int32), (114 : Int32), (111 : Int32), (114 : Int32), (61 : Int32), (34 : Int32)]) ++ Bq) : List Int32).length := by
  rcases h with ⟨rfl, rfl⟩ | ⟨rfl, rfl⟩ <;> (simp only [List.length_append, List.length_cons, List.length_nil, ← hA1c, ← hBq]; decide)
theorem own_pc17 (zp zq : Int32) (h : (zp = (1 : Int32) ∧ zq = (2 : Int32)) ∨ (zp = (2 : Int32) ∧ zq = (1 : Int32))) : (((((0 : Int32) + (((((0 : Int32) + zp) + (8 : Int32)) + (13 : Int32)) + (1 : Int32))) + (9 : Int32)) + zq) + (1 : Int32)).toNatClampNeg = ((((0 : Int32) + (((((0 : Int32) + zp) + (8 : Int32)) + (13 : Int32)) + (1 : Int32))) + (9 : Int32)) + zq).toNatClampNeg + (1 : Int32).toNatClampNeg := by
  rcases h with ⟨rfl, rfl⟩ | ⟨rfl, rfl⟩ <;> decide
theorem own_pc18 (zp zq : Int32) (h : (zp = (1 : Int32) ∧ zq = (2 : Int32)) ∨ (zp = (2 : Int32) ∧ zq = (1 : Int32))) : ¬ (((((0 : Int32) + (((((0 : Int32) + zp) + (8 : Int32)) + (13 : Int32)) + (1 : Int32))) + (9 : Int32)) + zq) + (1 : Int32)) < 0 := by
  rcases h with ⟨rfl, rfl⟩ | ⟨rfl, rfl⟩ <;> decide
theorem own_pc19 (zp zq : Int32) (h : (zp = (1 : Int32) ∧ zq = (2 : Int32)) ∨ (zp = (2 : Int32) ∧ zq = (1 : Int32))) : (34 : Int32) < (((((0 : Int32) + (((((0 : Int32) + zp) + (8 : Int32)) + (13 : Int32)) + (1 : Int32))) + (9 : Int32)) + zq) + (1 : Int32)) := by
  rcases h with ⟨rfl, rfl⟩ | ⟨rfl, rfl⟩ <;> decide
theorem own_pc20 (zp zq : Int32) (h : (zp = (1 : Int32) ∧ zq = (2 : Int32)) ∨ (zp = (2 : Int32) ∧ zq = (1 : Int32))) : ((34 : Int32) + (own_max ((((((0 : Int32) + (((((0 : Int32) + zp) + (8 : Int32)) + (13 : Int32)) + (1 : Int32))) + (9 : Int32)) + zq) + (1 : Int32)) - (34 : Int32)) ((34 : Int32) + (2 : Int32)))) = (70 : Int32) := by
  rcases h with ⟨rfl, rfl⟩ | ⟨rfl, rfl⟩ <;> decide
theorem own_pc21 (zp zq : Int32) (A1c Bq : List Int32) (hA1c : (((((0 : Int32) + zp) + (8 : Int32)) + (13 : Int32)) + (1 : Int32)).toNatClampNeg = A1c.length) (hBq : zq.toNatClampNeg = Bq.length) (h : (zp = (1 : Int32) ∧ zq = (2 : Int32)) ∨ (zp = (2 : Int32) ∧ zq = (1 : Int32))) : (((([] ++ A1c) ++ [(44 : Int32), (32 : Int32), (101 : Int32), (114 : Int32), (114 : Int32), (111 : Int32), (114 : Int32), (61 : Int32), (34 : Int32)]) ++ Bq) : List Int32).length ≤ (34 : Int32).toNatClampNeg := by
  rcases h with ⟨rfl, rfl⟩ | ⟨rfl, rfl⟩ <;> (simp only [List.length_append, List.length_cons, List.length_nil, ← hA1c, ← hBq]; decide)
theorem own_pc22 (zp zq : Int32) (h : (zp = (1 : Int32) ∧ zq = (2 : Int32)) ∨ (zp = (2 : Int32) ∧ zq = (1 : Int32))) : ¬ (70 : Int32) < (((((0 : Int32) + (((((0 : Int32) + zp) + (8 : Int32)) + (13 : Int32)) + (1 : Int32))) + (9 : Int32)) + zq) + (1 : Int32)) := by
  rcases h with ⟨rfl, rfl⟩ | ⟨rfl, rfl⟩ <;> decide
theorem own_pc23 (zp zq : Int32) (A1c Bq : List Int32) (hA1c : (((((0 : Int32) + zp) + (8 : Int32)) + (13 : Int32)) + (1 : Int32)).toNatClampNeg = A1c.length) (hBq : zq.toNatClampNeg = Bq.length) (h : (zp = (1 : Int32) ∧ zq = (2 : Int32)) ∨ (zp = (2 : Int32) ∧ zq = (1 : Int32))) : (((((0 : Int32) + (((((0 : Int32) + zp) + (8 : Int32)) + (13 : Int32)) + (1 : Int32))) + (9 : Int32)) + zq) + (1 : Int32)).toNatClampNeg = ((((([] ++ A1c) ++ [(44 : Int32), (32 : Int32), (101 : Int32), (114 : Int32), (114 : Int32), (111 : Int32), (114 : Int32), (61 : Int32), (34 : Int32)]) ++ Bq) ++ [(34 : Int32)]) : List Int32).length := by
  rcases h with ⟨rfl, rfl⟩ | ⟨rfl, rfl⟩ <;> (simp only [List.length_append, List.length_cons, List.length_nil, ← hA1c, ← hBq]; decide)
theorem own_pc24 (zp zq : Int32) (h : (zp = (1 : Int32) ∧ zq = (2 : Int32)) ∨ (zp = (2 : Int32) ∧ zq = (1 : Int32))) : (((((0 : Int32) + (((((0 : Int32) + zp) + (8 : Int32)) + (13 : Int32)) + (1 : Int32))) + (9 : Int32)) + zq) + (1 : Int32)).toNatClampNeg ≤ 70 := by
  rcases h with ⟨rfl, rfl⟩ | ⟨rfl, rfl⟩ <;> decide
theorem own_pd0 (zp zq : Int32) (h : (zp = (2 : Int32) ∧ zq = (2 : Int32))) : ¬ (0 : Int32) < 0 := by
  rcases h with ⟨rfl, rfl⟩ <;> decide
theorem own_pd1 (zp zq : Int32) (A1c Bq : List Int32) (hA1c : (((((0 : Int32) + zp) + (8 : Int32)) + (13 : Int32)) + (1 : Int32)).toNatClampNeg = A1c.length) (hBq : zq.toNatClampNeg = Bq.length) (h : (zp = (2 : Int32) ∧ zq = (2 : Int32))) : (0 : Int32).toNatClampNeg = ([] : List Int32).length := by
  rcases h with ⟨rfl, rfl⟩ <;> (simp only [List.length_append, List.length_cons, List.length_nil, ← hA1c, ← hBq]; decide)
theorem own_pd2 (zp zq : Int32) (h : (zp = (2 : Int32) ∧ zq = (2 : Int32))) : ((0 : Int32) + (((((0 : Int32) + zp) + (8 : Int32)) + (13 : Int32)) + (1 : Int32))).toNatClampNeg = (0 : Int32).toNatClampNeg + (((((0 : Int32) + zp) + (8 : Int32)) + (13 : Int32)) + (1 : Int32)).toNatClampNeg := by
  rcases h with ⟨rfl, rfl⟩ <;> decide
theorem own_pd3 (zp zq : Int32) (h : (zp = (2 : Int32) ∧ zq = (2 : Int32))) : ¬ ((0 : Int32) + (((((0 : Int32) + zp) + (8 : Int32)) + (13 : Int32)) + (1 : Int32))) < 0 := by
  rcases h with ⟨rfl, rfl⟩ <;> decide
theorem own_pd4 (zp zq : Int32) (h : (zp = (2 : Int32) ∧ zq = (2 : Int32))) : (16 : Int32) < ((0 : Int32) + (((((0 : Int32) + zp) + (8 : Int32)) + (13 : Int32)) + (1 : Int32))) := by
  rcases h with ⟨rfl, rfl⟩ <;> decide
theorem own_pd5 (zp zq : Int32) (h : (zp = (2 : Int32) ∧ zq = (2 : Int32))) : ((16 : Int32) + (own_max (((0 : Int32) + (((((0 : Int32) + zp) + (8 : Int32)) + (13 : Int32)) + (1 : Int32))) - (16 : Int32)) ((16 : Int32) + (2 : Int32)))) = (34 : Int32) := by
  rcases h with ⟨rfl, rfl⟩ <;> decide
theorem own_pd6 (zp zq : Int32) (A1c Bq : List Int32) (hA1c : (((((0 : Int32) + zp) + (8 : Int32)) + (13 : Int32)) + (1 : Int32)).toNatClampNeg = A1c.length) (hBq : zq.toNatClampNeg = Bq.length) (h : (zp = (2 : Int32) ∧ zq = (2 : Int32))) : ([] : List Int32).length ≤ (16 : Int32).toNatClampNeg := by
  rcases h with ⟨rfl, rfl⟩ <;> (simp only [List.length_append, List.length_cons, List.length_nil, ← hA1c, ← hBq]; decide)
theorem own_pd7 (zp zq : Int32) (h : (zp = (2 : Int32) ∧ zq = (2 : Int32))) : ¬ (34 : Int32) < ((0 : Int32) + (((((0 : Int32) + zp) + (8 : Int32)) + (13 : Int32)) + (1 : Int32))) := by
  rcases h with ⟨rfl, rfl⟩ <;> decide
theorem own_pd8 (zp zq : Int32) (A1c Bq : List Int32) (hA1c : (((((0 : Int32) + zp) + (8 : Int32)) + (13 : Int32)) + (1 : Int32)).toNatClampNeg = A1c.length) (hBq : zq.toNatClampNeg = Bq.length) (h : (zp = (2 : Int32) ∧ zq = (2 : Int32))) : ((0 : Int32) + (((((0 : Int32) + zp) + (8 : Int32)) + (13 : Int32)) + (1 : Int32))).toNatClampNeg = (([] ++ A1c) : List Int32).length := by
  rcases h with ⟨rfl, rfl⟩ <;> (simp only [List.length_append, List.length_cons, List.length_nil, ← hA1c, ← hBq]; decide)
theorem own_pd9 (zp zq : Int32) (h : (zp = (2 : Int32) ∧ zq = (2 : Int32))) : (((0 : Int32) + (((((0 : Int32) + zp) + (8 : Int32)) + (13 : Int32)) + (1 : Int32))) + (9 : Int32)).toNatClampNeg = ((0 : Int32) + (((((0 : Int32) + zp) + (8 : Int32)) + (13 : Int32)) + (1 : Int32))).toNatClampNeg + (9 : Int32).toNatClampNeg := by
  rcases h with ⟨rfl, rfl⟩ <;> decide
theorem own_pd10 (zp zq : Int32) (h : (zp = (2 : Int32) ∧ zq = (2 : Int32))) : ¬ (((0 : Int32) + (((((0 : Int32) + zp) + (8 : Int32)) + (13 : Int32)) + (1 : Int32))) + (9 : Int32)) < 0 := by
  rcases h with ⟨rfl, rfl⟩ <;> decide
theorem own_pd11 (zp zq : Int32) (h : (zp = (2 : Int32) ∧ zq = (2 : Int32))) : ¬ (34 : Int32) < (((0 : Int32) + (((((0 : Int32) + zp) + (8 : Int32)) + (13 : Int32)) + (1 : Int32))) + (9 : Int32)) := by
  rcases h with ⟨rfl, rfl⟩ <;> decide
theorem own_pd12 (zp zq : Int32) (A1c Bq : List Int32) (hA1c : (((((0 : Int32) + zp) + (8 : Int32)) + (13 : Int32)) + (1 : Int32)).toNatClampNeg = A1c.length) (hBq : zq.toNatClampNeg = Bq.length) (h : (zp = (2 : Int32) ∧ zq = (2 : Int32))) : (((0 : Int32) + (((((0 : Int32) + zp) + (8 : Int32)) + (13 : Int32)) + (1 : Int32))) + (9 : Int32)).toNatClampNeg = ((([] ++ A1c) ++ [(44 : Int32), (32 : Int32), (101 : Int32), (114 : Int32), (114 : Int32), (111 : Int32), (114 : Int32), (61 : Int32), (34 : Int32)]) : List Int32).length := by
  rcases h with ⟨rfl, rfl⟩ <;> (simp only [List.length_append, List.length_cons, List.length_nil, ← hA1c, ← hBq]; decide)
theorem own_pd13 (zp zq : Int32) (h : (zp = (2 : Int32) ∧ zq = (2 : Int32))) : ((((0 : Int32) + (((((0 : Int32) + zp) + (8 : Int32)) + (13 : Int32)) + (1 : Int32))) + (9 : Int32)) + zq).toNatClampNeg = (((0 : Int32) + (((((0 : Int32) + zp) + (8 : Int32)) + (13 : Int32)) + (1 : Int32))) + (9 : Int32)).toNatClampNeg + zq.toNatClampNeg := by
  rcases h with ⟨rfl, rfl⟩ <;> decide
theorem own_pd14 (zp zq : Int32) (h : (zp = (2 : Int32) ∧ zq = (2 : Int32))) : ¬ ((((0 : Int32) + (((((0 : Int32) + zp) + (8 : Int32)) + (13 : Int32)) + (1 : Int32))) + (9 : Int32)) + zq) < 0 := by
  rcases h with ⟨rfl, rfl⟩ <;> decide
theorem own_pd15 (zp zq : Int32) (h : (zp = (2 : Int32) ∧ zq = (2 : Int32))) : (34 : Int32) < ((((0 : Int32) + (((((0 : Int32) + zp) + (8 : Int32)) + (13 : Int32)) + (1 : Int32))) + (9 : Int32)) + zq) := by
  rcases h with ⟨rfl, rfl⟩ <;> decide
theorem own_pd16 (zp zq : Int32) (h : (zp = (2 : Int32) ∧ zq = (2 : Int32))) : ((34 : Int32) + (own_max (((((0 : Int32) + (((((0 : Int32) + zp) + (8 : Int32)) + (13 : Int32)) + (1 : Int32))) + (9 : Int32)) + zq) - (34 : Int32)) ((34 : Int32) + (2 : Int32)))) = (70 : Int32) := by
  rcases h with ⟨rfl, rfl⟩ <;> decide
theorem own_pd17 (zp zq : Int32) (A1c Bq : List Int32) (hA1c : (((((0 : Int32) + zp) + (8 : Int32)) + (13 : Int32)) + (1 : Int32)).toNatClampNeg = A1c.length) (hBq : zq.toNatClampNeg = Bq.length) (h : (zp = (2 : Int32) ∧ zq = (2 : Int32))) : ((([] ++ A1c) ++ [(44 : Int32), (32 : Int32), (101 : Int32), (114 : Int32), (114 : Int32), (111 : Int32), (114 : Int32), (61 : Int32), (34 : Int32)]) : List Int32).length ≤ (34 : Int32).toNatClampNeg := by
  rcases h with ⟨rfl, rfl⟩ <;> (simp only [List.length_append, List.length_cons, List.length_nil, ← hA1c, ← hBq]; decide)
theorem own_pd18 (zp zq : Int32) (h : (zp = (2 : Int32) ∧ zq = (2 : Int32))) : ¬ (70 : Int32) < ((((0 : Int32) + (((((0 : Int32) + zp) + (8 : Int32)) + (13 : Int32)) + (1 : Int32))) + (9 : Int32)) + zq) := by
  rcases h with ⟨rfl, rfl⟩ <;> decide
theorem own_pd19 (zp zq : Int32) (A1c Bq : List Int32) (hA1c : (((((0 : Int32) + zp) + (8 : Int32)) + (13 : Int32)) + (1 : Int32)).toNatClampNeg = A1c.length) (hBq : zq.toNatClampNeg = Bq.length) (h : (zp = (2 : Int32) ∧ zq = (2 : Int32))) : ((((0 : Int32) + (((((0 : Int32) + zp) + (8 : Int32)) + (13 : Int32)) + (1 : Int32))) + (9 : Int32)) + zq).toNatClampNeg = (((([] ++ A1c) ++ [(44 : Int32), (32 : Int32), (101 : Int32), (114 : Int32), (114 : Int32), (111 : Int32), (114 : Int32), (61 : Int32), (34 : Int32)]) ++ Bq) : List Int32).length := by
  rcases h with ⟨rfl, rfl⟩ <;> (simp only [List.length_append, List.length_cons, List.length_nil, ← hA1c, ← hBq]; decide)
theorem own_pd20 (zp zq : Int32) (h : (zp = (2 : Int32) ∧ zq = (2 : Int32))) : (((((0 : Int32) + (((((0 : Int32) + zp) + (8 : Int32)) + (13 : Int32)) + (1 : Int32))) + (9 : Int32)) + zq) + (1 : Int32)).toNatClampNeg = ((((0 : Int32) + (((((0 : Int32) + zp) + (8 : Int32)) + (13 : Int32)) + (1 : Int32))) + (9 : Int32)) + zq).toNatClampNeg + (1 : Int32).toNatClampNeg := by
  rcases h with ⟨rfl, rfl⟩ <;> decide
theorem own_pd21 (zp zq : Int32) (h : (zp = (2 : Int32) ∧ zq = (2 : Int32))) : ¬ (((((0 : Int32) + (((((0 : Int32) + zp) + (8 : Int32)) + (13 : Int32)) + (1 : Int32))) + (9 : Int32)) + zq) + (1 : Int32)) < 0 := by
  rcases h with ⟨rfl, rfl⟩ <;> decide
theorem own_pd22 (zp zq : Int32) (h : (zp = (2 : Int32) ∧ zq = (2 : Int32))) : ¬ (70 : Int32) < (((((0 : Int32) + (((((0 : Int32) + zp) + (8 : Int32)) + (13 : Int32)) + (1 : Int32))) + (9 : Int32)) + zq) + (1 : Int32)) := by
  rcases h with ⟨rfl, rfl⟩ <;> decide
theorem own_pd23 (zp zq : Int32) (A1c Bq : List Int32) (hA1c : (((((0 : Int32) + zp) + (8 : Int32)) + (13 : Int32)) + (1 : Int32)).toNatClampNeg = A1c.length) (hBq : zq.toNatClampNeg = Bq.length) (h : (zp = (2 : Int32) ∧ zq = (2 : Int32))) : (((((0 : Int32) + (((((0 : Int32) + zp) + (8 : Int32)) + (13 : Int32)) + (1 : Int32))) + (9 : Int32)) + zq) + (1 : Int32)).toNatClampNeg = ((((([] ++ A1c) ++ [(44 : Int32), (32 : Int32), (101 : Int32), (114 : Int32), (114 : Int32), (111 : Int32), (114 : Int32), (61 : Int32), (34 : Int32)]) ++ Bq) ++ [(34 : Int32)]) : List Int32).length := by
  rcases h with ⟨rfl, rfl⟩ <;> (simp only [List.length_append, List.length_cons, List.length_nil, ← hA1c, ← hBq]; decide)
theorem own_pd24 (zp zq : Int32) (h : (zp = (2 : Int32) ∧ zq = (2 : Int32))) : (((((0 : Int32) + (((((0 : Int32) + zp) + (8 : Int32)) + (13 : Int32)) + (1 : Int32))) + (9 : Int32)) + zq) + (1 : Int32)).toNatClampNeg ≤ 70 := by
  rcases h with ⟨rfl, rfl⟩ <;> decide
theorem d1_34 : decode prog_1_method_3_code 34 = .ok (.new 31, 3) := by decide +kernel
theorem d1_37 : decode prog_1_method_3_code 37 = .ok (.dup, 1) := by decide +kernel
theorem d1_38 : decode prog_1_method_3_code 38 = .ok (.invokespecial 33, 3) := by decide +kernel
theorem d1_41 : decode prog_1_method_3_code 41 = .ok (.aload_n 2, 1) := by decide +kernel
theorem d1_42 : decode prog_1_method_3_code 42 = .ok (.invokevirtual 34, 3) := by decide +kernel
theorem d1_45 : decode prog_1_method_3_code 45 = .ok (.ldc 49, 2) := by decide +kernel
theorem d1_47 : decode prog_1_method_3_code 47 = .ok (.invokevirtual 34, 3) := by decide +kernel
theorem d1_50 : decode prog_1_method_3_code 50 = .ok (.aload_n 1, 1) := by decide +kernel
theorem d1_51 : decode prog_1_method_3_code 51 = .ok (.invokevirtual 34, 3) := by decide +kernel
theorem d1_54 : decode prog_1_method_3_code 54 = .ok (.ldc 44, 2) := by decide +kernel
theorem d1_56 : decode prog_1_method_3_code 56 = .ok (.invokevirtual 34, 3) := by decide +kernel
theorem d1_59 : decode prog_1_method_3_code 59 = .ok (.invokevirtual 46, 3) := by decide +kernel
theorem d1_62 : decode prog_1_method_3_code 62 = .ok (.astore_n 2, 1) := by decide +kernel
theorem own_t34a {p : Program} {l : Launch} {e : Env} {s : State} {m : MethodId} {below : List Frame} {meth : Method} {c : Code} {T0 : State} {locs : List Loc} {Z : State} {a0 : Array Value} {h0 hT : Heap} {n0 : Nat} {vmT : Vm} {kT : Nat} {a1 a2 oc dc dq : Addr} {kdc kdq : ClassId} {zp zq zz : Int32} {A1c Bq BB : List Int32} {cs : Int32}
    (X0 : Stand p l e ({ frames := 6, cells := 21, slots := 546, locals := 91 } : Room) (s.setVm vmT) m #[(.ref a1), (.ref a2)] below meth c T0 locs 11 264) (hx : p.tables.exec = Jvm.exec) (hZ : Z.Warmed39 (s.setVm vmT).vm) (hw : ∀ d ∈ tables_1, d.before a0 Z = true) (hby : c.code = prog_1_method_3_code) (hml : c.maxLocals = 3) (hown : (s.setVm vmT).vm.findClass "com/example/cloud_to_core/cloudtocore/auth/HttpAuthorization" = some m.cls) (hret : meth.sig.returnType = some (.object "java/lang/String")) (hlocks : meth.locks = false) (e0 : T0.heap = hT) (Kt0 : Keep h0 hT []) (N0 : Fr n0 locs) (Z0 : n0 ≤ h0.size) (O0 : Old Z n0 h0) (hS0 : s.Since vmT kT) (hk0 : kT ≤ hT.size) (RT : CHr Z consts_1 s.vm h0 vmT hT) (hh : s.heap = h0) (E_oc : Exa Z hT oc "java/lang/String") (Fc_oc : Fld Z hT oc "java/lang/String" "coder" "B" (.int (0 : Int32))) (Fv_oc : Fld Z hT oc "java/lang/String" "value" "[B" (.ref dc)) (V_dc : Arv Z hT dc kdc .byte (((((0 : Int32) + zp) + (8 : Int32)) + (13 : Int32)) + (1 : Int32)) (own_bs A1c) (.int (0 : Int32))) (hzc : ¬ (((((0 : Int32) + zp) + (8 : Int32)) + (13 : Int32)) + (1 : Int32)) < 0) (hA1c : (((((0 : Int32) + zp) + (8 : Int32)) + (13 : Int32)) + (1 : Int32)).toNatClampNeg = A1c.length) (E_a2 : Exa Z hT a2 "java/lang/String") (Fc_a2 : Fld Z hT a2 "java/lang/String" "coder" "B" (.int (0 : Int32))) (Fv_a2 : Fld Z hT a2 "java/lang/String" "value" "[B" (.ref dq)) (V_dq : Arv Z hT dq kdq .byte zq (own_bs Bq) (.int (0 : Int32))) (hzq : ¬ zq < 0) (hBq : zq.toNatClampNeg = Bq.length) (hpq : (zp = (0 : Int32) ∧ zq = (0 : Int32)) ∨ (zp = (0 : Int32) ∧ zq = (1 : Int32)) ∨ (zp = (1 : Int32) ∧ zq = (0 : Int32))) (hzz : (((((0 : Int32) + (((((0 : Int32) + zp) + (8 : Int32)) + (13 : Int32)) + (1 : Int32))) + (9 : Int32)) + zq) + (1 : Int32)) = zz) (hBB : (((([] ++ A1c) ++ [(44 : Int32), (32 : Int32), (101 : Int32), (114 : Int32), (114 : Int32), (111 : Int32), (114 : Int32), (61 : Int32), (34 : Int32)]) ++ Bq) ++ [(34 : Int32)]) = BB) (S_CS : Sta Z Z.heap "java/lang/String" "COMPACT_STRINGS" "Z" (.int cs)) (h_cs : ¬ cs = (0 : Int32)) :
    ∃ s₂ o, Steps p.tables e below (T0.setTop (mkF m 34 #[vR a1, vR a2, vR oc] [])) s₂ ∧ s₂.status = .running ∧ Ended s₂ below o ∧ ∃ v L, o = .returned v ∧ own_QX Z zz BB h0 n0 v s₂.heap L ∧ CHr Z consts_1 s.vm s.heap s₂.vm s₂.heap ∧ ReturnedEndW s o s₂ L ({ frames := 6, cells := 21, slots := 546, locals := 91 } : Room).cells ({ frames := 6, cells := 21, slots := 546, locals := 91 } : Room).slots := by
  obtain ⟨T1, h1, X1, e1, E1, A1, D1, -, st1⟩ := newO X0 hx hZ hown (ww hw 12 rfl) (ww hw 13 rfl) (ww hw 14 rfl) e0 (g := (mkF m 34 #[vR a1, vR a2, vR oc] [])) rfl (hb hby d1_34) (by decide) (by decide)
  obtain ⟨b1, g1⟩ : ∃ z, z = hT.size := ⟨_, rfl⟩
  rw [← g1] at A1 D1 st1
  have ne_oc_b1 : oc ≠ b1 := Nat.ne_of_lt (Nat.lt_of_lt_of_le E_oc.lt (Nat.le_of_eq g1.symm))
  have ne_dc_b1 : dc ≠ b1 := Nat.ne_of_lt (Nat.lt_of_lt_of_le V_dc.lt (Nat.le_of_eq g1.symm))
  have ne_a2_b1 : a2 ≠ b1 := Nat.ne_of_lt (Nat.lt_of_lt_of_le E_a2.lt (Nat.le_of_eq g1.symm))
  have ne_dq_b1 : dq ≠ b1 := Nat.ne_of_lt (Nat.lt_of_lt_of_le V_dq.lt (Nat.le_of_eq g1.symm))
  have sz_b1 : h0.size ≤ b1 := Nat.le_trans Kt0.1 (Nat.le_of_eq g1.symm)
  have g_b1 : n0 ≤ b1 := Nat.le_trans Z0 sz_b1
  have K1 : Keep h0 h1 [] := Kt0.ext E1
  have F_value_b1 : Fld Z h1 b1 "java/lang/AbstractStringBuilder" "value" "[B" .null := D1 (Or.inl (ww hw 29 rfl)) (ty := (.array .byte)) (by decide)
  have F_coder_b1 : Fld Z h1 b1 "java/lang/AbstractStringBuilder" "coder" "B" (.int (0 : Int32)) := D1 (Or.inl (ww hw 31 rfl)) (ty := .byte) (by decide)
  have F_count_b1 : Fld Z h1 b1 "java/lang/AbstractStringBuilder" "count" "I" (.int (0 : Int32)) := D1 (Or.inl (ww hw 56 rfl)) (ty := .int) (by decide)
  have Oh3 := O0.keep K1 all0
  obtain ⟨_, _, ⟨T2, L2, k2, n2⟩, -, X2, ⟨Lc2, hQ2, l2, y2, z2⟩, st2⟩ := X1.specialBack hx (y := mn_29) rfl hown (mvT hZ (ww hw 15 rfl)) (mvT hZ (ww hw 16 rfl)) (mvT hZ (ww hw 17 rfl)) (by decide) (backOf (W := 1) (rm2 l Z a0 hw [] b1 cs h1 n0 (Nat.le_trans Z0 K1.1) Oh3 A1 g_b1 F_value_b1 F_coder_b1 F_count_b1 S_CS h_cs) hZ (ww hw 17 rfl) (ww hw 14 rfl) (by decide) (by decide)) (g := (mkF m 38 #[vR a1, vR a2, vR oc] [iR b1, iR b1])) rfl (by rw [hml]; rfl) (Steps.refl _) (a := b1) (argsL := []) (rest := [(.ref b1)]) (lenOf pd_23 rfl) rfl (wz rfl) (hb hby d1_38) (fun _ _ => ⟨rfl, e1, (by decide : 12 + 1 ≤ _), (by decide : 268 + 16 ≤ _)⟩)
  dsimp only [Pt.U, Pt.locs, Pt.cells, Pt.slots] at X2 l2 y2 z2 st2 hQ2
  subst l2 y2 z2
  obtain ⟨d2, kd2, rfl, N2q, K2q, E2q, Fv2q, Fc2q, Fn2q, V2q, G2q, z_d2⟩ := hQ2
  have fk4 := (E_oc.ext E1)
  have fk5 := (V_dc.ext E1)
  have fk6 := (E_a2.ext E1)
  have fk7 := (V_dq.ext E1)
  have ne_oc_d2 : oc ≠ d2 := Nat.ne_of_lt (Nat.lt_of_lt_of_le fk4.lt z_d2)
  have ne_dc_d2 : dc ≠ d2 := Nat.ne_of_lt (Nat.lt_of_lt_of_le fk5.lt z_d2)
  have ne_a2_d2 : a2 ≠ d2 := Nat.ne_of_lt (Nat.lt_of_lt_of_le fk6.lt z_d2)
  have ne_dq_d2 : dq ≠ d2 := Nat.ne_of_lt (Nat.lt_of_lt_of_le fk7.lt z_d2)
  have ne_b1_d2 : b1 ≠ d2 := Nat.ne_of_lt (Nat.lt_of_lt_of_le A1.lt z_d2)
  have sz_d2 : h0.size ≤ d2 := Nat.le_trans K1.1 z_d2
  have g_d2 : n0 ≤ d2 := Nat.le_trans Z0 sz_d2
  have N2 := Fr.app N0 N2q
  have K2 : Keep h0 T2.heap [] := Keep.trans K1 K2q (allS (Or.inr sz_b1) all0)
  have fk9 := (fk4.keep K2q)
  have fk10 := ((Fc_oc.ext E1).keep K2q (ninS ne_oc_b1 nin0))
  have fk11 := ((Fv_oc.ext E1).keep K2q (ninS ne_oc_b1 nin0))
  have fk12 := (fk5.keep K2q (ninS ne_dc_b1 nin0))
  have Oh13 := O0.keep K2 all0
  obtain ⟨cq8, kq8, q8a, q8b, q8c⟩ := isOf hZ rfl E2q
  obtain ⟨_, _, ⟨T8, L8, k8, n8⟩, -, X8, ⟨Lc8, hQ8, l8, y8, z8⟩, st8⟩ := X2.virtualBack hx (y := mn_12) (z := mn_12) hown (mvT hZ (ww hw 32 rfl)) (mvT hZ (ww hw 33 rfl)) (notFace_of_selects (args := #[]) (mvT hZ (ww hw 35 rfl))) (mvT hZ (ww hw 35 rfl)) (mvT hZ (ww hw 34 rfl)) (by decide) (backOf (W := 0) (rm5_g l Z a0 hw [] b1 oc d2 kd2 (16 : Int32) [] dc kdc (((((0 : Int32) + zp) + (8 : Int32)) + (13 : Int32)) + (1 : Int32)) A1c (0 : Int32) (34 : Int32) cs T2.heap n0 (Nat.le_trans Z0 K2.1) Oh13 E2q Fv2q Fc2q V2q g_d2 Fn2q g_b1 ne_b1_d2 fk9 fk10 fk11 fk12 hzc hA1c (Ne.symm ne_oc_b1) (Ne.symm ne_dc_b1) ne_oc_d2 (Ne.symm ne_dc_d2) (own_pa0 zp zq hpq) (own_pa1 zp zq A1c Bq hA1c hBq hpq) (own_pa2 zp zq hpq) (own_pa3 zp zq hpq) (by decide) (own_pa4 zp zq hpq) (own_pa5 zp zq hpq) (by decide) (by decide) (by decide) (by decide) (own_pa6 zp zq A1c Bq hA1c hBq hpq) (own_pa7 zp zq hpq) S_CS h_cs) hZ (ww hw 36 rfl) (ww hw 14 rfl) (by decide) (by decide)) q8a q8c (g := (mkF m 42 #[vR a1, vR a2, vR oc] [iR oc, iR b1])) rfl (by rw [hml]; rfl) (Steps.refl _) (argsL := [(.ref oc)]) (rest := []) (lenOf pd_24 rfl) rfl (wz rfl) (hb hby d1_42) (fun _ _ => ⟨rfl, rfl, (by decide : 13 + 1 ≤ _), (by decide : 284 + 70 ≤ _)⟩)
  dsimp only [Pt.U, Pt.locs, Pt.cells, Pt.slots] at X8 l8 y8 z8 st8 hQ8
  subst l8 y8 z8
  obtain ⟨d8, kd8, rfl, N8q, K8q, E8q, Fv8q, Fc8q, Fn8q, V8q, G8q, z_d8⟩ := hQ8
  have fk14 := (fk6.keep K2q)
  have fk15 := (fk7.keep K2q (ninS ne_dq_b1 nin0))
  have ne_oc_d8 : oc ≠ d8 := Nat.ne_of_lt (Nat.lt_of_lt_of_le fk9.lt z_d8)
  have ne_dc_d8 : dc ≠ d8 := Nat.ne_of_lt (Nat.lt_of_lt_of_le fk12.lt z_d8)
  have ne_a2_d8 : a2 ≠ d8 := Nat.ne_of_lt (Nat.lt_of_lt_of_le fk14.lt z_d8)
  have ne_dq_d8 : dq ≠ d8 := Nat.ne_of_lt (Nat.lt_of_lt_of_le fk15.lt z_d8)
  have ne_b1_d8 : b1 ≠ d8 := Nat.ne_of_lt (Nat.lt_of_lt_of_le E2q.lt z_d8)
  have ne_d2_d8 : d2 ≠ d8 := Nat.ne_of_lt (Nat.lt_of_lt_of_le G2q.lt z_d8)
  have sz_d8 : h0.size ≤ d8 := Nat.le_trans K2.1 z_d8
  have g_d8 : n0 ≤ d8 := Nat.le_trans Z0 sz_d8
  have N8 := Fr.app N2 N8q
  have K8 : Keep h0 T8.heap [] := Keep.trans K2 K8q (allS (Or.inr sz_b1) all0)
  have S16_b1 := Safe.ext E1 RT.1 (Safe.new (Nat.le_of_eq g1.symm))
  have R16 := RT.trans (CHr.ext E1 RT.1)
  have sq17 : ∀ x ∈ [b1], Safe Z consts_1 vmT _ x := (sfS S16_b1 sf0)
  have S17_b1 := Safe.keep K2q sq17 R16.1 S16_b1
  have S17_d2 := Safe.keep K2q sq17 R16.1 (Safe.new z_d2)
  have R17 := R16.trans (CHr.keep K2q sq17 R16.1)
  have sq18 : ∀ x ∈ [b1], Safe Z consts_1 vmT _ x := (sfS S17_b1 sf0)
  have S18_b1 := Safe.keep K8q sq18 R17.1 S17_b1
  have S18_d2 := Safe.keep K8q sq18 R17.1 S17_d2
  have S18_d8 := Safe.keep K8q sq18 R17.1 (Safe.new z_d8)
  have R18 := R17.trans (CHr.keep K8q sq18 R17.1)
  have fk19 := (G2q.keep K8q)
  obtain ⟨la20, T20, h20, kk20, lb20, kl20, X20, e20, E20, hS20, hk20, hZ, hown, EE20, FC20, FV20, VV20, -, -, C20, li20, ne20, st20⟩ := ldcCH (s := s) (vm0 := vmT) X8 hx hZ hown (ww hw 189 rfl) (own_strAtoms hw) rfl hS0 (Nat.le_trans (Nat.le_trans (Nat.le_trans hk0 E1.1) K2q.1) K8q.1) (own_EW hw) (List.mem_of_getElem? (i := 3) rfl) R18.1 (vs := own_bs [(44 : Int32), (32 : Int32), (101 : Int32), (114 : Int32), (114 : Int32), (111 : Int32), (114 : Int32), (61 : Int32), (34 : Int32)]) (z := (9 : Int32)) own_ct3 (by decide) (by decide) (g := (mkF m 45 #[vR a1, vR a2, vR oc] [iR b1])) rfl (hb hby d1_45) (n := 36) (by decide) (by decide) (by decide) (by decide)
  have K20 : Keep h0 h20 [] := K8.ext E20
  have S20_b1 := C20.safe E8q.lt S18_b1
  have S20_d2 := C20.safe fk19.lt S18_d2
  have S20_d8 := C20.safe V8q.lt S18_d8
  have R20 := R18.trans C20
  have fk22 := (E8q.ext E20)
  have fk23 := (Fv8q.ext E20)
  have fk24 := (Fc8q.ext E20)
  have fk25 := (V8q.ext E20)
  have fk26 := (Fn8q.ext E20)
  have Oh27 := O0.keep K20 all0
  obtain ⟨cq21, kq21, q21a, q21b, q21c⟩ := isOf hZ e20 fk22
  obtain ⟨_, _, ⟨T21, L21, k21, n21⟩, -, X21, ⟨Lc21, hQ21, l21, y21, z21⟩, st21⟩ := X20.virtualBack hx (y := mn_12) (z := mn_12) hown (mvT hZ (ww hw 32 rfl)) (mvT hZ (ww hw 33 rfl)) (notFace_of_selects (args := #[]) (mvT hZ (ww hw 35 rfl))) (mvT hZ (ww hw 35 rfl)) (mvT hZ (ww hw 34 rfl)) (by decide) (backOf (W := 0) (rm5_f l Z a0 hw [] b1 la20 d8 kd8 (34 : Int32) ([] ++ A1c) lb20 kl20 (9 : Int32) [(44 : Int32), (32 : Int32), (101 : Int32), (114 : Int32), (114 : Int32), (111 : Int32), (114 : Int32), (61 : Int32), (34 : Int32)] ((0 : Int32) + (((((0 : Int32) + zp) + (8 : Int32)) + (13 : Int32)) + (1 : Int32))) cs h20 n0 (Nat.le_trans Z0 K20.1) Oh27 fk22 fk23 fk24 fk25 g_d8 fk26 g_b1 ne_b1_d8 EE20 FC20 FV20 VV20 (by decide) (by decide) (ne20 _ S20_b1).1 (ne20 _ S20_b1).2 (Ne.symm (ne20 _ S20_d8).1) (ne20 _ S20_d8).2 (own_pa3 zp zq hpq) (own_pa8 zp zq A1c Bq hA1c hBq hpq) (own_pa9 zp zq hpq) (own_pa10 zp zq hpq) (by decide) (own_pa11 zp zq hpq) S_CS h_cs) hZ (ww hw 36 rfl) (ww hw 14 rfl) (by decide) (by decide)) q21a q21c (g := (mkF m 47 #[vR a1, vR a2, vR oc] [iR la20, iR b1])) rfl (by rw [hml]; rfl) (Steps.refl _) (argsL := [(.ref la20)]) (rest := []) (lenOf pd_24 rfl) rfl (wz rfl) (hb hby d1_47) (fun _ _ => ⟨rfl, e20, (by decide : 16 + 0 ≤ _), (by decide : 394 + 0 ≤ _)⟩)
  dsimp only [Pt.U, Pt.locs, Pt.cells, Pt.slots] at X21 l21 y21 z21 st21 hQ21
  subst l21 y21 z21
  obtain ⟨rfl, N21q, K21q, E21q, Fv21q, Fc21q, Fn21q, V21q⟩ := hQ21
  have N21 := Fr.app N8 N21q
  have K21 : Keep h0 T21.heap [] := Keep.trans K20 K21q (allS (Or.inr sz_b1) (allS (Or.inr sz_d8) all0))
  have fk29 := (((fk14.keep K8q).ext E20).keep K21q)
  have fk30 := (((((Fc_a2.ext E1).keep K2q (ninS ne_a2_b1 nin0)).keep K8q (ninS ne_a2_b1 nin0)).ext E20).keep K21q (ninS ne_a2_b1 (ninS ne_a2_d8 nin0)))
  have fk31 := (((((Fv_a2.ext E1).keep K2q (ninS ne_a2_b1 nin0)).keep K8q (ninS ne_a2_b1 nin0)).ext E20).keep K21q (ninS ne_a2_b1 (ninS ne_a2_d8 nin0)))
  have fk32 := (((fk15.keep K8q (ninS ne_dq_b1 nin0)).ext E20).keep K21q (ninS ne_dq_b1 (ninS ne_dq_d8 nin0)))
  have Oh33 := O0.keep K21 all0
  obtain ⟨cq28, kq28, q28a, q28b, q28c⟩ := isOf hZ rfl E21q
  obtain ⟨_, _, ⟨T28, L28, k28, n28⟩, -, X28, ⟨Lc28, hQ28, l28, y28, z28⟩, st28⟩ := X21.virtualBack hx (y := mn_12) (z := mn_12) hown (mvT hZ (ww hw 32 rfl)) (mvT hZ (ww hw 33 rfl)) (notFace_of_selects (args := #[]) (mvT hZ (ww hw 35 rfl))) (mvT hZ (ww hw 35 rfl)) (mvT hZ (ww hw 34 rfl)) (by decide) (backOf (W := 0) (rm5_f l Z a0 hw [] b1 a2 d8 kd8 (34 : Int32) (([] ++ A1c) ++ [(44 : Int32), (32 : Int32), (101 : Int32), (114 : Int32), (114 : Int32), (111 : Int32), (114 : Int32), (61 : Int32), (34 : Int32)]) dq kdq zq Bq (((0 : Int32) + (((((0 : Int32) + zp) + (8 : Int32)) + (13 : Int32)) + (1 : Int32))) + (9 : Int32)) cs T21.heap n0 (Nat.le_trans Z0 K21.1) Oh33 E21q Fv21q Fc21q V21q g_d8 Fn21q g_b1 ne_b1_d8 fk29 fk30 fk31 fk32 hzq hBq (Ne.symm ne_a2_b1) (Ne.symm ne_dq_b1) ne_a2_d8 (Ne.symm ne_dq_d8) (own_pa10 zp zq hpq) (own_pa12 zp zq A1c Bq hA1c hBq hpq) (own_pa13 zp zq hpq) (own_pa14 zp zq hpq) (by decide) (own_pa15 zp zq hpq) S_CS h_cs) hZ (ww hw 36 rfl) (ww hw 14 rfl) (by decide) (by decide)) q28a q28c (g := (mkF m 51 #[vR a1, vR a2, vR oc] [iR a2, iR b1])) rfl (by rw [hml]; rfl) (Steps.refl _) (argsL := [(.ref a2)]) (rest := []) (lenOf pd_24 rfl) rfl (wz rfl) (hb hby d1_51) (fun _ _ => ⟨rfl, rfl, (by decide : 16 + 0 ≤ _), (by decide : 394 + 0 ≤ _)⟩)
  dsimp only [Pt.U, Pt.locs, Pt.cells, Pt.slots] at X28 l28 y28 z28 st28 hQ28
  subst l28 y28 z28
  obtain ⟨rfl, N28q, K28q, E28q, Fv28q, Fc28q, Fn28q, V28q⟩ := hQ28
  have N28 := Fr.app N21 N28q
  have K28 : Keep h0 T28.heap [] := Keep.trans K21 K28q (allS (Or.inr sz_b1) (allS (Or.inr sz_d8) all0))
  have sq34 : ∀ x ∈ [b1, d8], Safe Z consts_1 T20.vm _ x := (sfS S20_b1 (sfS S20_d8 sf0))
  have S34_b1 := Safe.keep K21q sq34 R20.1 S20_b1
  have S34_d2 := Safe.keep K21q sq34 R20.1 S20_d2
  have S34_d8 := Safe.keep K21q sq34 R20.1 S20_d8
  have R34 := R20.trans (CHr.keep K21q sq34 R20.1)
  have sq35 : ∀ x ∈ [b1, d8], Safe Z consts_1 T20.vm _ x := (sfS S34_b1 (sfS S34_d8 sf0))
  have S35_b1 := Safe.keep K28q sq35 R34.1 S34_b1
  have S35_d2 := Safe.keep K28q sq35 R34.1 S34_d2
  have S35_d8 := Safe.keep K28q sq35 R34.1 S34_d8
  have R35 := R34.trans (CHr.keep K28q sq35 R34.1)
  have fk36 := (((fk19.ext E20).keep K21q).keep K28q)
  obtain ⟨la37, T37, h37, kk37, lb37, kl37, X37, e37, E37, hS37, hk37, hZ, hown, EE37, FC37, FV37, VV37, -, -, C37, li37, ne37, st37⟩ := ldcCH (s := s) (vm0 := T20.vm) X28 hx hZ hown (ww hw 107 rfl) (own_strAtoms hw) rfl hS20 (Nat.le_trans (Nat.le_trans hk20 K21q.1) K28q.1) (own_EW hw) (List.mem_of_getElem? (i := 2) rfl) R35.1 (vs := own_bs [(34 : Int32)]) (z := (1 : Int32)) own_ct2 (by decide) (by decide) (g := (mkF m 54 #[vR a1, vR a2, vR oc] [iR b1])) rfl (hb hby d1_54) (n := 4) (by decide) (by decide) (by decide) (by decide)
  have K37 : Keep h0 h37 [] := K28.ext E37
  have S37_b1 := C37.safe E28q.lt S35_b1
  have S37_d2 := C37.safe fk36.lt S35_d2
  have S37_d8 := C37.safe V28q.lt S35_d8
  have R37 := R35.trans C37
  have fk39 := (E28q.ext E37)
  have fk40 := (Fv28q.ext E37)
  have fk41 := (Fc28q.ext E37)
  have fk42 := (V28q.ext E37)
  have fk43 := (Fn28q.ext E37)
  have Oh44 := O0.keep K37 all0
  obtain ⟨cq38, kq38, q38a, q38b, q38c⟩ := isOf hZ e37 fk39
  obtain ⟨_, _, ⟨T38, L38, k38, n38⟩, -, X38, ⟨Lc38, hQ38, l38, y38, z38⟩, st38⟩ := X37.virtualBack hx (y := mn_12) (z := mn_12) hown (mvT hZ (ww hw 32 rfl)) (mvT hZ (ww hw 33 rfl)) (notFace_of_selects (args := #[]) (mvT hZ (ww hw 35 rfl))) (mvT hZ (ww hw 35 rfl)) (mvT hZ (ww hw 34 rfl)) (by decide) (backOf (W := 0) (rm5_f l Z a0 hw [] b1 la37 d8 kd8 (34 : Int32) ((([] ++ A1c) ++ [(44 : Int32), (32 : Int32), (101 : Int32), (114 : Int32), (114 : Int32), (111 : Int32), (114 : Int32), (61 : Int32), (34 : Int32)]) ++ Bq) lb37 kl37 (1 : Int32) [(34 : Int32)] ((((0 : Int32) + (((((0 : Int32) + zp) + (8 : Int32)) + (13 : Int32)) + (1 : Int32))) + (9 : Int32)) + zq) cs h37 n0 (Nat.le_trans Z0 K37.1) Oh44 fk39 fk40 fk41 fk42 g_d8 fk43 g_b1 ne_b1_d8 EE37 FC37 FV37 VV37 (by decide) (by decide) (ne37 _ S37_b1).1 (ne37 _ S37_b1).2 (Ne.symm (ne37 _ S37_d8).1) (ne37 _ S37_d8).2 (own_pa14 zp zq hpq) (own_pa16 zp zq A1c Bq hA1c hBq hpq) (own_pa17 zp zq hpq) (own_pa18 zp zq hpq) (by decide) (own_pa19 zp zq hpq) S_CS h_cs) hZ (ww hw 36 rfl) (ww hw 14 rfl) (by decide) (by decide)) q38a q38c (g := (mkF m 56 #[vR a1, vR a2, vR oc] [iR la37, iR b1])) rfl (by rw [hml]; rfl) (Steps.refl _) (argsL := [(.ref la37)]) (rest := []) (lenOf pd_24 rfl) rfl (wz rfl) (hb hby d1_56) (fun _ _ => ⟨rfl, e37, (by decide : 18 + 0 ≤ _), (by decide : 402 + 0 ≤ _)⟩)
  dsimp only [Pt.U, Pt.locs, Pt.cells, Pt.slots] at X38 l38 y38 z38 st38 hQ38
  subst l38 y38 z38
  obtain ⟨rfl, N38q, K38q, E38q, Fv38q, Fc38q, Fn38q, V38q⟩ := hQ38
  have N38 := Fr.app N28 N38q
  have K38 : Keep h0 T38.heap [] := Keep.trans K37 K38q (allS (Or.inr sz_b1) (allS (Or.inr sz_d8) all0))
  have fk46 := (((((G8q.ext E20).keep K21q).keep K28q).ext E37).keep K38q)
  have Oh47 := O0.keep K38 all0
  obtain ⟨cq45, kq45, q45a, q45b, q45c⟩ := isOf hZ rfl E38q
  obtain ⟨_, _, ⟨T45, L45, k45, n45⟩, -, X45, ⟨Lc45, hQ45, l45, y45, z45⟩, st45⟩ := X38.virtualBack hx (y := mn_22) (z := mn_22) hown (mvT hZ (ww hw 108 rfl)) (mvT hZ (ww hw 109 rfl)) (notFace_of_selects (args := #[]) (mvT hZ (ww hw 111 rfl))) (mvT hZ (ww hw 111 rfl)) (mvT hZ (ww hw 110 rfl)) (by decide) (backOf (W := 0) (rm18 l Z a0 hw [] b1 d8 kd8 (34 : Int32) (((([] ++ A1c) ++ [(44 : Int32), (32 : Int32), (101 : Int32), (114 : Int32), (114 : Int32), (111 : Int32), (114 : Int32), (61 : Int32), (34 : Int32)]) ++ Bq) ++ [(34 : Int32)]) (((((0 : Int32) + (((((0 : Int32) + zp) + (8 : Int32)) + (13 : Int32)) + (1 : Int32))) + (9 : Int32)) + zq) + (1 : Int32)) cs T38.heap n0 (Nat.le_trans Z0 K38.1) Oh47 E38q Fv38q Fc38q V38q Fn38q (own_pa18 zp zq hpq) (own_pa19 zp zq hpq) (own_pa21 zp zq hpq) (own_pa20 zp zq A1c Bq hA1c hBq hpq) fk46 S_CS h_cs) hZ (ww hw 112 rfl) (ww hw 14 rfl) (by decide) (by decide)) q45a q45c (g := (mkF m 59 #[vR a1, vR a2, vR oc] [iR b1])) rfl (by rw [hml]; rfl) (Steps.refl _) (argsL := []) (rest := []) (lenOf pd_25 rfl) rfl (wz rfl) (hb hby d1_59) (fun _ _ => ⟨rfl, rfl, (by decide : 18 + 2 ≤ _), (by decide : 402 + 74 ≤ _)⟩)
  dsimp only [Pt.U, Pt.locs, Pt.cells, Pt.slots] at X45 l45 y45 z45 st45 hQ45
  subst l45 y45 z45
  obtain ⟨o45, d45, kd45, rfl, N45q, K45q, E45q, C45q, F45q, V45q, z_o45, z_d45⟩ := hQ45
  have fk48 := ((((((fk9.keep K8q).ext E20).keep K21q).keep K28q).ext E37).keep K38q)
  have fk49 := ((((((fk12.keep K8q (ninS ne_dc_b1 nin0)).ext E20).keep K21q (ninS ne_dc_b1 (ninS ne_dc_d8 nin0))).keep K28q (ninS ne_dc_b1 (ninS ne_dc_d8 nin0))).ext E37).keep K38q (ninS ne_dc_b1 (ninS ne_dc_d8 nin0)))
  have fk50 := (((fk29.keep K28q).ext E37).keep K38q)
  have fk51 := (((fk32.keep K28q (ninS ne_dq_b1 (ninS ne_dq_d8 nin0))).ext E37).keep K38q (ninS ne_dq_b1 (ninS ne_dq_d8 nin0)))
  have fk52 := ((fk36.ext E37).keep K38q)
  have fk53 := ((((EE20.keep K21q).keep K28q).ext E37).keep K38q)
  have fk54 := ((((VV20.keep K21q (ninS (Ne.symm (ne20 _ S20_b1).2) (ninS (Ne.symm (ne20 _ S20_d8).2) nin0))).keep K28q (ninS (Ne.symm (ne20 _ S20_b1).2) (ninS (Ne.symm (ne20 _ S20_d8).2) nin0))).ext E37).keep K38q (ninS (Ne.symm (ne20 _ S20_b1).2) (ninS (Ne.symm (ne20 _ S20_d8).2) nin0)))
  have fk55 := (EE37.keep K38q)
  have fk56 := (VV37.keep K38q (ninS (Ne.symm (ne37 _ S37_b1).2) (ninS (Ne.symm (ne37 _ S37_d8).2) nin0)))
  have ne_oc_o45 : oc ≠ o45 := Nat.ne_of_lt (Nat.lt_of_lt_of_le fk48.lt z_o45)
  have ne_dc_o45 : dc ≠ o45 := Nat.ne_of_lt (Nat.lt_of_lt_of_le fk49.lt z_o45)
  have ne_a2_o45 : a2 ≠ o45 := Nat.ne_of_lt (Nat.lt_of_lt_of_le fk50.lt z_o45)
  have ne_dq_o45 : dq ≠ o45 := Nat.ne_of_lt (Nat.lt_of_lt_of_le fk51.lt z_o45)
  have ne_b1_o45 : b1 ≠ o45 := Nat.ne_of_lt (Nat.lt_of_lt_of_le E38q.lt z_o45)
  have ne_d2_o45 : d2 ≠ o45 := Nat.ne_of_lt (Nat.lt_of_lt_of_le fk52.lt z_o45)
  have ne_d8_o45 : d8 ≠ o45 := Nat.ne_of_lt (Nat.lt_of_lt_of_le V38q.lt z_o45)
  have ne_la20_o45 : la20 ≠ o45 := Nat.ne_of_lt (Nat.lt_of_lt_of_le fk53.lt z_o45)
  have ne_lb20_o45 : lb20 ≠ o45 := Nat.ne_of_lt (Nat.lt_of_lt_of_le fk54.lt z_o45)
  have ne_la37_o45 : la37 ≠ o45 := Nat.ne_of_lt (Nat.lt_of_lt_of_le fk55.lt z_o45)
  have ne_lb37_o45 : lb37 ≠ o45 := Nat.ne_of_lt (Nat.lt_of_lt_of_le fk56.lt z_o45)
  have sz_o45 : h0.size ≤ o45 := Nat.le_trans K38.1 z_o45
  have g_o45 : n0 ≤ o45 := Nat.le_trans Z0 sz_o45
  have ne_oc_d45 : oc ≠ d45 := Nat.ne_of_lt (Nat.lt_of_lt_of_le fk48.lt z_d45)
  have ne_dc_d45 : dc ≠ d45 := Nat.ne_of_lt (Nat.lt_of_lt_of_le fk49.lt z_d45)
  have ne_a2_d45 : a2 ≠ d45 := Nat.ne_of_lt (Nat.lt_of_lt_of_le fk50.lt z_d45)
  have ne_dq_d45 : dq ≠ d45 := Nat.ne_of_lt (Nat.lt_of_lt_of_le fk51.lt z_d45)
  have ne_b1_d45 : b1 ≠ d45 := Nat.ne_of_lt (Nat.lt_of_lt_of_le E38q.lt z_d45)
  have ne_d2_d45 : d2 ≠ d45 := Nat.ne_of_lt (Nat.lt_of_lt_of_le fk52.lt z_d45)
  have ne_d8_d45 : d8 ≠ d45 := Nat.ne_of_lt (Nat.lt_of_lt_of_le V38q.lt z_d45)
  have ne_la20_d45 : la20 ≠ d45 := Nat.ne_of_lt (Nat.lt_of_lt_of_le fk53.lt z_d45)
  have ne_lb20_d45 : lb20 ≠ d45 := Nat.ne_of_lt (Nat.lt_of_lt_of_le fk54.lt z_d45)
  have ne_la37_d45 : la37 ≠ d45 := Nat.ne_of_lt (Nat.lt_of_lt_of_le fk55.lt z_d45)
  have ne_lb37_d45 : lb37 ≠ d45 := Nat.ne_of_lt (Nat.lt_of_lt_of_le fk56.lt z_d45)
  have sz_d45 : h0.size ≤ d45 := Nat.le_trans K38.1 z_d45
  have g_d45 : n0 ≤ d45 := Nat.le_trans Z0 sz_d45
  have N45 := Fr.app N38 N45q
  have K45 : Keep h0 T45.heap [] := Keep.trans K38 K45q all0
  have sq57 : ∀ x ∈ [b1, d8], Safe Z consts_1 T37.vm _ x := (sfS S37_b1 (sfS S37_d8 sf0))
  have S57_b1 := Safe.keep K38q sq57 R37.1 S37_b1
  have S57_d2 := Safe.keep K38q sq57 R37.1 S37_d2
  have S57_d8 := Safe.keep K38q sq57 R37.1 S37_d8
  have R57 := R37.trans (CHr.keep K38q sq57 R37.1)
  have S58_b1 := Safe.keep K45q sf0 R57.1 S57_b1
  have S58_d2 := Safe.keep K45q sf0 R57.1 S57_d2
  have S58_d8 := Safe.keep K45q sf0 R57.1 S57_d8
  have S58_o45 := Safe.keep K45q sf0 R57.1 (Safe.new z_o45)
  have S58_d45 := Safe.keep K45q sf0 R57.1 (Safe.new z_d45)
  have R58 := R57.trans (CHr.keep K45q sf0 R57.1)
  have hfin := R58.trans (CHv.at (s := s) (vm0 := T37.vm) X45 hZ (own_EW hw) R58.1)
  obtain ⟨fs, hr, hrun, hended, hEnd⟩ := X45.leaveW hS37 (Nat.le_trans (Nat.le_trans hk37 K38q.1) K45q.1) (v := some (.ref o45)) (fun h => by rw [hret] at h; cases h)
  refine ⟨_, _, ?_, hrun, hended, _, _, rfl, ?_, (by rw [hh]; show CHr Z consts_1 s.vm h0 T45.vm T45.heap; exact hfin), ⟨hEnd.1, hEnd.2.1, hEnd.2.2.1, hEnd.2.2.2.mono (by decide) (by decide)⟩⟩
  · show SA T0 m 34 #[vR a1, vR a2, vR oc] []
    refine st1 _ ?_
    show SA T1 m 37 #[vR a1, vR a2, vR oc] [iR b1]
    refine XS.dup X1.here hx rfl (hb hby d1_37) rfl rfl ?_
    show SA T1 m 38 #[vR a1, vR a2, vR oc] [iR b1, iR b1]
    refine st2.trans ?_
    show SA T2 m 41 #[vR a1, vR a2, vR oc] [iR b1]
    refine XS.aloadN X2.here hx rfl (hb hby d1_41) rfl rfl ?_
    show SA T2 m 42 #[vR a1, vR a2, vR oc] [iR oc, iR b1]
    refine st8.trans ?_
    show SA T8 m 45 #[vR a1, vR a2, vR oc] [iR b1]
    refine st20 _ ?_
    show SA T20 m 47 #[vR a1, vR a2, vR oc] [iR la20, iR b1]
    refine st21.trans ?_
    show SA T21 m 50 #[vR a1, vR a2, vR oc] [iR b1]
    refine XS.aloadN X21.here hx rfl (hb hby d1_50) rfl rfl ?_
    show SA T21 m 51 #[vR a1, vR a2, vR oc] [iR a2, iR b1]
    refine st28.trans ?_
    show SA T28 m 54 #[vR a1, vR a2, vR oc] [iR b1]
    refine st37 _ ?_
    show SA T37 m 56 #[vR a1, vR a2, vR oc] [iR la37, iR b1]
    refine st38.trans ?_
    show SA T38 m 59 #[vR a1, vR a2, vR oc] [iR b1]
    refine st45.trans ?_
    show SA T45 m 62 #[vR a1, vR a2, vR oc] [iR o45]
    refine XS.astoreN X45.here hx rfl (hb hby d1_62) rfl rfl (l' := #[vR a1, vR a2, vR o45]) rfl ?_
    show SA T45 m 63 #[vR a1, vR a2, vR o45] []
    refine XS.aloadN X45.here hx rfl (hb hby d1_63) rfl rfl ?_
    show Steps _ _ _ (T45.setTop (mkF m 64 #[vR a1, vR a2, vR o45] [iR o45])) _
    jvm_step X45.here [X45.here.top, hx, (hb hby d1_64), X45.method', hret, Value.isRef, FieldType.isReference]
    first | (intro acts; rw [hr _ acts rfl rfl rfl]) | rw [hr _ _ rfl rfl rfl]
    exact Steps.refl _
  · show own_QX Z zz BB h0 n0 _ T45.heap _
    exact ⟨_, _, _, rfl, N45, K45, E45q, C45q, F45q, (by rw [← hzz, ← hBB]; exact V45q)⟩
theorem own_t34b {p : Program} {l : Launch} {e : Env} {s : State} {m : MethodId} {below : List Frame} {meth : Method} {c : Code} {T0 : State} {locs : List Loc} {Z : State} {a0 : Array Value} {h0 hT : Heap} {n0 : Nat} {vmT : Vm} {kT : Nat} {a1 a2 oc dc dq : Addr} {kdc kdq : ClassId} {zp zq zz : Int32} {A1c Bq BB : List Int32} {cs : Int32}
    (X0 : Stand p l e ({ frames := 6, cells := 21, slots := 546, locals := 91 } : Room) (s.setVm vmT) m #[(.ref a1), (.ref a2)] below meth c T0 locs 11 264) (hx : p.tables.exec = Jvm.exec) (hZ : Z.Warmed39 (s.setVm vmT).vm) (hw : ∀ d ∈ tables_1, d.before a0 Z = true) (hby : c.code = prog_1_method_3_code) (hml : c.maxLocals = 3) (hown : (s.setVm vmT).vm.findClass "com/example/cloud_to_core/cloudtocore/auth/HttpAuthorization" = some m.cls) (hret : meth.sig.returnType = some (.object "java/lang/String")) (hlocks : meth.locks = false) (e0 : T0.heap = hT) (Kt0 : Keep h0 hT []) (N0 : Fr n0 locs) (Z0 : n0 ≤ h0.size) (O0 : Old Z n0 h0) (hS0 : s.Since vmT kT) (hk0 : kT ≤ hT.size) (RT : CHr Z consts_1 s.vm h0 vmT hT) (hh : s.heap = h0) (E_oc : Exa Z hT oc "java/lang/String") (Fc_oc : Fld Z hT oc "java/lang/String" "coder" "B" (.int (0 : Int32))) (Fv_oc : Fld Z hT oc "java/lang/String" "value" "[B" (.ref dc)) (V_dc : Arv Z hT dc kdc .byte (((((0 : Int32) + zp) + (8 : Int32)) + (13 : Int32)) + (1 : Int32)) (own_bs A1c) (.int (0 : Int32))) (hzc : ¬ (((((0 : Int32) + zp) + (8 : Int32)) + (13 : Int32)) + (1 : Int32)) < 0) (hA1c : (((((0 : Int32) + zp) + (8 : Int32)) + (13 : Int32)) + (1 : Int32)).toNatClampNeg = A1c.length) (E_a2 : Exa Z hT a2 "java/lang/String") (Fc_a2 : Fld Z hT a2 "java/lang/String" "coder" "B" (.int (0 : Int32))) (Fv_a2 : Fld Z hT a2 "java/lang/String" "value" "[B" (.ref dq)) (V_dq : Arv Z hT dq kdq .byte zq (own_bs Bq) (.int (0 : Int32))) (hzq : ¬ zq < 0) (hBq : zq.toNatClampNeg = Bq.length) (hpq : (zp = (0 : Int32) ∧ zq = (2 : Int32)) ∨ (zp = (1 : Int32) ∧ zq = (1 : Int32)) ∨ (zp = (2 : Int32) ∧ zq = (0 : Int32))) (hzz : (((((0 : Int32) + (((((0 : Int32) + zp) + (8 : Int32)) + (13 : Int32)) + (1 : Int32))) + (9 : Int32)) + zq) + (1 : Int32)) = zz) (hBB : (((([] ++ A1c) ++ [(44 : Int32), (32 : Int32), (101 : Int32), (114 : Int32), (114 : Int32), (111 : Int32), (114 : Int32), (61 : Int32), (34 : Int32)]) ++ Bq) ++ [(34 : Int32)]) = BB) (S_CS : Sta Z Z.heap "java/lang/String" "COMPACT_STRINGS" "Z" (.int cs)) (h_cs : ¬ cs = (0 : Int32)) :
    ∃ s₂ o, Steps p.tables e below (T0.setTop (mkF m 34 #[vR a1, vR a2, vR oc] [])) s₂ ∧ s₂.status = .running ∧ Ended s₂ below o ∧ ∃ v L, o = .returned v ∧ own_QX Z zz BB h0 n0 v s₂.heap L ∧ CHr Z consts_1 s.vm s.heap s₂.vm s₂.heap ∧ ReturnedEndW s o s₂ L ({ frames := 6, cells := 21, slots := 546, locals := 91 } : Room).cells ({ frames := 6, cells := 21, slots := 546, locals := 91 } : Room).slots := by
  obtain ⟨T59, h59, X59, e59, E59, A59, D59, -, st59⟩ := newO X0 hx hZ hown (ww hw 12 rfl) (ww hw 13 rfl) (ww hw 14 rfl) e0 (g := (mkF m 34 #[vR a1, vR a2, vR oc] [])) rfl (hb hby d1_34) (by decide) (by decide)
  obtain ⟨b59, g59⟩ : ∃ z, z = hT.size := ⟨_, rfl⟩
  rw [← g59] at A59 D59 st59
  have ne_oc_b59 : oc ≠ b59 := Nat.ne_of_lt (Nat.lt_of_lt_of_le E_oc.lt (Nat.le_of_eq g59.symm))
  have ne_dc_b59 : dc ≠ b59 := Nat.ne_of_lt (Nat.lt_of_lt_of_le V_dc.lt (Nat.le_of_eq g59.symm))
  have ne_a2_b59 : a2 ≠ b59 := Nat.ne_of_lt (Nat.lt_of_lt_of_le E_a2.lt (Nat.le_of_eq g59.symm))
  have ne_dq_b59 : dq ≠ b59 := Nat.ne_of_lt (Nat.lt_of_lt_of_le V_dq.lt (Nat.le_of_eq g59.symm))
  have sz_b59 : h0.size ≤ b59 := Nat.le_trans Kt0.1 (Nat.le_of_eq g59.symm)
  have g_b59 : n0 ≤ b59 := Nat.le_trans Z0 sz_b59
  have K59 : Keep h0 h59 [] := Kt0.ext E59
  have F_value_b59 : Fld Z h59 b59 "java/lang/AbstractStringBuilder" "value" "[B" .null := D59 (Or.inl (ww hw 29 rfl)) (ty := (.array .byte)) (by decide)
  have F_coder_b59 : Fld Z h59 b59 "java/lang/AbstractStringBuilder" "coder" "B" (.int (0 : Int32)) := D59 (Or.inl (ww hw 31 rfl)) (ty := .byte) (by decide)
  have F_count_b59 : Fld Z h59 b59 "java/lang/AbstractStringBuilder" "count" "I" (.int (0 : Int32)) := D59 (Or.inl (ww hw 56 rfl)) (ty := .int) (by decide)
  have Oh61 := O0.keep K59 all0
  obtain ⟨_, _, ⟨T60, L60, k60, n60⟩, -, X60, ⟨Lc60, hQ60, l60, y60, z60⟩, st60⟩ := X59.specialBack hx (y := mn_29) rfl hown (mvT hZ (ww hw 15 rfl)) (mvT hZ (ww hw 16 rfl)) (mvT hZ (ww hw 17 rfl)) (by decide) (backOf (W := 1) (rm2 l Z a0 hw [] b59 cs h59 n0 (Nat.le_trans Z0 K59.1) Oh61 A59 g_b59 F_value_b59 F_coder_b59 F_count_b59 S_CS h_cs) hZ (ww hw 17 rfl) (ww hw 14 rfl) (by decide) (by decide)) (g := (mkF m 38 #[vR a1, vR a2, vR oc] [iR b59, iR b59])) rfl (by rw [hml]; rfl) (Steps.refl _) (a := b59) (argsL := []) (rest := [(.ref b59)]) (lenOf pd_23 rfl) rfl (wz rfl) (hb hby d1_38) (fun _ _ => ⟨rfl, e59, (by decide : 12 + 1 ≤ _), (by decide : 268 + 16 ≤ _)⟩)
  dsimp only [Pt.U, Pt.locs, Pt.cells, Pt.slots] at X60 l60 y60 z60 st60 hQ60
  subst l60 y60 z60
  obtain ⟨d60, kd60, rfl, N60q, K60q, E60q, Fv60q, Fc60q, Fn60q, V60q, G60q, z_d60⟩ := hQ60
  have fk62 := (E_oc.ext E59)
  have fk63 := (V_dc.ext E59)
  have fk64 := (E_a2.ext E59)
  have fk65 := (V_dq.ext E59)
  have ne_oc_d60 : oc ≠ d60 := Nat.ne_of_lt (Nat.lt_of_lt_of_le fk62.lt z_d60)
  have ne_dc_d60 : dc ≠ d60 := Nat.ne_of_lt (Nat.lt_of_lt_of_le fk63.lt z_d60)
  have ne_a2_d60 : a2 ≠ d60 := Nat.ne_of_lt (Nat.lt_of_lt_of_le fk64.lt z_d60)
  have ne_dq_d60 : dq ≠ d60 := Nat.ne_of_lt (Nat.lt_of_lt_of_le fk65.lt z_d60)
  have ne_b59_d60 : b59 ≠ d60 := Nat.ne_of_lt (Nat.lt_of_lt_of_le A59.lt z_d60)
  have sz_d60 : h0.size ≤ d60 := Nat.le_trans K59.1 z_d60
  have g_d60 : n0 ≤ d60 := Nat.le_trans Z0 sz_d60
  have N60 := Fr.app N0 N60q
  have K60 : Keep h0 T60.heap [] := Keep.trans K59 K60q (allS (Or.inr sz_b59) all0)
  have fk67 := (fk62.keep K60q)
  have fk68 := ((Fc_oc.ext E59).keep K60q (ninS ne_oc_b59 nin0))
  have fk69 := ((Fv_oc.ext E59).keep K60q (ninS ne_oc_b59 nin0))
  have fk70 := (fk63.keep K60q (ninS ne_dc_b59 nin0))
  have Oh71 := O0.keep K60 all0
  obtain ⟨cq66, kq66, q66a, q66b, q66c⟩ := isOf hZ rfl E60q
  obtain ⟨_, _, ⟨T66, L66, k66, n66⟩, -, X66, ⟨Lc66, hQ66, l66, y66, z66⟩, st66⟩ := X60.virtualBack hx (y := mn_12) (z := mn_12) hown (mvT hZ (ww hw 32 rfl)) (mvT hZ (ww hw 33 rfl)) (notFace_of_selects (args := #[]) (mvT hZ (ww hw 35 rfl))) (mvT hZ (ww hw 35 rfl)) (mvT hZ (ww hw 34 rfl)) (by decide) (backOf (W := 0) (rm5_g l Z a0 hw [] b59 oc d60 kd60 (16 : Int32) [] dc kdc (((((0 : Int32) + zp) + (8 : Int32)) + (13 : Int32)) + (1 : Int32)) A1c (0 : Int32) (34 : Int32) cs T60.heap n0 (Nat.le_trans Z0 K60.1) Oh71 E60q Fv60q Fc60q V60q g_d60 Fn60q g_b59 ne_b59_d60 fk67 fk68 fk69 fk70 hzc hA1c (Ne.symm ne_oc_b59) (Ne.symm ne_dc_b59) ne_oc_d60 (Ne.symm ne_dc_d60) (own_pb0 zp zq hpq) (own_pb1 zp zq A1c Bq hA1c hBq hpq) (own_pb2 zp zq hpq) (own_pb3 zp zq hpq) (by decide) (own_pb4 zp zq hpq) (own_pb5 zp zq hpq) (by decide) (by decide) (by decide) (by decide) (own_pb6 zp zq A1c Bq hA1c hBq hpq) (own_pb7 zp zq hpq) S_CS h_cs) hZ (ww hw 36 rfl) (ww hw 14 rfl) (by decide) (by decide)) q66a q66c (g := (mkF m 42 #[vR a1, vR a2, vR oc] [iR oc, iR b59])) rfl (by rw [hml]; rfl) (Steps.refl _) (argsL := [(.ref oc)]) (rest := []) (lenOf pd_24 rfl) rfl (wz rfl) (hb hby d1_42) (fun _ _ => ⟨rfl, rfl, (by decide : 13 + 1 ≤ _), (by decide : 284 + 70 ≤ _)⟩)
  dsimp only [Pt.U, Pt.locs, Pt.cells, Pt.slots] at X66 l66 y66 z66 st66 hQ66
  subst l66 y66 z66
  obtain ⟨d66, kd66, rfl, N66q, K66q, E66q, Fv66q, Fc66q, Fn66q, V66q, G66q, z_d66⟩ := hQ66
  have fk72 := (fk64.keep K60q)
  have fk73 := (fk65.keep K60q (ninS ne_dq_b59 nin0))
  have ne_oc_d66 : oc ≠ d66 := Nat.ne_of_lt (Nat.lt_of_lt_of_le fk67.lt z_d66)
  have ne_dc_d66 : dc ≠ d66 := Nat.ne_of_lt (Nat.lt_of_lt_of_le fk70.lt z_d66)
  have ne_a2_d66 : a2 ≠ d66 := Nat.ne_of_lt (Nat.lt_of_lt_of_le fk72.lt z_d66)
  have ne_dq_d66 : dq ≠ d66 := Nat.ne_of_lt (Nat.lt_of_lt_of_le fk73.lt z_d66)
  have ne_b59_d66 : b59 ≠ d66 := Nat.ne_of_lt (Nat.lt_of_lt_of_le E60q.lt z_d66)
  have ne_d60_d66 : d60 ≠ d66 := Nat.ne_of_lt (Nat.lt_of_lt_of_le G60q.lt z_d66)
  have sz_d66 : h0.size ≤ d66 := Nat.le_trans K60.1 z_d66
  have g_d66 : n0 ≤ d66 := Nat.le_trans Z0 sz_d66
  have N66 := Fr.app N60 N66q
  have K66 : Keep h0 T66.heap [] := Keep.trans K60 K66q (allS (Or.inr sz_b59) all0)
  have S74_b59 := Safe.ext E59 RT.1 (Safe.new (Nat.le_of_eq g59.symm))
  have R74 := RT.trans (CHr.ext E59 RT.1)
  have sq75 : ∀ x ∈ [b59], Safe Z consts_1 vmT _ x := (sfS S74_b59 sf0)
  have S75_b59 := Safe.keep K60q sq75 R74.1 S74_b59
  have S75_d60 := Safe.keep K60q sq75 R74.1 (Safe.new z_d60)
  have R75 := R74.trans (CHr.keep K60q sq75 R74.1)
  have sq76 : ∀ x ∈ [b59], Safe Z consts_1 vmT _ x := (sfS S75_b59 sf0)
  have S76_b59 := Safe.keep K66q sq76 R75.1 S75_b59
  have S76_d60 := Safe.keep K66q sq76 R75.1 S75_d60
  have S76_d66 := Safe.keep K66q sq76 R75.1 (Safe.new z_d66)
  have R76 := R75.trans (CHr.keep K66q sq76 R75.1)
  have fk77 := (G60q.keep K66q)
  obtain ⟨la78, T78, h78, kk78, lb78, kl78, X78, e78, E78, hS78, hk78, hZ, hown, EE78, FC78, FV78, VV78, -, -, C78, li78, ne78, st78⟩ := ldcCH (s := s) (vm0 := vmT) X66 hx hZ hown (ww hw 189 rfl) (own_strAtoms hw) rfl hS0 (Nat.le_trans (Nat.le_trans (Nat.le_trans hk0 E59.1) K60q.1) K66q.1) (own_EW hw) (List.mem_of_getElem? (i := 3) rfl) R76.1 (vs := own_bs [(44 : Int32), (32 : Int32), (101 : Int32), (114 : Int32), (114 : Int32), (111 : Int32), (114 : Int32), (61 : Int32), (34 : Int32)]) (z := (9 : Int32)) own_ct3 (by decide) (by decide) (g := (mkF m 45 #[vR a1, vR a2, vR oc] [iR b59])) rfl (hb hby d1_45) (n := 36) (by decide) (by decide) (by decide) (by decide)
  have K78 : Keep h0 h78 [] := K66.ext E78
  have S78_b59 := C78.safe E66q.lt S76_b59
  have S78_d60 := C78.safe fk77.lt S76_d60
  have S78_d66 := C78.safe V66q.lt S76_d66
  have R78 := R76.trans C78
  have fk80 := (E66q.ext E78)
  have fk81 := (Fv66q.ext E78)
  have fk82 := (Fc66q.ext E78)
  have fk83 := (V66q.ext E78)
  have fk84 := (Fn66q.ext E78)
  have Oh85 := O0.keep K78 all0
  obtain ⟨cq79, kq79, q79a, q79b, q79c⟩ := isOf hZ e78 fk80
  obtain ⟨_, _, ⟨T79, L79, k79, n79⟩, -, X79, ⟨Lc79, hQ79, l79, y79, z79⟩, st79⟩ := X78.virtualBack hx (y := mn_12) (z := mn_12) hown (mvT hZ (ww hw 32 rfl)) (mvT hZ (ww hw 33 rfl)) (notFace_of_selects (args := #[]) (mvT hZ (ww hw 35 rfl))) (mvT hZ (ww hw 35 rfl)) (mvT hZ (ww hw 34 rfl)) (by decide) (backOf (W := 0) (rm5_f l Z a0 hw [] b59 la78 d66 kd66 (34 : Int32) ([] ++ A1c) lb78 kl78 (9 : Int32) [(44 : Int32), (32 : Int32), (101 : Int32), (114 : Int32), (114 : Int32), (111 : Int32), (114 : Int32), (61 : Int32), (34 : Int32)] ((0 : Int32) + (((((0 : Int32) + zp) + (8 : Int32)) + (13 : Int32)) + (1 : Int32))) cs h78 n0 (Nat.le_trans Z0 K78.1) Oh85 fk80 fk81 fk82 fk83 g_d66 fk84 g_b59 ne_b59_d66 EE78 FC78 FV78 VV78 (by decide) (by decide) (ne78 _ S78_b59).1 (ne78 _ S78_b59).2 (Ne.symm (ne78 _ S78_d66).1) (ne78 _ S78_d66).2 (own_pb3 zp zq hpq) (own_pb8 zp zq A1c Bq hA1c hBq hpq) (own_pb9 zp zq hpq) (own_pb10 zp zq hpq) (by decide) (own_pb11 zp zq hpq) S_CS h_cs) hZ (ww hw 36 rfl) (ww hw 14 rfl) (by decide) (by decide)) q79a q79c (g := (mkF m 47 #[vR a1, vR a2, vR oc] [iR la78, iR b59])) rfl (by rw [hml]; rfl) (Steps.refl _) (argsL := [(.ref la78)]) (rest := []) (lenOf pd_24 rfl) rfl (wz rfl) (hb hby d1_47) (fun _ _ => ⟨rfl, e78, (by decide : 16 + 0 ≤ _), (by decide : 394 + 0 ≤ _)⟩)
  dsimp only [Pt.U, Pt.locs, Pt.cells, Pt.slots] at X79 l79 y79 z79 st79 hQ79
  subst l79 y79 z79
  obtain ⟨rfl, N79q, K79q, E79q, Fv79q, Fc79q, Fn79q, V79q⟩ := hQ79
  have N79 := Fr.app N66 N79q
  have K79 : Keep h0 T79.heap [] := Keep.trans K78 K79q (allS (Or.inr sz_b59) (allS (Or.inr sz_d66) all0))
  have fk87 := (((fk72.keep K66q).ext E78).keep K79q)
  have fk88 := (((((Fc_a2.ext E59).keep K60q (ninS ne_a2_b59 nin0)).keep K66q (ninS ne_a2_b59 nin0)).ext E78).keep K79q (ninS ne_a2_b59 (ninS ne_a2_d66 nin0)))
  have fk89 := (((((Fv_a2.ext E59).keep K60q (ninS ne_a2_b59 nin0)).keep K66q (ninS ne_a2_b59 nin0)).ext E78).keep K79q (ninS ne_a2_b59 (ninS ne_a2_d66 nin0)))
  have fk90 := (((fk73.keep K66q (ninS ne_dq_b59 nin0)).ext E78).keep K79q (ninS ne_dq_b59 (ninS ne_dq_d66 nin0)))
  have Oh91 := O0.keep K79 all0
  obtain ⟨cq86, kq86, q86a, q86b, q86c⟩ := isOf hZ rfl E79q
  obtain ⟨_, _, ⟨T86, L86, k86, n86⟩, -, X86, ⟨Lc86, hQ86, l86, y86, z86⟩, st86⟩ := X79.virtualBack hx (y := mn_12) (z := mn_12) hown (mvT hZ (ww hw 32 rfl)) (mvT hZ (ww hw 33 rfl)) (notFace_of_selects (args := #[]) (mvT hZ (ww hw 35 rfl))) (mvT hZ (ww hw 35 rfl)) (mvT hZ (ww hw 34 rfl)) (by decide) (backOf (W := 0) (rm5_f l Z a0 hw [] b59 a2 d66 kd66 (34 : Int32) (([] ++ A1c) ++ [(44 : Int32), (32 : Int32), (101 : Int32), (114 : Int32), (114 : Int32), (111 : Int32), (114 : Int32), (61 : Int32), (34 : Int32)]) dq kdq zq Bq (((0 : Int32) + (((((0 : Int32) + zp) + (8 : Int32)) + (13 : Int32)) + (1 : Int32))) + (9 : Int32)) cs T79.heap n0 (Nat.le_trans Z0 K79.1) Oh91 E79q Fv79q Fc79q V79q g_d66 Fn79q g_b59 ne_b59_d66 fk87 fk88 fk89 fk90 hzq hBq (Ne.symm ne_a2_b59) (Ne.symm ne_dq_b59) ne_a2_d66 (Ne.symm ne_dq_d66) (own_pb10 zp zq hpq) (own_pb12 zp zq A1c Bq hA1c hBq hpq) (own_pb13 zp zq hpq) (own_pb14 zp zq hpq) (by decide) (own_pb15 zp zq hpq) S_CS h_cs) hZ (ww hw 36 rfl) (ww hw 14 rfl) (by decide) (by decide)) q86a q86c (g := (mkF m 51 #[vR a1, vR a2, vR oc] [iR a2, iR b59])) rfl (by rw [hml]; rfl) (Steps.refl _) (argsL := [(.ref a2)]) (rest := []) (lenOf pd_24 rfl) rfl (wz rfl) (hb hby d1_51) (fun _ _ => ⟨rfl, rfl, (by decide : 16 + 0 ≤ _), (by decide : 394 + 0 ≤ _)⟩)
  dsimp only [Pt.U, Pt.locs, Pt.cells, Pt.slots] at X86 l86 y86 z86 st86 hQ86
  subst l86 y86 z86
  obtain ⟨rfl, N86q, K86q, E86q, Fv86q, Fc86q, Fn86q, V86q⟩ := hQ86
  have N86 := Fr.app N79 N86q
  have K86 : Keep h0 T86.heap [] := Keep.trans K79 K86q (allS (Or.inr sz_b59) (allS (Or.inr sz_d66) all0))
  have sq92 : ∀ x ∈ [b59, d66], Safe Z consts_1 T78.vm _ x := (sfS S78_b59 (sfS S78_d66 sf0))
  have S92_b59 := Safe.keep K79q sq92 R78.1 S78_b59
  have S92_d60 := Safe.keep K79q sq92 R78.1 S78_d60
  have S92_d66 := Safe.keep K79q sq92 R78.1 S78_d66
  have R92 := R78.trans (CHr.keep K79q sq92 R78.1)
  have sq93 : ∀ x ∈ [b59, d66], Safe Z consts_1 T78.vm _ x := (sfS S92_b59 (sfS S92_d66 sf0))
  have S93_b59 := Safe.keep K86q sq93 R92.1 S92_b59
  have S93_d60 := Safe.keep K86q sq93 R92.1 S92_d60
  have S93_d66 := Safe.keep K86q sq93 R92.1 S92_d66
  have R93 := R92.trans (CHr.keep K86q sq93 R92.1)
  have fk94 := (((fk77.ext E78).keep K79q).keep K86q)
  obtain ⟨la95, T95, h95, kk95, lb95, kl95, X95, e95, E95, hS95, hk95, hZ, hown, EE95, FC95, FV95, VV95, -, -, C95, li95, ne95, st95⟩ := ldcCH (s := s) (vm0 := T78.vm) X86 hx hZ hown (ww hw 107 rfl) (own_strAtoms hw) rfl hS78 (Nat.le_trans (Nat.le_trans hk78 K79q.1) K86q.1) (own_EW hw) (List.mem_of_getElem? (i := 2) rfl) R93.1 (vs := own_bs [(34 : Int32)]) (z := (1 : Int32)) own_ct2 (by decide) (by decide) (g := (mkF m 54 #[vR a1, vR a2, vR oc] [iR b59])) rfl (hb hby d1_54) (n := 4) (by decide) (by decide) (by decide) (by decide)
  have K95 : Keep h0 h95 [] := K86.ext E95
  have S95_b59 := C95.safe E86q.lt S93_b59
  have S95_d60 := C95.safe fk94.lt S93_d60
  have S95_d66 := C95.safe V86q.lt S93_d66
  have R95 := R93.trans C95
  have fk97 := (E86q.ext E95)
  have fk98 := (Fv86q.ext E95)
  have fk99 := (Fc86q.ext E95)
  have fk100 := (V86q.ext E95)
  have fk101 := (Fn86q.ext E95)
  have Oh102 := O0.keep K95 all0
  obtain ⟨cq96, kq96, q96a, q96b, q96c⟩ := isOf hZ e95 fk97
  obtain ⟨_, _, ⟨T96, L96, k96, n96⟩, -, X96, ⟨Lc96, hQ96, l96, y96, z96⟩, st96⟩ := X95.virtualBack hx (y := mn_12) (z := mn_12) hown (mvT hZ (ww hw 32 rfl)) (mvT hZ (ww hw 33 rfl)) (notFace_of_selects (args := #[]) (mvT hZ (ww hw 35 rfl))) (mvT hZ (ww hw 35 rfl)) (mvT hZ (ww hw 34 rfl)) (by decide) (backOf (W := 0) (rm5_f l Z a0 hw [] b59 la95 d66 kd66 (34 : Int32) ((([] ++ A1c) ++ [(44 : Int32), (32 : Int32), (101 : Int32), (114 : Int32), (114 : Int32), (111 : Int32), (114 : Int32), (61 : Int32), (34 : Int32)]) ++ Bq) lb95 kl95 (1 : Int32) [(34 : Int32)] ((((0 : Int32) + (((((0 : Int32) + zp) + (8 : Int32)) + (13 : Int32)) + (1 : Int32))) + (9 : Int32)) + zq) cs h95 n0 (Nat.le_trans Z0 K95.1) Oh102 fk97 fk98 fk99 fk100 g_d66 fk101 g_b59 ne_b59_d66 EE95 FC95 FV95 VV95 (by decide) (by decide) (ne95 _ S95_b59).1 (ne95 _ S95_b59).2 (Ne.symm (ne95 _ S95_d66).1) (ne95 _ S95_d66).2 (own_pb14 zp zq hpq) (own_pb16 zp zq A1c Bq hA1c hBq hpq) (own_pb17 zp zq hpq) (own_pb18 zp zq hpq) (by decide) (own_pb19 zp zq hpq) S_CS h_cs) hZ (ww hw 36 rfl) (ww hw 14 rfl) (by decide) (by decide)) q96a q96c (g := (mkF m 56 #[vR a1, vR a2, vR oc] [iR la95, iR b59])) rfl (by rw [hml]; rfl) (Steps.refl _) (argsL := [(.ref la95)]) (rest := []) (lenOf pd_24 rfl) rfl (wz rfl) (hb hby d1_56) (fun _ _ => ⟨rfl, e95, (by decide : 18 + 0 ≤ _), (by decide : 402 + 0 ≤ _)⟩)
  dsimp only [Pt.U, Pt.locs, Pt.cells, Pt.slots] at X96 l96 y96 z96 st96 hQ96
  subst l96 y96 z96
  obtain ⟨rfl, N96q, K96q, E96q, Fv96q, Fc96q, Fn96q, V96q⟩ := hQ96
  have N96 := Fr.app N86 N96q
  have K96 : Keep h0 T96.heap [] := Keep.trans K95 K96q (allS (Or.inr sz_b59) (allS (Or.inr sz_d66) all0))
  have fk104 := (((((G66q.ext E78).keep K79q).keep K86q).ext E95).keep K96q)
  have Oh105 := O0.keep K96 all0
  obtain ⟨cq103, kq103, q103a, q103b, q103c⟩ := isOf hZ rfl E96q
  obtain ⟨_, _, ⟨T103, L103, k103, n103⟩, -, X103, ⟨Lc103, hQ103, l103, y103, z103⟩, st103⟩ := X96.virtualBack hx (y := mn_22) (z := mn_22) hown (mvT hZ (ww hw 108 rfl)) (mvT hZ (ww hw 109 rfl)) (notFace_of_selects (args := #[]) (mvT hZ (ww hw 111 rfl))) (mvT hZ (ww hw 111 rfl)) (mvT hZ (ww hw 110 rfl)) (by decide) (backOf (W := 0) (rm18 l Z a0 hw [] b59 d66 kd66 (34 : Int32) (((([] ++ A1c) ++ [(44 : Int32), (32 : Int32), (101 : Int32), (114 : Int32), (114 : Int32), (111 : Int32), (114 : Int32), (61 : Int32), (34 : Int32)]) ++ Bq) ++ [(34 : Int32)]) (((((0 : Int32) + (((((0 : Int32) + zp) + (8 : Int32)) + (13 : Int32)) + (1 : Int32))) + (9 : Int32)) + zq) + (1 : Int32)) cs T96.heap n0 (Nat.le_trans Z0 K96.1) Oh105 E96q Fv96q Fc96q V96q Fn96q (own_pb18 zp zq hpq) (own_pb19 zp zq hpq) (own_pb21 zp zq hpq) (own_pb20 zp zq A1c Bq hA1c hBq hpq) fk104 S_CS h_cs) hZ (ww hw 112 rfl) (ww hw 14 rfl) (by decide) (by decide)) q103a q103c (g := (mkF m 59 #[vR a1, vR a2, vR oc] [iR b59])) rfl (by rw [hml]; rfl) (Steps.refl _) (argsL := []) (rest := []) (lenOf pd_25 rfl) rfl (wz rfl) (hb hby d1_59) (fun _ _ => ⟨rfl, rfl, (by decide : 18 + 2 ≤ _), (by decide : 402 + 74 ≤ _)⟩)
  dsimp only [Pt.U, Pt.locs, Pt.cells, Pt.slots] at X103 l103 y103 z103 st103 hQ103
  subst l103 y103 z103
  obtain ⟨o103, d103, kd103, rfl, N103q, K103q, E103q, C103q, F103q, V103q, z_o103, z_d103⟩ := hQ103
  have fk106 := ((((((fk67.keep K66q).ext E78).keep K79q).keep K86q).ext E95).keep K96q)
  have fk107 := ((((((fk70.keep K66q (ninS ne_dc_b59 nin0)).ext E78).keep K79q (ninS ne_dc_b59 (ninS ne_dc_d66 nin0))).keep K86q (ninS ne_dc_b59 (ninS ne_dc_d66 nin0))).ext E95).keep K96q (ninS ne_dc_b59 (ninS ne_dc_d66 nin0)))
  have fk108 := (((fk87.keep K86q).ext E95).keep K96q)
  have fk109 := (((fk90.keep K86q (ninS ne_dq_b59 (ninS ne_dq_d66 nin0))).ext E95).keep K96q (ninS ne_dq_b59 (ninS ne_dq_d66 nin0)))
  have fk110 := ((fk94.ext E95).keep K96q)
  have fk111 := ((((EE78.keep K79q).keep K86q).ext E95).keep K96q)
  have fk112 := ((((VV78.keep K79q (ninS (Ne.symm (ne78 _ S78_b59).2) (ninS (Ne.symm (ne78 _ S78_d66).2) nin0))).keep K86q (ninS (Ne.symm (ne78 _ S78_b59).2) (ninS (Ne.symm (ne78 _ S78_d66).2) nin0))).ext E95).keep K96q (ninS (Ne.symm (ne78 _ S78_b59).2) (ninS (Ne.symm (ne78 _ S78_d66).2) nin0)))
  have fk113 := (EE95.keep K96q)
  have fk114 := (VV95.keep K96q (ninS (Ne.symm (ne95 _ S95_b59).2) (ninS (Ne.symm (ne95 _ S95_d66).2) nin0)))
  have ne_oc_o103 : oc ≠ o103 := Nat.ne_of_lt (Nat.lt_of_lt_of_le fk106.lt z_o103)
  have ne_dc_o103 : dc ≠ o103 := Nat.ne_of_lt (Nat.lt_of_lt_of_le fk107.lt z_o103)
  have ne_a2_o103 : a2 ≠ o103 := Nat.ne_of_lt (Nat.lt_of_lt_of_le fk108.lt z_o103)
  have ne_dq_o103 : dq ≠ o103 := Nat.ne_of_lt (Nat.lt_of_lt_of_le fk109.lt z_o103)
  have ne_b59_o103 : b59 ≠ o103 := Nat.ne_of_lt (Nat.lt_of_lt_of_le E96q.lt z_o103)
  have ne_d60_o103 : d60 ≠ o103 := Nat.ne_of_lt (Nat.lt_of_lt_of_le fk110.lt z_o103)
  have ne_d66_o103 : d66 ≠ o103 := Nat.ne_of_lt (Nat.lt_of_lt_of_le V96q.lt z_o103)
  have ne_la78_o103 : la78 ≠ o103 := Nat.ne_of_lt (Nat.lt_of_lt_of_le fk111.lt z_o103)
  have ne_lb78_o103 : lb78 ≠ o103 := Nat.ne_of_lt (Nat.lt_of_lt_of_le fk112.lt z_o103)
  have ne_la95_o103 : la95 ≠ o103 := Nat.ne_of_lt (Nat.lt_of_lt_of_le fk113.lt z_o103)
  have ne_lb95_o103 : lb95 ≠ o103 := Nat.ne_of_lt (Nat.lt_of_lt_of_le fk114.lt z_o103)
  have sz_o103 : h0.size ≤ o103 := Nat.le_trans K96.1 z_o103
  have g_o103 : n0 ≤ o103 := Nat.le_trans Z0 sz_o103
  have ne_oc_d103 : oc ≠ d103 := Nat.ne_of_lt (Nat.lt_of_lt_of_le fk106.lt z_d103)
  have ne_dc_d103 : dc ≠ d103 := Nat.ne_of_lt (Nat.lt_of_lt_of_le fk107.lt z_d103)
  have ne_a2_d103 : a2 ≠ d103 := Nat.ne_of_lt (Nat.lt_of_lt_of_le fk108.lt z_d103)
  have ne_dq_d103 : dq ≠ d103 := Nat.ne_of_lt (Nat.lt_of_lt_of_le fk109.lt z_d103)
  have ne_b59_d103 : b59 ≠ d103 := Nat.ne_of_lt (Nat.lt_of_lt_of_le E96q.lt z_d103)
  have ne_d60_d103 : d60 ≠ d103 := Nat.ne_of_lt (Nat.lt_of_lt_of_le fk110.lt z_d103)
  have ne_d66_d103 : d66 ≠ d103 := Nat.ne_of_lt (Nat.lt_of_lt_of_le V96q.lt z_d103)
  have ne_la78_d103 : la78 ≠ d103 := Nat.ne_of_lt (Nat.lt_of_lt_of_le fk111.lt z_d103)
  have ne_lb78_d103 : lb78 ≠ d103 := Nat.ne_of_lt (Nat.lt_of_lt_of_le fk112.lt z_d103)
  have ne_la95_d103 : la95 ≠ d103 := Nat.ne_of_lt (Nat.lt_of_lt_of_le fk113.lt z_d103)
  have ne_lb95_d103 : lb95 ≠ d103 := Nat.ne_of_lt (Nat.lt_of_lt_of_le fk114.lt z_d103)
  have sz_d103 : h0.size ≤ d103 := Nat.le_trans K96.1 z_d103
  have g_d103 : n0 ≤ d103 := Nat.le_trans Z0 sz_d103
  have N103 := Fr.app N96 N103q
  have K103 : Keep h0 T103.heap [] := Keep.trans K96 K103q all0
  have sq115 : ∀ x ∈ [b59, d66], Safe Z consts_1 T95.vm _ x := (sfS S95_b59 (sfS S95_d66 sf0))
  have S115_b59 := Safe.keep K96q sq115 R95.1 S95_b59
  have S115_d60 := Safe.keep K96q sq115 R95.1 S95_d60
  have S115_d66 := Safe.keep K96q sq115 R95.1 S95_d66
  have R115 := R95.trans (CHr.keep K96q sq115 R95.1)
  have S116_b59 := Safe.keep K103q sf0 R115.1 S115_b59
  have S116_d60 := Safe.keep K103q sf0 R115.1 S115_d60
  have S116_d66 := Safe.keep K103q sf0 R115.1 S115_d66
  have S116_o103 := Safe.keep K103q sf0 R115.1 (Safe.new z_o103)
  have S116_d103 := Safe.keep K103q sf0 R115.1 (Safe.new z_d103)
  have R116 := R115.trans (CHr.keep K103q sf0 R115.1)
  have hfin := R116.trans (CHv.at (s := s) (vm0 := T95.vm) X103 hZ (own_EW hw) R116.1)
  obtain ⟨fs, hr, hrun, hended, hEnd⟩ := X103.leaveW hS95 (Nat.le_trans (Nat.le_trans hk95 K96q.1) K103q.1) (v := some (.ref o103)) (fun h => by rw [hret] at h; cases h)
  refine ⟨_, _, ?_, hrun, hended, _, _, rfl, ?_, (by rw [hh]; show CHr Z consts_1 s.vm h0 T103.vm T103.heap; exact hfin), ⟨hEnd.1, hEnd.2.1, hEnd.2.2.1, hEnd.2.2.2.mono (by decide) (by decide)⟩⟩
  · show SA T0 m 34 #[vR a1, vR a2, vR oc] []
    refine st59 _ ?_
    show SA T59 m 37 #[vR a1, vR a2, vR oc] [iR b59]
    refine XS.dup X59.here hx rfl (hb hby d1_37) rfl rfl ?_
    show SA T59 m 38 #[vR a1, vR a2, vR oc] [iR b59, iR b59]
    refine st60.trans ?_
    show SA T60 m 41 #[vR a1, vR a2, vR oc] [iR b59]
    refine XS.aloadN X60.here hx rfl (hb hby d1_41) rfl rfl ?_
    show SA T60 m 42 #[vR a1, vR a2, vR oc] [iR oc, iR b59]
    refine st66.trans ?_
    show SA T66 m 45 #[vR a1, vR a2, vR oc] [iR b59]
    refine st78 _ ?_
    show SA T78 m 47 #[vR a1, vR a2, vR oc] [iR la78, iR b59]
    refine st79.trans ?_
    show SA T79 m 50 #[vR a1, vR a2, vR oc] [iR b59]
    refine XS.aloadN X79.here hx rfl (hb hby d1_50) rfl rfl ?_
    show SA T79 m 51 #[vR a1, vR a2, vR oc] [iR a2, iR b59]
    refine st86.trans ?_
    show SA T86 m 54 #[vR a1, vR a2, vR oc] [iR b59]
    refine st95 _ ?_
    show SA T95 m 56 #[vR a1, vR a2, vR oc] [iR la95, iR b59]
    refine st96.trans ?_
    show SA T96 m 59 #[vR a1, vR a2, vR oc] [iR b59]
    refine st103.trans ?_
    show SA T103 m 62 #[vR a1, vR a2, vR oc] [iR o103]
    refine XS.astoreN X103.here hx rfl (hb hby d1_62) rfl rfl (l' := #[vR a1, vR a2, vR o103]) rfl ?_
    show SA T103 m 63 #[vR a1, vR a2, vR o103] []
    refine XS.aloadN X103.here hx rfl (hb hby d1_63) rfl rfl ?_
    show Steps _ _ _ (T103.setTop (mkF m 64 #[vR a1, vR a2, vR o103] [iR o103])) _
    jvm_step X103.here [X103.here.top, hx, (hb hby d1_64), X103.method', hret, Value.isRef, FieldType.isReference]
    first | (intro acts; rw [hr _ acts rfl rfl rfl]) | rw [hr _ _ rfl rfl rfl]
    exact Steps.refl _
  · show own_QX Z zz BB h0 n0 _ T103.heap _
    exact ⟨_, _, _, rfl, N103, K103, E103q, C103q, F103q, (by rw [← hzz, ← hBB]; exact V103q)⟩
theorem own_t34c {p : Program} {l : Launch} {e : Env} {s : State} {m : MethodId} {below : List Frame} {meth : Method} {c : Code} {T0 : State} {locs : List Loc} {Z : State} {a0 : Array Value} {h0 hT : Heap} {n0 : Nat} {vmT : Vm} {kT : Nat} {a1 a2 oc dc dq : Addr} {kdc kdq : ClassId} {zp zq zz : Int32} {A1c Bq BB : List Int32} {cs : Int32}
    (X0 : Stand p l e ({ frames := 6, cells := 21, slots := 546, locals := 91 } : Room) (s.setVm vmT) m #[(.ref a1), (.ref a2)] below meth c T0 locs 11 264) (hx : p.tables.exec = Jvm.exec) (hZ : Z.Warmed39 (s.setVm vmT).vm) (hw : ∀ d ∈ tables_1, d.before a0 Z = true) (hby : c.code = prog_1_method_3_code) (hml : c.maxLocals = 3) (hown : (s.setVm vmT).vm.findClass "com/example/cloud_to_core/cloudtocore/auth/HttpAuthorization" = some m.cls) (hret : meth.sig.returnType = some (.object "java/lang/String")) (hlocks : meth.locks = false) (e0 : T0.heap = hT) (Kt0 : Keep h0 hT []) (N0 : Fr n0 locs) (Z0 : n0 ≤ h0.size) (O0 : Old Z n0 h0) (hS0 : s.Since vmT kT) (hk0 : kT ≤ hT.size) (RT : CHr Z consts_1 s.vm h0 vmT hT) (hh : s.heap = h0) (E_oc : Exa Z hT oc "java/lang/String") (Fc_oc : Fld Z hT oc "java/lang/String" "coder" "B" (.int (0 : Int32))) (Fv_oc : Fld Z hT oc "java/lang/String" "value" "[B" (.ref dc)) (V_dc : Arv Z hT dc kdc .byte (((((0 : Int32) + zp) + (8 : Int32)) + (13 : Int32)) + (1 : Int32)) (own_bs A1c) (.int (0 : Int32))) (hzc : ¬ (((((0 : Int32) + zp) + (8 : Int32)) + (13 : Int32)) + (1 : Int32)) < 0) (hA1c : (((((0 : Int32) + zp) + (8 : Int32)) + (13 : Int32)) + (1 : Int32)).toNatClampNeg = A1c.length) (E_a2 : Exa Z hT a2 "java/lang/String") (Fc_a2 : Fld Z hT a2 "java/lang/String" "coder" "B" (.int (0 : Int32))) (Fv_a2 : Fld Z hT a2 "java/lang/String" "value" "[B" (.ref dq)) (V_dq : Arv Z hT dq kdq .byte zq (own_bs Bq) (.int (0 : Int32))) (hzq : ¬ zq < 0) (hBq : zq.toNatClampNeg = Bq.length) (hpq : (zp = (1 : Int32) ∧ zq = (2 : Int32)) ∨ (zp = (2 : Int32) ∧ zq = (1 : Int32))) (hzz : (((((0 : Int32) + (((((0 : Int32) + zp) + (8 : Int32)) + (13 : Int32)) + (1 : Int32))) + (9 : Int32)) + zq) + (1 : Int32)) = zz) (hBB : (((([] ++ A1c) ++ [(44 : Int32), (32 : Int32), (101 : Int32), (114 : Int32), (114 : Int32), (111 : Int32), (114 : Int32), (61 : Int32), (34 : Int32)]) ++ Bq) ++ [(34 : Int32)]) = BB) (S_CS : Sta Z Z.heap "java/lang/String" "COMPACT_STRINGS" "Z" (.int cs)) (h_cs : ¬ cs = (0 : Int32)) :
    ∃ s₂ o, Steps p.tables e below (T0.setTop (mkF m 34 #[vR a1, vR a2, vR oc] [])) s₂ ∧ s₂.status = .running ∧ Ended s₂ below o ∧ ∃ v L, o = .returned v ∧ own_QX Z zz BB h0 n0 v s₂.heap L ∧ CHr Z consts_1 s.vm s.heap s₂.vm s₂.heap ∧ ReturnedEndW s o s₂ L ({ frames := 6, cells := 21, slots := 546, locals := 91 } : Room).cells ({ frames := 6, cells := 21, slots := 546, locals := 91 } : Room).slots := by
  obtain ⟨T117, h117, X117, e117, E117, A117, D117, -, st117⟩ := newO X0 hx hZ hown (ww hw 12 rfl) (ww hw 13 rfl) (ww hw 14 rfl) e0 (g := (mkF m 34 #[vR a1, vR a2, vR oc] [])) rfl (hb hby d1_34) (by decide) (by decide)
  obtain ⟨b117, g117⟩ : ∃ z, z = hT.size := ⟨_, rfl⟩
  rw [← g117] at A117 D117 st117
  have ne_oc_b117 : oc ≠ b117 := Nat.ne_of_lt (Nat.lt_of_lt_of_le E_oc.lt (Nat.le_of_eq g117.symm))
  have ne_dc_b117 : dc ≠ b117 := Nat.ne_of_lt (Nat.lt_of_lt_of_le V_dc.lt (Nat.le_of_eq g117.symm))
  have ne_a2_b117 : a2 ≠ b117 := Nat.ne_of_lt (Nat.lt_of_lt_of_le E_a2.lt (Nat.le_of_eq g117.symm))
  have ne_dq_b117 : dq ≠ b117 := Nat.ne_of_lt (Nat.lt_of_lt_of_le V_dq.lt (Nat.le_of_eq g117.symm))
  have sz_b117 : h0.size ≤ b117 := Nat.le_trans Kt0.1 (Nat.le_of_eq g117.symm)
  have g_b117 : n0 ≤ b117 := Nat.le_trans Z0 sz_b117
  have K117 : Keep h0 h117 [] := Kt0.ext E117
  have F_value_b117 : Fld Z h117 b117 "java/lang/AbstractStringBuilder" "value" "[B" .null := D117 (Or.inl (ww hw 29 rfl)) (ty := (.array .byte)) (by decide)
  have F_coder_b117 : Fld Z h117 b117 "java/lang/AbstractStringBuilder" "coder" "B" (.int (0 : Int32)) := D117 (Or.inl (ww hw 31 rfl)) (ty := .byte) (by decide)
  have F_count_b117 : Fld Z h117 b117 "java/lang/AbstractStringBuilder" "count" "I" (.int (0 : Int32)) := D117 (Or.inl (ww hw 56 rfl)) (ty := .int) (by decide)
  have Oh119 := O0.keep K117 all0
  obtain ⟨_, _, ⟨T118, L118, k118, n118⟩, -, X118, ⟨Lc118, hQ118, l118, y118, z118⟩, st118⟩ := X117.specialBack hx (y := mn_29) rfl hown (mvT hZ (ww hw 15 rfl)) (mvT hZ (ww hw 16 rfl)) (mvT hZ (ww hw 17 rfl)) (by decide) (backOf (W := 1) (rm2 l Z a0 hw [] b117 cs h117 n0 (Nat.le_trans Z0 K117.1) Oh119 A117 g_b117 F_value_b117 F_coder_b117 F_count_b117 S_CS h_cs) hZ (ww hw 17 rfl) (ww hw 14 rfl) (by decide) (by decide)) (g := (mkF m 38 #[vR a1, vR a2, vR oc] [iR b117, iR b117])) rfl (by rw [hml]; rfl) (Steps.refl _) (a := b117) (argsL := []) (rest := [(.ref b117)]) (lenOf pd_23 rfl) rfl (wz rfl) (hb hby d1_38) (fun _ _ => ⟨rfl, e117, (by decide : 12 + 1 ≤ _), (by decide : 268 + 16 ≤ _)⟩)
  dsimp only [Pt.U, Pt.locs, Pt.cells, Pt.slots] at X118 l118 y118 z118 st118 hQ118
  subst l118 y118 z118
  obtain ⟨d118, kd118, rfl, N118q, K118q, E118q, Fv118q, Fc118q, Fn118q, V118q, G118q, z_d118⟩ := hQ118
  have fk120 := (E_oc.ext E117)
  have fk121 := (V_dc.ext E117)
  have fk122 := (E_a2.ext E117)
  have fk123 := (V_dq.ext E117)
  have ne_oc_d118 : oc ≠ d118 := Nat.ne_of_lt (Nat.lt_of_lt_of_le fk120.lt z_d118)
  have ne_dc_d118 : dc ≠ d118 := Nat.ne_of_lt (Nat.lt_of_lt_of_le fk121.lt z_d118)
  have ne_a2_d118 : a2 ≠ d118 := Nat.ne_of_lt (Nat.lt_of_lt_of_le fk122.lt z_d118)
  have ne_dq_d118 : dq ≠ d118 := Nat.ne_of_lt (Nat.lt_of_lt_of_le fk123.lt z_d118)
  have ne_b117_d118 : b117 ≠ d118 := Nat.ne_of_lt (Nat.lt_of_lt_of_le A117.lt z_d118)
  have sz_d118 : h0.size ≤ d118 := Nat.le_trans K117.1 z_d118
  have g_d118 : n0 ≤ d118 := Nat.le_trans Z0 sz_d118
  have N118 := Fr.app N0 N118q
  have K118 : Keep h0 T118.heap [] := Keep.trans K117 K118q (allS (Or.inr sz_b117) all0)
  have fk125 := (fk120.keep K118q)
  have fk126 := ((Fc_oc.ext E117).keep K118q (ninS ne_oc_b117 nin0))
  have fk127 := ((Fv_oc.ext E117).keep K118q (ninS ne_oc_b117 nin0))
  have fk128 := (fk121.keep K118q (ninS ne_dc_b117 nin0))
  have Oh129 := O0.keep K118 all0
  obtain ⟨cq124, kq124, q124a, q124b, q124c⟩ := isOf hZ rfl E118q
  obtain ⟨_, _, ⟨T124, L124, k124, n124⟩, -, X124, ⟨Lc124, hQ124, l124, y124, z124⟩, st124⟩ := X118.virtualBack hx (y := mn_12) (z := mn_12) hown (mvT hZ (ww hw 32 rfl)) (mvT hZ (ww hw 33 rfl)) (notFace_of_selects (args := #[]) (mvT hZ (ww hw 35 rfl))) (mvT hZ (ww hw 35 rfl)) (mvT hZ (ww hw 34 rfl)) (by decide) (backOf (W := 0) (rm5_g l Z a0 hw [] b117 oc d118 kd118 (16 : Int32) [] dc kdc (((((0 : Int32) + zp) + (8 : Int32)) + (13 : Int32)) + (1 : Int32)) A1c (0 : Int32) (34 : Int32) cs T118.heap n0 (Nat.le_trans Z0 K118.1) Oh129 E118q Fv118q Fc118q V118q g_d118 Fn118q g_b117 ne_b117_d118 fk125 fk126 fk127 fk128 hzc hA1c (Ne.symm ne_oc_b117) (Ne.symm ne_dc_b117) ne_oc_d118 (Ne.symm ne_dc_d118) (own_pc0 zp zq hpq) (own_pc1 zp zq A1c Bq hA1c hBq hpq) (own_pc2 zp zq hpq) (own_pc3 zp zq hpq) (by decide) (own_pc4 zp zq hpq) (own_pc5 zp zq hpq) (by decide) (by decide) (by decide) (by decide) (own_pc6 zp zq A1c Bq hA1c hBq hpq) (own_pc7 zp zq hpq) S_CS h_cs) hZ (ww hw 36 rfl) (ww hw 14 rfl) (by decide) (by decide)) q124a q124c (g := (mkF m 42 #[vR a1, vR a2, vR oc] [iR oc, iR b117])) rfl (by rw [hml]; rfl) (Steps.refl _) (argsL := [(.ref oc)]) (rest := []) (lenOf pd_24 rfl) rfl (wz rfl) (hb hby d1_42) (fun _ _ => ⟨rfl, rfl, (by decide : 13 + 1 ≤ _), (by decide : 284 + 70 ≤ _)⟩)
  dsimp only [Pt.U, Pt.locs, Pt.cells, Pt.slots] at X124 l124 y124 z124 st124 hQ124
  subst l124 y124 z124
  obtain ⟨d124, kd124, rfl, N124q, K124q, E124q, Fv124q, Fc124q, Fn124q, V124q, G124q, z_d124⟩ := hQ124
  have fk130 := (fk122.keep K118q)
  have fk131 := (fk123.keep K118q (ninS ne_dq_b117 nin0))
  have ne_oc_d124 : oc ≠ d124 := Nat.ne_of_lt (Nat.lt_of_lt_of_le fk125.lt z_d124)
  have ne_dc_d124 : dc ≠ d124 := Nat.ne_of_lt (Nat.lt_of_lt_of_le fk128.lt z_d124)
  have ne_a2_d124 : a2 ≠ d124 := Nat.ne_of_lt (Nat.lt_of_lt_of_le fk130.lt z_d124)
  have ne_dq_d124 : dq ≠ d124 := Nat.ne_of_lt (Nat.lt_of_lt_of_le fk131.lt z_d124)
  have ne_b117_d124 : b117 ≠ d124 := Nat.ne_of_lt (Nat.lt_of_lt_of_le E118q.lt z_d124)
  have ne_d118_d124 : d118 ≠ d124 := Nat.ne_of_lt (Nat.lt_of_lt_of_le G118q.lt z_d124)
  have sz_d124 : h0.size ≤ d124 := Nat.le_trans K118.1 z_d124
  have g_d124 : n0 ≤ d124 := Nat.le_trans Z0 sz_d124
  have N124 := Fr.app N118 N124q
  have K124 : Keep h0 T124.heap [] := Keep.trans K118 K124q (allS (Or.inr sz_b117) all0)
  have S132_b117 := Safe.ext E117 RT.1 (Safe.new (Nat.le_of_eq g117.symm))
  have R132 := RT.trans (CHr.ext E117 RT.1)
  have sq133 : ∀ x ∈ [b117], Safe Z consts_1 vmT _ x := (sfS S132_b117 sf0)
  have S133_b117 := Safe.keep K118q sq133 R132.1 S132_b117
  have S133_d118 := Safe.keep K118q sq133 R132.1 (Safe.new z_d118)
  have R133 := R132.trans (CHr.keep K118q sq133 R132.1)
  have sq134 : ∀ x ∈ [b117], Safe Z consts_1 vmT _ x := (sfS S133_b117 sf0)
  have S134_b117 := Safe.keep K124q sq134 R133.1 S133_b117
  have S134_d118 := Safe.keep K124q sq134 R133.1 S133_d118
  have S134_d124 := Safe.keep K124q sq134 R133.1 (Safe.new z_d124)
  have R134 := R133.trans (CHr.keep K124q sq134 R133.1)
  have fk135 := (G118q.keep K124q)
  obtain ⟨la136, T136, h136, kk136, lb136, kl136, X136, e136, E136, hS136, hk136, hZ, hown, EE136, FC136, FV136, VV136, -, -, C136, li136, ne136, st136⟩ := ldcCH (s := s) (vm0 := vmT) X124 hx hZ hown (ww hw 189 rfl) (own_strAtoms hw) rfl hS0 (Nat.le_trans (Nat.le_trans (Nat.le_trans hk0 E117.1) K118q.1) K124q.1) (own_EW hw) (List.mem_of_getElem? (i := 3) rfl) R134.1 (vs := own_bs [(44 : Int32), (32 : Int32), (101 : Int32), (114 : Int32), (114 : Int32), (111 : Int32), (114 : Int32), (61 : Int32), (34 : Int32)]) (z := (9 : Int32)) own_ct3 (by decide) (by decide) (g := (mkF m 45 #[vR a1, vR a2, vR oc] [iR b117])) rfl (hb hby d1_45) (n := 36) (by decide) (by decide) (by decide) (by decide)
  have K136 : Keep h0 h136 [] := K124.ext E136
  have S136_b117 := C136.safe E124q.lt S134_b117
  have S136_d118 := C136.safe fk135.lt S134_d118
  have S136_d124 := C136.safe V124q.lt S134_d124
  have R136 := R134.trans C136
  have fk138 := (E124q.ext E136)
  have fk139 := (Fv124q.ext E136)
  have fk140 := (Fc124q.ext E136)
  have fk141 := (V124q.ext E136)
  have fk142 := (Fn124q.ext E136)
  have Oh143 := O0.keep K136 all0
  obtain ⟨cq137, kq137, q137a, q137b, q137c⟩ := isOf hZ e136 fk138
  obtain ⟨_, _, ⟨T137, L137, k137, n137⟩, -, X137, ⟨Lc137, hQ137, l137, y137, z137⟩, st137⟩ := X136.virtualBack hx (y := mn_12) (z := mn_12) hown (mvT hZ (ww hw 32 rfl)) (mvT hZ (ww hw 33 rfl)) (notFace_of_selects (args := #[]) (mvT hZ (ww hw 35 rfl))) (mvT hZ (ww hw 35 rfl)) (mvT hZ (ww hw 34 rfl)) (by decide) (backOf (W := 0) (rm5_f l Z a0 hw [] b117 la136 d124 kd124 (34 : Int32) ([] ++ A1c) lb136 kl136 (9 : Int32) [(44 : Int32), (32 : Int32), (101 : Int32), (114 : Int32), (114 : Int32), (111 : Int32), (114 : Int32), (61 : Int32), (34 : Int32)] ((0 : Int32) + (((((0 : Int32) + zp) + (8 : Int32)) + (13 : Int32)) + (1 : Int32))) cs h136 n0 (Nat.le_trans Z0 K136.1) Oh143 fk138 fk139 fk140 fk141 g_d124 fk142 g_b117 ne_b117_d124 EE136 FC136 FV136 VV136 (by decide) (by decide) (ne136 _ S136_b117).1 (ne136 _ S136_b117).2 (Ne.symm (ne136 _ S136_d124).1) (ne136 _ S136_d124).2 (own_pc3 zp zq hpq) (own_pc8 zp zq A1c Bq hA1c hBq hpq) (own_pc9 zp zq hpq) (own_pc10 zp zq hpq) (by decide) (own_pc11 zp zq hpq) S_CS h_cs) hZ (ww hw 36 rfl) (ww hw 14 rfl) (by decide) (by decide)) q137a q137c (g := (mkF m 47 #[vR a1, vR a2, vR oc] [iR la136, iR b117])) rfl (by rw [hml]; rfl) (Steps.refl _) (argsL := [(.ref la136)]) (rest := []) (lenOf pd_24 rfl) rfl (wz rfl) (hb hby d1_47) (fun _ _ => ⟨rfl, e136, (by decide : 16 + 0 ≤ _), (by decide : 394 + 0 ≤ _)⟩)
  dsimp only [Pt.U, Pt.locs, Pt.cells, Pt.slots] at X137 l137 y137 z137 st137 hQ137
  subst l137 y137 z137
  obtain ⟨rfl, N137q, K137q, E137q, Fv137q, Fc137q, Fn137q, V137q⟩ := hQ137
  have N137 := Fr.app N124 N137q
  have K137 : Keep h0 T137.heap [] := Keep.trans K136 K137q (allS (Or.inr sz_b117) (allS (Or.inr sz_d124) all0))
  have fk145 := (((fk130.keep K124q).ext E136).keep K137q)
  have fk146 := (((((Fc_a2.ext E117).keep K118q (ninS ne_a2_b117 nin0)).keep K124q (ninS ne_a2_b117 nin0)).ext E136).keep K137q (ninS ne_a2_b117 (ninS ne_a2_d124 nin0)))
  have fk147 := (((((Fv_a2.ext E117).keep K118q (ninS ne_a2_b117 nin0)).keep K124q (ninS ne_a2_b117 nin0)).ext E136).keep K137q (ninS ne_a2_b117 (ninS ne_a2_d124 nin0)))
  have fk148 := (((fk131.keep K124q (ninS ne_dq_b117 nin0)).ext E136).keep K137q (ninS ne_dq_b117 (ninS ne_dq_d124 nin0)))
  have Oh149 := O0.keep K137 all0
  obtain ⟨cq144, kq144, q144a, q144b, q144c⟩ := isOf hZ rfl E137q
  obtain ⟨_, _, ⟨T144, L144, k144, n144⟩, -, X144, ⟨Lc144, hQ144, l144, y144, z144⟩, st144⟩ := X137.virtualBack hx (y := mn_12) (z := mn_12) hown (mvT hZ (ww hw 32 rfl)) (mvT hZ (ww hw 33 rfl)) (notFace_of_selects (args := #[]) (mvT hZ (ww hw 35 rfl))) (mvT hZ (ww hw 35 rfl)) (mvT hZ (ww hw 34 rfl)) (by decide) (backOf (W := 0) (rm5_f l Z a0 hw [] b117 a2 d124 kd124 (34 : Int32) (([] ++ A1c) ++ [(44 : Int32), (32 : Int32), (101 : Int32), (114 : Int32), (114 : Int32), (111 : Int32), (114 : Int32), (61 : Int32), (34 : Int32)]) dq kdq zq Bq (((0 : Int32) + (((((0 : Int32) + zp) + (8 : Int32)) + (13 : Int32)) + (1 : Int32))) + (9 : Int32)) cs T137.heap n0 (Nat.le_trans Z0 K137.1) Oh149 E137q Fv137q Fc137q V137q g_d124 Fn137q g_b117 ne_b117_d124 fk145 fk146 fk147 fk148 hzq hBq (Ne.symm ne_a2_b117) (Ne.symm ne_dq_b117) ne_a2_d124 (Ne.symm ne_dq_d124) (own_pc10 zp zq hpq) (own_pc12 zp zq A1c Bq hA1c hBq hpq) (own_pc13 zp zq hpq) (own_pc14 zp zq hpq) (by decide) (own_pc15 zp zq hpq) S_CS h_cs) hZ (ww hw 36 rfl) (ww hw 14 rfl) (by decide) (by decide)) q144a q144c (g := (mkF m 51 #[vR a1, vR a2, vR oc] [iR a2, iR b117])) rfl (by rw [hml]; rfl) (Steps.refl _) (argsL := [(.ref a2)]) (rest := []) (lenOf pd_24 rfl) rfl (wz rfl) (hb hby d1_51) (fun _ _ => ⟨rfl, rfl, (by decide : 16 + 0 ≤ _), (by decide : 394 + 0 ≤ _)⟩)
  dsimp only [Pt.U, Pt.locs, Pt.cells, Pt.slots] at X144 l144 y144 z144 st144 hQ144
  subst l144 y144 z144
  obtain ⟨rfl, N144q, K144q, E144q, Fv144q, Fc144q, Fn144q, V144q⟩ := hQ144
  have N144 := Fr.app N137 N144q
  have K144 : Keep h0 T144.heap [] := Keep.trans K137 K144q (allS (Or.inr sz_b117) (allS (Or.inr sz_d124) all0))
  have sq150 : ∀ x ∈ [b117, d124], Safe Z consts_1 T136.vm _ x := (sfS S136_b117 (sfS S136_d124 sf0))
  have S150_b117 := Safe.keep K137q sq150 R136.1 S136_b117
  have S150_d118 := Safe.keep K137q sq150 R136.1 S136_d118
  have S150_d124 := Safe.keep K137q sq150 R136.1 S136_d124
  have R150 := R136.trans (CHr.keep K137q sq150 R136.1)
  have sq151 : ∀ x ∈ [b117, d124], Safe Z consts_1 T136.vm _ x := (sfS S150_b117 (sfS S150_d124 sf0))
  have S151_b117 := Safe.keep K144q sq151 R150.1 S150_b117
  have S151_d118 := Safe.keep K144q sq151 R150.1 S150_d118
  have S151_d124 := Safe.keep K144q sq151 R150.1 S150_d124
  have R151 := R150.trans (CHr.keep K144q sq151 R150.1)
  have fk152 := (((fk135.ext E136).keep K137q).keep K144q)
  obtain ⟨la153, T153, h153, kk153, lb153, kl153, X153, e153, E153, hS153, hk153, hZ, hown, EE153, FC153, FV153, VV153, -, -, C153, li153, ne153, st153⟩ := ldcCH (s := s) (vm0 := T136.vm) X144 hx hZ hown (ww hw 107 rfl) (own_strAtoms hw) rfl hS136 (Nat.le_trans (Nat.le_trans hk136 K137q.1) K144q.1) (own_EW hw) (List.mem_of_getElem? (i := 2) rfl) R151.1 (vs := own_bs [(34 : Int32)]) (z := (1 : Int32)) own_ct2 (by decide) (by decide) (g := (mkF m 54 #[vR a1, vR a2, vR oc] [iR b117])) rfl (hb hby d1_54) (n := 4) (by decide) (by decide) (by decide) (by decide)
  have K153 : Keep h0 h153 [] := K144.ext E153
  have S153_b117 := C153.safe E144q.lt S151_b117
  have S153_d118 := C153.safe fk152.lt S151_d118
  have S153_d124 := C153.safe V144q.lt S151_d124
  have R153 := R151.trans C153
  have fk155 := (E144q.ext E153)
  have fk156 := (Fv144q.ext E153)
  have fk157 := (Fc144q.ext E153)
  have fk158 := (V144q.ext E153)
  have fk159 := (Fn144q.ext E153)
  have Oh160 := O0.keep K153 all0
  obtain ⟨cq154, kq154, q154a, q154b, q154c⟩ := isOf hZ e153 fk155
  obtain ⟨_, _, ⟨T154, L154, k154, n154⟩, -, X154, ⟨Lc154, hQ154, l154, y154, z154⟩, st154⟩ := X153.virtualBack hx (y := mn_12) (z := mn_12) hown (mvT hZ (ww hw 32 rfl)) (mvT hZ (ww hw 33 rfl)) (notFace_of_selects (args := #[]) (mvT hZ (ww hw 35 rfl))) (mvT hZ (ww hw 35 rfl)) (mvT hZ (ww hw 34 rfl)) (by decide) (backOf (W := 0) (rm5_g l Z a0 hw [] b117 la153 d124 kd124 (34 : Int32) ((([] ++ A1c) ++ [(44 : Int32), (32 : Int32), (101 : Int32), (114 : Int32), (114 : Int32), (111 : Int32), (114 : Int32), (61 : Int32), (34 : Int32)]) ++ Bq) lb153 kl153 (1 : Int32) [(34 : Int32)] ((((0 : Int32) + (((((0 : Int32) + zp) + (8 : Int32)) + (13 : Int32)) + (1 : Int32))) + (9 : Int32)) + zq) (70 : Int32) cs h153 n0 (Nat.le_trans Z0 K153.1) Oh160 fk155 fk156 fk157 fk158 g_d124 fk159 g_b117 ne_b117_d124 EE153 FC153 FV153 VV153 (by decide) (by decide) (ne153 _ S153_b117).1 (ne153 _ S153_b117).2 (Ne.symm (ne153 _ S153_d124).1) (ne153 _ S153_d124).2 (own_pc14 zp zq hpq) (own_pc16 zp zq A1c Bq hA1c hBq hpq) (own_pc17 zp zq hpq) (own_pc18 zp zq hpq) (by decide) (own_pc19 zp zq hpq) (own_pc20 zp zq hpq) (by decide) (by decide) (by decide) (by decide) (own_pc21 zp zq A1c Bq hA1c hBq hpq) (own_pc22 zp zq hpq) S_CS h_cs) hZ (ww hw 36 rfl) (ww hw 14 rfl) (by decide) (by decide)) q154a q154c (g := (mkF m 56 #[vR a1, vR a2, vR oc] [iR la153, iR b117])) rfl (by rw [hml]; rfl) (Steps.refl _) (argsL := [(.ref la153)]) (rest := []) (lenOf pd_24 rfl) rfl (wz rfl) (hb hby d1_56) (fun _ _ => ⟨rfl, e153, (by decide : 18 + 1 ≤ _), (by decide : 402 + 70 ≤ _)⟩)
  dsimp only [Pt.U, Pt.locs, Pt.cells, Pt.slots] at X154 l154 y154 z154 st154 hQ154
  subst l154 y154 z154
  obtain ⟨d154, kd154, rfl, N154q, K154q, E154q, Fv154q, Fc154q, Fn154q, V154q, G154q, z_d154⟩ := hQ154
  have fk161 := (((((fk125.keep K124q).ext E136).keep K137q).keep K144q).ext E153)
  have fk162 := (((((fk128.keep K124q (ninS ne_dc_b117 nin0)).ext E136).keep K137q (ninS ne_dc_b117 (ninS ne_dc_d124 nin0))).keep K144q (ninS ne_dc_b117 (ninS ne_dc_d124 nin0))).ext E153)
  have fk163 := ((fk145.keep K144q).ext E153)
  have fk164 := ((fk148.keep K144q (ninS ne_dq_b117 (ninS ne_dq_d124 nin0))).ext E153)
  have fk165 := (fk152.ext E153)
  have fk166 := (((EE136.keep K137q).keep K144q).ext E153)
  have fk167 := (((VV136.keep K137q (ninS (Ne.symm (ne136 _ S136_b117).2) (ninS (Ne.symm (ne136 _ S136_d124).2) nin0))).keep K144q (ninS (Ne.symm (ne136 _ S136_b117).2) (ninS (Ne.symm (ne136 _ S136_d124).2) nin0))).ext E153)
  have ne_oc_d154 : oc ≠ d154 := Nat.ne_of_lt (Nat.lt_of_lt_of_le fk161.lt z_d154)
  have ne_dc_d154 : dc ≠ d154 := Nat.ne_of_lt (Nat.lt_of_lt_of_le fk162.lt z_d154)
  have ne_a2_d154 : a2 ≠ d154 := Nat.ne_of_lt (Nat.lt_of_lt_of_le fk163.lt z_d154)
  have ne_dq_d154 : dq ≠ d154 := Nat.ne_of_lt (Nat.lt_of_lt_of_le fk164.lt z_d154)
  have ne_b117_d154 : b117 ≠ d154 := Nat.ne_of_lt (Nat.lt_of_lt_of_le fk155.lt z_d154)
  have ne_d118_d154 : d118 ≠ d154 := Nat.ne_of_lt (Nat.lt_of_lt_of_le fk165.lt z_d154)
  have ne_d124_d154 : d124 ≠ d154 := Nat.ne_of_lt (Nat.lt_of_lt_of_le fk158.lt z_d154)
  have ne_la136_d154 : la136 ≠ d154 := Nat.ne_of_lt (Nat.lt_of_lt_of_le fk166.lt z_d154)
  have ne_lb136_d154 : lb136 ≠ d154 := Nat.ne_of_lt (Nat.lt_of_lt_of_le fk167.lt z_d154)
  have ne_la153_d154 : la153 ≠ d154 := Nat.ne_of_lt (Nat.lt_of_lt_of_le EE153.lt z_d154)
  have ne_lb153_d154 : lb153 ≠ d154 := Nat.ne_of_lt (Nat.lt_of_lt_of_le VV153.lt z_d154)
  have sz_d154 : h0.size ≤ d154 := Nat.le_trans K153.1 z_d154
  have g_d154 : n0 ≤ d154 := Nat.le_trans Z0 sz_d154
  have N154 := Fr.app N144 N154q
  have K154 : Keep h0 T154.heap [] := Keep.trans K153 K154q (allS (Or.inr sz_b117) all0)
  have Oh169 := O0.keep K154 all0
  obtain ⟨cq168, kq168, q168a, q168b, q168c⟩ := isOf hZ rfl E154q
  obtain ⟨_, _, ⟨T168, L168, k168, n168⟩, -, X168, ⟨Lc168, hQ168, l168, y168, z168⟩, st168⟩ := X154.virtualBack hx (y := mn_22) (z := mn_22) hown (mvT hZ (ww hw 108 rfl)) (mvT hZ (ww hw 109 rfl)) (notFace_of_selects (args := #[]) (mvT hZ (ww hw 111 rfl))) (mvT hZ (ww hw 111 rfl)) (mvT hZ (ww hw 110 rfl)) (by decide) (backOf (W := 0) (rm18 l Z a0 hw [] b117 d154 kd154 (70 : Int32) (((([] ++ A1c) ++ [(44 : Int32), (32 : Int32), (101 : Int32), (114 : Int32), (114 : Int32), (111 : Int32), (114 : Int32), (61 : Int32), (34 : Int32)]) ++ Bq) ++ [(34 : Int32)]) (((((0 : Int32) + (((((0 : Int32) + zp) + (8 : Int32)) + (13 : Int32)) + (1 : Int32))) + (9 : Int32)) + zq) + (1 : Int32)) cs T154.heap n0 (Nat.le_trans Z0 K154.1) Oh169 E154q Fv154q Fc154q V154q Fn154q (own_pc18 zp zq hpq) (own_pc22 zp zq hpq) (own_pc24 zp zq hpq) (own_pc23 zp zq A1c Bq hA1c hBq hpq) G154q S_CS h_cs) hZ (ww hw 112 rfl) (ww hw 14 rfl) (by decide) (by decide)) q168a q168c (g := (mkF m 59 #[vR a1, vR a2, vR oc] [iR b117])) rfl (by rw [hml]; rfl) (Steps.refl _) (argsL := []) (rest := []) (lenOf pd_25 rfl) rfl (wz rfl) (hb hby d1_59) (fun _ _ => ⟨rfl, rfl, (by decide : 19 + 2 ≤ _), (by decide : 472 + 74 ≤ _)⟩)
  dsimp only [Pt.U, Pt.locs, Pt.cells, Pt.slots] at X168 l168 y168 z168 st168 hQ168
  subst l168 y168 z168
  obtain ⟨o168, d168, kd168, rfl, N168q, K168q, E168q, C168q, F168q, V168q, z_o168, z_d168⟩ := hQ168
  have fk170 := (fk161.keep K154q)
  have fk171 := (fk162.keep K154q (ninS ne_dc_b117 nin0))
  have fk172 := (fk163.keep K154q)
  have fk173 := (fk164.keep K154q (ninS ne_dq_b117 nin0))
  have fk174 := (fk165.keep K154q)
  have fk175 := (fk158.keep K154q (ninS (Ne.symm ne_b117_d124) nin0))
  have fk176 := (fk166.keep K154q)
  have fk177 := (fk167.keep K154q (ninS (Ne.symm (ne136 _ S136_b117).2) nin0))
  have fk178 := (EE153.keep K154q)
  have fk179 := (VV153.keep K154q (ninS (Ne.symm (ne153 _ S153_b117).2) nin0))
  have ne_oc_o168 : oc ≠ o168 := Nat.ne_of_lt (Nat.lt_of_lt_of_le fk170.lt z_o168)
  have ne_dc_o168 : dc ≠ o168 := Nat.ne_of_lt (Nat.lt_of_lt_of_le fk171.lt z_o168)
  have ne_a2_o168 : a2 ≠ o168 := Nat.ne_of_lt (Nat.lt_of_lt_of_le fk172.lt z_o168)
  have ne_dq_o168 : dq ≠ o168 := Nat.ne_of_lt (Nat.lt_of_lt_of_le fk173.lt z_o168)
  have ne_b117_o168 : b117 ≠ o168 := Nat.ne_of_lt (Nat.lt_of_lt_of_le E154q.lt z_o168)
  have ne_d118_o168 : d118 ≠ o168 := Nat.ne_of_lt (Nat.lt_of_lt_of_le fk174.lt z_o168)
  have ne_d124_o168 : d124 ≠ o168 := Nat.ne_of_lt (Nat.lt_of_lt_of_le fk175.lt z_o168)
  have ne_la136_o168 : la136 ≠ o168 := Nat.ne_of_lt (Nat.lt_of_lt_of_le fk176.lt z_o168)
  have ne_lb136_o168 : lb136 ≠ o168 := Nat.ne_of_lt (Nat.lt_of_lt_of_le fk177.lt z_o168)
  have ne_la153_o168 : la153 ≠ o168 := Nat.ne_of_lt (Nat.lt_of_lt_of_le fk178.lt z_o168)
  have ne_lb153_o168 : lb153 ≠ o168 := Nat.ne_of_lt (Nat.lt_of_lt_of_le fk179.lt z_o168)
  have ne_d154_o168 : d154 ≠ o168 := Nat.ne_of_lt (Nat.lt_of_lt_of_le V154q.lt z_o168)
  have sz_o168 : h0.size ≤ o168 := Nat.le_trans K154.1 z_o168
  have g_o168 : n0 ≤ o168 := Nat.le_trans Z0 sz_o168
  have ne_oc_d168 : oc ≠ d168 := Nat.ne_of_lt (Nat.lt_of_lt_of_le fk170.lt z_d168)
  have ne_dc_d168 : dc ≠ d168 := Nat.ne_of_lt (Nat.lt_of_lt_of_le fk171.lt z_d168)
  have ne_a2_d168 : a2 ≠ d168 := Nat.ne_of_lt (Nat.lt_of_lt_of_le fk172.lt z_d168)
  have ne_dq_d168 : dq ≠ d168 := Nat.ne_of_lt (Nat.lt_of_lt_of_le fk173.lt z_d168)
  have ne_b117_d168 : b117 ≠ d168 := Nat.ne_of_lt (Nat.lt_of_lt_of_le E154q.lt z_d168)
  have ne_d118_d168 : d118 ≠ d168 := Nat.ne_of_lt (Nat.lt_of_lt_of_le fk174.lt z_d168)
  have ne_d124_d168 : d124 ≠ d168 := Nat.ne_of_lt (Nat.lt_of_lt_of_le fk175.lt z_d168)
  have ne_la136_d168 : la136 ≠ d168 := Nat.ne_of_lt (Nat.lt_of_lt_of_le fk176.lt z_d168)
  have ne_lb136_d168 : lb136 ≠ d168 := Nat.ne_of_lt (Nat.lt_of_lt_of_le fk177.lt z_d168)
  have ne_la153_d168 : la153 ≠ d168 := Nat.ne_of_lt (Nat.lt_of_lt_of_le fk178.lt z_d168)
  have ne_lb153_d168 : lb153 ≠ d168 := Nat.ne_of_lt (Nat.lt_of_lt_of_le fk179.lt z_d168)
  have ne_d154_d168 : d154 ≠ d168 := Nat.ne_of_lt (Nat.lt_of_lt_of_le V154q.lt z_d168)
  have sz_d168 : h0.size ≤ d168 := Nat.le_trans K154.1 z_d168
  have g_d168 : n0 ≤ d168 := Nat.le_trans Z0 sz_d168
  have N168 := Fr.app N154 N168q
  have K168 : Keep h0 T168.heap [] := Keep.trans K154 K168q all0
  have sq180 : ∀ x ∈ [b117], Safe Z consts_1 T153.vm _ x := (sfS S153_b117 sf0)
  have S180_b117 := Safe.keep K154q sq180 R153.1 S153_b117
  have S180_d118 := Safe.keep K154q sq180 R153.1 S153_d118
  have S180_d124 := Safe.keep K154q sq180 R153.1 S153_d124
  have S180_d154 := Safe.keep K154q sq180 R153.1 (Safe.new z_d154)
  have R180 := R153.trans (CHr.keep K154q sq180 R153.1)
  have S181_b117 := Safe.keep K168q sf0 R180.1 S180_b117
  have S181_d118 := Safe.keep K168q sf0 R180.1 S180_d118
  have S181_d124 := Safe.keep K168q sf0 R180.1 S180_d124
  have S181_d154 := Safe.keep K168q sf0 R180.1 S180_d154
  have S181_o168 := Safe.keep K168q sf0 R180.1 (Safe.new z_o168)
  have S181_d168 := Safe.keep K168q sf0 R180.1 (Safe.new z_d168)
  have R181 := R180.trans (CHr.keep K168q sf0 R180.1)
  have hfin := R181.trans (CHv.at (s := s) (vm0 := T153.vm) X168 hZ (own_EW hw) R181.1)
  obtain ⟨fs, hr, hrun, hended, hEnd⟩ := X168.leaveW hS153 (Nat.le_trans (Nat.le_trans hk153 K154q.1) K168q.1) (v := some (.ref o168)) (fun h => by rw [hret] at h; cases h)
  refine ⟨_, _, ?_, hrun, hended, _, _, rfl, ?_, (by rw [hh]; show CHr Z consts_1 s.vm h0 T168.vm T168.heap; exact hfin), ⟨hEnd.1, hEnd.2.1, hEnd.2.2.1, hEnd.2.2.2.mono (by decide) (by decide)⟩⟩
  · show SA T0 m 34 #[vR a1, vR a2, vR oc] []
    refine st117 _ ?_
    show SA T117 m 37 #[vR a1, vR a2, vR oc] [iR b117]
    refine XS.dup X117.here hx rfl (hb hby d1_37) rfl rfl ?_
    show SA T117 m 38 #[vR a1, vR a2, vR oc] [iR b117, iR b117]
    refine st118.trans ?_
    show SA T118 m 41 #[vR a1, vR a2, vR oc] [iR b117]
    refine XS.aloadN X118.here hx rfl (hb hby d1_41) rfl rfl ?_
    show SA T118 m 42 #[vR a1, vR a2, vR oc] [iR oc, iR b117]
    refine st124.trans ?_
    show SA T124 m 45 #[vR a1, vR a2, vR oc] [iR b117]
    refine st136 _ ?_
    show SA T136 m 47 #[vR a1, vR a2, vR oc] [iR la136, iR b117]
    refine st137.trans ?_
    show SA T137 m 50 #[vR a1, vR a2, vR oc] [iR b117]
    refine XS.aloadN X137.here hx rfl (hb hby d1_50) rfl rfl ?_
    show SA T137 m 51 #[vR a1, vR a2, vR oc] [iR a2, iR b117]
    refine st144.trans ?_
    show SA T144 m 54 #[vR a1, vR a2, vR oc] [iR b117]
    refine st153 _ ?_
    show SA T153 m 56 #[vR a1, vR a2, vR oc] [iR la153, iR b117]
    refine st154.trans ?_
    show SA T154 m 59 #[vR a1, vR a2, vR oc] [iR b117]
    refine st168.trans ?_
    show SA T168 m 62 #[vR a1, vR a2, vR oc] [iR o168]
    refine XS.astoreN X168.here hx rfl (hb hby d1_62) rfl rfl (l' := #[vR a1, vR a2, vR o168]) rfl ?_
    show SA T168 m 63 #[vR a1, vR a2, vR o168] []
    refine XS.aloadN X168.here hx rfl (hb hby d1_63) rfl rfl ?_
    show Steps _ _ _ (T168.setTop (mkF m 64 #[vR a1, vR a2, vR o168] [iR o168])) _
    jvm_step X168.here [X168.here.top, hx, (hb hby d1_64), X168.method', hret, Value.isRef, FieldType.isReference]
    first | (intro acts; rw [hr _ acts rfl rfl rfl]) | rw [hr _ _ rfl rfl rfl]
    exact Steps.refl _
  · show own_QX Z zz BB h0 n0 _ T168.heap _
    exact ⟨_, _, _, rfl, N168, K168, E168q, C168q, F168q, (by rw [← hzz, ← hBB]; exact V168q)⟩
theorem own_t34d {p : Program} {l : Launch} {e : Env} {s : State} {m : MethodId} {below : List Frame} {meth : Method} {c : Code} {T0 : State} {locs : List Loc} {Z : State} {a0 : Array Value} {h0 hT : Heap} {n0 : Nat} {vmT : Vm} {kT : Nat} {a1 a2 oc dc dq : Addr} {kdc kdq : ClassId} {zp zq zz : Int32} {A1c Bq BB : List Int32} {cs : Int32}
    (X0 : Stand p l e ({ frames := 6, cells := 21, slots := 546, locals := 91 } : Room) (s.setVm vmT) m #[(.ref a1), (.ref a2)] below meth c T0 locs 11 264) (hx : p.tables.exec = Jvm.exec) (hZ : Z.Warmed39 (s.setVm vmT).vm) (hw : ∀ d ∈ tables_1, d.before a0 Z = true) (hby : c.code = prog_1_method_3_code) (hml : c.maxLocals = 3) (hown : (s.setVm vmT).vm.findClass "com/example/cloud_to_core/cloudtocore/auth/HttpAuthorization" = some m.cls) (hret : meth.sig.returnType = some (.object "java/lang/String")) (hlocks : meth.locks = false) (e0 : T0.heap = hT) (Kt0 : Keep h0 hT []) (N0 : Fr n0 locs) (Z0 : n0 ≤ h0.size) (O0 : Old Z n0 h0) (hS0 : s.Since vmT kT) (hk0 : kT ≤ hT.size) (RT : CHr Z consts_1 s.vm h0 vmT hT) (hh : s.heap = h0) (E_oc : Exa Z hT oc "java/lang/String") (Fc_oc : Fld Z hT oc "java/lang/String" "coder" "B" (.int (0 : Int32))) (Fv_oc : Fld Z hT oc "java/lang/String" "value" "[B" (.ref dc)) (V_dc : Arv Z hT dc kdc .byte (((((0 : Int32) + zp) + (8 : Int32)) + (13 : Int32)) + (1 : Int32)) (own_bs A1c) (.int (0 : Int32))) (hzc : ¬ (((((0 : Int32) + zp) + (8 : Int32)) + (13 : Int32)) + (1 : Int32)) < 0) (hA1c : (((((0 : Int32) + zp) + (8 : Int32)) + (13 : Int32)) + (1 : Int32)).toNatClampNeg = A1c.length) (E_a2 : Exa Z hT a2 "java/lang/String") (Fc_a2 : Fld Z hT a2 "java/lang/String" "coder" "B" (.int (0 : Int32))) (Fv_a2 : Fld Z hT a2 "java/lang/String" "value" "[B" (.ref dq)) (V_dq : Arv Z hT dq kdq .byte zq (own_bs Bq) (.int (0 : Int32))) (hzq : ¬ zq < 0) (hBq : zq.toNatClampNeg = Bq.length) (hpq : (zp = (2 : Int32) ∧ zq = (2 : Int32))) (hzz : (((((0 : Int32) + (((((0 : Int32) + zp) + (8 : Int32)) + (13 : Int32)) + (1 : Int32))) + (9 : Int32)) + zq) + (1 : Int32)) = zz) (hBB : (((([] ++ A1c) ++ [(44 : Int32), (32 : Int32), (101 : Int32), (114 : Int32), (114 : Int32), (111 : Int32), (114 : Int32), (61 : Int32), (34 : Int32)]) ++ Bq) ++ [(34 : Int32)]) = BB) (S_CS : Sta Z Z.heap "java/lang/String" "COMPACT_STRINGS" "Z" (.int cs)) (h_cs : ¬ cs = (0 : Int32)) :
    ∃ s₂ o, Steps p.tables e below (T0.setTop (mkF m 34 #[vR a1, vR a2, vR oc] [])) s₂ ∧ s₂.status = .running ∧ Ended s₂ below o ∧ ∃ v L, o = .returned v ∧ own_QX Z zz BB h0 n0 v s₂.heap L ∧ CHr Z consts_1 s.vm s.heap s₂.vm s₂.heap ∧ ReturnedEndW s o s₂ L ({ frames := 6, cells := 21, slots := 546, locals := 91 } : Room).cells ({ frames := 6, cells := 21, slots := 546, locals := 91 } : Room).slots := by
  obtain ⟨T182, h182, X182, e182, E182, A182, D182, -, st182⟩ := newO X0 hx hZ hown (ww hw 12 rfl) (ww hw 13 rfl) (ww hw 14 rfl) e0 (g := (mkF m 34 #[vR a1, vR a2, vR oc] [])) rfl (hb hby d1_34) (by decide) (by decide)
  obtain ⟨b182, g182⟩ : ∃ z, z = hT.size := ⟨_, rfl⟩
  rw [← g182] at A182 D182 st182
  have ne_oc_b182 : oc ≠ b182 := Nat.ne_of_lt (Nat.lt_of_lt_of_le E_oc.lt (Nat.le_of_eq g182.symm))
  have ne_dc_b182 : dc ≠ b182 := Nat.ne_of_lt (Nat.lt_of_lt_of_le V_dc.lt (Nat.le_of_eq g182.symm))
  have ne_a2_b182 : a2 ≠ b182 := Nat.ne_of_lt (Nat.lt_of_lt_of_le E_a2.lt (Nat.le_of_eq g182.symm))
  have ne_dq_b182 : dq ≠ b182 := Nat.ne_of_lt (Nat.lt_of_lt_of_le V_dq.lt (Nat.le_of_eq g182.symm))
  have sz_b182 : h0.size ≤ b182 := Nat.le_trans Kt0.1 (Nat.le_of_eq g182.symm)
  have g_b182 : n0 ≤ b182 := Nat.le_trans Z0 sz_b182
  have K182 : Keep h0 h182 [] := Kt0.ext E182
  have F_value_b182 : Fld Z h182 b182 "java/lang/AbstractStringBuilder" "value" "[B" .null := D182 (Or.inl (ww hw 29 rfl)) (ty := (.array .byte)) (by decide)
  have F_coder_b182 : Fld Z h182 b182 "java/lang/AbstractStringBuilder" "coder" "B" (.int (0 : Int32)) := D182 (Or.inl (ww hw 31 rfl)) (ty := .byte) (by decide)
  have F_count_b182 : Fld Z h182 b182 "java/lang/AbstractStringBuilder" "count" "I" (.int (0 : Int32)) := D182 (Or.inl (ww hw 56 rfl)) (ty := .int) (by decide)
  have Oh184 := O0.keep K182 all0
  obtain ⟨_, _, ⟨T183, L183, k183, n183⟩, -, X183, ⟨Lc183, hQ183, l183, y183, z183⟩, st183⟩ := X182.specialBack hx (y := mn_29) rfl hown (mvT hZ (ww hw 15 rfl)) (mvT hZ (ww hw 16 rfl)) (mvT hZ (ww hw 17 rfl)) (by decide) (backOf (W := 1) (rm2 l Z a0 hw [] b182 cs h182 n0 (Nat.le_trans Z0 K182.1) Oh184 A182 g_b182 F_value_b182 F_coder_b182 F_count_b182 S_CS h_cs) hZ (ww hw 17 rfl) (ww hw 14 rfl) (by decide) (by decide)) (g := (mkF m 38 #[vR a1, vR a2, vR oc] [iR b182, iR b182])) rfl (by rw [hml]; rfl) (Steps.refl _) (a := b182) (argsL := []) (rest := [(.ref b182)]) (lenOf pd_23 rfl) rfl (wz rfl) (hb hby d1_38) (fun _ _ => ⟨rfl, e182, (by decide : 12 + 1 ≤ _), (by decide : 268 + 16 ≤ _)⟩)
  dsimp only [Pt.U, Pt.locs, Pt.cells, Pt.slots] at X183 l183 y183 z183 st183 hQ183
  subst l183 y183 z183
  obtain ⟨d183, kd183, rfl, N183q, K183q, E183q, Fv183q, Fc183q, Fn183q, V183q, G183q, z_d183⟩ := hQ183
  have fk185 := (E_oc.ext E182)
  have fk186 := (V_dc.ext E182)
  have fk187 := (E_a2.ext E182)
  have fk188 := (V_dq.ext E182)
  have ne_oc_d183 : oc ≠ d183 := Nat.ne_of_lt (Nat.lt_of_lt_of_le fk185.lt z_d183)
  have ne_dc_d183 : dc ≠ d183 := Nat.ne_of_lt (Nat.lt_of_lt_of_le fk186.lt z_d183)
  have ne_a2_d183 : a2 ≠ d183 := Nat.ne_of_lt (Nat.lt_of_lt_of_le fk187.lt z_d183)
  have ne_dq_d183 : dq ≠ d183 := Nat.ne_of_lt (Nat.lt_of_lt_of_le fk188.lt z_d183)
  have ne_b182_d183 : b182 ≠ d183 := Nat.ne_of_lt (Nat.lt_of_lt_of_le A182.lt z_d183)
  have sz_d183 : h0.size ≤ d183 := Nat.le_trans K182.1 z_d183
  have g_d183 : n0 ≤ d183 := Nat.le_trans Z0 sz_d183
  have N183 := Fr.app N0 N183q
  have K183 : Keep h0 T183.heap [] := Keep.trans K182 K183q (allS (Or.inr sz_b182) all0)
  have fk190 := (fk185.keep K183q)
  have fk191 := ((Fc_oc.ext E182).keep K183q (ninS ne_oc_b182 nin0))
  have fk192 := ((Fv_oc.ext E182).keep K183q (ninS ne_oc_b182 nin0))
  have fk193 := (fk186.keep K183q (ninS ne_dc_b182 nin0))
  have Oh194 := O0.keep K183 all0
  obtain ⟨cq189, kq189, q189a, q189b, q189c⟩ := isOf hZ rfl E183q
  obtain ⟨_, _, ⟨T189, L189, k189, n189⟩, -, X189, ⟨Lc189, hQ189, l189, y189, z189⟩, st189⟩ := X183.virtualBack hx (y := mn_12) (z := mn_12) hown (mvT hZ (ww hw 32 rfl)) (mvT hZ (ww hw 33 rfl)) (notFace_of_selects (args := #[]) (mvT hZ (ww hw 35 rfl))) (mvT hZ (ww hw 35 rfl)) (mvT hZ (ww hw 34 rfl)) (by decide) (backOf (W := 0) (rm5_g l Z a0 hw [] b182 oc d183 kd183 (16 : Int32) [] dc kdc (((((0 : Int32) + zp) + (8 : Int32)) + (13 : Int32)) + (1 : Int32)) A1c (0 : Int32) (34 : Int32) cs T183.heap n0 (Nat.le_trans Z0 K183.1) Oh194 E183q Fv183q Fc183q V183q g_d183 Fn183q g_b182 ne_b182_d183 fk190 fk191 fk192 fk193 hzc hA1c (Ne.symm ne_oc_b182) (Ne.symm ne_dc_b182) ne_oc_d183 (Ne.symm ne_dc_d183) (own_pd0 zp zq hpq) (own_pd1 zp zq A1c Bq hA1c hBq hpq) (own_pd2 zp zq hpq) (own_pd3 zp zq hpq) (by decide) (own_pd4 zp zq hpq) (own_pd5 zp zq hpq) (by decide) (by decide) (by decide) (by decide) (own_pd6 zp zq A1c Bq hA1c hBq hpq) (own_pd7 zp zq hpq) S_CS h_cs) hZ (ww hw 36 rfl) (ww hw 14 rfl) (by decide) (by decide)) q189a q189c (g := (mkF m 42 #[vR a1, vR a2, vR oc] [iR oc, iR b182])) rfl (by rw [hml]; rfl) (Steps.refl _) (argsL := [(.ref oc)]) (rest := []) (lenOf pd_24 rfl) rfl (wz rfl) (hb hby d1_42) (fun _ _ => ⟨rfl, rfl, (by decide : 13 + 1 ≤ _), (by decide : 284 + 70 ≤ _)⟩)
  dsimp only [Pt.U, Pt.locs, Pt.cells, Pt.slots] at X189 l189 y189 z189 st189 hQ189
  subst l189 y189 z189
  obtain ⟨d189, kd189, rfl, N189q, K189q, E189q, Fv189q, Fc189q, Fn189q, V189q, G189q, z_d189⟩ := hQ189
  have fk195 := (fk187.keep K183q)
  have fk196 := (fk188.keep K183q (ninS ne_dq_b182 nin0))
  have ne_oc_d189 : oc ≠ d189 := Nat.ne_of_lt (Nat.lt_of_lt_of_le fk190.lt z_d189)
  have ne_dc_d189 : dc ≠ d189 := Nat.ne_of_lt (Nat.lt_of_lt_of_le fk193.lt z_d189)
  have ne_a2_d189 : a2 ≠ d189 := Nat.ne_of_lt (Nat.lt_of_lt_of_le fk195.lt z_d189)
  have ne_dq_d189 : dq ≠ d189 := Nat.ne_of_lt (Nat.lt_of_lt_of_le fk196.lt z_d189)
  have ne_b182_d189 : b182 ≠ d189 := Nat.ne_of_lt (Nat.lt_of_lt_of_le E183q.lt z_d189)
  have ne_d183_d189 : d183 ≠ d189 := Nat.ne_of_lt (Nat.lt_of_lt_of_le G183q.lt z_d189)
  have sz_d189 : h0.size ≤ d189 := Nat.le_trans K183.1 z_d189
  have g_d189 : n0 ≤ d189 := Nat.le_trans Z0 sz_d189
  have N189 := Fr.app N183 N189q
  have K189 : Keep h0 T189.heap [] := Keep.trans K183 K189q (allS (Or.inr sz_b182) all0)
  have S197_b182 := Safe.ext E182 RT.1 (Safe.new (Nat.le_of_eq g182.symm))
  have R197 := RT.trans (CHr.ext E182 RT.1)
  have sq198 : ∀ x ∈ [b182], Safe Z consts_1 vmT _ x := (sfS S197_b182 sf0)
  have S198_b182 := Safe.keep K183q sq198 R197.1 S197_b182
  have S198_d183 := Safe.keep K183q sq198 R197.1 (Safe.new z_d183)
  have R198 := R197.trans (CHr.keep K183q sq198 R197.1)
  have sq199 : ∀ x ∈ [b182], Safe Z consts_1 vmT _ x := (sfS S198_b182 sf0)
  have S199_b182 := Safe.keep K189q sq199 R198.1 S198_b182
  have S199_d183 := Safe.keep K189q sq199 R198.1 S198_d183
  have S199_d189 := Safe.keep K189q sq199 R198.1 (Safe.new z_d189)
  have R199 := R198.trans (CHr.keep K189q sq199 R198.1)
  have fk200 := (G183q.keep K189q)
  obtain ⟨la201, T201, h201, kk201, lb201, kl201, X201, e201, E201, hS201, hk201, hZ, hown, EE201, FC201, FV201, VV201, -, -, C201, li201, ne201, st201⟩ := ldcCH (s := s) (vm0 := vmT) X189 hx hZ hown (ww hw 189 rfl) (own_strAtoms hw) rfl hS0 (Nat.le_trans (Nat.le_trans (Nat.le_trans hk0 E182.1) K183q.1) K189q.1) (own_EW hw) (List.mem_of_getElem? (i := 3) rfl) R199.1 (vs := own_bs [(44 : Int32), (32 : Int32), (101 : Int32), (114 : Int32), (114 : Int32), (111 : Int32), (114 : Int32), (61 : Int32), (34 : Int32)]) (z := (9 : Int32)) own_ct3 (by decide) (by decide) (g := (mkF m 45 #[vR a1, vR a2, vR oc] [iR b182])) rfl (hb hby d1_45) (n := 36) (by decide) (by decide) (by decide) (by decide)
  have K201 : Keep h0 h201 [] := K189.ext E201
  have S201_b182 := C201.safe E189q.lt S199_b182
  have S201_d183 := C201.safe fk200.lt S199_d183
  have S201_d189 := C201.safe V189q.lt S199_d189
  have R201 := R199.trans C201
  have fk203 := (E189q.ext E201)
  have fk204 := (Fv189q.ext E201)
  have fk205 := (Fc189q.ext E201)
  have fk206 := (V189q.ext E201)
  have fk207 := (Fn189q.ext E201)
  have Oh208 := O0.keep K201 all0
  obtain ⟨cq202, kq202, q202a, q202b, q202c⟩ := isOf hZ e201 fk203
  obtain ⟨_, _, ⟨T202, L202, k202, n202⟩, -, X202, ⟨Lc202, hQ202, l202, y202, z202⟩, st202⟩ := X201.virtualBack hx (y := mn_12) (z := mn_12) hown (mvT hZ (ww hw 32 rfl)) (mvT hZ (ww hw 33 rfl)) (notFace_of_selects (args := #[]) (mvT hZ (ww hw 35 rfl))) (mvT hZ (ww hw 35 rfl)) (mvT hZ (ww hw 34 rfl)) (by decide) (backOf (W := 0) (rm5_f l Z a0 hw [] b182 la201 d189 kd189 (34 : Int32) ([] ++ A1c) lb201 kl201 (9 : Int32) [(44 : Int32), (32 : Int32), (101 : Int32), (114 : Int32), (114 : Int32), (111 : Int32), (114 : Int32), (61 : Int32), (34 : Int32)] ((0 : Int32) + (((((0 : Int32) + zp) + (8 : Int32)) + (13 : Int32)) + (1 : Int32))) cs h201 n0 (Nat.le_trans Z0 K201.1) Oh208 fk203 fk204 fk205 fk206 g_d189 fk207 g_b182 ne_b182_d189 EE201 FC201 FV201 VV201 (by decide) (by decide) (ne201 _ S201_b182).1 (ne201 _ S201_b182).2 (Ne.symm (ne201 _ S201_d189).1) (ne201 _ S201_d189).2 (own_pd3 zp zq hpq) (own_pd8 zp zq A1c Bq hA1c hBq hpq) (own_pd9 zp zq hpq) (own_pd10 zp zq hpq) (by decide) (own_pd11 zp zq hpq) S_CS h_cs) hZ (ww hw 36 rfl) (ww hw 14 rfl) (by decide) (by decide)) q202a q202c (g := (mkF m 47 #[vR a1, vR a2, vR oc] [iR la201, iR b182])) rfl (by rw [hml]; rfl) (Steps.refl _) (argsL := [(.ref la201)]) (rest := []) (lenOf pd_24 rfl) rfl (wz rfl) (hb hby d1_47) (fun _ _ => ⟨rfl, e201, (by decide : 16 + 0 ≤ _), (by decide : 394 + 0 ≤ _)⟩)
  dsimp only [Pt.U, Pt.locs, Pt.cells, Pt.slots] at X202 l202 y202 z202 st202 hQ202
  subst l202 y202 z202
  obtain ⟨rfl, N202q, K202q, E202q, Fv202q, Fc202q, Fn202q, V202q⟩ := hQ202
  have N202 := Fr.app N189 N202q
  have K202 : Keep h0 T202.heap [] := Keep.trans K201 K202q (allS (Or.inr sz_b182) (allS (Or.inr sz_d189) all0))
  have fk210 := (((fk195.keep K189q).ext E201).keep K202q)
  have fk211 := (((((Fc_a2.ext E182).keep K183q (ninS ne_a2_b182 nin0)).keep K189q (ninS ne_a2_b182 nin0)).ext E201).keep K202q (ninS ne_a2_b182 (ninS ne_a2_d189 nin0)))
  have fk212 := (((((Fv_a2.ext E182).keep K183q (ninS ne_a2_b182 nin0)).keep K189q (ninS ne_a2_b182 nin0)).ext E201).keep K202q (ninS ne_a2_b182 (ninS ne_a2_d189 nin0)))
  have fk213 := (((fk196.keep K189q (ninS ne_dq_b182 nin0)).ext E201).keep K202q (ninS ne_dq_b182 (ninS ne_dq_d189 nin0)))
  have Oh214 := O0.keep K202 all0
  obtain ⟨cq209, kq209, q209a, q209b, q209c⟩ := isOf hZ rfl E202q
  obtain ⟨_, _, ⟨T209, L209, k209, n209⟩, -, X209, ⟨Lc209, hQ209, l209, y209, z209⟩, st209⟩ := X202.virtualBack hx (y := mn_12) (z := mn_12) hown (mvT hZ (ww hw 32 rfl)) (mvT hZ (ww hw 33 rfl)) (notFace_of_selects (args := #[]) (mvT hZ (ww hw 35 rfl))) (mvT hZ (ww hw 35 rfl)) (mvT hZ (ww hw 34 rfl)) (by decide) (backOf (W := 0) (rm5_g l Z a0 hw [] b182 a2 d189 kd189 (34 : Int32) (([] ++ A1c) ++ [(44 : Int32), (32 : Int32), (101 : Int32), (114 : Int32), (114 : Int32), (111 : Int32), (114 : Int32), (61 : Int32), (34 : Int32)]) dq kdq zq Bq (((0 : Int32) + (((((0 : Int32) + zp) + (8 : Int32)) + (13 : Int32)) + (1 : Int32))) + (9 : Int32)) (70 : Int32) cs T202.heap n0 (Nat.le_trans Z0 K202.1) Oh214 E202q Fv202q Fc202q V202q g_d189 Fn202q g_b182 ne_b182_d189 fk210 fk211 fk212 fk213 hzq hBq (Ne.symm ne_a2_b182) (Ne.symm ne_dq_b182) ne_a2_d189 (Ne.symm ne_dq_d189) (own_pd10 zp zq hpq) (own_pd12 zp zq A1c Bq hA1c hBq hpq) (own_pd13 zp zq hpq) (own_pd14 zp zq hpq) (by decide) (own_pd15 zp zq hpq) (own_pd16 zp zq hpq) (by decide) (by decide) (by decide) (by decide) (own_pd17 zp zq A1c Bq hA1c hBq hpq) (own_pd18 zp zq hpq) S_CS h_cs) hZ (ww hw 36 rfl) (ww hw 14 rfl) (by decide) (by decide)) q209a q209c (g := (mkF m 51 #[vR a1, vR a2, vR oc] [iR a2, iR b182])) rfl (by rw [hml]; rfl) (Steps.refl _) (argsL := [(.ref a2)]) (rest := []) (lenOf pd_24 rfl) rfl (wz rfl) (hb hby d1_51) (fun _ _ => ⟨rfl, rfl, (by decide : 16 + 1 ≤ _), (by decide : 394 + 70 ≤ _)⟩)
  dsimp only [Pt.U, Pt.locs, Pt.cells, Pt.slots] at X209 l209 y209 z209 st209 hQ209
  subst l209 y209 z209
  obtain ⟨d209, kd209, rfl, N209q, K209q, E209q, Fv209q, Fc209q, Fn209q, V209q, G209q, z_d209⟩ := hQ209
  have fk215 := (((fk190.keep K189q).ext E201).keep K202q)
  have fk216 := (((fk193.keep K189q (ninS ne_dc_b182 nin0)).ext E201).keep K202q (ninS ne_dc_b182 (ninS ne_dc_d189 nin0)))
  have fk217 := ((fk200.ext E201).keep K202q)
  have fk218 := (EE201.keep K202q)
  have fk219 := (VV201.keep K202q (ninS (Ne.symm (ne201 _ S201_b182).2) (ninS (Ne.symm (ne201 _ S201_d189).2) nin0)))
  have ne_oc_d209 : oc ≠ d209 := Nat.ne_of_lt (Nat.lt_of_lt_of_le fk215.lt z_d209)
  have ne_dc_d209 : dc ≠ d209 := Nat.ne_of_lt (Nat.lt_of_lt_of_le fk216.lt z_d209)
  have ne_a2_d209 : a2 ≠ d209 := Nat.ne_of_lt (Nat.lt_of_lt_of_le fk210.lt z_d209)
  have ne_dq_d209 : dq ≠ d209 := Nat.ne_of_lt (Nat.lt_of_lt_of_le fk213.lt z_d209)
  have ne_b182_d209 : b182 ≠ d209 := Nat.ne_of_lt (Nat.lt_of_lt_of_le E202q.lt z_d209)
  have ne_d183_d209 : d183 ≠ d209 := Nat.ne_of_lt (Nat.lt_of_lt_of_le fk217.lt z_d209)
  have ne_d189_d209 : d189 ≠ d209 := Nat.ne_of_lt (Nat.lt_of_lt_of_le V202q.lt z_d209)
  have ne_la201_d209 : la201 ≠ d209 := Nat.ne_of_lt (Nat.lt_of_lt_of_le fk218.lt z_d209)
  have ne_lb201_d209 : lb201 ≠ d209 := Nat.ne_of_lt (Nat.lt_of_lt_of_le fk219.lt z_d209)
  have sz_d209 : h0.size ≤ d209 := Nat.le_trans K202.1 z_d209
  have g_d209 : n0 ≤ d209 := Nat.le_trans Z0 sz_d209
  have N209 := Fr.app N202 N209q
  have K209 : Keep h0 T209.heap [] := Keep.trans K202 K209q (allS (Or.inr sz_b182) all0)
  have sq220 : ∀ x ∈ [b182, d189], Safe Z consts_1 T201.vm _ x := (sfS S201_b182 (sfS S201_d189 sf0))
  have S220_b182 := Safe.keep K202q sq220 R201.1 S201_b182
  have S220_d183 := Safe.keep K202q sq220 R201.1 S201_d183
  have S220_d189 := Safe.keep K202q sq220 R201.1 S201_d189
  have R220 := R201.trans (CHr.keep K202q sq220 R201.1)
  have sq221 : ∀ x ∈ [b182], Safe Z consts_1 T201.vm _ x := (sfS S220_b182 sf0)
  have S221_b182 := Safe.keep K209q sq221 R220.1 S220_b182
  have S221_d183 := Safe.keep K209q sq221 R220.1 S220_d183
  have S221_d189 := Safe.keep K209q sq221 R220.1 S220_d189
  have S221_d209 := Safe.keep K209q sq221 R220.1 (Safe.new z_d209)
  have R221 := R220.trans (CHr.keep K209q sq221 R220.1)
  have fk222 := (fk217.keep K209q)
  have fk223 := (V202q.keep K209q (ninS (Ne.symm ne_b182_d189) nin0))
  obtain ⟨la224, T224, h224, kk224, lb224, kl224, X224, e224, E224, hS224, hk224, hZ, hown, EE224, FC224, FV224, VV224, -, -, C224, li224, ne224, st224⟩ := ldcCH (s := s) (vm0 := T201.vm) X209 hx hZ hown (ww hw 107 rfl) (own_strAtoms hw) rfl hS201 (Nat.le_trans (Nat.le_trans hk201 K202q.1) K209q.1) (own_EW hw) (List.mem_of_getElem? (i := 2) rfl) R221.1 (vs := own_bs [(34 : Int32)]) (z := (1 : Int32)) own_ct2 (by decide) (by decide) (g := (mkF m 54 #[vR a1, vR a2, vR oc] [iR b182])) rfl (hb hby d1_54) (n := 4) (by decide) (by decide) (by decide) (by decide)
  have K224 : Keep h0 h224 [] := K209.ext E224
  have S224_b182 := C224.safe E209q.lt S221_b182
  have S224_d183 := C224.safe fk222.lt S221_d183
  have S224_d189 := C224.safe fk223.lt S221_d189
  have S224_d209 := C224.safe V209q.lt S221_d209
  have R224 := R221.trans C224
  have fk226 := (E209q.ext E224)
  have fk227 := (Fv209q.ext E224)
  have fk228 := (Fc209q.ext E224)
  have fk229 := (V209q.ext E224)
  have fk230 := (Fn209q.ext E224)
  have Oh231 := O0.keep K224 all0
  obtain ⟨cq225, kq225, q225a, q225b, q225c⟩ := isOf hZ e224 fk226
  obtain ⟨_, _, ⟨T225, L225, k225, n225⟩, -, X225, ⟨Lc225, hQ225, l225, y225, z225⟩, st225⟩ := X224.virtualBack hx (y := mn_12) (z := mn_12) hown (mvT hZ (ww hw 32 rfl)) (mvT hZ (ww hw 33 rfl)) (notFace_of_selects (args := #[]) (mvT hZ (ww hw 35 rfl))) (mvT hZ (ww hw 35 rfl)) (mvT hZ (ww hw 34 rfl)) (by decide) (backOf (W := 0) (rm5_f l Z a0 hw [] b182 la224 d209 kd209 (70 : Int32) ((([] ++ A1c) ++ [(44 : Int32), (32 : Int32), (101 : Int32), (114 : Int32), (114 : Int32), (111 : Int32), (114 : Int32), (61 : Int32), (34 : Int32)]) ++ Bq) lb224 kl224 (1 : Int32) [(34 : Int32)] ((((0 : Int32) + (((((0 : Int32) + zp) + (8 : Int32)) + (13 : Int32)) + (1 : Int32))) + (9 : Int32)) + zq) cs h224 n0 (Nat.le_trans Z0 K224.1) Oh231 fk226 fk227 fk228 fk229 g_d209 fk230 g_b182 ne_b182_d209 EE224 FC224 FV224 VV224 (by decide) (by decide) (ne224 _ S224_b182).1 (ne224 _ S224_b182).2 (Ne.symm (ne224 _ S224_d209).1) (ne224 _ S224_d209).2 (own_pd14 zp zq hpq) (own_pd19 zp zq A1c Bq hA1c hBq hpq) (own_pd20 zp zq hpq) (own_pd21 zp zq hpq) (by decide) (own_pd22 zp zq hpq) S_CS h_cs) hZ (ww hw 36 rfl) (ww hw 14 rfl) (by decide) (by decide)) q225a q225c (g := (mkF m 56 #[vR a1, vR a2, vR oc] [iR la224, iR b182])) rfl (by rw [hml]; rfl) (Steps.refl _) (argsL := [(.ref la224)]) (rest := []) (lenOf pd_24 rfl) rfl (wz rfl) (hb hby d1_56) (fun _ _ => ⟨rfl, e224, (by decide : 19 + 0 ≤ _), (by decide : 472 + 0 ≤ _)⟩)
  dsimp only [Pt.U, Pt.locs, Pt.cells, Pt.slots] at X225 l225 y225 z225 st225 hQ225
  subst l225 y225 z225
  obtain ⟨rfl, N225q, K225q, E225q, Fv225q, Fc225q, Fn225q, V225q⟩ := hQ225
  have N225 := Fr.app N209 N225q
  have K225 : Keep h0 T225.heap [] := Keep.trans K224 K225q (allS (Or.inr sz_b182) (allS (Or.inr sz_d209) all0))
  have fk233 := ((G209q.ext E224).keep K225q)
  have Oh234 := O0.keep K225 all0
  obtain ⟨cq232, kq232, q232a, q232b, q232c⟩ := isOf hZ rfl E225q
  obtain ⟨_, _, ⟨T232, L232, k232, n232⟩, -, X232, ⟨Lc232, hQ232, l232, y232, z232⟩, st232⟩ := X225.virtualBack hx (y := mn_22) (z := mn_22) hown (mvT hZ (ww hw 108 rfl)) (mvT hZ (ww hw 109 rfl)) (notFace_of_selects (args := #[]) (mvT hZ (ww hw 111 rfl))) (mvT hZ (ww hw 111 rfl)) (mvT hZ (ww hw 110 rfl)) (by decide) (backOf (W := 0) (rm18 l Z a0 hw [] b182 d209 kd209 (70 : Int32) (((([] ++ A1c) ++ [(44 : Int32), (32 : Int32), (101 : Int32), (114 : Int32), (114 : Int32), (111 : Int32), (114 : Int32), (61 : Int32), (34 : Int32)]) ++ Bq) ++ [(34 : Int32)]) (((((0 : Int32) + (((((0 : Int32) + zp) + (8 : Int32)) + (13 : Int32)) + (1 : Int32))) + (9 : Int32)) + zq) + (1 : Int32)) cs T225.heap n0 (Nat.le_trans Z0 K225.1) Oh234 E225q Fv225q Fc225q V225q Fn225q (own_pd21 zp zq hpq) (own_pd22 zp zq hpq) (own_pd24 zp zq hpq) (own_pd23 zp zq A1c Bq hA1c hBq hpq) fk233 S_CS h_cs) hZ (ww hw 112 rfl) (ww hw 14 rfl) (by decide) (by decide)) q232a q232c (g := (mkF m 59 #[vR a1, vR a2, vR oc] [iR b182])) rfl (by rw [hml]; rfl) (Steps.refl _) (argsL := []) (rest := []) (lenOf pd_25 rfl) rfl (wz rfl) (hb hby d1_59) (fun _ _ => ⟨rfl, rfl, (by decide : 19 + 2 ≤ _), (by decide : 472 + 74 ≤ _)⟩)
  dsimp only [Pt.U, Pt.locs, Pt.cells, Pt.slots] at X232 l232 y232 z232 st232 hQ232
  subst l232 y232 z232
  obtain ⟨o232, d232, kd232, rfl, N232q, K232q, E232q, C232q, F232q, V232q, z_o232, z_d232⟩ := hQ232
  have fk235 := (((fk215.keep K209q).ext E224).keep K225q)
  have fk236 := (((fk216.keep K209q (ninS ne_dc_b182 nin0)).ext E224).keep K225q (ninS ne_dc_b182 (ninS ne_dc_d209 nin0)))
  have fk237 := (((fk210.keep K209q).ext E224).keep K225q)
  have fk238 := (((fk213.keep K209q (ninS ne_dq_b182 nin0)).ext E224).keep K225q (ninS ne_dq_b182 (ninS ne_dq_d209 nin0)))
  have fk239 := ((fk222.ext E224).keep K225q)
  have fk240 := ((fk223.ext E224).keep K225q (ninS (Ne.symm ne_b182_d189) (ninS ne_d189_d209 nin0)))
  have fk241 := (((fk218.keep K209q).ext E224).keep K225q)
  have fk242 := (((fk219.keep K209q (ninS (Ne.symm (ne201 _ S201_b182).2) nin0)).ext E224).keep K225q (ninS (Ne.symm (ne201 _ S201_b182).2) (ninS ne_lb201_d209 nin0)))
  have fk243 := (EE224.keep K225q)
  have fk244 := (VV224.keep K225q (ninS (Ne.symm (ne224 _ S224_b182).2) (ninS (Ne.symm (ne224 _ S224_d209).2) nin0)))
  have ne_oc_o232 : oc ≠ o232 := Nat.ne_of_lt (Nat.lt_of_lt_of_le fk235.lt z_o232)
  have ne_dc_o232 : dc ≠ o232 := Nat.ne_of_lt (Nat.lt_of_lt_of_le fk236.lt z_o232)
  have ne_a2_o232 : a2 ≠ o232 := Nat.ne_of_lt (Nat.lt_of_lt_of_le fk237.lt z_o232)
  have ne_dq_o232 : dq ≠ o232 := Nat.ne_of_lt (Nat.lt_of_lt_of_le fk238.lt z_o232)
  have ne_b182_o232 : b182 ≠ o232 := Nat.ne_of_lt (Nat.lt_of_lt_of_le E225q.lt z_o232)
  have ne_d183_o232 : d183 ≠ o232 := Nat.ne_of_lt (Nat.lt_of_lt_of_le fk239.lt z_o232)
  have ne_d189_o232 : d189 ≠ o232 := Nat.ne_of_lt (Nat.lt_of_lt_of_le fk240.lt z_o232)
  have ne_la201_o232 : la201 ≠ o232 := Nat.ne_of_lt (Nat.lt_of_lt_of_le fk241.lt z_o232)
  have ne_lb201_o232 : lb201 ≠ o232 := Nat.ne_of_lt (Nat.lt_of_lt_of_le fk242.lt z_o232)
  have ne_d209_o232 : d209 ≠ o232 := Nat.ne_of_lt (Nat.lt_of_lt_of_le V225q.lt z_o232)
  have ne_la224_o232 : la224 ≠ o232 := Nat.ne_of_lt (Nat.lt_of_lt_of_le fk243.lt z_o232)
  have ne_lb224_o232 : lb224 ≠ o232 := Nat.ne_of_lt (Nat.lt_of_lt_of_le fk244.lt z_o232)
  have sz_o232 : h0.size ≤ o232 := Nat.le_trans K225.1 z_o232
  have g_o232 : n0 ≤ o232 := Nat.le_trans Z0 sz_o232
  have ne_oc_d232 : oc ≠ d232 := Nat.ne_of_lt (Nat.lt_of_lt_of_le fk235.lt z_d232)
  have ne_dc_d232 : dc ≠ d232 := Nat.ne_of_lt (Nat.lt_of_lt_of_le fk236.lt z_d232)
  have ne_a2_d232 : a2 ≠ d232 := Nat.ne_of_lt (Nat.lt_of_lt_of_le fk237.lt z_d232)
  have ne_dq_d232 : dq ≠ d232 := Nat.ne_of_lt (Nat.lt_of_lt_of_le fk238.lt z_d232)
  have ne_b182_d232 : b182 ≠ d232 := Nat.ne_of_lt (Nat.lt_of_lt_of_le E225q.lt z_d232)
  have ne_d183_d232 : d183 ≠ d232 := Nat.ne_of_lt (Nat.lt_of_lt_of_le fk239.lt z_d232)
  have ne_d189_d232 : d189 ≠ d232 := Nat.ne_of_lt (Nat.lt_of_lt_of_le fk240.lt z_d232)
  have ne_la201_d232 : la201 ≠ d232 := Nat.ne_of_lt (Nat.lt_of_lt_of_le fk241.lt z_d232)
  have ne_lb201_d232 : lb201 ≠ d232 := Nat.ne_of_lt (Nat.lt_of_lt_of_le fk242.lt z_d232)
  have ne_d209_d232 : d209 ≠ d232 := Nat.ne_of_lt (Nat.lt_of_lt_of_le V225q.lt z_d232)
  have ne_la224_d232 : la224 ≠ d232 := Nat.ne_of_lt (Nat.lt_of_lt_of_le fk243.lt z_d232)
  have ne_lb224_d232 : lb224 ≠ d232 := Nat.ne_of_lt (Nat.lt_of_lt_of_le fk244.lt z_d232)
  have sz_d232 : h0.size ≤ d232 := Nat.le_trans K225.1 z_d232
  have g_d232 : n0 ≤ d232 := Nat.le_trans Z0 sz_d232
  have N232 := Fr.app N225 N232q
  have K232 : Keep h0 T232.heap [] := Keep.trans K225 K232q all0
  have sq245 : ∀ x ∈ [b182, d209], Safe Z consts_1 T224.vm _ x := (sfS S224_b182 (sfS S224_d209 sf0))
  have S245_b182 := Safe.keep K225q sq245 R224.1 S224_b182
  have S245_d183 := Safe.keep K225q sq245 R224.1 S224_d183
  have S245_d189 := Safe.keep K225q sq245 R224.1 S224_d189
  have S245_d209 := Safe.keep K225q sq245 R224.1 S224_d209
  have R245 := R224.trans (CHr.keep K225q sq245 R224.1)
  have S246_b182 := Safe.keep K232q sf0 R245.1 S245_b182
  have S246_d183 := Safe.keep K232q sf0 R245.1 S245_d183
  have S246_d189 := Safe.keep K232q sf0 R245.1 S245_d189
  have S246_d209 := Safe.keep K232q sf0 R245.1 S245_d209
  have S246_o232 := Safe.keep K232q sf0 R245.1 (Safe.new z_o232)
  have S246_d232 := Safe.keep K232q sf0 R245.1 (Safe.new z_d232)
  have R246 := R245.trans (CHr.keep K232q sf0 R245.1)
  have hfin := R246.trans (CHv.at (s := s) (vm0 := T224.vm) X232 hZ (own_EW hw) R246.1)
  obtain ⟨fs, hr, hrun, hended, hEnd⟩ := X232.leaveW hS224 (Nat.le_trans (Nat.le_trans hk224 K225q.1) K232q.1) (v := some (.ref o232)) (fun h => by rw [hret] at h; cases h)
  refine ⟨_, _, ?_, hrun, hended, _, _, rfl, ?_, (by rw [hh]; show CHr Z consts_1 s.vm h0 T232.vm T232.heap; exact hfin), ⟨hEnd.1, hEnd.2.1, hEnd.2.2.1, hEnd.2.2.2.mono (by decide) (by decide)⟩⟩
  · show SA T0 m 34 #[vR a1, vR a2, vR oc] []
    refine st182 _ ?_
    show SA T182 m 37 #[vR a1, vR a2, vR oc] [iR b182]
    refine XS.dup X182.here hx rfl (hb hby d1_37) rfl rfl ?_
    show SA T182 m 38 #[vR a1, vR a2, vR oc] [iR b182, iR b182]
    refine st183.trans ?_
    show SA T183 m 41 #[vR a1, vR a2, vR oc] [iR b182]
    refine XS.aloadN X183.here hx rfl (hb hby d1_41) rfl rfl ?_
    show SA T183 m 42 #[vR a1, vR a2, vR oc] [iR oc, iR b182]
    refine st189.trans ?_
    show SA T189 m 45 #[vR a1, vR a2, vR oc] [iR b182]
    refine st201 _ ?_
    show SA T201 m 47 #[vR a1, vR a2, vR oc] [iR la201, iR b182]
    refine st202.trans ?_
    show SA T202 m 50 #[vR a1, vR a2, vR oc] [iR b182]
    refine XS.aloadN X202.here hx rfl (hb hby d1_50) rfl rfl ?_
    show SA T202 m 51 #[vR a1, vR a2, vR oc] [iR a2, iR b182]
    refine st209.trans ?_
    show SA T209 m 54 #[vR a1, vR a2, vR oc] [iR b182]
    refine st224 _ ?_
    show SA T224 m 56 #[vR a1, vR a2, vR oc] [iR la224, iR b182]
    refine st225.trans ?_
    show SA T225 m 59 #[vR a1, vR a2, vR oc] [iR b182]
    refine st232.trans ?_
    show SA T232 m 62 #[vR a1, vR a2, vR oc] [iR o232]
    refine XS.astoreN X232.here hx rfl (hb hby d1_62) rfl rfl (l' := #[vR a1, vR a2, vR o232]) rfl ?_
    show SA T232 m 63 #[vR a1, vR a2, vR o232] []
    refine XS.aloadN X232.here hx rfl (hb hby d1_63) rfl rfl ?_
    show Steps _ _ _ (T232.setTop (mkF m 64 #[vR a1, vR a2, vR o232] [iR o232])) _
    jvm_step X232.here [X232.here.top, hx, (hb hby d1_64), X232.method', hret, Value.isRef, FieldType.isReference]
    first | (intro acts; rw [hr _ acts rfl rfl rfl]) | rw [hr _ _ rfl rfl rfl]
    exact Steps.refl _
  · show own_QX Z zz BB h0 n0 _ T232.heap _
    exact ⟨_, _, _, rfl, N232, K232, E232q, C232q, F232q, (by rw [← hzz, ← hBB]; exact V232q)⟩
theorem ef_1_e (m : MethodId) (x0 : Addr) (x1 : Addr) : entryFrame m #[(.ref x0), (.ref x1)] 3 = mkF m 0 #[.val (.ref x0), .val (.ref x1), .unset] [] := by first | (simp [entryFrame, mkF, argsToLocals, Value.category]; done) | rfl
def Q1_e (Z : State) (a1 : Addr) (a2 : Addr) (dp : Addr) (kdp : ClassId) (zp : Int32) (Bp : List Int32) (dq : Addr) (kdq : ClassId) (zq : Int32) (Bq : List Int32) (zz : Int32) (BB : List Int32) (cs : Int32) (h0 : Heap) (n0 : Nat) (v : Option Value) (h : Heap) (L : List Loc) : Prop := ∃ (o d : Addr) (ko : ClassId), v = some (.ref o) ∧ Fr n0 L ∧ Keep h0 h [] ∧ Exa Z h o "java/lang/String" ∧ Fld Z h o "java/lang/String" "coder" "B" (.int (0 : Int32)) ∧ Fld Z h o "java/lang/String" "value" "[B" (.ref d) ∧ Arv Z h d ko .byte zz (own_bs BB) (.int (0 : Int32))
theorem rm1_e (l : Launch) (Z : State) (a0 : Array Value) (hw : ∀ d ∈ tables_1, d.before a0 Z = true) (ws : List Jvm.Cond) (a1 : Addr) (a2 : Addr) (dp : Addr) (kdp : ClassId) (zp : Int32) (Bp : List Int32) (dq : Addr) (kdq : ClassId) (zq : Int32) (Bq : List Int32) (zz : Int32) (BB : List Int32) (cs : Int32) (h0 : Heap) (n0 : Nat) (Z0 : n0 ≤ h0.size) (O0 : Old Z n0 h0) (E_a1 : Exa Z h0 a1 "java/lang/String") (Fc_a1 : Fld Z h0 a1 "java/lang/String" "coder" "B" (.int (0 : Int32))) (Fv_a1 : Fld Z h0 a1 "java/lang/String" "value" "[B" (.ref dp)) (V_dp : Arv Z h0 dp kdp .byte zp (own_bs Bp) (.int (0 : Int32))) (hzp : ¬ zp < 0) (hBp : zp.toNatClampNeg = Bp.length) (E_a2 : Exa Z h0 a2 "java/lang/String") (Fc_a2 : Fld Z h0 a2 "java/lang/String" "coder" "B" (.int (0 : Int32))) (Fv_a2 : Fld Z h0 a2 "java/lang/String" "value" "[B" (.ref dq)) (V_dq : Arv Z h0 dq kdq .byte zq (own_bs Bq) (.int (0 : Int32))) (hzq : ¬ zq < 0) (hBq : zq.toNatClampNeg = Bq.length) (hp : zp = (0 : Int32) ∨ zp = (1 : Int32) ∨ zp = (2 : Int32)) (hpq : ((zp = (0 : Int32) ∧ zq = (0 : Int32)) ∨ (zp = (0 : Int32) ∧ zq = (1 : Int32)) ∨ (zp = (1 : Int32) ∧ zq = (0 : Int32))) ∨ ((zp = (0 : Int32) ∧ zq = (2 : Int32)) ∨ (zp = (1 : Int32) ∧ zq = (1 : Int32)) ∨ (zp = (2 : Int32) ∧ zq = (0 : Int32))) ∨ ((zp = (1 : Int32) ∧ zq = (2 : Int32)) ∨ (zp = (2 : Int32) ∧ zq = (1 : Int32))) ∨ ((zp = (2 : Int32) ∧ zq = (2 : Int32)))) (hzz : (((((0 : Int32) + (((((0 : Int32) + zp) + (8 : Int32)) + (13 : Int32)) + (1 : Int32))) + (9 : Int32)) + zq) + (1 : Int32)) = zz) (hBB : (((([] ++ (((([] ++ Bp) ++ [(32 : Int32), (114 : Int32), (101 : Int32), (97 : Int32), (108 : Int32), (109 : Int32), (61 : Int32), (34 : Int32)]) ++ [(99 : Int32), (108 : Int32), (111 : Int32), (117 : Int32), (100 : Int32), (45 : Int32), (116 : Int32), (111 : Int32), (45 : Int32), (99 : Int32), (111 : Int32), (114 : Int32), (101 : Int32)]) ++ [(34 : Int32)])) ++ [(44 : Int32), (32 : Int32), (101 : Int32), (114 : Int32), (114 : Int32), (111 : Int32), (114 : Int32), (61 : Int32), (34 : Int32)]) ++ Bq) ++ [(34 : Int32)]) = BB) (S_CS : Sta Z Z.heap "java/lang/String" "COMPACT_STRINGS" "Z" (.int cs)) (h_cs : ¬ cs = (0 : Int32)) :
    MetFree l mn_36 (head1 (Jvm.Cond.code mn_36 prog_1_method_3_code 3 (some (.object "java/lang/String")) :: ws) ({ frames := 6, cells := 21, slots := 546, locals := 91 } : Room)) (fun a U => a = #[(.ref a1), (.ref a2)] ∧ Z.Warmed39 U.vm ∧ U.heap = h0 ∧ CHv Z consts_1 U.vm h0) (fun _ _ _ _ _ => True) (fun _ U o U' => ∃ v L, o = .returned v ∧ Q1_e Z a1 a2 dp kdp zp Bp dq kdq zq Bq zz BB cs h0 n0 v U'.heap L ∧ CHr Z consts_1 U.vm U.heap U'.vm U'.heap ∧ ReturnedEndW U o U' L ({ frames := 6, cells := 21, slots := 546, locals := 91 } : Room).cells ({ frames := 6, cells := 21, slots := 546, locals := 91 } : Room).slots) := by
  refine MetFree.of_bodySF (plainFor_of_name pn_8) hisR ?_
  intro p e s m args below meth c s₁ Bd hml0 hP hK
  obtain ⟨rfl, hZ, hh, hC0⟩ := hP
  have hx := Bd.exec
  have hby := Bd.bytes
  have hml : c.maxLocals = 3 := hml0
  have hown : s.vm.findClass "com/example/cloud_to_core/cloudtocore/auth/HttpAuthorization" = some m.cls := findClass_of_methodNamed Bd.named
  have hnm := (name_of_methodNamed Bd.named Bd.method).1
  have X0 : Stand p l e ({ frames := 6, cells := 21, slots := 546, locals := 91 } : Room) s m #[(.ref a1), (.ref a2)] below meth c s₁ [] 0 0 := Stand.of_body Bd
  have e0 : s₁.heap = h0 := by rw [← hh, Bd.state]; rfl
  have R0 := CHr.refl hC0
  have N0 := Fr.nil n0
  have K0 := Keep.refl h0 []
  have pre0 : ∀ t, Steps p.tables e below (s₁.setTop (mkF m 0 #[.val (.ref a1), .val (.ref a2), .unset] [])) t → Steps p.tables e below (s₁.setTop (entryFrame m #[(.ref a1), (.ref a2)] 3)) t := fun t k => castTop (ef_1_e m a1 a2) k
  obtain ⟨T1, h1, X1, e1, E1, A1, D1, -, st1⟩ := newO X0 hx hZ hown (ww hw 12 rfl) (ww hw 13 rfl) (ww hw 14 rfl) e0 (g := (mkF m 0 #[vR a1, vR a2, .unset] [])) rfl (hb hby d1_0) (by decide) (by decide)
  obtain ⟨b1, g1⟩ : ∃ z, z = h0.size := ⟨_, rfl⟩
  rw [← g1] at A1 D1 st1
  have ne_a1_b1 : a1 ≠ b1 := Nat.ne_of_lt (Nat.lt_of_lt_of_le E_a1.lt (Nat.le_of_eq g1.symm))
  have ne_dp_b1 : dp ≠ b1 := Nat.ne_of_lt (Nat.lt_of_lt_of_le V_dp.lt (Nat.le_of_eq g1.symm))
  have ne_a2_b1 : a2 ≠ b1 := Nat.ne_of_lt (Nat.lt_of_lt_of_le E_a2.lt (Nat.le_of_eq g1.symm))
  have ne_dq_b1 : dq ≠ b1 := Nat.ne_of_lt (Nat.lt_of_lt_of_le V_dq.lt (Nat.le_of_eq g1.symm))
  have sz_b1 : h0.size ≤ b1 := Nat.le_trans K0.1 (Nat.le_of_eq g1.symm)
  have g_b1 : n0 ≤ b1 := Nat.le_trans Z0 sz_b1
  have K1 : Keep h0 h1 [] := K0.ext E1
  have F_value_b1 : Fld Z h1 b1 "java/lang/AbstractStringBuilder" "value" "[B" .null := D1 (Or.inl (ww hw 29 rfl)) (ty := (.array .byte)) (by decide)
  have F_coder_b1 : Fld Z h1 b1 "java/lang/AbstractStringBuilder" "coder" "B" (.int (0 : Int32)) := D1 (Or.inl (ww hw 31 rfl)) (ty := .byte) (by decide)
  have F_count_b1 : Fld Z h1 b1 "java/lang/AbstractStringBuilder" "count" "I" (.int (0 : Int32)) := D1 (Or.inl (ww hw 56 rfl)) (ty := .int) (by decide)
  have Oh3 := O0.keep K1 all0
  obtain ⟨_, _, ⟨T2, L2, k2, n2⟩, -, X2, ⟨Lc2, hQ2, l2, y2, z2⟩, st2⟩ := X1.specialBack hx (y := mn_29) rfl hown (mvT hZ (ww hw 15 rfl)) (mvT hZ (ww hw 16 rfl)) (mvT hZ (ww hw 17 rfl)) (by decide) (backOf (W := 1) (rm2 l Z a0 hw [] b1 cs h1 n0 (Nat.le_trans Z0 K1.1) Oh3 A1 g_b1 F_value_b1 F_coder_b1 F_count_b1 S_CS h_cs) hZ (ww hw 17 rfl) (ww hw 14 rfl) (by decide) (by decide)) (g := (mkF m 4 #[vR a1, vR a2, .unset] [iR b1, iR b1])) rfl (by rw [hml]; rfl) (Steps.refl _) (a := b1) (argsL := []) (rest := [(.ref b1)]) (lenOf pd_23 rfl) rfl (wz rfl) (hb hby d1_4) (fun _ _ => ⟨rfl, e1, (by decide : 1 + 1 ≤ _), (by decide : 4 + 16 ≤ _)⟩)
  dsimp only [Pt.U, Pt.locs, Pt.cells, Pt.slots] at X2 l2 y2 z2 st2 hQ2
  subst l2 y2 z2
  obtain ⟨d2, kd2, rfl, N2q, K2q, E2q, Fv2q, Fc2q, Fn2q, V2q, G2q, z_d2⟩ := hQ2
  have fk4 := (E_a1.ext E1)
  have fk5 := (V_dp.ext E1)
  have fk6 := (E_a2.ext E1)
  have fk7 := (V_dq.ext E1)
  have ne_a1_d2 : a1 ≠ d2 := Nat.ne_of_lt (Nat.lt_of_lt_of_le fk4.lt z_d2)
  have ne_dp_d2 : dp ≠ d2 := Nat.ne_of_lt (Nat.lt_of_lt_of_le fk5.lt z_d2)
  have ne_a2_d2 : a2 ≠ d2 := Nat.ne_of_lt (Nat.lt_of_lt_of_le fk6.lt z_d2)
  have ne_dq_d2 : dq ≠ d2 := Nat.ne_of_lt (Nat.lt_of_lt_of_le fk7.lt z_d2)
  have ne_b1_d2 : b1 ≠ d2 := Nat.ne_of_lt (Nat.lt_of_lt_of_le A1.lt z_d2)
  have sz_d2 : h0.size ≤ d2 := Nat.le_trans K1.1 z_d2
  have g_d2 : n0 ≤ d2 := Nat.le_trans Z0 sz_d2
  have N2 := Fr.app N0 N2q
  have K2 : Keep h0 T2.heap [] := Keep.trans K1 K2q (allS (Or.inr sz_b1) all0)
  have fk9 := (fk4.keep K2q)
  have fk10 := ((Fc_a1.ext E1).keep K2q (ninS ne_a1_b1 nin0))
  have fk11 := ((Fv_a1.ext E1).keep K2q (ninS ne_a1_b1 nin0))
  have fk12 := (fk5.keep K2q (ninS ne_dp_b1 nin0))
  have Oh13 := O0.keep K2 all0
  obtain ⟨cq8, kq8, q8a, q8b, q8c⟩ := isOf hZ rfl E2q
  obtain ⟨_, _, ⟨T8, L8, k8, n8⟩, -, X8, ⟨Lc8, hQ8, l8, y8, z8⟩, st8⟩ := X2.virtualBack hx (y := mn_12) (z := mn_12) hown (mvT hZ (ww hw 32 rfl)) (mvT hZ (ww hw 33 rfl)) (notFace_of_selects (args := #[]) (mvT hZ (ww hw 35 rfl))) (mvT hZ (ww hw 35 rfl)) (mvT hZ (ww hw 34 rfl)) (by decide) (backOf (W := 0) (rm5_f l Z a0 hw [] b1 a1 d2 kd2 (16 : Int32) [] dp kdp zp Bp (0 : Int32) cs T2.heap n0 (Nat.le_trans Z0 K2.1) Oh13 E2q Fv2q Fc2q V2q g_d2 Fn2q g_b1 ne_b1_d2 fk9 fk10 fk11 fk12 hzp hBp (Ne.symm ne_a1_b1) (Ne.symm ne_dp_b1) ne_a1_d2 (Ne.symm ne_dp_d2) (own_pn0 zp hp) (own_pn1 zp Bp hBp hp) (own_pn2 zp hp) (own_pn3 zp hp) (by decide) (own_pn4 zp hp) S_CS h_cs) hZ (ww hw 36 rfl) (ww hw 14 rfl) (by decide) (by decide)) q8a q8c (g := (mkF m 8 #[vR a1, vR a2, .unset] [iR a1, iR b1])) rfl (by rw [hml]; rfl) (Steps.refl _) (argsL := [(.ref a1)]) (rest := []) (lenOf pd_24 rfl) rfl (wz rfl) (hb hby d1_8) (fun _ _ => ⟨rfl, rfl, (by decide : 2 + 0 ≤ _), (by decide : 20 + 0 ≤ _)⟩)
  dsimp only [Pt.U, Pt.locs, Pt.cells, Pt.slots] at X8 l8 y8 z8 st8 hQ8
  subst l8 y8 z8
  obtain ⟨rfl, N8q, K8q, E8q, Fv8q, Fc8q, Fn8q, V8q⟩ := hQ8
  have N8 := Fr.app N2 N8q
  have K8 : Keep h0 T8.heap [] := Keep.trans K2 K8q (allS (Or.inr sz_b1) (allS (Or.inr sz_d2) all0))
  have S14_b1 := Safe.ext E1 R0.1 (Safe.new (Nat.le_of_eq g1.symm))
  have R14 := R0.trans (CHr.ext E1 R0.1)
  have sq15 : ∀ x ∈ [b1], Safe Z consts_1 s.vm _ x := (sfS S14_b1 sf0)
  have S15_b1 := Safe.keep K2q sq15 R14.1 S14_b1
  have S15_d2 := Safe.keep K2q sq15 R14.1 (Safe.new z_d2)
  have R15 := R14.trans (CHr.keep K2q sq15 R14.1)
  have sq16 : ∀ x ∈ [b1, d2], Safe Z consts_1 s.vm _ x := (sfS S15_b1 (sfS S15_d2 sf0))
  have S16_b1 := Safe.keep K8q sq16 R15.1 S15_b1
  have S16_d2 := Safe.keep K8q sq16 R15.1 S15_d2
  have R16 := R15.trans (CHr.keep K8q sq16 R15.1)
  have fk17 := (G2q.keep K8q)
  obtain ⟨la18, T18, h18, kk18, lb18, kl18, X18, e18, E18, hS18, hk18, hZ, hown, EE18, FC18, FV18, VV18, -, -, C18, li18, ne18, st18⟩ := ldcCH (s := s) (vm0 := s.vm) X8 hx hZ hown (ww hw 82 rfl) (own_strAtoms hw) rfl ((State.WarmedH.refl s).since 0) (Nat.zero_le _) (own_EW hw) (List.mem_of_getElem? (i := 0) rfl) R16.1 (vs := own_bs [(32 : Int32), (114 : Int32), (101 : Int32), (97 : Int32), (108 : Int32), (109 : Int32), (61 : Int32), (34 : Int32)]) (z := (8 : Int32)) own_ct0 (by decide) (by decide) (g := (mkF m 11 #[vR a1, vR a2, .unset] [iR b1])) rfl (hb hby d1_11) (n := 32) (by decide) (by decide) (by decide) (by decide)
  have K18 : Keep h0 h18 [] := K8.ext E18
  have S18_b1 := C18.safe E8q.lt S16_b1
  have S18_d2 := C18.safe fk17.lt S16_d2
  have R18 := R16.trans C18
  have fk20 := (E8q.ext E18)
  have fk21 := (Fv8q.ext E18)
  have fk22 := (Fc8q.ext E18)
  have fk23 := (V8q.ext E18)
  have fk24 := (Fn8q.ext E18)
  have Oh25 := O0.keep K18 all0
  obtain ⟨cq19, kq19, q19a, q19b, q19c⟩ := isOf hZ e18 fk20
  obtain ⟨_, _, ⟨T19, L19, k19, n19⟩, -, X19, ⟨Lc19, hQ19, l19, y19, z19⟩, st19⟩ := X18.virtualBack hx (y := mn_12) (z := mn_12) hown (mvT hZ (ww hw 32 rfl)) (mvT hZ (ww hw 33 rfl)) (notFace_of_selects (args := #[]) (mvT hZ (ww hw 35 rfl))) (mvT hZ (ww hw 35 rfl)) (mvT hZ (ww hw 34 rfl)) (by decide) (backOf (W := 0) (rm5_f l Z a0 hw [] b1 la18 d2 kd2 (16 : Int32) ([] ++ Bp) lb18 kl18 (8 : Int32) [(32 : Int32), (114 : Int32), (101 : Int32), (97 : Int32), (108 : Int32), (109 : Int32), (61 : Int32), (34 : Int32)] ((0 : Int32) + zp) cs h18 n0 (Nat.le_trans Z0 K18.1) Oh25 fk20 fk21 fk22 fk23 g_d2 fk24 g_b1 ne_b1_d2 EE18 FC18 FV18 VV18 (by decide) (by decide) (ne18 _ S18_b1).1 (ne18 _ S18_b1).2 (Ne.symm (ne18 _ S18_d2).1) (ne18 _ S18_d2).2 (own_pn3 zp hp) (own_pn5 zp Bp hBp hp) (own_pn6 zp hp) (own_pn7 zp hp) (by decide) (own_pn8 zp hp) S_CS h_cs) hZ (ww hw 36 rfl) (ww hw 14 rfl) (by decide) (by decide)) q19a q19c (g := (mkF m 13 #[vR a1, vR a2, .unset] [iR la18, iR b1])) rfl (by rw [hml]; rfl) (Steps.refl _) (argsL := [(.ref la18)]) (rest := []) (lenOf pd_24 rfl) rfl (wz rfl) (hb hby d1_13) (fun _ _ => ⟨rfl, e18, (by decide : 4 + 0 ≤ _), (by decide : 56 + 0 ≤ _)⟩)
  dsimp only [Pt.U, Pt.locs, Pt.cells, Pt.slots] at X19 l19 y19 z19 st19 hQ19
  subst l19 y19 z19
  obtain ⟨rfl, N19q, K19q, E19q, Fv19q, Fc19q, Fn19q, V19q⟩ := hQ19
  have N19 := Fr.app N8 N19q
  have K19 : Keep h0 T19.heap [] := Keep.trans K18 K19q (allS (Or.inr sz_b1) (allS (Or.inr sz_d2) all0))
  have sq26 : ∀ x ∈ [b1, d2], Safe Z consts_1 T18.vm _ x := (sfS S18_b1 (sfS S18_d2 sf0))
  have S26_b1 := Safe.keep K19q sq26 R18.1 S18_b1
  have S26_d2 := Safe.keep K19q sq26 R18.1 S18_d2
  have R26 := R18.trans (CHr.keep K19q sq26 R18.1)
  have fk27 := ((fk17.ext E18).keep K19q)
  obtain ⟨la28, T28, h28, kk28, lb28, kl28, X28, e28, E28, hS28, hk28, hZ, hown, EE28, FC28, FV28, VV28, -, -, C28, li28, ne28, st28⟩ := ldcCH (s := s) (vm0 := T18.vm) X19 hx hZ hown (ww hw 83 rfl) (own_strAtoms hw) rfl hS18 (Nat.le_trans hk18 K19q.1) (own_EW hw) (List.mem_of_getElem? (i := 1) rfl) R26.1 (vs := own_bs [(99 : Int32), (108 : Int32), (111 : Int32), (117 : Int32), (100 : Int32), (45 : Int32), (116 : Int32), (111 : Int32), (45 : Int32), (99 : Int32), (111 : Int32), (114 : Int32), (101 : Int32)]) (z := (13 : Int32)) own_ct1 (by decide) (by decide) (g := (mkF m 16 #[vR a1, vR a2, .unset] [iR b1])) rfl (hb hby d1_16) (n := 52) (by decide) (by decide) (by decide) (by decide)
  have K28 : Keep h0 h28 [] := K19.ext E28
  have S28_b1 := C28.safe E19q.lt S26_b1
  have S28_d2 := C28.safe fk27.lt S26_d2
  have R28 := R26.trans C28
  have fk30 := (E19q.ext E28)
  have fk31 := (Fv19q.ext E28)
  have fk32 := (Fc19q.ext E28)
  have fk33 := (V19q.ext E28)
  have fk34 := (Fn19q.ext E28)
  have Oh35 := O0.keep K28 all0
  obtain ⟨cq29, kq29, q29a, q29b, q29c⟩ := isOf hZ e28 fk30
  obtain ⟨_, _, ⟨T29, L29, k29, n29⟩, -, X29, ⟨Lc29, hQ29, l29, y29, z29⟩, st29⟩ := X28.virtualBack hx (y := mn_12) (z := mn_12) hown (mvT hZ (ww hw 32 rfl)) (mvT hZ (ww hw 33 rfl)) (notFace_of_selects (args := #[]) (mvT hZ (ww hw 35 rfl))) (mvT hZ (ww hw 35 rfl)) (mvT hZ (ww hw 34 rfl)) (by decide) (backOf (W := 0) (rm5_g l Z a0 hw [] b1 la28 d2 kd2 (16 : Int32) (([] ++ Bp) ++ [(32 : Int32), (114 : Int32), (101 : Int32), (97 : Int32), (108 : Int32), (109 : Int32), (61 : Int32), (34 : Int32)]) lb28 kl28 (13 : Int32) [(99 : Int32), (108 : Int32), (111 : Int32), (117 : Int32), (100 : Int32), (45 : Int32), (116 : Int32), (111 : Int32), (45 : Int32), (99 : Int32), (111 : Int32), (114 : Int32), (101 : Int32)] (((0 : Int32) + zp) + (8 : Int32)) (34 : Int32) cs h28 n0 (Nat.le_trans Z0 K28.1) Oh35 fk30 fk31 fk32 fk33 g_d2 fk34 g_b1 ne_b1_d2 EE28 FC28 FV28 VV28 (by decide) (by decide) (ne28 _ S28_b1).1 (ne28 _ S28_b1).2 (Ne.symm (ne28 _ S28_d2).1) (ne28 _ S28_d2).2 (own_pn7 zp hp) (own_pn9 zp Bp hBp hp) (own_pn10 zp hp) (own_pn11 zp hp) (by decide) (own_pn12 zp hp) (own_pn13 zp hp) (by decide) (by decide) (by decide) (by decide) (own_pn14 zp Bp hBp hp) (own_pn15 zp hp) S_CS h_cs) hZ (ww hw 36 rfl) (ww hw 14 rfl) (by decide) (by decide)) q29a q29c (g := (mkF m 18 #[vR a1, vR a2, .unset] [iR la28, iR b1])) rfl (by rw [hml]; rfl) (Steps.refl _) (argsL := [(.ref la28)]) (rest := []) (lenOf pd_24 rfl) rfl (wz rfl) (hb hby d1_18) (fun _ _ => ⟨rfl, e28, (by decide : 6 + 1 ≤ _), (by decide : 112 + 70 ≤ _)⟩)
  dsimp only [Pt.U, Pt.locs, Pt.cells, Pt.slots] at X29 l29 y29 z29 st29 hQ29
  subst l29 y29 z29
  obtain ⟨d29, kd29, rfl, N29q, K29q, E29q, Fv29q, Fc29q, Fn29q, V29q, G29q, z_d29⟩ := hQ29
  have fk36 := ((((fk9.keep K8q).ext E18).keep K19q).ext E28)
  have fk37 := ((((fk12.keep K8q (ninS ne_dp_b1 (ninS ne_dp_d2 nin0))).ext E18).keep K19q (ninS ne_dp_b1 (ninS ne_dp_d2 nin0))).ext E28)
  have fk38 := (((((fk6.keep K2q).keep K8q).ext E18).keep K19q).ext E28)
  have fk39 := (((((fk7.keep K2q (ninS ne_dq_b1 nin0)).keep K8q (ninS ne_dq_b1 (ninS ne_dq_d2 nin0))).ext E18).keep K19q (ninS ne_dq_b1 (ninS ne_dq_d2 nin0))).ext E28)
  have fk40 := (fk27.ext E28)
  have fk41 := ((EE18.keep K19q).ext E28)
  have fk42 := ((VV18.keep K19q (ninS (Ne.symm (ne18 _ S18_b1).2) (ninS (Ne.symm (ne18 _ S18_d2).2) nin0))).ext E28)
  have ne_a1_d29 : a1 ≠ d29 := Nat.ne_of_lt (Nat.lt_of_lt_of_le fk36.lt z_d29)
  have ne_dp_d29 : dp ≠ d29 := Nat.ne_of_lt (Nat.lt_of_lt_of_le fk37.lt z_d29)
  have ne_a2_d29 : a2 ≠ d29 := Nat.ne_of_lt (Nat.lt_of_lt_of_le fk38.lt z_d29)
  have ne_dq_d29 : dq ≠ d29 := Nat.ne_of_lt (Nat.lt_of_lt_of_le fk39.lt z_d29)
  have ne_b1_d29 : b1 ≠ d29 := Nat.ne_of_lt (Nat.lt_of_lt_of_le fk30.lt z_d29)
  have ne_d2_d29 : d2 ≠ d29 := Nat.ne_of_lt (Nat.lt_of_lt_of_le fk40.lt z_d29)
  have ne_la18_d29 : la18 ≠ d29 := Nat.ne_of_lt (Nat.lt_of_lt_of_le fk41.lt z_d29)
  have ne_lb18_d29 : lb18 ≠ d29 := Nat.ne_of_lt (Nat.lt_of_lt_of_le fk42.lt z_d29)
  have ne_la28_d29 : la28 ≠ d29 := Nat.ne_of_lt (Nat.lt_of_lt_of_le EE28.lt z_d29)
  have ne_lb28_d29 : lb28 ≠ d29 := Nat.ne_of_lt (Nat.lt_of_lt_of_le VV28.lt z_d29)
  have sz_d29 : h0.size ≤ d29 := Nat.le_trans K28.1 z_d29
  have g_d29 : n0 ≤ d29 := Nat.le_trans Z0 sz_d29
  have N29 := Fr.app N19 N29q
  have K29 : Keep h0 T29.heap [] := Keep.trans K28 K29q (allS (Or.inr sz_b1) all0)
  have sq43 : ∀ x ∈ [b1], Safe Z consts_1 T28.vm _ x := (sfS S28_b1 sf0)
  have S43_b1 := Safe.keep K29q sq43 R28.1 S28_b1
  have S43_d2 := Safe.keep K29q sq43 R28.1 S28_d2
  have S43_d29 := Safe.keep K29q sq43 R28.1 (Safe.new z_d29)
  have R43 := R28.trans (CHr.keep K29q sq43 R28.1)
  have fk44 := (fk40.keep K29q)
  obtain ⟨la45, T45, h45, kk45, lb45, kl45, X45, e45, E45, hS45, hk45, hZ, hown, EE45, FC45, FV45, VV45, -, -, C45, li45, ne45, st45⟩ := ldcCH (s := s) (vm0 := T28.vm) X29 hx hZ hown (ww hw 107 rfl) (own_strAtoms hw) rfl hS28 (Nat.le_trans hk28 K29q.1) (own_EW hw) (List.mem_of_getElem? (i := 2) rfl) R43.1 (vs := own_bs [(34 : Int32)]) (z := (1 : Int32)) own_ct2 (by decide) (by decide) (g := (mkF m 21 #[vR a1, vR a2, .unset] [iR b1])) rfl (hb hby d1_21) (n := 4) (by decide) (by decide) (by decide) (by decide)
  have K45 : Keep h0 h45 [] := K29.ext E45
  have S45_b1 := C45.safe E29q.lt S43_b1
  have S45_d2 := C45.safe fk44.lt S43_d2
  have S45_d29 := C45.safe V29q.lt S43_d29
  have R45 := R43.trans C45
  have fk47 := (E29q.ext E45)
  have fk48 := (Fv29q.ext E45)
  have fk49 := (Fc29q.ext E45)
  have fk50 := (V29q.ext E45)
  have fk51 := (Fn29q.ext E45)
  have Oh52 := O0.keep K45 all0
  obtain ⟨cq46, kq46, q46a, q46b, q46c⟩ := isOf hZ e45 fk47
  obtain ⟨_, _, ⟨T46, L46, k46, n46⟩, -, X46, ⟨Lc46, hQ46, l46, y46, z46⟩, st46⟩ := X45.virtualBack hx (y := mn_12) (z := mn_12) hown (mvT hZ (ww hw 32 rfl)) (mvT hZ (ww hw 33 rfl)) (notFace_of_selects (args := #[]) (mvT hZ (ww hw 35 rfl))) (mvT hZ (ww hw 35 rfl)) (mvT hZ (ww hw 34 rfl)) (by decide) (backOf (W := 0) (rm5_f l Z a0 hw [] b1 la45 d29 kd29 (34 : Int32) ((([] ++ Bp) ++ [(32 : Int32), (114 : Int32), (101 : Int32), (97 : Int32), (108 : Int32), (109 : Int32), (61 : Int32), (34 : Int32)]) ++ [(99 : Int32), (108 : Int32), (111 : Int32), (117 : Int32), (100 : Int32), (45 : Int32), (116 : Int32), (111 : Int32), (45 : Int32), (99 : Int32), (111 : Int32), (114 : Int32), (101 : Int32)]) lb45 kl45 (1 : Int32) [(34 : Int32)] ((((0 : Int32) + zp) + (8 : Int32)) + (13 : Int32)) cs h45 n0 (Nat.le_trans Z0 K45.1) Oh52 fk47 fk48 fk49 fk50 g_d29 fk51 g_b1 ne_b1_d29 EE45 FC45 FV45 VV45 (by decide) (by decide) (ne45 _ S45_b1).1 (ne45 _ S45_b1).2 (Ne.symm (ne45 _ S45_d29).1) (ne45 _ S45_d29).2 (own_pn11 zp hp) (own_pn16 zp Bp hBp hp) (own_pn17 zp hp) (own_pn18 zp hp) (by decide) (own_pn19 zp hp) S_CS h_cs) hZ (ww hw 36 rfl) (ww hw 14 rfl) (by decide) (by decide)) q46a q46c (g := (mkF m 23 #[vR a1, vR a2, .unset] [iR la45, iR b1])) rfl (by rw [hml]; rfl) (Steps.refl _) (argsL := [(.ref la45)]) (rest := []) (lenOf pd_24 rfl) rfl (wz rfl) (hb hby d1_23) (fun _ _ => ⟨rfl, e45, (by decide : 9 + 0 ≤ _), (by decide : 190 + 0 ≤ _)⟩)
  dsimp only [Pt.U, Pt.locs, Pt.cells, Pt.slots] at X46 l46 y46 z46 st46 hQ46
  subst l46 y46 z46
  obtain ⟨rfl, N46q, K46q, E46q, Fv46q, Fc46q, Fn46q, V46q⟩ := hQ46
  have N46 := Fr.app N29 N46q
  have K46 : Keep h0 T46.heap [] := Keep.trans K45 K46q (allS (Or.inr sz_b1) (allS (Or.inr sz_d29) all0))
  have fk54 := ((G29q.ext E45).keep K46q)
  have Oh55 := O0.keep K46 all0
  obtain ⟨cq53, kq53, q53a, q53b, q53c⟩ := isOf hZ rfl E46q
  obtain ⟨_, _, ⟨T53, L53, k53, n53⟩, -, X53, ⟨Lc53, hQ53, l53, y53, z53⟩, st53⟩ := X46.virtualBack hx (y := mn_22) (z := mn_22) hown (mvT hZ (ww hw 108 rfl)) (mvT hZ (ww hw 109 rfl)) (notFace_of_selects (args := #[]) (mvT hZ (ww hw 111 rfl))) (mvT hZ (ww hw 111 rfl)) (mvT hZ (ww hw 110 rfl)) (by decide) (backOf (W := 0) (rm18 l Z a0 hw [] b1 d29 kd29 (34 : Int32) (((([] ++ Bp) ++ [(32 : Int32), (114 : Int32), (101 : Int32), (97 : Int32), (108 : Int32), (109 : Int32), (61 : Int32), (34 : Int32)]) ++ [(99 : Int32), (108 : Int32), (111 : Int32), (117 : Int32), (100 : Int32), (45 : Int32), (116 : Int32), (111 : Int32), (45 : Int32), (99 : Int32), (111 : Int32), (114 : Int32), (101 : Int32)]) ++ [(34 : Int32)]) (((((0 : Int32) + zp) + (8 : Int32)) + (13 : Int32)) + (1 : Int32)) cs T46.heap n0 (Nat.le_trans Z0 K46.1) Oh55 E46q Fv46q Fc46q V46q Fn46q (own_pn18 zp hp) (own_pn19 zp hp) (own_pn21 zp hp) (own_pn20 zp Bp hBp hp) fk54 S_CS h_cs) hZ (ww hw 112 rfl) (ww hw 14 rfl) (by decide) (by decide)) q53a q53c (g := (mkF m 26 #[vR a1, vR a2, .unset] [iR b1])) rfl (by rw [hml]; rfl) (Steps.refl _) (argsL := []) (rest := []) (lenOf pd_25 rfl) rfl (wz rfl) (hb hby d1_26) (fun _ _ => ⟨rfl, rfl, (by decide : 9 + 2 ≤ _), (by decide : 190 + 74 ≤ _)⟩)
  dsimp only [Pt.U, Pt.locs, Pt.cells, Pt.slots] at X53 l53 y53 z53 st53 hQ53
  subst l53 y53 z53
  obtain ⟨o53, d53, kd53, rfl, N53q, K53q, E53q, C53q, F53q, V53q, z_o53, z_d53⟩ := hQ53
  have fk56 := (((fk36.keep K29q).ext E45).keep K46q)
  have fk57 := (((fk37.keep K29q (ninS ne_dp_b1 nin0)).ext E45).keep K46q (ninS ne_dp_b1 (ninS ne_dp_d29 nin0)))
  have fk58 := (((fk38.keep K29q).ext E45).keep K46q)
  have fk59 := (((fk39.keep K29q (ninS ne_dq_b1 nin0)).ext E45).keep K46q (ninS ne_dq_b1 (ninS ne_dq_d29 nin0)))
  have fk60 := ((fk44.ext E45).keep K46q)
  have fk61 := (((fk41.keep K29q).ext E45).keep K46q)
  have fk62 := (((fk42.keep K29q (ninS (Ne.symm (ne18 _ S18_b1).2) nin0)).ext E45).keep K46q (ninS (Ne.symm (ne18 _ S18_b1).2) (ninS ne_lb18_d29 nin0)))
  have fk63 := (((EE28.keep K29q).ext E45).keep K46q)
  have fk64 := (((VV28.keep K29q (ninS (Ne.symm (ne28 _ S28_b1).2) nin0)).ext E45).keep K46q (ninS (Ne.symm (ne28 _ S28_b1).2) (ninS ne_lb28_d29 nin0)))
  have fk65 := (EE45.keep K46q)
  have fk66 := (VV45.keep K46q (ninS (Ne.symm (ne45 _ S45_b1).2) (ninS (Ne.symm (ne45 _ S45_d29).2) nin0)))
  have ne_a1_o53 : a1 ≠ o53 := Nat.ne_of_lt (Nat.lt_of_lt_of_le fk56.lt z_o53)
  have ne_dp_o53 : dp ≠ o53 := Nat.ne_of_lt (Nat.lt_of_lt_of_le fk57.lt z_o53)
  have ne_a2_o53 : a2 ≠ o53 := Nat.ne_of_lt (Nat.lt_of_lt_of_le fk58.lt z_o53)
  have ne_dq_o53 : dq ≠ o53 := Nat.ne_of_lt (Nat.lt_of_lt_of_le fk59.lt z_o53)
  have ne_b1_o53 : b1 ≠ o53 := Nat.ne_of_lt (Nat.lt_of_lt_of_le E46q.lt z_o53)
  have ne_d2_o53 : d2 ≠ o53 := Nat.ne_of_lt (Nat.lt_of_lt_of_le fk60.lt z_o53)
  have ne_la18_o53 : la18 ≠ o53 := Nat.ne_of_lt (Nat.lt_of_lt_of_le fk61.lt z_o53)
  have ne_lb18_o53 : lb18 ≠ o53 := Nat.ne_of_lt (Nat.lt_of_lt_of_le fk62.lt z_o53)
  have ne_la28_o53 : la28 ≠ o53 := Nat.ne_of_lt (Nat.lt_of_lt_of_le fk63.lt z_o53)
  have ne_lb28_o53 : lb28 ≠ o53 := Nat.ne_of_lt (Nat.lt_of_lt_of_le fk64.lt z_o53)
  have ne_d29_o53 : d29 ≠ o53 := Nat.ne_of_lt (Nat.lt_of_lt_of_le V46q.lt z_o53)
  have ne_la45_o53 : la45 ≠ o53 := Nat.ne_of_lt (Nat.lt_of_lt_of_le fk65.lt z_o53)
  have ne_lb45_o53 : lb45 ≠ o53 := Nat.ne_of_lt (Nat.lt_of_lt_of_le fk66.lt z_o53)
  have sz_o53 : h0.size ≤ o53 := Nat.le_trans K46.1 z_o53
  have g_o53 : n0 ≤ o53 := Nat.le_trans Z0 sz_o53
  have ne_a1_d53 : a1 ≠ d53 := Nat.ne_of_lt (Nat.lt_of_lt_of_le fk56.lt z_d53)
  have ne_dp_d53 : dp ≠ d53 := Nat.ne_of_lt (Nat.lt_of_lt_of_le fk57.lt z_d53)
  have ne_a2_d53 : a2 ≠ d53 := Nat.ne_of_lt (Nat.lt_of_lt_of_le fk58.lt z_d53)
  have ne_dq_d53 : dq ≠ d53 := Nat.ne_of_lt (Nat.lt_of_lt_of_le fk59.lt z_d53)
  have ne_b1_d53 : b1 ≠ d53 := Nat.ne_of_lt (Nat.lt_of_lt_of_le E46q.lt z_d53)
  have ne_d2_d53 : d2 ≠ d53 := Nat.ne_of_lt (Nat.lt_of_lt_of_le fk60.lt z_d53)
  have ne_la18_d53 : la18 ≠ d53 := Nat.ne_of_lt (Nat.lt_of_lt_of_le fk61.lt z_d53)
  have ne_lb18_d53 : lb18 ≠ d53 := Nat.ne_of_lt (Nat.lt_of_lt_of_le fk62.lt z_d53)
  have ne_la28_d53 : la28 ≠ d53 := Nat.ne_of_lt (Nat.lt_of_lt_of_le fk63.lt z_d53)
  have ne_lb28_d53 : lb28 ≠ d53 := Nat.ne_of_lt (Nat.lt_of_lt_of_le fk64.lt z_d53)
  have ne_d29_d53 : d29 ≠ d53 := Nat.ne_of_lt (Nat.lt_of_lt_of_le V46q.lt z_d53)
  have ne_la45_d53 : la45 ≠ d53 := Nat.ne_of_lt (Nat.lt_of_lt_of_le fk65.lt z_d53)
  have ne_lb45_d53 : lb45 ≠ d53 := Nat.ne_of_lt (Nat.lt_of_lt_of_le fk66.lt z_d53)
  have sz_d53 : h0.size ≤ d53 := Nat.le_trans K46.1 z_d53
  have g_d53 : n0 ≤ d53 := Nat.le_trans Z0 sz_d53
  have N53 := Fr.app N46 N53q
  have K53 : Keep h0 T53.heap [] := Keep.trans K46 K53q all0
  have sq67 : ∀ x ∈ [b1, d29], Safe Z consts_1 T45.vm _ x := (sfS S45_b1 (sfS S45_d29 sf0))
  have S67_b1 := Safe.keep K46q sq67 R45.1 S45_b1
  have S67_d2 := Safe.keep K46q sq67 R45.1 S45_d2
  have S67_d29 := Safe.keep K46q sq67 R45.1 S45_d29
  have R67 := R45.trans (CHr.keep K46q sq67 R45.1)
  have S68_b1 := Safe.keep K53q sf0 R67.1 S67_b1
  have S68_d2 := Safe.keep K53q sf0 R67.1 S67_d2
  have S68_d29 := Safe.keep K53q sf0 R67.1 S67_d29
  have S68_o53 := Safe.keep K53q sf0 R67.1 (Safe.new z_o53)
  have S68_d53 := Safe.keep K53q sf0 R67.1 (Safe.new z_d53)
  have R68 := R67.trans (CHr.keep K53q sf0 R67.1)
  have fk69 := (fk58.keep K53q)
  have fk70 := ((((((((((Fc_a2.ext E1).keep K2q (ninS ne_a2_b1 nin0)).keep K8q (ninS ne_a2_b1 (ninS ne_a2_d2 nin0))).ext E18).keep K19q (ninS ne_a2_b1 (ninS ne_a2_d2 nin0))).ext E28).keep K29q (ninS ne_a2_b1 nin0)).ext E45).keep K46q (ninS ne_a2_b1 (ninS ne_a2_d29 nin0))).keep K53q nin0)
  have fk71 := ((((((((((Fv_a2.ext E1).keep K2q (ninS ne_a2_b1 nin0)).keep K8q (ninS ne_a2_b1 (ninS ne_a2_d2 nin0))).ext E18).keep K19q (ninS ne_a2_b1 (ninS ne_a2_d2 nin0))).ext E28).keep K29q (ninS ne_a2_b1 nin0)).ext E45).keep K46q (ninS ne_a2_b1 (ninS ne_a2_d29 nin0))).keep K53q nin0)
  have fk72 := (fk59.keep K53q nin0)
  have pre73 : ∀ t, Steps p.tables e below (T53.setTop (mkF m 34 #[vR a1, vR a2, vR o53] [])) t → Steps p.tables e below (s₁.setTop (entryFrame m #[(.ref a1), (.ref a2)] 3)) t := by
    intro t kt
    refine pre0 t ?_
    show SA s₁ m 0 #[vR a1, vR a2, .unset] []
    refine st1 _ ?_
    show SA T1 m 3 #[vR a1, vR a2, .unset] [iR b1]
    refine XS.dup X1.here hx rfl (hb hby d1_3) rfl rfl ?_
    show SA T1 m 4 #[vR a1, vR a2, .unset] [iR b1, iR b1]
    refine st2.trans ?_
    show SA T2 m 7 #[vR a1, vR a2, .unset] [iR b1]
    refine XS.aloadN X2.here hx rfl (hb hby d1_7) rfl rfl ?_
    show SA T2 m 8 #[vR a1, vR a2, .unset] [iR a1, iR b1]
    refine st8.trans ?_
    show SA T8 m 11 #[vR a1, vR a2, .unset] [iR b1]
    refine st18 _ ?_
    show SA T18 m 13 #[vR a1, vR a2, .unset] [iR la18, iR b1]
    refine st19.trans ?_
    show SA T19 m 16 #[vR a1, vR a2, .unset] [iR b1]
    refine st28 _ ?_
    show SA T28 m 18 #[vR a1, vR a2, .unset] [iR la28, iR b1]
    refine st29.trans ?_
    show SA T29 m 21 #[vR a1, vR a2, .unset] [iR b1]
    refine st45 _ ?_
    show SA T45 m 23 #[vR a1, vR a2, .unset] [iR la45, iR b1]
    refine st46.trans ?_
    show SA T46 m 26 #[vR a1, vR a2, .unset] [iR b1]
    refine st53.trans ?_
    show SA T53 m 29 #[vR a1, vR a2, .unset] [iR o53]
    refine XS.astoreN X53.here hx rfl (hb hby d1_29) rfl rfl (l' := #[vR a1, vR a2, vR o53]) rfl ?_
    show SA T53 m 30 #[vR a1, vR a2, vR o53] []
    refine XS.aloadN X53.here hx rfl (hb hby d1_30) rfl rfl ?_
    show SA T53 m 31 #[vR a1, vR a2, vR o53] [iR a2]
    refine XS.ifnullNo X53.here hx rfl (hb hby d1_31) rfl ?_
    exact kt
  obtain ⟨s₂, o₂, hs₂, hr₂⟩ := hpq.elim (fun hx_ => own_t34a (s := s) (vmT := T45.vm) X53 hx hZ hw hby hml hown Bd.returns (by first | assumption | exact BodyLoose.notSynchronized (by assumption) | exact Body.notSynchronized (by assumption)) (rfl : T53.heap = _) K53 N53 Z0 O0 hS45 (Nat.le_trans (Nat.le_trans hk45 K46q.1) K53q.1) R68 hh E53q C53q F53q V53q (own_pn18 zp hp) (own_pn20 zp Bp hBp hp) fk69 fk70 fk71 fk72 hzq hBq hx_ hzz hBB S_CS h_cs) (fun hpq => hpq.elim (fun hx_ => own_t34b (s := s) (vmT := T45.vm) X53 hx hZ hw hby hml hown Bd.returns (by first | assumption | exact BodyLoose.notSynchronized (by assumption) | exact Body.notSynchronized (by assumption)) (rfl : T53.heap = _) K53 N53 Z0 O0 hS45 (Nat.le_trans (Nat.le_trans hk45 K46q.1) K53q.1) R68 hh E53q C53q F53q V53q (own_pn18 zp hp) (own_pn20 zp Bp hBp hp) fk69 fk70 fk71 fk72 hzq hBq hx_ hzz hBB S_CS h_cs) (fun hpq => hpq.elim (fun hx_ => own_t34c (s := s) (vmT := T45.vm) X53 hx hZ hw hby hml hown Bd.returns (by first | assumption | exact BodyLoose.notSynchronized (by assumption) | exact Body.notSynchronized (by assumption)) (rfl : T53.heap = _) K53 N53 Z0 O0 hS45 (Nat.le_trans (Nat.le_trans hk45 K46q.1) K53q.1) R68 hh E53q C53q F53q V53q (own_pn18 zp hp) (own_pn20 zp Bp hBp hp) fk69 fk70 fk71 fk72 hzq hBq hx_ hzz hBB S_CS h_cs) (fun hx_ => own_t34d (s := s) (vmT := T45.vm) X53 hx hZ hw hby hml hown Bd.returns (by first | assumption | exact BodyLoose.notSynchronized (by assumption) | exact Body.notSynchronized (by assumption)) (rfl : T53.heap = _) K53 N53 Z0 O0 hS45 (Nat.le_trans (Nat.le_trans hk45 K46q.1) K53q.1) R68 hh E53q C53q F53q V53q (own_pn18 zp hp) (own_pn20 zp Bp hBp hp) fk69 fk70 fk71 fk72 hzq hBq hx_ hzz hBB S_CS h_cs)))
  exact ⟨s₂, o₂, pre73 _ hs₂, hr₂⟩
theorem own_ofNat (v : Int32) (n : Nat) (hn : n ≤ 1000000) (h0 : 0 ≤ v.toInt) (h1 : v.toInt < n) : ∃ i, i < n ∧ v = Int32.ofNat i := by
  refine ⟨v.toInt.toNat, by omega, Int32.toInt_inj.mp ?_⟩
  rw [Int32.toInt_ofNat_of_lt (by omega)]; omega

theorem own_rem3 (x : Int32) : 0 ≤ ((x &&& (3 : Int32)) % (3 : Int32)).toInt ∧ ((x &&& (3 : Int32)) % (3 : Int32)).toInt < 3 := by
  have h0 : 0 ≤ (x &&& (3 : Int32)).toInt := (c_and x 3 (by decide)).1
  rw [(c_irem (x &&& (3 : Int32)) 3 3 rfl).1 h0]
  exact ⟨Int.emod_nonneg _ (by omega), Int.emod_lt_of_pos _ (by omega)⟩

theorem own_small3 (v : Int32) (h0 : 0 ≤ v.toInt) (h1 : v.toInt < 3) : v = 0 ∨ v = 1 ∨ v = 2 := by
  have h : v.toInt = 0 ∨ v.toInt = 1 ∨ v.toInt = 2 := by omega
  rcases h with h | h | h
  · exact Or.inl (Int32.toInt_inj.mp (h.trans (by decide)))
  · exact Or.inr (Or.inl (Int32.toInt_inj.mp (h.trans (by decide))))
  · exact Or.inr (Or.inr ((Int32.toInt_inj.mp (h.trans (by decide)))))

theorem own_c255 (x : Int32) : 0 ≤ ((x &&& (255 : Int32)).toUInt32.toUInt16.toUInt32.toInt32).toInt ∧ ((x &&& (255 : Int32)).toUInt32.toUInt16.toUInt32.toInt32).toInt ≤ 255 := by
  have h := c_and x 255 (by decide)
  have e : (255 : Int32).toInt = 255 := rfl
  have h2 := c_i2c (x &&& (255 : Int32))
  rw [e] at h
  omega
theorem own_le255 {v : Int32} (h : 0 ≤ v.toInt ∧ v.toInt ≤ 255) : ¬ (255 : Int32) < v := by
  rw [Int32.lt_iff_toInt_lt]
  have e : (255 : Int32).toInt = 255 := rfl
  omega
theorem own_narc {v : Int32} (h : 0 ≤ v.toInt ∧ v.toInt ≤ 255) : nar .char v = v := by
  have h2 := c_i2c v
  show v.toUInt32.toUInt16.toUInt32.toInt32 = v
  apply Int32.toInt_inj.mp
  omega
theorem own_rt256 : ∀ i : Fin 256, own_chr (nar .byte (Int32.ofNat i.val).toInt8.toInt32) = Int32.ofNat i.val := by decide +kernel
theorem own_rt {v : Int32} (h : 0 ≤ v.toInt ∧ v.toInt ≤ 255) : own_chr (nar .byte v.toInt8.toInt32) = v := by
  obtain ⟨i, hi, rfl⟩ := own_ofNat v 256 (by omega) h.1 (by omega)
  exact own_rt256 ⟨i, hi⟩

theorem d42_0 : decode jdk_52_method_21_code 0 = .ok (.iconst 0, 1) := by decide +kernel
theorem d42_1 : decode jdk_52_method_21_code 1 = .ok (.istore 5, 2) := by decide +kernel
theorem d42_3 : decode jdk_52_method_21_code 3 = .ok (.iload 5, 2) := by decide +kernel
theorem d42_5 : decode jdk_52_method_21_code 5 = .ok (.iload 4, 2) := by decide +kernel
theorem d42_7 : decode jdk_52_method_21_code 7 = .ok (.if_icmp .ge 37, 3) := by decide +kernel
theorem d42_10 : decode jdk_52_method_21_code 10 = .ok (.aload_n 0, 1) := by decide +kernel
theorem d42_11 : decode jdk_52_method_21_code 11 = .ok (.iload_n 1, 1) := by decide +kernel
theorem d42_12 : decode jdk_52_method_21_code 12 = .ok (.caload, 1) := by decide +kernel
theorem d42_13 : decode jdk_52_method_21_code 13 = .ok (.istore 6, 2) := by decide +kernel
theorem d42_15 : decode jdk_52_method_21_code 15 = .ok (.iload 6, 2) := by decide +kernel
theorem d42_17 : decode jdk_52_method_21_code 17 = .ok (.sipush 255, 3) := by decide +kernel
theorem d42_20 : decode jdk_52_method_21_code 20 = .ok (.if_icmp .le 6, 3) := by decide +kernel
theorem d42_26 : decode jdk_52_method_21_code 26 = .ok (.aload_n 2, 1) := by decide +kernel
theorem d42_27 : decode jdk_52_method_21_code 27 = .ok (.iload_n 3, 1) := by decide +kernel
theorem d42_28 : decode jdk_52_method_21_code 28 = .ok (.iload 6, 2) := by decide +kernel
theorem d42_30 : decode jdk_52_method_21_code 30 = .ok (.i2b, 1) := by decide +kernel
theorem d42_31 : decode jdk_52_method_21_code 31 = .ok (.bastore, 1) := by decide +kernel
theorem d42_32 : decode jdk_52_method_21_code 32 = .ok (.iinc 1 1, 3) := by decide +kernel
theorem d42_35 : decode jdk_52_method_21_code 35 = .ok (.iinc 3 1, 3) := by decide +kernel
theorem d42_38 : decode jdk_52_method_21_code 38 = .ok (.iinc 5 1, 3) := by decide +kernel
theorem d42_41 : decode jdk_52_method_21_code 41 = .ok (.goto (-38), 3) := by decide +kernel
theorem d42_44 : decode jdk_52_method_21_code 44 = .ok (.iload 4, 2) := by decide +kernel
theorem d42_46 : decode jdk_52_method_21_code 46 = .ok (.ireturn, 1) := by decide +kernel
theorem pn_9 : plainName "java/lang/StringUTF16" = true := by first | (simp [plainName, overriddenIn]; done) | decide +kernel
theorem ef_42_2 (m : MethodId) (x0 : Addr) (x2 : Addr) : entryFrame m #[(.ref x0), (.int (0 : Int32)), (.ref x2), (.int (0 : Int32)), (.int (2 : Int32))] 7 = mkF m 0 #[.val (.ref x0), .val (.int (0 : Int32)), .val (.ref x2), .val (.int (0 : Int32)), .val (.int (2 : Int32)), .unset, .unset] [] := by first | (simp [entryFrame, mkF, argsToLocals, Value.category]; done) | rfl
def Q42_2 (Z : State) (a1 : Addr) (a3 : Addr) (kc kb : ClassId) (c0_ : Int32) (c1_ : Int32) (h0 : Heap) (n0 : Nat) (v : Option Value) (h : Heap) (L : List Loc) : Prop := v = some (.int (2 : Int32)) ∧ Fr n0 L ∧ Keep h0 h [a3] ∧ Arv Z h a3 kb .byte (2 : Int32) [(.int (nar .byte c0_.toInt8.toInt32)), (.int (nar .byte c1_.toInt8.toInt32))] (.int (0 : Int32))
theorem rm42_2 (l : Launch) (Z : State) (a0 : Array Value) (hw : ∀ d ∈ tables_1, d.before a0 Z = true) (ws : List Jvm.Cond) (a1 : Addr) (a3 : Addr) (kc kb : ClassId) (c0_ : Int32) (c1_ : Int32) (h0 : Heap) (n0 : Nat) (Z0 : n0 ≤ h0.size) (V_c : Arv Z h0 a1 kc .char (2 : Int32) [(.int c0_), (.int c1_)] (.int (0 : Int32))) (V_b : Arv Z h0 a3 kb .byte (2 : Int32) [(.int (0 : Int32)), (.int (0 : Int32))] (.int (0 : Int32))) (ne_a1_a3 : a1 ≠ a3) (g_a3 : n0 ≤ a3) (hl_c0_ : ¬ (255 : Int32) < c0_) (hl_c1_ : ¬ (255 : Int32) < c1_) :
    MetFree l mn_37 (head1 (Jvm.Cond.code mn_37 jdk_52_method_21_code 7 (some .int) :: ws) ({ frames := 0, cells := 0, slots := 0, locals := 0 } : Room)) (fun a U => a = #[(.ref a1), (.int (0 : Int32)), (.ref a3), (.int (0 : Int32)), (.int (2 : Int32))] ∧ Z.Warmed39 U.vm ∧ U.heap = h0) (fun _ _ _ _ _ => True) (fun _ U o U' => ∃ v L, o = .returned v ∧ Q42_2 Z a1 a3 kc kb c0_ c1_ h0 n0 v U'.heap L ∧ FrameEnd U o U' L ({ frames := 0, cells := 0, slots := 0, locals := 0 } : Room).cells ({ frames := 0, cells := 0, slots := 0, locals := 0 } : Room).slots) := by
  refine MetFree.of_bodySF (plainFor_of_name pn_9) hisR ?_
  intro p e s m args below meth c s₁ Bd hml0 hP hK
  obtain ⟨rfl, hZ, hh⟩ := hP
  have hx := Bd.exec
  have hby := Bd.bytes
  have hml : c.maxLocals = 7 := hml0
  have hown : s.vm.findClass "java/lang/StringUTF16" = some m.cls := findClass_of_methodNamed Bd.named
  have hnm := (name_of_methodNamed Bd.named Bd.method).1
  have X0 : Stand p l e ({ frames := 0, cells := 0, slots := 0, locals := 0 } : Room) s m #[(.ref a1), (.int (0 : Int32)), (.ref a3), (.int (0 : Int32)), (.int (2 : Int32))] below meth c s₁ [] 0 0 := Stand.of_body Bd
  have e0 : s₁.heap = h0 := by rw [← hh, Bd.state]; rfl
  have N0 := Fr.nil n0
  have K0 := Keep.refl h0 [a3]
  have pre0 : ∀ t, Steps p.tables e below (s₁.setTop (mkF m 0 #[.val (.ref a1), .val (.int (0 : Int32)), .val (.ref a3), .val (.int (0 : Int32)), .val (.int (2 : Int32)), .unset, .unset] [])) t → Steps p.tables e below (s₁.setTop (entryFrame m #[(.ref a1), (.int (0 : Int32)), (.ref a3), (.int (0 : Int32)), (.int (2 : Int32))] 7)) t := fun t k => castTop (ef_42_2 m a1 a3) k
  obtain ⟨cl1, Ar1, q1, S1, M1, H1, G1⟩ := id V_c
  have hin2 : ¬ ((0 : Int32) < 0 ∨ cl1.slots.size ≤ ((0 : Int32)).toNatClampNeg) := inb_of S1 ⟨by decide, by decide⟩
  have hat3 : cl1.slots[((0 : Int32)).toNatClampNeg]? = some (.int c0_) := Has.at H1 hin2 rfl
  obtain ⟨cl4, Ar4, q4, S4, M4, H4, G4⟩ := id V_b
  have hin5 : ¬ ((0 : Int32) < 0 ∨ cl4.slots.size ≤ ((0 : Int32)).toNatClampNeg) := inb_of S4 ⟨by decide, by decide⟩
  obtain ⟨T6, h6, X6, e6, W6, st6⟩ := stB X0 hx hZ e0 Ar4 (j := (0 : Int32)) hin5 (g := (mkF m 31 #[vR a1, vI 0, vR a3, vI 0, vI 2, vI 0, vI c0_] [iI c0_.toInt8.toInt32, iI 0, iR a3])) rfl rfl (hb hby d42_31)
  have V6 : Arv Z h6 a3 kb .byte (2 : Int32) [(.int (nar .byte c0_.toInt8.toInt32)), (.int (0 : Int32))] (.int (0 : Int32)) := Arv.set Ar4 q4 S4 M4 H4 G4 (fits_nar_byte _) W6 0 rfl (Nat.le_of_ble_eq_true rfl)
  have K6 : Keep h0 h6 [a3] := K0.wr W6 (Or.inl (List.mem_of_getElem? (i := 0) rfl))
  have N6 := Fr.snoc X6 N0 g_a3
  have fk7 := (V_c.other W6 ne_a1_a3)
  obtain ⟨cl8, Ar8, q8, S8, M8, H8, G8⟩ := id fk7
  have hin9 : ¬ ((1 : Int32) < 0 ∨ cl8.slots.size ≤ ((1 : Int32)).toNatClampNeg) := inb_of S8 ⟨by decide, by decide⟩
  have hat10 : cl8.slots[((1 : Int32)).toNatClampNeg]? = some (.int c1_) := Has.at H8 hin9 rfl
  obtain ⟨cl11, Ar11, q11, S11, M11, H11, G11⟩ := id V6
  have hin12 : ¬ ((1 : Int32) < 0 ∨ cl11.slots.size ≤ ((1 : Int32)).toNatClampNeg) := inb_of S11 ⟨by decide, by decide⟩
  obtain ⟨T13, h13, X13, e13, W13, st13⟩ := stB X6 hx hZ e6 Ar11 (j := (1 : Int32)) hin12 (g := (mkF m 31 #[vR a1, vI 1, vR a3, vI 1, vI 2, vI 1, vI c1_] [iI c1_.toInt8.toInt32, iI 1, iR a3])) rfl rfl (hb hby d42_31)
  have V13 : Arv Z h13 a3 kb .byte (2 : Int32) [(.int (nar .byte c0_.toInt8.toInt32)), (.int (nar .byte c1_.toInt8.toInt32))] (.int (0 : Int32)) := Arv.set Ar11 q11 S11 M11 H11 G11 (fits_nar_byte _) W13 1 rfl (Nat.le_of_ble_eq_true rfl)
  have K13 : Keep h0 h13 [a3] := K6.wr W13 (Or.inl (List.mem_of_getElem? (i := 0) rfl))
  have N13 := Fr.snoc X13 N6 g_a3
  obtain ⟨fs, hr, hrun, hended, hW, hsame⟩ := X13.leave (v := some (.int (2 : Int32))) (fun h => by rw [Bd.returns] at h; cases h)
  refine ⟨_, _, pre0 _ ?_, hrun, hended, _, _, rfl, ?_, ⟨_, rfl⟩, hW, hsame.mono (by decide) (by decide)⟩
  · show SA s₁ m 0 #[vR a1, vI 0, vR a3, vI 0, vI 2, .unset, .unset] []
    refine XS.iconst X0.here hx rfl (hb hby d42_0) ?_
    show SA s₁ m 1 #[vR a1, vI 0, vR a3, vI 0, vI 2, .unset, .unset] [iI 0]
    refine XS.istore X0.here hx rfl (hb hby d42_1) rfl (l' := #[vR a1, vI 0, vR a3, vI 0, vI 2, vI 0, .unset]) rfl ?_
    show SA s₁ m 3 #[vR a1, vI 0, vR a3, vI 0, vI 2, vI 0, .unset] []
    refine XS.iload X0.here hx rfl (hb hby d42_3) rfl ?_
    show SA s₁ m 5 #[vR a1, vI 0, vR a3, vI 0, vI 2, vI 0, .unset] [iI 0]
    refine XS.iload X0.here hx rfl (hb hby d42_5) rfl ?_
    show SA s₁ m 7 #[vR a1, vI 0, vR a3, vI 0, vI 2, vI 0, .unset] [iI 2, iI 0]
    refine XS.icmpNo X0.here hx rfl (hb hby d42_7) rfl (tlt (by decide : (0 : Int32) < (2 : Int32))).2.1 ?_
    show SA s₁ m 10 #[vR a1, vI 0, vR a3, vI 0, vI 2, vI 0, .unset] []
    refine XS.aloadN X0.here hx rfl (hb hby d42_10) rfl rfl ?_
    show SA s₁ m 11 #[vR a1, vI 0, vR a3, vI 0, vI 2, vI 0, .unset] [iR a1]
    refine XS.iloadN X0.here hx rfl (hb hby d42_11) rfl ?_
    show SA s₁ m 12 #[vR a1, vI 0, vR a3, vI 0, vI 2, vI 0, .unset] [iI 0, iR a1]
    refine X0.caload hx (j := (0 : Int32)) (v := (.int c0_)) (by rw [e0]; exact Ar1.1) (State.isArrayOf_alike hZ.alike Ar1.2.1) Ar1.2.2 hin2 hat3 (g := (mkF m 12 #[vR a1, vI 0, vR a3, vI 0, vI 2, vI 0, .unset] [iI 0, iR a1])) rfl rfl (hb hby d42_12) _ ?_
    show SA s₁ m 13 #[vR a1, vI 0, vR a3, vI 0, vI 2, vI 0, .unset] [iI c0_]
    refine XS.istore X0.here hx rfl (hb hby d42_13) rfl (l' := #[vR a1, vI 0, vR a3, vI 0, vI 2, vI 0, vI c0_]) rfl ?_
    show SA s₁ m 15 #[vR a1, vI 0, vR a3, vI 0, vI 2, vI 0, vI c0_] []
    refine XS.iload X0.here hx rfl (hb hby d42_15) rfl ?_
    show SA s₁ m 17 #[vR a1, vI 0, vR a3, vI 0, vI 2, vI 0, vI c0_] [iI c0_]
    refine XS.sipush X0.here hx rfl (hb hby d42_17) ?_
    show SA s₁ m 20 #[vR a1, vI 0, vR a3, vI 0, vI 2, vI 0, vI c0_] [iI 255, iI c0_]
    refine XS.icmpYes X0.here hx rfl (pc0 := 20) (pc' := 26) rfl (hb hby d42_20) rfl (flt hl_c0_).2.2.2 (by decide) (by decide) ?_
    show SA s₁ m 26 #[vR a1, vI 0, vR a3, vI 0, vI 2, vI 0, vI c0_] []
    refine XS.aloadN X0.here hx rfl (hb hby d42_26) rfl rfl ?_
    show SA s₁ m 27 #[vR a1, vI 0, vR a3, vI 0, vI 2, vI 0, vI c0_] [iR a3]
    refine XS.iloadN X0.here hx rfl (hb hby d42_27) rfl ?_
    show SA s₁ m 28 #[vR a1, vI 0, vR a3, vI 0, vI 2, vI 0, vI c0_] [iI 0, iR a3]
    refine XS.iload X0.here hx rfl (hb hby d42_28) rfl ?_
    show SA s₁ m 30 #[vR a1, vI 0, vR a3, vI 0, vI 2, vI 0, vI c0_] [iI c0_, iI 0, iR a3]
    refine XS.i2b X0.here hx rfl (hb hby d42_30) rfl ?_
    show SA s₁ m 31 #[vR a1, vI 0, vR a3, vI 0, vI 2, vI 0, vI c0_] [iI c0_.toInt8.toInt32, iI 0, iR a3]
    refine st6 _ ?_
    show SA T6 m 32 #[vR a1, vI 0, vR a3, vI 0, vI 2, vI 0, vI c0_] []
    refine XS.iinc X6.here hx rfl (hb hby d42_32) rfl (l' := #[vR a1, vI ((0 : Int32) + (1 : Int32)), vR a3, vI 0, vI 2, vI 0, vI c0_]) rfl ?_
    rw [(by decide : ((0 : Int32) + (1 : Int32)) = (1 : Int32))]
    show SA T6 m 35 #[vR a1, vI 1, vR a3, vI 0, vI 2, vI 0, vI c0_] []
    refine XS.iinc X6.here hx rfl (hb hby d42_35) rfl (l' := #[vR a1, vI 1, vR a3, vI ((0 : Int32) + (1 : Int32)), vI 2, vI 0, vI c0_]) rfl ?_
    rw [(by decide : ((0 : Int32) + (1 : Int32)) = (1 : Int32))]
    show SA T6 m 38 #[vR a1, vI 1, vR a3, vI 1, vI 2, vI 0, vI c0_] []
    refine XS.iinc X6.here hx rfl (hb hby d42_38) rfl (l' := #[vR a1, vI 1, vR a3, vI 1, vI 2, vI ((0 : Int32) + (1 : Int32)), vI c0_]) rfl ?_
    rw [(by decide : ((0 : Int32) + (1 : Int32)) = (1 : Int32))]
    show SA T6 m 41 #[vR a1, vI 1, vR a3, vI 1, vI 2, vI 1, vI c0_] []
    refine XS.goto X6.here hx rfl (pc0 := 41) (pc' := 3) rfl (hb hby d42_41) (by decide) (by decide) ?_
    show SA T6 m 3 #[vR a1, vI 1, vR a3, vI 1, vI 2, vI 1, vI c0_] []
    refine XS.iload X6.here hx rfl (hb hby d42_3) rfl ?_
    show SA T6 m 5 #[vR a1, vI 1, vR a3, vI 1, vI 2, vI 1, vI c0_] [iI 1]
    refine XS.iload X6.here hx rfl (hb hby d42_5) rfl ?_
    show SA T6 m 7 #[vR a1, vI 1, vR a3, vI 1, vI 2, vI 1, vI c0_] [iI 2, iI 1]
    refine XS.icmpNo X6.here hx rfl (hb hby d42_7) rfl (tlt (by decide : (1 : Int32) < (2 : Int32))).2.1 ?_
    show SA T6 m 10 #[vR a1, vI 1, vR a3, vI 1, vI 2, vI 1, vI c0_] []
    refine XS.aloadN X6.here hx rfl (hb hby d42_10) rfl rfl ?_
    show SA T6 m 11 #[vR a1, vI 1, vR a3, vI 1, vI 2, vI 1, vI c0_] [iR a1]
    refine XS.iloadN X6.here hx rfl (hb hby d42_11) rfl ?_
    show SA T6 m 12 #[vR a1, vI 1, vR a3, vI 1, vI 2, vI 1, vI c0_] [iI 1, iR a1]
    refine X6.caload hx (j := (1 : Int32)) (v := (.int c1_)) (by rw [e6]; exact Ar8.1) (State.isArrayOf_alike hZ.alike Ar8.2.1) Ar8.2.2 hin9 hat10 (g := (mkF m 12 #[vR a1, vI 1, vR a3, vI 1, vI 2, vI 1, vI c0_] [iI 1, iR a1])) rfl rfl (hb hby d42_12) _ ?_
    show SA T6 m 13 #[vR a1, vI 1, vR a3, vI 1, vI 2, vI 1, vI c0_] [iI c1_]
    refine XS.istore X6.here hx rfl (hb hby d42_13) rfl (l' := #[vR a1, vI 1, vR a3, vI 1, vI 2, vI 1, vI c1_]) rfl ?_
    show SA T6 m 15 #[vR a1, vI 1, vR a3, vI 1, vI 2, vI 1, vI c1_] []
    refine XS.iload X6.here hx rfl (hb hby d42_15) rfl ?_
    show SA T6 m 17 #[vR a1, vI 1, vR a3, vI 1, vI 2, vI 1, vI c1_] [iI c1_]
    refine XS.sipush X6.here hx rfl (hb hby d42_17) ?_
    show SA T6 m 20 #[vR a1, vI 1, vR a3, vI 1, vI 2, vI 1, vI c1_] [iI 255, iI c1_]
    refine XS.icmpYes X6.here hx rfl (pc0 := 20) (pc' := 26) rfl (hb hby d42_20) rfl (flt hl_c1_).2.2.2 (by decide) (by decide) ?_
    show SA T6 m 26 #[vR a1, vI 1, vR a3, vI 1, vI 2, vI 1, vI c1_] []
    refine XS.aloadN X6.here hx rfl (hb hby d42_26) rfl rfl ?_
    show SA T6 m 27 #[vR a1, vI 1, vR a3, vI 1, vI 2, vI 1, vI c1_] [iR a3]
    refine XS.iloadN X6.here hx rfl (hb hby d42_27) rfl ?_
    show SA T6 m 28 #[vR a1, vI 1, vR a3, vI 1, vI 2, vI 1, vI c1_] [iI 1, iR a3]
    refine XS.iload X6.here hx rfl (hb hby d42_28) rfl ?_
    show SA T6 m 30 #[vR a1, vI 1, vR a3, vI 1, vI 2, vI 1, vI c1_] [iI c1_, iI 1, iR a3]
    refine XS.i2b X6.here hx rfl (hb hby d42_30) rfl ?_
    show SA T6 m 31 #[vR a1, vI 1, vR a3, vI 1, vI 2, vI 1, vI c1_] [iI c1_.toInt8.toInt32, iI 1, iR a3]
    refine st13 _ ?_
    show SA T13 m 32 #[vR a1, vI 1, vR a3, vI 1, vI 2, vI 1, vI c1_] []
    refine XS.iinc X13.here hx rfl (hb hby d42_32) rfl (l' := #[vR a1, vI ((1 : Int32) + (1 : Int32)), vR a3, vI 1, vI 2, vI 1, vI c1_]) rfl ?_
    rw [(by decide : ((1 : Int32) + (1 : Int32)) = (2 : Int32))]
    show SA T13 m 35 #[vR a1, vI 2, vR a3, vI 1, vI 2, vI 1, vI c1_] []
    refine XS.iinc X13.here hx rfl (hb hby d42_35) rfl (l' := #[vR a1, vI 2, vR a3, vI ((1 : Int32) + (1 : Int32)), vI 2, vI 1, vI c1_]) rfl ?_
    rw [(by decide : ((1 : Int32) + (1 : Int32)) = (2 : Int32))]
    show SA T13 m 38 #[vR a1, vI 2, vR a3, vI 2, vI 2, vI 1, vI c1_] []
    refine XS.iinc X13.here hx rfl (hb hby d42_38) rfl (l' := #[vR a1, vI 2, vR a3, vI 2, vI 2, vI ((1 : Int32) + (1 : Int32)), vI c1_]) rfl ?_
    rw [(by decide : ((1 : Int32) + (1 : Int32)) = (2 : Int32))]
    show SA T13 m 41 #[vR a1, vI 2, vR a3, vI 2, vI 2, vI 2, vI c1_] []
    refine XS.goto X13.here hx rfl (pc0 := 41) (pc' := 3) rfl (hb hby d42_41) (by decide) (by decide) ?_
    show SA T13 m 3 #[vR a1, vI 2, vR a3, vI 2, vI 2, vI 2, vI c1_] []
    refine XS.iload X13.here hx rfl (hb hby d42_3) rfl ?_
    show SA T13 m 5 #[vR a1, vI 2, vR a3, vI 2, vI 2, vI 2, vI c1_] [iI 2]
    refine XS.iload X13.here hx rfl (hb hby d42_5) rfl ?_
    show SA T13 m 7 #[vR a1, vI 2, vR a3, vI 2, vI 2, vI 2, vI c1_] [iI 2, iI 2]
    refine XS.icmpYes X13.here hx rfl (pc0 := 7) (pc' := 44) rfl (hb hby d42_7) rfl (flt (by decide : ¬ ((2 : Int32) < (2 : Int32)))).2.1 (by decide) (by decide) ?_
    show SA T13 m 44 #[vR a1, vI 2, vR a3, vI 2, vI 2, vI 2, vI c1_] []
    refine XS.iload X13.here hx rfl (hb hby d42_44) rfl ?_
    show Steps _ _ _ (T13.setTop (mkF m 46 #[vR a1, vI 2, vR a3, vI 2, vI 2, vI 2, vI c1_] [iI 2])) _
    exact retI X13 hx Bd.returns (hb hby d42_46) hr
  · show Q42_2 Z a1 a3 kc kb c0_ c1_ h0 n0 _ T13.heap _
    rw [e13]
    exact ⟨rfl, N13, K13, V13⟩
theorem d41_0 : decode jdk_52_method_16_code 0 = .ok (.iload_n 2, 1) := by decide +kernel
theorem d41_1 : decode jdk_52_method_16_code 1 = .ok (.newarray .byte, 2) := by decide +kernel
theorem d41_3 : decode jdk_52_method_16_code 3 = .ok (.astore_n 3, 1) := by decide +kernel
theorem d41_4 : decode jdk_52_method_16_code 4 = .ok (.aload_n 0, 1) := by decide +kernel
theorem d41_5 : decode jdk_52_method_16_code 5 = .ok (.iload_n 1, 1) := by decide +kernel
theorem d41_6 : decode jdk_52_method_16_code 6 = .ok (.aload_n 3, 1) := by decide +kernel
theorem d41_7 : decode jdk_52_method_16_code 7 = .ok (.iconst 0, 1) := by decide +kernel
theorem d41_8 : decode jdk_52_method_16_code 8 = .ok (.iload_n 2, 1) := by decide +kernel
theorem d41_9 : decode jdk_52_method_16_code 9 = .ok (.invokestatic 115, 3) := by decide +kernel
theorem d41_12 : decode jdk_52_method_16_code 12 = .ok (.istore 4, 2) := by decide +kernel
theorem d41_14 : decode jdk_52_method_16_code 14 = .ok (.iload 4, 2) := by decide +kernel
theorem d41_16 : decode jdk_52_method_16_code 16 = .ok (.iload_n 2, 1) := by decide +kernel
theorem d41_17 : decode jdk_52_method_16_code 17 = .ok (.if_icmp .eq 40, 3) := by decide +kernel
theorem d41_57 : decode jdk_52_method_16_code 57 = .ok (.aload_n 3, 1) := by decide +kernel
theorem d41_58 : decode jdk_52_method_16_code 58 = .ok (.areturn, 1) := by decide +kernel
theorem ef_41_2 (m : MethodId) (x0 : Addr) : entryFrame m #[(.ref x0), (.int (0 : Int32)), (.int (2 : Int32))] 6 = mkF m 0 #[.val (.ref x0), .val (.int (0 : Int32)), .val (.int (2 : Int32)), .unset, .unset, .unset] [] := by first | (simp [entryFrame, mkF, argsToLocals, Value.category]; done) | rfl
def Q41_2 (Z : State) (a1 : Addr) (kc : ClassId) (c0_ : Int32) (c1_ : Int32) (h0 : Heap) (n0 : Nat) (v : Option Value) (h : Heap) (L : List Loc) : Prop := ∃ (b : Addr) (kb : ClassId), v = some (.ref b) ∧ Fr n0 L ∧ Keep h0 h [] ∧ Arv Z h b kb .byte (2 : Int32) [(.int (nar .byte c0_.toInt8.toInt32)), (.int (nar .byte c1_.toInt8.toInt32))] (.int (0 : Int32)) ∧ h0.size ≤ b
theorem rm41_2 (l : Launch) (Z : State) (a0 : Array Value) (hw : ∀ d ∈ tables_1, d.before a0 Z = true) (ws : List Jvm.Cond) (a1 : Addr) (kc : ClassId) (c0_ : Int32) (c1_ : Int32) (h0 : Heap) (n0 : Nat) (Z0 : n0 ≤ h0.size) (V_c : Arv Z h0 a1 kc .char (2 : Int32) [(.int c0_), (.int c1_)] (.int (0 : Int32))) (hl_c0_ : ¬ (255 : Int32) < c0_) (hl_c1_ : ¬ (255 : Int32) < c1_) :
    MetFree l mn_38 (head1 (Jvm.Cond.code mn_38 jdk_52_method_16_code 6 (some (.array .byte)) :: ws) ({ frames := 1, cells := 1, slots := 2, locals := 18 } : Room)) (fun a U => a = #[(.ref a1), (.int (0 : Int32)), (.int (2 : Int32))] ∧ Z.Warmed39 U.vm ∧ U.heap = h0) (fun _ _ _ _ _ => True) (fun _ U o U' => ∃ v L, o = .returned v ∧ Q41_2 Z a1 kc c0_ c1_ h0 n0 v U'.heap L ∧ FrameEnd U o U' L ({ frames := 1, cells := 1, slots := 2, locals := 18 } : Room).cells ({ frames := 1, cells := 1, slots := 2, locals := 18 } : Room).slots) := by
  refine MetFree.of_bodySF (plainFor_of_name pn_9) hisR ?_
  intro p e s m args below meth c s₁ Bd hml0 hP hK
  obtain ⟨rfl, hZ, hh⟩ := hP
  have hx := Bd.exec
  have hby := Bd.bytes
  have hml : c.maxLocals = 6 := hml0
  have hown : s.vm.findClass "java/lang/StringUTF16" = some m.cls := findClass_of_methodNamed Bd.named
  have hnm := (name_of_methodNamed Bd.named Bd.method).1
  have X0 : Stand p l e ({ frames := 1, cells := 1, slots := 2, locals := 18 } : Room) s m #[(.ref a1), (.int (0 : Int32)), (.int (2 : Int32))] below meth c s₁ [] 0 0 := Stand.of_body Bd
  have e0 : s₁.heap = h0 := by rw [← hh, Bd.state]; rfl
  have N0 := Fr.nil n0
  have K0 := Keep.refl h0 []
  have pre0 : ∀ t, Steps p.tables e below (s₁.setTop (mkF m 0 #[.val (.ref a1), .val (.int (0 : Int32)), .val (.int (2 : Int32)), .unset, .unset, .unset] [])) t → Steps p.tables e below (s₁.setTop (entryFrame m #[(.ref a1), (.int (0 : Int32)), (.int (2 : Int32))] 6)) t := fun t k => castTop (ef_41_2 m a1) k
  obtain ⟨T1, h1, k1, X1, e1, E1, A1, st1⟩ := newP X0 hx hZ (ww hw 3 rfl) e0 (g := (mkF m 1 #[vR a1, vI 0, vI 2, .unset, .unset, .unset] [iI 2])) rfl (hb hby d41_1) rfl (by decide) (cap := 2) (by decide) (by decide) (by decide) (by decide)
  obtain ⟨b1, g1⟩ : ∃ z, z = h0.size := ⟨_, rfl⟩
  rw [← g1] at A1 st1
  have ne_a1_b1 : a1 ≠ b1 := Nat.ne_of_lt (Nat.lt_of_lt_of_le V_c.lt (Nat.le_of_eq g1.symm))
  have sz_b1 : h0.size ≤ b1 := Nat.le_trans K0.1 (Nat.le_of_eq g1.symm)
  have g_b1 : n0 ≤ b1 := Nat.le_trans Z0 sz_b1
  have K1 : Keep h0 h1 [] := K0.ext E1
  have V1 : Arv Z h1 b1 k1 .byte (2 : Int32) [(.int (0 : Int32)), (.int (0 : Int32))] (.int (0 : Int32)) := (Arv.new A1 (by decide)).pad (pad_rep [] (.int (0 : Int32)) 2)
  have fk3 := (V_c.ext E1)
  obtain ⟨_, _, ⟨T2, L2, k2, n2⟩, -, X2, ⟨Lc2, hQ2, l2, y2, z2⟩, st2⟩ := Jvm.LawKit.callS X1 hx (y := mn_37) hown (mvT hZ (ww hw 205 rfl)) (mvT hZ (ww hw 206 rfl)) (mvT hZ (ww hw 203 rfl)) (mvT hZ (ww hw 207 rfl)) (by decide) (backOf (W := 0) (rm42_2 l Z a0 hw [] a1 b1 kc k1 c0_ c1_ h1 n0 (Nat.le_trans Z0 K1.1) fk3 V1 ne_a1_b1 g_b1 hl_c0_ hl_c1_) hZ (ww hw 207 rfl) (ww hw 203 rfl) (by decide) (by decide)) (g := (mkF m 9 #[vR a1, vI 0, vI 2, vR b1, .unset, .unset] [iI 2, iI 0, iR b1, iI 0, iR a1])) rfl (by rw [hml]; rfl) (argsL := [(.ref a1), (.int (0 : Int32)), (.ref b1), (.int (0 : Int32)), (.int (2 : Int32))]) (rest := []) (lenOf pd_26 rfl) rfl (wz rfl) (hb hby d41_9) (fun _ _ => ⟨rfl, e1, (by decide : 1 + 0 ≤ _), (by decide : 2 + 0 ≤ _)⟩)
  dsimp only [Pt.U, Pt.locs, Pt.cells, Pt.slots] at X2 l2 y2 z2 st2 hQ2
  subst l2 y2 z2
  obtain ⟨rfl, N2q, K2q, V2q⟩ := hQ2
  have N2 := Fr.app N0 N2q
  have K2 : Keep h0 T2.heap [] := Keep.trans K1 K2q (allS (Or.inr sz_b1) all0)
  obtain ⟨fs, hr, hrun, hended, hW, hsame⟩ := X2.leave (v := some (.ref b1)) (fun h => by rw [Bd.returns] at h; cases h)
  refine ⟨_, _, pre0 _ ?_, hrun, hended, _, _, rfl, ?_, ⟨_, rfl⟩, hW, hsame.mono (by decide) (by decide)⟩
  · show SA s₁ m 0 #[vR a1, vI 0, vI 2, .unset, .unset, .unset] []
    refine XS.iloadN X0.here hx rfl (hb hby d41_0) rfl ?_
    show SA s₁ m 1 #[vR a1, vI 0, vI 2, .unset, .unset, .unset] [iI 2]
    refine st1 _ ?_
    show SA T1 m 3 #[vR a1, vI 0, vI 2, .unset, .unset, .unset] [iR b1]
    refine XS.astoreN X1.here hx rfl (hb hby d41_3) rfl rfl (l' := #[vR a1, vI 0, vI 2, vR b1, .unset, .unset]) rfl ?_
    show SA T1 m 4 #[vR a1, vI 0, vI 2, vR b1, .unset, .unset] []
    refine XS.aloadN X1.here hx rfl (hb hby d41_4) rfl rfl ?_
    show SA T1 m 5 #[vR a1, vI 0, vI 2, vR b1, .unset, .unset] [iR a1]
    refine XS.iloadN X1.here hx rfl (hb hby d41_5) rfl ?_
    show SA T1 m 6 #[vR a1, vI 0, vI 2, vR b1, .unset, .unset] [iI 0, iR a1]
    refine XS.aloadN X1.here hx rfl (hb hby d41_6) rfl rfl ?_
    show SA T1 m 7 #[vR a1, vI 0, vI 2, vR b1, .unset, .unset] [iR b1, iI 0, iR a1]
    refine XS.iconst X1.here hx rfl (hb hby d41_7) ?_
    show SA T1 m 8 #[vR a1, vI 0, vI 2, vR b1, .unset, .unset] [iI 0, iR b1, iI 0, iR a1]
    refine XS.iloadN X1.here hx rfl (hb hby d41_8) rfl ?_
    show SA T1 m 9 #[vR a1, vI 0, vI 2, vR b1, .unset, .unset] [iI 2, iI 0, iR b1, iI 0, iR a1]
    refine st2 _ ?_
    show SA T2 m 12 #[vR a1, vI 0, vI 2, vR b1, .unset, .unset] [iI 2]
    refine XS.istore X2.here hx rfl (hb hby d41_12) rfl (l' := #[vR a1, vI 0, vI 2, vR b1, vI 2, .unset]) rfl ?_
    show SA T2 m 14 #[vR a1, vI 0, vI 2, vR b1, vI 2, .unset] []
    refine XS.iload X2.here hx rfl (hb hby d41_14) rfl ?_
    show SA T2 m 16 #[vR a1, vI 0, vI 2, vR b1, vI 2, .unset] [iI 2]
    refine XS.iloadN X2.here hx rfl (hb hby d41_16) rfl ?_
    show SA T2 m 17 #[vR a1, vI 0, vI 2, vR b1, vI 2, .unset] [iI 2, iI 2]
    refine XS.icmpYes X2.here hx rfl (pc0 := 17) (pc' := 57) rfl (hb hby d41_17) rfl (teq (by decide : (2 : Int32) = (2 : Int32))).1 (by decide) (by decide) ?_
    show SA T2 m 57 #[vR a1, vI 0, vI 2, vR b1, vI 2, .unset] []
    refine XS.aloadN X2.here hx rfl (hb hby d41_57) rfl rfl ?_
    show Steps _ _ _ (T2.setTop (mkF m 58 #[vR a1, vI 0, vI 2, vR b1, vI 2, .unset] [iR b1])) _
    jvm_step X2.here [X2.here.top, hx, (hb hby d41_58), X2.method', Bd.returns, Value.isRef, FieldType.isReference]
    first | (intro acts; rw [hr _ acts rfl rfl rfl]) | rw [hr _ _ rfl rfl rfl]
    exact Steps.refl _
  · show Q41_2 Z a1 kc c0_ c1_ h0 n0 _ T2.heap _
    exact ⟨_, _, rfl, N2, K2, V2q, sz_b1⟩
theorem d43_0 : decode jdk_52_method_15_code 0 = .ok (.iload_n 1, 1) := by decide +kernel
theorem d43_1 : decode jdk_52_method_15_code 1 = .ok (.aload_n 0, 1) := by decide +kernel
theorem d43_2 : decode jdk_52_method_15_code 2 = .ok (.arraylength, 1) := by decide +kernel
theorem d43_3 : decode jdk_52_method_15_code 3 = .ok (.isub, 1) := by decide +kernel
theorem d43_4 : decode jdk_52_method_15_code 4 = .ok (.bipush 31, 2) := by decide +kernel
theorem d43_6 : decode jdk_52_method_15_code 6 = .ok (.iushr, 1) := by decide +kernel
theorem d43_7 : decode jdk_52_method_15_code 7 = .ok (.i2b, 1) := by decide +kernel
theorem d43_8 : decode jdk_52_method_15_code 8 = .ok (.ireturn, 1) := by decide +kernel
theorem ef_43_2 (m : MethodId) (x0 : Addr) : entryFrame m #[(.ref x0), (.int (2 : Int32))] 2 = mkF m 0 #[.val (.ref x0), .val (.int (2 : Int32))] [] := by first | (simp [entryFrame, mkF, argsToLocals, Value.category]; done) | rfl
def Q43_2 (Z : State) (a1 : Addr) (kb : ClassId) (c0_ : Int32) (c1_ : Int32) (h0 : Heap) (v : Option Value) (h : Heap) (L : List Loc) : Prop := v = some (.int (0 : Int32)) ∧ L = [] ∧ h = h0
theorem rm43_2 (l : Launch) (Z : State) (a0 : Array Value) (hw : ∀ d ∈ tables_1, d.before a0 Z = true) (ws : List Jvm.Cond) (a1 : Addr) (kb : ClassId) (c0_ : Int32) (c1_ : Int32) (h0 : Heap) (V_b : Arv Z h0 a1 kb .byte (2 : Int32) [(.int (nar .byte c0_.toInt8.toInt32)), (.int (nar .byte c1_.toInt8.toInt32))] (.int (0 : Int32))) :
    MetFree l mn_39 (head1 (Jvm.Cond.code mn_39 jdk_52_method_15_code 2 (some .byte) :: ws) ({ frames := 0, cells := 0, slots := 0, locals := 0 } : Room)) (fun a U => a = #[(.ref a1), (.int (2 : Int32))] ∧ Z.Warmed39 U.vm ∧ U.heap = h0) (fun _ _ _ _ _ => True) (fun _ U o U' => ∃ v L, o = .returned v ∧ Q43_2 Z a1 kb c0_ c1_ h0 v U'.heap L ∧ FrameEnd U o U' L ({ frames := 0, cells := 0, slots := 0, locals := 0 } : Room).cells ({ frames := 0, cells := 0, slots := 0, locals := 0 } : Room).slots) := by
  refine MetFree.of_bodySF (plainFor_of_name pn_9) hisR ?_
  intro p e s m args below meth c s₁ Bd hml0 hP hK
  obtain ⟨rfl, hZ, hh⟩ := hP
  have hx := Bd.exec
  have hby := Bd.bytes
  have hml : c.maxLocals = 2 := hml0
  have hown : s.vm.findClass "java/lang/StringUTF16" = some m.cls := findClass_of_methodNamed Bd.named
  have hnm := (name_of_methodNamed Bd.named Bd.method).1
  have X0 : Stand p l e ({ frames := 0, cells := 0, slots := 0, locals := 0 } : Room) s m #[(.ref a1), (.int (2 : Int32))] below meth c s₁ [] 0 0 := Stand.of_body Bd
  have e0 : s₁.heap = h0 := by rw [← hh, Bd.state]; rfl
  have pre0 : ∀ t, Steps p.tables e below (s₁.setTop (mkF m 0 #[.val (.ref a1), .val (.int (2 : Int32))] [])) t → Steps p.tables e below (s₁.setTop (entryFrame m #[(.ref a1), (.int (2 : Int32))] 2)) t := fun t k => castTop (ef_43_2 m a1) k
  obtain ⟨cl1, Ar1, q1, S1, M1, H1, G1⟩ := id V_b
  obtain ⟨fs, hr, hrun, hended, hW, hsame⟩ := X0.leave (v := some (.int (0 : Int32))) (fun h => by rw [Bd.returns] at h; cases h)
  refine ⟨_, _, pre0 _ ?_, hrun, hended, _, _, rfl, ?_, ⟨_, rfl⟩, hW, hsame.mono (by decide) (by decide)⟩
  · show SA s₁ m 0 #[vR a1, vI 2] []
    refine XS.iloadN X0.here hx rfl (hb hby d43_0) rfl ?_
    show SA s₁ m 1 #[vR a1, vI 2] [iI 2]
    refine XS.aloadN X0.here hx rfl (hb hby d43_1) rfl rfl ?_
    show SA s₁ m 2 #[vR a1, vI 2] [iR a1, iI 2]
    refine X0.arraylength hx (by rw [e0]; exact Ar1.1) (State.isArrayOf_alike hZ.alike Ar1.2.1) (g := (mkF m 2 #[vR a1, vI 2] [iR a1, iI 2])) rfl rfl (hb hby d43_2) _ ?_
    rw [len_of S1 M1]
    show SA s₁ m 3 #[vR a1, vI 2] [iI 2, iI 2]
    refine XS.isub X0.here hx rfl (hb hby d43_3) rfl ?_
    rw [(by decide : ((2 : Int32) - (2 : Int32)) = (0 : Int32))]
    show SA s₁ m 4 #[vR a1, vI 2] [iI 0]
    refine XS.bipush X0.here hx rfl (hb hby d43_4) ?_
    show SA s₁ m 6 #[vR a1, vI 2] [iI 31, iI 0]
    refine XS.iushr X0.here hx rfl (hb hby d43_6) rfl ?_
    rw [(by decide : (((0 : Int32).toUInt32 >>> ((31 : Int32) &&& 31).toUInt32).toInt32) = (0 : Int32))]
    show SA s₁ m 7 #[vR a1, vI 2] [iI 0]
    refine XS.i2b X0.here hx rfl (hb hby d43_7) rfl ?_
    rw [(by decide : (0 : Int32).toInt8.toInt32 = (0 : Int32))]
    show Steps _ _ _ (s₁.setTop (mkF m 8 #[vR a1, vI 2] [iI 0])) _
    exact retN X0 hx (t := .byte) Bd.returns (by simp) (hb hby d43_8) hr
  · show Q43_2 Z a1 kb c0_ c1_ h0 _ s₁.heap _
    rw [e0]
    exact ⟨rfl, rfl, rfl⟩
theorem d40_0 : decode jdk_42_method_149_code 0 = .ok (.aload_n 0, 1) := by decide +kernel
theorem d40_1 : decode jdk_42_method_149_code 1 = .ok (.invokespecial 1, 3) := by decide +kernel
theorem d40_4 : decode jdk_42_method_149_code 4 = .ok (.iload_n 3, 1) := by decide +kernel
theorem d40_5 : decode jdk_42_method_149_code 5 = .ok (.ifCond .ne 22, 3) := by decide +kernel
theorem d40_27 : decode jdk_42_method_149_code 27 = .ok (.getstatic 38, 3) := by decide +kernel
theorem d40_30 : decode jdk_42_method_149_code 30 = .ok (.ifCond .eq 28, 3) := by decide +kernel
theorem d40_33 : decode jdk_42_method_149_code 33 = .ok (.aload_n 1, 1) := by decide +kernel
theorem d40_34 : decode jdk_42_method_149_code 34 = .ok (.iload_n 2, 1) := by decide +kernel
theorem d40_35 : decode jdk_42_method_149_code 35 = .ok (.iload_n 3, 1) := by decide +kernel
theorem d40_36 : decode jdk_42_method_149_code 36 = .ok (.invokestatic 177, 3) := by decide +kernel
theorem d40_39 : decode jdk_42_method_149_code 39 = .ok (.astore 5, 2) := by decide +kernel
theorem d40_41 : decode jdk_42_method_149_code 41 = .ok (.aload_n 0, 1) := by decide +kernel
theorem d40_42 : decode jdk_42_method_149_code 42 = .ok (.aload 5, 2) := by decide +kernel
theorem d40_44 : decode jdk_42_method_149_code 44 = .ok (.iload_n 3, 1) := by decide +kernel
theorem d40_45 : decode jdk_42_method_149_code 45 = .ok (.invokestatic 47, 3) := by decide +kernel
theorem d40_48 : decode jdk_42_method_149_code 48 = .ok (.putfield 15, 3) := by decide +kernel
theorem d40_51 : decode jdk_42_method_149_code 51 = .ok (.aload_n 0, 1) := by decide +kernel
theorem d40_52 : decode jdk_42_method_149_code 52 = .ok (.aload 5, 2) := by decide +kernel
theorem d40_54 : decode jdk_42_method_149_code 54 = .ok (.putfield 9, 3) := by decide +kernel
theorem d40_57 : decode jdk_42_method_149_code 57 = .ok (.return_, 1) := by decide +kernel
theorem ef_40_2 (m : MethodId) (x0 : Addr) (x1 : Addr) : entryFrame m #[(.ref x0), (.ref x1), (.int (0 : Int32)), (.int (2 : Int32)), .null] 6 = mkF m 0 #[.val (.ref x0), .val (.ref x1), .val (.int (0 : Int32)), .val (.int (2 : Int32)), .val .null, .unset] [] := by first | (simp [entryFrame, mkF, argsToLocals, Value.category]; done) | rfl
def Q40_2 (Z : State) (a1 : Addr) (a2 : Addr) (kc : ClassId) (c0_ : Int32) (c1_ : Int32) (cs : Int32) (h0 : Heap) (n0 : Nat) (v : Option Value) (h : Heap) (L : List Loc) : Prop := ∃ (b : Addr) (kb : ClassId), v = none ∧ Fr n0 L ∧ Keep h0 h [a1] ∧ Exa Z h a1 "java/lang/String" ∧ Fld Z h a1 "java/lang/String" "coder" "B" (.int (0 : Int32)) ∧ Fld Z h a1 "java/lang/String" "value" "[B" (.ref b) ∧ Arv Z h b kb .byte (2 : Int32) [(.int (nar .byte c0_.toInt8.toInt32)), (.int (nar .byte c1_.toInt8.toInt32))] (.int (0 : Int32)) ∧ h0.size ≤ b
theorem rm40_2 (l : Launch) (Z : State) (a0 : Array Value) (hw : ∀ d ∈ tables_1, d.before a0 Z = true) (ws : List Jvm.Cond) (a1 : Addr) (a2 : Addr) (kc : ClassId) (c0_ : Int32) (c1_ : Int32) (cs : Int32) (h0 : Heap) (n0 : Nat) (Z0 : n0 ≤ h0.size) (O0 : Old Z n0 h0) (E_a1 : Exa Z h0 a1 "java/lang/String") (g_a1 : n0 ≤ a1) (F_v : Fld Z h0 a1 "java/lang/String" "value" "[B" .null) (F_c : Fld Z h0 a1 "java/lang/String" "coder" "B" (.int (0 : Int32))) (V_c : Arv Z h0 a2 kc .char (2 : Int32) [(.int c0_), (.int c1_)] (.int (0 : Int32))) (ne_a1_a2 : a1 ≠ a2) (hl_c0_ : ¬ (255 : Int32) < c0_) (hl_c1_ : ¬ (255 : Int32) < c1_) (S_CS : Sta Z Z.heap "java/lang/String" "COMPACT_STRINGS" "Z" (.int cs)) (h_cs : ¬ cs = (0 : Int32)) :
    MetFree l mn_40 (head1 (Jvm.Cond.code mn_40 jdk_42_method_149_code 6 none :: ws) ({ frames := 2, cells := 1, slots := 2, locals := 35 } : Room)) (fun a U => a = #[(.ref a1), (.ref a2), (.int (0 : Int32)), (.int (2 : Int32)), .null] ∧ Z.Warmed39 U.vm ∧ U.heap = h0) (fun _ _ _ _ _ => True) (fun _ U o U' => ∃ v L, o = .returned v ∧ Q40_2 Z a1 a2 kc c0_ c1_ cs h0 n0 v U'.heap L ∧ FrameEnd U o U' L ({ frames := 2, cells := 1, slots := 2, locals := 35 } : Room).cells ({ frames := 2, cells := 1, slots := 2, locals := 35 } : Room).slots) := by
  refine MetFree.of_bodySF (plainFor_of_name pn_0) hisR ?_
  intro p e s m args below meth c s₁ Bd hml0 hP hK
  obtain ⟨rfl, hZ, hh⟩ := hP
  have hx := Bd.exec
  have hby := Bd.bytes
  have hml : c.maxLocals = 6 := hml0
  have hown : s.vm.findClass "java/lang/String" = some m.cls := findClass_of_methodNamed Bd.named
  have hnm := (name_of_methodNamed Bd.named Bd.method).1
  have X0 : Stand p l e ({ frames := 2, cells := 1, slots := 2, locals := 35 } : Room) s m #[(.ref a1), (.ref a2), (.int (0 : Int32)), (.int (2 : Int32)), .null] below meth c s₁ [] 0 0 := Stand.of_body Bd
  have e0 : s₁.heap = h0 := by rw [← hh, Bd.state]; rfl
  have N0 := Fr.nil n0
  have K0 := Keep.refl h0 [a1]
  have pre0 : ∀ t, Steps p.tables e below (s₁.setTop (mkF m 0 #[.val (.ref a1), .val (.ref a2), .val (.int (0 : Int32)), .val (.int (2 : Int32)), .val .null, .unset] [])) t → Steps p.tables e below (s₁.setTop (entryFrame m #[(.ref a1), (.ref a2), (.int (0 : Int32)), (.int (2 : Int32)), .null] 6)) t := fun t k => castTop (ef_40_2 m a1 a2) k
  obtain ⟨T1, X1, e1, st1⟩ := initO X0 hx hZ hown (ww hw 121 rfl) (ww hw 25 rfl) (ww hw 26 rfl) e0 (g := (mkF m 1 #[vR a1, vR a2, vI 0, vI 2, .val .null, .unset] [iR a1])) rfl (by rw [hml]; rfl) rfl (hb hby d40_1) (by decide) (W := 0) (wz rfl) (by decide)
  obtain ⟨T2, X2, e2, st2⟩ := getS2 X1 hx hZ hown (host := "") (Or.inl (ww hw 53 rfl)) Via.refl e1 (S_CS.ext O0.2) (g := (mkF m 27 #[vR a1, vR a2, vI 0, vI 2, .val .null, .unset] [])) rfl (hb hby d40_27)
  obtain ⟨_, _, ⟨T3, L3, k3, n3⟩, -, X3, ⟨Lc3, hQ3, l3, y3, z3⟩, st3⟩ := Jvm.LawKit.callS X2 hx (y := mn_38) hown (mvT hZ (ww hw 201 rfl)) (mvT hZ (ww hw 202 rfl)) (mvT hZ (ww hw 203 rfl)) (mvT hZ (ww hw 204 rfl)) (by decide) (backOf (W := 0) (rm41_2 l Z a0 hw [] a2 kc c0_ c1_ h0 n0 (Nat.le_trans Z0 K0.1) V_c hl_c0_ hl_c1_) hZ (ww hw 204 rfl) (ww hw 203 rfl) (by decide) (by decide)) (g := (mkF m 36 #[vR a1, vR a2, vI 0, vI 2, .val .null, .unset] [iI 2, iI 0, iR a2])) rfl (by rw [hml]; rfl) (argsL := [(.ref a2), (.int (0 : Int32)), (.int (2 : Int32))]) (rest := []) (lenOf pd_27 rfl) rfl (wz rfl) (hb hby d40_36) (fun _ _ => ⟨rfl, e2, (by decide : 0 + 1 ≤ _), (by decide : 0 + 2 ≤ _)⟩)
  dsimp only [Pt.U, Pt.locs, Pt.cells, Pt.slots] at X3 l3 y3 z3 st3 hQ3
  subst l3 y3 z3
  obtain ⟨d3, kd3, rfl, N3q, K3q, V3q, z_d3⟩ := hQ3
  have ne_a1_d3 : a1 ≠ d3 := Nat.ne_of_lt (Nat.lt_of_lt_of_le E_a1.lt z_d3)
  have ne_a2_d3 : a2 ≠ d3 := Nat.ne_of_lt (Nat.lt_of_lt_of_le V_c.lt z_d3)
  have sz_d3 : h0.size ≤ d3 := Nat.le_trans K0.1 z_d3
  have g_d3 : n0 ≤ d3 := Nat.le_trans Z0 sz_d3
  have N3 := Fr.app N0 N3q
  have K3 : Keep h0 T3.heap [a1] := Keep.trans K0 K3q all0
  obtain ⟨_, _, ⟨T4, L4, k4, n4⟩, -, X4, ⟨Lc4, hQ4, l4, y4, z4⟩, st4⟩ := Jvm.LawKit.callS X3 hx (y := mn_39) hown (mvT hZ (ww hw 208 rfl)) (mvT hZ (ww hw 209 rfl)) (mvT hZ (ww hw 203 rfl)) (mvT hZ (ww hw 210 rfl)) (by decide) (backOf (W := 1) (rm43_2 l Z a0 hw [] d3 kd3 c0_ c1_ T3.heap V3q) hZ (ww hw 210 rfl) (ww hw 203 rfl) (by decide) (by decide)) (g := (mkF m 45 #[vR a1, vR a2, vI 0, vI 2, .val .null, vR d3] [iI 2, iR d3, iR a1])) rfl (by rw [hml]; rfl) (argsL := [(.ref d3), (.int (2 : Int32))]) (rest := [(.ref a1)]) (lenOf pd_28 rfl) rfl (wz rfl) (hb hby d40_45) (fun _ _ => ⟨rfl, rfl, (by decide : 1 + 0 ≤ _), (by decide : 2 + 0 ≤ _)⟩)
  dsimp only [Pt.U, Pt.locs, Pt.cells, Pt.slots] at X4 l4 y4 z4 st4 hQ4
  subst l4 y4 z4
  obtain ⟨rfl, rfl, e4⟩ := hQ4
  try rw [List.append_nil] at X4
  have fk5 := (F_c.keep K3q nin0)
  have fk6 := (E_a1.keep K3q)
  obtain ⟨T7, h7, X7, e7, W7, st7⟩ := putFN X4 hx hZ hown (ww hw 54 rfl) Via.refl e4 fk5 fk6 (Or.inr ⟨(ww hw 5 rfl), rfl, hnm⟩) (ww hw 2 rfl) (ty := .byte) (v' := (.int (0 : Int32))) (by decide) rfl (by decide) (g := (mkF m 48 #[vR a1, vR a2, vI 0, vI 2, .val .null, vR d3] [iI 0, iR a1])) rfl rfl (hb hby d40_48)
  have Fw7 := fk5.same W7
  have K7 : Keep h0 h7 [a1] := K3.wr W7 (Or.inl (List.mem_of_getElem? (i := 0) rfl))
  have N7 := Fr.snoc X7 N3 g_a1
  have fk8 := ((F_v.keep K3q nin0).other W7 (Or.inr (slot_ne (Or.inr (ww hw 4 rfl)) (Or.inr (ww hw 5 rfl)) (by decide) (t := (.array .byte)) (t' := .byte) (by decide) (by decide))))
  have fk9 := (fk6.wr W7)
  obtain ⟨T10, h10, X10, e10, W10, st10⟩ := putF X7 hx hZ hown (host := "") (Or.inl (ww hw 47 rfl)) Via.refl e7 fk8 fk9 (Or.inr ⟨(ww hw 4 rfl), rfl, hnm⟩) (ww hw 2 rfl) (ty := (.array .byte)) (by decide) rfl rfl (g := (mkF m 54 #[vR a1, vR a2, vI 0, vI 2, .val .null, vR d3] [iR d3, iR a1])) rfl rfl (hb hby d40_54)
  have Fw10 := fk8.same W10
  have K10 : Keep h0 h10 [a1] := K7.wr W10 (Or.inl (List.mem_of_getElem? (i := 0) rfl))
  have N10 := Fr.snoc X10 N7 g_a1
  obtain ⟨fs, hr, hrun, hended, hW, hsame⟩ := X10.leave (v := none) (fun _ => rfl)
  have fk11 := (fk9.wr W10)
  have fk12 := (Fw7.other W10 (Or.inr (slot_ne (Or.inr (ww hw 5 rfl)) (Or.inr (ww hw 4 rfl)) (by decide) (t := .byte) (t' := (.array .byte)) (by decide) (by decide))))
  have fk13 := ((V3q.other W7 (Ne.symm ne_a1_d3)).other W10 (Ne.symm ne_a1_d3))
  refine ⟨_, _, pre0 _ ?_, hrun, hended, _, _, rfl, ?_, ⟨_, rfl⟩, hW, hsame.mono (by decide) (by decide)⟩
  · show SA s₁ m 0 #[vR a1, vR a2, vI 0, vI 2, .val .null, .unset] []
    refine XS.aloadN X0.here hx rfl (hb hby d40_0) rfl rfl ?_
    show SA s₁ m 1 #[vR a1, vR a2, vI 0, vI 2, .val .null, .unset] [iR a1]
    refine st1 _ ?_
    show SA T1 m 4 #[vR a1, vR a2, vI 0, vI 2, .val .null, .unset] []
    refine XS.iloadN X1.here hx rfl (hb hby d40_4) rfl ?_
    show SA T1 m 5 #[vR a1, vR a2, vI 0, vI 2, .val .null, .unset] [iI 2]
    refine XS.ifYes X1.here hx rfl (pc0 := 5) (pc' := 27) rfl (hb hby d40_5) rfl ((if0 _ _).trans (feq (by decide : ¬ ((2 : Int32) = (0 : Int32)))).2) (by decide) (by decide) ?_
    show SA T1 m 27 #[vR a1, vR a2, vI 0, vI 2, .val .null, .unset] []
    refine st2 _ ?_
    show SA T2 m 30 #[vR a1, vR a2, vI 0, vI 2, .val .null, .unset] [iI cs]
    refine XS.ifNo X2.here hx rfl (hb hby d40_30) rfl ((if0 _ _).trans (feq h_cs).1) ?_
    show SA T2 m 33 #[vR a1, vR a2, vI 0, vI 2, .val .null, .unset] []
    refine XS.aloadN X2.here hx rfl (hb hby d40_33) rfl rfl ?_
    show SA T2 m 34 #[vR a1, vR a2, vI 0, vI 2, .val .null, .unset] [iR a2]
    refine XS.iloadN X2.here hx rfl (hb hby d40_34) rfl ?_
    show SA T2 m 35 #[vR a1, vR a2, vI 0, vI 2, .val .null, .unset] [iI 0, iR a2]
    refine XS.iloadN X2.here hx rfl (hb hby d40_35) rfl ?_
    show SA T2 m 36 #[vR a1, vR a2, vI 0, vI 2, .val .null, .unset] [iI 2, iI 0, iR a2]
    refine st3 _ ?_
    show SA T3 m 39 #[vR a1, vR a2, vI 0, vI 2, .val .null, .unset] [iR d3]
    refine XS.astore X3.here hx rfl (hb hby d40_39) rfl rfl (l' := #[vR a1, vR a2, vI 0, vI 2, .val .null, vR d3]) rfl ?_
    show SA T3 m 41 #[vR a1, vR a2, vI 0, vI 2, .val .null, vR d3] []
    refine XS.aloadN X3.here hx rfl (hb hby d40_41) rfl rfl ?_
    show SA T3 m 42 #[vR a1, vR a2, vI 0, vI 2, .val .null, vR d3] [iR a1]
    refine XS.aload X3.here hx rfl (hb hby d40_42) rfl rfl ?_
    show SA T3 m 44 #[vR a1, vR a2, vI 0, vI 2, .val .null, vR d3] [iR d3, iR a1]
    refine XS.iloadN X3.here hx rfl (hb hby d40_44) rfl ?_
    show SA T3 m 45 #[vR a1, vR a2, vI 0, vI 2, .val .null, vR d3] [iI 2, iR d3, iR a1]
    refine st4 _ ?_
    show SA T4 m 48 #[vR a1, vR a2, vI 0, vI 2, .val .null, vR d3] [iI 0, iR a1]
    refine st7 _ ?_
    show SA T7 m 51 #[vR a1, vR a2, vI 0, vI 2, .val .null, vR d3] []
    refine XS.aloadN X7.here hx rfl (hb hby d40_51) rfl rfl ?_
    show SA T7 m 52 #[vR a1, vR a2, vI 0, vI 2, .val .null, vR d3] [iR a1]
    refine XS.aload X7.here hx rfl (hb hby d40_52) rfl rfl ?_
    show SA T7 m 54 #[vR a1, vR a2, vI 0, vI 2, .val .null, vR d3] [iR d3, iR a1]
    refine st10 _ ?_
    show Steps _ _ _ (T10.setTop (mkF m 57 #[vR a1, vR a2, vI 0, vI 2, .val .null, vR d3] [])) _
    exact X10.returnOut hx Bd.returns (hb hby d40_57) hr
  · show Q40_2 Z a1 a2 kc c0_ c1_ cs h0 n0 _ T10.heap _
    rw [e10]
    exact ⟨_, _, rfl, N10, K10, fk11, fk12, Fw10, fk13, sz_d3⟩
theorem d39_0 : decode jdk_42_method_3_code 0 = .ok (.aload_n 0, 1) := by decide +kernel
theorem d39_1 : decode jdk_42_method_3_code 1 = .ok (.aload_n 1, 1) := by decide +kernel
theorem d39_2 : decode jdk_42_method_3_code 2 = .ok (.iconst 0, 1) := by decide +kernel
theorem d39_3 : decode jdk_42_method_3_code 3 = .ok (.aload_n 1, 1) := by decide +kernel
theorem d39_4 : decode jdk_42_method_3_code 4 = .ok (.arraylength, 1) := by decide +kernel
theorem d39_5 : decode jdk_42_method_3_code 5 = .ok (.aconst_null, 1) := by decide +kernel
theorem d39_6 : decode jdk_42_method_3_code 6 = .ok (.invokespecial 27, 3) := by decide +kernel
theorem d39_9 : decode jdk_42_method_3_code 9 = .ok (.return_, 1) := by decide +kernel
theorem ef_39_2 (m : MethodId) (x0 : Addr) (x1 : Addr) : entryFrame m #[(.ref x0), (.ref x1)] 2 = mkF m 0 #[.val (.ref x0), .val (.ref x1)] [] := by first | (simp [entryFrame, mkF, argsToLocals, Value.category]; done) | rfl
def Q39_2 (Z : State) (a1 : Addr) (a2 : Addr) (kc : ClassId) (c0_ : Int32) (c1_ : Int32) (cs : Int32) (h0 : Heap) (n0 : Nat) (v : Option Value) (h : Heap) (L : List Loc) : Prop := ∃ (b : Addr) (kb : ClassId), v = none ∧ Fr n0 L ∧ Keep h0 h [a1] ∧ Exa Z h a1 "java/lang/String" ∧ Fld Z h a1 "java/lang/String" "coder" "B" (.int (0 : Int32)) ∧ Fld Z h a1 "java/lang/String" "value" "[B" (.ref b) ∧ Arv Z h b kb .byte (2 : Int32) [(.int (nar .byte c0_.toInt8.toInt32)), (.int (nar .byte c1_.toInt8.toInt32))] (.int (0 : Int32)) ∧ h0.size ≤ b
theorem rm39_2 (l : Launch) (Z : State) (a0 : Array Value) (hw : ∀ d ∈ tables_1, d.before a0 Z = true) (ws : List Jvm.Cond) (a1 : Addr) (a2 : Addr) (kc : ClassId) (c0_ : Int32) (c1_ : Int32) (cs : Int32) (h0 : Heap) (n0 : Nat) (Z0 : n0 ≤ h0.size) (O0 : Old Z n0 h0) (E_a1 : Exa Z h0 a1 "java/lang/String") (g_a1 : n0 ≤ a1) (F_v : Fld Z h0 a1 "java/lang/String" "value" "[B" .null) (F_c : Fld Z h0 a1 "java/lang/String" "coder" "B" (.int (0 : Int32))) (V_c : Arv Z h0 a2 kc .char (2 : Int32) [(.int c0_), (.int c1_)] (.int (0 : Int32))) (ne_a1_a2 : a1 ≠ a2) (hl_c0_ : ¬ (255 : Int32) < c0_) (hl_c1_ : ¬ (255 : Int32) < c1_) (S_CS : Sta Z Z.heap "java/lang/String" "COMPACT_STRINGS" "Z" (.int cs)) (h_cs : ¬ cs = (0 : Int32)) :
    MetFree l mn_41 (head1 (Jvm.Cond.code mn_41 jdk_42_method_3_code 2 none :: ws) ({ frames := 3, cells := 1, slots := 2, locals := 52 } : Room)) (fun a U => a = #[(.ref a1), (.ref a2)] ∧ Z.Warmed39 U.vm ∧ U.heap = h0) (fun _ _ _ _ _ => True) (fun _ U o U' => ∃ v L, o = .returned v ∧ Q39_2 Z a1 a2 kc c0_ c1_ cs h0 n0 v U'.heap L ∧ FrameEnd U o U' L ({ frames := 3, cells := 1, slots := 2, locals := 52 } : Room).cells ({ frames := 3, cells := 1, slots := 2, locals := 52 } : Room).slots) := by
  refine MetFree.of_bodySF (plainFor_of_name pn_0) hisR ?_
  intro p e s m args below meth c s₁ Bd hml0 hP hK
  obtain ⟨rfl, hZ, hh⟩ := hP
  have hx := Bd.exec
  have hby := Bd.bytes
  have hml : c.maxLocals = 2 := hml0
  have hown : s.vm.findClass "java/lang/String" = some m.cls := findClass_of_methodNamed Bd.named
  have hnm := (name_of_methodNamed Bd.named Bd.method).1
  have X0 : Stand p l e ({ frames := 3, cells := 1, slots := 2, locals := 52 } : Room) s m #[(.ref a1), (.ref a2)] below meth c s₁ [] 0 0 := Stand.of_body Bd
  have e0 : s₁.heap = h0 := by rw [← hh, Bd.state]; rfl
  have N0 := Fr.nil n0
  have K0 := Keep.refl h0 [a1]
  have pre0 : ∀ t, Steps p.tables e below (s₁.setTop (mkF m 0 #[.val (.ref a1), .val (.ref a2)] [])) t → Steps p.tables e below (s₁.setTop (entryFrame m #[(.ref a1), (.ref a2)] 2)) t := fun t k => castTop (ef_39_2 m a1 a2) k
  obtain ⟨cl1, Ar1, q1, S1, M1, H1, G1⟩ := id V_c
  obtain ⟨_, _, ⟨T2, L2, k2, n2⟩, -, X2, ⟨Lc2, hQ2, l2, y2, z2⟩, st2⟩ := X0.specialBack hx (y := mn_40) rfl hown (mvT hZ (ww hw 198 rfl)) (mvT hZ (ww hw 199 rfl)) (mvT hZ (ww hw 200 rfl)) (by decide) (backOf (W := 0) (rm40_2 l Z a0 hw [] a1 a2 kc c0_ c1_ cs h0 n0 (Nat.le_trans Z0 K0.1) O0 E_a1 g_a1 F_v F_c V_c ne_a1_a2 hl_c0_ hl_c1_ S_CS h_cs) hZ (ww hw 200 rfl) (ww hw 1 rfl) (by decide) (by decide)) (g := (mkF m 6 #[vR a1, vR a2] [.null, iI 2, iI 0, iR a2, iR a1])) rfl (by rw [hml]; rfl) (Steps.refl _) (a := a1) (argsL := [(.ref a2), (.int (0 : Int32)), (.int (2 : Int32)), .null]) (rest := []) (lenOf pd_29 rfl) rfl (wz rfl) (hb hby d39_6) (fun _ _ => ⟨rfl, e0, (by decide : 0 + 1 ≤ _), (by decide : 0 + 2 ≤ _)⟩)
  dsimp only [Pt.U, Pt.locs, Pt.cells, Pt.slots] at X2 l2 y2 z2 st2 hQ2
  subst l2 y2 z2
  obtain ⟨d2, kd2, rfl, N2q, K2q, E2q, C2q, F2q, V2q, z_d2⟩ := hQ2
  have ne_a1_d2 : a1 ≠ d2 := Nat.ne_of_lt (Nat.lt_of_lt_of_le E_a1.lt z_d2)
  have ne_a2_d2 : a2 ≠ d2 := Nat.ne_of_lt (Nat.lt_of_lt_of_le V_c.lt z_d2)
  have sz_d2 : h0.size ≤ d2 := Nat.le_trans K0.1 z_d2
  have g_d2 : n0 ≤ d2 := Nat.le_trans Z0 sz_d2
  have N2 := Fr.app N0 N2q
  have K2 : Keep h0 T2.heap [a1] := Keep.trans K0 K2q (allS (Or.inl (List.mem_of_getElem? (i := 0) rfl)) all0)
  obtain ⟨fs, hr, hrun, hended, hW, hsame⟩ := X2.leave (v := none) (fun _ => rfl)
  refine ⟨_, _, pre0 _ ?_, hrun, hended, _, _, rfl, ?_, ⟨_, rfl⟩, hW, hsame.mono (by decide) (by decide)⟩
  · show SA s₁ m 0 #[vR a1, vR a2] []
    refine XS.aloadN X0.here hx rfl (hb hby d39_0) rfl rfl ?_
    show SA s₁ m 1 #[vR a1, vR a2] [iR a1]
    refine XS.aloadN X0.here hx rfl (hb hby d39_1) rfl rfl ?_
    show SA s₁ m 2 #[vR a1, vR a2] [iR a2, iR a1]
    refine XS.iconst X0.here hx rfl (hb hby d39_2) ?_
    show SA s₁ m 3 #[vR a1, vR a2] [iI 0, iR a2, iR a1]
    refine XS.aloadN X0.here hx rfl (hb hby d39_3) rfl rfl ?_
    show SA s₁ m 4 #[vR a1, vR a2] [iR a2, iI 0, iR a2, iR a1]
    refine X0.arraylength hx (by rw [e0]; exact Ar1.1) (State.isArrayOf_alike hZ.alike Ar1.2.1) (g := (mkF m 4 #[vR a1, vR a2] [iR a2, iI 0, iR a2, iR a1])) rfl rfl (hb hby d39_4) _ ?_
    rw [len_of S1 M1]
    show SA s₁ m 5 #[vR a1, vR a2] [iI 2, iI 0, iR a2, iR a1]
    refine XS.aconstNull X0.here hx rfl (hb hby d39_5) ?_
    show SA s₁ m 6 #[vR a1, vR a2] [.null, iI 2, iI 0, iR a2, iR a1]
    refine st2.trans ?_
    show Steps _ _ _ (T2.setTop (mkF m 9 #[vR a1, vR a2] [])) _
    exact X2.returnOut hx Bd.returns (hb hby d39_9) hr
  · show Q39_2 Z a1 a2 kc c0_ c1_ cs h0 n0 _ T2.heap _
    exact ⟨_, _, rfl, N2, K2, E2q, C2q, F2q, V2q, sz_d2⟩
def own_Q0 (n0 : Nat) (v : Option Value) (h : Heap) (L : List Loc) : Prop := v = some (.int (1 : Int32)) ∧ Fr n0 L
theorem own_end_n {p : Program} {l : Launch} {e : Env} {s : State} {m : MethodId} {below : List Frame} {meth : Method} {c : Code} {T0 : State} {locs : List Loc} {Z : State} {a0 : Array Value} {h0 hT : Heap} {n0 : Nat} {vmT : Vm} {kT : Nat} {p1 : Int32} {p2 : Int32} {p3 : Int32} {cs : Int32} {fm : Value} {lv ev y0_ y1_ y2_ y3_ : Int32} {sc rr d : Addr} {kd : ClassId} {z : Int32} {B : List Int32}
    (X0 : Stand p l e room_1 (s.setVm vmT) m #[(.int p1), (.int p2), (.int p3)] below meth c T0 locs 27 562) (hx : p.tables.exec = Jvm.exec) (hZ : Z.Warmed39 (s.setVm vmT).vm) (hw : ∀ d ∈ tables_1, d.before a0 Z = true) (hby : c.code = code) (hml : c.maxLocals = 15) (hown : (s.setVm vmT).vm.findClass "com/example/cloud_to_core/cloudtocore/auth/HttpAuthorizationChallengePinLaw" = some m.cls) (hret : meth.sig.returnType = some .boolean) (hlocks : meth.locks = false) (e0 : T0.heap = hT) (Kt0 : Keep h0 hT []) (N0 : Fr n0 locs) (Z0 : n0 ≤ h0.size) (O0 : Old Z n0 h0) (hS0 : s.Since vmT kT) (hk0 : kT ≤ hT.size) (RT : CHr Z consts_1 s.vm h0 vmT hT) (hh : s.heap = h0) (E_rr : Exa Z hT rr "java/lang/String") (Fc_rr : Fld Z hT rr "java/lang/String" "coder" "B" (.int (0 : Int32))) (Fv_rr : Fld Z hT rr "java/lang/String" "value" "[B" (.ref d)) (V_d : Arv Z hT d kd .byte z (own_bs B) (.int (0 : Int32))) (hz : ¬ z < 0) (hB : z.toNatClampNeg = B.length) (hlen : z = ((lv + (22 : Int32)) + (0 : Int32))) (q227 : ¬ lv < (1 : Int32) → (¬ (0 : Int32) < (0 : Int32) ∧ (0 : Int32) < z ∧ own_chr (B.getD (0 : Int32).toNatClampNeg 0) = y0_)) (q245 : ¬ lv < (2 : Int32) → (¬ (1 : Int32) < (0 : Int32) ∧ (1 : Int32) < z ∧ own_chr (B.getD (1 : Int32).toNatClampNeg 0) = y1_)) (hRk : own_Rk lv z) (hRe : own_Re B lv) (S_CS : Sta Z Z.heap "java/lang/String" "COMPACT_STRINGS" "Z" (.int cs)) (h_cs : ¬ cs = (0 : Int32)) (S_F : Sta Z Z.heap "jdk/internal/util/Preconditions" "SIOOBE_FORMATTER" "Ljava/util/function/BiFunction;" fm) (h_fm : fm.isRef = true) :
    ∃ s₂ o, Steps p.tables e below (T0.setTop (mkF m 181 #[vI p1, vI p2, vI p3, vI lv, vI 0, vI ev, vI y0_, vI y1_, vI y2_, vI y3_, vR sc, .val .null, vR rr, .unset, .unset] [])) s₂ ∧ s₂.status = .running ∧ Ended s₂ below o ∧ ∃ v L, o = .returned v ∧ own_Q0 n0 v s₂.heap L ∧ ReturnedEndW s o s₂ L room_1.cells room_1.slots := by
  have Oh2 := O0.keep Kt0 all0
  obtain ⟨cq1, kq1, q1a, q1b, q1c⟩ := isOf hZ e0 E_rr
  obtain ⟨_, _, ⟨T1, L1, k1, n1⟩, -, X1, ⟨Lc1, hQ1, l1, y1, z1⟩, st1⟩ := X0.virtualBack hx (y := mn_1) (z := mn_1) hown (mvT hZ (ww hw 149 rfl)) (mvT hZ (ww hw 43 rfl)) (notFace_of_selects (args := #[]) (mvT hZ (ww hw 45 rfl))) (mvT hZ (ww hw 45 rfl)) (mvT hZ (ww hw 44 rfl)) (by decide) (backOf (W := 0) (rm7 l Z a0 hw [] rr d kd z B cs hT n0 Oh2 E_rr Fc_rr Fv_rr V_d hz hB S_CS h_cs) hZ (ww hw 46 rfl) (ww hw 1 rfl) (by decide) (by decide)) q1a q1c (g := (mkF m 209 #[vI p1, vI p2, vI p3, vI lv, vI 0, vI ev, vI y0_, vI y1_, vI y2_, vI y3_, vR sc, .val .null, vR rr, vI ((lv + (22 : Int32)) + (0 : Int32)), .unset] [iR rr])) rfl (by rw [hml]; rfl) (Steps.refl _) (argsL := []) (rest := []) (lenOf pd_7 rfl) rfl (wz rfl) (hb hby at_209) (fun _ _ => ⟨rfl, e0, (by decide : 27 + 0 ≤ _), (by decide : 562 + 0 ≤ _)⟩)
  dsimp only [Pt.U, Pt.locs, Pt.cells, Pt.slots] at X1 l1 y1 z1 st1 hQ1
  subst l1 y1 z1
  obtain ⟨rfl, rfl, e1⟩ := hQ1
  try rw [List.append_nil] at X1
  have hh3 : z = ((lv + (22 : Int32)) + (0 : Int32)) := hlen
  obtain ⟨T4, X4, e4, st4⟩ : own_Mid X1 hT (mkF m 221 #[vI p1, vI p2, vI p3, vI lv, vI 0, vI ev, vI y0_, vI y1_, vI y2_, vI y3_, vR sc, .val .null, vR rr, vI ((lv + (22 : Int32)) + (0 : Int32)), .unset] [iI 1, iI lv]) (mkF m 237 #[vI p1, vI p2, vI p3, vI lv, vI 0, vI ev, vI y0_, vI y1_, vI y2_, vI y3_, vR sc, .val .null, vR rr, vI ((lv + (22 : Int32)) + (0 : Int32)), .unset] []) := by
    by_cases hc5 : lv < (1 : Int32)
    · refine ⟨T1, X1, e1, fun t kt => ?_⟩
      show SA T1 m 221 #[vI p1, vI p2, vI p3, vI lv, vI 0, vI ev, vI y0_, vI y1_, vI y2_, vI y3_, vR sc, .val .null, vR rr, vI ((lv + (22 : Int32)) + (0 : Int32)), .unset] [iI 1, iI lv]
      refine XS.icmpYes X1.here hx rfl (pc0 := 221) (pc' := 237) rfl (hb hby at_221) rfl (tlt hc5).1 (by decide) (by decide) ?_
      exact kt
    · obtain ⟨cq6, kq6, q6a, q6b, q6c⟩ := isOf hZ e1 E_rr
      obtain ⟨_, _, ⟨T6, L6, k6, n6⟩, -, X6, ⟨Lc6, hQ6, l6, y6, z6⟩, st6⟩ := X1.virtualBack hx (y := mn_27) (z := mn_27) hown (mvT hZ (ww hw 154 rfl)) (mvT hZ (ww hw 155 rfl)) (notFace_of_selects (args := #[]) (mvT hZ (ww hw 157 rfl))) (mvT hZ (ww hw 157 rfl)) (mvT hZ (ww hw 156 rfl)) (by decide) (backOf (W := 0) (rm29_v l Z a0 hw [] rr (0 : Int32) d kd z B y0_ cs fm hT n0 Oh2 E_rr Fc_rr Fv_rr V_d hz hB (q227 hc5).1 (q227 hc5).2.1 (q227 hc5).2.2 S_CS h_cs S_F h_fm) hZ (ww hw 158 rfl) (ww hw 1 rfl) (by decide) (by decide)) q6a q6c (g := (mkF m 227 #[vI p1, vI p2, vI p3, vI lv, vI 0, vI ev, vI y0_, vI y1_, vI y2_, vI y3_, vR sc, .val .null, vR rr, vI ((lv + (22 : Int32)) + (0 : Int32)), .unset] [iI 0, iR rr])) rfl (by rw [hml]; rfl) (Steps.refl _) (argsL := [(.int (0 : Int32))]) (rest := []) (lenOf pd_22 rfl) rfl (wz rfl) (hb hby at_227) (fun _ _ => ⟨rfl, e1, (by decide : 27 + 0 ≤ _), (by decide : 562 + 0 ≤ _)⟩)
      dsimp only [Pt.U, Pt.locs, Pt.cells, Pt.slots] at X6 l6 y6 z6 st6 hQ6
      subst l6 y6 z6
      obtain ⟨rfl, rfl, e6⟩ := hQ6
      try rw [List.append_nil] at X6
      refine ⟨T6, X6, e6, fun t kt => ?_⟩
      show SA T1 m 221 #[vI p1, vI p2, vI p3, vI lv, vI 0, vI ev, vI y0_, vI y1_, vI y2_, vI y3_, vR sc, .val .null, vR rr, vI ((lv + (22 : Int32)) + (0 : Int32)), .unset] [iI 1, iI lv]
      refine XS.icmpNo X1.here hx rfl (hb hby at_221) rfl (flt hc5).1 ?_
      show SA T1 m 224 #[vI p1, vI p2, vI p3, vI lv, vI 0, vI ev, vI y0_, vI y1_, vI y2_, vI y3_, vR sc, .val .null, vR rr, vI ((lv + (22 : Int32)) + (0 : Int32)), .unset] []
      refine XS.aload X1.here hx rfl (hb hby at_224) rfl rfl ?_
      show SA T1 m 226 #[vI p1, vI p2, vI p3, vI lv, vI 0, vI ev, vI y0_, vI y1_, vI y2_, vI y3_, vR sc, .val .null, vR rr, vI ((lv + (22 : Int32)) + (0 : Int32)), .unset] [iR rr]
      refine XS.iconst X1.here hx rfl (hb hby at_226) ?_
      show SA T1 m 227 #[vI p1, vI p2, vI p3, vI lv, vI 0, vI ev, vI y0_, vI y1_, vI y2_, vI y3_, vR sc, .val .null, vR rr, vI ((lv + (22 : Int32)) + (0 : Int32)), .unset] [iI 0, iR rr]
      refine st6.trans ?_
      show SA T6 m 230 #[vI p1, vI p2, vI p3, vI lv, vI 0, vI ev, vI y0_, vI y1_, vI y2_, vI y3_, vR sc, .val .null, vR rr, vI ((lv + (22 : Int32)) + (0 : Int32)), .unset] [iI y0_]
      refine XS.iload X6.here hx rfl (hb hby at_230) rfl ?_
      show SA T6 m 232 #[vI p1, vI p2, vI p3, vI lv, vI 0, vI ev, vI y0_, vI y1_, vI y2_, vI y3_, vR sc, .val .null, vR rr, vI ((lv + (22 : Int32)) + (0 : Int32)), .unset] [iI y0_, iI y0_]
      refine XS.icmpYes X6.here hx rfl (pc0 := 232) (pc' := 237) rfl (hb hby at_232) rfl (teq (rfl : y0_ = y0_)).1 (by decide) (by decide) ?_
      exact kt
  obtain ⟨T7, X7, e7, st7⟩ : own_Mid X4 hT (mkF m 239 #[vI p1, vI p2, vI p3, vI lv, vI 0, vI ev, vI y0_, vI y1_, vI y2_, vI y3_, vR sc, .val .null, vR rr, vI ((lv + (22 : Int32)) + (0 : Int32)), .unset] [iI 2, iI lv]) (mkF m 255 #[vI p1, vI p2, vI p3, vI lv, vI 0, vI ev, vI y0_, vI y1_, vI y2_, vI y3_, vR sc, .val .null, vR rr, vI ((lv + (22 : Int32)) + (0 : Int32)), .unset] []) := by
    by_cases hc8 : lv < (2 : Int32)
    · refine ⟨T4, X4, e4, fun t kt => ?_⟩
      show SA T4 m 239 #[vI p1, vI p2, vI p3, vI lv, vI 0, vI ev, vI y0_, vI y1_, vI y2_, vI y3_, vR sc, .val .null, vR rr, vI ((lv + (22 : Int32)) + (0 : Int32)), .unset] [iI 2, iI lv]
      refine XS.icmpYes X4.here hx rfl (pc0 := 239) (pc' := 255) rfl (hb hby at_239) rfl (tlt hc8).1 (by decide) (by decide) ?_
      exact kt
    · obtain ⟨cq9, kq9, q9a, q9b, q9c⟩ := isOf hZ e4 E_rr
      obtain ⟨_, _, ⟨T9, L9, k9, n9⟩, -, X9, ⟨Lc9, hQ9, l9, y9, z9⟩, st9⟩ := X4.virtualBack hx (y := mn_27) (z := mn_27) hown (mvT hZ (ww hw 154 rfl)) (mvT hZ (ww hw 155 rfl)) (notFace_of_selects (args := #[]) (mvT hZ (ww hw 157 rfl))) (mvT hZ (ww hw 157 rfl)) (mvT hZ (ww hw 156 rfl)) (by decide) (backOf (W := 0) (rm29_v l Z a0 hw [] rr (1 : Int32) d kd z B y1_ cs fm hT n0 Oh2 E_rr Fc_rr Fv_rr V_d hz hB (q245 hc8).1 (q245 hc8).2.1 (q245 hc8).2.2 S_CS h_cs S_F h_fm) hZ (ww hw 158 rfl) (ww hw 1 rfl) (by decide) (by decide)) q9a q9c (g := (mkF m 245 #[vI p1, vI p2, vI p3, vI lv, vI 0, vI ev, vI y0_, vI y1_, vI y2_, vI y3_, vR sc, .val .null, vR rr, vI ((lv + (22 : Int32)) + (0 : Int32)), .unset] [iI 1, iR rr])) rfl (by rw [hml]; rfl) (Steps.refl _) (argsL := [(.int (1 : Int32))]) (rest := []) (lenOf pd_22 rfl) rfl (wz rfl) (hb hby at_245) (fun _ _ => ⟨rfl, e4, (by decide : 27 + 0 ≤ _), (by decide : 562 + 0 ≤ _)⟩)
      dsimp only [Pt.U, Pt.locs, Pt.cells, Pt.slots] at X9 l9 y9 z9 st9 hQ9
      subst l9 y9 z9
      obtain ⟨rfl, rfl, e9⟩ := hQ9
      try rw [List.append_nil] at X9
      refine ⟨T9, X9, e9, fun t kt => ?_⟩
      show SA T4 m 239 #[vI p1, vI p2, vI p3, vI lv, vI 0, vI ev, vI y0_, vI y1_, vI y2_, vI y3_, vR sc, .val .null, vR rr, vI ((lv + (22 : Int32)) + (0 : Int32)), .unset] [iI 2, iI lv]
      refine XS.icmpNo X4.here hx rfl (hb hby at_239) rfl (flt hc8).1 ?_
      show SA T4 m 242 #[vI p1, vI p2, vI p3, vI lv, vI 0, vI ev, vI y0_, vI y1_, vI y2_, vI y3_, vR sc, .val .null, vR rr, vI ((lv + (22 : Int32)) + (0 : Int32)), .unset] []
      refine XS.aload X4.here hx rfl (hb hby at_242) rfl rfl ?_
      show SA T4 m 244 #[vI p1, vI p2, vI p3, vI lv, vI 0, vI ev, vI y0_, vI y1_, vI y2_, vI y3_, vR sc, .val .null, vR rr, vI ((lv + (22 : Int32)) + (0 : Int32)), .unset] [iR rr]
      refine XS.iconst X4.here hx rfl (hb hby at_244) ?_
      show SA T4 m 245 #[vI p1, vI p2, vI p3, vI lv, vI 0, vI ev, vI y0_, vI y1_, vI y2_, vI y3_, vR sc, .val .null, vR rr, vI ((lv + (22 : Int32)) + (0 : Int32)), .unset] [iI 1, iR rr]
      refine st9.trans ?_
      show SA T9 m 248 #[vI p1, vI p2, vI p3, vI lv, vI 0, vI ev, vI y0_, vI y1_, vI y2_, vI y3_, vR sc, .val .null, vR rr, vI ((lv + (22 : Int32)) + (0 : Int32)), .unset] [iI y1_]
      refine XS.iload X9.here hx rfl (hb hby at_248) rfl ?_
      show SA T9 m 250 #[vI p1, vI p2, vI p3, vI lv, vI 0, vI ev, vI y0_, vI y1_, vI y2_, vI y3_, vR sc, .val .null, vR rr, vI ((lv + (22 : Int32)) + (0 : Int32)), .unset] [iI y1_, iI y1_]
      refine XS.icmpYes X9.here hx rfl (pc0 := 250) (pc' := 255) rfl (hb hby at_250) rfl (teq (rfl : y1_ = y1_)).1 (by decide) (by decide) ?_
      exact kt
  obtain ⟨_, _, ⟨T10, L10, k10, n10⟩, -, X10, ⟨Lc10, hQ10, l10, y10, z10⟩, st10⟩ := Jvm.LawKit.callS X7 hx (y := mn_34) hown (mvT hZ (ww hw 150 rfl)) (mvT hZ (ww hw 151 rfl)) (mvT hZ (ww hw 152 rfl)) (mvT hZ (ww hw 153 rfl)) (by decide) (backOf (W := 0) (rm28 l Z a0 hw [] rr lv d kd z B cs fm hT n0 Oh2 E_rr Fc_rr Fv_rr V_d hz hB hRk hRe S_CS h_cs S_F h_fm) hZ (ww hw 153 rfl) (ww hw 152 rfl) (by decide) (by decide)) (g := (mkF m 258 #[vI p1, vI p2, vI p3, vI lv, vI 0, vI ev, vI y0_, vI y1_, vI y2_, vI y3_, vR sc, .val .null, vR rr, vI ((lv + (22 : Int32)) + (0 : Int32)), .unset] [iI lv, iR rr])) rfl (by rw [hml]; rfl) (argsL := [(.ref rr), (.int lv)]) (rest := []) (lenOf pd_33 rfl) rfl (wz rfl) (hb hby at_258) (fun _ _ => ⟨rfl, e7, (by decide : 27 + 0 ≤ _), (by decide : 562 + 0 ≤ _)⟩)
  dsimp only [Pt.U, Pt.locs, Pt.cells, Pt.slots] at X10 l10 y10 z10 st10 hQ10
  subst l10 y10 z10
  obtain ⟨rfl, rfl, e10⟩ := hQ10
  try rw [List.append_nil] at X10
  obtain ⟨fs, hr, hrun, hended, hEnd⟩ := X10.leaveW hS0 (by rw [e10]; exact hk0) (v := some (.int (1 : Int32))) (fun h => by rw [hret] at h; cases h)
  refine ⟨_, _, ?_, hrun, hended, _, _, rfl, ?_, ⟨hEnd.1, hEnd.2.1, hEnd.2.2.1, hEnd.2.2.2.mono (by decide) (by decide)⟩⟩
  · show SA T0 m 181 #[vI p1, vI p2, vI p3, vI lv, vI 0, vI ev, vI y0_, vI y1_, vI y2_, vI y3_, vR sc, .val .null, vR rr, .unset, .unset] []
    refine XS.iloadN X0.here hx rfl (hb hby at_181) rfl ?_
    show SA T0 m 182 #[vI p1, vI p2, vI p3, vI lv, vI 0, vI ev, vI y0_, vI y1_, vI y2_, vI y3_, vR sc, .val .null, vR rr, .unset, .unset] [iI lv]
    refine XS.bipush X0.here hx rfl (hb hby at_182) ?_
    show SA T0 m 184 #[vI p1, vI p2, vI p3, vI lv, vI 0, vI ev, vI y0_, vI y1_, vI y2_, vI y3_, vR sc, .val .null, vR rr, .unset, .unset] [iI 22, iI lv]
    refine XS.iadd X0.here hx rfl (hb hby at_184) rfl ?_
    show SA T0 m 185 #[vI p1, vI p2, vI p3, vI lv, vI 0, vI ev, vI y0_, vI y1_, vI y2_, vI y3_, vR sc, .val .null, vR rr, .unset, .unset] [iI (lv + (22 : Int32))]
    refine XS.iload X0.here hx rfl (hb hby at_185) rfl ?_
    show SA T0 m 187 #[vI p1, vI p2, vI p3, vI lv, vI 0, vI ev, vI y0_, vI y1_, vI y2_, vI y3_, vR sc, .val .null, vR rr, .unset, .unset] [iI 0, iI (lv + (22 : Int32))]
    refine XS.ifYes X0.here hx rfl (pc0 := 187) (pc' := 198) rfl (hb hby at_187) rfl ((if0 _ _).trans (teq (by decide : (0 : Int32) = (0 : Int32))).1) (by decide) (by decide) ?_
    show SA T0 m 198 #[vI p1, vI p2, vI p3, vI lv, vI 0, vI ev, vI y0_, vI y1_, vI y2_, vI y3_, vR sc, .val .null, vR rr, .unset, .unset] [iI (lv + (22 : Int32))]
    refine XS.iconst X0.here hx rfl (hb hby at_198) ?_
    show SA T0 m 199 #[vI p1, vI p2, vI p3, vI lv, vI 0, vI ev, vI y0_, vI y1_, vI y2_, vI y3_, vR sc, .val .null, vR rr, .unset, .unset] [iI 0, iI (lv + (22 : Int32))]
    refine XS.iadd X0.here hx rfl (hb hby at_199) rfl ?_
    show SA T0 m 200 #[vI p1, vI p2, vI p3, vI lv, vI 0, vI ev, vI y0_, vI y1_, vI y2_, vI y3_, vR sc, .val .null, vR rr, .unset, .unset] [iI ((lv + (22 : Int32)) + (0 : Int32))]
    refine XS.istore X0.here hx rfl (hb hby at_200) rfl (l' := #[vI p1, vI p2, vI p3, vI lv, vI 0, vI ev, vI y0_, vI y1_, vI y2_, vI y3_, vR sc, .val .null, vR rr, vI ((lv + (22 : Int32)) + (0 : Int32)), .unset]) rfl ?_
    show SA T0 m 202 #[vI p1, vI p2, vI p3, vI lv, vI 0, vI ev, vI y0_, vI y1_, vI y2_, vI y3_, vR sc, .val .null, vR rr, vI ((lv + (22 : Int32)) + (0 : Int32)), .unset] []
    refine XS.aload X0.here hx rfl (hb hby at_202) rfl rfl ?_
    show SA T0 m 204 #[vI p1, vI p2, vI p3, vI lv, vI 0, vI ev, vI y0_, vI y1_, vI y2_, vI y3_, vR sc, .val .null, vR rr, vI ((lv + (22 : Int32)) + (0 : Int32)), .unset] [iR rr]
    refine XS.ifnullNo X0.here hx rfl (hb hby at_204) rfl ?_
    show SA T0 m 207 #[vI p1, vI p2, vI p3, vI lv, vI 0, vI ev, vI y0_, vI y1_, vI y2_, vI y3_, vR sc, .val .null, vR rr, vI ((lv + (22 : Int32)) + (0 : Int32)), .unset] []
    refine XS.aload X0.here hx rfl (hb hby at_207) rfl rfl ?_
    show SA T0 m 209 #[vI p1, vI p2, vI p3, vI lv, vI 0, vI ev, vI y0_, vI y1_, vI y2_, vI y3_, vR sc, .val .null, vR rr, vI ((lv + (22 : Int32)) + (0 : Int32)), .unset] [iR rr]
    refine st1.trans ?_
    show SA T1 m 212 #[vI p1, vI p2, vI p3, vI lv, vI 0, vI ev, vI y0_, vI y1_, vI y2_, vI y3_, vR sc, .val .null, vR rr, vI ((lv + (22 : Int32)) + (0 : Int32)), .unset] [iI z]
    refine XS.iload X1.here hx rfl (hb hby at_212) rfl ?_
    show SA T1 m 214 #[vI p1, vI p2, vI p3, vI lv, vI 0, vI ev, vI y0_, vI y1_, vI y2_, vI y3_, vR sc, .val .null, vR rr, vI ((lv + (22 : Int32)) + (0 : Int32)), .unset] [iI ((lv + (22 : Int32)) + (0 : Int32)), iI z]
    refine XS.icmpYes X1.here hx rfl (pc0 := 214) (pc' := 219) rfl (hb hby at_214) rfl (teq hh3).1 (by decide) (by decide) ?_
    show SA T1 m 219 #[vI p1, vI p2, vI p3, vI lv, vI 0, vI ev, vI y0_, vI y1_, vI y2_, vI y3_, vR sc, .val .null, vR rr, vI ((lv + (22 : Int32)) + (0 : Int32)), .unset] []
    refine XS.iloadN X1.here hx rfl (hb hby at_219) rfl ?_
    show SA T1 m 220 #[vI p1, vI p2, vI p3, vI lv, vI 0, vI ev, vI y0_, vI y1_, vI y2_, vI y3_, vR sc, .val .null, vR rr, vI ((lv + (22 : Int32)) + (0 : Int32)), .unset] [iI lv]
    refine XS.iconst X1.here hx rfl (hb hby at_220) ?_
    show SA T1 m 221 #[vI p1, vI p2, vI p3, vI lv, vI 0, vI ev, vI y0_, vI y1_, vI y2_, vI y3_, vR sc, .val .null, vR rr, vI ((lv + (22 : Int32)) + (0 : Int32)), .unset] [iI 1, iI lv]
    refine st4 _ ?_
    show SA T4 m 237 #[vI p1, vI p2, vI p3, vI lv, vI 0, vI ev, vI y0_, vI y1_, vI y2_, vI y3_, vR sc, .val .null, vR rr, vI ((lv + (22 : Int32)) + (0 : Int32)), .unset] []
    refine XS.iloadN X4.here hx rfl (hb hby at_237) rfl ?_
    show SA T4 m 238 #[vI p1, vI p2, vI p3, vI lv, vI 0, vI ev, vI y0_, vI y1_, vI y2_, vI y3_, vR sc, .val .null, vR rr, vI ((lv + (22 : Int32)) + (0 : Int32)), .unset] [iI lv]
    refine XS.iconst X4.here hx rfl (hb hby at_238) ?_
    show SA T4 m 239 #[vI p1, vI p2, vI p3, vI lv, vI 0, vI ev, vI y0_, vI y1_, vI y2_, vI y3_, vR sc, .val .null, vR rr, vI ((lv + (22 : Int32)) + (0 : Int32)), .unset] [iI 2, iI lv]
    refine st7 _ ?_
    show SA T7 m 255 #[vI p1, vI p2, vI p3, vI lv, vI 0, vI ev, vI y0_, vI y1_, vI y2_, vI y3_, vR sc, .val .null, vR rr, vI ((lv + (22 : Int32)) + (0 : Int32)), .unset] []
    refine XS.aload X7.here hx rfl (hb hby at_255) rfl rfl ?_
    show SA T7 m 257 #[vI p1, vI p2, vI p3, vI lv, vI 0, vI ev, vI y0_, vI y1_, vI y2_, vI y3_, vR sc, .val .null, vR rr, vI ((lv + (22 : Int32)) + (0 : Int32)), .unset] [iR rr]
    refine XS.iloadN X7.here hx rfl (hb hby at_257) rfl ?_
    show SA T7 m 258 #[vI p1, vI p2, vI p3, vI lv, vI 0, vI ev, vI y0_, vI y1_, vI y2_, vI y3_, vR sc, .val .null, vR rr, vI ((lv + (22 : Int32)) + (0 : Int32)), .unset] [iI lv, iR rr]
    refine st10 _ ?_
    show SA T10 m 261 #[vI p1, vI p2, vI p3, vI lv, vI 0, vI ev, vI y0_, vI y1_, vI y2_, vI y3_, vR sc, .val .null, vR rr, vI ((lv + (22 : Int32)) + (0 : Int32)), .unset] [iI 1]
    refine XS.ifYes X10.here hx rfl (pc0 := 261) (pc' := 266) rfl (hb hby at_261) rfl ((if0 _ _).trans (feq (by decide : ¬ ((1 : Int32) = (0 : Int32)))).2) (by decide) (by decide) ?_
    show SA T10 m 266 #[vI p1, vI p2, vI p3, vI lv, vI 0, vI ev, vI y0_, vI y1_, vI y2_, vI y3_, vR sc, .val .null, vR rr, vI ((lv + (22 : Int32)) + (0 : Int32)), .unset] []
    refine XS.iload X10.here hx rfl (hb hby at_266) rfl ?_
    show SA T10 m 268 #[vI p1, vI p2, vI p3, vI lv, vI 0, vI ev, vI y0_, vI y1_, vI y2_, vI y3_, vR sc, .val .null, vR rr, vI ((lv + (22 : Int32)) + (0 : Int32)), .unset] [iI 0]
    refine XS.ifNo X10.here hx rfl (hb hby at_268) rfl ((if0 _ _).trans (teq (by decide : (0 : Int32) = (0 : Int32))).2) ?_
    show SA T10 m 271 #[vI p1, vI p2, vI p3, vI lv, vI 0, vI ev, vI y0_, vI y1_, vI y2_, vI y3_, vR sc, .val .null, vR rr, vI ((lv + (22 : Int32)) + (0 : Int32)), .unset] []
    refine XS.iconst X10.here hx rfl (hb hby at_271) ?_
    show Steps _ _ _ (T10.setTop (mkF m 272 #[vI p1, vI p2, vI p3, vI lv, vI 0, vI ev, vI y0_, vI y1_, vI y2_, vI y3_, vR sc, .val .null, vR rr, vI ((lv + (22 : Int32)) + (0 : Int32)), .unset] [iI 1])) _
    exact retN X10 hx (t := .boolean) hret (by simp) (hb hby at_272) hr
  · show own_Q0 n0 _ T10.heap _
    rw [e10]
    exact ⟨rfl, N0⟩
theorem own_end_e {p : Program} {l : Launch} {e : Env} {s : State} {m : MethodId} {below : List Frame} {meth : Method} {c : Code} {T0 : State} {locs : List Loc} {Z : State} {a0 : Array Value} {h0 hT : Heap} {n0 : Nat} {vmT : Vm} {kT : Nat} {p1 : Int32} {p2 : Int32} {p3 : Int32} {cs : Int32} {fm : Value} {lv ev y0_ y1_ y2_ y3_ : Int32} {sc er rr d : Addr} {kd : ClassId} {z : Int32} {B : List Int32}
    (X0 : Stand p l e room_1 (s.setVm vmT) m #[(.int p1), (.int p2), (.int p3)] below meth c T0 locs 27 562) (hx : p.tables.exec = Jvm.exec) (hZ : Z.Warmed39 (s.setVm vmT).vm) (hw : ∀ d ∈ tables_1, d.before a0 Z = true) (hby : c.code = code) (hml : c.maxLocals = 15) (hown : (s.setVm vmT).vm.findClass "com/example/cloud_to_core/cloudtocore/auth/HttpAuthorizationChallengePinLaw" = some m.cls) (hret : meth.sig.returnType = some .boolean) (hlocks : meth.locks = false) (e0 : T0.heap = hT) (Kt0 : Keep h0 hT []) (N0 : Fr n0 locs) (Z0 : n0 ≤ h0.size) (O0 : Old Z n0 h0) (hS0 : s.Since vmT kT) (hk0 : kT ≤ hT.size) (RT : CHr Z consts_1 s.vm h0 vmT hT) (hh : s.heap = h0) (E_rr : Exa Z hT rr "java/lang/String") (Fc_rr : Fld Z hT rr "java/lang/String" "coder" "B" (.int (0 : Int32))) (Fv_rr : Fld Z hT rr "java/lang/String" "value" "[B" (.ref d)) (V_d : Arv Z hT d kd .byte z (own_bs B) (.int (0 : Int32))) (hz : ¬ z < 0) (hB : z.toNatClampNeg = B.length) (hlen : z = ((lv + (22 : Int32)) + ((10 : Int32) + ev))) (q227 : ¬ lv < (1 : Int32) → (¬ (0 : Int32) < (0 : Int32) ∧ (0 : Int32) < z ∧ own_chr (B.getD (0 : Int32).toNatClampNeg 0) = y0_)) (q245 : ¬ lv < (2 : Int32) → (¬ (1 : Int32) < (0 : Int32) ∧ (1 : Int32) < z ∧ own_chr (B.getD (1 : Int32).toNatClampNeg 0) = y1_)) (hRk : own_Rk lv z) (hRe : own_Re B lv) (hEk : own_Ek (lv + (22 : Int32)) z) (hEe : own_Ee B (lv + (22 : Int32))) (q304 : ¬ ev < (1 : Int32) → (¬ ((lv + (22 : Int32)) + (9 : Int32)) < (0 : Int32) ∧ ((lv + (22 : Int32)) + (9 : Int32)) < z ∧ own_chr (B.getD ((lv + (22 : Int32)) + (9 : Int32)).toNatClampNeg 0) = y2_)) (q327 : ¬ ev < (2 : Int32) → (¬ ((lv + (22 : Int32)) + (10 : Int32)) < (0 : Int32) ∧ ((lv + (22 : Int32)) + (10 : Int32)) < z ∧ own_chr (B.getD ((lv + (22 : Int32)) + (10 : Int32)).toNatClampNeg 0) = y3_)) (q347 : (¬ (((lv + (22 : Int32)) + (9 : Int32)) + ev) < (0 : Int32) ∧ (((lv + (22 : Int32)) + (9 : Int32)) + ev) < z ∧ own_chr (B.getD (((lv + (22 : Int32)) + (9 : Int32)) + ev).toNatClampNeg 0) = (34 : Int32))) (S_CS : Sta Z Z.heap "java/lang/String" "COMPACT_STRINGS" "Z" (.int cs)) (h_cs : ¬ cs = (0 : Int32)) (S_F : Sta Z Z.heap "jdk/internal/util/Preconditions" "SIOOBE_FORMATTER" "Ljava/util/function/BiFunction;" fm) (h_fm : fm.isRef = true) :
    ∃ s₂ o, Steps p.tables e below (T0.setTop (mkF m 181 #[vI p1, vI p2, vI p3, vI lv, vI 1, vI ev, vI y0_, vI y1_, vI y2_, vI y3_, vR sc, vR er, vR rr, .unset, .unset] [])) s₂ ∧ s₂.status = .running ∧ Ended s₂ below o ∧ ∃ v L, o = .returned v ∧ own_Q0 n0 v s₂.heap L ∧ ReturnedEndW s o s₂ L room_1.cells room_1.slots := by
  have Oh2 := O0.keep Kt0 all0
  obtain ⟨cq1, kq1, q1a, q1b, q1c⟩ := isOf hZ e0 E_rr
  obtain ⟨_, _, ⟨T1, L1, k1, n1⟩, -, X1, ⟨Lc1, hQ1, l1, y1, z1⟩, st1⟩ := X0.virtualBack hx (y := mn_1) (z := mn_1) hown (mvT hZ (ww hw 149 rfl)) (mvT hZ (ww hw 43 rfl)) (notFace_of_selects (args := #[]) (mvT hZ (ww hw 45 rfl))) (mvT hZ (ww hw 45 rfl)) (mvT hZ (ww hw 44 rfl)) (by decide) (backOf (W := 0) (rm7 l Z a0 hw [] rr d kd z B cs hT n0 Oh2 E_rr Fc_rr Fv_rr V_d hz hB S_CS h_cs) hZ (ww hw 46 rfl) (ww hw 1 rfl) (by decide) (by decide)) q1a q1c (g := (mkF m 209 #[vI p1, vI p2, vI p3, vI lv, vI 1, vI ev, vI y0_, vI y1_, vI y2_, vI y3_, vR sc, vR er, vR rr, vI ((lv + (22 : Int32)) + ((10 : Int32) + ev)), .unset] [iR rr])) rfl (by rw [hml]; rfl) (Steps.refl _) (argsL := []) (rest := []) (lenOf pd_7 rfl) rfl (wz rfl) (hb hby at_209) (fun _ _ => ⟨rfl, e0, (by decide : 27 + 0 ≤ _), (by decide : 562 + 0 ≤ _)⟩)
  dsimp only [Pt.U, Pt.locs, Pt.cells, Pt.slots] at X1 l1 y1 z1 st1 hQ1
  subst l1 y1 z1
  obtain ⟨rfl, rfl, e1⟩ := hQ1
  try rw [List.append_nil] at X1
  have hh3 : z = ((lv + (22 : Int32)) + ((10 : Int32) + ev)) := hlen
  obtain ⟨T4, X4, e4, st4⟩ : own_Mid X1 hT (mkF m 221 #[vI p1, vI p2, vI p3, vI lv, vI 1, vI ev, vI y0_, vI y1_, vI y2_, vI y3_, vR sc, vR er, vR rr, vI ((lv + (22 : Int32)) + ((10 : Int32) + ev)), .unset] [iI 1, iI lv]) (mkF m 237 #[vI p1, vI p2, vI p3, vI lv, vI 1, vI ev, vI y0_, vI y1_, vI y2_, vI y3_, vR sc, vR er, vR rr, vI ((lv + (22 : Int32)) + ((10 : Int32) + ev)), .unset] []) := by
    by_cases hc5 : lv < (1 : Int32)
    · refine ⟨T1, X1, e1, fun t kt => ?_⟩
      show SA T1 m 221 #[vI p1, vI p2, vI p3, vI lv, vI 1, vI ev, vI y0_, vI y1_, vI y2_, vI y3_, vR sc, vR er, vR rr, vI ((lv + (22 : Int32)) + ((10 : Int32) + ev)), .unset] [iI 1, iI lv]
      refine XS.icmpYes X1.here hx rfl (pc0 := 221) (pc' := 237) rfl (hb hby at_221) rfl (tlt hc5).1 (by decide) (by decide) ?_
      exact kt
    · obtain ⟨cq6, kq6, q6a, q6b, q6c⟩ := isOf hZ e1 E_rr
      obtain ⟨_, _, ⟨T6, L6, k6, n6⟩, -, X6, ⟨Lc6, hQ6, l6, y6, z6⟩, st6⟩ := X1.virtualBack hx (y := mn_27) (z := mn_27) hown (mvT hZ (ww hw 154 rfl)) (mvT hZ (ww hw 155 rfl)) (notFace_of_selects (args := #[]) (mvT hZ (ww hw 157 rfl))) (mvT hZ (ww hw 157 rfl)) (mvT hZ (ww hw 156 rfl)) (by decide) (backOf (W := 0) (rm29_v l Z a0 hw [] rr (0 : Int32) d kd z B y0_ cs fm hT n0 Oh2 E_rr Fc_rr Fv_rr V_d hz hB (q227 hc5).1 (q227 hc5).2.1 (q227 hc5).2.2 S_CS h_cs S_F h_fm) hZ (ww hw 158 rfl) (ww hw 1 rfl) (by decide) (by decide)) q6a q6c (g := (mkF m 227 #[vI p1, vI p2, vI p3, vI lv, vI 1, vI ev, vI y0_, vI y1_, vI y2_, vI y3_, vR sc, vR er, vR rr, vI ((lv + (22 : Int32)) + ((10 : Int32) + ev)), .unset] [iI 0, iR rr])) rfl (by rw [hml]; rfl) (Steps.refl _) (argsL := [(.int (0 : Int32))]) (rest := []) (lenOf pd_22 rfl) rfl (wz rfl) (hb hby at_227) (fun _ _ => ⟨rfl, e1, (by decide : 27 + 0 ≤ _), (by decide : 562 + 0 ≤ _)⟩)
      dsimp only [Pt.U, Pt.locs, Pt.cells, Pt.slots] at X6 l6 y6 z6 st6 hQ6
      subst l6 y6 z6
      obtain ⟨rfl, rfl, e6⟩ := hQ6
      try rw [List.append_nil] at X6
      refine ⟨T6, X6, e6, fun t kt => ?_⟩
      show SA T1 m 221 #[vI p1, vI p2, vI p3, vI lv, vI 1, vI ev, vI y0_, vI y1_, vI y2_, vI y3_, vR sc, vR er, vR rr, vI ((lv + (22 : Int32)) + ((10 : Int32) + ev)), .unset] [iI 1, iI lv]
      refine XS.icmpNo X1.here hx rfl (hb hby at_221) rfl (flt hc5).1 ?_
      show SA T1 m 224 #[vI p1, vI p2, vI p3, vI lv, vI 1, vI ev, vI y0_, vI y1_, vI y2_, vI y3_, vR sc, vR er, vR rr, vI ((lv + (22 : Int32)) + ((10 : Int32) + ev)), .unset] []
      refine XS.aload X1.here hx rfl (hb hby at_224) rfl rfl ?_
      show SA T1 m 226 #[vI p1, vI p2, vI p3, vI lv, vI 1, vI ev, vI y0_, vI y1_, vI y2_, vI y3_, vR sc, vR er, vR rr, vI ((lv + (22 : Int32)) + ((10 : Int32) + ev)), .unset] [iR rr]
      refine XS.iconst X1.here hx rfl (hb hby at_226) ?_
      show SA T1 m 227 #[vI p1, vI p2, vI p3, vI lv, vI 1, vI ev, vI y0_, vI y1_, vI y2_, vI y3_, vR sc, vR er, vR rr, vI ((lv + (22 : Int32)) + ((10 : Int32) + ev)), .unset] [iI 0, iR rr]
      refine st6.trans ?_
      show SA T6 m 230 #[vI p1, vI p2, vI p3, vI lv, vI 1, vI ev, vI y0_, vI y1_, vI y2_, vI y3_, vR sc, vR er, vR rr, vI ((lv + (22 : Int32)) + ((10 : Int32) + ev)), .unset] [iI y0_]
      refine XS.iload X6.here hx rfl (hb hby at_230) rfl ?_
      show SA T6 m 232 #[vI p1, vI p2, vI p3, vI lv, vI 1, vI ev, vI y0_, vI y1_, vI y2_, vI y3_, vR sc, vR er, vR rr, vI ((lv + (22 : Int32)) + ((10 : Int32) + ev)), .unset] [iI y0_, iI y0_]
      refine XS.icmpYes X6.here hx rfl (pc0 := 232) (pc' := 237) rfl (hb hby at_232) rfl (teq (rfl : y0_ = y0_)).1 (by decide) (by decide) ?_
      exact kt
  obtain ⟨T7, X7, e7, st7⟩ : own_Mid X4 hT (mkF m 239 #[vI p1, vI p2, vI p3, vI lv, vI 1, vI ev, vI y0_, vI y1_, vI y2_, vI y3_, vR sc, vR er, vR rr, vI ((lv + (22 : Int32)) + ((10 : Int32) + ev)), .unset] [iI 2, iI lv]) (mkF m 255 #[vI p1, vI p2, vI p3, vI lv, vI 1, vI ev, vI y0_, vI y1_, vI y2_, vI y3_, vR sc, vR er, vR rr, vI ((lv + (22 : Int32)) + ((10 : Int32) + ev)), .unset] []) := by
    by_cases hc8 : lv < (2 : Int32)
    · refine ⟨T4, X4, e4, fun t kt => ?_⟩
      show SA T4 m 239 #[vI p1, vI p2, vI p3, vI lv, vI 1, vI ev, vI y0_, vI y1_, vI y2_, vI y3_, vR sc, vR er, vR rr, vI ((lv + (22 : Int32)) + ((10 : Int32) + ev)), .unset] [iI 2, iI lv]
      refine XS.icmpYes X4.here hx rfl (pc0 := 239) (pc' := 255) rfl (hb hby at_239) rfl (tlt hc8).1 (by decide) (by decide) ?_
      exact kt
    · obtain ⟨cq9, kq9, q9a, q9b, q9c⟩ := isOf hZ e4 E_rr
      obtain ⟨_, _, ⟨T9, L9, k9, n9⟩, -, X9, ⟨Lc9, hQ9, l9, y9, z9⟩, st9⟩ := X4.virtualBack hx (y := mn_27) (z := mn_27) hown (mvT hZ (ww hw 154 rfl)) (mvT hZ (ww hw 155 rfl)) (notFace_of_selects (args := #[]) (mvT hZ (ww hw 157 rfl))) (mvT hZ (ww hw 157 rfl)) (mvT hZ (ww hw 156 rfl)) (by decide) (backOf (W := 0) (rm29_v l Z a0 hw [] rr (1 : Int32) d kd z B y1_ cs fm hT n0 Oh2 E_rr Fc_rr Fv_rr V_d hz hB (q245 hc8).1 (q245 hc8).2.1 (q245 hc8).2.2 S_CS h_cs S_F h_fm) hZ (ww hw 158 rfl) (ww hw 1 rfl) (by decide) (by decide)) q9a q9c (g := (mkF m 245 #[vI p1, vI p2, vI p3, vI lv, vI 1, vI ev, vI y0_, vI y1_, vI y2_, vI y3_, vR sc, vR er, vR rr, vI ((lv + (22 : Int32)) + ((10 : Int32) + ev)), .unset] [iI 1, iR rr])) rfl (by rw [hml]; rfl) (Steps.refl _) (argsL := [(.int (1 : Int32))]) (rest := []) (lenOf pd_22 rfl) rfl (wz rfl) (hb hby at_245) (fun _ _ => ⟨rfl, e4, (by decide : 27 + 0 ≤ _), (by decide : 562 + 0 ≤ _)⟩)
      dsimp only [Pt.U, Pt.locs, Pt.cells, Pt.slots] at X9 l9 y9 z9 st9 hQ9
      subst l9 y9 z9
      obtain ⟨rfl, rfl, e9⟩ := hQ9
      try rw [List.append_nil] at X9
      refine ⟨T9, X9, e9, fun t kt => ?_⟩
      show SA T4 m 239 #[vI p1, vI p2, vI p3, vI lv, vI 1, vI ev, vI y0_, vI y1_, vI y2_, vI y3_, vR sc, vR er, vR rr, vI ((lv + (22 : Int32)) + ((10 : Int32) + ev)), .unset] [iI 2, iI lv]
      refine XS.icmpNo X4.here hx rfl (hb hby at_239) rfl (flt hc8).1 ?_
      show SA T4 m 242 #[vI p1, vI p2, vI p3, vI lv, vI 1, vI ev, vI y0_, vI y1_, vI y2_, vI y3_, vR sc, vR er, vR rr, vI ((lv + (22 : Int32)) + ((10 : Int32) + ev)), .unset] []
      refine XS.aload X4.here hx rfl (hb hby at_242) rfl rfl ?_
      show SA T4 m 244 #[vI p1, vI p2, vI p3, vI lv, vI 1, vI ev, vI y0_, vI y1_, vI y2_, vI y3_, vR sc, vR er, vR rr, vI ((lv + (22 : Int32)) + ((10 : Int32) + ev)), .unset] [iR rr]
      refine XS.iconst X4.here hx rfl (hb hby at_244) ?_
      show SA T4 m 245 #[vI p1, vI p2, vI p3, vI lv, vI 1, vI ev, vI y0_, vI y1_, vI y2_, vI y3_, vR sc, vR er, vR rr, vI ((lv + (22 : Int32)) + ((10 : Int32) + ev)), .unset] [iI 1, iR rr]
      refine st9.trans ?_
      show SA T9 m 248 #[vI p1, vI p2, vI p3, vI lv, vI 1, vI ev, vI y0_, vI y1_, vI y2_, vI y3_, vR sc, vR er, vR rr, vI ((lv + (22 : Int32)) + ((10 : Int32) + ev)), .unset] [iI y1_]
      refine XS.iload X9.here hx rfl (hb hby at_248) rfl ?_
      show SA T9 m 250 #[vI p1, vI p2, vI p3, vI lv, vI 1, vI ev, vI y0_, vI y1_, vI y2_, vI y3_, vR sc, vR er, vR rr, vI ((lv + (22 : Int32)) + ((10 : Int32) + ev)), .unset] [iI y1_, iI y1_]
      refine XS.icmpYes X9.here hx rfl (pc0 := 250) (pc' := 255) rfl (hb hby at_250) rfl (teq (rfl : y1_ = y1_)).1 (by decide) (by decide) ?_
      exact kt
  obtain ⟨_, _, ⟨T10, L10, k10, n10⟩, -, X10, ⟨Lc10, hQ10, l10, y10, z10⟩, st10⟩ := Jvm.LawKit.callS X7 hx (y := mn_34) hown (mvT hZ (ww hw 150 rfl)) (mvT hZ (ww hw 151 rfl)) (mvT hZ (ww hw 152 rfl)) (mvT hZ (ww hw 153 rfl)) (by decide) (backOf (W := 0) (rm28 l Z a0 hw [] rr lv d kd z B cs fm hT n0 Oh2 E_rr Fc_rr Fv_rr V_d hz hB hRk hRe S_CS h_cs S_F h_fm) hZ (ww hw 153 rfl) (ww hw 152 rfl) (by decide) (by decide)) (g := (mkF m 258 #[vI p1, vI p2, vI p3, vI lv, vI 1, vI ev, vI y0_, vI y1_, vI y2_, vI y3_, vR sc, vR er, vR rr, vI ((lv + (22 : Int32)) + ((10 : Int32) + ev)), .unset] [iI lv, iR rr])) rfl (by rw [hml]; rfl) (argsL := [(.ref rr), (.int lv)]) (rest := []) (lenOf pd_33 rfl) rfl (wz rfl) (hb hby at_258) (fun _ _ => ⟨rfl, e7, (by decide : 27 + 0 ≤ _), (by decide : 562 + 0 ≤ _)⟩)
  dsimp only [Pt.U, Pt.locs, Pt.cells, Pt.slots] at X10 l10 y10 z10 st10 hQ10
  subst l10 y10 z10
  obtain ⟨rfl, rfl, e10⟩ := hQ10
  try rw [List.append_nil] at X10
  obtain ⟨_, _, ⟨T11, L11, k11, n11⟩, -, X11, ⟨Lc11, hQ11, l11, y11, z11⟩, st11⟩ := Jvm.LawKit.callS X10 hx (y := mn_35) hown (mvT hZ (ww hw 190 rfl)) (mvT hZ (ww hw 191 rfl)) (mvT hZ (ww hw 152 rfl)) (mvT hZ (ww hw 192 rfl)) (by decide) (backOf (W := 0) (rm38 l Z a0 hw [] rr (lv + (22 : Int32)) d kd z B cs fm hT n0 Oh2 E_rr Fc_rr Fv_rr V_d hz hB hEk hEe S_CS h_cs S_F h_fm) hZ (ww hw 192 rfl) (ww hw 152 rfl) (by decide) (by decide)) (g := (mkF m 283 #[vI p1, vI p2, vI p3, vI lv, vI 1, vI ev, vI y0_, vI y1_, vI y2_, vI y3_, vR sc, vR er, vR rr, vI ((lv + (22 : Int32)) + ((10 : Int32) + ev)), vI (lv + (22 : Int32))] [iI (lv + (22 : Int32)), iR rr])) rfl (by rw [hml]; rfl) (argsL := [(.ref rr), (.int (lv + (22 : Int32)))]) (rest := []) (lenOf pd_33 rfl) rfl (wz rfl) (hb hby at_283) (fun _ _ => ⟨rfl, e10, (by decide : 27 + 0 ≤ _), (by decide : 562 + 0 ≤ _)⟩)
  dsimp only [Pt.U, Pt.locs, Pt.cells, Pt.slots] at X11 l11 y11 z11 st11 hQ11
  subst l11 y11 z11
  obtain ⟨rfl, rfl, e11⟩ := hQ11
  try rw [List.append_nil] at X11
  obtain ⟨T12, X12, e12, st12⟩ : own_Mid X11 hT (mkF m 294 #[vI p1, vI p2, vI p3, vI lv, vI 1, vI ev, vI y0_, vI y1_, vI y2_, vI y3_, vR sc, vR er, vR rr, vI ((lv + (22 : Int32)) + ((10 : Int32) + ev)), vI (lv + (22 : Int32))] [iI 1, iI ev]) (mkF m 314 #[vI p1, vI p2, vI p3, vI lv, vI 1, vI ev, vI y0_, vI y1_, vI y2_, vI y3_, vR sc, vR er, vR rr, vI ((lv + (22 : Int32)) + ((10 : Int32) + ev)), vI (lv + (22 : Int32))] []) := by
    by_cases hc13 : ev < (1 : Int32)
    · refine ⟨T11, X11, e11, fun t kt => ?_⟩
      show SA T11 m 294 #[vI p1, vI p2, vI p3, vI lv, vI 1, vI ev, vI y0_, vI y1_, vI y2_, vI y3_, vR sc, vR er, vR rr, vI ((lv + (22 : Int32)) + ((10 : Int32) + ev)), vI (lv + (22 : Int32))] [iI 1, iI ev]
      refine XS.icmpYes X11.here hx rfl (pc0 := 294) (pc' := 314) rfl (hb hby at_294) rfl (tlt hc13).1 (by decide) (by decide) ?_
      exact kt
    · obtain ⟨cq14, kq14, q14a, q14b, q14c⟩ := isOf hZ e11 E_rr
      obtain ⟨_, _, ⟨T14, L14, k14, n14⟩, -, X14, ⟨Lc14, hQ14, l14, y14, z14⟩, st14⟩ := X11.virtualBack hx (y := mn_27) (z := mn_27) hown (mvT hZ (ww hw 154 rfl)) (mvT hZ (ww hw 155 rfl)) (notFace_of_selects (args := #[]) (mvT hZ (ww hw 157 rfl))) (mvT hZ (ww hw 157 rfl)) (mvT hZ (ww hw 156 rfl)) (by decide) (backOf (W := 0) (rm29_v l Z a0 hw [] rr ((lv + (22 : Int32)) + (9 : Int32)) d kd z B y2_ cs fm hT n0 Oh2 E_rr Fc_rr Fv_rr V_d hz hB (q304 hc13).1 (q304 hc13).2.1 (q304 hc13).2.2 S_CS h_cs S_F h_fm) hZ (ww hw 158 rfl) (ww hw 1 rfl) (by decide) (by decide)) q14a q14c (g := (mkF m 304 #[vI p1, vI p2, vI p3, vI lv, vI 1, vI ev, vI y0_, vI y1_, vI y2_, vI y3_, vR sc, vR er, vR rr, vI ((lv + (22 : Int32)) + ((10 : Int32) + ev)), vI (lv + (22 : Int32))] [iI ((lv + (22 : Int32)) + (9 : Int32)), iR rr])) rfl (by rw [hml]; rfl) (Steps.refl _) (argsL := [(.int ((lv + (22 : Int32)) + (9 : Int32)))]) (rest := []) (lenOf pd_22 rfl) rfl (wz rfl) (hb hby at_304) (fun _ _ => ⟨rfl, e11, (by decide : 27 + 0 ≤ _), (by decide : 562 + 0 ≤ _)⟩)
      dsimp only [Pt.U, Pt.locs, Pt.cells, Pt.slots] at X14 l14 y14 z14 st14 hQ14
      subst l14 y14 z14
      obtain ⟨rfl, rfl, e14⟩ := hQ14
      try rw [List.append_nil] at X14
      refine ⟨T14, X14, e14, fun t kt => ?_⟩
      show SA T11 m 294 #[vI p1, vI p2, vI p3, vI lv, vI 1, vI ev, vI y0_, vI y1_, vI y2_, vI y3_, vR sc, vR er, vR rr, vI ((lv + (22 : Int32)) + ((10 : Int32) + ev)), vI (lv + (22 : Int32))] [iI 1, iI ev]
      refine XS.icmpNo X11.here hx rfl (hb hby at_294) rfl (flt hc13).1 ?_
      show SA T11 m 297 #[vI p1, vI p2, vI p3, vI lv, vI 1, vI ev, vI y0_, vI y1_, vI y2_, vI y3_, vR sc, vR er, vR rr, vI ((lv + (22 : Int32)) + ((10 : Int32) + ev)), vI (lv + (22 : Int32))] []
      refine XS.aload X11.here hx rfl (hb hby at_297) rfl rfl ?_
      show SA T11 m 299 #[vI p1, vI p2, vI p3, vI lv, vI 1, vI ev, vI y0_, vI y1_, vI y2_, vI y3_, vR sc, vR er, vR rr, vI ((lv + (22 : Int32)) + ((10 : Int32) + ev)), vI (lv + (22 : Int32))] [iR rr]
      refine XS.iload X11.here hx rfl (hb hby at_299) rfl ?_
      show SA T11 m 301 #[vI p1, vI p2, vI p3, vI lv, vI 1, vI ev, vI y0_, vI y1_, vI y2_, vI y3_, vR sc, vR er, vR rr, vI ((lv + (22 : Int32)) + ((10 : Int32) + ev)), vI (lv + (22 : Int32))] [iI (lv + (22 : Int32)), iR rr]
      refine XS.bipush X11.here hx rfl (hb hby at_301) ?_
      show SA T11 m 303 #[vI p1, vI p2, vI p3, vI lv, vI 1, vI ev, vI y0_, vI y1_, vI y2_, vI y3_, vR sc, vR er, vR rr, vI ((lv + (22 : Int32)) + ((10 : Int32) + ev)), vI (lv + (22 : Int32))] [iI 9, iI (lv + (22 : Int32)), iR rr]
      refine XS.iadd X11.here hx rfl (hb hby at_303) rfl ?_
      show SA T11 m 304 #[vI p1, vI p2, vI p3, vI lv, vI 1, vI ev, vI y0_, vI y1_, vI y2_, vI y3_, vR sc, vR er, vR rr, vI ((lv + (22 : Int32)) + ((10 : Int32) + ev)), vI (lv + (22 : Int32))] [iI ((lv + (22 : Int32)) + (9 : Int32)), iR rr]
      refine st14.trans ?_
      show SA T14 m 307 #[vI p1, vI p2, vI p3, vI lv, vI 1, vI ev, vI y0_, vI y1_, vI y2_, vI y3_, vR sc, vR er, vR rr, vI ((lv + (22 : Int32)) + ((10 : Int32) + ev)), vI (lv + (22 : Int32))] [iI y2_]
      refine XS.iload X14.here hx rfl (hb hby at_307) rfl ?_
      show SA T14 m 309 #[vI p1, vI p2, vI p3, vI lv, vI 1, vI ev, vI y0_, vI y1_, vI y2_, vI y3_, vR sc, vR er, vR rr, vI ((lv + (22 : Int32)) + ((10 : Int32) + ev)), vI (lv + (22 : Int32))] [iI y2_, iI y2_]
      refine XS.icmpYes X14.here hx rfl (pc0 := 309) (pc' := 314) rfl (hb hby at_309) rfl (teq (rfl : y2_ = y2_)).1 (by decide) (by decide) ?_
      exact kt
  obtain ⟨T15, X15, e15, st15⟩ : own_Mid X12 hT (mkF m 317 #[vI p1, vI p2, vI p3, vI lv, vI 1, vI ev, vI y0_, vI y1_, vI y2_, vI y3_, vR sc, vR er, vR rr, vI ((lv + (22 : Int32)) + ((10 : Int32) + ev)), vI (lv + (22 : Int32))] [iI 2, iI ev]) (mkF m 337 #[vI p1, vI p2, vI p3, vI lv, vI 1, vI ev, vI y0_, vI y1_, vI y2_, vI y3_, vR sc, vR er, vR rr, vI ((lv + (22 : Int32)) + ((10 : Int32) + ev)), vI (lv + (22 : Int32))] []) := by
    by_cases hc16 : ev < (2 : Int32)
    · refine ⟨T12, X12, e12, fun t kt => ?_⟩
      show SA T12 m 317 #[vI p1, vI p2, vI p3, vI lv, vI 1, vI ev, vI y0_, vI y1_, vI y2_, vI y3_, vR sc, vR er, vR rr, vI ((lv + (22 : Int32)) + ((10 : Int32) + ev)), vI (lv + (22 : Int32))] [iI 2, iI ev]
      refine XS.icmpYes X12.here hx rfl (pc0 := 317) (pc' := 337) rfl (hb hby at_317) rfl (tlt hc16).1 (by decide) (by decide) ?_
      exact kt
    · obtain ⟨cq17, kq17, q17a, q17b, q17c⟩ := isOf hZ e12 E_rr
      obtain ⟨_, _, ⟨T17, L17, k17, n17⟩, -, X17, ⟨Lc17, hQ17, l17, y17, z17⟩, st17⟩ := X12.virtualBack hx (y := mn_27) (z := mn_27) hown (mvT hZ (ww hw 154 rfl)) (mvT hZ (ww hw 155 rfl)) (notFace_of_selects (args := #[]) (mvT hZ (ww hw 157 rfl))) (mvT hZ (ww hw 157 rfl)) (mvT hZ (ww hw 156 rfl)) (by decide) (backOf (W := 0) (rm29_v l Z a0 hw [] rr ((lv + (22 : Int32)) + (10 : Int32)) d kd z B y3_ cs fm hT n0 Oh2 E_rr Fc_rr Fv_rr V_d hz hB (q327 hc16).1 (q327 hc16).2.1 (q327 hc16).2.2 S_CS h_cs S_F h_fm) hZ (ww hw 158 rfl) (ww hw 1 rfl) (by decide) (by decide)) q17a q17c (g := (mkF m 327 #[vI p1, vI p2, vI p3, vI lv, vI 1, vI ev, vI y0_, vI y1_, vI y2_, vI y3_, vR sc, vR er, vR rr, vI ((lv + (22 : Int32)) + ((10 : Int32) + ev)), vI (lv + (22 : Int32))] [iI ((lv + (22 : Int32)) + (10 : Int32)), iR rr])) rfl (by rw [hml]; rfl) (Steps.refl _) (argsL := [(.int ((lv + (22 : Int32)) + (10 : Int32)))]) (rest := []) (lenOf pd_22 rfl) rfl (wz rfl) (hb hby at_327) (fun _ _ => ⟨rfl, e12, (by decide : 27 + 0 ≤ _), (by decide : 562 + 0 ≤ _)⟩)
      dsimp only [Pt.U, Pt.locs, Pt.cells, Pt.slots] at X17 l17 y17 z17 st17 hQ17
      subst l17 y17 z17
      obtain ⟨rfl, rfl, e17⟩ := hQ17
      try rw [List.append_nil] at X17
      refine ⟨T17, X17, e17, fun t kt => ?_⟩
      show SA T12 m 317 #[vI p1, vI p2, vI p3, vI lv, vI 1, vI ev, vI y0_, vI y1_, vI y2_, vI y3_, vR sc, vR er, vR rr, vI ((lv + (22 : Int32)) + ((10 : Int32) + ev)), vI (lv + (22 : Int32))] [iI 2, iI ev]
      refine XS.icmpNo X12.here hx rfl (hb hby at_317) rfl (flt hc16).1 ?_
      show SA T12 m 320 #[vI p1, vI p2, vI p3, vI lv, vI 1, vI ev, vI y0_, vI y1_, vI y2_, vI y3_, vR sc, vR er, vR rr, vI ((lv + (22 : Int32)) + ((10 : Int32) + ev)), vI (lv + (22 : Int32))] []
      refine XS.aload X12.here hx rfl (hb hby at_320) rfl rfl ?_
      show SA T12 m 322 #[vI p1, vI p2, vI p3, vI lv, vI 1, vI ev, vI y0_, vI y1_, vI y2_, vI y3_, vR sc, vR er, vR rr, vI ((lv + (22 : Int32)) + ((10 : Int32) + ev)), vI (lv + (22 : Int32))] [iR rr]
      refine XS.iload X12.here hx rfl (hb hby at_322) rfl ?_
      show SA T12 m 324 #[vI p1, vI p2, vI p3, vI lv, vI 1, vI ev, vI y0_, vI y1_, vI y2_, vI y3_, vR sc, vR er, vR rr, vI ((lv + (22 : Int32)) + ((10 : Int32) + ev)), vI (lv + (22 : Int32))] [iI (lv + (22 : Int32)), iR rr]
      refine XS.bipush X12.here hx rfl (hb hby at_324) ?_
      show SA T12 m 326 #[vI p1, vI p2, vI p3, vI lv, vI 1, vI ev, vI y0_, vI y1_, vI y2_, vI y3_, vR sc, vR er, vR rr, vI ((lv + (22 : Int32)) + ((10 : Int32) + ev)), vI (lv + (22 : Int32))] [iI 10, iI (lv + (22 : Int32)), iR rr]
      refine XS.iadd X12.here hx rfl (hb hby at_326) rfl ?_
      show SA T12 m 327 #[vI p1, vI p2, vI p3, vI lv, vI 1, vI ev, vI y0_, vI y1_, vI y2_, vI y3_, vR sc, vR er, vR rr, vI ((lv + (22 : Int32)) + ((10 : Int32) + ev)), vI (lv + (22 : Int32))] [iI ((lv + (22 : Int32)) + (10 : Int32)), iR rr]
      refine st17.trans ?_
      show SA T17 m 330 #[vI p1, vI p2, vI p3, vI lv, vI 1, vI ev, vI y0_, vI y1_, vI y2_, vI y3_, vR sc, vR er, vR rr, vI ((lv + (22 : Int32)) + ((10 : Int32) + ev)), vI (lv + (22 : Int32))] [iI y3_]
      refine XS.iload X17.here hx rfl (hb hby at_330) rfl ?_
      show SA T17 m 332 #[vI p1, vI p2, vI p3, vI lv, vI 1, vI ev, vI y0_, vI y1_, vI y2_, vI y3_, vR sc, vR er, vR rr, vI ((lv + (22 : Int32)) + ((10 : Int32) + ev)), vI (lv + (22 : Int32))] [iI y3_, iI y3_]
      refine XS.icmpYes X17.here hx rfl (pc0 := 332) (pc' := 337) rfl (hb hby at_332) rfl (teq (rfl : y3_ = y3_)).1 (by decide) (by decide) ?_
      exact kt
  obtain ⟨cq18, kq18, q18a, q18b, q18c⟩ := isOf hZ e15 E_rr
  obtain ⟨_, _, ⟨T18, L18, k18, n18⟩, -, X18, ⟨Lc18, hQ18, l18, y18, z18⟩, st18⟩ := X15.virtualBack hx (y := mn_27) (z := mn_27) hown (mvT hZ (ww hw 154 rfl)) (mvT hZ (ww hw 155 rfl)) (notFace_of_selects (args := #[]) (mvT hZ (ww hw 157 rfl))) (mvT hZ (ww hw 157 rfl)) (mvT hZ (ww hw 156 rfl)) (by decide) (backOf (W := 0) (rm29_v l Z a0 hw [] rr (((lv + (22 : Int32)) + (9 : Int32)) + ev) d kd z B (34 : Int32) cs fm hT n0 Oh2 E_rr Fc_rr Fv_rr V_d hz hB q347.1 q347.2.1 q347.2.2 S_CS h_cs S_F h_fm) hZ (ww hw 158 rfl) (ww hw 1 rfl) (by decide) (by decide)) q18a q18c (g := (mkF m 347 #[vI p1, vI p2, vI p3, vI lv, vI 1, vI ev, vI y0_, vI y1_, vI y2_, vI y3_, vR sc, vR er, vR rr, vI ((lv + (22 : Int32)) + ((10 : Int32) + ev)), vI (lv + (22 : Int32))] [iI (((lv + (22 : Int32)) + (9 : Int32)) + ev), iR rr])) rfl (by rw [hml]; rfl) (Steps.refl _) (argsL := [(.int (((lv + (22 : Int32)) + (9 : Int32)) + ev))]) (rest := []) (lenOf pd_22 rfl) rfl (wz rfl) (hb hby at_347) (fun _ _ => ⟨rfl, e15, (by decide : 27 + 0 ≤ _), (by decide : 562 + 0 ≤ _)⟩)
  dsimp only [Pt.U, Pt.locs, Pt.cells, Pt.slots] at X18 l18 y18 z18 st18 hQ18
  subst l18 y18 z18
  obtain ⟨rfl, rfl, e18⟩ := hQ18
  try rw [List.append_nil] at X18
  obtain ⟨fs, hr, hrun, hended, hEnd⟩ := X18.leaveW hS0 (by rw [e18]; exact hk0) (v := some (.int (1 : Int32))) (fun h => by rw [hret] at h; cases h)
  refine ⟨_, _, ?_, hrun, hended, _, _, rfl, ?_, ⟨hEnd.1, hEnd.2.1, hEnd.2.2.1, hEnd.2.2.2.mono (by decide) (by decide)⟩⟩
  · show SA T0 m 181 #[vI p1, vI p2, vI p3, vI lv, vI 1, vI ev, vI y0_, vI y1_, vI y2_, vI y3_, vR sc, vR er, vR rr, .unset, .unset] []
    refine XS.iloadN X0.here hx rfl (hb hby at_181) rfl ?_
    show SA T0 m 182 #[vI p1, vI p2, vI p3, vI lv, vI 1, vI ev, vI y0_, vI y1_, vI y2_, vI y3_, vR sc, vR er, vR rr, .unset, .unset] [iI lv]
    refine XS.bipush X0.here hx rfl (hb hby at_182) ?_
    show SA T0 m 184 #[vI p1, vI p2, vI p3, vI lv, vI 1, vI ev, vI y0_, vI y1_, vI y2_, vI y3_, vR sc, vR er, vR rr, .unset, .unset] [iI 22, iI lv]
    refine XS.iadd X0.here hx rfl (hb hby at_184) rfl ?_
    show SA T0 m 185 #[vI p1, vI p2, vI p3, vI lv, vI 1, vI ev, vI y0_, vI y1_, vI y2_, vI y3_, vR sc, vR er, vR rr, .unset, .unset] [iI (lv + (22 : Int32))]
    refine XS.iload X0.here hx rfl (hb hby at_185) rfl ?_
    show SA T0 m 187 #[vI p1, vI p2, vI p3, vI lv, vI 1, vI ev, vI y0_, vI y1_, vI y2_, vI y3_, vR sc, vR er, vR rr, .unset, .unset] [iI 1, iI (lv + (22 : Int32))]
    refine XS.ifNo X0.here hx rfl (hb hby at_187) rfl ((if0 _ _).trans (feq (by decide : ¬ ((1 : Int32) = (0 : Int32)))).1) ?_
    show SA T0 m 190 #[vI p1, vI p2, vI p3, vI lv, vI 1, vI ev, vI y0_, vI y1_, vI y2_, vI y3_, vR sc, vR er, vR rr, .unset, .unset] [iI (lv + (22 : Int32))]
    refine XS.bipush X0.here hx rfl (hb hby at_190) ?_
    show SA T0 m 192 #[vI p1, vI p2, vI p3, vI lv, vI 1, vI ev, vI y0_, vI y1_, vI y2_, vI y3_, vR sc, vR er, vR rr, .unset, .unset] [iI 10, iI (lv + (22 : Int32))]
    refine XS.iload X0.here hx rfl (hb hby at_192) rfl ?_
    show SA T0 m 194 #[vI p1, vI p2, vI p3, vI lv, vI 1, vI ev, vI y0_, vI y1_, vI y2_, vI y3_, vR sc, vR er, vR rr, .unset, .unset] [iI ev, iI 10, iI (lv + (22 : Int32))]
    refine XS.iadd X0.here hx rfl (hb hby at_194) rfl ?_
    show SA T0 m 195 #[vI p1, vI p2, vI p3, vI lv, vI 1, vI ev, vI y0_, vI y1_, vI y2_, vI y3_, vR sc, vR er, vR rr, .unset, .unset] [iI ((10 : Int32) + ev), iI (lv + (22 : Int32))]
    refine XS.goto X0.here hx rfl (pc0 := 195) (pc' := 199) rfl (hb hby at_195) (by decide) (by decide) ?_
    show SA T0 m 199 #[vI p1, vI p2, vI p3, vI lv, vI 1, vI ev, vI y0_, vI y1_, vI y2_, vI y3_, vR sc, vR er, vR rr, .unset, .unset] [iI ((10 : Int32) + ev), iI (lv + (22 : Int32))]
    refine XS.iadd X0.here hx rfl (hb hby at_199) rfl ?_
    show SA T0 m 200 #[vI p1, vI p2, vI p3, vI lv, vI 1, vI ev, vI y0_, vI y1_, vI y2_, vI y3_, vR sc, vR er, vR rr, .unset, .unset] [iI ((lv + (22 : Int32)) + ((10 : Int32) + ev))]
    refine XS.istore X0.here hx rfl (hb hby at_200) rfl (l' := #[vI p1, vI p2, vI p3, vI lv, vI 1, vI ev, vI y0_, vI y1_, vI y2_, vI y3_, vR sc, vR er, vR rr, vI ((lv + (22 : Int32)) + ((10 : Int32) + ev)), .unset]) rfl ?_
    show SA T0 m 202 #[vI p1, vI p2, vI p3, vI lv, vI 1, vI ev, vI y0_, vI y1_, vI y2_, vI y3_, vR sc, vR er, vR rr, vI ((lv + (22 : Int32)) + ((10 : Int32) + ev)), .unset] []
    refine XS.aload X0.here hx rfl (hb hby at_202) rfl rfl ?_
    show SA T0 m 204 #[vI p1, vI p2, vI p3, vI lv, vI 1, vI ev, vI y0_, vI y1_, vI y2_, vI y3_, vR sc, vR er, vR rr, vI ((lv + (22 : Int32)) + ((10 : Int32) + ev)), .unset] [iR rr]
    refine XS.ifnullNo X0.here hx rfl (hb hby at_204) rfl ?_
    show SA T0 m 207 #[vI p1, vI p2, vI p3, vI lv, vI 1, vI ev, vI y0_, vI y1_, vI y2_, vI y3_, vR sc, vR er, vR rr, vI ((lv + (22 : Int32)) + ((10 : Int32) + ev)), .unset] []
    refine XS.aload X0.here hx rfl (hb hby at_207) rfl rfl ?_
    show SA T0 m 209 #[vI p1, vI p2, vI p3, vI lv, vI 1, vI ev, vI y0_, vI y1_, vI y2_, vI y3_, vR sc, vR er, vR rr, vI ((lv + (22 : Int32)) + ((10 : Int32) + ev)), .unset] [iR rr]
    refine st1.trans ?_
    show SA T1 m 212 #[vI p1, vI p2, vI p3, vI lv, vI 1, vI ev, vI y0_, vI y1_, vI y2_, vI y3_, vR sc, vR er, vR rr, vI ((lv + (22 : Int32)) + ((10 : Int32) + ev)), .unset] [iI z]
    refine XS.iload X1.here hx rfl (hb hby at_212) rfl ?_
    show SA T1 m 214 #[vI p1, vI p2, vI p3, vI lv, vI 1, vI ev, vI y0_, vI y1_, vI y2_, vI y3_, vR sc, vR er, vR rr, vI ((lv + (22 : Int32)) + ((10 : Int32) + ev)), .unset] [iI ((lv + (22 : Int32)) + ((10 : Int32) + ev)), iI z]
    refine XS.icmpYes X1.here hx rfl (pc0 := 214) (pc' := 219) rfl (hb hby at_214) rfl (teq hh3).1 (by decide) (by decide) ?_
    show SA T1 m 219 #[vI p1, vI p2, vI p3, vI lv, vI 1, vI ev, vI y0_, vI y1_, vI y2_, vI y3_, vR sc, vR er, vR rr, vI ((lv + (22 : Int32)) + ((10 : Int32) + ev)), .unset] []
    refine XS.iloadN X1.here hx rfl (hb hby at_219) rfl ?_
    show SA T1 m 220 #[vI p1, vI p2, vI p3, vI lv, vI 1, vI ev, vI y0_, vI y1_, vI y2_, vI y3_, vR sc, vR er, vR rr, vI ((lv + (22 : Int32)) + ((10 : Int32) + ev)), .unset] [iI lv]
    refine XS.iconst X1.here hx rfl (hb hby at_220) ?_
    show SA T1 m 221 #[vI p1, vI p2, vI p3, vI lv, vI 1, vI ev, vI y0_, vI y1_, vI y2_, vI y3_, vR sc, vR er, vR rr, vI ((lv + (22 : Int32)) + ((10 : Int32) + ev)), .unset] [iI 1, iI lv]
    refine st4 _ ?_
    show SA T4 m 237 #[vI p1, vI p2, vI p3, vI lv, vI 1, vI ev, vI y0_, vI y1_, vI y2_, vI y3_, vR sc, vR er, vR rr, vI ((lv + (22 : Int32)) + ((10 : Int32) + ev)), .unset] []
    refine XS.iloadN X4.here hx rfl (hb hby at_237) rfl ?_
    show SA T4 m 238 #[vI p1, vI p2, vI p3, vI lv, vI 1, vI ev, vI y0_, vI y1_, vI y2_, vI y3_, vR sc, vR er, vR rr, vI ((lv + (22 : Int32)) + ((10 : Int32) + ev)), .unset] [iI lv]
    refine XS.iconst X4.here hx rfl (hb hby at_238) ?_
    show SA T4 m 239 #[vI p1, vI p2, vI p3, vI lv, vI 1, vI ev, vI y0_, vI y1_, vI y2_, vI y3_, vR sc, vR er, vR rr, vI ((lv + (22 : Int32)) + ((10 : Int32) + ev)), .unset] [iI 2, iI lv]
    refine st7 _ ?_
    show SA T7 m 255 #[vI p1, vI p2, vI p3, vI lv, vI 1, vI ev, vI y0_, vI y1_, vI y2_, vI y3_, vR sc, vR er, vR rr, vI ((lv + (22 : Int32)) + ((10 : Int32) + ev)), .unset] []
    refine XS.aload X7.here hx rfl (hb hby at_255) rfl rfl ?_
    show SA T7 m 257 #[vI p1, vI p2, vI p3, vI lv, vI 1, vI ev, vI y0_, vI y1_, vI y2_, vI y3_, vR sc, vR er, vR rr, vI ((lv + (22 : Int32)) + ((10 : Int32) + ev)), .unset] [iR rr]
    refine XS.iloadN X7.here hx rfl (hb hby at_257) rfl ?_
    show SA T7 m 258 #[vI p1, vI p2, vI p3, vI lv, vI 1, vI ev, vI y0_, vI y1_, vI y2_, vI y3_, vR sc, vR er, vR rr, vI ((lv + (22 : Int32)) + ((10 : Int32) + ev)), .unset] [iI lv, iR rr]
    refine st10 _ ?_
    show SA T10 m 261 #[vI p1, vI p2, vI p3, vI lv, vI 1, vI ev, vI y0_, vI y1_, vI y2_, vI y3_, vR sc, vR er, vR rr, vI ((lv + (22 : Int32)) + ((10 : Int32) + ev)), .unset] [iI 1]
    refine XS.ifYes X10.here hx rfl (pc0 := 261) (pc' := 266) rfl (hb hby at_261) rfl ((if0 _ _).trans (feq (by decide : ¬ ((1 : Int32) = (0 : Int32)))).2) (by decide) (by decide) ?_
    show SA T10 m 266 #[vI p1, vI p2, vI p3, vI lv, vI 1, vI ev, vI y0_, vI y1_, vI y2_, vI y3_, vR sc, vR er, vR rr, vI ((lv + (22 : Int32)) + ((10 : Int32) + ev)), .unset] []
    refine XS.iload X10.here hx rfl (hb hby at_266) rfl ?_
    show SA T10 m 268 #[vI p1, vI p2, vI p3, vI lv, vI 1, vI ev, vI y0_, vI y1_, vI y2_, vI y3_, vR sc, vR er, vR rr, vI ((lv + (22 : Int32)) + ((10 : Int32) + ev)), .unset] [iI 1]
    refine XS.ifYes X10.here hx rfl (pc0 := 268) (pc' := 273) rfl (hb hby at_268) rfl ((if0 _ _).trans (feq (by decide : ¬ ((1 : Int32) = (0 : Int32)))).2) (by decide) (by decide) ?_
    show SA T10 m 273 #[vI p1, vI p2, vI p3, vI lv, vI 1, vI ev, vI y0_, vI y1_, vI y2_, vI y3_, vR sc, vR er, vR rr, vI ((lv + (22 : Int32)) + ((10 : Int32) + ev)), .unset] []
    refine XS.iloadN X10.here hx rfl (hb hby at_273) rfl ?_
    show SA T10 m 274 #[vI p1, vI p2, vI p3, vI lv, vI 1, vI ev, vI y0_, vI y1_, vI y2_, vI y3_, vR sc, vR er, vR rr, vI ((lv + (22 : Int32)) + ((10 : Int32) + ev)), .unset] [iI lv]
    refine XS.bipush X10.here hx rfl (hb hby at_274) ?_
    show SA T10 m 276 #[vI p1, vI p2, vI p3, vI lv, vI 1, vI ev, vI y0_, vI y1_, vI y2_, vI y3_, vR sc, vR er, vR rr, vI ((lv + (22 : Int32)) + ((10 : Int32) + ev)), .unset] [iI 22, iI lv]
    refine XS.iadd X10.here hx rfl (hb hby at_276) rfl ?_
    show SA T10 m 277 #[vI p1, vI p2, vI p3, vI lv, vI 1, vI ev, vI y0_, vI y1_, vI y2_, vI y3_, vR sc, vR er, vR rr, vI ((lv + (22 : Int32)) + ((10 : Int32) + ev)), .unset] [iI (lv + (22 : Int32))]
    refine XS.istore X10.here hx rfl (hb hby at_277) rfl (l' := #[vI p1, vI p2, vI p3, vI lv, vI 1, vI ev, vI y0_, vI y1_, vI y2_, vI y3_, vR sc, vR er, vR rr, vI ((lv + (22 : Int32)) + ((10 : Int32) + ev)), vI (lv + (22 : Int32))]) rfl ?_
    show SA T10 m 279 #[vI p1, vI p2, vI p3, vI lv, vI 1, vI ev, vI y0_, vI y1_, vI y2_, vI y3_, vR sc, vR er, vR rr, vI ((lv + (22 : Int32)) + ((10 : Int32) + ev)), vI (lv + (22 : Int32))] []
    refine XS.aload X10.here hx rfl (hb hby at_279) rfl rfl ?_
    show SA T10 m 281 #[vI p1, vI p2, vI p3, vI lv, vI 1, vI ev, vI y0_, vI y1_, vI y2_, vI y3_, vR sc, vR er, vR rr, vI ((lv + (22 : Int32)) + ((10 : Int32) + ev)), vI (lv + (22 : Int32))] [iR rr]
    refine XS.iload X10.here hx rfl (hb hby at_281) rfl ?_
    show SA T10 m 283 #[vI p1, vI p2, vI p3, vI lv, vI 1, vI ev, vI y0_, vI y1_, vI y2_, vI y3_, vR sc, vR er, vR rr, vI ((lv + (22 : Int32)) + ((10 : Int32) + ev)), vI (lv + (22 : Int32))] [iI (lv + (22 : Int32)), iR rr]
    refine st11 _ ?_
    show SA T11 m 286 #[vI p1, vI p2, vI p3, vI lv, vI 1, vI ev, vI y0_, vI y1_, vI y2_, vI y3_, vR sc, vR er, vR rr, vI ((lv + (22 : Int32)) + ((10 : Int32) + ev)), vI (lv + (22 : Int32))] [iI 1]
    refine XS.ifYes X11.here hx rfl (pc0 := 286) (pc' := 291) rfl (hb hby at_286) rfl ((if0 _ _).trans (feq (by decide : ¬ ((1 : Int32) = (0 : Int32)))).2) (by decide) (by decide) ?_
    show SA T11 m 291 #[vI p1, vI p2, vI p3, vI lv, vI 1, vI ev, vI y0_, vI y1_, vI y2_, vI y3_, vR sc, vR er, vR rr, vI ((lv + (22 : Int32)) + ((10 : Int32) + ev)), vI (lv + (22 : Int32))] []
    refine XS.iload X11.here hx rfl (hb hby at_291) rfl ?_
    show SA T11 m 293 #[vI p1, vI p2, vI p3, vI lv, vI 1, vI ev, vI y0_, vI y1_, vI y2_, vI y3_, vR sc, vR er, vR rr, vI ((lv + (22 : Int32)) + ((10 : Int32) + ev)), vI (lv + (22 : Int32))] [iI ev]
    refine XS.iconst X11.here hx rfl (hb hby at_293) ?_
    show SA T11 m 294 #[vI p1, vI p2, vI p3, vI lv, vI 1, vI ev, vI y0_, vI y1_, vI y2_, vI y3_, vR sc, vR er, vR rr, vI ((lv + (22 : Int32)) + ((10 : Int32) + ev)), vI (lv + (22 : Int32))] [iI 1, iI ev]
    refine st12 _ ?_
    show SA T12 m 314 #[vI p1, vI p2, vI p3, vI lv, vI 1, vI ev, vI y0_, vI y1_, vI y2_, vI y3_, vR sc, vR er, vR rr, vI ((lv + (22 : Int32)) + ((10 : Int32) + ev)), vI (lv + (22 : Int32))] []
    refine XS.iload X12.here hx rfl (hb hby at_314) rfl ?_
    show SA T12 m 316 #[vI p1, vI p2, vI p3, vI lv, vI 1, vI ev, vI y0_, vI y1_, vI y2_, vI y3_, vR sc, vR er, vR rr, vI ((lv + (22 : Int32)) + ((10 : Int32) + ev)), vI (lv + (22 : Int32))] [iI ev]
    refine XS.iconst X12.here hx rfl (hb hby at_316) ?_
    show SA T12 m 317 #[vI p1, vI p2, vI p3, vI lv, vI 1, vI ev, vI y0_, vI y1_, vI y2_, vI y3_, vR sc, vR er, vR rr, vI ((lv + (22 : Int32)) + ((10 : Int32) + ev)), vI (lv + (22 : Int32))] [iI 2, iI ev]
    refine st15 _ ?_
    show SA T15 m 337 #[vI p1, vI p2, vI p3, vI lv, vI 1, vI ev, vI y0_, vI y1_, vI y2_, vI y3_, vR sc, vR er, vR rr, vI ((lv + (22 : Int32)) + ((10 : Int32) + ev)), vI (lv + (22 : Int32))] []
    refine XS.aload X15.here hx rfl (hb hby at_337) rfl rfl ?_
    show SA T15 m 339 #[vI p1, vI p2, vI p3, vI lv, vI 1, vI ev, vI y0_, vI y1_, vI y2_, vI y3_, vR sc, vR er, vR rr, vI ((lv + (22 : Int32)) + ((10 : Int32) + ev)), vI (lv + (22 : Int32))] [iR rr]
    refine XS.iload X15.here hx rfl (hb hby at_339) rfl ?_
    show SA T15 m 341 #[vI p1, vI p2, vI p3, vI lv, vI 1, vI ev, vI y0_, vI y1_, vI y2_, vI y3_, vR sc, vR er, vR rr, vI ((lv + (22 : Int32)) + ((10 : Int32) + ev)), vI (lv + (22 : Int32))] [iI (lv + (22 : Int32)), iR rr]
    refine XS.bipush X15.here hx rfl (hb hby at_341) ?_
    show SA T15 m 343 #[vI p1, vI p2, vI p3, vI lv, vI 1, vI ev, vI y0_, vI y1_, vI y2_, vI y3_, vR sc, vR er, vR rr, vI ((lv + (22 : Int32)) + ((10 : Int32) + ev)), vI (lv + (22 : Int32))] [iI 9, iI (lv + (22 : Int32)), iR rr]
    refine XS.iadd X15.here hx rfl (hb hby at_343) rfl ?_
    show SA T15 m 344 #[vI p1, vI p2, vI p3, vI lv, vI 1, vI ev, vI y0_, vI y1_, vI y2_, vI y3_, vR sc, vR er, vR rr, vI ((lv + (22 : Int32)) + ((10 : Int32) + ev)), vI (lv + (22 : Int32))] [iI ((lv + (22 : Int32)) + (9 : Int32)), iR rr]
    refine XS.iload X15.here hx rfl (hb hby at_344) rfl ?_
    show SA T15 m 346 #[vI p1, vI p2, vI p3, vI lv, vI 1, vI ev, vI y0_, vI y1_, vI y2_, vI y3_, vR sc, vR er, vR rr, vI ((lv + (22 : Int32)) + ((10 : Int32) + ev)), vI (lv + (22 : Int32))] [iI ev, iI ((lv + (22 : Int32)) + (9 : Int32)), iR rr]
    refine XS.iadd X15.here hx rfl (hb hby at_346) rfl ?_
    show SA T15 m 347 #[vI p1, vI p2, vI p3, vI lv, vI 1, vI ev, vI y0_, vI y1_, vI y2_, vI y3_, vR sc, vR er, vR rr, vI ((lv + (22 : Int32)) + ((10 : Int32) + ev)), vI (lv + (22 : Int32))] [iI (((lv + (22 : Int32)) + (9 : Int32)) + ev), iR rr]
    refine st18.trans ?_
    show SA T18 m 350 #[vI p1, vI p2, vI p3, vI lv, vI 1, vI ev, vI y0_, vI y1_, vI y2_, vI y3_, vR sc, vR er, vR rr, vI ((lv + (22 : Int32)) + ((10 : Int32) + ev)), vI (lv + (22 : Int32))] [iI 34]
    refine XS.bipush X18.here hx rfl (hb hby at_350) ?_
    show SA T18 m 352 #[vI p1, vI p2, vI p3, vI lv, vI 1, vI ev, vI y0_, vI y1_, vI y2_, vI y3_, vR sc, vR er, vR rr, vI ((lv + (22 : Int32)) + ((10 : Int32) + ev)), vI (lv + (22 : Int32))] [iI 34, iI 34]
    refine XS.icmpNo X18.here hx rfl (hb hby at_352) rfl (teq (by decide : (34 : Int32) = (34 : Int32))).2 ?_
    show SA T18 m 355 #[vI p1, vI p2, vI p3, vI lv, vI 1, vI ev, vI y0_, vI y1_, vI y2_, vI y3_, vR sc, vR er, vR rr, vI ((lv + (22 : Int32)) + ((10 : Int32) + ev)), vI (lv + (22 : Int32))] []
    refine XS.iconst X18.here hx rfl (hb hby at_355) ?_
    show SA T18 m 356 #[vI p1, vI p2, vI p3, vI lv, vI 1, vI ev, vI y0_, vI y1_, vI y2_, vI y3_, vR sc, vR er, vR rr, vI ((lv + (22 : Int32)) + ((10 : Int32) + ev)), vI (lv + (22 : Int32))] [iI 1]
    refine XS.goto X18.here hx rfl (pc0 := 356) (pc' := 360) rfl (hb hby at_356) (by decide) (by decide) ?_
    show Steps _ _ _ (T18.setTop (mkF m 360 #[vI p1, vI p2, vI p3, vI lv, vI 1, vI ev, vI y0_, vI y1_, vI y2_, vI y3_, vR sc, vR er, vR rr, vI ((lv + (22 : Int32)) + ((10 : Int32) + ev)), vI (lv + (22 : Int32))] [iI 1])) _
    exact retN X18 hx (t := .boolean) hret (by simp) (hb hby at_360) hr
  · show own_Q0 n0 _ T18.heap _
    rw [e18]
    exact ⟨rfl, N0⟩
theorem ef_0 (m : MethodId) (x0 : Int32) (x1 : Int32) (x2 : Int32) : entryFrame m #[(.int x0), (.int x1), (.int x2)] maxLocals = mkF m 0 #[.val (.int x0), .val (.int x1), .val (.int x2), .unset, .unset, .unset, .unset, .unset, .unset, .unset, .unset, .unset, .unset, .unset, .unset] [] := by first | (simp [entryFrame, mkF, argsToLocals, Value.category, maxLocals]; done) | rfl
def Q0 (Z : State) (p1 : Int32) (p2 : Int32) (p3 : Int32) (cs : Int32) (fm : Value) (h0 : Heap) (n0 : Nat) (v : Option Value) (h : Heap) (L : List Loc) : Prop := v = some (.int (1 : Int32)) ∧ Fr n0 L
theorem rm0 (l : Launch) (Z : State) (a0 : Array Value) (hw : ∀ d ∈ tables_1, d.before a0 Z = true) (ws : List Jvm.Cond) (p1 : Int32) (p2 : Int32) (p3 : Int32) (cs : Int32) (fm : Value) (h0 : Heap) (n0 : Nat) (Z0 : n0 ≤ h0.size) (O0 : Old Z n0 h0) (S_CS : Sta Z Z.heap "java/lang/String" "COMPACT_STRINGS" "Z" (.int cs)) (h_cs : ¬ cs = (0 : Int32)) (S_F : Sta Z Z.heap "jdk/internal/util/Preconditions" "SIOOBE_FORMATTER" "Ljava/util/function/BiFunction;" fm) (h_fm : fm.isRef = true) :
    MetFree l x (head1 (Jvm.Cond.code x code maxLocals ret :: ws) room_1) (fun a U => a = #[(.int p1), (.int p2), (.int p3)] ∧ Z.Warmed39 U.vm ∧ U.heap = h0 ∧ CHv Z consts_1 U.vm h0) (fun _ _ _ _ _ => True) (fun _ U o U' => ∃ v L, o = .returned v ∧ Q0 Z p1 p2 p3 cs fm h0 n0 v U'.heap L ∧ ReturnedEndW U o U' L room_1.cells room_1.slots) := by
  refine MetFree.of_bodySF (plainFor_of_name pn_7) hisR ?_
  intro p e s m args below meth c s₁ Bd hml0 hP hK
  obtain ⟨rfl, hZ, hh, hC0⟩ := hP
  have hx := Bd.exec
  have hby := Bd.bytes
  have hml : c.maxLocals = 15 := hml0
  have hown : s.vm.findClass "com/example/cloud_to_core/cloudtocore/auth/HttpAuthorizationChallengePinLaw" = some m.cls := findClass_of_methodNamed Bd.named
  have hnm := (name_of_methodNamed Bd.named Bd.method).1
  have X0 : Stand p l e room_1 s m #[(.int p1), (.int p2), (.int p3)] below meth c s₁ [] 0 0 := Stand.of_body Bd
  have e0 : s₁.heap = h0 := by rw [← hh, Bd.state]; rfl
  have R0 := CHr.refl hC0
  have N0 := Fr.nil n0
  have K0 := Keep.refl h0 []
  have pre0 : ∀ t, Steps p.tables e below (s₁.setTop (mkF m 0 #[.val (.int p1), .val (.int p2), .val (.int p3), .unset, .unset, .unset, .unset, .unset, .unset, .unset, .unset, .unset, .unset, .unset, .unset] [])) t → Steps p.tables e below (s₁.setTop (entryFrame m #[(.int p1), (.int p2), (.int p3)] maxLocals)) t := fun t k => castTop (ef_0 m p1 p2 p3) k
  obtain ⟨v1, hv1⟩ : ∃ z : Int32, z = (if (p1 &&& (4 : Int32)) = (0 : Int32) then (0 : Int32) else (1 : Int32)) := ⟨_, rfl⟩
  obtain ⟨T2, X2, e2, st2⟩ : own_Mid X0 h0 (mkF m 9 #[vI p1, vI p2, vI p3, vI ((p1 &&& (3 : Int32)) % (3 : Int32)), .unset, .unset, .unset, .unset, .unset, .unset, .unset, .unset, .unset, .unset, .unset] [iI (p1 &&& (4 : Int32))]) (mkF m 17 #[vI p1, vI p2, vI p3, vI ((p1 &&& (3 : Int32)) % (3 : Int32)), .unset, .unset, .unset, .unset, .unset, .unset, .unset, .unset, .unset, .unset, .unset] [iI v1]) := by
    by_cases hc3 : (p1 &&& (4 : Int32)) = (0 : Int32)
    · refine ⟨s₁, X0, e0, fun t kt => ?_⟩
      subst hv1
      simp only [if_pos hc3] at kt
      show SA s₁ m 9 #[vI p1, vI p2, vI p3, vI ((p1 &&& (3 : Int32)) % (3 : Int32)), .unset, .unset, .unset, .unset, .unset, .unset, .unset, .unset, .unset, .unset, .unset] [iI (p1 &&& (4 : Int32))]
      refine XS.ifYes X0.here hx rfl (pc0 := 9) (pc' := 16) rfl (hb hby at_9) rfl ((if0 _ _).trans (teq hc3).1) (by decide) (by decide) ?_
      show SA s₁ m 16 #[vI p1, vI p2, vI p3, vI ((p1 &&& (3 : Int32)) % (3 : Int32)), .unset, .unset, .unset, .unset, .unset, .unset, .unset, .unset, .unset, .unset, .unset] []
      refine XS.iconst X0.here hx rfl (hb hby at_16) ?_
      exact kt
    · refine ⟨s₁, X0, e0, fun t kt => ?_⟩
      subst hv1
      simp only [if_neg hc3] at kt
      show SA s₁ m 9 #[vI p1, vI p2, vI p3, vI ((p1 &&& (3 : Int32)) % (3 : Int32)), .unset, .unset, .unset, .unset, .unset, .unset, .unset, .unset, .unset, .unset, .unset] [iI (p1 &&& (4 : Int32))]
      refine XS.ifNo X0.here hx rfl (hb hby at_9) rfl ((if0 _ _).trans (feq hc3).1) ?_
      show SA s₁ m 12 #[vI p1, vI p2, vI p3, vI ((p1 &&& (3 : Int32)) % (3 : Int32)), .unset, .unset, .unset, .unset, .unset, .unset, .unset, .unset, .unset, .unset, .unset] []
      refine XS.iconst X0.here hx rfl (hb hby at_12) ?_
      show SA s₁ m 13 #[vI p1, vI p2, vI p3, vI ((p1 &&& (3 : Int32)) % (3 : Int32)), .unset, .unset, .unset, .unset, .unset, .unset, .unset, .unset, .unset, .unset, .unset] [iI 1]
      refine XS.goto X0.here hx rfl (pc0 := 13) (pc' := 17) rfl (hb hby at_13) (by decide) (by decide) ?_
      exact kt
  obtain ⟨y0_, hy0_⟩ : ∃ z : Int32, z = (p2 &&& (255 : Int32)).toUInt32.toUInt16.toUInt32.toInt32 := ⟨_, rfl⟩
  have hl_y0_ : 0 ≤ y0_.toInt ∧ y0_.toInt ≤ 255 := by rw [hy0_]; exact own_c255 _
  obtain ⟨y1_, hy1_⟩ : ∃ z : Int32, z = (((p2.toUInt32 >>> ((8 : Int32) &&& 31).toUInt32).toInt32) &&& (255 : Int32)).toUInt32.toUInt16.toUInt32.toInt32 := ⟨_, rfl⟩
  have hl_y1_ : 0 ≤ y1_.toInt ∧ y1_.toInt ≤ 255 := by rw [hy1_]; exact own_c255 _
  obtain ⟨y2_, hy2_⟩ : ∃ z : Int32, z = (p3 &&& (255 : Int32)).toUInt32.toUInt16.toUInt32.toInt32 := ⟨_, rfl⟩
  have hl_y2_ : 0 ≤ y2_.toInt ∧ y2_.toInt ≤ 255 := by rw [hy2_]; exact own_c255 _
  obtain ⟨y3_, hy3_⟩ : ∃ z : Int32, z = (((p3.toUInt32 >>> ((8 : Int32) &&& 31).toUInt32).toInt32) &&& (255 : Int32)).toUInt32.toUInt16.toUInt32.toInt32 := ⟨_, rfl⟩
  have hl_y3_ : 0 ≤ y3_.toInt ∧ y3_.toInt ≤ 255 := by rw [hy3_]; exact own_c255 _
  obtain ⟨lv, hlv⟩ : ∃ z : Int32, z = ((p1 &&& (3 : Int32)) % (3 : Int32)) := ⟨_, rfl⟩
  have qlv : lv = 0 ∨ lv = 1 ∨ lv = 2 := by rw [hlv]; exact own_small3 _ (own_rem3 _).1 (own_rem3 _).2
  have pre9 : ∀ t, Steps p.tables e below (T2.setTop (mkF m 66 #[vI p1, vI p2, vI p3, vI lv, vI v1, vI ((((p1.toUInt32 >>> ((3 : Int32) &&& 31).toUInt32).toInt32) &&& (3 : Int32)) % (3 : Int32)), vI y0_, vI y1_, vI y2_, vI y3_, .unset, .unset, .unset, .unset, .unset] [])) t → Steps p.tables e below (s₁.setTop (entryFrame m #[(.int p1), (.int p2), (.int p3)] maxLocals)) t := by
    intro t kt
    refine pre0 t ?_
    show SA s₁ m 0 #[vI p1, vI p2, vI p3, .unset, .unset, .unset, .unset, .unset, .unset, .unset, .unset, .unset, .unset, .unset, .unset] []
    refine XS.iloadN X0.here hx rfl (hb hby at_0) rfl ?_
    show SA s₁ m 1 #[vI p1, vI p2, vI p3, .unset, .unset, .unset, .unset, .unset, .unset, .unset, .unset, .unset, .unset, .unset, .unset] [iI p1]
    refine XS.iconst X0.here hx rfl (hb hby at_1) ?_
    show SA s₁ m 2 #[vI p1, vI p2, vI p3, .unset, .unset, .unset, .unset, .unset, .unset, .unset, .unset, .unset, .unset, .unset, .unset] [iI 3, iI p1]
    refine XS.iand X0.here hx rfl (hb hby at_2) rfl ?_
    show SA s₁ m 3 #[vI p1, vI p2, vI p3, .unset, .unset, .unset, .unset, .unset, .unset, .unset, .unset, .unset, .unset, .unset, .unset] [iI (p1 &&& (3 : Int32))]
    refine XS.iconst X0.here hx rfl (hb hby at_3) ?_
    show SA s₁ m 4 #[vI p1, vI p2, vI p3, .unset, .unset, .unset, .unset, .unset, .unset, .unset, .unset, .unset, .unset, .unset, .unset] [iI 3, iI (p1 &&& (3 : Int32))]
    refine iremM X0 hx rfl (hb hby at_4) rfl (by decide) ?_
    show SA s₁ m 5 #[vI p1, vI p2, vI p3, .unset, .unset, .unset, .unset, .unset, .unset, .unset, .unset, .unset, .unset, .unset, .unset] [iI ((p1 &&& (3 : Int32)) % (3 : Int32))]
    refine XS.istoreN X0.here hx rfl (hb hby at_5) rfl (l' := #[vI p1, vI p2, vI p3, vI ((p1 &&& (3 : Int32)) % (3 : Int32)), .unset, .unset, .unset, .unset, .unset, .unset, .unset, .unset, .unset, .unset, .unset]) rfl ?_
    show SA s₁ m 6 #[vI p1, vI p2, vI p3, vI ((p1 &&& (3 : Int32)) % (3 : Int32)), .unset, .unset, .unset, .unset, .unset, .unset, .unset, .unset, .unset, .unset, .unset] []
    refine XS.iloadN X0.here hx rfl (hb hby at_6) rfl ?_
    show SA s₁ m 7 #[vI p1, vI p2, vI p3, vI ((p1 &&& (3 : Int32)) % (3 : Int32)), .unset, .unset, .unset, .unset, .unset, .unset, .unset, .unset, .unset, .unset, .unset] [iI p1]
    refine XS.iconst X0.here hx rfl (hb hby at_7) ?_
    show SA s₁ m 8 #[vI p1, vI p2, vI p3, vI ((p1 &&& (3 : Int32)) % (3 : Int32)), .unset, .unset, .unset, .unset, .unset, .unset, .unset, .unset, .unset, .unset, .unset] [iI 4, iI p1]
    refine XS.iand X0.here hx rfl (hb hby at_8) rfl ?_
    show SA s₁ m 9 #[vI p1, vI p2, vI p3, vI ((p1 &&& (3 : Int32)) % (3 : Int32)), .unset, .unset, .unset, .unset, .unset, .unset, .unset, .unset, .unset, .unset, .unset] [iI (p1 &&& (4 : Int32))]
    refine st2 _ ?_
    show SA T2 m 17 #[vI p1, vI p2, vI p3, vI ((p1 &&& (3 : Int32)) % (3 : Int32)), .unset, .unset, .unset, .unset, .unset, .unset, .unset, .unset, .unset, .unset, .unset] [iI v1]
    refine XS.istore X2.here hx rfl (hb hby at_17) rfl (l' := #[vI p1, vI p2, vI p3, vI ((p1 &&& (3 : Int32)) % (3 : Int32)), vI v1, .unset, .unset, .unset, .unset, .unset, .unset, .unset, .unset, .unset, .unset]) rfl ?_
    show SA T2 m 19 #[vI p1, vI p2, vI p3, vI ((p1 &&& (3 : Int32)) % (3 : Int32)), vI v1, .unset, .unset, .unset, .unset, .unset, .unset, .unset, .unset, .unset, .unset] []
    refine XS.iloadN X2.here hx rfl (hb hby at_19) rfl ?_
    show SA T2 m 20 #[vI p1, vI p2, vI p3, vI ((p1 &&& (3 : Int32)) % (3 : Int32)), vI v1, .unset, .unset, .unset, .unset, .unset, .unset, .unset, .unset, .unset, .unset] [iI p1]
    refine XS.iconst X2.here hx rfl (hb hby at_20) ?_
    show SA T2 m 21 #[vI p1, vI p2, vI p3, vI ((p1 &&& (3 : Int32)) % (3 : Int32)), vI v1, .unset, .unset, .unset, .unset, .unset, .unset, .unset, .unset, .unset, .unset] [iI 3, iI p1]
    refine XS.iushr X2.here hx rfl (hb hby at_21) rfl ?_
    show SA T2 m 22 #[vI p1, vI p2, vI p3, vI ((p1 &&& (3 : Int32)) % (3 : Int32)), vI v1, .unset, .unset, .unset, .unset, .unset, .unset, .unset, .unset, .unset, .unset] [iI ((p1.toUInt32 >>> ((3 : Int32) &&& 31).toUInt32).toInt32)]
    refine XS.iconst X2.here hx rfl (hb hby at_22) ?_
    show SA T2 m 23 #[vI p1, vI p2, vI p3, vI ((p1 &&& (3 : Int32)) % (3 : Int32)), vI v1, .unset, .unset, .unset, .unset, .unset, .unset, .unset, .unset, .unset, .unset] [iI 3, iI ((p1.toUInt32 >>> ((3 : Int32) &&& 31).toUInt32).toInt32)]
    refine XS.iand X2.here hx rfl (hb hby at_23) rfl ?_
    show SA T2 m 24 #[vI p1, vI p2, vI p3, vI ((p1 &&& (3 : Int32)) % (3 : Int32)), vI v1, .unset, .unset, .unset, .unset, .unset, .unset, .unset, .unset, .unset, .unset] [iI (((p1.toUInt32 >>> ((3 : Int32) &&& 31).toUInt32).toInt32) &&& (3 : Int32))]
    refine XS.iconst X2.here hx rfl (hb hby at_24) ?_
    show SA T2 m 25 #[vI p1, vI p2, vI p3, vI ((p1 &&& (3 : Int32)) % (3 : Int32)), vI v1, .unset, .unset, .unset, .unset, .unset, .unset, .unset, .unset, .unset, .unset] [iI 3, iI (((p1.toUInt32 >>> ((3 : Int32) &&& 31).toUInt32).toInt32) &&& (3 : Int32))]
    refine iremM X2 hx rfl (hb hby at_25) rfl (by decide) ?_
    show SA T2 m 26 #[vI p1, vI p2, vI p3, vI ((p1 &&& (3 : Int32)) % (3 : Int32)), vI v1, .unset, .unset, .unset, .unset, .unset, .unset, .unset, .unset, .unset, .unset] [iI ((((p1.toUInt32 >>> ((3 : Int32) &&& 31).toUInt32).toInt32) &&& (3 : Int32)) % (3 : Int32))]
    refine XS.istore X2.here hx rfl (hb hby at_26) rfl (l' := #[vI p1, vI p2, vI p3, vI ((p1 &&& (3 : Int32)) % (3 : Int32)), vI v1, vI ((((p1.toUInt32 >>> ((3 : Int32) &&& 31).toUInt32).toInt32) &&& (3 : Int32)) % (3 : Int32)), .unset, .unset, .unset, .unset, .unset, .unset, .unset, .unset, .unset]) rfl ?_
    show SA T2 m 28 #[vI p1, vI p2, vI p3, vI ((p1 &&& (3 : Int32)) % (3 : Int32)), vI v1, vI ((((p1.toUInt32 >>> ((3 : Int32) &&& 31).toUInt32).toInt32) &&& (3 : Int32)) % (3 : Int32)), .unset, .unset, .unset, .unset, .unset, .unset, .unset, .unset, .unset] []
    refine XS.iloadN X2.here hx rfl (hb hby at_28) rfl ?_
    show SA T2 m 29 #[vI p1, vI p2, vI p3, vI ((p1 &&& (3 : Int32)) % (3 : Int32)), vI v1, vI ((((p1.toUInt32 >>> ((3 : Int32) &&& 31).toUInt32).toInt32) &&& (3 : Int32)) % (3 : Int32)), .unset, .unset, .unset, .unset, .unset, .unset, .unset, .unset, .unset] [iI p2]
    refine XS.sipush X2.here hx rfl (hb hby at_29) ?_
    show SA T2 m 32 #[vI p1, vI p2, vI p3, vI ((p1 &&& (3 : Int32)) % (3 : Int32)), vI v1, vI ((((p1.toUInt32 >>> ((3 : Int32) &&& 31).toUInt32).toInt32) &&& (3 : Int32)) % (3 : Int32)), .unset, .unset, .unset, .unset, .unset, .unset, .unset, .unset, .unset] [iI 255, iI p2]
    refine XS.iand X2.here hx rfl (hb hby at_32) rfl ?_
    show SA T2 m 33 #[vI p1, vI p2, vI p3, vI ((p1 &&& (3 : Int32)) % (3 : Int32)), vI v1, vI ((((p1.toUInt32 >>> ((3 : Int32) &&& 31).toUInt32).toInt32) &&& (3 : Int32)) % (3 : Int32)), .unset, .unset, .unset, .unset, .unset, .unset, .unset, .unset, .unset] [iI (p2 &&& (255 : Int32))]
    refine XS.i2c X2.here hx rfl (hb hby at_33) rfl ?_
    show SA T2 m 34 #[vI p1, vI p2, vI p3, vI ((p1 &&& (3 : Int32)) % (3 : Int32)), vI v1, vI ((((p1.toUInt32 >>> ((3 : Int32) &&& 31).toUInt32).toInt32) &&& (3 : Int32)) % (3 : Int32)), .unset, .unset, .unset, .unset, .unset, .unset, .unset, .unset, .unset] [iI (p2 &&& (255 : Int32)).toUInt32.toUInt16.toUInt32.toInt32]
    refine XS.istore X2.here hx rfl (hb hby at_34) rfl (l' := #[vI p1, vI p2, vI p3, vI ((p1 &&& (3 : Int32)) % (3 : Int32)), vI v1, vI ((((p1.toUInt32 >>> ((3 : Int32) &&& 31).toUInt32).toInt32) &&& (3 : Int32)) % (3 : Int32)), vI (p2 &&& (255 : Int32)).toUInt32.toUInt16.toUInt32.toInt32, .unset, .unset, .unset, .unset, .unset, .unset, .unset, .unset]) rfl ?_
    show SA T2 m 36 #[vI p1, vI p2, vI p3, vI ((p1 &&& (3 : Int32)) % (3 : Int32)), vI v1, vI ((((p1.toUInt32 >>> ((3 : Int32) &&& 31).toUInt32).toInt32) &&& (3 : Int32)) % (3 : Int32)), vI (p2 &&& (255 : Int32)).toUInt32.toUInt16.toUInt32.toInt32, .unset, .unset, .unset, .unset, .unset, .unset, .unset, .unset] []
    refine XS.iloadN X2.here hx rfl (hb hby at_36) rfl ?_
    show SA T2 m 37 #[vI p1, vI p2, vI p3, vI ((p1 &&& (3 : Int32)) % (3 : Int32)), vI v1, vI ((((p1.toUInt32 >>> ((3 : Int32) &&& 31).toUInt32).toInt32) &&& (3 : Int32)) % (3 : Int32)), vI (p2 &&& (255 : Int32)).toUInt32.toUInt16.toUInt32.toInt32, .unset, .unset, .unset, .unset, .unset, .unset, .unset, .unset] [iI p2]
    refine XS.bipush X2.here hx rfl (hb hby at_37) ?_
    show SA T2 m 39 #[vI p1, vI p2, vI p3, vI ((p1 &&& (3 : Int32)) % (3 : Int32)), vI v1, vI ((((p1.toUInt32 >>> ((3 : Int32) &&& 31).toUInt32).toInt32) &&& (3 : Int32)) % (3 : Int32)), vI (p2 &&& (255 : Int32)).toUInt32.toUInt16.toUInt32.toInt32, .unset, .unset, .unset, .unset, .unset, .unset, .unset, .unset] [iI 8, iI p2]
    refine XS.iushr X2.here hx rfl (hb hby at_39) rfl ?_
    show SA T2 m 40 #[vI p1, vI p2, vI p3, vI ((p1 &&& (3 : Int32)) % (3 : Int32)), vI v1, vI ((((p1.toUInt32 >>> ((3 : Int32) &&& 31).toUInt32).toInt32) &&& (3 : Int32)) % (3 : Int32)), vI (p2 &&& (255 : Int32)).toUInt32.toUInt16.toUInt32.toInt32, .unset, .unset, .unset, .unset, .unset, .unset, .unset, .unset] [iI ((p2.toUInt32 >>> ((8 : Int32) &&& 31).toUInt32).toInt32)]
    refine XS.sipush X2.here hx rfl (hb hby at_40) ?_
    show SA T2 m 43 #[vI p1, vI p2, vI p3, vI ((p1 &&& (3 : Int32)) % (3 : Int32)), vI v1, vI ((((p1.toUInt32 >>> ((3 : Int32) &&& 31).toUInt32).toInt32) &&& (3 : Int32)) % (3 : Int32)), vI (p2 &&& (255 : Int32)).toUInt32.toUInt16.toUInt32.toInt32, .unset, .unset, .unset, .unset, .unset, .unset, .unset, .unset] [iI 255, iI ((p2.toUInt32 >>> ((8 : Int32) &&& 31).toUInt32).toInt32)]
    refine XS.iand X2.here hx rfl (hb hby at_43) rfl ?_
    show SA T2 m 44 #[vI p1, vI p2, vI p3, vI ((p1 &&& (3 : Int32)) % (3 : Int32)), vI v1, vI ((((p1.toUInt32 >>> ((3 : Int32) &&& 31).toUInt32).toInt32) &&& (3 : Int32)) % (3 : Int32)), vI (p2 &&& (255 : Int32)).toUInt32.toUInt16.toUInt32.toInt32, .unset, .unset, .unset, .unset, .unset, .unset, .unset, .unset] [iI (((p2.toUInt32 >>> ((8 : Int32) &&& 31).toUInt32).toInt32) &&& (255 : Int32))]
    refine XS.i2c X2.here hx rfl (hb hby at_44) rfl ?_
    show SA T2 m 45 #[vI p1, vI p2, vI p3, vI ((p1 &&& (3 : Int32)) % (3 : Int32)), vI v1, vI ((((p1.toUInt32 >>> ((3 : Int32) &&& 31).toUInt32).toInt32) &&& (3 : Int32)) % (3 : Int32)), vI (p2 &&& (255 : Int32)).toUInt32.toUInt16.toUInt32.toInt32, .unset, .unset, .unset, .unset, .unset, .unset, .unset, .unset] [iI (((p2.toUInt32 >>> ((8 : Int32) &&& 31).toUInt32).toInt32) &&& (255 : Int32)).toUInt32.toUInt16.toUInt32.toInt32]
    refine XS.istore X2.here hx rfl (hb hby at_45) rfl (l' := #[vI p1, vI p2, vI p3, vI ((p1 &&& (3 : Int32)) % (3 : Int32)), vI v1, vI ((((p1.toUInt32 >>> ((3 : Int32) &&& 31).toUInt32).toInt32) &&& (3 : Int32)) % (3 : Int32)), vI (p2 &&& (255 : Int32)).toUInt32.toUInt16.toUInt32.toInt32, vI (((p2.toUInt32 >>> ((8 : Int32) &&& 31).toUInt32).toInt32) &&& (255 : Int32)).toUInt32.toUInt16.toUInt32.toInt32, .unset, .unset, .unset, .unset, .unset, .unset, .unset]) rfl ?_
    show SA T2 m 47 #[vI p1, vI p2, vI p3, vI ((p1 &&& (3 : Int32)) % (3 : Int32)), vI v1, vI ((((p1.toUInt32 >>> ((3 : Int32) &&& 31).toUInt32).toInt32) &&& (3 : Int32)) % (3 : Int32)), vI (p2 &&& (255 : Int32)).toUInt32.toUInt16.toUInt32.toInt32, vI (((p2.toUInt32 >>> ((8 : Int32) &&& 31).toUInt32).toInt32) &&& (255 : Int32)).toUInt32.toUInt16.toUInt32.toInt32, .unset, .unset, .unset, .unset, .unset, .unset, .unset] []
    refine XS.iloadN X2.here hx rfl (hb hby at_47) rfl ?_
    show SA T2 m 48 #[vI p1, vI p2, vI p3, vI ((p1 &&& (3 : Int32)) % (3 : Int32)), vI v1, vI ((((p1.toUInt32 >>> ((3 : Int32) &&& 31).toUInt32).toInt32) &&& (3 : Int32)) % (3 : Int32)), vI (p2 &&& (255 : Int32)).toUInt32.toUInt16.toUInt32.toInt32, vI (((p2.toUInt32 >>> ((8 : Int32) &&& 31).toUInt32).toInt32) &&& (255 : Int32)).toUInt32.toUInt16.toUInt32.toInt32, .unset, .unset, .unset, .unset, .unset, .unset, .unset] [iI p3]
    refine XS.sipush X2.here hx rfl (hb hby at_48) ?_
    show SA T2 m 51 #[vI p1, vI p2, vI p3, vI ((p1 &&& (3 : Int32)) % (3 : Int32)), vI v1, vI ((((p1.toUInt32 >>> ((3 : Int32) &&& 31).toUInt32).toInt32) &&& (3 : Int32)) % (3 : Int32)), vI (p2 &&& (255 : Int32)).toUInt32.toUInt16.toUInt32.toInt32, vI (((p2.toUInt32 >>> ((8 : Int32) &&& 31).toUInt32).toInt32) &&& (255 : Int32)).toUInt32.toUInt16.toUInt32.toInt32, .unset, .unset, .unset, .unset, .unset, .unset, .unset] [iI 255, iI p3]
    refine XS.iand X2.here hx rfl (hb hby at_51) rfl ?_
    show SA T2 m 52 #[vI p1, vI p2, vI p3, vI ((p1 &&& (3 : Int32)) % (3 : Int32)), vI v1, vI ((((p1.toUInt32 >>> ((3 : Int32) &&& 31).toUInt32).toInt32) &&& (3 : Int32)) % (3 : Int32)), vI (p2 &&& (255 : Int32)).toUInt32.toUInt16.toUInt32.toInt32, vI (((p2.toUInt32 >>> ((8 : Int32) &&& 31).toUInt32).toInt32) &&& (255 : Int32)).toUInt32.toUInt16.toUInt32.toInt32, .unset, .unset, .unset, .unset, .unset, .unset, .unset] [iI (p3 &&& (255 : Int32))]
    refine XS.i2c X2.here hx rfl (hb hby at_52) rfl ?_
    show SA T2 m 53 #[vI p1, vI p2, vI p3, vI ((p1 &&& (3 : Int32)) % (3 : Int32)), vI v1, vI ((((p1.toUInt32 >>> ((3 : Int32) &&& 31).toUInt32).toInt32) &&& (3 : Int32)) % (3 : Int32)), vI (p2 &&& (255 : Int32)).toUInt32.toUInt16.toUInt32.toInt32, vI (((p2.toUInt32 >>> ((8 : Int32) &&& 31).toUInt32).toInt32) &&& (255 : Int32)).toUInt32.toUInt16.toUInt32.toInt32, .unset, .unset, .unset, .unset, .unset, .unset, .unset] [iI (p3 &&& (255 : Int32)).toUInt32.toUInt16.toUInt32.toInt32]
    refine XS.istore X2.here hx rfl (hb hby at_53) rfl (l' := #[vI p1, vI p2, vI p3, vI ((p1 &&& (3 : Int32)) % (3 : Int32)), vI v1, vI ((((p1.toUInt32 >>> ((3 : Int32) &&& 31).toUInt32).toInt32) &&& (3 : Int32)) % (3 : Int32)), vI (p2 &&& (255 : Int32)).toUInt32.toUInt16.toUInt32.toInt32, vI (((p2.toUInt32 >>> ((8 : Int32) &&& 31).toUInt32).toInt32) &&& (255 : Int32)).toUInt32.toUInt16.toUInt32.toInt32, vI (p3 &&& (255 : Int32)).toUInt32.toUInt16.toUInt32.toInt32, .unset, .unset, .unset, .unset, .unset, .unset]) rfl ?_
    show SA T2 m 55 #[vI p1, vI p2, vI p3, vI ((p1 &&& (3 : Int32)) % (3 : Int32)), vI v1, vI ((((p1.toUInt32 >>> ((3 : Int32) &&& 31).toUInt32).toInt32) &&& (3 : Int32)) % (3 : Int32)), vI (p2 &&& (255 : Int32)).toUInt32.toUInt16.toUInt32.toInt32, vI (((p2.toUInt32 >>> ((8 : Int32) &&& 31).toUInt32).toInt32) &&& (255 : Int32)).toUInt32.toUInt16.toUInt32.toInt32, vI (p3 &&& (255 : Int32)).toUInt32.toUInt16.toUInt32.toInt32, .unset, .unset, .unset, .unset, .unset, .unset] []
    refine XS.iloadN X2.here hx rfl (hb hby at_55) rfl ?_
    show SA T2 m 56 #[vI p1, vI p2, vI p3, vI ((p1 &&& (3 : Int32)) % (3 : Int32)), vI v1, vI ((((p1.toUInt32 >>> ((3 : Int32) &&& 31).toUInt32).toInt32) &&& (3 : Int32)) % (3 : Int32)), vI (p2 &&& (255 : Int32)).toUInt32.toUInt16.toUInt32.toInt32, vI (((p2.toUInt32 >>> ((8 : Int32) &&& 31).toUInt32).toInt32) &&& (255 : Int32)).toUInt32.toUInt16.toUInt32.toInt32, vI (p3 &&& (255 : Int32)).toUInt32.toUInt16.toUInt32.toInt32, .unset, .unset, .unset, .unset, .unset, .unset] [iI p3]
    refine XS.bipush X2.here hx rfl (hb hby at_56) ?_
    show SA T2 m 58 #[vI p1, vI p2, vI p3, vI ((p1 &&& (3 : Int32)) % (3 : Int32)), vI v1, vI ((((p1.toUInt32 >>> ((3 : Int32) &&& 31).toUInt32).toInt32) &&& (3 : Int32)) % (3 : Int32)), vI (p2 &&& (255 : Int32)).toUInt32.toUInt16.toUInt32.toInt32, vI (((p2.toUInt32 >>> ((8 : Int32) &&& 31).toUInt32).toInt32) &&& (255 : Int32)).toUInt32.toUInt16.toUInt32.toInt32, vI (p3 &&& (255 : Int32)).toUInt32.toUInt16.toUInt32.toInt32, .unset, .unset, .unset, .unset, .unset, .unset] [iI 8, iI p3]
    refine XS.iushr X2.here hx rfl (hb hby at_58) rfl ?_
    show SA T2 m 59 #[vI p1, vI p2, vI p3, vI ((p1 &&& (3 : Int32)) % (3 : Int32)), vI v1, vI ((((p1.toUInt32 >>> ((3 : Int32) &&& 31).toUInt32).toInt32) &&& (3 : Int32)) % (3 : Int32)), vI (p2 &&& (255 : Int32)).toUInt32.toUInt16.toUInt32.toInt32, vI (((p2.toUInt32 >>> ((8 : Int32) &&& 31).toUInt32).toInt32) &&& (255 : Int32)).toUInt32.toUInt16.toUInt32.toInt32, vI (p3 &&& (255 : Int32)).toUInt32.toUInt16.toUInt32.toInt32, .unset, .unset, .unset, .unset, .unset, .unset] [iI ((p3.toUInt32 >>> ((8 : Int32) &&& 31).toUInt32).toInt32)]
    refine XS.sipush X2.here hx rfl (hb hby at_59) ?_
    show SA T2 m 62 #[vI p1, vI p2, vI p3, vI ((p1 &&& (3 : Int32)) % (3 : Int32)), vI v1, vI ((((p1.toUInt32 >>> ((3 : Int32) &&& 31).toUInt32).toInt32) &&& (3 : Int32)) % (3 : Int32)), vI (p2 &&& (255 : Int32)).toUInt32.toUInt16.toUInt32.toInt32, vI (((p2.toUInt32 >>> ((8 : Int32) &&& 31).toUInt32).toInt32) &&& (255 : Int32)).toUInt32.toUInt16.toUInt32.toInt32, vI (p3 &&& (255 : Int32)).toUInt32.toUInt16.toUInt32.toInt32, .unset, .unset, .unset, .unset, .unset, .unset] [iI 255, iI ((p3.toUInt32 >>> ((8 : Int32) &&& 31).toUInt32).toInt32)]
    refine XS.iand X2.here hx rfl (hb hby at_62) rfl ?_
    show SA T2 m 63 #[vI p1, vI p2, vI p3, vI ((p1 &&& (3 : Int32)) % (3 : Int32)), vI v1, vI ((((p1.toUInt32 >>> ((3 : Int32) &&& 31).toUInt32).toInt32) &&& (3 : Int32)) % (3 : Int32)), vI (p2 &&& (255 : Int32)).toUInt32.toUInt16.toUInt32.toInt32, vI (((p2.toUInt32 >>> ((8 : Int32) &&& 31).toUInt32).toInt32) &&& (255 : Int32)).toUInt32.toUInt16.toUInt32.toInt32, vI (p3 &&& (255 : Int32)).toUInt32.toUInt16.toUInt32.toInt32, .unset, .unset, .unset, .unset, .unset, .unset] [iI (((p3.toUInt32 >>> ((8 : Int32) &&& 31).toUInt32).toInt32) &&& (255 : Int32))]
    refine XS.i2c X2.here hx rfl (hb hby at_63) rfl ?_
    show SA T2 m 64 #[vI p1, vI p2, vI p3, vI ((p1 &&& (3 : Int32)) % (3 : Int32)), vI v1, vI ((((p1.toUInt32 >>> ((3 : Int32) &&& 31).toUInt32).toInt32) &&& (3 : Int32)) % (3 : Int32)), vI (p2 &&& (255 : Int32)).toUInt32.toUInt16.toUInt32.toInt32, vI (((p2.toUInt32 >>> ((8 : Int32) &&& 31).toUInt32).toInt32) &&& (255 : Int32)).toUInt32.toUInt16.toUInt32.toInt32, vI (p3 &&& (255 : Int32)).toUInt32.toUInt16.toUInt32.toInt32, .unset, .unset, .unset, .unset, .unset, .unset] [iI (((p3.toUInt32 >>> ((8 : Int32) &&& 31).toUInt32).toInt32) &&& (255 : Int32)).toUInt32.toUInt16.toUInt32.toInt32]
    refine XS.istore X2.here hx rfl (hb hby at_64) rfl (l' := #[vI p1, vI p2, vI p3, vI ((p1 &&& (3 : Int32)) % (3 : Int32)), vI v1, vI ((((p1.toUInt32 >>> ((3 : Int32) &&& 31).toUInt32).toInt32) &&& (3 : Int32)) % (3 : Int32)), vI (p2 &&& (255 : Int32)).toUInt32.toUInt16.toUInt32.toInt32, vI (((p2.toUInt32 >>> ((8 : Int32) &&& 31).toUInt32).toInt32) &&& (255 : Int32)).toUInt32.toUInt16.toUInt32.toInt32, vI (p3 &&& (255 : Int32)).toUInt32.toUInt16.toUInt32.toInt32, vI (((p3.toUInt32 >>> ((8 : Int32) &&& 31).toUInt32).toInt32) &&& (255 : Int32)).toUInt32.toUInt16.toUInt32.toInt32, .unset, .unset, .unset, .unset, .unset]) rfl ?_
    rw [← hy0_]
    rw [← hy1_]
    rw [← hy2_]
    rw [← hy3_]
    rw [← hlv]
    exact kt
  rcases qlv with rfl | rfl | rfl
  · obtain ⟨la10, T10, h10, kk10, lb10, kl10, X10, e10, E10, hS10, hk10, hZ, hown, EE10, FC10, FV10, VV10, -, -, C10, li10, ne10, st10⟩ := ldcCH (s := s) (vm0 := s.vm) X2 hx hZ hown (ww hw 0 rfl) (own_strAtoms hw) e2 ((State.WarmedH.refl s).since 0) (Nat.zero_le _) (own_EW hw) (List.mem_of_getElem? (i := 4) rfl) R0.1 (vs := own_bs []) (z := (0 : Int32)) own_ct4 (by decide) (by decide) (g := (mkF m 70 #[vI p1, vI p2, vI p3, vI 0, vI v1, vI ((((p1.toUInt32 >>> ((3 : Int32) &&& 31).toUInt32).toInt32) &&& (3 : Int32)) % (3 : Int32)), vI y0_, vI y1_, vI y2_, vI y3_, .unset, .unset, .unset, .unset, .unset] [])) rfl (hb hby at_70) (n := 0) (by decide) (by decide) (by decide) (by decide)
    have K10 : Keep h0 h10 [] := K0.ext E10
    have R10 := R0.trans C10
    have qhe : v1 = 0 ∨ v1 = 1 := by rw [hv1]; split <;> simp
    have pre11 : ∀ t, Steps p.tables e below (T10.setTop (mkF m 117 #[vI p1, vI p2, vI p3, vI 0, vI v1, vI ((((p1.toUInt32 >>> ((3 : Int32) &&& 31).toUInt32).toInt32) &&& (3 : Int32)) % (3 : Int32)), vI y0_, vI y1_, vI y2_, vI y3_, vR la10, .val .null, .unset, .unset, .unset] [])) t → Steps p.tables e below (s₁.setTop (entryFrame m #[(.int p1), (.int p2), (.int p3)] maxLocals)) t := by
      intro t kt
      refine pre9 t ?_
      show SA T2 m 66 #[vI p1, vI p2, vI p3, vI 0, vI v1, vI ((((p1.toUInt32 >>> ((3 : Int32) &&& 31).toUInt32).toInt32) &&& (3 : Int32)) % (3 : Int32)), vI y0_, vI y1_, vI y2_, vI y3_, .unset, .unset, .unset, .unset, .unset] []
      refine XS.iloadN X2.here hx rfl (hb hby at_66) rfl ?_
      show SA T2 m 67 #[vI p1, vI p2, vI p3, vI 0, vI v1, vI ((((p1.toUInt32 >>> ((3 : Int32) &&& 31).toUInt32).toInt32) &&& (3 : Int32)) % (3 : Int32)), vI y0_, vI y1_, vI y2_, vI y3_, .unset, .unset, .unset, .unset, .unset] [iI 0]
      refine XS.ifNo X2.here hx rfl (hb hby at_67) rfl ((if0 _ _).trans (teq (by decide : (0 : Int32) = (0 : Int32))).2) ?_
      show SA T2 m 70 #[vI p1, vI p2, vI p3, vI 0, vI v1, vI ((((p1.toUInt32 >>> ((3 : Int32) &&& 31).toUInt32).toInt32) &&& (3 : Int32)) % (3 : Int32)), vI y0_, vI y1_, vI y2_, vI y3_, .unset, .unset, .unset, .unset, .unset] []
      refine st10 _ ?_
      show SA T10 m 72 #[vI p1, vI p2, vI p3, vI 0, vI v1, vI ((((p1.toUInt32 >>> ((3 : Int32) &&& 31).toUInt32).toInt32) &&& (3 : Int32)) % (3 : Int32)), vI y0_, vI y1_, vI y2_, vI y3_, .unset, .unset, .unset, .unset, .unset] [iR la10]
      refine XS.astore X10.here hx rfl (hb hby at_72) rfl rfl (l' := #[vI p1, vI p2, vI p3, vI 0, vI v1, vI ((((p1.toUInt32 >>> ((3 : Int32) &&& 31).toUInt32).toInt32) &&& (3 : Int32)) % (3 : Int32)), vI y0_, vI y1_, vI y2_, vI y3_, vR la10, .unset, .unset, .unset, .unset]) rfl ?_
      show SA T10 m 74 #[vI p1, vI p2, vI p3, vI 0, vI v1, vI ((((p1.toUInt32 >>> ((3 : Int32) &&& 31).toUInt32).toInt32) &&& (3 : Int32)) % (3 : Int32)), vI y0_, vI y1_, vI y2_, vI y3_, vR la10, .unset, .unset, .unset, .unset] []
      refine XS.goto X10.here hx rfl (pc0 := 74) (pc' := 114) rfl (hb hby at_74) (by decide) (by decide) ?_
      show SA T10 m 114 #[vI p1, vI p2, vI p3, vI 0, vI v1, vI ((((p1.toUInt32 >>> ((3 : Int32) &&& 31).toUInt32).toInt32) &&& (3 : Int32)) % (3 : Int32)), vI y0_, vI y1_, vI y2_, vI y3_, vR la10, .unset, .unset, .unset, .unset] []
      refine XS.aconstNull X10.here hx rfl (hb hby at_114) ?_
      show SA T10 m 115 #[vI p1, vI p2, vI p3, vI 0, vI v1, vI ((((p1.toUInt32 >>> ((3 : Int32) &&& 31).toUInt32).toInt32) &&& (3 : Int32)) % (3 : Int32)), vI y0_, vI y1_, vI y2_, vI y3_, vR la10, .unset, .unset, .unset, .unset] [.null]
      refine XS.astore X10.here hx rfl (hb hby at_115) rfl rfl (l' := #[vI p1, vI p2, vI p3, vI 0, vI v1, vI ((((p1.toUInt32 >>> ((3 : Int32) &&& 31).toUInt32).toInt32) &&& (3 : Int32)) % (3 : Int32)), vI y0_, vI y1_, vI y2_, vI y3_, vR la10, .val .null, .unset, .unset, .unset]) rfl ?_
      exact kt
    rcases qhe with rfl | rfl
    · have Oh13 := O0.keep K10 all0
      obtain ⟨_, _, ⟨T12, L12, k12, n12⟩, -, X12, hS12q, gr12, ⟨Lc12, hQ12, l12, y12, z12, C12⟩, st12⟩ := callSS (s := s.setVm T10.vm) X10 hx (y := mn_36) hown (mvT hZ (ww hw 8 rfl)) (mvT hZ (ww hw 9 rfl)) (mvT hZ (ww hw 10 rfl)) (mvT hZ (ww hw 11 rfl)) (by decide) (backOfSH (s := s) (vm0 := T10.vm) (W := 0) (rm1_n l Z a0 hw [] la10 lb10 kl10 (0 : Int32) [] (22 : Int32) (own_B1 []) cs h10 n0 (Nat.le_trans Z0 K10.1) Oh13 EE10 FC10 FV10 VV10 (by decide) (by decide) (by decide) (by decide) rfl S_CS h_cs) hZ (ww hw 11 rfl) (ww hw 10 rfl) (by decide) (by decide) (own_EW hw) R10.1) (g := (mkF m 176 #[vI p1, vI p2, vI p3, vI 0, vI 0, vI ((((p1.toUInt32 >>> ((3 : Int32) &&& 31).toUInt32).toInt32) &&& (3 : Int32)) % (3 : Int32)), vI y0_, vI y1_, vI y2_, vI y3_, vR la10, .val .null, .unset, .unset, .unset] [.null, iR la10])) rfl (by rw [hml]; rfl) (argsL := [(.ref la10), .null]) (rest := []) (lenOf pd_30 rfl) rfl (wz rfl) (hb hby at_176) (fun _ _ => ⟨rfl, e10, (by decide : 2 + 11 ≤ _), (by decide : 4 + 264 ≤ _)⟩)
      dsimp only [Pt.U, Pt.locs, Pt.cells, Pt.slots] at X12 hS12q gr12 l12 y12 z12 C12 st12 hQ12
      subst l12 y12 z12
      have hS12 := State.Since.trans hS10 hS12q (Nat.le_trans (by have q := hk10; rw [← e10] at q; exact q) gr12)
      have hZ : Z.Warmed39 (s.setVm T12.vm).vm := State.Warmed39.trans (t := s.setVm T10.vm) hZ hS12q.1
      have hown : (s.setVm T12.vm).vm.findClass "com/example/cloud_to_core/cloudtocore/auth/HttpAuthorizationChallengePinLaw" = some m.cls := by rw [show (s.setVm T12.vm).vm = T12.vm from rfl, hS12q.1.alike.findClass]; exact hown
      have R12 := R10.trans C12
      obtain ⟨o12, d12, kd12, rfl, N12q, K12q, E12q, C12q, F12q, V12q⟩ := hQ12
      have N12 := Fr.app N0 N12q
      have K12 : Keep h0 T12.heap [] := Keep.trans K10 K12q all0
      have pre14 : ∀ t, Steps p.tables e below (T12.setTop (mkF m 181 #[vI p1, vI p2, vI p3, vI 0, vI 0, vI ((((p1.toUInt32 >>> ((3 : Int32) &&& 31).toUInt32).toInt32) &&& (3 : Int32)) % (3 : Int32)), vI y0_, vI y1_, vI y2_, vI y3_, vR la10, .val .null, vR o12, .unset, .unset] [])) t → Steps p.tables e below (s₁.setTop (entryFrame m #[(.int p1), (.int p2), (.int p3)] maxLocals)) t := by
        intro t kt
        refine pre11 t ?_
        show SA T10 m 117 #[vI p1, vI p2, vI p3, vI 0, vI 0, vI ((((p1.toUInt32 >>> ((3 : Int32) &&& 31).toUInt32).toInt32) &&& (3 : Int32)) % (3 : Int32)), vI y0_, vI y1_, vI y2_, vI y3_, vR la10, .val .null, .unset, .unset, .unset] []
        refine XS.iload X10.here hx rfl (hb hby at_117) rfl ?_
        show SA T10 m 119 #[vI p1, vI p2, vI p3, vI 0, vI 0, vI ((((p1.toUInt32 >>> ((3 : Int32) &&& 31).toUInt32).toInt32) &&& (3 : Int32)) % (3 : Int32)), vI y0_, vI y1_, vI y2_, vI y3_, vR la10, .val .null, .unset, .unset, .unset] [iI 0]
        refine XS.ifYes X10.here hx rfl (pc0 := 119) (pc' := 172) rfl (hb hby at_119) rfl ((if0 _ _).trans (teq (by decide : (0 : Int32) = (0 : Int32))).1) (by decide) (by decide) ?_
        show SA T10 m 172 #[vI p1, vI p2, vI p3, vI 0, vI 0, vI ((((p1.toUInt32 >>> ((3 : Int32) &&& 31).toUInt32).toInt32) &&& (3 : Int32)) % (3 : Int32)), vI y0_, vI y1_, vI y2_, vI y3_, vR la10, .val .null, .unset, .unset, .unset] []
        refine XS.aload X10.here hx rfl (hb hby at_172) rfl rfl ?_
        show SA T10 m 174 #[vI p1, vI p2, vI p3, vI 0, vI 0, vI ((((p1.toUInt32 >>> ((3 : Int32) &&& 31).toUInt32).toInt32) &&& (3 : Int32)) % (3 : Int32)), vI y0_, vI y1_, vI y2_, vI y3_, vR la10, .val .null, .unset, .unset, .unset] [iR la10]
        refine XS.aload X10.here hx rfl (hb hby at_174) rfl rfl ?_
        show SA T10 m 176 #[vI p1, vI p2, vI p3, vI 0, vI 0, vI ((((p1.toUInt32 >>> ((3 : Int32) &&& 31).toUInt32).toInt32) &&& (3 : Int32)) % (3 : Int32)), vI y0_, vI y1_, vI y2_, vI y3_, vR la10, .val .null, .unset, .unset, .unset] [.null, iR la10]
        refine st12.trans ?_
        show SA T12 m 179 #[vI p1, vI p2, vI p3, vI 0, vI 0, vI ((((p1.toUInt32 >>> ((3 : Int32) &&& 31).toUInt32).toInt32) &&& (3 : Int32)) % (3 : Int32)), vI y0_, vI y1_, vI y2_, vI y3_, vR la10, .val .null, .unset, .unset, .unset] [iR o12]
        refine XS.astore X12.here hx rfl (hb hby at_179) rfl rfl (l' := #[vI p1, vI p2, vI p3, vI 0, vI 0, vI ((((p1.toUInt32 >>> ((3 : Int32) &&& 31).toUInt32).toInt32) &&& (3 : Int32)) % (3 : Int32)), vI y0_, vI y1_, vI y2_, vI y3_, vR la10, .val .null, vR o12, .unset, .unset]) rfl ?_
        exact kt
      obtain ⟨s₂, o₂, hs₂, hr₂⟩ := own_end_n (lv := (0 : Int32)) (ev := ((((p1.toUInt32 >>> ((3 : Int32) &&& 31).toUInt32).toInt32) &&& (3 : Int32)) % (3 : Int32))) (y0_ := y0_) (y1_ := y1_) (y2_ := y2_) (y3_ := y3_) (sc := la10) (s := s) (vmT := T12.vm) (X12.more (by decide) (by decide)) hx hZ hw hby hml hown Bd.returns (by first | assumption | exact BodyLoose.notSynchronized (by assumption) | exact Body.notSynchronized (by assumption)) (rfl : T12.heap = _) K12 N12 Z0 O0 hS12 (Nat.le_refl _) R12 hh E12q C12q F12q V12q (by decide) rfl (by decide) (fun h => absurd (by decide) h) (fun h => absurd (by decide) h) (by decide) (own_re1_0) S_CS h_cs S_F h_fm
      exact ⟨s₂, o₂, pre14 _ hs₂, hr₂⟩
    · obtain ⟨ev, hev⟩ : ∃ z : Int32, z = ((((p1.toUInt32 >>> ((3 : Int32) &&& 31).toUInt32).toInt32) &&& (3 : Int32)) % (3 : Int32)) := ⟨_, rfl⟩
      have qev : ev = 0 ∨ ev = 1 ∨ ev = 2 := by rw [hev]; exact own_small3 _ (own_rem3 _).1 (own_rem3 _).2
      have pre16 : ∀ t, Steps p.tables e below (T10.setTop (mkF m 122 #[vI p1, vI p2, vI p3, vI 0, vI 1, vI ev, vI y0_, vI y1_, vI y2_, vI y3_, vR la10, .val .null, .unset, .unset, .unset] [])) t → Steps p.tables e below (s₁.setTop (entryFrame m #[(.int p1), (.int p2), (.int p3)] maxLocals)) t := by
        intro t kt
        refine pre11 t ?_
        show SA T10 m 117 #[vI p1, vI p2, vI p3, vI 0, vI 1, vI ((((p1.toUInt32 >>> ((3 : Int32) &&& 31).toUInt32).toInt32) &&& (3 : Int32)) % (3 : Int32)), vI y0_, vI y1_, vI y2_, vI y3_, vR la10, .val .null, .unset, .unset, .unset] []
        refine XS.iload X10.here hx rfl (hb hby at_117) rfl ?_
        show SA T10 m 119 #[vI p1, vI p2, vI p3, vI 0, vI 1, vI ((((p1.toUInt32 >>> ((3 : Int32) &&& 31).toUInt32).toInt32) &&& (3 : Int32)) % (3 : Int32)), vI y0_, vI y1_, vI y2_, vI y3_, vR la10, .val .null, .unset, .unset, .unset] [iI 1]
        refine XS.ifNo X10.here hx rfl (hb hby at_119) rfl ((if0 _ _).trans (feq (by decide : ¬ ((1 : Int32) = (0 : Int32)))).1) ?_
        rw [← hev]
        exact kt
      rcases qev with rfl | rfl | rfl
      · obtain ⟨la17, T17, h17, kk17, lb17, kl17, X17, e17, E17, hS17, hk17, hZ, hown, EE17, FC17, FV17, VV17, -, -, C17, li17, ne17, st17⟩ := ldcCH (s := s) (vm0 := T10.vm) X10 hx hZ hown (ww hw 0 rfl) (own_strAtoms hw) e10 hS10 hk10 (own_EW hw) (List.mem_of_getElem? (i := 4) rfl) R10.1 (vs := own_bs []) (z := (0 : Int32)) own_ct4 (by decide) (by decide) (g := (mkF m 127 #[vI p1, vI p2, vI p3, vI 0, vI 1, vI 0, vI y0_, vI y1_, vI y2_, vI y3_, vR la10, .val .null, .unset, .unset, .unset] [])) rfl (hb hby at_127) (n := 0) (by decide) (by decide) (by decide) (by decide)
        have K17 : Keep h0 h17 [] := K10.ext E17
        have R17 := R10.trans C17
        have fk19 := (EE10.ext E17)
        have fk20 := (FC10.ext E17)
        have fk21 := (FV10.ext E17)
        have fk22 := (VV10.ext E17)
        have Oh23 := O0.keep K17 all0
        obtain ⟨_, _, ⟨T18, L18, k18, n18⟩, -, X18, hS18q, gr18, ⟨Lc18, hQ18, l18, y18, z18, C18⟩, st18⟩ := callSS (s := s.setVm T17.vm) X17 hx (y := mn_36) hown (mvT hZ (ww hw 8 rfl)) (mvT hZ (ww hw 9 rfl)) (mvT hZ (ww hw 10 rfl)) (mvT hZ (ww hw 11 rfl)) (by decide) (backOfSH (s := s) (vm0 := T17.vm) (W := 0) (rm1_e l Z a0 hw [] la10 la17 lb10 kl10 (0 : Int32) [] lb17 kl17 (0 : Int32) [] (32 : Int32) (own_B2 [] []) cs h17 n0 (Nat.le_trans Z0 K17.1) Oh23 fk19 fk20 fk21 fk22 (by decide) (by decide) EE17 FC17 FV17 VV17 (by decide) (by decide) (by decide) (by decide) (by decide) rfl S_CS h_cs) hZ (ww hw 11 rfl) (ww hw 10 rfl) (by decide) (by decide) (own_EW hw) R17.1) (g := (mkF m 176 #[vI p1, vI p2, vI p3, vI 0, vI 1, vI 0, vI y0_, vI y1_, vI y2_, vI y3_, vR la10, vR la17, .unset, .unset, .unset] [iR la17, iR la10])) rfl (by rw [hml]; rfl) (argsL := [(.ref la10), (.ref la17)]) (rest := []) (lenOf pd_30 rfl) rfl (wz rfl) (hb hby at_176) (fun _ _ => ⟨rfl, e17, (by decide : 4 + 21 ≤ _), (by decide : 8 + 546 ≤ _)⟩)
        dsimp only [Pt.U, Pt.locs, Pt.cells, Pt.slots] at X18 hS18q gr18 l18 y18 z18 C18 st18 hQ18
        subst l18 y18 z18
        have hS18 := State.Since.trans hS17 hS18q (Nat.le_trans (by have q := hk17; rw [← e17] at q; exact q) gr18)
        have hZ : Z.Warmed39 (s.setVm T18.vm).vm := State.Warmed39.trans (t := s.setVm T17.vm) hZ hS18q.1
        have hown : (s.setVm T18.vm).vm.findClass "com/example/cloud_to_core/cloudtocore/auth/HttpAuthorizationChallengePinLaw" = some m.cls := by rw [show (s.setVm T18.vm).vm = T18.vm from rfl, hS18q.1.alike.findClass]; exact hown
        have R18 := R17.trans C18
        obtain ⟨o18, d18, kd18, rfl, N18q, K18q, E18q, C18q, F18q, V18q⟩ := hQ18
        have N18 := Fr.app N0 N18q
        have K18 : Keep h0 T18.heap [] := Keep.trans K17 K18q all0
        have pre24 : ∀ t, Steps p.tables e below (T18.setTop (mkF m 181 #[vI p1, vI p2, vI p3, vI 0, vI 1, vI 0, vI y0_, vI y1_, vI y2_, vI y3_, vR la10, vR la17, vR o18, .unset, .unset] [])) t → Steps p.tables e below (s₁.setTop (entryFrame m #[(.int p1), (.int p2), (.int p3)] maxLocals)) t := by
          intro t kt
          refine pre16 t ?_
          show SA T10 m 122 #[vI p1, vI p2, vI p3, vI 0, vI 1, vI 0, vI y0_, vI y1_, vI y2_, vI y3_, vR la10, .val .null, .unset, .unset, .unset] []
          refine XS.iload X10.here hx rfl (hb hby at_122) rfl ?_
          show SA T10 m 124 #[vI p1, vI p2, vI p3, vI 0, vI 1, vI 0, vI y0_, vI y1_, vI y2_, vI y3_, vR la10, .val .null, .unset, .unset, .unset] [iI 0]
          refine XS.ifNo X10.here hx rfl (hb hby at_124) rfl ((if0 _ _).trans (teq (by decide : (0 : Int32) = (0 : Int32))).2) ?_
          show SA T10 m 127 #[vI p1, vI p2, vI p3, vI 0, vI 1, vI 0, vI y0_, vI y1_, vI y2_, vI y3_, vR la10, .val .null, .unset, .unset, .unset] []
          refine st17 _ ?_
          show SA T17 m 129 #[vI p1, vI p2, vI p3, vI 0, vI 1, vI 0, vI y0_, vI y1_, vI y2_, vI y3_, vR la10, .val .null, .unset, .unset, .unset] [iR la17]
          refine XS.astore X17.here hx rfl (hb hby at_129) rfl rfl (l' := #[vI p1, vI p2, vI p3, vI 0, vI 1, vI 0, vI y0_, vI y1_, vI y2_, vI y3_, vR la10, vR la17, .unset, .unset, .unset]) rfl ?_
          show SA T17 m 131 #[vI p1, vI p2, vI p3, vI 0, vI 1, vI 0, vI y0_, vI y1_, vI y2_, vI y3_, vR la10, vR la17, .unset, .unset, .unset] []
          refine XS.goto X17.here hx rfl (pc0 := 131) (pc' := 172) rfl (hb hby at_131) (by decide) (by decide) ?_
          show SA T17 m 172 #[vI p1, vI p2, vI p3, vI 0, vI 1, vI 0, vI y0_, vI y1_, vI y2_, vI y3_, vR la10, vR la17, .unset, .unset, .unset] []
          refine XS.aload X17.here hx rfl (hb hby at_172) rfl rfl ?_
          show SA T17 m 174 #[vI p1, vI p2, vI p3, vI 0, vI 1, vI 0, vI y0_, vI y1_, vI y2_, vI y3_, vR la10, vR la17, .unset, .unset, .unset] [iR la10]
          refine XS.aload X17.here hx rfl (hb hby at_174) rfl rfl ?_
          show SA T17 m 176 #[vI p1, vI p2, vI p3, vI 0, vI 1, vI 0, vI y0_, vI y1_, vI y2_, vI y3_, vR la10, vR la17, .unset, .unset, .unset] [iR la17, iR la10]
          refine st18.trans ?_
          show SA T18 m 179 #[vI p1, vI p2, vI p3, vI 0, vI 1, vI 0, vI y0_, vI y1_, vI y2_, vI y3_, vR la10, vR la17, .unset, .unset, .unset] [iR o18]
          refine XS.astore X18.here hx rfl (hb hby at_179) rfl rfl (l' := #[vI p1, vI p2, vI p3, vI 0, vI 1, vI 0, vI y0_, vI y1_, vI y2_, vI y3_, vR la10, vR la17, vR o18, .unset, .unset]) rfl ?_
          exact kt
        obtain ⟨s₂, o₂, hs₂, hr₂⟩ := own_end_e (lv := (0 : Int32)) (ev := (0 : Int32)) (y0_ := y0_) (y1_ := y1_) (y2_ := y2_) (y3_ := y3_) (sc := la10) (er := la17) (s := s) (vmT := T18.vm) (X18.more (by decide) (by decide)) hx hZ hw hby hml hown Bd.returns (by first | assumption | exact BodyLoose.notSynchronized (by assumption) | exact Body.notSynchronized (by assumption)) (rfl : T18.heap = _) K18 N18 Z0 O0 hS18 (Nat.le_refl _) R18 hh E18q C18q F18q V18q (by decide) rfl (by decide) (fun h => absurd (by decide) h) (fun h => absurd (by decide) h) (by decide) (own_re2_0 _) (by decide) (own_er2_0 _) (fun h => absurd (by decide) h) (fun h => absurd (by decide) h) ⟨by decide, by decide, own_gd (i := 31) (c := (34 : Int32)) (by decide) rfl (by decide)⟩ S_CS h_cs S_F h_fm
        exact ⟨s₂, o₂, pre24 _ hs₂, hr₂⟩
      · have Oh26 := O0.keep K10 all0
        obtain ⟨_, _, ⟨T25, L25, k25, n25⟩, -, X25, ⟨Lc25, hQ25, l25, y25, z25⟩, st25⟩ := Jvm.LawKit.callS X10 hx (y := mn_33) hown (mvT hZ (ww hw 176 rfl)) (mvT hZ (ww hw 177 rfl)) (mvT hZ (ww hw 1 rfl)) (mvT hZ (ww hw 178 rfl)) (by decide) (backOf (W := 0) (rm34 l Z a0 hw [] y2_ cs h10 n0 (Nat.le_trans Z0 K10.1) Oh26 (own_le255 hl_y2_) S_CS h_cs) hZ (ww hw 178 rfl) (ww hw 1 rfl) (by decide) (by decide)) (g := (mkF m 142 #[vI p1, vI p2, vI p3, vI 0, vI 1, vI 1, vI y0_, vI y1_, vI y2_, vI y3_, vR la10, .val .null, .unset, .unset, .unset] [iI y2_])) rfl (by rw [hml]; rfl) (argsL := [(.int y2_)]) (rest := []) (lenOf pd_31 rfl) rfl (wz rfl) (hb hby at_142) (fun _ _ => ⟨rfl, e10, (by decide : 2 + 2 ≤ _), (by decide : 4 + 5 ≤ _)⟩)
        dsimp only [Pt.U, Pt.locs, Pt.cells, Pt.slots] at X25 l25 y25 z25 st25 hQ25
        subst l25 y25 z25
        obtain ⟨o25, d25, kd25, rfl, N25q, K25q, E25q, C25q, F25q, V25q, z_o25, z_d25⟩ := hQ25
        have ne_la10_o25 : la10 ≠ o25 := Nat.ne_of_lt (Nat.lt_of_lt_of_le EE10.lt z_o25)
        have ne_lb10_o25 : lb10 ≠ o25 := Nat.ne_of_lt (Nat.lt_of_lt_of_le VV10.lt z_o25)
        have sz_o25 : h0.size ≤ o25 := Nat.le_trans K10.1 z_o25
        have g_o25 : n0 ≤ o25 := Nat.le_trans Z0 sz_o25
        have ne_la10_d25 : la10 ≠ d25 := Nat.ne_of_lt (Nat.lt_of_lt_of_le EE10.lt z_d25)
        have ne_lb10_d25 : lb10 ≠ d25 := Nat.ne_of_lt (Nat.lt_of_lt_of_le VV10.lt z_d25)
        have sz_d25 : h0.size ≤ d25 := Nat.le_trans K10.1 z_d25
        have g_d25 : n0 ≤ d25 := Nat.le_trans Z0 sz_d25
        have N25 := Fr.app N0 N25q
        have K25 : Keep h0 T25.heap [] := Keep.trans K10 K25q all0
        have fk28 := (EE10.keep K25q)
        have fk29 := (FC10.keep K25q nin0)
        have fk30 := (FV10.keep K25q nin0)
        have fk31 := (VV10.keep K25q nin0)
        have Oh32 := O0.keep K25 all0
        have S33_o25 := Safe.keep K25q sf0 R10.1 (Safe.new z_o25)
        have S33_d25 := Safe.keep K25q sf0 R10.1 (Safe.new z_d25)
        have R33 := R10.trans (CHr.keep K25q sf0 R10.1)
        obtain ⟨_, _, ⟨T27, L27, k27, n27⟩, -, X27, hS27q, gr27, ⟨Lc27, hQ27, l27, y27, z27, C27⟩, st27⟩ := callSS (s := s.setVm T10.vm) X25 hx (y := mn_36) hown (mvT hZ (ww hw 8 rfl)) (mvT hZ (ww hw 9 rfl)) (mvT hZ (ww hw 10 rfl)) (mvT hZ (ww hw 11 rfl)) (by decide) (backOfSH (s := s) (vm0 := T10.vm) (W := 0) (rm1_e l Z a0 hw [] la10 o25 lb10 kl10 (0 : Int32) [] d25 kd25 (1 : Int32) [own_by y2_] (33 : Int32) (own_B2 [] [own_by y2_]) cs T25.heap n0 (Nat.le_trans Z0 K25.1) Oh32 fk28 fk29 fk30 fk31 (by decide) (by decide) E25q C25q F25q V25q (by decide) rfl (by decide) (by decide) (by decide) rfl S_CS h_cs) hZ (ww hw 11 rfl) (ww hw 10 rfl) (by decide) (by decide) (own_EW hw) R33.1) (g := (mkF m 176 #[vI p1, vI p2, vI p3, vI 0, vI 1, vI 1, vI y0_, vI y1_, vI y2_, vI y3_, vR la10, vR o25, .unset, .unset, .unset] [iR o25, iR la10])) rfl (by rw [hml]; rfl) (argsL := [(.ref la10), (.ref o25)]) (rest := []) (lenOf pd_30 rfl) rfl (wz rfl) (hb hby at_176) (fun _ _ => ⟨rfl, rfl, (by decide : 4 + 21 ≤ _), (by decide : 9 + 546 ≤ _)⟩)
        dsimp only [Pt.U, Pt.locs, Pt.cells, Pt.slots] at X27 hS27q gr27 l27 y27 z27 C27 st27 hQ27
        subst l27 y27 z27
        have hS27 := State.Since.trans hS10 hS27q (Nat.le_trans (Nat.le_trans hk10 K25q.1) gr27)
        have hZ : Z.Warmed39 (s.setVm T27.vm).vm := State.Warmed39.trans (t := s.setVm T10.vm) hZ hS27q.1
        have hown : (s.setVm T27.vm).vm.findClass "com/example/cloud_to_core/cloudtocore/auth/HttpAuthorizationChallengePinLaw" = some m.cls := by rw [show (s.setVm T27.vm).vm = T27.vm from rfl, hS27q.1.alike.findClass]; exact hown
        have R27 := R33.trans C27
        obtain ⟨o27, d27, kd27, rfl, N27q, K27q, E27q, C27q, F27q, V27q⟩ := hQ27
        have N27 := Fr.app N25 N27q
        have K27 : Keep h0 T27.heap [] := Keep.trans K25 K27q all0
        have pre34 : ∀ t, Steps p.tables e below (T27.setTop (mkF m 181 #[vI p1, vI p2, vI p3, vI 0, vI 1, vI 1, vI y0_, vI y1_, vI y2_, vI y3_, vR la10, vR o25, vR o27, .unset, .unset] [])) t → Steps p.tables e below (s₁.setTop (entryFrame m #[(.int p1), (.int p2), (.int p3)] maxLocals)) t := by
          intro t kt
          refine pre16 t ?_
          show SA T10 m 122 #[vI p1, vI p2, vI p3, vI 0, vI 1, vI 1, vI y0_, vI y1_, vI y2_, vI y3_, vR la10, .val .null, .unset, .unset, .unset] []
          refine XS.iload X10.here hx rfl (hb hby at_122) rfl ?_
          show SA T10 m 124 #[vI p1, vI p2, vI p3, vI 0, vI 1, vI 1, vI y0_, vI y1_, vI y2_, vI y3_, vR la10, .val .null, .unset, .unset, .unset] [iI 1]
          refine XS.ifYes X10.here hx rfl (pc0 := 124) (pc' := 134) rfl (hb hby at_124) rfl ((if0 _ _).trans (feq (by decide : ¬ ((1 : Int32) = (0 : Int32)))).2) (by decide) (by decide) ?_
          show SA T10 m 134 #[vI p1, vI p2, vI p3, vI 0, vI 1, vI 1, vI y0_, vI y1_, vI y2_, vI y3_, vR la10, .val .null, .unset, .unset, .unset] []
          refine XS.iload X10.here hx rfl (hb hby at_134) rfl ?_
          show SA T10 m 136 #[vI p1, vI p2, vI p3, vI 0, vI 1, vI 1, vI y0_, vI y1_, vI y2_, vI y3_, vR la10, .val .null, .unset, .unset, .unset] [iI 1]
          refine XS.iconst X10.here hx rfl (hb hby at_136) ?_
          show SA T10 m 137 #[vI p1, vI p2, vI p3, vI 0, vI 1, vI 1, vI y0_, vI y1_, vI y2_, vI y3_, vR la10, .val .null, .unset, .unset, .unset] [iI 1, iI 1]
          refine XS.icmpNo X10.here hx rfl (hb hby at_137) rfl (teq (by decide : (1 : Int32) = (1 : Int32))).2 ?_
          show SA T10 m 140 #[vI p1, vI p2, vI p3, vI 0, vI 1, vI 1, vI y0_, vI y1_, vI y2_, vI y3_, vR la10, .val .null, .unset, .unset, .unset] []
          refine XS.iload X10.here hx rfl (hb hby at_140) rfl ?_
          show SA T10 m 142 #[vI p1, vI p2, vI p3, vI 0, vI 1, vI 1, vI y0_, vI y1_, vI y2_, vI y3_, vR la10, .val .null, .unset, .unset, .unset] [iI y2_]
          refine st25 _ ?_
          show SA T25 m 145 #[vI p1, vI p2, vI p3, vI 0, vI 1, vI 1, vI y0_, vI y1_, vI y2_, vI y3_, vR la10, .val .null, .unset, .unset, .unset] [iR o25]
          refine XS.astore X25.here hx rfl (hb hby at_145) rfl rfl (l' := #[vI p1, vI p2, vI p3, vI 0, vI 1, vI 1, vI y0_, vI y1_, vI y2_, vI y3_, vR la10, vR o25, .unset, .unset, .unset]) rfl ?_
          show SA T25 m 147 #[vI p1, vI p2, vI p3, vI 0, vI 1, vI 1, vI y0_, vI y1_, vI y2_, vI y3_, vR la10, vR o25, .unset, .unset, .unset] []
          refine XS.goto X25.here hx rfl (pc0 := 147) (pc' := 172) rfl (hb hby at_147) (by decide) (by decide) ?_
          show SA T25 m 172 #[vI p1, vI p2, vI p3, vI 0, vI 1, vI 1, vI y0_, vI y1_, vI y2_, vI y3_, vR la10, vR o25, .unset, .unset, .unset] []
          refine XS.aload X25.here hx rfl (hb hby at_172) rfl rfl ?_
          show SA T25 m 174 #[vI p1, vI p2, vI p3, vI 0, vI 1, vI 1, vI y0_, vI y1_, vI y2_, vI y3_, vR la10, vR o25, .unset, .unset, .unset] [iR la10]
          refine XS.aload X25.here hx rfl (hb hby at_174) rfl rfl ?_
          show SA T25 m 176 #[vI p1, vI p2, vI p3, vI 0, vI 1, vI 1, vI y0_, vI y1_, vI y2_, vI y3_, vR la10, vR o25, .unset, .unset, .unset] [iR o25, iR la10]
          refine st27.trans ?_
          show SA T27 m 179 #[vI p1, vI p2, vI p3, vI 0, vI 1, vI 1, vI y0_, vI y1_, vI y2_, vI y3_, vR la10, vR o25, .unset, .unset, .unset] [iR o27]
          refine XS.astore X27.here hx rfl (hb hby at_179) rfl rfl (l' := #[vI p1, vI p2, vI p3, vI 0, vI 1, vI 1, vI y0_, vI y1_, vI y2_, vI y3_, vR la10, vR o25, vR o27, .unset, .unset]) rfl ?_
          exact kt
        obtain ⟨s₂, o₂, hs₂, hr₂⟩ := own_end_e (lv := (0 : Int32)) (ev := (1 : Int32)) (y0_ := y0_) (y1_ := y1_) (y2_ := y2_) (y3_ := y3_) (sc := la10) (er := o25) (s := s) (vmT := T27.vm) (X27.more (by decide) (by decide)) hx hZ hw hby hml hown Bd.returns (by first | assumption | exact BodyLoose.notSynchronized (by assumption) | exact Body.notSynchronized (by assumption)) (rfl : T27.heap = _) K27 N27 Z0 O0 hS27 (Nat.le_refl _) R27 hh E27q C27q F27q V27q (by decide) rfl (by decide) (fun h => absurd (by decide) h) (fun h => absurd (by decide) h) (by decide) (own_re2_0 _) (by decide) (own_er2_0 _) (fun _ => ⟨by decide, by decide, own_gd (i := 31) (by decide) rfl (own_rt hl_y2_)⟩) (fun h => absurd (by decide) h) ⟨by decide, by decide, own_gd (i := 32) (c := (34 : Int32)) (by decide) rfl (by decide)⟩ S_CS h_cs S_F h_fm
        exact ⟨s₂, o₂, pre34 _ hs₂, hr₂⟩
      · obtain ⟨T35, h35, X35, e35, E35, A35, D35, -, st35⟩ := newO X10 hx hZ hown (ww hw 193 rfl) (ww hw 2 rfl) (ww hw 1 rfl) e10 (g := (mkF m 150 #[vI p1, vI p2, vI p3, vI 0, vI 1, vI 2, vI y0_, vI y1_, vI y2_, vI y3_, vR la10, .val .null, .unset, .unset, .unset] [])) rfl (hb hby at_150) (by decide) (by decide)
        obtain ⟨b35, g35⟩ : ∃ z, z = h10.size := ⟨_, rfl⟩
        rw [← g35] at A35 D35 st35
        have ne_la10_b35 : la10 ≠ b35 := Nat.ne_of_lt (Nat.lt_of_lt_of_le EE10.lt (Nat.le_of_eq g35.symm))
        have ne_lb10_b35 : lb10 ≠ b35 := Nat.ne_of_lt (Nat.lt_of_lt_of_le VV10.lt (Nat.le_of_eq g35.symm))
        have sz_b35 : h0.size ≤ b35 := Nat.le_trans K10.1 (Nat.le_of_eq g35.symm)
        have g_b35 : n0 ≤ b35 := Nat.le_trans Z0 sz_b35
        have K35 : Keep h0 h35 [] := K10.ext E35
        have F_value_b35 : Fld Z h35 b35 "java/lang/String" "value" "[B" .null := D35 (Or.inr (ww hw 4 rfl)) (ty := (.array .byte)) (by decide)
        have F_coder_b35 : Fld Z h35 b35 "java/lang/String" "coder" "B" (.int (0 : Int32)) := D35 (Or.inr (ww hw 5 rfl)) (ty := .byte) (by decide)
        obtain ⟨T36, h36, k36, X36, e36, E36, A36, st36⟩ := newP X35 hx hZ (ww hw 194 rfl) e35 (g := (mkF m 155 #[vI p1, vI p2, vI p3, vI 0, vI 1, vI 2, vI y0_, vI y1_, vI y2_, vI y3_, vR la10, .val .null, .unset, .unset, .unset] [iI 2, iR b35, iR b35])) rfl (hb hby at_155) rfl (by decide) (cap := 2) (by decide) (by decide) (by decide) (by decide)
        obtain ⟨b36, g36⟩ : ∃ z, z = h35.size := ⟨_, rfl⟩
        rw [← g36] at A36 st36
        have fk37 := (EE10.ext E35)
        have ne_la10_b36 : la10 ≠ b36 := Nat.ne_of_lt (Nat.lt_of_lt_of_le fk37.lt (Nat.le_of_eq g36.symm))
        have fk38 := (VV10.ext E35)
        have ne_lb10_b36 : lb10 ≠ b36 := Nat.ne_of_lt (Nat.lt_of_lt_of_le fk38.lt (Nat.le_of_eq g36.symm))
        have ne_b35_b36 : b35 ≠ b36 := Nat.ne_of_lt (Nat.lt_of_lt_of_le A35.lt (Nat.le_of_eq g36.symm))
        have sz_b36 : h0.size ≤ b36 := Nat.le_trans K35.1 (Nat.le_of_eq g36.symm)
        have g_b36 : n0 ≤ b36 := Nat.le_trans Z0 sz_b36
        have K36 : Keep h0 h36 [] := K35.ext E36
        have V36 : Arv Z h36 b36 k36 .char (2 : Int32) [(.int (0 : Int32)), (.int (0 : Int32))] (.int (0 : Int32)) := (Arv.new A36 (by decide)).pad (pad_rep [] (.int (0 : Int32)) 2)
        obtain ⟨cl39, Ar39, q39, S39, M39, H39, G39⟩ := id V36
        have hin40 : ¬ ((0 : Int32) < 0 ∨ cl39.slots.size ≤ ((0 : Int32)).toNatClampNeg) := inb_of S39 ⟨by decide, by decide⟩
        obtain ⟨T41, h41, X41, e41, W41, st41⟩ := stC X36 hx hZ e36 Ar39 (j := (0 : Int32)) hin40 (g := (mkF m 161 #[vI p1, vI p2, vI p3, vI 0, vI 1, vI 2, vI y0_, vI y1_, vI y2_, vI y3_, vR la10, .val .null, .unset, .unset, .unset] [iI y2_, iI 0, iR b36, iR b36, iR b35, iR b35])) rfl rfl (hb hby at_161)
        have V41 : Arv Z h41 b36 k36 .char (2 : Int32) [(.int (nar .char y2_)), (.int (0 : Int32))] (.int (0 : Int32)) := Arv.set Ar39 q39 S39 M39 H39 G39 (fits_nar_char _) W41 0 rfl (Nat.le_of_ble_eq_true rfl)
        have K41 : Keep h0 h41 [] := K36.wr W41 (Or.inr sz_b36)
        have N41 := Fr.snoc X41 N0 g_b36
        obtain ⟨cl42, Ar42, q42, S42, M42, H42, G42⟩ := id V41
        have hin43 : ¬ ((1 : Int32) < 0 ∨ cl42.slots.size ≤ ((1 : Int32)).toNatClampNeg) := inb_of S42 ⟨by decide, by decide⟩
        obtain ⟨T44, h44, X44, e44, W44, st44⟩ := stC X41 hx hZ e41 Ar42 (j := (1 : Int32)) hin43 (g := (mkF m 166 #[vI p1, vI p2, vI p3, vI 0, vI 1, vI 2, vI y0_, vI y1_, vI y2_, vI y3_, vR la10, .val .null, .unset, .unset, .unset] [iI y3_, iI 1, iR b36, iR b36, iR b35, iR b35])) rfl rfl (hb hby at_166)
        have V44 : Arv Z h44 b36 k36 .char (2 : Int32) [(.int (nar .char y2_)), (.int (nar .char y3_))] (.int (0 : Int32)) := Arv.set Ar42 q42 S42 M42 H42 G42 (fits_nar_char _) W44 1 rfl (Nat.le_of_ble_eq_true rfl)
        have K44 : Keep h0 h44 [] := K41.wr W44 (Or.inr sz_b36)
        have N44 := Fr.snoc X44 N41 g_b36
        have VC45 : Arv Z h44 b36 k36 .char (2 : Int32) [(.int y2_), (.int y3_)] (.int (0 : Int32)) := by have q := V44; rw [own_narc hl_y2_, own_narc hl_y3_] at q; exact q
        have fk47 := (((A35.ext E36).wr W41).wr W44)
        have fk48 := (((F_value_b35.ext E36).other W41 (Or.inl ne_b35_b36)).other W44 (Or.inl ne_b35_b36))
        have fk49 := (((F_coder_b35.ext E36).other W41 (Or.inl ne_b35_b36)).other W44 (Or.inl ne_b35_b36))
        have Oh50 := O0.keep K44 all0
        obtain ⟨_, _, ⟨T46, L46, k46, n46⟩, -, X46, ⟨Lc46, hQ46, l46, y46, z46⟩, st46⟩ := X44.specialBack hx (y := mn_41) rfl hown (mvT hZ (ww hw 195 rfl)) (mvT hZ (ww hw 196 rfl)) (mvT hZ (ww hw 197 rfl)) (by decide) (backOf (W := 1) (rm39_2 l Z a0 hw [] b35 b36 k36 y2_ y3_ cs h44 n0 (Nat.le_trans Z0 K44.1) Oh50 fk47 g_b35 fk48 fk49 VC45 ne_b35_b36 (own_le255 hl_y2_) (own_le255 hl_y3_) S_CS h_cs) hZ (ww hw 197 rfl) (ww hw 1 rfl) (by decide) (by decide)) (g := (mkF m 167 #[vI p1, vI p2, vI p3, vI 0, vI 1, vI 2, vI y0_, vI y1_, vI y2_, vI y3_, vR la10, .val .null, .unset, .unset, .unset] [iR b36, iR b35, iR b35])) rfl (by rw [hml]; rfl) (Steps.refl _) (a := b35) (argsL := [(.ref b36)]) (rest := [(.ref b35)]) (lenOf pd_32 rfl) rfl (wz rfl) (hb hby at_167) (fun _ _ => ⟨rfl, e44, (by decide : 4 + 1 ≤ _), (by decide : 10 + 2 ≤ _)⟩)
        dsimp only [Pt.U, Pt.locs, Pt.cells, Pt.slots] at X46 l46 y46 z46 st46 hQ46
        subst l46 y46 z46
        obtain ⟨d46, kd46, rfl, N46q, K46q, E46q, C46q, F46q, V46q, z_d46⟩ := hQ46
        have fk51 := (((fk37.ext E36).wr W41).wr W44)
        have fk52 := (((fk38.ext E36).other W41 ne_lb10_b36).other W44 ne_lb10_b36)
        have ne_la10_d46 : la10 ≠ d46 := Nat.ne_of_lt (Nat.lt_of_lt_of_le fk51.lt z_d46)
        have ne_lb10_d46 : lb10 ≠ d46 := Nat.ne_of_lt (Nat.lt_of_lt_of_le fk52.lt z_d46)
        have ne_b35_d46 : b35 ≠ d46 := Nat.ne_of_lt (Nat.lt_of_lt_of_le fk47.lt z_d46)
        have ne_b36_d46 : b36 ≠ d46 := Nat.ne_of_lt (Nat.lt_of_lt_of_le VC45.lt z_d46)
        have sz_d46 : h0.size ≤ d46 := Nat.le_trans K44.1 z_d46
        have g_d46 : n0 ≤ d46 := Nat.le_trans Z0 sz_d46
        have N46 := Fr.app N44 N46q
        have K46 : Keep h0 T46.heap [] := Keep.trans K44 K46q (allS (Or.inr sz_b35) all0)
        have fk54 := (fk51.keep K46q)
        have fk55 := (((((FC10.ext E35).ext E36).other W41 (Or.inl ne_la10_b36)).other W44 (Or.inl ne_la10_b36)).keep K46q (ninS ne_la10_b35 nin0))
        have fk56 := (((((FV10.ext E35).ext E36).other W41 (Or.inl ne_la10_b36)).other W44 (Or.inl ne_la10_b36)).keep K46q (ninS ne_la10_b35 nin0))
        have fk57 := (fk52.keep K46q (ninS ne_lb10_b35 nin0))
        have Oh58 := O0.keep K46 all0
        have S59_b35 := Safe.ext E35 R10.1 (Safe.new (Nat.le_of_eq g35.symm))
        have R59 := R10.trans (CHr.ext E35 R10.1)
        have S60_b35 := Safe.ext E36 R59.1 S59_b35
        have S60_b36 := Safe.ext E36 R59.1 (Safe.new (Nat.le_of_eq g36.symm))
        have R60 := R59.trans (CHr.ext E36 R59.1)
        have S61_b35 := Safe.wr W41 S60_b36 R60.1 S60_b35
        have S61_b36 := Safe.wr W41 S60_b36 R60.1 S60_b36
        have R61 := R60.trans (CHr.wr W41 S60_b36 R60.1)
        have S62_b35 := Safe.wr W44 S61_b36 R61.1 S61_b35
        have S62_b36 := Safe.wr W44 S61_b36 R61.1 S61_b36
        have R62 := R61.trans (CHr.wr W44 S61_b36 R61.1)
        have sq63 : ∀ x ∈ [b35], Safe Z consts_1 T10.vm _ x := (sfS S62_b35 sf0)
        have S63_b35 := Safe.keep K46q sq63 R62.1 S62_b35
        have S63_b36 := Safe.keep K46q sq63 R62.1 S62_b36
        have S63_d46 := Safe.keep K46q sq63 R62.1 (Safe.new z_d46)
        have R63 := R62.trans (CHr.keep K46q sq63 R62.1)
        obtain ⟨_, _, ⟨T53, L53, k53, n53⟩, -, X53, hS53q, gr53, ⟨Lc53, hQ53, l53, y53, z53, C53⟩, st53⟩ := callSS (s := s.setVm T10.vm) X46 hx (y := mn_36) hown (mvT hZ (ww hw 8 rfl)) (mvT hZ (ww hw 9 rfl)) (mvT hZ (ww hw 10 rfl)) (mvT hZ (ww hw 11 rfl)) (by decide) (backOfSH (s := s) (vm0 := T10.vm) (W := 0) (rm1_e l Z a0 hw [] la10 b35 lb10 kl10 (0 : Int32) [] d46 kd46 (2 : Int32) [own_by y2_, own_by y3_] (34 : Int32) (own_B2 [] [own_by y2_, own_by y3_]) cs T46.heap n0 (Nat.le_trans Z0 K46.1) Oh58 fk54 fk55 fk56 fk57 (by decide) (by decide) E46q C46q F46q V46q (by decide) rfl (by decide) (by decide) (by decide) rfl S_CS h_cs) hZ (ww hw 11 rfl) (ww hw 10 rfl) (by decide) (by decide) (own_EW hw) R63.1) (g := (mkF m 176 #[vI p1, vI p2, vI p3, vI 0, vI 1, vI 2, vI y0_, vI y1_, vI y2_, vI y3_, vR la10, vR b35, .unset, .unset, .unset] [iR b35, iR la10])) rfl (by rw [hml]; rfl) (argsL := [(.ref la10), (.ref b35)]) (rest := []) (lenOf pd_30 rfl) rfl (wz rfl) (hb hby at_176) (fun _ _ => ⟨rfl, rfl, (by decide : 5 + 21 ≤ _), (by decide : 12 + 546 ≤ _)⟩)
        dsimp only [Pt.U, Pt.locs, Pt.cells, Pt.slots] at X53 hS53q gr53 l53 y53 z53 C53 st53 hQ53
        subst l53 y53 z53
        have hS53 := State.Since.trans hS10 hS53q (Nat.le_trans (Nat.le_trans (Nat.le_trans (Nat.le_trans (Nat.le_trans (Nat.le_trans hk10 E35.1) E36.1) (Nat.le_of_eq W41.size.symm)) (Nat.le_of_eq W44.size.symm)) K46q.1) gr53)
        have hZ : Z.Warmed39 (s.setVm T53.vm).vm := State.Warmed39.trans (t := s.setVm T10.vm) hZ hS53q.1
        have hown : (s.setVm T53.vm).vm.findClass "com/example/cloud_to_core/cloudtocore/auth/HttpAuthorizationChallengePinLaw" = some m.cls := by rw [show (s.setVm T53.vm).vm = T53.vm from rfl, hS53q.1.alike.findClass]; exact hown
        have R53 := R63.trans C53
        obtain ⟨o53, d53, kd53, rfl, N53q, K53q, E53q, C53q, F53q, V53q⟩ := hQ53
        have N53 := Fr.app N46 N53q
        have K53 : Keep h0 T53.heap [] := Keep.trans K46 K53q all0
        have pre64 : ∀ t, Steps p.tables e below (T53.setTop (mkF m 181 #[vI p1, vI p2, vI p3, vI 0, vI 1, vI 2, vI y0_, vI y1_, vI y2_, vI y3_, vR la10, vR b35, vR o53, .unset, .unset] [])) t → Steps p.tables e below (s₁.setTop (entryFrame m #[(.int p1), (.int p2), (.int p3)] maxLocals)) t := by
          intro t kt
          refine pre16 t ?_
          show SA T10 m 122 #[vI p1, vI p2, vI p3, vI 0, vI 1, vI 2, vI y0_, vI y1_, vI y2_, vI y3_, vR la10, .val .null, .unset, .unset, .unset] []
          refine XS.iload X10.here hx rfl (hb hby at_122) rfl ?_
          show SA T10 m 124 #[vI p1, vI p2, vI p3, vI 0, vI 1, vI 2, vI y0_, vI y1_, vI y2_, vI y3_, vR la10, .val .null, .unset, .unset, .unset] [iI 2]
          refine XS.ifYes X10.here hx rfl (pc0 := 124) (pc' := 134) rfl (hb hby at_124) rfl ((if0 _ _).trans (feq (by decide : ¬ ((2 : Int32) = (0 : Int32)))).2) (by decide) (by decide) ?_
          show SA T10 m 134 #[vI p1, vI p2, vI p3, vI 0, vI 1, vI 2, vI y0_, vI y1_, vI y2_, vI y3_, vR la10, .val .null, .unset, .unset, .unset] []
          refine XS.iload X10.here hx rfl (hb hby at_134) rfl ?_
          show SA T10 m 136 #[vI p1, vI p2, vI p3, vI 0, vI 1, vI 2, vI y0_, vI y1_, vI y2_, vI y3_, vR la10, .val .null, .unset, .unset, .unset] [iI 2]
          refine XS.iconst X10.here hx rfl (hb hby at_136) ?_
          show SA T10 m 137 #[vI p1, vI p2, vI p3, vI 0, vI 1, vI 2, vI y0_, vI y1_, vI y2_, vI y3_, vR la10, .val .null, .unset, .unset, .unset] [iI 1, iI 2]
          refine XS.icmpYes X10.here hx rfl (pc0 := 137) (pc' := 150) rfl (hb hby at_137) rfl (feq (by decide : ¬ ((2 : Int32) = (1 : Int32)))).2 (by decide) (by decide) ?_
          show SA T10 m 150 #[vI p1, vI p2, vI p3, vI 0, vI 1, vI 2, vI y0_, vI y1_, vI y2_, vI y3_, vR la10, .val .null, .unset, .unset, .unset] []
          refine st35 _ ?_
          show SA T35 m 153 #[vI p1, vI p2, vI p3, vI 0, vI 1, vI 2, vI y0_, vI y1_, vI y2_, vI y3_, vR la10, .val .null, .unset, .unset, .unset] [iR b35]
          refine XS.dup X35.here hx rfl (hb hby at_153) rfl rfl ?_
          show SA T35 m 154 #[vI p1, vI p2, vI p3, vI 0, vI 1, vI 2, vI y0_, vI y1_, vI y2_, vI y3_, vR la10, .val .null, .unset, .unset, .unset] [iR b35, iR b35]
          refine XS.iconst X35.here hx rfl (hb hby at_154) ?_
          show SA T35 m 155 #[vI p1, vI p2, vI p3, vI 0, vI 1, vI 2, vI y0_, vI y1_, vI y2_, vI y3_, vR la10, .val .null, .unset, .unset, .unset] [iI 2, iR b35, iR b35]
          refine st36 _ ?_
          show SA T36 m 157 #[vI p1, vI p2, vI p3, vI 0, vI 1, vI 2, vI y0_, vI y1_, vI y2_, vI y3_, vR la10, .val .null, .unset, .unset, .unset] [iR b36, iR b35, iR b35]
          refine XS.dup X36.here hx rfl (hb hby at_157) rfl rfl ?_
          show SA T36 m 158 #[vI p1, vI p2, vI p3, vI 0, vI 1, vI 2, vI y0_, vI y1_, vI y2_, vI y3_, vR la10, .val .null, .unset, .unset, .unset] [iR b36, iR b36, iR b35, iR b35]
          refine XS.iconst X36.here hx rfl (hb hby at_158) ?_
          show SA T36 m 159 #[vI p1, vI p2, vI p3, vI 0, vI 1, vI 2, vI y0_, vI y1_, vI y2_, vI y3_, vR la10, .val .null, .unset, .unset, .unset] [iI 0, iR b36, iR b36, iR b35, iR b35]
          refine XS.iload X36.here hx rfl (hb hby at_159) rfl ?_
          show SA T36 m 161 #[vI p1, vI p2, vI p3, vI 0, vI 1, vI 2, vI y0_, vI y1_, vI y2_, vI y3_, vR la10, .val .null, .unset, .unset, .unset] [iI y2_, iI 0, iR b36, iR b36, iR b35, iR b35]
          refine st41 _ ?_
          show SA T41 m 162 #[vI p1, vI p2, vI p3, vI 0, vI 1, vI 2, vI y0_, vI y1_, vI y2_, vI y3_, vR la10, .val .null, .unset, .unset, .unset] [iR b36, iR b35, iR b35]
          refine XS.dup X41.here hx rfl (hb hby at_162) rfl rfl ?_
          show SA T41 m 163 #[vI p1, vI p2, vI p3, vI 0, vI 1, vI 2, vI y0_, vI y1_, vI y2_, vI y3_, vR la10, .val .null, .unset, .unset, .unset] [iR b36, iR b36, iR b35, iR b35]
          refine XS.iconst X41.here hx rfl (hb hby at_163) ?_
          show SA T41 m 164 #[vI p1, vI p2, vI p3, vI 0, vI 1, vI 2, vI y0_, vI y1_, vI y2_, vI y3_, vR la10, .val .null, .unset, .unset, .unset] [iI 1, iR b36, iR b36, iR b35, iR b35]
          refine XS.iload X41.here hx rfl (hb hby at_164) rfl ?_
          show SA T41 m 166 #[vI p1, vI p2, vI p3, vI 0, vI 1, vI 2, vI y0_, vI y1_, vI y2_, vI y3_, vR la10, .val .null, .unset, .unset, .unset] [iI y3_, iI 1, iR b36, iR b36, iR b35, iR b35]
          refine st44 _ ?_
          show SA T44 m 167 #[vI p1, vI p2, vI p3, vI 0, vI 1, vI 2, vI y0_, vI y1_, vI y2_, vI y3_, vR la10, .val .null, .unset, .unset, .unset] [iR b36, iR b35, iR b35]
          refine st46.trans ?_
          show SA T46 m 170 #[vI p1, vI p2, vI p3, vI 0, vI 1, vI 2, vI y0_, vI y1_, vI y2_, vI y3_, vR la10, .val .null, .unset, .unset, .unset] [iR b35]
          refine XS.astore X46.here hx rfl (hb hby at_170) rfl rfl (l' := #[vI p1, vI p2, vI p3, vI 0, vI 1, vI 2, vI y0_, vI y1_, vI y2_, vI y3_, vR la10, vR b35, .unset, .unset, .unset]) rfl ?_
          show SA T46 m 172 #[vI p1, vI p2, vI p3, vI 0, vI 1, vI 2, vI y0_, vI y1_, vI y2_, vI y3_, vR la10, vR b35, .unset, .unset, .unset] []
          refine XS.aload X46.here hx rfl (hb hby at_172) rfl rfl ?_
          show SA T46 m 174 #[vI p1, vI p2, vI p3, vI 0, vI 1, vI 2, vI y0_, vI y1_, vI y2_, vI y3_, vR la10, vR b35, .unset, .unset, .unset] [iR la10]
          refine XS.aload X46.here hx rfl (hb hby at_174) rfl rfl ?_
          show SA T46 m 176 #[vI p1, vI p2, vI p3, vI 0, vI 1, vI 2, vI y0_, vI y1_, vI y2_, vI y3_, vR la10, vR b35, .unset, .unset, .unset] [iR b35, iR la10]
          refine st53.trans ?_
          show SA T53 m 179 #[vI p1, vI p2, vI p3, vI 0, vI 1, vI 2, vI y0_, vI y1_, vI y2_, vI y3_, vR la10, vR b35, .unset, .unset, .unset] [iR o53]
          refine XS.astore X53.here hx rfl (hb hby at_179) rfl rfl (l' := #[vI p1, vI p2, vI p3, vI 0, vI 1, vI 2, vI y0_, vI y1_, vI y2_, vI y3_, vR la10, vR b35, vR o53, .unset, .unset]) rfl ?_
          exact kt
        obtain ⟨s₂, o₂, hs₂, hr₂⟩ := own_end_e (lv := (0 : Int32)) (ev := (2 : Int32)) (y0_ := y0_) (y1_ := y1_) (y2_ := y2_) (y3_ := y3_) (sc := la10) (er := b35) (s := s) (vmT := T53.vm) (X53.more (by decide) (by decide)) hx hZ hw hby hml hown Bd.returns (by first | assumption | exact BodyLoose.notSynchronized (by assumption) | exact Body.notSynchronized (by assumption)) (rfl : T53.heap = _) K53 N53 Z0 O0 hS53 (Nat.le_refl _) R53 hh E53q C53q F53q V53q (by decide) rfl (by decide) (fun h => absurd (by decide) h) (fun h => absurd (by decide) h) (by decide) (own_re2_0 _) (by decide) (own_er2_0 _) (fun _ => ⟨by decide, by decide, own_gd (i := 31) (by decide) rfl (own_rt hl_y2_)⟩) (fun _ => ⟨by decide, by decide, own_gd (i := 32) (by decide) rfl (own_rt hl_y3_)⟩) ⟨by decide, by decide, own_gd (i := 33) (c := (34 : Int32)) (by decide) rfl (by decide)⟩ S_CS h_cs S_F h_fm
        exact ⟨s₂, o₂, pre64 _ hs₂, hr₂⟩
  · obtain ⟨_, _, ⟨T65, L65, k65, n65⟩, -, X65, ⟨Lc65, hQ65, l65, y65, z65⟩, st65⟩ := Jvm.LawKit.callS X2 hx (y := mn_33) hown (mvT hZ (ww hw 176 rfl)) (mvT hZ (ww hw 177 rfl)) (mvT hZ (ww hw 1 rfl)) (mvT hZ (ww hw 178 rfl)) (by decide) (backOf (W := 0) (rm34 l Z a0 hw [] y0_ cs h0 n0 (Nat.le_trans Z0 K0.1) O0 (own_le255 hl_y0_) S_CS h_cs) hZ (ww hw 178 rfl) (ww hw 1 rfl) (by decide) (by decide)) (g := (mkF m 84 #[vI p1, vI p2, vI p3, vI 1, vI v1, vI ((((p1.toUInt32 >>> ((3 : Int32) &&& 31).toUInt32).toInt32) &&& (3 : Int32)) % (3 : Int32)), vI y0_, vI y1_, vI y2_, vI y3_, .unset, .unset, .unset, .unset, .unset] [iI y0_])) rfl (by rw [hml]; rfl) (argsL := [(.int y0_)]) (rest := []) (lenOf pd_31 rfl) rfl (wz rfl) (hb hby at_84) (fun _ _ => ⟨rfl, e2, (by decide : 0 + 2 ≤ _), (by decide : 0 + 5 ≤ _)⟩)
    dsimp only [Pt.U, Pt.locs, Pt.cells, Pt.slots] at X65 l65 y65 z65 st65 hQ65
    subst l65 y65 z65
    obtain ⟨o65, d65, kd65, rfl, N65q, K65q, E65q, C65q, F65q, V65q, z_o65, z_d65⟩ := hQ65
    have sz_o65 : h0.size ≤ o65 := Nat.le_trans K0.1 z_o65
    have g_o65 : n0 ≤ o65 := Nat.le_trans Z0 sz_o65
    have sz_d65 : h0.size ≤ d65 := Nat.le_trans K0.1 z_d65
    have g_d65 : n0 ≤ d65 := Nat.le_trans Z0 sz_d65
    have N65 := Fr.app N0 N65q
    have K65 : Keep h0 T65.heap [] := Keep.trans K0 K65q all0
    have qhe : v1 = 0 ∨ v1 = 1 := by rw [hv1]; split <;> simp
    have pre66 : ∀ t, Steps p.tables e below (T65.setTop (mkF m 117 #[vI p1, vI p2, vI p3, vI 1, vI v1, vI ((((p1.toUInt32 >>> ((3 : Int32) &&& 31).toUInt32).toInt32) &&& (3 : Int32)) % (3 : Int32)), vI y0_, vI y1_, vI y2_, vI y3_, vR o65, .val .null, .unset, .unset, .unset] [])) t → Steps p.tables e below (s₁.setTop (entryFrame m #[(.int p1), (.int p2), (.int p3)] maxLocals)) t := by
      intro t kt
      refine pre9 t ?_
      show SA T2 m 66 #[vI p1, vI p2, vI p3, vI 1, vI v1, vI ((((p1.toUInt32 >>> ((3 : Int32) &&& 31).toUInt32).toInt32) &&& (3 : Int32)) % (3 : Int32)), vI y0_, vI y1_, vI y2_, vI y3_, .unset, .unset, .unset, .unset, .unset] []
      refine XS.iloadN X2.here hx rfl (hb hby at_66) rfl ?_
      show SA T2 m 67 #[vI p1, vI p2, vI p3, vI 1, vI v1, vI ((((p1.toUInt32 >>> ((3 : Int32) &&& 31).toUInt32).toInt32) &&& (3 : Int32)) % (3 : Int32)), vI y0_, vI y1_, vI y2_, vI y3_, .unset, .unset, .unset, .unset, .unset] [iI 1]
      refine XS.ifYes X2.here hx rfl (pc0 := 67) (pc' := 77) rfl (hb hby at_67) rfl ((if0 _ _).trans (feq (by decide : ¬ ((1 : Int32) = (0 : Int32)))).2) (by decide) (by decide) ?_
      show SA T2 m 77 #[vI p1, vI p2, vI p3, vI 1, vI v1, vI ((((p1.toUInt32 >>> ((3 : Int32) &&& 31).toUInt32).toInt32) &&& (3 : Int32)) % (3 : Int32)), vI y0_, vI y1_, vI y2_, vI y3_, .unset, .unset, .unset, .unset, .unset] []
      refine XS.iloadN X2.here hx rfl (hb hby at_77) rfl ?_
      show SA T2 m 78 #[vI p1, vI p2, vI p3, vI 1, vI v1, vI ((((p1.toUInt32 >>> ((3 : Int32) &&& 31).toUInt32).toInt32) &&& (3 : Int32)) % (3 : Int32)), vI y0_, vI y1_, vI y2_, vI y3_, .unset, .unset, .unset, .unset, .unset] [iI 1]
      refine XS.iconst X2.here hx rfl (hb hby at_78) ?_
      show SA T2 m 79 #[vI p1, vI p2, vI p3, vI 1, vI v1, vI ((((p1.toUInt32 >>> ((3 : Int32) &&& 31).toUInt32).toInt32) &&& (3 : Int32)) % (3 : Int32)), vI y0_, vI y1_, vI y2_, vI y3_, .unset, .unset, .unset, .unset, .unset] [iI 1, iI 1]
      refine XS.icmpNo X2.here hx rfl (hb hby at_79) rfl (teq (by decide : (1 : Int32) = (1 : Int32))).2 ?_
      show SA T2 m 82 #[vI p1, vI p2, vI p3, vI 1, vI v1, vI ((((p1.toUInt32 >>> ((3 : Int32) &&& 31).toUInt32).toInt32) &&& (3 : Int32)) % (3 : Int32)), vI y0_, vI y1_, vI y2_, vI y3_, .unset, .unset, .unset, .unset, .unset] []
      refine XS.iload X2.here hx rfl (hb hby at_82) rfl ?_
      show SA T2 m 84 #[vI p1, vI p2, vI p3, vI 1, vI v1, vI ((((p1.toUInt32 >>> ((3 : Int32) &&& 31).toUInt32).toInt32) &&& (3 : Int32)) % (3 : Int32)), vI y0_, vI y1_, vI y2_, vI y3_, .unset, .unset, .unset, .unset, .unset] [iI y0_]
      refine st65 _ ?_
      show SA T65 m 87 #[vI p1, vI p2, vI p3, vI 1, vI v1, vI ((((p1.toUInt32 >>> ((3 : Int32) &&& 31).toUInt32).toInt32) &&& (3 : Int32)) % (3 : Int32)), vI y0_, vI y1_, vI y2_, vI y3_, .unset, .unset, .unset, .unset, .unset] [iR o65]
      refine XS.astore X65.here hx rfl (hb hby at_87) rfl rfl (l' := #[vI p1, vI p2, vI p3, vI 1, vI v1, vI ((((p1.toUInt32 >>> ((3 : Int32) &&& 31).toUInt32).toInt32) &&& (3 : Int32)) % (3 : Int32)), vI y0_, vI y1_, vI y2_, vI y3_, vR o65, .unset, .unset, .unset, .unset]) rfl ?_
      show SA T65 m 89 #[vI p1, vI p2, vI p3, vI 1, vI v1, vI ((((p1.toUInt32 >>> ((3 : Int32) &&& 31).toUInt32).toInt32) &&& (3 : Int32)) % (3 : Int32)), vI y0_, vI y1_, vI y2_, vI y3_, vR o65, .unset, .unset, .unset, .unset] []
      refine XS.goto X65.here hx rfl (pc0 := 89) (pc' := 114) rfl (hb hby at_89) (by decide) (by decide) ?_
      show SA T65 m 114 #[vI p1, vI p2, vI p3, vI 1, vI v1, vI ((((p1.toUInt32 >>> ((3 : Int32) &&& 31).toUInt32).toInt32) &&& (3 : Int32)) % (3 : Int32)), vI y0_, vI y1_, vI y2_, vI y3_, vR o65, .unset, .unset, .unset, .unset] []
      refine XS.aconstNull X65.here hx rfl (hb hby at_114) ?_
      show SA T65 m 115 #[vI p1, vI p2, vI p3, vI 1, vI v1, vI ((((p1.toUInt32 >>> ((3 : Int32) &&& 31).toUInt32).toInt32) &&& (3 : Int32)) % (3 : Int32)), vI y0_, vI y1_, vI y2_, vI y3_, vR o65, .unset, .unset, .unset, .unset] [.null]
      refine XS.astore X65.here hx rfl (hb hby at_115) rfl rfl (l' := #[vI p1, vI p2, vI p3, vI 1, vI v1, vI ((((p1.toUInt32 >>> ((3 : Int32) &&& 31).toUInt32).toInt32) &&& (3 : Int32)) % (3 : Int32)), vI y0_, vI y1_, vI y2_, vI y3_, vR o65, .val .null, .unset, .unset, .unset]) rfl ?_
      exact kt
    rcases qhe with rfl | rfl
    · have Oh68 := O0.keep K65 all0
      have S69_o65 := Safe.keep K65q sf0 R0.1 (Safe.new z_o65)
      have S69_d65 := Safe.keep K65q sf0 R0.1 (Safe.new z_d65)
      have R69 := R0.trans (CHr.keep K65q sf0 R0.1)
      obtain ⟨_, _, ⟨T67, L67, k67, n67⟩, -, X67, hS67q, gr67, ⟨Lc67, hQ67, l67, y67, z67, C67⟩, st67⟩ := callSS (s := s.setVm s.vm) X65 hx (y := mn_36) hown (mvT hZ (ww hw 8 rfl)) (mvT hZ (ww hw 9 rfl)) (mvT hZ (ww hw 10 rfl)) (mvT hZ (ww hw 11 rfl)) (by decide) (backOfSH (s := s) (vm0 := s.vm) (W := 0) (rm1_n l Z a0 hw [] o65 d65 kd65 (1 : Int32) [own_by y0_] (23 : Int32) (own_B1 [own_by y0_]) cs T65.heap n0 (Nat.le_trans Z0 K65.1) Oh68 E65q C65q F65q V65q (by decide) rfl (by decide) (by decide) rfl S_CS h_cs) hZ (ww hw 11 rfl) (ww hw 10 rfl) (by decide) (by decide) (own_EW hw) R69.1) (g := (mkF m 176 #[vI p1, vI p2, vI p3, vI 1, vI 0, vI ((((p1.toUInt32 >>> ((3 : Int32) &&& 31).toUInt32).toInt32) &&& (3 : Int32)) % (3 : Int32)), vI y0_, vI y1_, vI y2_, vI y3_, vR o65, .val .null, .unset, .unset, .unset] [.null, iR o65])) rfl (by rw [hml]; rfl) (argsL := [(.ref o65), .null]) (rest := []) (lenOf pd_30 rfl) rfl (wz rfl) (hb hby at_176) (fun _ _ => ⟨rfl, rfl, (by decide : 2 + 11 ≤ _), (by decide : 5 + 264 ≤ _)⟩)
      dsimp only [Pt.U, Pt.locs, Pt.cells, Pt.slots] at X67 hS67q gr67 l67 y67 z67 C67 st67 hQ67
      subst l67 y67 z67
      have hS67 := State.Since.trans ((State.WarmedH.refl s).since 0) hS67q (Nat.le_trans (Nat.zero_le _) gr67)
      have hZ : Z.Warmed39 (s.setVm T67.vm).vm := State.Warmed39.trans (t := s.setVm s.vm) hZ hS67q.1
      have hown : (s.setVm T67.vm).vm.findClass "com/example/cloud_to_core/cloudtocore/auth/HttpAuthorizationChallengePinLaw" = some m.cls := by rw [show (s.setVm T67.vm).vm = T67.vm from rfl, hS67q.1.alike.findClass]; exact hown
      have R67 := R69.trans C67
      obtain ⟨o67, d67, kd67, rfl, N67q, K67q, E67q, C67q, F67q, V67q⟩ := hQ67
      have N67 := Fr.app N65 N67q
      have K67 : Keep h0 T67.heap [] := Keep.trans K65 K67q all0
      have pre70 : ∀ t, Steps p.tables e below (T67.setTop (mkF m 181 #[vI p1, vI p2, vI p3, vI 1, vI 0, vI ((((p1.toUInt32 >>> ((3 : Int32) &&& 31).toUInt32).toInt32) &&& (3 : Int32)) % (3 : Int32)), vI y0_, vI y1_, vI y2_, vI y3_, vR o65, .val .null, vR o67, .unset, .unset] [])) t → Steps p.tables e below (s₁.setTop (entryFrame m #[(.int p1), (.int p2), (.int p3)] maxLocals)) t := by
        intro t kt
        refine pre66 t ?_
        show SA T65 m 117 #[vI p1, vI p2, vI p3, vI 1, vI 0, vI ((((p1.toUInt32 >>> ((3 : Int32) &&& 31).toUInt32).toInt32) &&& (3 : Int32)) % (3 : Int32)), vI y0_, vI y1_, vI y2_, vI y3_, vR o65, .val .null, .unset, .unset, .unset] []
        refine XS.iload X65.here hx rfl (hb hby at_117) rfl ?_
        show SA T65 m 119 #[vI p1, vI p2, vI p3, vI 1, vI 0, vI ((((p1.toUInt32 >>> ((3 : Int32) &&& 31).toUInt32).toInt32) &&& (3 : Int32)) % (3 : Int32)), vI y0_, vI y1_, vI y2_, vI y3_, vR o65, .val .null, .unset, .unset, .unset] [iI 0]
        refine XS.ifYes X65.here hx rfl (pc0 := 119) (pc' := 172) rfl (hb hby at_119) rfl ((if0 _ _).trans (teq (by decide : (0 : Int32) = (0 : Int32))).1) (by decide) (by decide) ?_
        show SA T65 m 172 #[vI p1, vI p2, vI p3, vI 1, vI 0, vI ((((p1.toUInt32 >>> ((3 : Int32) &&& 31).toUInt32).toInt32) &&& (3 : Int32)) % (3 : Int32)), vI y0_, vI y1_, vI y2_, vI y3_, vR o65, .val .null, .unset, .unset, .unset] []
        refine XS.aload X65.here hx rfl (hb hby at_172) rfl rfl ?_
        show SA T65 m 174 #[vI p1, vI p2, vI p3, vI 1, vI 0, vI ((((p1.toUInt32 >>> ((3 : Int32) &&& 31).toUInt32).toInt32) &&& (3 : Int32)) % (3 : Int32)), vI y0_, vI y1_, vI y2_, vI y3_, vR o65, .val .null, .unset, .unset, .unset] [iR o65]
        refine XS.aload X65.here hx rfl (hb hby at_174) rfl rfl ?_
        show SA T65 m 176 #[vI p1, vI p2, vI p3, vI 1, vI 0, vI ((((p1.toUInt32 >>> ((3 : Int32) &&& 31).toUInt32).toInt32) &&& (3 : Int32)) % (3 : Int32)), vI y0_, vI y1_, vI y2_, vI y3_, vR o65, .val .null, .unset, .unset, .unset] [.null, iR o65]
        refine st67.trans ?_
        show SA T67 m 179 #[vI p1, vI p2, vI p3, vI 1, vI 0, vI ((((p1.toUInt32 >>> ((3 : Int32) &&& 31).toUInt32).toInt32) &&& (3 : Int32)) % (3 : Int32)), vI y0_, vI y1_, vI y2_, vI y3_, vR o65, .val .null, .unset, .unset, .unset] [iR o67]
        refine XS.astore X67.here hx rfl (hb hby at_179) rfl rfl (l' := #[vI p1, vI p2, vI p3, vI 1, vI 0, vI ((((p1.toUInt32 >>> ((3 : Int32) &&& 31).toUInt32).toInt32) &&& (3 : Int32)) % (3 : Int32)), vI y0_, vI y1_, vI y2_, vI y3_, vR o65, .val .null, vR o67, .unset, .unset]) rfl ?_
        exact kt
      obtain ⟨s₂, o₂, hs₂, hr₂⟩ := own_end_n (lv := (1 : Int32)) (ev := ((((p1.toUInt32 >>> ((3 : Int32) &&& 31).toUInt32).toInt32) &&& (3 : Int32)) % (3 : Int32))) (y0_ := y0_) (y1_ := y1_) (y2_ := y2_) (y3_ := y3_) (sc := o65) (s := s) (vmT := T67.vm) (X67.more (by decide) (by decide)) hx hZ hw hby hml hown Bd.returns (by first | assumption | exact BodyLoose.notSynchronized (by assumption) | exact Body.notSynchronized (by assumption)) (rfl : T67.heap = _) K67 N67 Z0 O0 hS67 (Nat.le_refl _) R67 hh E67q C67q F67q V67q (by decide) rfl (by decide) (fun _ => ⟨by decide, by decide, own_gd (i := 0) (by decide) rfl (own_rt hl_y0_)⟩) (fun h => absurd (by decide) h) (by decide) (own_re1_1 _) S_CS h_cs S_F h_fm
      exact ⟨s₂, o₂, pre70 _ hs₂, hr₂⟩
    · obtain ⟨ev, hev⟩ : ∃ z : Int32, z = ((((p1.toUInt32 >>> ((3 : Int32) &&& 31).toUInt32).toInt32) &&& (3 : Int32)) % (3 : Int32)) := ⟨_, rfl⟩
      have qev : ev = 0 ∨ ev = 1 ∨ ev = 2 := by rw [hev]; exact own_small3 _ (own_rem3 _).1 (own_rem3 _).2
      have pre72 : ∀ t, Steps p.tables e below (T65.setTop (mkF m 122 #[vI p1, vI p2, vI p3, vI 1, vI 1, vI ev, vI y0_, vI y1_, vI y2_, vI y3_, vR o65, .val .null, .unset, .unset, .unset] [])) t → Steps p.tables e below (s₁.setTop (entryFrame m #[(.int p1), (.int p2), (.int p3)] maxLocals)) t := by
        intro t kt
        refine pre66 t ?_
        show SA T65 m 117 #[vI p1, vI p2, vI p3, vI 1, vI 1, vI ((((p1.toUInt32 >>> ((3 : Int32) &&& 31).toUInt32).toInt32) &&& (3 : Int32)) % (3 : Int32)), vI y0_, vI y1_, vI y2_, vI y3_, vR o65, .val .null, .unset, .unset, .unset] []
        refine XS.iload X65.here hx rfl (hb hby at_117) rfl ?_
        show SA T65 m 119 #[vI p1, vI p2, vI p3, vI 1, vI 1, vI ((((p1.toUInt32 >>> ((3 : Int32) &&& 31).toUInt32).toInt32) &&& (3 : Int32)) % (3 : Int32)), vI y0_, vI y1_, vI y2_, vI y3_, vR o65, .val .null, .unset, .unset, .unset] [iI 1]
        refine XS.ifNo X65.here hx rfl (hb hby at_119) rfl ((if0 _ _).trans (feq (by decide : ¬ ((1 : Int32) = (0 : Int32)))).1) ?_
        rw [← hev]
        exact kt
      rcases qev with rfl | rfl | rfl
      · have S73_o65 := Safe.keep K65q sf0 R0.1 (Safe.new z_o65)
        have S73_d65 := Safe.keep K65q sf0 R0.1 (Safe.new z_d65)
        have R73 := R0.trans (CHr.keep K65q sf0 R0.1)
        obtain ⟨la74, T74, h74, kk74, lb74, kl74, X74, e74, E74, hS74, hk74, hZ, hown, EE74, FC74, FV74, VV74, -, -, C74, li74, ne74, st74⟩ := ldcCH (s := s) (vm0 := s.vm) X65 hx hZ hown (ww hw 0 rfl) (own_strAtoms hw) rfl ((State.WarmedH.refl s).since 0) (Nat.zero_le _) (own_EW hw) (List.mem_of_getElem? (i := 4) rfl) R73.1 (vs := own_bs []) (z := (0 : Int32)) own_ct4 (by decide) (by decide) (g := (mkF m 127 #[vI p1, vI p2, vI p3, vI 1, vI 1, vI 0, vI y0_, vI y1_, vI y2_, vI y3_, vR o65, .val .null, .unset, .unset, .unset] [])) rfl (hb hby at_127) (n := 0) (by decide) (by decide) (by decide) (by decide)
        have K74 : Keep h0 h74 [] := K65.ext E74
        have S74_o65 := C74.safe E65q.lt S73_o65
        have S74_d65 := C74.safe V65q.lt S73_d65
        have R74 := R73.trans C74
        have fk76 := (E65q.ext E74)
        have fk77 := (C65q.ext E74)
        have fk78 := (F65q.ext E74)
        have fk79 := (V65q.ext E74)
        have Oh80 := O0.keep K74 all0
        obtain ⟨_, _, ⟨T75, L75, k75, n75⟩, -, X75, hS75q, gr75, ⟨Lc75, hQ75, l75, y75, z75, C75⟩, st75⟩ := callSS (s := s.setVm T74.vm) X74 hx (y := mn_36) hown (mvT hZ (ww hw 8 rfl)) (mvT hZ (ww hw 9 rfl)) (mvT hZ (ww hw 10 rfl)) (mvT hZ (ww hw 11 rfl)) (by decide) (backOfSH (s := s) (vm0 := T74.vm) (W := 0) (rm1_e l Z a0 hw [] o65 la74 d65 kd65 (1 : Int32) [own_by y0_] lb74 kl74 (0 : Int32) [] (33 : Int32) (own_B2 [own_by y0_] []) cs h74 n0 (Nat.le_trans Z0 K74.1) Oh80 fk76 fk77 fk78 fk79 (by decide) rfl EE74 FC74 FV74 VV74 (by decide) (by decide) (by decide) (by decide) (by decide) rfl S_CS h_cs) hZ (ww hw 11 rfl) (ww hw 10 rfl) (by decide) (by decide) (own_EW hw) R74.1) (g := (mkF m 176 #[vI p1, vI p2, vI p3, vI 1, vI 1, vI 0, vI y0_, vI y1_, vI y2_, vI y3_, vR o65, vR la74, .unset, .unset, .unset] [iR la74, iR o65])) rfl (by rw [hml]; rfl) (argsL := [(.ref o65), (.ref la74)]) (rest := []) (lenOf pd_30 rfl) rfl (wz rfl) (hb hby at_176) (fun _ _ => ⟨rfl, e74, (by decide : 4 + 21 ≤ _), (by decide : 9 + 546 ≤ _)⟩)
        dsimp only [Pt.U, Pt.locs, Pt.cells, Pt.slots] at X75 hS75q gr75 l75 y75 z75 C75 st75 hQ75
        subst l75 y75 z75
        have hS75 := State.Since.trans hS74 hS75q (Nat.le_trans (by have q := hk74; rw [← e74] at q; exact q) gr75)
        have hZ : Z.Warmed39 (s.setVm T75.vm).vm := State.Warmed39.trans (t := s.setVm T74.vm) hZ hS75q.1
        have hown : (s.setVm T75.vm).vm.findClass "com/example/cloud_to_core/cloudtocore/auth/HttpAuthorizationChallengePinLaw" = some m.cls := by rw [show (s.setVm T75.vm).vm = T75.vm from rfl, hS75q.1.alike.findClass]; exact hown
        have R75 := R74.trans C75
        obtain ⟨o75, d75, kd75, rfl, N75q, K75q, E75q, C75q, F75q, V75q⟩ := hQ75
        have N75 := Fr.app N65 N75q
        have K75 : Keep h0 T75.heap [] := Keep.trans K74 K75q all0
        have pre81 : ∀ t, Steps p.tables e below (T75.setTop (mkF m 181 #[vI p1, vI p2, vI p3, vI 1, vI 1, vI 0, vI y0_, vI y1_, vI y2_, vI y3_, vR o65, vR la74, vR o75, .unset, .unset] [])) t → Steps p.tables e below (s₁.setTop (entryFrame m #[(.int p1), (.int p2), (.int p3)] maxLocals)) t := by
          intro t kt
          refine pre72 t ?_
          show SA T65 m 122 #[vI p1, vI p2, vI p3, vI 1, vI 1, vI 0, vI y0_, vI y1_, vI y2_, vI y3_, vR o65, .val .null, .unset, .unset, .unset] []
          refine XS.iload X65.here hx rfl (hb hby at_122) rfl ?_
          show SA T65 m 124 #[vI p1, vI p2, vI p3, vI 1, vI 1, vI 0, vI y0_, vI y1_, vI y2_, vI y3_, vR o65, .val .null, .unset, .unset, .unset] [iI 0]
          refine XS.ifNo X65.here hx rfl (hb hby at_124) rfl ((if0 _ _).trans (teq (by decide : (0 : Int32) = (0 : Int32))).2) ?_
          show SA T65 m 127 #[vI p1, vI p2, vI p3, vI 1, vI 1, vI 0, vI y0_, vI y1_, vI y2_, vI y3_, vR o65, .val .null, .unset, .unset, .unset] []
          refine st74 _ ?_
          show SA T74 m 129 #[vI p1, vI p2, vI p3, vI 1, vI 1, vI 0, vI y0_, vI y1_, vI y2_, vI y3_, vR o65, .val .null, .unset, .unset, .unset] [iR la74]
          refine XS.astore X74.here hx rfl (hb hby at_129) rfl rfl (l' := #[vI p1, vI p2, vI p3, vI 1, vI 1, vI 0, vI y0_, vI y1_, vI y2_, vI y3_, vR o65, vR la74, .unset, .unset, .unset]) rfl ?_
          show SA T74 m 131 #[vI p1, vI p2, vI p3, vI 1, vI 1, vI 0, vI y0_, vI y1_, vI y2_, vI y3_, vR o65, vR la74, .unset, .unset, .unset] []
          refine XS.goto X74.here hx rfl (pc0 := 131) (pc' := 172) rfl (hb hby at_131) (by decide) (by decide) ?_
          show SA T74 m 172 #[vI p1, vI p2, vI p3, vI 1, vI 1, vI 0, vI y0_, vI y1_, vI y2_, vI y3_, vR o65, vR la74, .unset, .unset, .unset] []
          refine XS.aload X74.here hx rfl (hb hby at_172) rfl rfl ?_
          show SA T74 m 174 #[vI p1, vI p2, vI p3, vI 1, vI 1, vI 0, vI y0_, vI y1_, vI y2_, vI y3_, vR o65, vR la74, .unset, .unset, .unset] [iR o65]
          refine XS.aload X74.here hx rfl (hb hby at_174) rfl rfl ?_
          show SA T74 m 176 #[vI p1, vI p2, vI p3, vI 1, vI 1, vI 0, vI y0_, vI y1_, vI y2_, vI y3_, vR o65, vR la74, .unset, .unset, .unset] [iR la74, iR o65]
          refine st75.trans ?_
          show SA T75 m 179 #[vI p1, vI p2, vI p3, vI 1, vI 1, vI 0, vI y0_, vI y1_, vI y2_, vI y3_, vR o65, vR la74, .unset, .unset, .unset] [iR o75]
          refine XS.astore X75.here hx rfl (hb hby at_179) rfl rfl (l' := #[vI p1, vI p2, vI p3, vI 1, vI 1, vI 0, vI y0_, vI y1_, vI y2_, vI y3_, vR o65, vR la74, vR o75, .unset, .unset]) rfl ?_
          exact kt
        obtain ⟨s₂, o₂, hs₂, hr₂⟩ := own_end_e (lv := (1 : Int32)) (ev := (0 : Int32)) (y0_ := y0_) (y1_ := y1_) (y2_ := y2_) (y3_ := y3_) (sc := o65) (er := la74) (s := s) (vmT := T75.vm) (X75.more (by decide) (by decide)) hx hZ hw hby hml hown Bd.returns (by first | assumption | exact BodyLoose.notSynchronized (by assumption) | exact Body.notSynchronized (by assumption)) (rfl : T75.heap = _) K75 N75 Z0 O0 hS75 (Nat.le_refl _) R75 hh E75q C75q F75q V75q (by decide) rfl (by decide) (fun _ => ⟨by decide, by decide, own_gd (i := 0) (by decide) rfl (own_rt hl_y0_)⟩) (fun h => absurd (by decide) h) (by decide) (own_re2_1 _ _) (by decide) (own_er2_1 _ _) (fun h => absurd (by decide) h) (fun h => absurd (by decide) h) ⟨by decide, by decide, own_gd (i := 32) (c := (34 : Int32)) (by decide) rfl (by decide)⟩ S_CS h_cs S_F h_fm
        exact ⟨s₂, o₂, pre81 _ hs₂, hr₂⟩
      · have Oh83 := O0.keep K65 all0
        obtain ⟨_, _, ⟨T82, L82, k82, n82⟩, -, X82, ⟨Lc82, hQ82, l82, y82, z82⟩, st82⟩ := Jvm.LawKit.callS X65 hx (y := mn_33) hown (mvT hZ (ww hw 176 rfl)) (mvT hZ (ww hw 177 rfl)) (mvT hZ (ww hw 1 rfl)) (mvT hZ (ww hw 178 rfl)) (by decide) (backOf (W := 0) (rm34 l Z a0 hw [] y2_ cs T65.heap n0 (Nat.le_trans Z0 K65.1) Oh83 (own_le255 hl_y2_) S_CS h_cs) hZ (ww hw 178 rfl) (ww hw 1 rfl) (by decide) (by decide)) (g := (mkF m 142 #[vI p1, vI p2, vI p3, vI 1, vI 1, vI 1, vI y0_, vI y1_, vI y2_, vI y3_, vR o65, .val .null, .unset, .unset, .unset] [iI y2_])) rfl (by rw [hml]; rfl) (argsL := [(.int y2_)]) (rest := []) (lenOf pd_31 rfl) rfl (wz rfl) (hb hby at_142) (fun _ _ => ⟨rfl, rfl, (by decide : 2 + 2 ≤ _), (by decide : 5 + 5 ≤ _)⟩)
        dsimp only [Pt.U, Pt.locs, Pt.cells, Pt.slots] at X82 l82 y82 z82 st82 hQ82
        subst l82 y82 z82
        obtain ⟨o82, d82, kd82, rfl, N82q, K82q, E82q, C82q, F82q, V82q, z_o82, z_d82⟩ := hQ82
        have ne_o65_o82 : o65 ≠ o82 := Nat.ne_of_lt (Nat.lt_of_lt_of_le E65q.lt z_o82)
        have ne_d65_o82 : d65 ≠ o82 := Nat.ne_of_lt (Nat.lt_of_lt_of_le V65q.lt z_o82)
        have sz_o82 : h0.size ≤ o82 := Nat.le_trans K65.1 z_o82
        have g_o82 : n0 ≤ o82 := Nat.le_trans Z0 sz_o82
        have ne_o65_d82 : o65 ≠ d82 := Nat.ne_of_lt (Nat.lt_of_lt_of_le E65q.lt z_d82)
        have ne_d65_d82 : d65 ≠ d82 := Nat.ne_of_lt (Nat.lt_of_lt_of_le V65q.lt z_d82)
        have sz_d82 : h0.size ≤ d82 := Nat.le_trans K65.1 z_d82
        have g_d82 : n0 ≤ d82 := Nat.le_trans Z0 sz_d82
        have N82 := Fr.app N65 N82q
        have K82 : Keep h0 T82.heap [] := Keep.trans K65 K82q all0
        have fk85 := (E65q.keep K82q)
        have fk86 := (C65q.keep K82q nin0)
        have fk87 := (F65q.keep K82q nin0)
        have fk88 := (V65q.keep K82q nin0)
        have Oh89 := O0.keep K82 all0
        have S90_o65 := Safe.keep K65q sf0 R0.1 (Safe.new z_o65)
        have S90_d65 := Safe.keep K65q sf0 R0.1 (Safe.new z_d65)
        have R90 := R0.trans (CHr.keep K65q sf0 R0.1)
        have S91_o65 := Safe.keep K82q sf0 R90.1 S90_o65
        have S91_d65 := Safe.keep K82q sf0 R90.1 S90_d65
        have S91_o82 := Safe.keep K82q sf0 R90.1 (Safe.new z_o82)
        have S91_d82 := Safe.keep K82q sf0 R90.1 (Safe.new z_d82)
        have R91 := R90.trans (CHr.keep K82q sf0 R90.1)
        obtain ⟨_, _, ⟨T84, L84, k84, n84⟩, -, X84, hS84q, gr84, ⟨Lc84, hQ84, l84, y84, z84, C84⟩, st84⟩ := callSS (s := s.setVm s.vm) X82 hx (y := mn_36) hown (mvT hZ (ww hw 8 rfl)) (mvT hZ (ww hw 9 rfl)) (mvT hZ (ww hw 10 rfl)) (mvT hZ (ww hw 11 rfl)) (by decide) (backOfSH (s := s) (vm0 := s.vm) (W := 0) (rm1_e l Z a0 hw [] o65 o82 d65 kd65 (1 : Int32) [own_by y0_] d82 kd82 (1 : Int32) [own_by y2_] (34 : Int32) (own_B2 [own_by y0_] [own_by y2_]) cs T82.heap n0 (Nat.le_trans Z0 K82.1) Oh89 fk85 fk86 fk87 fk88 (by decide) rfl E82q C82q F82q V82q (by decide) rfl (by decide) (by decide) (by decide) rfl S_CS h_cs) hZ (ww hw 11 rfl) (ww hw 10 rfl) (by decide) (by decide) (own_EW hw) R91.1) (g := (mkF m 176 #[vI p1, vI p2, vI p3, vI 1, vI 1, vI 1, vI y0_, vI y1_, vI y2_, vI y3_, vR o65, vR o82, .unset, .unset, .unset] [iR o82, iR o65])) rfl (by rw [hml]; rfl) (argsL := [(.ref o65), (.ref o82)]) (rest := []) (lenOf pd_30 rfl) rfl (wz rfl) (hb hby at_176) (fun _ _ => ⟨rfl, rfl, (by decide : 4 + 21 ≤ _), (by decide : 10 + 546 ≤ _)⟩)
        dsimp only [Pt.U, Pt.locs, Pt.cells, Pt.slots] at X84 hS84q gr84 l84 y84 z84 C84 st84 hQ84
        subst l84 y84 z84
        have hS84 := State.Since.trans ((State.WarmedH.refl s).since 0) hS84q (Nat.le_trans (Nat.zero_le _) gr84)
        have hZ : Z.Warmed39 (s.setVm T84.vm).vm := State.Warmed39.trans (t := s.setVm s.vm) hZ hS84q.1
        have hown : (s.setVm T84.vm).vm.findClass "com/example/cloud_to_core/cloudtocore/auth/HttpAuthorizationChallengePinLaw" = some m.cls := by rw [show (s.setVm T84.vm).vm = T84.vm from rfl, hS84q.1.alike.findClass]; exact hown
        have R84 := R91.trans C84
        obtain ⟨o84, d84, kd84, rfl, N84q, K84q, E84q, C84q, F84q, V84q⟩ := hQ84
        have N84 := Fr.app N82 N84q
        have K84 : Keep h0 T84.heap [] := Keep.trans K82 K84q all0
        have pre92 : ∀ t, Steps p.tables e below (T84.setTop (mkF m 181 #[vI p1, vI p2, vI p3, vI 1, vI 1, vI 1, vI y0_, vI y1_, vI y2_, vI y3_, vR o65, vR o82, vR o84, .unset, .unset] [])) t → Steps p.tables e below (s₁.setTop (entryFrame m #[(.int p1), (.int p2), (.int p3)] maxLocals)) t := by
          intro t kt
          refine pre72 t ?_
          show SA T65 m 122 #[vI p1, vI p2, vI p3, vI 1, vI 1, vI 1, vI y0_, vI y1_, vI y2_, vI y3_, vR o65, .val .null, .unset, .unset, .unset] []
          refine XS.iload X65.here hx rfl (hb hby at_122) rfl ?_
          show SA T65 m 124 #[vI p1, vI p2, vI p3, vI 1, vI 1, vI 1, vI y0_, vI y1_, vI y2_, vI y3_, vR o65, .val .null, .unset, .unset, .unset] [iI 1]
          refine XS.ifYes X65.here hx rfl (pc0 := 124) (pc' := 134) rfl (hb hby at_124) rfl ((if0 _ _).trans (feq (by decide : ¬ ((1 : Int32) = (0 : Int32)))).2) (by decide) (by decide) ?_
          show SA T65 m 134 #[vI p1, vI p2, vI p3, vI 1, vI 1, vI 1, vI y0_, vI y1_, vI y2_, vI y3_, vR o65, .val .null, .unset, .unset, .unset] []
          refine XS.iload X65.here hx rfl (hb hby at_134) rfl ?_
          show SA T65 m 136 #[vI p1, vI p2, vI p3, vI 1, vI 1, vI 1, vI y0_, vI y1_, vI y2_, vI y3_, vR o65, .val .null, .unset, .unset, .unset] [iI 1]
          refine XS.iconst X65.here hx rfl (hb hby at_136) ?_
          show SA T65 m 137 #[vI p1, vI p2, vI p3, vI 1, vI 1, vI 1, vI y0_, vI y1_, vI y2_, vI y3_, vR o65, .val .null, .unset, .unset, .unset] [iI 1, iI 1]
          refine XS.icmpNo X65.here hx rfl (hb hby at_137) rfl (teq (by decide : (1 : Int32) = (1 : Int32))).2 ?_
          show SA T65 m 140 #[vI p1, vI p2, vI p3, vI 1, vI 1, vI 1, vI y0_, vI y1_, vI y2_, vI y3_, vR o65, .val .null, .unset, .unset, .unset] []
          refine XS.iload X65.here hx rfl (hb hby at_140) rfl ?_
          show SA T65 m 142 #[vI p1, vI p2, vI p3, vI 1, vI 1, vI 1, vI y0_, vI y1_, vI y2_, vI y3_, vR o65, .val .null, .unset, .unset, .unset] [iI y2_]
          refine st82 _ ?_
          show SA T82 m 145 #[vI p1, vI p2, vI p3, vI 1, vI 1, vI 1, vI y0_, vI y1_, vI y2_, vI y3_, vR o65, .val .null, .unset, .unset, .unset] [iR o82]
          refine XS.astore X82.here hx rfl (hb hby at_145) rfl rfl (l' := #[vI p1, vI p2, vI p3, vI 1, vI 1, vI 1, vI y0_, vI y1_, vI y2_, vI y3_, vR o65, vR o82, .unset, .unset, .unset]) rfl ?_
          show SA T82 m 147 #[vI p1, vI p2, vI p3, vI 1, vI 1, vI 1, vI y0_, vI y1_, vI y2_, vI y3_, vR o65, vR o82, .unset, .unset, .unset] []
          refine XS.goto X82.here hx rfl (pc0 := 147) (pc' := 172) rfl (hb hby at_147) (by decide) (by decide) ?_
          show SA T82 m 172 #[vI p1, vI p2, vI p3, vI 1, vI 1, vI 1, vI y0_, vI y1_, vI y2_, vI y3_, vR o65, vR o82, .unset, .unset, .unset] []
          refine XS.aload X82.here hx rfl (hb hby at_172) rfl rfl ?_
          show SA T82 m 174 #[vI p1, vI p2, vI p3, vI 1, vI 1, vI 1, vI y0_, vI y1_, vI y2_, vI y3_, vR o65, vR o82, .unset, .unset, .unset] [iR o65]
          refine XS.aload X82.here hx rfl (hb hby at_174) rfl rfl ?_
          show SA T82 m 176 #[vI p1, vI p2, vI p3, vI 1, vI 1, vI 1, vI y0_, vI y1_, vI y2_, vI y3_, vR o65, vR o82, .unset, .unset, .unset] [iR o82, iR o65]
          refine st84.trans ?_
          show SA T84 m 179 #[vI p1, vI p2, vI p3, vI 1, vI 1, vI 1, vI y0_, vI y1_, vI y2_, vI y3_, vR o65, vR o82, .unset, .unset, .unset] [iR o84]
          refine XS.astore X84.here hx rfl (hb hby at_179) rfl rfl (l' := #[vI p1, vI p2, vI p3, vI 1, vI 1, vI 1, vI y0_, vI y1_, vI y2_, vI y3_, vR o65, vR o82, vR o84, .unset, .unset]) rfl ?_
          exact kt
        obtain ⟨s₂, o₂, hs₂, hr₂⟩ := own_end_e (lv := (1 : Int32)) (ev := (1 : Int32)) (y0_ := y0_) (y1_ := y1_) (y2_ := y2_) (y3_ := y3_) (sc := o65) (er := o82) (s := s) (vmT := T84.vm) (X84.more (by decide) (by decide)) hx hZ hw hby hml hown Bd.returns (by first | assumption | exact BodyLoose.notSynchronized (by assumption) | exact Body.notSynchronized (by assumption)) (rfl : T84.heap = _) K84 N84 Z0 O0 hS84 (Nat.le_refl _) R84 hh E84q C84q F84q V84q (by decide) rfl (by decide) (fun _ => ⟨by decide, by decide, own_gd (i := 0) (by decide) rfl (own_rt hl_y0_)⟩) (fun h => absurd (by decide) h) (by decide) (own_re2_1 _ _) (by decide) (own_er2_1 _ _) (fun _ => ⟨by decide, by decide, own_gd (i := 32) (by decide) rfl (own_rt hl_y2_)⟩) (fun h => absurd (by decide) h) ⟨by decide, by decide, own_gd (i := 33) (c := (34 : Int32)) (by decide) rfl (by decide)⟩ S_CS h_cs S_F h_fm
        exact ⟨s₂, o₂, pre92 _ hs₂, hr₂⟩
      · obtain ⟨T93, h93, X93, e93, E93, A93, D93, -, st93⟩ := newO X65 hx hZ hown (ww hw 193 rfl) (ww hw 2 rfl) (ww hw 1 rfl) rfl (g := (mkF m 150 #[vI p1, vI p2, vI p3, vI 1, vI 1, vI 2, vI y0_, vI y1_, vI y2_, vI y3_, vR o65, .val .null, .unset, .unset, .unset] [])) rfl (hb hby at_150) (by decide) (by decide)
        obtain ⟨b93, g93⟩ : ∃ z, z = T65.heap.size := ⟨_, rfl⟩
        rw [← g93] at A93 D93 st93
        have ne_o65_b93 : o65 ≠ b93 := Nat.ne_of_lt (Nat.lt_of_lt_of_le E65q.lt (Nat.le_of_eq g93.symm))
        have ne_d65_b93 : d65 ≠ b93 := Nat.ne_of_lt (Nat.lt_of_lt_of_le V65q.lt (Nat.le_of_eq g93.symm))
        have sz_b93 : h0.size ≤ b93 := Nat.le_trans K65.1 (Nat.le_of_eq g93.symm)
        have g_b93 : n0 ≤ b93 := Nat.le_trans Z0 sz_b93
        have K93 : Keep h0 h93 [] := K65.ext E93
        have F_value_b93 : Fld Z h93 b93 "java/lang/String" "value" "[B" .null := D93 (Or.inr (ww hw 4 rfl)) (ty := (.array .byte)) (by decide)
        have F_coder_b93 : Fld Z h93 b93 "java/lang/String" "coder" "B" (.int (0 : Int32)) := D93 (Or.inr (ww hw 5 rfl)) (ty := .byte) (by decide)
        obtain ⟨T94, h94, k94, X94, e94, E94, A94, st94⟩ := newP X93 hx hZ (ww hw 194 rfl) e93 (g := (mkF m 155 #[vI p1, vI p2, vI p3, vI 1, vI 1, vI 2, vI y0_, vI y1_, vI y2_, vI y3_, vR o65, .val .null, .unset, .unset, .unset] [iI 2, iR b93, iR b93])) rfl (hb hby at_155) rfl (by decide) (cap := 2) (by decide) (by decide) (by decide) (by decide)
        obtain ⟨b94, g94⟩ : ∃ z, z = h93.size := ⟨_, rfl⟩
        rw [← g94] at A94 st94
        have fk95 := (E65q.ext E93)
        have ne_o65_b94 : o65 ≠ b94 := Nat.ne_of_lt (Nat.lt_of_lt_of_le fk95.lt (Nat.le_of_eq g94.symm))
        have fk96 := (V65q.ext E93)
        have ne_d65_b94 : d65 ≠ b94 := Nat.ne_of_lt (Nat.lt_of_lt_of_le fk96.lt (Nat.le_of_eq g94.symm))
        have ne_b93_b94 : b93 ≠ b94 := Nat.ne_of_lt (Nat.lt_of_lt_of_le A93.lt (Nat.le_of_eq g94.symm))
        have sz_b94 : h0.size ≤ b94 := Nat.le_trans K93.1 (Nat.le_of_eq g94.symm)
        have g_b94 : n0 ≤ b94 := Nat.le_trans Z0 sz_b94
        have K94 : Keep h0 h94 [] := K93.ext E94
        have V94 : Arv Z h94 b94 k94 .char (2 : Int32) [(.int (0 : Int32)), (.int (0 : Int32))] (.int (0 : Int32)) := (Arv.new A94 (by decide)).pad (pad_rep [] (.int (0 : Int32)) 2)
        obtain ⟨cl97, Ar97, q97, S97, M97, H97, G97⟩ := id V94
        have hin98 : ¬ ((0 : Int32) < 0 ∨ cl97.slots.size ≤ ((0 : Int32)).toNatClampNeg) := inb_of S97 ⟨by decide, by decide⟩
        obtain ⟨T99, h99, X99, e99, W99, st99⟩ := stC X94 hx hZ e94 Ar97 (j := (0 : Int32)) hin98 (g := (mkF m 161 #[vI p1, vI p2, vI p3, vI 1, vI 1, vI 2, vI y0_, vI y1_, vI y2_, vI y3_, vR o65, .val .null, .unset, .unset, .unset] [iI y2_, iI 0, iR b94, iR b94, iR b93, iR b93])) rfl rfl (hb hby at_161)
        have V99 : Arv Z h99 b94 k94 .char (2 : Int32) [(.int (nar .char y2_)), (.int (0 : Int32))] (.int (0 : Int32)) := Arv.set Ar97 q97 S97 M97 H97 G97 (fits_nar_char _) W99 0 rfl (Nat.le_of_ble_eq_true rfl)
        have K99 : Keep h0 h99 [] := K94.wr W99 (Or.inr sz_b94)
        have N99 := Fr.snoc X99 N65 g_b94
        obtain ⟨cl100, Ar100, q100, S100, M100, H100, G100⟩ := id V99
        have hin101 : ¬ ((1 : Int32) < 0 ∨ cl100.slots.size ≤ ((1 : Int32)).toNatClampNeg) := inb_of S100 ⟨by decide, by decide⟩
        obtain ⟨T102, h102, X102, e102, W102, st102⟩ := stC X99 hx hZ e99 Ar100 (j := (1 : Int32)) hin101 (g := (mkF m 166 #[vI p1, vI p2, vI p3, vI 1, vI 1, vI 2, vI y0_, vI y1_, vI y2_, vI y3_, vR o65, .val .null, .unset, .unset, .unset] [iI y3_, iI 1, iR b94, iR b94, iR b93, iR b93])) rfl rfl (hb hby at_166)
        have V102 : Arv Z h102 b94 k94 .char (2 : Int32) [(.int (nar .char y2_)), (.int (nar .char y3_))] (.int (0 : Int32)) := Arv.set Ar100 q100 S100 M100 H100 G100 (fits_nar_char _) W102 1 rfl (Nat.le_of_ble_eq_true rfl)
        have K102 : Keep h0 h102 [] := K99.wr W102 (Or.inr sz_b94)
        have N102 := Fr.snoc X102 N99 g_b94
        have VC103 : Arv Z h102 b94 k94 .char (2 : Int32) [(.int y2_), (.int y3_)] (.int (0 : Int32)) := by have q := V102; rw [own_narc hl_y2_, own_narc hl_y3_] at q; exact q
        have fk105 := (((A93.ext E94).wr W99).wr W102)
        have fk106 := (((F_value_b93.ext E94).other W99 (Or.inl ne_b93_b94)).other W102 (Or.inl ne_b93_b94))
        have fk107 := (((F_coder_b93.ext E94).other W99 (Or.inl ne_b93_b94)).other W102 (Or.inl ne_b93_b94))
        have Oh108 := O0.keep K102 all0
        obtain ⟨_, _, ⟨T104, L104, k104, n104⟩, -, X104, ⟨Lc104, hQ104, l104, y104, z104⟩, st104⟩ := X102.specialBack hx (y := mn_41) rfl hown (mvT hZ (ww hw 195 rfl)) (mvT hZ (ww hw 196 rfl)) (mvT hZ (ww hw 197 rfl)) (by decide) (backOf (W := 1) (rm39_2 l Z a0 hw [] b93 b94 k94 y2_ y3_ cs h102 n0 (Nat.le_trans Z0 K102.1) Oh108 fk105 g_b93 fk106 fk107 VC103 ne_b93_b94 (own_le255 hl_y2_) (own_le255 hl_y3_) S_CS h_cs) hZ (ww hw 197 rfl) (ww hw 1 rfl) (by decide) (by decide)) (g := (mkF m 167 #[vI p1, vI p2, vI p3, vI 1, vI 1, vI 2, vI y0_, vI y1_, vI y2_, vI y3_, vR o65, .val .null, .unset, .unset, .unset] [iR b94, iR b93, iR b93])) rfl (by rw [hml]; rfl) (Steps.refl _) (a := b93) (argsL := [(.ref b94)]) (rest := [(.ref b93)]) (lenOf pd_32 rfl) rfl (wz rfl) (hb hby at_167) (fun _ _ => ⟨rfl, e102, (by decide : 4 + 1 ≤ _), (by decide : 11 + 2 ≤ _)⟩)
        dsimp only [Pt.U, Pt.locs, Pt.cells, Pt.slots] at X104 l104 y104 z104 st104 hQ104
        subst l104 y104 z104
        obtain ⟨d104, kd104, rfl, N104q, K104q, E104q, C104q, F104q, V104q, z_d104⟩ := hQ104
        have fk109 := (((fk95.ext E94).wr W99).wr W102)
        have fk110 := (((fk96.ext E94).other W99 ne_d65_b94).other W102 ne_d65_b94)
        have ne_o65_d104 : o65 ≠ d104 := Nat.ne_of_lt (Nat.lt_of_lt_of_le fk109.lt z_d104)
        have ne_d65_d104 : d65 ≠ d104 := Nat.ne_of_lt (Nat.lt_of_lt_of_le fk110.lt z_d104)
        have ne_b93_d104 : b93 ≠ d104 := Nat.ne_of_lt (Nat.lt_of_lt_of_le fk105.lt z_d104)
        have ne_b94_d104 : b94 ≠ d104 := Nat.ne_of_lt (Nat.lt_of_lt_of_le VC103.lt z_d104)
        have sz_d104 : h0.size ≤ d104 := Nat.le_trans K102.1 z_d104
        have g_d104 : n0 ≤ d104 := Nat.le_trans Z0 sz_d104
        have N104 := Fr.app N102 N104q
        have K104 : Keep h0 T104.heap [] := Keep.trans K102 K104q (allS (Or.inr sz_b93) all0)
        have fk112 := (fk109.keep K104q)
        have fk113 := (((((C65q.ext E93).ext E94).other W99 (Or.inl ne_o65_b94)).other W102 (Or.inl ne_o65_b94)).keep K104q (ninS ne_o65_b93 nin0))
        have fk114 := (((((F65q.ext E93).ext E94).other W99 (Or.inl ne_o65_b94)).other W102 (Or.inl ne_o65_b94)).keep K104q (ninS ne_o65_b93 nin0))
        have fk115 := (fk110.keep K104q (ninS ne_d65_b93 nin0))
        have Oh116 := O0.keep K104 all0
        have S117_o65 := Safe.keep K65q sf0 R0.1 (Safe.new z_o65)
        have S117_d65 := Safe.keep K65q sf0 R0.1 (Safe.new z_d65)
        have R117 := R0.trans (CHr.keep K65q sf0 R0.1)
        have S118_o65 := Safe.ext E93 R117.1 S117_o65
        have S118_d65 := Safe.ext E93 R117.1 S117_d65
        have S118_b93 := Safe.ext E93 R117.1 (Safe.new (Nat.le_of_eq g93.symm))
        have R118 := R117.trans (CHr.ext E93 R117.1)
        have S119_o65 := Safe.ext E94 R118.1 S118_o65
        have S119_d65 := Safe.ext E94 R118.1 S118_d65
        have S119_b93 := Safe.ext E94 R118.1 S118_b93
        have S119_b94 := Safe.ext E94 R118.1 (Safe.new (Nat.le_of_eq g94.symm))
        have R119 := R118.trans (CHr.ext E94 R118.1)
        have S120_o65 := Safe.wr W99 S119_b94 R119.1 S119_o65
        have S120_d65 := Safe.wr W99 S119_b94 R119.1 S119_d65
        have S120_b93 := Safe.wr W99 S119_b94 R119.1 S119_b93
        have S120_b94 := Safe.wr W99 S119_b94 R119.1 S119_b94
        have R120 := R119.trans (CHr.wr W99 S119_b94 R119.1)
        have S121_o65 := Safe.wr W102 S120_b94 R120.1 S120_o65
        have S121_d65 := Safe.wr W102 S120_b94 R120.1 S120_d65
        have S121_b93 := Safe.wr W102 S120_b94 R120.1 S120_b93
        have S121_b94 := Safe.wr W102 S120_b94 R120.1 S120_b94
        have R121 := R120.trans (CHr.wr W102 S120_b94 R120.1)
        have sq122 : ∀ x ∈ [b93], Safe Z consts_1 s.vm _ x := (sfS S121_b93 sf0)
        have S122_o65 := Safe.keep K104q sq122 R121.1 S121_o65
        have S122_d65 := Safe.keep K104q sq122 R121.1 S121_d65
        have S122_b93 := Safe.keep K104q sq122 R121.1 S121_b93
        have S122_b94 := Safe.keep K104q sq122 R121.1 S121_b94
        have S122_d104 := Safe.keep K104q sq122 R121.1 (Safe.new z_d104)
        have R122 := R121.trans (CHr.keep K104q sq122 R121.1)
        obtain ⟨_, _, ⟨T111, L111, k111, n111⟩, -, X111, hS111q, gr111, ⟨Lc111, hQ111, l111, y111, z111, C111⟩, st111⟩ := callSS (s := s.setVm s.vm) X104 hx (y := mn_36) hown (mvT hZ (ww hw 8 rfl)) (mvT hZ (ww hw 9 rfl)) (mvT hZ (ww hw 10 rfl)) (mvT hZ (ww hw 11 rfl)) (by decide) (backOfSH (s := s) (vm0 := s.vm) (W := 0) (rm1_e l Z a0 hw [] o65 b93 d65 kd65 (1 : Int32) [own_by y0_] d104 kd104 (2 : Int32) [own_by y2_, own_by y3_] (35 : Int32) (own_B2 [own_by y0_] [own_by y2_, own_by y3_]) cs T104.heap n0 (Nat.le_trans Z0 K104.1) Oh116 fk112 fk113 fk114 fk115 (by decide) rfl E104q C104q F104q V104q (by decide) rfl (by decide) (by decide) (by decide) rfl S_CS h_cs) hZ (ww hw 11 rfl) (ww hw 10 rfl) (by decide) (by decide) (own_EW hw) R122.1) (g := (mkF m 176 #[vI p1, vI p2, vI p3, vI 1, vI 1, vI 2, vI y0_, vI y1_, vI y2_, vI y3_, vR o65, vR b93, .unset, .unset, .unset] [iR b93, iR o65])) rfl (by rw [hml]; rfl) (argsL := [(.ref o65), (.ref b93)]) (rest := []) (lenOf pd_30 rfl) rfl (wz rfl) (hb hby at_176) (fun _ _ => ⟨rfl, rfl, (by decide : 5 + 21 ≤ _), (by decide : 13 + 546 ≤ _)⟩)
        dsimp only [Pt.U, Pt.locs, Pt.cells, Pt.slots] at X111 hS111q gr111 l111 y111 z111 C111 st111 hQ111
        subst l111 y111 z111
        have hS111 := State.Since.trans ((State.WarmedH.refl s).since 0) hS111q (Nat.le_trans (Nat.zero_le _) gr111)
        have hZ : Z.Warmed39 (s.setVm T111.vm).vm := State.Warmed39.trans (t := s.setVm s.vm) hZ hS111q.1
        have hown : (s.setVm T111.vm).vm.findClass "com/example/cloud_to_core/cloudtocore/auth/HttpAuthorizationChallengePinLaw" = some m.cls := by rw [show (s.setVm T111.vm).vm = T111.vm from rfl, hS111q.1.alike.findClass]; exact hown
        have R111 := R122.trans C111
        obtain ⟨o111, d111, kd111, rfl, N111q, K111q, E111q, C111q, F111q, V111q⟩ := hQ111
        have N111 := Fr.app N104 N111q
        have K111 : Keep h0 T111.heap [] := Keep.trans K104 K111q all0
        have pre123 : ∀ t, Steps p.tables e below (T111.setTop (mkF m 181 #[vI p1, vI p2, vI p3, vI 1, vI 1, vI 2, vI y0_, vI y1_, vI y2_, vI y3_, vR o65, vR b93, vR o111, .unset, .unset] [])) t → Steps p.tables e below (s₁.setTop (entryFrame m #[(.int p1), (.int p2), (.int p3)] maxLocals)) t := by
          intro t kt
          refine pre72 t ?_
          show SA T65 m 122 #[vI p1, vI p2, vI p3, vI 1, vI 1, vI 2, vI y0_, vI y1_, vI y2_, vI y3_, vR o65, .val .null, .unset, .unset, .unset] []
          refine XS.iload X65.here hx rfl (hb hby at_122) rfl ?_
          show SA T65 m 124 #[vI p1, vI p2, vI p3, vI 1, vI 1, vI 2, vI y0_, vI y1_, vI y2_, vI y3_, vR o65, .val .null, .unset, .unset, .unset] [iI 2]
          refine XS.ifYes X65.here hx rfl (pc0 := 124) (pc' := 134) rfl (hb hby at_124) rfl ((if0 _ _).trans (feq (by decide : ¬ ((2 : Int32) = (0 : Int32)))).2) (by decide) (by decide) ?_
          show SA T65 m 134 #[vI p1, vI p2, vI p3, vI 1, vI 1, vI 2, vI y0_, vI y1_, vI y2_, vI y3_, vR o65, .val .null, .unset, .unset, .unset] []
          refine XS.iload X65.here hx rfl (hb hby at_134) rfl ?_
          show SA T65 m 136 #[vI p1, vI p2, vI p3, vI 1, vI 1, vI 2, vI y0_, vI y1_, vI y2_, vI y3_, vR o65, .val .null, .unset, .unset, .unset] [iI 2]
          refine XS.iconst X65.here hx rfl (hb hby at_136) ?_
          show SA T65 m 137 #[vI p1, vI p2, vI p3, vI 1, vI 1, vI 2, vI y0_, vI y1_, vI y2_, vI y3_, vR o65, .val .null, .unset, .unset, .unset] [iI 1, iI 2]
          refine XS.icmpYes X65.here hx rfl (pc0 := 137) (pc' := 150) rfl (hb hby at_137) rfl (feq (by decide : ¬ ((2 : Int32) = (1 : Int32)))).2 (by decide) (by decide) ?_
          show SA T65 m 150 #[vI p1, vI p2, vI p3, vI 1, vI 1, vI 2, vI y0_, vI y1_, vI y2_, vI y3_, vR o65, .val .null, .unset, .unset, .unset] []
          refine st93 _ ?_
          show SA T93 m 153 #[vI p1, vI p2, vI p3, vI 1, vI 1, vI 2, vI y0_, vI y1_, vI y2_, vI y3_, vR o65, .val .null, .unset, .unset, .unset] [iR b93]
          refine XS.dup X93.here hx rfl (hb hby at_153) rfl rfl ?_
          show SA T93 m 154 #[vI p1, vI p2, vI p3, vI 1, vI 1, vI 2, vI y0_, vI y1_, vI y2_, vI y3_, vR o65, .val .null, .unset, .unset, .unset] [iR b93, iR b93]
          refine XS.iconst X93.here hx rfl (hb hby at_154) ?_
          show SA T93 m 155 #[vI p1, vI p2, vI p3, vI 1, vI 1, vI 2, vI y0_, vI y1_, vI y2_, vI y3_, vR o65, .val .null, .unset, .unset, .unset] [iI 2, iR b93, iR b93]
          refine st94 _ ?_
          show SA T94 m 157 #[vI p1, vI p2, vI p3, vI 1, vI 1, vI 2, vI y0_, vI y1_, vI y2_, vI y3_, vR o65, .val .null, .unset, .unset, .unset] [iR b94, iR b93, iR b93]
          refine XS.dup X94.here hx rfl (hb hby at_157) rfl rfl ?_
          show SA T94 m 158 #[vI p1, vI p2, vI p3, vI 1, vI 1, vI 2, vI y0_, vI y1_, vI y2_, vI y3_, vR o65, .val .null, .unset, .unset, .unset] [iR b94, iR b94, iR b93, iR b93]
          refine XS.iconst X94.here hx rfl (hb hby at_158) ?_
          show SA T94 m 159 #[vI p1, vI p2, vI p3, vI 1, vI 1, vI 2, vI y0_, vI y1_, vI y2_, vI y3_, vR o65, .val .null, .unset, .unset, .unset] [iI 0, iR b94, iR b94, iR b93, iR b93]
          refine XS.iload X94.here hx rfl (hb hby at_159) rfl ?_
          show SA T94 m 161 #[vI p1, vI p2, vI p3, vI 1, vI 1, vI 2, vI y0_, vI y1_, vI y2_, vI y3_, vR o65, .val .null, .unset, .unset, .unset] [iI y2_, iI 0, iR b94, iR b94, iR b93, iR b93]
          refine st99 _ ?_
          show SA T99 m 162 #[vI p1, vI p2, vI p3, vI 1, vI 1, vI 2, vI y0_, vI y1_, vI y2_, vI y3_, vR o65, .val .null, .unset, .unset, .unset] [iR b94, iR b93, iR b93]
          refine XS.dup X99.here hx rfl (hb hby at_162) rfl rfl ?_
          show SA T99 m 163 #[vI p1, vI p2, vI p3, vI 1, vI 1, vI 2, vI y0_, vI y1_, vI y2_, vI y3_, vR o65, .val .null, .unset, .unset, .unset] [iR b94, iR b94, iR b93, iR b93]
          refine XS.iconst X99.here hx rfl (hb hby at_163) ?_
          show SA T99 m 164 #[vI p1, vI p2, vI p3, vI 1, vI 1, vI 2, vI y0_, vI y1_, vI y2_, vI y3_, vR o65, .val .null, .unset, .unset, .unset] [iI 1, iR b94, iR b94, iR b93, iR b93]
          refine XS.iload X99.here hx rfl (hb hby at_164) rfl ?_
          show SA T99 m 166 #[vI p1, vI p2, vI p3, vI 1, vI 1, vI 2, vI y0_, vI y1_, vI y2_, vI y3_, vR o65, .val .null, .unset, .unset, .unset] [iI y3_, iI 1, iR b94, iR b94, iR b93, iR b93]
          refine st102 _ ?_
          show SA T102 m 167 #[vI p1, vI p2, vI p3, vI 1, vI 1, vI 2, vI y0_, vI y1_, vI y2_, vI y3_, vR o65, .val .null, .unset, .unset, .unset] [iR b94, iR b93, iR b93]
          refine st104.trans ?_
          show SA T104 m 170 #[vI p1, vI p2, vI p3, vI 1, vI 1, vI 2, vI y0_, vI y1_, vI y2_, vI y3_, vR o65, .val .null, .unset, .unset, .unset] [iR b93]
          refine XS.astore X104.here hx rfl (hb hby at_170) rfl rfl (l' := #[vI p1, vI p2, vI p3, vI 1, vI 1, vI 2, vI y0_, vI y1_, vI y2_, vI y3_, vR o65, vR b93, .unset, .unset, .unset]) rfl ?_
          show SA T104 m 172 #[vI p1, vI p2, vI p3, vI 1, vI 1, vI 2, vI y0_, vI y1_, vI y2_, vI y3_, vR o65, vR b93, .unset, .unset, .unset] []
          refine XS.aload X104.here hx rfl (hb hby at_172) rfl rfl ?_
          show SA T104 m 174 #[vI p1, vI p2, vI p3, vI 1, vI 1, vI 2, vI y0_, vI y1_, vI y2_, vI y3_, vR o65, vR b93, .unset, .unset, .unset] [iR o65]
          refine XS.aload X104.here hx rfl (hb hby at_174) rfl rfl ?_
          show SA T104 m 176 #[vI p1, vI p2, vI p3, vI 1, vI 1, vI 2, vI y0_, vI y1_, vI y2_, vI y3_, vR o65, vR b93, .unset, .unset, .unset] [iR b93, iR o65]
          refine st111.trans ?_
          show SA T111 m 179 #[vI p1, vI p2, vI p3, vI 1, vI 1, vI 2, vI y0_, vI y1_, vI y2_, vI y3_, vR o65, vR b93, .unset, .unset, .unset] [iR o111]
          refine XS.astore X111.here hx rfl (hb hby at_179) rfl rfl (l' := #[vI p1, vI p2, vI p3, vI 1, vI 1, vI 2, vI y0_, vI y1_, vI y2_, vI y3_, vR o65, vR b93, vR o111, .unset, .unset]) rfl ?_
          exact kt
        obtain ⟨s₂, o₂, hs₂, hr₂⟩ := own_end_e (lv := (1 : Int32)) (ev := (2 : Int32)) (y0_ := y0_) (y1_ := y1_) (y2_ := y2_) (y3_ := y3_) (sc := o65) (er := b93) (s := s) (vmT := T111.vm) (X111.more (by decide) (by decide)) hx hZ hw hby hml hown Bd.returns (by first | assumption | exact BodyLoose.notSynchronized (by assumption) | exact Body.notSynchronized (by assumption)) (rfl : T111.heap = _) K111 N111 Z0 O0 hS111 (Nat.le_refl _) R111 hh E111q C111q F111q V111q (by decide) rfl (by decide) (fun _ => ⟨by decide, by decide, own_gd (i := 0) (by decide) rfl (own_rt hl_y0_)⟩) (fun h => absurd (by decide) h) (by decide) (own_re2_1 _ _) (by decide) (own_er2_1 _ _) (fun _ => ⟨by decide, by decide, own_gd (i := 32) (by decide) rfl (own_rt hl_y2_)⟩) (fun _ => ⟨by decide, by decide, own_gd (i := 33) (by decide) rfl (own_rt hl_y3_)⟩) ⟨by decide, by decide, own_gd (i := 34) (c := (34 : Int32)) (by decide) rfl (by decide)⟩ S_CS h_cs S_F h_fm
        exact ⟨s₂, o₂, pre123 _ hs₂, hr₂⟩
  · obtain ⟨T124, h124, X124, e124, E124, A124, D124, -, st124⟩ := newO X2 hx hZ hown (ww hw 193 rfl) (ww hw 2 rfl) (ww hw 1 rfl) e2 (g := (mkF m 92 #[vI p1, vI p2, vI p3, vI 2, vI v1, vI ((((p1.toUInt32 >>> ((3 : Int32) &&& 31).toUInt32).toInt32) &&& (3 : Int32)) % (3 : Int32)), vI y0_, vI y1_, vI y2_, vI y3_, .unset, .unset, .unset, .unset, .unset] [])) rfl (hb hby at_92) (by decide) (by decide)
    obtain ⟨b124, g124⟩ : ∃ z, z = h0.size := ⟨_, rfl⟩
    rw [← g124] at A124 D124 st124
    have sz_b124 : h0.size ≤ b124 := Nat.le_trans K0.1 (Nat.le_of_eq g124.symm)
    have g_b124 : n0 ≤ b124 := Nat.le_trans Z0 sz_b124
    have K124 : Keep h0 h124 [] := K0.ext E124
    have F_value_b124 : Fld Z h124 b124 "java/lang/String" "value" "[B" .null := D124 (Or.inr (ww hw 4 rfl)) (ty := (.array .byte)) (by decide)
    have F_coder_b124 : Fld Z h124 b124 "java/lang/String" "coder" "B" (.int (0 : Int32)) := D124 (Or.inr (ww hw 5 rfl)) (ty := .byte) (by decide)
    obtain ⟨T125, h125, k125, X125, e125, E125, A125, st125⟩ := newP X124 hx hZ (ww hw 194 rfl) e124 (g := (mkF m 97 #[vI p1, vI p2, vI p3, vI 2, vI v1, vI ((((p1.toUInt32 >>> ((3 : Int32) &&& 31).toUInt32).toInt32) &&& (3 : Int32)) % (3 : Int32)), vI y0_, vI y1_, vI y2_, vI y3_, .unset, .unset, .unset, .unset, .unset] [iI 2, iR b124, iR b124])) rfl (hb hby at_97) rfl (by decide) (cap := 2) (by decide) (by decide) (by decide) (by decide)
    obtain ⟨b125, g125⟩ : ∃ z, z = h124.size := ⟨_, rfl⟩
    rw [← g125] at A125 st125
    have ne_b124_b125 : b124 ≠ b125 := Nat.ne_of_lt (Nat.lt_of_lt_of_le A124.lt (Nat.le_of_eq g125.symm))
    have sz_b125 : h0.size ≤ b125 := Nat.le_trans K124.1 (Nat.le_of_eq g125.symm)
    have g_b125 : n0 ≤ b125 := Nat.le_trans Z0 sz_b125
    have K125 : Keep h0 h125 [] := K124.ext E125
    have V125 : Arv Z h125 b125 k125 .char (2 : Int32) [(.int (0 : Int32)), (.int (0 : Int32))] (.int (0 : Int32)) := (Arv.new A125 (by decide)).pad (pad_rep [] (.int (0 : Int32)) 2)
    obtain ⟨cl126, Ar126, q126, S126, M126, H126, G126⟩ := id V125
    have hin127 : ¬ ((0 : Int32) < 0 ∨ cl126.slots.size ≤ ((0 : Int32)).toNatClampNeg) := inb_of S126 ⟨by decide, by decide⟩
    obtain ⟨T128, h128, X128, e128, W128, st128⟩ := stC X125 hx hZ e125 Ar126 (j := (0 : Int32)) hin127 (g := (mkF m 103 #[vI p1, vI p2, vI p3, vI 2, vI v1, vI ((((p1.toUInt32 >>> ((3 : Int32) &&& 31).toUInt32).toInt32) &&& (3 : Int32)) % (3 : Int32)), vI y0_, vI y1_, vI y2_, vI y3_, .unset, .unset, .unset, .unset, .unset] [iI y0_, iI 0, iR b125, iR b125, iR b124, iR b124])) rfl rfl (hb hby at_103)
    have V128 : Arv Z h128 b125 k125 .char (2 : Int32) [(.int (nar .char y0_)), (.int (0 : Int32))] (.int (0 : Int32)) := Arv.set Ar126 q126 S126 M126 H126 G126 (fits_nar_char _) W128 0 rfl (Nat.le_of_ble_eq_true rfl)
    have K128 : Keep h0 h128 [] := K125.wr W128 (Or.inr sz_b125)
    have N128 := Fr.snoc X128 N0 g_b125
    obtain ⟨cl129, Ar129, q129, S129, M129, H129, G129⟩ := id V128
    have hin130 : ¬ ((1 : Int32) < 0 ∨ cl129.slots.size ≤ ((1 : Int32)).toNatClampNeg) := inb_of S129 ⟨by decide, by decide⟩
    obtain ⟨T131, h131, X131, e131, W131, st131⟩ := stC X128 hx hZ e128 Ar129 (j := (1 : Int32)) hin130 (g := (mkF m 108 #[vI p1, vI p2, vI p3, vI 2, vI v1, vI ((((p1.toUInt32 >>> ((3 : Int32) &&& 31).toUInt32).toInt32) &&& (3 : Int32)) % (3 : Int32)), vI y0_, vI y1_, vI y2_, vI y3_, .unset, .unset, .unset, .unset, .unset] [iI y1_, iI 1, iR b125, iR b125, iR b124, iR b124])) rfl rfl (hb hby at_108)
    have V131 : Arv Z h131 b125 k125 .char (2 : Int32) [(.int (nar .char y0_)), (.int (nar .char y1_))] (.int (0 : Int32)) := Arv.set Ar129 q129 S129 M129 H129 G129 (fits_nar_char _) W131 1 rfl (Nat.le_of_ble_eq_true rfl)
    have K131 : Keep h0 h131 [] := K128.wr W131 (Or.inr sz_b125)
    have N131 := Fr.snoc X131 N128 g_b125
    have VC132 : Arv Z h131 b125 k125 .char (2 : Int32) [(.int y0_), (.int y1_)] (.int (0 : Int32)) := by have q := V131; rw [own_narc hl_y0_, own_narc hl_y1_] at q; exact q
    have fk134 := (((A124.ext E125).wr W128).wr W131)
    have fk135 := (((F_value_b124.ext E125).other W128 (Or.inl ne_b124_b125)).other W131 (Or.inl ne_b124_b125))
    have fk136 := (((F_coder_b124.ext E125).other W128 (Or.inl ne_b124_b125)).other W131 (Or.inl ne_b124_b125))
    have Oh137 := O0.keep K131 all0
    obtain ⟨_, _, ⟨T133, L133, k133, n133⟩, -, X133, ⟨Lc133, hQ133, l133, y133, z133⟩, st133⟩ := X131.specialBack hx (y := mn_41) rfl hown (mvT hZ (ww hw 195 rfl)) (mvT hZ (ww hw 196 rfl)) (mvT hZ (ww hw 197 rfl)) (by decide) (backOf (W := 1) (rm39_2 l Z a0 hw [] b124 b125 k125 y0_ y1_ cs h131 n0 (Nat.le_trans Z0 K131.1) Oh137 fk134 g_b124 fk135 fk136 VC132 ne_b124_b125 (own_le255 hl_y0_) (own_le255 hl_y1_) S_CS h_cs) hZ (ww hw 197 rfl) (ww hw 1 rfl) (by decide) (by decide)) (g := (mkF m 109 #[vI p1, vI p2, vI p3, vI 2, vI v1, vI ((((p1.toUInt32 >>> ((3 : Int32) &&& 31).toUInt32).toInt32) &&& (3 : Int32)) % (3 : Int32)), vI y0_, vI y1_, vI y2_, vI y3_, .unset, .unset, .unset, .unset, .unset] [iR b125, iR b124, iR b124])) rfl (by rw [hml]; rfl) (Steps.refl _) (a := b124) (argsL := [(.ref b125)]) (rest := [(.ref b124)]) (lenOf pd_32 rfl) rfl (wz rfl) (hb hby at_109) (fun _ _ => ⟨rfl, e131, (by decide : 2 + 1 ≤ _), (by decide : 6 + 2 ≤ _)⟩)
    dsimp only [Pt.U, Pt.locs, Pt.cells, Pt.slots] at X133 l133 y133 z133 st133 hQ133
    subst l133 y133 z133
    obtain ⟨d133, kd133, rfl, N133q, K133q, E133q, C133q, F133q, V133q, z_d133⟩ := hQ133
    have ne_b124_d133 : b124 ≠ d133 := Nat.ne_of_lt (Nat.lt_of_lt_of_le fk134.lt z_d133)
    have ne_b125_d133 : b125 ≠ d133 := Nat.ne_of_lt (Nat.lt_of_lt_of_le VC132.lt z_d133)
    have sz_d133 : h0.size ≤ d133 := Nat.le_trans K131.1 z_d133
    have g_d133 : n0 ≤ d133 := Nat.le_trans Z0 sz_d133
    have N133 := Fr.app N131 N133q
    have K133 : Keep h0 T133.heap [] := Keep.trans K131 K133q (allS (Or.inr sz_b124) all0)
    have qhe : v1 = 0 ∨ v1 = 1 := by rw [hv1]; split <;> simp
    have pre138 : ∀ t, Steps p.tables e below (T133.setTop (mkF m 117 #[vI p1, vI p2, vI p3, vI 2, vI v1, vI ((((p1.toUInt32 >>> ((3 : Int32) &&& 31).toUInt32).toInt32) &&& (3 : Int32)) % (3 : Int32)), vI y0_, vI y1_, vI y2_, vI y3_, vR b124, .val .null, .unset, .unset, .unset] [])) t → Steps p.tables e below (s₁.setTop (entryFrame m #[(.int p1), (.int p2), (.int p3)] maxLocals)) t := by
      intro t kt
      refine pre9 t ?_
      show SA T2 m 66 #[vI p1, vI p2, vI p3, vI 2, vI v1, vI ((((p1.toUInt32 >>> ((3 : Int32) &&& 31).toUInt32).toInt32) &&& (3 : Int32)) % (3 : Int32)), vI y0_, vI y1_, vI y2_, vI y3_, .unset, .unset, .unset, .unset, .unset] []
      refine XS.iloadN X2.here hx rfl (hb hby at_66) rfl ?_
      show SA T2 m 67 #[vI p1, vI p2, vI p3, vI 2, vI v1, vI ((((p1.toUInt32 >>> ((3 : Int32) &&& 31).toUInt32).toInt32) &&& (3 : Int32)) % (3 : Int32)), vI y0_, vI y1_, vI y2_, vI y3_, .unset, .unset, .unset, .unset, .unset] [iI 2]
      refine XS.ifYes X2.here hx rfl (pc0 := 67) (pc' := 77) rfl (hb hby at_67) rfl ((if0 _ _).trans (feq (by decide : ¬ ((2 : Int32) = (0 : Int32)))).2) (by decide) (by decide) ?_
      show SA T2 m 77 #[vI p1, vI p2, vI p3, vI 2, vI v1, vI ((((p1.toUInt32 >>> ((3 : Int32) &&& 31).toUInt32).toInt32) &&& (3 : Int32)) % (3 : Int32)), vI y0_, vI y1_, vI y2_, vI y3_, .unset, .unset, .unset, .unset, .unset] []
      refine XS.iloadN X2.here hx rfl (hb hby at_77) rfl ?_
      show SA T2 m 78 #[vI p1, vI p2, vI p3, vI 2, vI v1, vI ((((p1.toUInt32 >>> ((3 : Int32) &&& 31).toUInt32).toInt32) &&& (3 : Int32)) % (3 : Int32)), vI y0_, vI y1_, vI y2_, vI y3_, .unset, .unset, .unset, .unset, .unset] [iI 2]
      refine XS.iconst X2.here hx rfl (hb hby at_78) ?_
      show SA T2 m 79 #[vI p1, vI p2, vI p3, vI 2, vI v1, vI ((((p1.toUInt32 >>> ((3 : Int32) &&& 31).toUInt32).toInt32) &&& (3 : Int32)) % (3 : Int32)), vI y0_, vI y1_, vI y2_, vI y3_, .unset, .unset, .unset, .unset, .unset] [iI 1, iI 2]
      refine XS.icmpYes X2.here hx rfl (pc0 := 79) (pc' := 92) rfl (hb hby at_79) rfl (feq (by decide : ¬ ((2 : Int32) = (1 : Int32)))).2 (by decide) (by decide) ?_
      show SA T2 m 92 #[vI p1, vI p2, vI p3, vI 2, vI v1, vI ((((p1.toUInt32 >>> ((3 : Int32) &&& 31).toUInt32).toInt32) &&& (3 : Int32)) % (3 : Int32)), vI y0_, vI y1_, vI y2_, vI y3_, .unset, .unset, .unset, .unset, .unset] []
      refine st124 _ ?_
      show SA T124 m 95 #[vI p1, vI p2, vI p3, vI 2, vI v1, vI ((((p1.toUInt32 >>> ((3 : Int32) &&& 31).toUInt32).toInt32) &&& (3 : Int32)) % (3 : Int32)), vI y0_, vI y1_, vI y2_, vI y3_, .unset, .unset, .unset, .unset, .unset] [iR b124]
      refine XS.dup X124.here hx rfl (hb hby at_95) rfl rfl ?_
      show SA T124 m 96 #[vI p1, vI p2, vI p3, vI 2, vI v1, vI ((((p1.toUInt32 >>> ((3 : Int32) &&& 31).toUInt32).toInt32) &&& (3 : Int32)) % (3 : Int32)), vI y0_, vI y1_, vI y2_, vI y3_, .unset, .unset, .unset, .unset, .unset] [iR b124, iR b124]
      refine XS.iconst X124.here hx rfl (hb hby at_96) ?_
      show SA T124 m 97 #[vI p1, vI p2, vI p3, vI 2, vI v1, vI ((((p1.toUInt32 >>> ((3 : Int32) &&& 31).toUInt32).toInt32) &&& (3 : Int32)) % (3 : Int32)), vI y0_, vI y1_, vI y2_, vI y3_, .unset, .unset, .unset, .unset, .unset] [iI 2, iR b124, iR b124]
      refine st125 _ ?_
      show SA T125 m 99 #[vI p1, vI p2, vI p3, vI 2, vI v1, vI ((((p1.toUInt32 >>> ((3 : Int32) &&& 31).toUInt32).toInt32) &&& (3 : Int32)) % (3 : Int32)), vI y0_, vI y1_, vI y2_, vI y3_, .unset, .unset, .unset, .unset, .unset] [iR b125, iR b124, iR b124]
      refine XS.dup X125.here hx rfl (hb hby at_99) rfl rfl ?_
      show SA T125 m 100 #[vI p1, vI p2, vI p3, vI 2, vI v1, vI ((((p1.toUInt32 >>> ((3 : Int32) &&& 31).toUInt32).toInt32) &&& (3 : Int32)) % (3 : Int32)), vI y0_, vI y1_, vI y2_, vI y3_, .unset, .unset, .unset, .unset, .unset] [iR b125, iR b125, iR b124, iR b124]
      refine XS.iconst X125.here hx rfl (hb hby at_100) ?_
      show SA T125 m 101 #[vI p1, vI p2, vI p3, vI 2, vI v1, vI ((((p1.toUInt32 >>> ((3 : Int32) &&& 31).toUInt32).toInt32) &&& (3 : Int32)) % (3 : Int32)), vI y0_, vI y1_, vI y2_, vI y3_, .unset, .unset, .unset, .unset, .unset] [iI 0, iR b125, iR b125, iR b124, iR b124]
      refine XS.iload X125.here hx rfl (hb hby at_101) rfl ?_
      show SA T125 m 103 #[vI p1, vI p2, vI p3, vI 2, vI v1, vI ((((p1.toUInt32 >>> ((3 : Int32) &&& 31).toUInt32).toInt32) &&& (3 : Int32)) % (3 : Int32)), vI y0_, vI y1_, vI y2_, vI y3_, .unset, .unset, .unset, .unset, .unset] [iI y0_, iI 0, iR b125, iR b125, iR b124, iR b124]
      refine st128 _ ?_
      show SA T128 m 104 #[vI p1, vI p2, vI p3, vI 2, vI v1, vI ((((p1.toUInt32 >>> ((3 : Int32) &&& 31).toUInt32).toInt32) &&& (3 : Int32)) % (3 : Int32)), vI y0_, vI y1_, vI y2_, vI y3_, .unset, .unset, .unset, .unset, .unset] [iR b125, iR b124, iR b124]
      refine XS.dup X128.here hx rfl (hb hby at_104) rfl rfl ?_
      show SA T128 m 105 #[vI p1, vI p2, vI p3, vI 2, vI v1, vI ((((p1.toUInt32 >>> ((3 : Int32) &&& 31).toUInt32).toInt32) &&& (3 : Int32)) % (3 : Int32)), vI y0_, vI y1_, vI y2_, vI y3_, .unset, .unset, .unset, .unset, .unset] [iR b125, iR b125, iR b124, iR b124]
      refine XS.iconst X128.here hx rfl (hb hby at_105) ?_
      show SA T128 m 106 #[vI p1, vI p2, vI p3, vI 2, vI v1, vI ((((p1.toUInt32 >>> ((3 : Int32) &&& 31).toUInt32).toInt32) &&& (3 : Int32)) % (3 : Int32)), vI y0_, vI y1_, vI y2_, vI y3_, .unset, .unset, .unset, .unset, .unset] [iI 1, iR b125, iR b125, iR b124, iR b124]
      refine XS.iload X128.here hx rfl (hb hby at_106) rfl ?_
      show SA T128 m 108 #[vI p1, vI p2, vI p3, vI 2, vI v1, vI ((((p1.toUInt32 >>> ((3 : Int32) &&& 31).toUInt32).toInt32) &&& (3 : Int32)) % (3 : Int32)), vI y0_, vI y1_, vI y2_, vI y3_, .unset, .unset, .unset, .unset, .unset] [iI y1_, iI 1, iR b125, iR b125, iR b124, iR b124]
      refine st131 _ ?_
      show SA T131 m 109 #[vI p1, vI p2, vI p3, vI 2, vI v1, vI ((((p1.toUInt32 >>> ((3 : Int32) &&& 31).toUInt32).toInt32) &&& (3 : Int32)) % (3 : Int32)), vI y0_, vI y1_, vI y2_, vI y3_, .unset, .unset, .unset, .unset, .unset] [iR b125, iR b124, iR b124]
      refine st133.trans ?_
      show SA T133 m 112 #[vI p1, vI p2, vI p3, vI 2, vI v1, vI ((((p1.toUInt32 >>> ((3 : Int32) &&& 31).toUInt32).toInt32) &&& (3 : Int32)) % (3 : Int32)), vI y0_, vI y1_, vI y2_, vI y3_, .unset, .unset, .unset, .unset, .unset] [iR b124]
      refine XS.astore X133.here hx rfl (hb hby at_112) rfl rfl (l' := #[vI p1, vI p2, vI p3, vI 2, vI v1, vI ((((p1.toUInt32 >>> ((3 : Int32) &&& 31).toUInt32).toInt32) &&& (3 : Int32)) % (3 : Int32)), vI y0_, vI y1_, vI y2_, vI y3_, vR b124, .unset, .unset, .unset, .unset]) rfl ?_
      show SA T133 m 114 #[vI p1, vI p2, vI p3, vI 2, vI v1, vI ((((p1.toUInt32 >>> ((3 : Int32) &&& 31).toUInt32).toInt32) &&& (3 : Int32)) % (3 : Int32)), vI y0_, vI y1_, vI y2_, vI y3_, vR b124, .unset, .unset, .unset, .unset] []
      refine XS.aconstNull X133.here hx rfl (hb hby at_114) ?_
      show SA T133 m 115 #[vI p1, vI p2, vI p3, vI 2, vI v1, vI ((((p1.toUInt32 >>> ((3 : Int32) &&& 31).toUInt32).toInt32) &&& (3 : Int32)) % (3 : Int32)), vI y0_, vI y1_, vI y2_, vI y3_, vR b124, .unset, .unset, .unset, .unset] [.null]
      refine XS.astore X133.here hx rfl (hb hby at_115) rfl rfl (l' := #[vI p1, vI p2, vI p3, vI 2, vI v1, vI ((((p1.toUInt32 >>> ((3 : Int32) &&& 31).toUInt32).toInt32) &&& (3 : Int32)) % (3 : Int32)), vI y0_, vI y1_, vI y2_, vI y3_, vR b124, .val .null, .unset, .unset, .unset]) rfl ?_
      exact kt
    rcases qhe with rfl | rfl
    · have Oh140 := O0.keep K133 all0
      have S141_b124 := Safe.ext E124 R0.1 (Safe.new (Nat.le_of_eq g124.symm))
      have R141 := R0.trans (CHr.ext E124 R0.1)
      have S142_b124 := Safe.ext E125 R141.1 S141_b124
      have S142_b125 := Safe.ext E125 R141.1 (Safe.new (Nat.le_of_eq g125.symm))
      have R142 := R141.trans (CHr.ext E125 R141.1)
      have S143_b124 := Safe.wr W128 S142_b125 R142.1 S142_b124
      have S143_b125 := Safe.wr W128 S142_b125 R142.1 S142_b125
      have R143 := R142.trans (CHr.wr W128 S142_b125 R142.1)
      have S144_b124 := Safe.wr W131 S143_b125 R143.1 S143_b124
      have S144_b125 := Safe.wr W131 S143_b125 R143.1 S143_b125
      have R144 := R143.trans (CHr.wr W131 S143_b125 R143.1)
      have sq145 : ∀ x ∈ [b124], Safe Z consts_1 s.vm _ x := (sfS S144_b124 sf0)
      have S145_b124 := Safe.keep K133q sq145 R144.1 S144_b124
      have S145_b125 := Safe.keep K133q sq145 R144.1 S144_b125
      have S145_d133 := Safe.keep K133q sq145 R144.1 (Safe.new z_d133)
      have R145 := R144.trans (CHr.keep K133q sq145 R144.1)
      obtain ⟨_, _, ⟨T139, L139, k139, n139⟩, -, X139, hS139q, gr139, ⟨Lc139, hQ139, l139, y139, z139, C139⟩, st139⟩ := callSS (s := s.setVm s.vm) X133 hx (y := mn_36) hown (mvT hZ (ww hw 8 rfl)) (mvT hZ (ww hw 9 rfl)) (mvT hZ (ww hw 10 rfl)) (mvT hZ (ww hw 11 rfl)) (by decide) (backOfSH (s := s) (vm0 := s.vm) (W := 0) (rm1_n l Z a0 hw [] b124 d133 kd133 (2 : Int32) [own_by y0_, own_by y1_] (24 : Int32) (own_B1 [own_by y0_, own_by y1_]) cs T133.heap n0 (Nat.le_trans Z0 K133.1) Oh140 E133q C133q F133q V133q (by decide) rfl (by decide) (by decide) rfl S_CS h_cs) hZ (ww hw 11 rfl) (ww hw 10 rfl) (by decide) (by decide) (own_EW hw) R145.1) (g := (mkF m 176 #[vI p1, vI p2, vI p3, vI 2, vI 0, vI ((((p1.toUInt32 >>> ((3 : Int32) &&& 31).toUInt32).toInt32) &&& (3 : Int32)) % (3 : Int32)), vI y0_, vI y1_, vI y2_, vI y3_, vR b124, .val .null, .unset, .unset, .unset] [.null, iR b124])) rfl (by rw [hml]; rfl) (argsL := [(.ref b124), .null]) (rest := []) (lenOf pd_30 rfl) rfl (wz rfl) (hb hby at_176) (fun _ _ => ⟨rfl, rfl, (by decide : 3 + 11 ≤ _), (by decide : 8 + 264 ≤ _)⟩)
      dsimp only [Pt.U, Pt.locs, Pt.cells, Pt.slots] at X139 hS139q gr139 l139 y139 z139 C139 st139 hQ139
      subst l139 y139 z139
      have hS139 := State.Since.trans ((State.WarmedH.refl s).since 0) hS139q (Nat.le_trans (Nat.zero_le _) gr139)
      have hZ : Z.Warmed39 (s.setVm T139.vm).vm := State.Warmed39.trans (t := s.setVm s.vm) hZ hS139q.1
      have hown : (s.setVm T139.vm).vm.findClass "com/example/cloud_to_core/cloudtocore/auth/HttpAuthorizationChallengePinLaw" = some m.cls := by rw [show (s.setVm T139.vm).vm = T139.vm from rfl, hS139q.1.alike.findClass]; exact hown
      have R139 := R145.trans C139
      obtain ⟨o139, d139, kd139, rfl, N139q, K139q, E139q, C139q, F139q, V139q⟩ := hQ139
      have N139 := Fr.app N133 N139q
      have K139 : Keep h0 T139.heap [] := Keep.trans K133 K139q all0
      have pre146 : ∀ t, Steps p.tables e below (T139.setTop (mkF m 181 #[vI p1, vI p2, vI p3, vI 2, vI 0, vI ((((p1.toUInt32 >>> ((3 : Int32) &&& 31).toUInt32).toInt32) &&& (3 : Int32)) % (3 : Int32)), vI y0_, vI y1_, vI y2_, vI y3_, vR b124, .val .null, vR o139, .unset, .unset] [])) t → Steps p.tables e below (s₁.setTop (entryFrame m #[(.int p1), (.int p2), (.int p3)] maxLocals)) t := by
        intro t kt
        refine pre138 t ?_
        show SA T133 m 117 #[vI p1, vI p2, vI p3, vI 2, vI 0, vI ((((p1.toUInt32 >>> ((3 : Int32) &&& 31).toUInt32).toInt32) &&& (3 : Int32)) % (3 : Int32)), vI y0_, vI y1_, vI y2_, vI y3_, vR b124, .val .null, .unset, .unset, .unset] []
        refine XS.iload X133.here hx rfl (hb hby at_117) rfl ?_
        show SA T133 m 119 #[vI p1, vI p2, vI p3, vI 2, vI 0, vI ((((p1.toUInt32 >>> ((3 : Int32) &&& 31).toUInt32).toInt32) &&& (3 : Int32)) % (3 : Int32)), vI y0_, vI y1_, vI y2_, vI y3_, vR b124, .val .null, .unset, .unset, .unset] [iI 0]
        refine XS.ifYes X133.here hx rfl (pc0 := 119) (pc' := 172) rfl (hb hby at_119) rfl ((if0 _ _).trans (teq (by decide : (0 : Int32) = (0 : Int32))).1) (by decide) (by decide) ?_
        show SA T133 m 172 #[vI p1, vI p2, vI p3, vI 2, vI 0, vI ((((p1.toUInt32 >>> ((3 : Int32) &&& 31).toUInt32).toInt32) &&& (3 : Int32)) % (3 : Int32)), vI y0_, vI y1_, vI y2_, vI y3_, vR b124, .val .null, .unset, .unset, .unset] []
        refine XS.aload X133.here hx rfl (hb hby at_172) rfl rfl ?_
        show SA T133 m 174 #[vI p1, vI p2, vI p3, vI 2, vI 0, vI ((((p1.toUInt32 >>> ((3 : Int32) &&& 31).toUInt32).toInt32) &&& (3 : Int32)) % (3 : Int32)), vI y0_, vI y1_, vI y2_, vI y3_, vR b124, .val .null, .unset, .unset, .unset] [iR b124]
        refine XS.aload X133.here hx rfl (hb hby at_174) rfl rfl ?_
        show SA T133 m 176 #[vI p1, vI p2, vI p3, vI 2, vI 0, vI ((((p1.toUInt32 >>> ((3 : Int32) &&& 31).toUInt32).toInt32) &&& (3 : Int32)) % (3 : Int32)), vI y0_, vI y1_, vI y2_, vI y3_, vR b124, .val .null, .unset, .unset, .unset] [.null, iR b124]
        refine st139.trans ?_
        show SA T139 m 179 #[vI p1, vI p2, vI p3, vI 2, vI 0, vI ((((p1.toUInt32 >>> ((3 : Int32) &&& 31).toUInt32).toInt32) &&& (3 : Int32)) % (3 : Int32)), vI y0_, vI y1_, vI y2_, vI y3_, vR b124, .val .null, .unset, .unset, .unset] [iR o139]
        refine XS.astore X139.here hx rfl (hb hby at_179) rfl rfl (l' := #[vI p1, vI p2, vI p3, vI 2, vI 0, vI ((((p1.toUInt32 >>> ((3 : Int32) &&& 31).toUInt32).toInt32) &&& (3 : Int32)) % (3 : Int32)), vI y0_, vI y1_, vI y2_, vI y3_, vR b124, .val .null, vR o139, .unset, .unset]) rfl ?_
        exact kt
      obtain ⟨s₂, o₂, hs₂, hr₂⟩ := own_end_n (lv := (2 : Int32)) (ev := ((((p1.toUInt32 >>> ((3 : Int32) &&& 31).toUInt32).toInt32) &&& (3 : Int32)) % (3 : Int32))) (y0_ := y0_) (y1_ := y1_) (y2_ := y2_) (y3_ := y3_) (sc := b124) (s := s) (vmT := T139.vm) (X139.more (by decide) (by decide)) hx hZ hw hby hml hown Bd.returns (by first | assumption | exact BodyLoose.notSynchronized (by assumption) | exact Body.notSynchronized (by assumption)) (rfl : T139.heap = _) K139 N139 Z0 O0 hS139 (Nat.le_refl _) R139 hh E139q C139q F139q V139q (by decide) rfl (by decide) (fun _ => ⟨by decide, by decide, own_gd (i := 0) (by decide) rfl (own_rt hl_y0_)⟩) (fun _ => ⟨by decide, by decide, own_gd (i := 1) (by decide) rfl (own_rt hl_y1_)⟩) (by decide) (own_re1_2 _ _) S_CS h_cs S_F h_fm
      exact ⟨s₂, o₂, pre146 _ hs₂, hr₂⟩
    · obtain ⟨ev, hev⟩ : ∃ z : Int32, z = ((((p1.toUInt32 >>> ((3 : Int32) &&& 31).toUInt32).toInt32) &&& (3 : Int32)) % (3 : Int32)) := ⟨_, rfl⟩
      have qev : ev = 0 ∨ ev = 1 ∨ ev = 2 := by rw [hev]; exact own_small3 _ (own_rem3 _).1 (own_rem3 _).2
      have pre148 : ∀ t, Steps p.tables e below (T133.setTop (mkF m 122 #[vI p1, vI p2, vI p3, vI 2, vI 1, vI ev, vI y0_, vI y1_, vI y2_, vI y3_, vR b124, .val .null, .unset, .unset, .unset] [])) t → Steps p.tables e below (s₁.setTop (entryFrame m #[(.int p1), (.int p2), (.int p3)] maxLocals)) t := by
        intro t kt
        refine pre138 t ?_
        show SA T133 m 117 #[vI p1, vI p2, vI p3, vI 2, vI 1, vI ((((p1.toUInt32 >>> ((3 : Int32) &&& 31).toUInt32).toInt32) &&& (3 : Int32)) % (3 : Int32)), vI y0_, vI y1_, vI y2_, vI y3_, vR b124, .val .null, .unset, .unset, .unset] []
        refine XS.iload X133.here hx rfl (hb hby at_117) rfl ?_
        show SA T133 m 119 #[vI p1, vI p2, vI p3, vI 2, vI 1, vI ((((p1.toUInt32 >>> ((3 : Int32) &&& 31).toUInt32).toInt32) &&& (3 : Int32)) % (3 : Int32)), vI y0_, vI y1_, vI y2_, vI y3_, vR b124, .val .null, .unset, .unset, .unset] [iI 1]
        refine XS.ifNo X133.here hx rfl (hb hby at_119) rfl ((if0 _ _).trans (feq (by decide : ¬ ((1 : Int32) = (0 : Int32)))).1) ?_
        rw [← hev]
        exact kt
      rcases qev with rfl | rfl | rfl
      · have S149_b124 := Safe.ext E124 R0.1 (Safe.new (Nat.le_of_eq g124.symm))
        have R149 := R0.trans (CHr.ext E124 R0.1)
        have S150_b124 := Safe.ext E125 R149.1 S149_b124
        have S150_b125 := Safe.ext E125 R149.1 (Safe.new (Nat.le_of_eq g125.symm))
        have R150 := R149.trans (CHr.ext E125 R149.1)
        have S151_b124 := Safe.wr W128 S150_b125 R150.1 S150_b124
        have S151_b125 := Safe.wr W128 S150_b125 R150.1 S150_b125
        have R151 := R150.trans (CHr.wr W128 S150_b125 R150.1)
        have S152_b124 := Safe.wr W131 S151_b125 R151.1 S151_b124
        have S152_b125 := Safe.wr W131 S151_b125 R151.1 S151_b125
        have R152 := R151.trans (CHr.wr W131 S151_b125 R151.1)
        have sq153 : ∀ x ∈ [b124], Safe Z consts_1 s.vm _ x := (sfS S152_b124 sf0)
        have S153_b124 := Safe.keep K133q sq153 R152.1 S152_b124
        have S153_b125 := Safe.keep K133q sq153 R152.1 S152_b125
        have S153_d133 := Safe.keep K133q sq153 R152.1 (Safe.new z_d133)
        have R153 := R152.trans (CHr.keep K133q sq153 R152.1)
        have fk154 := (VC132.keep K133q (ninS (Ne.symm ne_b124_b125) nin0))
        obtain ⟨la155, T155, h155, kk155, lb155, kl155, X155, e155, E155, hS155, hk155, hZ, hown, EE155, FC155, FV155, VV155, -, -, C155, li155, ne155, st155⟩ := ldcCH (s := s) (vm0 := s.vm) X133 hx hZ hown (ww hw 0 rfl) (own_strAtoms hw) rfl ((State.WarmedH.refl s).since 0) (Nat.zero_le _) (own_EW hw) (List.mem_of_getElem? (i := 4) rfl) R153.1 (vs := own_bs []) (z := (0 : Int32)) own_ct4 (by decide) (by decide) (g := (mkF m 127 #[vI p1, vI p2, vI p3, vI 2, vI 1, vI 0, vI y0_, vI y1_, vI y2_, vI y3_, vR b124, .val .null, .unset, .unset, .unset] [])) rfl (hb hby at_127) (n := 0) (by decide) (by decide) (by decide) (by decide)
        have K155 : Keep h0 h155 [] := K133.ext E155
        have S155_b124 := C155.safe E133q.lt S153_b124
        have S155_b125 := C155.safe fk154.lt S153_b125
        have S155_d133 := C155.safe V133q.lt S153_d133
        have R155 := R153.trans C155
        have fk157 := (E133q.ext E155)
        have fk158 := (C133q.ext E155)
        have fk159 := (F133q.ext E155)
        have fk160 := (V133q.ext E155)
        have Oh161 := O0.keep K155 all0
        obtain ⟨_, _, ⟨T156, L156, k156, n156⟩, -, X156, hS156q, gr156, ⟨Lc156, hQ156, l156, y156, z156, C156⟩, st156⟩ := callSS (s := s.setVm T155.vm) X155 hx (y := mn_36) hown (mvT hZ (ww hw 8 rfl)) (mvT hZ (ww hw 9 rfl)) (mvT hZ (ww hw 10 rfl)) (mvT hZ (ww hw 11 rfl)) (by decide) (backOfSH (s := s) (vm0 := T155.vm) (W := 0) (rm1_e l Z a0 hw [] b124 la155 d133 kd133 (2 : Int32) [own_by y0_, own_by y1_] lb155 kl155 (0 : Int32) [] (34 : Int32) (own_B2 [own_by y0_, own_by y1_] []) cs h155 n0 (Nat.le_trans Z0 K155.1) Oh161 fk157 fk158 fk159 fk160 (by decide) rfl EE155 FC155 FV155 VV155 (by decide) (by decide) (by decide) (by decide) (by decide) rfl S_CS h_cs) hZ (ww hw 11 rfl) (ww hw 10 rfl) (by decide) (by decide) (own_EW hw) R155.1) (g := (mkF m 176 #[vI p1, vI p2, vI p3, vI 2, vI 1, vI 0, vI y0_, vI y1_, vI y2_, vI y3_, vR b124, vR la155, .unset, .unset, .unset] [iR la155, iR b124])) rfl (by rw [hml]; rfl) (argsL := [(.ref b124), (.ref la155)]) (rest := []) (lenOf pd_30 rfl) rfl (wz rfl) (hb hby at_176) (fun _ _ => ⟨rfl, e155, (by decide : 5 + 21 ≤ _), (by decide : 12 + 546 ≤ _)⟩)
        dsimp only [Pt.U, Pt.locs, Pt.cells, Pt.slots] at X156 hS156q gr156 l156 y156 z156 C156 st156 hQ156
        subst l156 y156 z156
        have hS156 := State.Since.trans hS155 hS156q (Nat.le_trans (by have q := hk155; rw [← e155] at q; exact q) gr156)
        have hZ : Z.Warmed39 (s.setVm T156.vm).vm := State.Warmed39.trans (t := s.setVm T155.vm) hZ hS156q.1
        have hown : (s.setVm T156.vm).vm.findClass "com/example/cloud_to_core/cloudtocore/auth/HttpAuthorizationChallengePinLaw" = some m.cls := by rw [show (s.setVm T156.vm).vm = T156.vm from rfl, hS156q.1.alike.findClass]; exact hown
        have R156 := R155.trans C156
        obtain ⟨o156, d156, kd156, rfl, N156q, K156q, E156q, C156q, F156q, V156q⟩ := hQ156
        have N156 := Fr.app N133 N156q
        have K156 : Keep h0 T156.heap [] := Keep.trans K155 K156q all0
        have pre162 : ∀ t, Steps p.tables e below (T156.setTop (mkF m 181 #[vI p1, vI p2, vI p3, vI 2, vI 1, vI 0, vI y0_, vI y1_, vI y2_, vI y3_, vR b124, vR la155, vR o156, .unset, .unset] [])) t → Steps p.tables e below (s₁.setTop (entryFrame m #[(.int p1), (.int p2), (.int p3)] maxLocals)) t := by
          intro t kt
          refine pre148 t ?_
          show SA T133 m 122 #[vI p1, vI p2, vI p3, vI 2, vI 1, vI 0, vI y0_, vI y1_, vI y2_, vI y3_, vR b124, .val .null, .unset, .unset, .unset] []
          refine XS.iload X133.here hx rfl (hb hby at_122) rfl ?_
          show SA T133 m 124 #[vI p1, vI p2, vI p3, vI 2, vI 1, vI 0, vI y0_, vI y1_, vI y2_, vI y3_, vR b124, .val .null, .unset, .unset, .unset] [iI 0]
          refine XS.ifNo X133.here hx rfl (hb hby at_124) rfl ((if0 _ _).trans (teq (by decide : (0 : Int32) = (0 : Int32))).2) ?_
          show SA T133 m 127 #[vI p1, vI p2, vI p3, vI 2, vI 1, vI 0, vI y0_, vI y1_, vI y2_, vI y3_, vR b124, .val .null, .unset, .unset, .unset] []
          refine st155 _ ?_
          show SA T155 m 129 #[vI p1, vI p2, vI p3, vI 2, vI 1, vI 0, vI y0_, vI y1_, vI y2_, vI y3_, vR b124, .val .null, .unset, .unset, .unset] [iR la155]
          refine XS.astore X155.here hx rfl (hb hby at_129) rfl rfl (l' := #[vI p1, vI p2, vI p3, vI 2, vI 1, vI 0, vI y0_, vI y1_, vI y2_, vI y3_, vR b124, vR la155, .unset, .unset, .unset]) rfl ?_
          show SA T155 m 131 #[vI p1, vI p2, vI p3, vI 2, vI 1, vI 0, vI y0_, vI y1_, vI y2_, vI y3_, vR b124, vR la155, .unset, .unset, .unset] []
          refine XS.goto X155.here hx rfl (pc0 := 131) (pc' := 172) rfl (hb hby at_131) (by decide) (by decide) ?_
          show SA T155 m 172 #[vI p1, vI p2, vI p3, vI 2, vI 1, vI 0, vI y0_, vI y1_, vI y2_, vI y3_, vR b124, vR la155, .unset, .unset, .unset] []
          refine XS.aload X155.here hx rfl (hb hby at_172) rfl rfl ?_
          show SA T155 m 174 #[vI p1, vI p2, vI p3, vI 2, vI 1, vI 0, vI y0_, vI y1_, vI y2_, vI y3_, vR b124, vR la155, .unset, .unset, .unset] [iR b124]
          refine XS.aload X155.here hx rfl (hb hby at_174) rfl rfl ?_
          show SA T155 m 176 #[vI p1, vI p2, vI p3, vI 2, vI 1, vI 0, vI y0_, vI y1_, vI y2_, vI y3_, vR b124, vR la155, .unset, .unset, .unset] [iR la155, iR b124]
          refine st156.trans ?_
          show SA T156 m 179 #[vI p1, vI p2, vI p3, vI 2, vI 1, vI 0, vI y0_, vI y1_, vI y2_, vI y3_, vR b124, vR la155, .unset, .unset, .unset] [iR o156]
          refine XS.astore X156.here hx rfl (hb hby at_179) rfl rfl (l' := #[vI p1, vI p2, vI p3, vI 2, vI 1, vI 0, vI y0_, vI y1_, vI y2_, vI y3_, vR b124, vR la155, vR o156, .unset, .unset]) rfl ?_
          exact kt
        obtain ⟨s₂, o₂, hs₂, hr₂⟩ := own_end_e (lv := (2 : Int32)) (ev := (0 : Int32)) (y0_ := y0_) (y1_ := y1_) (y2_ := y2_) (y3_ := y3_) (sc := b124) (er := la155) (s := s) (vmT := T156.vm) (X156.more (by decide) (by decide)) hx hZ hw hby hml hown Bd.returns (by first | assumption | exact BodyLoose.notSynchronized (by assumption) | exact Body.notSynchronized (by assumption)) (rfl : T156.heap = _) K156 N156 Z0 O0 hS156 (Nat.le_refl _) R156 hh E156q C156q F156q V156q (by decide) rfl (by decide) (fun _ => ⟨by decide, by decide, own_gd (i := 0) (by decide) rfl (own_rt hl_y0_)⟩) (fun _ => ⟨by decide, by decide, own_gd (i := 1) (by decide) rfl (own_rt hl_y1_)⟩) (by decide) (own_re2_2 _ _ _) (by decide) (own_er2_2 _ _ _) (fun h => absurd (by decide) h) (fun h => absurd (by decide) h) ⟨by decide, by decide, own_gd (i := 33) (c := (34 : Int32)) (by decide) rfl (by decide)⟩ S_CS h_cs S_F h_fm
        exact ⟨s₂, o₂, pre162 _ hs₂, hr₂⟩
      · have Oh164 := O0.keep K133 all0
        obtain ⟨_, _, ⟨T163, L163, k163, n163⟩, -, X163, ⟨Lc163, hQ163, l163, y163, z163⟩, st163⟩ := Jvm.LawKit.callS X133 hx (y := mn_33) hown (mvT hZ (ww hw 176 rfl)) (mvT hZ (ww hw 177 rfl)) (mvT hZ (ww hw 1 rfl)) (mvT hZ (ww hw 178 rfl)) (by decide) (backOf (W := 0) (rm34 l Z a0 hw [] y2_ cs T133.heap n0 (Nat.le_trans Z0 K133.1) Oh164 (own_le255 hl_y2_) S_CS h_cs) hZ (ww hw 178 rfl) (ww hw 1 rfl) (by decide) (by decide)) (g := (mkF m 142 #[vI p1, vI p2, vI p3, vI 2, vI 1, vI 1, vI y0_, vI y1_, vI y2_, vI y3_, vR b124, .val .null, .unset, .unset, .unset] [iI y2_])) rfl (by rw [hml]; rfl) (argsL := [(.int y2_)]) (rest := []) (lenOf pd_31 rfl) rfl (wz rfl) (hb hby at_142) (fun _ _ => ⟨rfl, rfl, (by decide : 3 + 2 ≤ _), (by decide : 8 + 5 ≤ _)⟩)
        dsimp only [Pt.U, Pt.locs, Pt.cells, Pt.slots] at X163 l163 y163 z163 st163 hQ163
        subst l163 y163 z163
        obtain ⟨o163, d163, kd163, rfl, N163q, K163q, E163q, C163q, F163q, V163q, z_o163, z_d163⟩ := hQ163
        have fk165 := (VC132.keep K133q (ninS (Ne.symm ne_b124_b125) nin0))
        have ne_b124_o163 : b124 ≠ o163 := Nat.ne_of_lt (Nat.lt_of_lt_of_le E133q.lt z_o163)
        have ne_b125_o163 : b125 ≠ o163 := Nat.ne_of_lt (Nat.lt_of_lt_of_le fk165.lt z_o163)
        have ne_d133_o163 : d133 ≠ o163 := Nat.ne_of_lt (Nat.lt_of_lt_of_le V133q.lt z_o163)
        have sz_o163 : h0.size ≤ o163 := Nat.le_trans K133.1 z_o163
        have g_o163 : n0 ≤ o163 := Nat.le_trans Z0 sz_o163
        have ne_b124_d163 : b124 ≠ d163 := Nat.ne_of_lt (Nat.lt_of_lt_of_le E133q.lt z_d163)
        have ne_b125_d163 : b125 ≠ d163 := Nat.ne_of_lt (Nat.lt_of_lt_of_le fk165.lt z_d163)
        have ne_d133_d163 : d133 ≠ d163 := Nat.ne_of_lt (Nat.lt_of_lt_of_le V133q.lt z_d163)
        have sz_d163 : h0.size ≤ d163 := Nat.le_trans K133.1 z_d163
        have g_d163 : n0 ≤ d163 := Nat.le_trans Z0 sz_d163
        have N163 := Fr.app N133 N163q
        have K163 : Keep h0 T163.heap [] := Keep.trans K133 K163q all0
        have fk167 := (E133q.keep K163q)
        have fk168 := (C133q.keep K163q nin0)
        have fk169 := (F133q.keep K163q nin0)
        have fk170 := (V133q.keep K163q nin0)
        have Oh171 := O0.keep K163 all0
        have S172_b124 := Safe.ext E124 R0.1 (Safe.new (Nat.le_of_eq g124.symm))
        have R172 := R0.trans (CHr.ext E124 R0.1)
        have S173_b124 := Safe.ext E125 R172.1 S172_b124
        have S173_b125 := Safe.ext E125 R172.1 (Safe.new (Nat.le_of_eq g125.symm))
        have R173 := R172.trans (CHr.ext E125 R172.1)
        have S174_b124 := Safe.wr W128 S173_b125 R173.1 S173_b124
        have S174_b125 := Safe.wr W128 S173_b125 R173.1 S173_b125
        have R174 := R173.trans (CHr.wr W128 S173_b125 R173.1)
        have S175_b124 := Safe.wr W131 S174_b125 R174.1 S174_b124
        have S175_b125 := Safe.wr W131 S174_b125 R174.1 S174_b125
        have R175 := R174.trans (CHr.wr W131 S174_b125 R174.1)
        have sq176 : ∀ x ∈ [b124], Safe Z consts_1 s.vm _ x := (sfS S175_b124 sf0)
        have S176_b124 := Safe.keep K133q sq176 R175.1 S175_b124
        have S176_b125 := Safe.keep K133q sq176 R175.1 S175_b125
        have S176_d133 := Safe.keep K133q sq176 R175.1 (Safe.new z_d133)
        have R176 := R175.trans (CHr.keep K133q sq176 R175.1)
        have S177_b124 := Safe.keep K163q sf0 R176.1 S176_b124
        have S177_b125 := Safe.keep K163q sf0 R176.1 S176_b125
        have S177_d133 := Safe.keep K163q sf0 R176.1 S176_d133
        have S177_o163 := Safe.keep K163q sf0 R176.1 (Safe.new z_o163)
        have S177_d163 := Safe.keep K163q sf0 R176.1 (Safe.new z_d163)
        have R177 := R176.trans (CHr.keep K163q sf0 R176.1)
        obtain ⟨_, _, ⟨T166, L166, k166, n166⟩, -, X166, hS166q, gr166, ⟨Lc166, hQ166, l166, y166, z166, C166⟩, st166⟩ := callSS (s := s.setVm s.vm) X163 hx (y := mn_36) hown (mvT hZ (ww hw 8 rfl)) (mvT hZ (ww hw 9 rfl)) (mvT hZ (ww hw 10 rfl)) (mvT hZ (ww hw 11 rfl)) (by decide) (backOfSH (s := s) (vm0 := s.vm) (W := 0) (rm1_e l Z a0 hw [] b124 o163 d133 kd133 (2 : Int32) [own_by y0_, own_by y1_] d163 kd163 (1 : Int32) [own_by y2_] (35 : Int32) (own_B2 [own_by y0_, own_by y1_] [own_by y2_]) cs T163.heap n0 (Nat.le_trans Z0 K163.1) Oh171 fk167 fk168 fk169 fk170 (by decide) rfl E163q C163q F163q V163q (by decide) rfl (by decide) (by decide) (by decide) rfl S_CS h_cs) hZ (ww hw 11 rfl) (ww hw 10 rfl) (by decide) (by decide) (own_EW hw) R177.1) (g := (mkF m 176 #[vI p1, vI p2, vI p3, vI 2, vI 1, vI 1, vI y0_, vI y1_, vI y2_, vI y3_, vR b124, vR o163, .unset, .unset, .unset] [iR o163, iR b124])) rfl (by rw [hml]; rfl) (argsL := [(.ref b124), (.ref o163)]) (rest := []) (lenOf pd_30 rfl) rfl (wz rfl) (hb hby at_176) (fun _ _ => ⟨rfl, rfl, (by decide : 5 + 21 ≤ _), (by decide : 13 + 546 ≤ _)⟩)
        dsimp only [Pt.U, Pt.locs, Pt.cells, Pt.slots] at X166 hS166q gr166 l166 y166 z166 C166 st166 hQ166
        subst l166 y166 z166
        have hS166 := State.Since.trans ((State.WarmedH.refl s).since 0) hS166q (Nat.le_trans (Nat.zero_le _) gr166)
        have hZ : Z.Warmed39 (s.setVm T166.vm).vm := State.Warmed39.trans (t := s.setVm s.vm) hZ hS166q.1
        have hown : (s.setVm T166.vm).vm.findClass "com/example/cloud_to_core/cloudtocore/auth/HttpAuthorizationChallengePinLaw" = some m.cls := by rw [show (s.setVm T166.vm).vm = T166.vm from rfl, hS166q.1.alike.findClass]; exact hown
        have R166 := R177.trans C166
        obtain ⟨o166, d166, kd166, rfl, N166q, K166q, E166q, C166q, F166q, V166q⟩ := hQ166
        have N166 := Fr.app N163 N166q
        have K166 : Keep h0 T166.heap [] := Keep.trans K163 K166q all0
        have pre178 : ∀ t, Steps p.tables e below (T166.setTop (mkF m 181 #[vI p1, vI p2, vI p3, vI 2, vI 1, vI 1, vI y0_, vI y1_, vI y2_, vI y3_, vR b124, vR o163, vR o166, .unset, .unset] [])) t → Steps p.tables e below (s₁.setTop (entryFrame m #[(.int p1), (.int p2), (.int p3)] maxLocals)) t := by
          intro t kt
          refine pre148 t ?_
          show SA T133 m 122 #[vI p1, vI p2, vI p3, vI 2, vI 1, vI 1, vI y0_, vI y1_, vI y2_, vI y3_, vR b124, .val .null, .unset, .unset, .unset] []
          refine XS.iload X133.here hx rfl (hb hby at_122) rfl ?_
          show SA T133 m 124 #[vI p1, vI p2, vI p3, vI 2, vI 1, vI 1, vI y0_, vI y1_, vI y2_, vI y3_, vR b124, .val .null, .unset, .unset, .unset] [iI 1]
          refine XS.ifYes X133.here hx rfl (pc0 := 124) (pc' := 134) rfl (hb hby at_124) rfl ((if0 _ _).trans (feq (by decide : ¬ ((1 : Int32) = (0 : Int32)))).2) (by decide) (by decide) ?_
          show SA T133 m 134 #[vI p1, vI p2, vI p3, vI 2, vI 1, vI 1, vI y0_, vI y1_, vI y2_, vI y3_, vR b124, .val .null, .unset, .unset, .unset] []
          refine XS.iload X133.here hx rfl (hb hby at_134) rfl ?_
          show SA T133 m 136 #[vI p1, vI p2, vI p3, vI 2, vI 1, vI 1, vI y0_, vI y1_, vI y2_, vI y3_, vR b124, .val .null, .unset, .unset, .unset] [iI 1]
          refine XS.iconst X133.here hx rfl (hb hby at_136) ?_
          show SA T133 m 137 #[vI p1, vI p2, vI p3, vI 2, vI 1, vI 1, vI y0_, vI y1_, vI y2_, vI y3_, vR b124, .val .null, .unset, .unset, .unset] [iI 1, iI 1]
          refine XS.icmpNo X133.here hx rfl (hb hby at_137) rfl (teq (by decide : (1 : Int32) = (1 : Int32))).2 ?_
          show SA T133 m 140 #[vI p1, vI p2, vI p3, vI 2, vI 1, vI 1, vI y0_, vI y1_, vI y2_, vI y3_, vR b124, .val .null, .unset, .unset, .unset] []
          refine XS.iload X133.here hx rfl (hb hby at_140) rfl ?_
          show SA T133 m 142 #[vI p1, vI p2, vI p3, vI 2, vI 1, vI 1, vI y0_, vI y1_, vI y2_, vI y3_, vR b124, .val .null, .unset, .unset, .unset] [iI y2_]
          refine st163 _ ?_
          show SA T163 m 145 #[vI p1, vI p2, vI p3, vI 2, vI 1, vI 1, vI y0_, vI y1_, vI y2_, vI y3_, vR b124, .val .null, .unset, .unset, .unset] [iR o163]
          refine XS.astore X163.here hx rfl (hb hby at_145) rfl rfl (l' := #[vI p1, vI p2, vI p3, vI 2, vI 1, vI 1, vI y0_, vI y1_, vI y2_, vI y3_, vR b124, vR o163, .unset, .unset, .unset]) rfl ?_
          show SA T163 m 147 #[vI p1, vI p2, vI p3, vI 2, vI 1, vI 1, vI y0_, vI y1_, vI y2_, vI y3_, vR b124, vR o163, .unset, .unset, .unset] []
          refine XS.goto X163.here hx rfl (pc0 := 147) (pc' := 172) rfl (hb hby at_147) (by decide) (by decide) ?_
          show SA T163 m 172 #[vI p1, vI p2, vI p3, vI 2, vI 1, vI 1, vI y0_, vI y1_, vI y2_, vI y3_, vR b124, vR o163, .unset, .unset, .unset] []
          refine XS.aload X163.here hx rfl (hb hby at_172) rfl rfl ?_
          show SA T163 m 174 #[vI p1, vI p2, vI p3, vI 2, vI 1, vI 1, vI y0_, vI y1_, vI y2_, vI y3_, vR b124, vR o163, .unset, .unset, .unset] [iR b124]
          refine XS.aload X163.here hx rfl (hb hby at_174) rfl rfl ?_
          show SA T163 m 176 #[vI p1, vI p2, vI p3, vI 2, vI 1, vI 1, vI y0_, vI y1_, vI y2_, vI y3_, vR b124, vR o163, .unset, .unset, .unset] [iR o163, iR b124]
          refine st166.trans ?_
          show SA T166 m 179 #[vI p1, vI p2, vI p3, vI 2, vI 1, vI 1, vI y0_, vI y1_, vI y2_, vI y3_, vR b124, vR o163, .unset, .unset, .unset] [iR o166]
          refine XS.astore X166.here hx rfl (hb hby at_179) rfl rfl (l' := #[vI p1, vI p2, vI p3, vI 2, vI 1, vI 1, vI y0_, vI y1_, vI y2_, vI y3_, vR b124, vR o163, vR o166, .unset, .unset]) rfl ?_
          exact kt
        obtain ⟨s₂, o₂, hs₂, hr₂⟩ := own_end_e (lv := (2 : Int32)) (ev := (1 : Int32)) (y0_ := y0_) (y1_ := y1_) (y2_ := y2_) (y3_ := y3_) (sc := b124) (er := o163) (s := s) (vmT := T166.vm) (X166.more (by decide) (by decide)) hx hZ hw hby hml hown Bd.returns (by first | assumption | exact BodyLoose.notSynchronized (by assumption) | exact Body.notSynchronized (by assumption)) (rfl : T166.heap = _) K166 N166 Z0 O0 hS166 (Nat.le_refl _) R166 hh E166q C166q F166q V166q (by decide) rfl (by decide) (fun _ => ⟨by decide, by decide, own_gd (i := 0) (by decide) rfl (own_rt hl_y0_)⟩) (fun _ => ⟨by decide, by decide, own_gd (i := 1) (by decide) rfl (own_rt hl_y1_)⟩) (by decide) (own_re2_2 _ _ _) (by decide) (own_er2_2 _ _ _) (fun _ => ⟨by decide, by decide, own_gd (i := 33) (by decide) rfl (own_rt hl_y2_)⟩) (fun h => absurd (by decide) h) ⟨by decide, by decide, own_gd (i := 34) (c := (34 : Int32)) (by decide) rfl (by decide)⟩ S_CS h_cs S_F h_fm
        exact ⟨s₂, o₂, pre178 _ hs₂, hr₂⟩
      · obtain ⟨T179, h179, X179, e179, E179, A179, D179, -, st179⟩ := newO X133 hx hZ hown (ww hw 193 rfl) (ww hw 2 rfl) (ww hw 1 rfl) rfl (g := (mkF m 150 #[vI p1, vI p2, vI p3, vI 2, vI 1, vI 2, vI y0_, vI y1_, vI y2_, vI y3_, vR b124, .val .null, .unset, .unset, .unset] [])) rfl (hb hby at_150) (by decide) (by decide)
        obtain ⟨b179, g179⟩ : ∃ z, z = T133.heap.size := ⟨_, rfl⟩
        rw [← g179] at A179 D179 st179
        have ne_b124_b179 : b124 ≠ b179 := Nat.ne_of_lt (Nat.lt_of_lt_of_le E133q.lt (Nat.le_of_eq g179.symm))
        have fk180 := (VC132.keep K133q (ninS (Ne.symm ne_b124_b125) nin0))
        have ne_b125_b179 : b125 ≠ b179 := Nat.ne_of_lt (Nat.lt_of_lt_of_le fk180.lt (Nat.le_of_eq g179.symm))
        have ne_d133_b179 : d133 ≠ b179 := Nat.ne_of_lt (Nat.lt_of_lt_of_le V133q.lt (Nat.le_of_eq g179.symm))
        have sz_b179 : h0.size ≤ b179 := Nat.le_trans K133.1 (Nat.le_of_eq g179.symm)
        have g_b179 : n0 ≤ b179 := Nat.le_trans Z0 sz_b179
        have K179 : Keep h0 h179 [] := K133.ext E179
        have F_value_b179 : Fld Z h179 b179 "java/lang/String" "value" "[B" .null := D179 (Or.inr (ww hw 4 rfl)) (ty := (.array .byte)) (by decide)
        have F_coder_b179 : Fld Z h179 b179 "java/lang/String" "coder" "B" (.int (0 : Int32)) := D179 (Or.inr (ww hw 5 rfl)) (ty := .byte) (by decide)
        obtain ⟨T181, h181, k181, X181, e181, E181, A181, st181⟩ := newP X179 hx hZ (ww hw 194 rfl) e179 (g := (mkF m 155 #[vI p1, vI p2, vI p3, vI 2, vI 1, vI 2, vI y0_, vI y1_, vI y2_, vI y3_, vR b124, .val .null, .unset, .unset, .unset] [iI 2, iR b179, iR b179])) rfl (hb hby at_155) rfl (by decide) (cap := 2) (by decide) (by decide) (by decide) (by decide)
        obtain ⟨b181, g181⟩ : ∃ z, z = h179.size := ⟨_, rfl⟩
        rw [← g181] at A181 st181
        have fk182 := (E133q.ext E179)
        have ne_b124_b181 : b124 ≠ b181 := Nat.ne_of_lt (Nat.lt_of_lt_of_le fk182.lt (Nat.le_of_eq g181.symm))
        have fk183 := (fk180.ext E179)
        have ne_b125_b181 : b125 ≠ b181 := Nat.ne_of_lt (Nat.lt_of_lt_of_le fk183.lt (Nat.le_of_eq g181.symm))
        have fk184 := (V133q.ext E179)
        have ne_d133_b181 : d133 ≠ b181 := Nat.ne_of_lt (Nat.lt_of_lt_of_le fk184.lt (Nat.le_of_eq g181.symm))
        have ne_b179_b181 : b179 ≠ b181 := Nat.ne_of_lt (Nat.lt_of_lt_of_le A179.lt (Nat.le_of_eq g181.symm))
        have sz_b181 : h0.size ≤ b181 := Nat.le_trans K179.1 (Nat.le_of_eq g181.symm)
        have g_b181 : n0 ≤ b181 := Nat.le_trans Z0 sz_b181
        have K181 : Keep h0 h181 [] := K179.ext E181
        have V181 : Arv Z h181 b181 k181 .char (2 : Int32) [(.int (0 : Int32)), (.int (0 : Int32))] (.int (0 : Int32)) := (Arv.new A181 (by decide)).pad (pad_rep [] (.int (0 : Int32)) 2)
        obtain ⟨cl185, Ar185, q185, S185, M185, H185, G185⟩ := id V181
        have hin186 : ¬ ((0 : Int32) < 0 ∨ cl185.slots.size ≤ ((0 : Int32)).toNatClampNeg) := inb_of S185 ⟨by decide, by decide⟩
        obtain ⟨T187, h187, X187, e187, W187, st187⟩ := stC X181 hx hZ e181 Ar185 (j := (0 : Int32)) hin186 (g := (mkF m 161 #[vI p1, vI p2, vI p3, vI 2, vI 1, vI 2, vI y0_, vI y1_, vI y2_, vI y3_, vR b124, .val .null, .unset, .unset, .unset] [iI y2_, iI 0, iR b181, iR b181, iR b179, iR b179])) rfl rfl (hb hby at_161)
        have V187 : Arv Z h187 b181 k181 .char (2 : Int32) [(.int (nar .char y2_)), (.int (0 : Int32))] (.int (0 : Int32)) := Arv.set Ar185 q185 S185 M185 H185 G185 (fits_nar_char _) W187 0 rfl (Nat.le_of_ble_eq_true rfl)
        have K187 : Keep h0 h187 [] := K181.wr W187 (Or.inr sz_b181)
        have N187 := Fr.snoc X187 N133 g_b181
        obtain ⟨cl188, Ar188, q188, S188, M188, H188, G188⟩ := id V187
        have hin189 : ¬ ((1 : Int32) < 0 ∨ cl188.slots.size ≤ ((1 : Int32)).toNatClampNeg) := inb_of S188 ⟨by decide, by decide⟩
        obtain ⟨T190, h190, X190, e190, W190, st190⟩ := stC X187 hx hZ e187 Ar188 (j := (1 : Int32)) hin189 (g := (mkF m 166 #[vI p1, vI p2, vI p3, vI 2, vI 1, vI 2, vI y0_, vI y1_, vI y2_, vI y3_, vR b124, .val .null, .unset, .unset, .unset] [iI y3_, iI 1, iR b181, iR b181, iR b179, iR b179])) rfl rfl (hb hby at_166)
        have V190 : Arv Z h190 b181 k181 .char (2 : Int32) [(.int (nar .char y2_)), (.int (nar .char y3_))] (.int (0 : Int32)) := Arv.set Ar188 q188 S188 M188 H188 G188 (fits_nar_char _) W190 1 rfl (Nat.le_of_ble_eq_true rfl)
        have K190 : Keep h0 h190 [] := K187.wr W190 (Or.inr sz_b181)
        have N190 := Fr.snoc X190 N187 g_b181
        have VC191 : Arv Z h190 b181 k181 .char (2 : Int32) [(.int y2_), (.int y3_)] (.int (0 : Int32)) := by have q := V190; rw [own_narc hl_y2_, own_narc hl_y3_] at q; exact q
        have fk193 := (((A179.ext E181).wr W187).wr W190)
        have fk194 := (((F_value_b179.ext E181).other W187 (Or.inl ne_b179_b181)).other W190 (Or.inl ne_b179_b181))
        have fk195 := (((F_coder_b179.ext E181).other W187 (Or.inl ne_b179_b181)).other W190 (Or.inl ne_b179_b181))
        have Oh196 := O0.keep K190 all0
        obtain ⟨_, _, ⟨T192, L192, k192, n192⟩, -, X192, ⟨Lc192, hQ192, l192, y192, z192⟩, st192⟩ := X190.specialBack hx (y := mn_41) rfl hown (mvT hZ (ww hw 195 rfl)) (mvT hZ (ww hw 196 rfl)) (mvT hZ (ww hw 197 rfl)) (by decide) (backOf (W := 1) (rm39_2 l Z a0 hw [] b179 b181 k181 y2_ y3_ cs h190 n0 (Nat.le_trans Z0 K190.1) Oh196 fk193 g_b179 fk194 fk195 VC191 ne_b179_b181 (own_le255 hl_y2_) (own_le255 hl_y3_) S_CS h_cs) hZ (ww hw 197 rfl) (ww hw 1 rfl) (by decide) (by decide)) (g := (mkF m 167 #[vI p1, vI p2, vI p3, vI 2, vI 1, vI 2, vI y0_, vI y1_, vI y2_, vI y3_, vR b124, .val .null, .unset, .unset, .unset] [iR b181, iR b179, iR b179])) rfl (by rw [hml]; rfl) (Steps.refl _) (a := b179) (argsL := [(.ref b181)]) (rest := [(.ref b179)]) (lenOf pd_32 rfl) rfl (wz rfl) (hb hby at_167) (fun _ _ => ⟨rfl, e190, (by decide : 5 + 1 ≤ _), (by decide : 14 + 2 ≤ _)⟩)
        dsimp only [Pt.U, Pt.locs, Pt.cells, Pt.slots] at X192 l192 y192 z192 st192 hQ192
        subst l192 y192 z192
        obtain ⟨d192, kd192, rfl, N192q, K192q, E192q, C192q, F192q, V192q, z_d192⟩ := hQ192
        have fk197 := (((fk182.ext E181).wr W187).wr W190)
        have fk198 := (((fk183.ext E181).other W187 ne_b125_b181).other W190 ne_b125_b181)
        have fk199 := (((fk184.ext E181).other W187 ne_d133_b181).other W190 ne_d133_b181)
        have ne_b124_d192 : b124 ≠ d192 := Nat.ne_of_lt (Nat.lt_of_lt_of_le fk197.lt z_d192)
        have ne_b125_d192 : b125 ≠ d192 := Nat.ne_of_lt (Nat.lt_of_lt_of_le fk198.lt z_d192)
        have ne_d133_d192 : d133 ≠ d192 := Nat.ne_of_lt (Nat.lt_of_lt_of_le fk199.lt z_d192)
        have ne_b179_d192 : b179 ≠ d192 := Nat.ne_of_lt (Nat.lt_of_lt_of_le fk193.lt z_d192)
        have ne_b181_d192 : b181 ≠ d192 := Nat.ne_of_lt (Nat.lt_of_lt_of_le VC191.lt z_d192)
        have sz_d192 : h0.size ≤ d192 := Nat.le_trans K190.1 z_d192
        have g_d192 : n0 ≤ d192 := Nat.le_trans Z0 sz_d192
        have N192 := Fr.app N190 N192q
        have K192 : Keep h0 T192.heap [] := Keep.trans K190 K192q (allS (Or.inr sz_b179) all0)
        have fk201 := (fk197.keep K192q)
        have fk202 := (((((C133q.ext E179).ext E181).other W187 (Or.inl ne_b124_b181)).other W190 (Or.inl ne_b124_b181)).keep K192q (ninS ne_b124_b179 nin0))
        have fk203 := (((((F133q.ext E179).ext E181).other W187 (Or.inl ne_b124_b181)).other W190 (Or.inl ne_b124_b181)).keep K192q (ninS ne_b124_b179 nin0))
        have fk204 := (fk199.keep K192q (ninS ne_d133_b179 nin0))
        have Oh205 := O0.keep K192 all0
        have S206_b124 := Safe.ext E124 R0.1 (Safe.new (Nat.le_of_eq g124.symm))
        have R206 := R0.trans (CHr.ext E124 R0.1)
        have S207_b124 := Safe.ext E125 R206.1 S206_b124
        have S207_b125 := Safe.ext E125 R206.1 (Safe.new (Nat.le_of_eq g125.symm))
        have R207 := R206.trans (CHr.ext E125 R206.1)
        have S208_b124 := Safe.wr W128 S207_b125 R207.1 S207_b124
        have S208_b125 := Safe.wr W128 S207_b125 R207.1 S207_b125
        have R208 := R207.trans (CHr.wr W128 S207_b125 R207.1)
        have S209_b124 := Safe.wr W131 S208_b125 R208.1 S208_b124
        have S209_b125 := Safe.wr W131 S208_b125 R208.1 S208_b125
        have R209 := R208.trans (CHr.wr W131 S208_b125 R208.1)
        have sq210 : ∀ x ∈ [b124], Safe Z consts_1 s.vm _ x := (sfS S209_b124 sf0)
        have S210_b124 := Safe.keep K133q sq210 R209.1 S209_b124
        have S210_b125 := Safe.keep K133q sq210 R209.1 S209_b125
        have S210_d133 := Safe.keep K133q sq210 R209.1 (Safe.new z_d133)
        have R210 := R209.trans (CHr.keep K133q sq210 R209.1)
        have S211_b124 := Safe.ext E179 R210.1 S210_b124
        have S211_b125 := Safe.ext E179 R210.1 S210_b125
        have S211_d133 := Safe.ext E179 R210.1 S210_d133
        have S211_b179 := Safe.ext E179 R210.1 (Safe.new (Nat.le_of_eq g179.symm))
        have R211 := R210.trans (CHr.ext E179 R210.1)
        have S212_b124 := Safe.ext E181 R211.1 S211_b124
        have S212_b125 := Safe.ext E181 R211.1 S211_b125
        have S212_d133 := Safe.ext E181 R211.1 S211_d133
        have S212_b179 := Safe.ext E181 R211.1 S211_b179
        have S212_b181 := Safe.ext E181 R211.1 (Safe.new (Nat.le_of_eq g181.symm))
        have R212 := R211.trans (CHr.ext E181 R211.1)
        have S213_b124 := Safe.wr W187 S212_b181 R212.1 S212_b124
        have S213_b125 := Safe.wr W187 S212_b181 R212.1 S212_b125
        have S213_d133 := Safe.wr W187 S212_b181 R212.1 S212_d133
        have S213_b179 := Safe.wr W187 S212_b181 R212.1 S212_b179
        have S213_b181 := Safe.wr W187 S212_b181 R212.1 S212_b181
        have R213 := R212.trans (CHr.wr W187 S212_b181 R212.1)
        have S214_b124 := Safe.wr W190 S213_b181 R213.1 S213_b124
        have S214_b125 := Safe.wr W190 S213_b181 R213.1 S213_b125
        have S214_d133 := Safe.wr W190 S213_b181 R213.1 S213_d133
        have S214_b179 := Safe.wr W190 S213_b181 R213.1 S213_b179
        have S214_b181 := Safe.wr W190 S213_b181 R213.1 S213_b181
        have R214 := R213.trans (CHr.wr W190 S213_b181 R213.1)
        have sq215 : ∀ x ∈ [b179], Safe Z consts_1 s.vm _ x := (sfS S214_b179 sf0)
        have S215_b124 := Safe.keep K192q sq215 R214.1 S214_b124
        have S215_b125 := Safe.keep K192q sq215 R214.1 S214_b125
        have S215_d133 := Safe.keep K192q sq215 R214.1 S214_d133
        have S215_b179 := Safe.keep K192q sq215 R214.1 S214_b179
        have S215_b181 := Safe.keep K192q sq215 R214.1 S214_b181
        have S215_d192 := Safe.keep K192q sq215 R214.1 (Safe.new z_d192)
        have R215 := R214.trans (CHr.keep K192q sq215 R214.1)
        obtain ⟨_, _, ⟨T200, L200, k200, n200⟩, -, X200, hS200q, gr200, ⟨Lc200, hQ200, l200, y200, z200, C200⟩, st200⟩ := callSS (s := s.setVm s.vm) X192 hx (y := mn_36) hown (mvT hZ (ww hw 8 rfl)) (mvT hZ (ww hw 9 rfl)) (mvT hZ (ww hw 10 rfl)) (mvT hZ (ww hw 11 rfl)) (by decide) (backOfSH (s := s) (vm0 := s.vm) (W := 0) (rm1_e l Z a0 hw [] b124 b179 d133 kd133 (2 : Int32) [own_by y0_, own_by y1_] d192 kd192 (2 : Int32) [own_by y2_, own_by y3_] (36 : Int32) (own_B2 [own_by y0_, own_by y1_] [own_by y2_, own_by y3_]) cs T192.heap n0 (Nat.le_trans Z0 K192.1) Oh205 fk201 fk202 fk203 fk204 (by decide) rfl E192q C192q F192q V192q (by decide) rfl (by decide) (by decide) (by decide) rfl S_CS h_cs) hZ (ww hw 11 rfl) (ww hw 10 rfl) (by decide) (by decide) (own_EW hw) R215.1) (g := (mkF m 176 #[vI p1, vI p2, vI p3, vI 2, vI 1, vI 2, vI y0_, vI y1_, vI y2_, vI y3_, vR b124, vR b179, .unset, .unset, .unset] [iR b179, iR b124])) rfl (by rw [hml]; rfl) (argsL := [(.ref b124), (.ref b179)]) (rest := []) (lenOf pd_30 rfl) rfl (wz rfl) (hb hby at_176) (fun _ _ => ⟨rfl, rfl, (by decide : 6 + 21 ≤ _), (by decide : 16 + 546 ≤ _)⟩)
        dsimp only [Pt.U, Pt.locs, Pt.cells, Pt.slots] at X200 hS200q gr200 l200 y200 z200 C200 st200 hQ200
        subst l200 y200 z200
        have hS200 := State.Since.trans ((State.WarmedH.refl s).since 0) hS200q (Nat.le_trans (Nat.zero_le _) gr200)
        have hZ : Z.Warmed39 (s.setVm T200.vm).vm := State.Warmed39.trans (t := s.setVm s.vm) hZ hS200q.1
        have hown : (s.setVm T200.vm).vm.findClass "com/example/cloud_to_core/cloudtocore/auth/HttpAuthorizationChallengePinLaw" = some m.cls := by rw [show (s.setVm T200.vm).vm = T200.vm from rfl, hS200q.1.alike.findClass]; exact hown
        have R200 := R215.trans C200
        obtain ⟨o200, d200, kd200, rfl, N200q, K200q, E200q, C200q, F200q, V200q⟩ := hQ200
        have N200 := Fr.app N192 N200q
        have K200 : Keep h0 T200.heap [] := Keep.trans K192 K200q all0
        have pre216 : ∀ t, Steps p.tables e below (T200.setTop (mkF m 181 #[vI p1, vI p2, vI p3, vI 2, vI 1, vI 2, vI y0_, vI y1_, vI y2_, vI y3_, vR b124, vR b179, vR o200, .unset, .unset] [])) t → Steps p.tables e below (s₁.setTop (entryFrame m #[(.int p1), (.int p2), (.int p3)] maxLocals)) t := by
          intro t kt
          refine pre148 t ?_
          show SA T133 m 122 #[vI p1, vI p2, vI p3, vI 2, vI 1, vI 2, vI y0_, vI y1_, vI y2_, vI y3_, vR b124, .val .null, .unset, .unset, .unset] []
          refine XS.iload X133.here hx rfl (hb hby at_122) rfl ?_
          show SA T133 m 124 #[vI p1, vI p2, vI p3, vI 2, vI 1, vI 2, vI y0_, vI y1_, vI y2_, vI y3_, vR b124, .val .null, .unset, .unset, .unset] [iI 2]
          refine XS.ifYes X133.here hx rfl (pc0 := 124) (pc' := 134) rfl (hb hby at_124) rfl ((if0 _ _).trans (feq (by decide : ¬ ((2 : Int32) = (0 : Int32)))).2) (by decide) (by decide) ?_
          show SA T133 m 134 #[vI p1, vI p2, vI p3, vI 2, vI 1, vI 2, vI y0_, vI y1_, vI y2_, vI y3_, vR b124, .val .null, .unset, .unset, .unset] []
          refine XS.iload X133.here hx rfl (hb hby at_134) rfl ?_
          show SA T133 m 136 #[vI p1, vI p2, vI p3, vI 2, vI 1, vI 2, vI y0_, vI y1_, vI y2_, vI y3_, vR b124, .val .null, .unset, .unset, .unset] [iI 2]
          refine XS.iconst X133.here hx rfl (hb hby at_136) ?_
          show SA T133 m 137 #[vI p1, vI p2, vI p3, vI 2, vI 1, vI 2, vI y0_, vI y1_, vI y2_, vI y3_, vR b124, .val .null, .unset, .unset, .unset] [iI 1, iI 2]
          refine XS.icmpYes X133.here hx rfl (pc0 := 137) (pc' := 150) rfl (hb hby at_137) rfl (feq (by decide : ¬ ((2 : Int32) = (1 : Int32)))).2 (by decide) (by decide) ?_
          show SA T133 m 150 #[vI p1, vI p2, vI p3, vI 2, vI 1, vI 2, vI y0_, vI y1_, vI y2_, vI y3_, vR b124, .val .null, .unset, .unset, .unset] []
          refine st179 _ ?_
          show SA T179 m 153 #[vI p1, vI p2, vI p3, vI 2, vI 1, vI 2, vI y0_, vI y1_, vI y2_, vI y3_, vR b124, .val .null, .unset, .unset, .unset] [iR b179]
          refine XS.dup X179.here hx rfl (hb hby at_153) rfl rfl ?_
          show SA T179 m 154 #[vI p1, vI p2, vI p3, vI 2, vI 1, vI 2, vI y0_, vI y1_, vI y2_, vI y3_, vR b124, .val .null, .unset, .unset, .unset] [iR b179, iR b179]
          refine XS.iconst X179.here hx rfl (hb hby at_154) ?_
          show SA T179 m 155 #[vI p1, vI p2, vI p3, vI 2, vI 1, vI 2, vI y0_, vI y1_, vI y2_, vI y3_, vR b124, .val .null, .unset, .unset, .unset] [iI 2, iR b179, iR b179]
          refine st181 _ ?_
          show SA T181 m 157 #[vI p1, vI p2, vI p3, vI 2, vI 1, vI 2, vI y0_, vI y1_, vI y2_, vI y3_, vR b124, .val .null, .unset, .unset, .unset] [iR b181, iR b179, iR b179]
          refine XS.dup X181.here hx rfl (hb hby at_157) rfl rfl ?_
          show SA T181 m 158 #[vI p1, vI p2, vI p3, vI 2, vI 1, vI 2, vI y0_, vI y1_, vI y2_, vI y3_, vR b124, .val .null, .unset, .unset, .unset] [iR b181, iR b181, iR b179, iR b179]
          refine XS.iconst X181.here hx rfl (hb hby at_158) ?_
          show SA T181 m 159 #[vI p1, vI p2, vI p3, vI 2, vI 1, vI 2, vI y0_, vI y1_, vI y2_, vI y3_, vR b124, .val .null, .unset, .unset, .unset] [iI 0, iR b181, iR b181, iR b179, iR b179]
          refine XS.iload X181.here hx rfl (hb hby at_159) rfl ?_
          show SA T181 m 161 #[vI p1, vI p2, vI p3, vI 2, vI 1, vI 2, vI y0_, vI y1_, vI y2_, vI y3_, vR b124, .val .null, .unset, .unset, .unset] [iI y2_, iI 0, iR b181, iR b181, iR b179, iR b179]
          refine st187 _ ?_
          show SA T187 m 162 #[vI p1, vI p2, vI p3, vI 2, vI 1, vI 2, vI y0_, vI y1_, vI y2_, vI y3_, vR b124, .val .null, .unset, .unset, .unset] [iR b181, iR b179, iR b179]
          refine XS.dup X187.here hx rfl (hb hby at_162) rfl rfl ?_
          show SA T187 m 163 #[vI p1, vI p2, vI p3, vI 2, vI 1, vI 2, vI y0_, vI y1_, vI y2_, vI y3_, vR b124, .val .null, .unset, .unset, .unset] [iR b181, iR b181, iR b179, iR b179]
          refine XS.iconst X187.here hx rfl (hb hby at_163) ?_
          show SA T187 m 164 #[vI p1, vI p2, vI p3, vI 2, vI 1, vI 2, vI y0_, vI y1_, vI y2_, vI y3_, vR b124, .val .null, .unset, .unset, .unset] [iI 1, iR b181, iR b181, iR b179, iR b179]
          refine XS.iload X187.here hx rfl (hb hby at_164) rfl ?_
          show SA T187 m 166 #[vI p1, vI p2, vI p3, vI 2, vI 1, vI 2, vI y0_, vI y1_, vI y2_, vI y3_, vR b124, .val .null, .unset, .unset, .unset] [iI y3_, iI 1, iR b181, iR b181, iR b179, iR b179]
          refine st190 _ ?_
          show SA T190 m 167 #[vI p1, vI p2, vI p3, vI 2, vI 1, vI 2, vI y0_, vI y1_, vI y2_, vI y3_, vR b124, .val .null, .unset, .unset, .unset] [iR b181, iR b179, iR b179]
          refine st192.trans ?_
          show SA T192 m 170 #[vI p1, vI p2, vI p3, vI 2, vI 1, vI 2, vI y0_, vI y1_, vI y2_, vI y3_, vR b124, .val .null, .unset, .unset, .unset] [iR b179]
          refine XS.astore X192.here hx rfl (hb hby at_170) rfl rfl (l' := #[vI p1, vI p2, vI p3, vI 2, vI 1, vI 2, vI y0_, vI y1_, vI y2_, vI y3_, vR b124, vR b179, .unset, .unset, .unset]) rfl ?_
          show SA T192 m 172 #[vI p1, vI p2, vI p3, vI 2, vI 1, vI 2, vI y0_, vI y1_, vI y2_, vI y3_, vR b124, vR b179, .unset, .unset, .unset] []
          refine XS.aload X192.here hx rfl (hb hby at_172) rfl rfl ?_
          show SA T192 m 174 #[vI p1, vI p2, vI p3, vI 2, vI 1, vI 2, vI y0_, vI y1_, vI y2_, vI y3_, vR b124, vR b179, .unset, .unset, .unset] [iR b124]
          refine XS.aload X192.here hx rfl (hb hby at_174) rfl rfl ?_
          show SA T192 m 176 #[vI p1, vI p2, vI p3, vI 2, vI 1, vI 2, vI y0_, vI y1_, vI y2_, vI y3_, vR b124, vR b179, .unset, .unset, .unset] [iR b179, iR b124]
          refine st200.trans ?_
          show SA T200 m 179 #[vI p1, vI p2, vI p3, vI 2, vI 1, vI 2, vI y0_, vI y1_, vI y2_, vI y3_, vR b124, vR b179, .unset, .unset, .unset] [iR o200]
          refine XS.astore X200.here hx rfl (hb hby at_179) rfl rfl (l' := #[vI p1, vI p2, vI p3, vI 2, vI 1, vI 2, vI y0_, vI y1_, vI y2_, vI y3_, vR b124, vR b179, vR o200, .unset, .unset]) rfl ?_
          exact kt
        obtain ⟨s₂, o₂, hs₂, hr₂⟩ := own_end_e (lv := (2 : Int32)) (ev := (2 : Int32)) (y0_ := y0_) (y1_ := y1_) (y2_ := y2_) (y3_ := y3_) (sc := b124) (er := b179) (s := s) (vmT := T200.vm) (X200.more (by decide) (by decide)) hx hZ hw hby hml hown Bd.returns (by first | assumption | exact BodyLoose.notSynchronized (by assumption) | exact Body.notSynchronized (by assumption)) (rfl : T200.heap = _) K200 N200 Z0 O0 hS200 (Nat.le_refl _) R200 hh E200q C200q F200q V200q (by decide) rfl (by decide) (fun _ => ⟨by decide, by decide, own_gd (i := 0) (by decide) rfl (own_rt hl_y0_)⟩) (fun _ => ⟨by decide, by decide, own_gd (i := 1) (by decide) rfl (own_rt hl_y1_)⟩) (by decide) (own_re2_2 _ _ _) (by decide) (own_er2_2 _ _ _) (fun _ => ⟨by decide, by decide, own_gd (i := 33) (by decide) rfl (own_rt hl_y2_)⟩) (fun _ => ⟨by decide, by decide, own_gd (i := 34) (by decide) rfl (own_rt hl_y3_)⟩) ⟨by decide, by decide, own_gd (i := 35) (c := (34 : Int32)) (by decide) rfl (by decide)⟩ S_CS h_cs S_F h_fm
        exact ⟨s₂, o₂, pre216 _ hs₂, hr₂⟩
theorem comes_1 {Post : Tables → Env → Array Value → State → Outcome → State → Prop} (hpost : ∀ tb e args s v u, (limb_1_1.after args s (.returned v) u = true ∧ limb_1_2.after args s (.returned v) u = true ∧ True) → ReturnedEndW s (.returned v) u (Jvm.fieldLocs frame_1_writes args s ++ Jvm.arrayLocs frame_1_arrays args s ++ Jvm.staticLocs frame_1_statics s) 56 5760 → Post tb e args s (.returned v) u) :
    ArmFor flags0 classFile x code maxLocals ret World_1 tables_1 room_1 Calls_1 rest_1 Pre_1 Post := by
  intro l hfl _ _ p e ha hc hk s m args below hf hA hF happ hP
  obtain ⟨hcalls, hrest, hpre⟩ := hP
  obtain ⟨-, -, -, hnamed, -, -, -, hat⟩ := (Spec.applies_iff hf).mp happ
  obtain ⟨hg, hn⟩ := and_e (Cond.before_iff.mp (show (Jvm.Cond.and given_1 narrow_1).before args s = true from hpre))
  obtain ⟨gc, gr0⟩ := and_e hg
  obtain ⟨ga0, gr1⟩ := and_e gr0
  obtain ⟨ga1, gr2⟩ := and_e gr1
  obtain ⟨w0, w1, w2, rfl⟩ : ∃ w0 w1 w2 : Value, args = #[w0, w1, w2] := by
    have hs : args.size = 3 := by simpa [Cond.value, given_1] using gc
    obtain ⟨L⟩ := args
    match L, hs with
    | [w0, w1, w2], _ => exact ⟨w0, w1, w2, rfl⟩
  have hw := fun d (hd : d ∈ tables_1) => atoms_spec (ws := Jvm.Cond.code x code maxLocals ret :: tables_1) hat d (List.mem_cons_of_mem _ hd)
  have hfit : Fit s := fun {y c} hc i hi => by
    obtain ⟨ha, rfl⟩ := Array.getElem?_eq_some_iff.mp hc
    have q := List.all_eq_true.mp ((Array.all_eq_true_iff_forall_mem.mp hF) _ (Array.getElem_mem ha)) i (List.mem_range.mpr hi)
    simpa [Array.getElem?_eq_getElem hi] using q
  obtain ⟨hsets, hown0⟩ := atoms_of _ (rest_1_c_eq ▸ (show rest_1_c.before _ s = true from hrest))
  have hr0 := Cond.before_iff.mp hown0
  obtain ⟨i0, ei0⟩ := is_v ga0
  obtain rfl : w0 = (.int i0) := Option.some.inj ei0
  obtain ⟨i1, ei1⟩ := is_v ga1
  obtain rfl : w1 = (.int i1) := Option.some.inj ei1
  obtain ⟨i2, ei2⟩ := is_v gr2
  obtain rfl : w2 = (.int i2) := Option.some.inj ei2
  obtain ⟨cs, evCS⟩ := is_v (Cond.before_iff.mp (hsets _ (List.mem_of_getElem? (i := 1) rfl)))
  have S_CS : Sta s s.heap "java/lang/String" "COMPACT_STRINGS" "Z" (.int cs) := Sta.start evCS (Or.inl (hsets _ (List.mem_of_getElem? (i := 0) rfl)))
  have h_cs : ¬ cs = (0 : Int32) := fun q => by
    have q1 := not_v (Cond.before_iff.mp (hsets _ (List.mem_of_getElem? (i := 2) rfl)))
    rw [Cond.eq_ints evCS (Term.int_eval 0), q] at q1; exact absurd q1 (by simp)
  obtain ⟨fm, evF, h_fm⟩ := isR_v (Cond.before_iff.mp (hsets _ (List.mem_of_getElem? (i := 8) rfl)))
  have S_F : Sta s s.heap "jdk/internal/util/Preconditions" "SIOOBE_FORMATTER" "Ljava/util/function/BiFunction;" fm := Sta.start evF (Or.inl (hsets _ (List.mem_of_getElem? (i := 7) rfl)))
  have hC0 : CHv s consts_1 s.vm s.heap := CHv.start (own_EW hw) hcalls.1 (hsets _ (List.mem_of_getElem? (i := 2) rfl)) (ww hw 3 rfl) (ww hw 2 rfl)
  obtain ⟨n, o, h1, h2, h3, _, L, rfl, Qv, hq⟩ := rm0 l s _ hw tables_1 i0 i1 i2 cs fm s.heap s.heap.size (Nat.le_refl _) (Old.start s) S_CS h_cs S_F h_fm p e ha hc hk s m _ below hf ((Spec.applies_iff_loose hf).mp happ).1 ⟨rfl, State.Warmed39.refl s, rfl, hC0⟩ trivial
  obtain ⟨rfl, N⟩ := Qv
  refine ⟨n, _, h1, h2, h3, hpost _ _ _ _ _ _ ⟨Cond.after_iff.mpr rfl, Cond.after_iff.mpr (eq_i res_at (Term.int_eval (1)) rfl), trivial⟩ ⟨hq.1, hq.2.1, hq.2.2.1, (hq.2.2.2.sift fun y hy => Or.inr (N y hy)).mono (by decide) (by decide)⟩⟩
theorem main_1_1 : Claimed_1_1 := comes_1 fun _ _ _ _ _ _ h hF => ⟨h.1, hF⟩
theorem main_1_2 : Claimed_1_2 := comes_1 fun _ _ _ _ _ _ h hF => ⟨h.2.1, hF⟩
end Jvm.Pilot.@@N@@
namespace Jvm.Pilot.@@N@@
open Jvm Jvm.ClassFile Sem Op Lib Jvm.Free Jvm.Stand Jvm.Pilot.@@N@@.Jvm.D
/-! MADE BY PROGRAM (witnessworld.py) out of the Statement's table words and the real class files: 26 classes; the members and pool entries that the words name. The judged class is class 1, her method 3. -/
namespace start1
open Jvm.ClassFile
def u (s : String) : CpInfo := .utf8 (stringToUtf16 s)
/-- a pool by its gaps: so many unusable entries, then the entry; so many at the end -/
def gap : Nat → List CpInfo → List CpInfo
  | 0, r => r
  | n + 1, r => .unusable :: gap n r
def poolList (es : List (Nat × CpInfo)) (last : Nat) : List CpInfo := es.foldr (fun e r => gap e.1 (e.2 :: r)) (gap last [])
def pool (es : List (Nat × CpInfo)) (last : Nat) : Array CpInfo := ⟨poolList es last⟩
def fileOf (pool : Array CpInfo) (this : Nat) (attrs : Array Attribute := #[]) (ms : Array MethodInfo := #[]) (fl : Nat := 33) (sup : Nat := 0) (ifs : Array Nat := #[]) (fds : Array FieldInfo := #[]) : ClassFile where
  minorVersion := 0
  majorVersion := 65
  constantPool := pool
  accessFlags := fl
  thisClass := this
  superClass := sup
  interfaces := ifs
  fields := fds
  methods := ms
  attributes := attrs
def plain (name : String) (sup : Option ClassId) : Class where
  name := name
  kind := .ordinary
  loader := none
  accessFlags := 33
  super := sup
  interfaces := #[]
  cf := none
  fields := #[]
  methods := #[]
  instanceTypes := #[]
  staticTypes := #[]
  resolved := #[]
  callSites := []
  init := .initialized
  statics := none
  mirror := none

def pool0 : Array CpInfo := pool [(5, u "<init>"), (0, u "()V"), (1, .class_ 10), (1, u "java/lang/Object"), (85, u "clone"), (0, u "()Ljava/lang/Object;")] 26

def k0c0 : Code := { maxStack := 0, maxLocals := 1, code := object_method_1_code, exceptionTable := #[], attributes := #[] }
def k0m0 : Method := { name := "<init>", desc := "()V", sig := { parameters := [], returnType := none }, accessFlags := 1, code := some k0c0 }
def k0m1 : Method := { name := "clone", desc := "()Ljava/lang/Object;", sig := { parameters := [], returnType := some (.object "java/lang/Object") }, accessFlags := 260, code := none }
/-- java/lang/Object -/
def k0 : Class := { plain "java/lang/Object" none with
  accessFlags := 33
  interfaces := #[]
  cf := some (fileOf pool0 8 #[] #[{ accessFlags := 1, nameIndex := 5, descriptorIndex := 6, attributes := #[] }, { accessFlags := 260, nameIndex := 96, descriptorIndex := 97, attributes := #[] }] 33 0 #[] #[])
  fields := #[]
  methods := #[k0m0, k0m1]
  instanceTypes := #[]
  staticTypes := #[]
  resolved := Array.replicate 124 none
  statics := none }

def pool1 : Array CpInfo := pool [(2, .class_ 4), (1, u "java/lang/Object"), (0, u "<init>"), (0, u "()V"), (0, .methodref 8 9), (0, .class_ 10), (0, .nameAndType 11 12), (0, u "java/lang/String"), (0, u "charAt"), (0, u "(I)C"), (0, .string 14), (0, u ""), (0, .methodref 8 16), (0, .nameAndType 17 18), (0, u "valueOf"), (0, u "(C)Ljava/lang/String;"), (0, .methodref 8 20), (0, .nameAndType 5 21), (0, u "([C)V"), (0, .methodref 23 24), (0, .class_ 25), (0, .nameAndType 26 27), (0, u "com/example/cloud_to_core/cloudtocore/auth/HttpAuthorization"), (0, u "challenge"), (0, u "(Ljava/lang/String;Ljava/lang/String;)Ljava/lang/String;"), (0, .methodref 8 29), (0, .nameAndType 30 31), (0, u "length"), (0, u "()I"), (0, .methodref 33 34), (0, .class_ 35), (0, .nameAndType 36 37), (0, u "com/example/cloud_to_core/cloudtocore/auth/HttpAuthorizationChallengePinLaw"), (0, u "realmAt"), (0, u "(Ljava/lang/String;I)Z"), (0, .methodref 33 39), (0, .nameAndType 40 37), (0, u "errorAt"), (3, u "law"), (0, u "(III)Z")] 2

def k1m0 : Method := { name := "<init>", desc := "()V", sig := { parameters := [], returnType := none }, accessFlags := 2, code := none }
def k1c1 : Code := { maxStack := 3, maxLocals := 2, code := method_2_code, exceptionTable := #[], attributes := #[] }
def k1m1 : Method := { name := "realmAt", desc := "(Ljava/lang/String;I)Z", sig := { parameters := [(.object "java/lang/String"), .int], returnType := some .boolean }, accessFlags := 10, code := some k1c1 }
def k1c2 : Code := { maxStack := 3, maxLocals := 2, code := method_3_code, exceptionTable := #[], attributes := #[] }
def k1m2 : Method := { name := "errorAt", desc := "(Ljava/lang/String;I)Z", sig := { parameters := [(.object "java/lang/String"), .int], returnType := some .boolean }, accessFlags := 10, code := some k1c2 }
def k1c3 : Code := { maxStack := 6, maxLocals := 15, code := code, exceptionTable := #[], attributes := #[] }
def k1m3 : Method := { name := "law", desc := "(III)Z", sig := { parameters := [.int, .int, .int], returnType := some .boolean }, accessFlags := 9, code := some k1c3 }
/-- com/example/cloud_to_core/cloudtocore/auth/HttpAuthorizationChallengePinLaw -/
def k1 : Class := { plain "com/example/cloud_to_core/cloudtocore/auth/HttpAuthorizationChallengePinLaw" (some 0) with
  accessFlags := 49
  interfaces := #[]
  cf := some (fileOf pool1 33 #[] #[{ accessFlags := 2, nameIndex := 5, descriptorIndex := 6, attributes := #[] }, { accessFlags := 10, nameIndex := 36, descriptorIndex := 37, attributes := #[] }, { accessFlags := 10, nameIndex := 40, descriptorIndex := 37, attributes := #[] }, { accessFlags := 9, nameIndex := 44, descriptorIndex := 45, attributes := #[] }] 49 2 #[] #[])
  fields := #[]
  methods := #[k1m0, k1m1, k1m2, k1m3]
  instanceTypes := #[]
  staticTypes := #[]
  resolved := Array.replicate 48 none
  statics := none }

def pool2 : Array CpInfo := pool [(1, .class_ 2), (0, u "java/io/Serializable"), (0, .class_ 4), (0, u "java/lang/Object")] 2

/-- java/io/Serializable -/
def k2 : Class := { plain "java/io/Serializable" (some 0) with
  accessFlags := 1537
  interfaces := #[]
  cf := some (fileOf pool2 1 #[] #[] 1537 3 #[] #[])
  fields := #[]
  methods := #[]
  instanceTypes := #[]
  staticTypes := #[]
  resolved := Array.replicate 7 none
  statics := none }

def pool3 : Array CpInfo := pool [(1, .class_ 2), (0, u "java/lang/Comparable"), (0, .class_ 4), (0, u "java/lang/Object")] 7

/-- java/lang/Comparable -/
def k3 : Class := { plain "java/lang/Comparable" (some 0) with
  accessFlags := 1537
  interfaces := #[]
  cf := some (fileOf pool3 1 #[] #[] 1537 3 #[] #[])
  fields := #[]
  methods := #[]
  instanceTypes := #[]
  staticTypes := #[]
  resolved := Array.replicate 12 none
  statics := none }

def pool4 : Array CpInfo := pool [(2, .class_ 4), (1, u "java/lang/CharSequence"), (42, .class_ 48), (0, u "java/lang/CharSequence$1CodePointIterator"), (10, .class_ 60), (0, u "java/lang/CharSequence$1CharIterator"), (5, .class_ 67), (0, u "java/lang/Object")] 63

/-- java/lang/CharSequence -/
def k4 : Class := { plain "java/lang/CharSequence" (some 0) with
  accessFlags := 1537
  interfaces := #[]
  cf := some (fileOf pool4 2 #[.nestMembers #[47, 59]] #[] 1537 66 #[] #[])
  fields := #[]
  methods := #[]
  instanceTypes := #[]
  staticTypes := #[]
  resolved := Array.replicate 131 none
  statics := none }

def pool5 : Array CpInfo := pool [(1, .class_ 2), (0, u "java/lang/constant/Constable"), (0, .class_ 4), (0, u "java/lang/Object")] 6

/-- java/lang/constant/Constable -/
def k5 : Class := { plain "java/lang/constant/Constable" (some 0) with
  accessFlags := 1537
  interfaces := #[]
  cf := some (fileOf pool5 1 #[] #[] 1537 3 #[] #[])
  fields := #[]
  methods := #[]
  instanceTypes := #[]
  staticTypes := #[]
  resolved := Array.replicate 11 none
  statics := none }

def pool6 : Array CpInfo := pool [(1, .class_ 2), (0, u "java/lang/constant/ConstantDesc"), (0, .class_ 4), (0, u "java/lang/Object")] 32

/-- java/lang/constant/ConstantDesc -/
def k6 : Class := { plain "java/lang/constant/ConstantDesc" (some 0) with
  accessFlags := 1537
  interfaces := #[]
  cf := some (fileOf pool6 1 #[] #[] 1537 3 #[] #[])
  fields := #[]
  methods := #[]
  instanceTypes := #[]
  staticTypes := #[]
  resolved := Array.replicate 37 none
  statics := none }

def pool7 : Array CpInfo := pool [(1, .methodref 2 3), (0, .class_ 4), (0, .nameAndType 5 6), (0, u "java/lang/Object"), (0, u "<init>"), (0, u "()V"), (2, .fieldref 10 11), (0, .class_ 12), (0, .nameAndType 13 14), (0, u "java/lang/String"), (0, u "value"), (0, u "[B"), (0, .fieldref 10 16), (0, .nameAndType 17 18), (0, u "coder"), (0, u "B"), (2, u "hash"), (0, u "I"), (2, u "hashIsZero"), (0, u "Z"), (0, .methodref 10 28), (0, .nameAndType 5 29), (0, u "([CIILjava/lang/Void;)V"), (8, .fieldref 10 39), (0, .nameAndType 40 26), (0, u "COMPACT_STRINGS"), (1, .class_ 44), (1, u "java/lang/StringUTF16"), (0, u "compress"), (1, .methodref 42 48), (0, .nameAndType 49 50), (0, u "coderFromArrayLen"), (0, u "([BI)B"), (2, u "toBytes"), (0, .methodref 55 56), (0, .class_ 57), (0, .nameAndType 58 59), (0, u "java/util/Arrays"), (0, u "copyOfRange"), (0, u "([BII)[B"), (47, .class_ 109), (1, u "java/lang/StringLatin1"), (32, u "()Z"), (34, .methodref 42 178), (0, .nameAndType 45 179), (0, u "([CII)[B"), (13, .class_ 195), (1, u "java/lang/System"), (13, .methodref 10 210), (0, .nameAndType 5 211), (0, u "([BB)V"), (0, .methodref 193 213), (0, .nameAndType 214 215), (0, u "arraycopy"), (0, u "(Ljava/lang/Object;ILjava/lang/Object;II)V"), (118, u "()I"), (0, .methodref 10 336), (0, .nameAndType 17 337), (0, u "()B"), (2, u "()[B"), (22, u "([BI)C"), (5, u "(C)Z"), (21, u "(II)V"), (35, u "(I)C"), (61, .methodref 10 490), (0, .nameAndType 5 491), (0, u "(Ljava/lang/AbstractStringBuilder;Ljava/lang/Void;)V"), (0, .methodref 10 493), (0, .nameAndType 494 142), (0, u "isLatin1"), (0, .methodref 107 496), (0, .nameAndType 497 363), (0, u "charAt"), (3, u "checkIndex"), (4, .nameAndType 507 334), (0, u "length"), (24, u "getBytes"), (16, .methodref 550 506), (0, .class_ 551), (0, u "java/lang/AbstractStringBuilder"), (0, .methodref 550 553), (0, .nameAndType 554 340), (0, u "getValue"), (20, .class_ 576), (0, u "java/lang/CharSequence"), (22, u "CASE_INSENSITIVE_ORDER"), (0, u "Ljava/util/Comparator;"), (181, u "valueOf"), (0, u "(C)Ljava/lang/String;"), (37, u "([BIB)V"), (188, u "([C)V"), (4, .methodref 107 1016), (0, .nameAndType 1017 369), (0, u "canEncode"), (0, .methodref 107 1019), (0, .nameAndType 53 1020), (0, u "(C)[B"), (26, .methodref 550 493), (5, .fieldref 1054 1055), (0, .class_ 1056), (0, .nameAndType 1057 1058), (0, u "jdk/internal/util/Preconditions"), (0, u "SIOOBE_FORMATTER"), (0, u "Ljava/util/function/BiFunction;"), (0, .methodref 1054 1060), (0, .nameAndType 501 1061), (0, u "(IILjava/util/function/BiFunction;)I"), (39, u "serialPersistentFields"), (0, u "[Ljava/io/ObjectStreamField;"), (0, .class_ 1104), (0, u "java/lang/String$CaseInsensitiveComparator"), (1, .class_ 1107), (0, u "java/io/Serializable"), (0, .class_ 1109), (0, u "java/lang/Comparable"), (0, .class_ 1111), (0, u "java/lang/constant/Constable"), (0, .class_ 1113), (0, u "java/lang/constant/ConstantDesc"), (2, u "serialVersionUID"), (0, u "J"), (3, u "REPL"), (0, u "C"), (2, u "LATIN1"), (1, u "UTF16"), (105, u "(Ljava/lang/StringBuilder;)V")] 217

def k7m0 : Method := { name := "<init>", desc := "()V", sig := { parameters := [], returnType := none }, accessFlags := 1, code := none }
def k7c1 : Code := { maxStack := 5, maxLocals := 2, code := jdk_42_method_3_code, exceptionTable := #[], attributes := #[] }
def k7m1 : Method := { name := "<init>", desc := "([C)V", sig := { parameters := [(.array .char)], returnType := none }, accessFlags := 1, code := some k7c1 }
def k7c2 : Code := { maxStack := 3, maxLocals := 2, code := jdk_42_method_53_code, exceptionTable := #[], attributes := #[] }
def k7m2 : Method := { name := "<init>", desc := "(Ljava/lang/StringBuilder;)V", sig := { parameters := [(.object "java/lang/StringBuilder")], returnType := none }, accessFlags := 1, code := some k7c2 }
def k7c3 : Code := { maxStack := 2, maxLocals := 1, code := jdk_42_method_54_code, exceptionTable := #[], attributes := #[] }
def k7m3 : Method := { name := "length", desc := "()I", sig := { parameters := [], returnType := some .int }, accessFlags := 1, code := some k7c3 }
def k7c4 : Code := { maxStack := 2, maxLocals := 2, code := jdk_42_method_56_code, exceptionTable := #[], attributes := #[] }
def k7m4 : Method := { name := "charAt", desc := "(I)C", sig := { parameters := [.int], returnType := some .char }, accessFlags := 1, code := some k7c4 }
def k7c5 : Code := { maxStack := 4, maxLocals := 1, code := jdk_42_method_139_code, exceptionTable := #[], attributes := #[] }
def k7m5 : Method := { name := "valueOf", desc := "(C)Ljava/lang/String;", sig := { parameters := [.char], returnType := some (.object "java/lang/String") }, accessFlags := 9, code := some k7c5 }
def k7c6 : Code := { maxStack := 5, maxLocals := 4, code := jdk_42_method_147_code, exceptionTable := #[], attributes := #[] }
def k7m6 : Method := { name := "getBytes", desc := "([BIB)V", sig := { parameters := [(.array .byte), .int, .byte], returnType := none }, accessFlags := 0, code := some k7c6 }
def k7c7 : Code := { maxStack := 4, maxLocals := 6, code := jdk_42_method_149_code, exceptionTable := #[], attributes := #[] }
def k7m7 : Method := { name := "<init>", desc := "([CIILjava/lang/Void;)V", sig := { parameters := [(.array .char), .int, .int, (.object "java/lang/Void")], returnType := none }, accessFlags := 2, code := some k7c7 }
def k7c8 : Code := { maxStack := 5, maxLocals := 5, code := jdk_42_method_150_code, exceptionTable := #[], attributes := #[] }
def k7m8 : Method := { name := "<init>", desc := "(Ljava/lang/AbstractStringBuilder;Ljava/lang/Void;)V", sig := { parameters := [(.object "java/lang/AbstractStringBuilder"), (.object "java/lang/Void")], returnType := none }, accessFlags := 0, code := some k7c8 }
def k7c9 : Code := { maxStack := 2, maxLocals := 3, code := jdk_42_method_151_code, exceptionTable := #[], attributes := #[] }
def k7m9 : Method := { name := "<init>", desc := "([BB)V", sig := { parameters := [(.array .byte), .byte], returnType := none }, accessFlags := 0, code := some k7c9 }
def k7c10 : Code := { maxStack := 1, maxLocals := 1, code := jdk_42_method_152_code, exceptionTable := #[], attributes := #[] }
def k7m10 : Method := { name := "coder", desc := "()B", sig := { parameters := [], returnType := some .byte }, accessFlags := 0, code := some k7c10 }
def k7c11 : Code := { maxStack := 1, maxLocals := 1, code := jdk_42_method_154_code, exceptionTable := #[], attributes := #[] }
def k7m11 : Method := { name := "isLatin1", desc := "()Z", sig := { parameters := [], returnType := some .boolean }, accessFlags := 0, code := some k7c11 }
def k7c12 : Code := { maxStack := 3, maxLocals := 2, code := jdk_42_method_155_code, exceptionTable := #[], attributes := #[] }
def k7m12 : Method := { name := "checkIndex", desc := "(II)V", sig := { parameters := [.int, .int], returnType := none }, accessFlags := 8, code := some k7c12 }
/-- java/lang/String -/
def k7 : Class := { plain "java/lang/String" (some 0) with
  accessFlags := 49
  interfaces := #[2, 3, 4, 5, 6]
  cf := some (fileOf pool7 10 #[.nestMembers #[1103]] #[{ accessFlags := 1, nameIndex := 5, descriptorIndex := 6, attributes := #[] }, { accessFlags := 1, nameIndex := 5, descriptorIndex := 1010, attributes := #[] }, { accessFlags := 1, nameIndex := 5, descriptorIndex := 1233, attributes := #[] }, { accessFlags := 1, nameIndex := 507, descriptorIndex := 334, attributes := #[] }, { accessFlags := 1, nameIndex := 497, descriptorIndex := 427, attributes := #[] }, { accessFlags := 9, nameIndex := 782, descriptorIndex := 783, attributes := #[] }, { accessFlags := 0, nameIndex := 532, descriptorIndex := 821, attributes := #[] }, { accessFlags := 2, nameIndex := 5, descriptorIndex := 29, attributes := #[] }, { accessFlags := 0, nameIndex := 5, descriptorIndex := 491, attributes := #[] }, { accessFlags := 0, nameIndex := 5, descriptorIndex := 211, attributes := #[] }, { accessFlags := 0, nameIndex := 17, descriptorIndex := 337, attributes := #[] }, { accessFlags := 0, nameIndex := 494, descriptorIndex := 142, attributes := #[] }, { accessFlags := 8, nameIndex := 501, descriptorIndex := 391, attributes := #[] }] 49 2 #[1106, 1108, 575, 1110, 1112] #[{ accessFlags := 18, nameIndex := 13, descriptorIndex := 14, attributes := #[] }, { accessFlags := 18, nameIndex := 17, descriptorIndex := 18, attributes := #[] }, { accessFlags := 2, nameIndex := 21, descriptorIndex := 22, attributes := #[] }, { accessFlags := 2, nameIndex := 25, descriptorIndex := 26, attributes := #[] }, { accessFlags := 26, nameIndex := 1116, descriptorIndex := 1117, attributes := #[] }, { accessFlags := 24, nameIndex := 40, descriptorIndex := 26, attributes := #[] }, { accessFlags := 26, nameIndex := 1101, descriptorIndex := 1102, attributes := #[] }, { accessFlags := 26, nameIndex := 1121, descriptorIndex := 1122, attributes := #[] }, { accessFlags := 25, nameIndex := 599, descriptorIndex := 600, attributes := #[] }, { accessFlags := 24, nameIndex := 1125, descriptorIndex := 18, attributes := #[] }, { accessFlags := 24, nameIndex := 1127, descriptorIndex := 18, attributes := #[] }])
  fields := #[{ name := "value", type := (.array .byte), accessFlags := 18, slot := 0, constantValue := 0 }, { name := "coder", type := .byte, accessFlags := 18, slot := 1, constantValue := 0 }, { name := "hash", type := .int, accessFlags := 2, slot := 2, constantValue := 0 }, { name := "hashIsZero", type := .boolean, accessFlags := 2, slot := 3, constantValue := 0 }, { name := "serialVersionUID", type := .long, accessFlags := 26, slot := 0, constantValue := 0 }, { name := "COMPACT_STRINGS", type := .boolean, accessFlags := 24, slot := 1, constantValue := 0 }, { name := "serialPersistentFields", type := (.array (.object "java/io/ObjectStreamField")), accessFlags := 26, slot := 2, constantValue := 0 }, { name := "REPL", type := .char, accessFlags := 26, slot := 3, constantValue := 0 }, { name := "CASE_INSENSITIVE_ORDER", type := (.object "java/util/Comparator"), accessFlags := 25, slot := 4, constantValue := 0 }, { name := "LATIN1", type := .byte, accessFlags := 24, slot := 5, constantValue := 0 }, { name := "UTF16", type := .byte, accessFlags := 24, slot := 6, constantValue := 0 }]
  methods := #[k7m0, k7m1, k7m2, k7m3, k7m4, k7m5, k7m6, k7m7, k7m8, k7m9, k7m10, k7m11, k7m12]
  instanceTypes := #[(.array .byte), .byte, .int, .boolean]
  staticTypes := #[.long, .boolean, (.array (.object "java/io/ObjectStreamField")), .char, (.object "java/util/Comparator"), .byte, .byte]
  resolved := Array.replicate 1451 none
  statics := some 0 }

def pool8 : Array CpInfo := pool [(2, .class_ 4), (0, .nameAndType 5 6), (0, u "java/lang/Object"), (0, u "<init>"), (0, u "()V"), (23, u "()Ljava/lang/String;"), (0, .class_ 32), (0, u "java/lang/StringBuilder"), (0, .methodref 31 3), (0, .methodref 31 35), (0, .nameAndType 36 37), (0, u "append"), (0, u "(Ljava/lang/String;)Ljava/lang/StringBuilder;"), (0, .string 39), (0, u " realm=\""), (0, .class_ 41), (0, u "com/example/cloud_to_core/cloudtocore/auth/HttpAuthorization"), (0, .string 43), (0, u "cloud-to-core"), (0, .string 45), (0, u "\""), (0, .methodref 31 47), (0, .nameAndType 48 30), (0, u "toString"), (0, .string 50), (0, u ", error=\""), (0, u "AUTHORIZATION"), (0, u "Ljava/lang/String;"), (3, u "WWW_AUTHENTICATE"), (2, u "REALM"), (3, u "(Ljava/lang/String;Ljava/lang/String;)Ljava/lang/String;"), (1, u "challenge")] 2

def k8m0 : Method := { name := "<init>", desc := "()V", sig := { parameters := [], returnType := none }, accessFlags := 2, code := none }
def k8c1 : Code := { maxStack := 2, maxLocals := 3, code := prog_1_method_3_code, exceptionTable := #[], attributes := #[] }
def k8m1 : Method := { name := "challenge", desc := "(Ljava/lang/String;Ljava/lang/String;)Ljava/lang/String;", sig := { parameters := [(.object "java/lang/String"), (.object "java/lang/String")], returnType := some (.object "java/lang/String") }, accessFlags := 8, code := some k8c1 }
/-- com/example/cloud_to_core/cloudtocore/auth/HttpAuthorization -/
def k8 : Class := { plain "com/example/cloud_to_core/cloudtocore/auth/HttpAuthorization" (some 0) with
  accessFlags := 48
  interfaces := #[]
  cf := some (fileOf pool8 40 #[] #[{ accessFlags := 2, nameIndex := 5, descriptorIndex := 6, attributes := #[] }, { accessFlags := 8, nameIndex := 65, descriptorIndex := 63, attributes := #[] }] 48 2 #[] #[{ accessFlags := 24, nameIndex := 51, descriptorIndex := 52, attributes := #[] }, { accessFlags := 24, nameIndex := 56, descriptorIndex := 52, attributes := #[] }, { accessFlags := 26, nameIndex := 59, descriptorIndex := 52, attributes := #[] }])
  fields := #[{ name := "AUTHORIZATION", type := (.object "java/lang/String"), accessFlags := 24, slot := 0, constantValue := 0 }, { name := "WWW_AUTHENTICATE", type := (.object "java/lang/String"), accessFlags := 24, slot := 1, constantValue := 0 }, { name := "REALM", type := (.object "java/lang/String"), accessFlags := 26, slot := 2, constantValue := 0 }]
  methods := #[k8m0, k8m1]
  instanceTypes := #[]
  staticTypes := #[(.object "java/lang/String"), (.object "java/lang/String"), (.object "java/lang/String")]
  resolved := Array.replicate 68 none
  statics := none }

def pool9 : Array CpInfo := pool [(1, .class_ 2), (0, u "java/lang/Appendable"), (0, .class_ 4), (0, u "java/lang/Object")] 9

/-- java/lang/Appendable -/
def k9 : Class := { plain "java/lang/Appendable" (some 0) with
  accessFlags := 1537
  interfaces := #[]
  cf := some (fileOf pool9 1 #[] #[] 1537 3 #[] #[])
  fields := #[]
  methods := #[]
  instanceTypes := #[]
  staticTypes := #[]
  resolved := Array.replicate 14 none
  statics := none }

def pool10 : Array CpInfo := pool [(1, .class_ 2), (0, u "java/lang/String"), (0, .methodref 4 5), (0, .class_ 6), (0, .nameAndType 7 8), (0, u "java/lang/Object"), (0, u "<init>"), (0, u "()V"), (1, .class_ 12), (1, u "java/lang/AbstractStringBuilder"), (0, u "EMPTYVALUE"), (0, u "[B"), (0, .fieldref 10 16), (0, .nameAndType 17 14), (0, u "value"), (0, .fieldref 1 19), (0, .nameAndType 20 21), (0, u "COMPACT_STRINGS"), (0, u "Z"), (0, .fieldref 10 23), (0, .nameAndType 24 25), (0, u "coder"), (0, u "B"), (6, .methodref 1 33), (0, .nameAndType 34 35), (0, u "length"), (0, u "()I"), (3, .integer 2147483647), (0, .methodref 1 41), (0, .nameAndType 24 42), (0, u "()B"), (2, u "append"), (0, u "(Ljava/lang/String;)Ljava/lang/AbstractStringBuilder;"), (1, .class_ 49), (0, u "java/lang/CharSequence"), (19, u "(Ljava/lang/String;)V"), (5, u "maybeLatin1"), (3, .fieldref 10 80), (0, .nameAndType 81 82), (0, u "count"), (0, u "I"), (2, u "isLatin1"), (0, u "()Z"), (13, .methodref 10 101), (0, .nameAndType 102 103), (0, u "ensureCapacityInternal"), (0, u "(I)V"), (0, .methodref 10 105), (0, .nameAndType 106 107), (0, u "newCapacity"), (0, u "(I)I"), (0, .methodref 109 110), (0, .class_ 111), (0, .nameAndType 112 113), (0, u "java/util/Arrays"), (0, u "copyOf"), (0, u "([BI)[B"), (0, .methodref 115 116), (0, .class_ 117), (0, .nameAndType 118 119), (0, u "jdk/internal/util/ArraysSupport"), (0, u "newLength"), (0, u "(III)I"), (88, .methodref 10 209), (0, .nameAndType 210 211), (0, u "putStringAt"), (0, u "(ILjava/lang/String;)V"), (5, u "inflateIfNeededFor"), (2, .nameAndType 221 222), (0, u "getBytes"), (0, u "([BIB)V"), (174, .methodref 10 398), (0, .nameAndType 217 69), (0, .methodref 1 220), (3, u "()[B"), (40, .class_ 445), (0, u "java/lang/Appendable"), (106, u "getValue")] 56

def k10m0 : Method := { name := "<init>", desc := "()V", sig := { parameters := [], returnType := none }, accessFlags := 0, code := none }
def k10c1 : Code := { maxStack := 2, maxLocals := 2, code := jdk_68_method_2_code, exceptionTable := #[], attributes := #[] }
def k10m1 : Method := { name := "<init>", desc := "(I)V", sig := { parameters := [.int], returnType := none }, accessFlags := 0, code := some k10c1 }
def k10c2 : Code := { maxStack := 1, maxLocals := 1, code := jdk_68_method_6_code, exceptionTable := #[], attributes := #[] }
def k10m2 : Method := { name := "length", desc := "()I", sig := { parameters := [], returnType := some .int }, accessFlags := 1, code := some k10c2 }
def k10c3 : Code := { maxStack := 4, maxLocals := 3, code := jdk_68_method_9_code, exceptionTable := #[], attributes := #[] }
def k10m3 : Method := { name := "ensureCapacityInternal", desc := "(I)V", sig := { parameters := [.int], returnType := none }, accessFlags := 2, code := some k10c3 }
def k10c4 : Code := { maxStack := 5, maxLocals := 6, code := jdk_68_method_10_code, exceptionTable := #[], attributes := #[] }
def k10m4 : Method := { name := "newCapacity", desc := "(I)I", sig := { parameters := [.int], returnType := some .int }, accessFlags := 2, code := some k10c4 }
def k10c5 : Code := { maxStack := 3, maxLocals := 3, code := jdk_68_method_22_code, exceptionTable := #[], attributes := #[] }
def k10m5 : Method := { name := "append", desc := "(Ljava/lang/String;)Ljava/lang/AbstractStringBuilder;", sig := { parameters := [(.object "java/lang/String")], returnType := some (.object "java/lang/AbstractStringBuilder") }, accessFlags := 1, code := some k10c5 }
def k10c6 : Code := { maxStack := 1, maxLocals := 1, code := jdk_68_method_64_code, exceptionTable := #[], attributes := #[] }
def k10m6 : Method := { name := "getValue", desc := "()[B", sig := { parameters := [], returnType := some (.array .byte) }, accessFlags := 16, code := some k10c6 }
def k10c7 : Code := { maxStack := 1, maxLocals := 1, code := jdk_68_method_68_code, exceptionTable := #[], attributes := #[] }
def k10m7 : Method := { name := "isLatin1", desc := "()Z", sig := { parameters := [], returnType := some .boolean }, accessFlags := 16, code := some k10c7 }
def k10c8 : Code := { maxStack := 2, maxLocals := 2, code := jdk_68_method_71_code, exceptionTable := #[], attributes := #[] }
def k10m8 : Method := { name := "inflateIfNeededFor", desc := "(Ljava/lang/String;)V", sig := { parameters := [(.object "java/lang/String")], returnType := none }, accessFlags := 2, code := some k10c8 }
def k10c9 : Code := { maxStack := 4, maxLocals := 3, code := jdk_68_method_73_code, exceptionTable := #[], attributes := #[] }
def k10m9 : Method := { name := "putStringAt", desc := "(ILjava/lang/String;)V", sig := { parameters := [.int, (.object "java/lang/String")], returnType := none }, accessFlags := 2, code := some k10c9 }
/-- java/lang/AbstractStringBuilder -/
def k10 : Class := { plain "java/lang/AbstractStringBuilder" (some 0) with
  accessFlags := 1056
  interfaces := #[9, 4]
  cf := some (fileOf pool10 10 #[] #[{ accessFlags := 0, nameIndex := 7, descriptorIndex := 8, attributes := #[] }, { accessFlags := 0, nameIndex := 7, descriptorIndex := 103, attributes := #[] }, { accessFlags := 1, nameIndex := 34, descriptorIndex := 35, attributes := #[] }, { accessFlags := 2, nameIndex := 102, descriptorIndex := 103, attributes := #[] }, { accessFlags := 2, nameIndex := 106, descriptorIndex := 107, attributes := #[] }, { accessFlags := 1, nameIndex := 45, descriptorIndex := 46, attributes := #[] }, { accessFlags := 16, nameIndex := 552, descriptorIndex := 403, attributes := #[] }, { accessFlags := 16, nameIndex := 85, descriptorIndex := 86, attributes := #[] }, { accessFlags := 2, nameIndex := 217, descriptorIndex := 69, attributes := #[] }, { accessFlags := 2, nameIndex := 210, descriptorIndex := 211, attributes := #[] }] 1056 4 #[444, 48] #[{ accessFlags := 0, nameIndex := 17, descriptorIndex := 14, attributes := #[] }, { accessFlags := 0, nameIndex := 24, descriptorIndex := 25, attributes := #[] }, { accessFlags := 0, nameIndex := 75, descriptorIndex := 21, attributes := #[] }, { accessFlags := 0, nameIndex := 81, descriptorIndex := 82, attributes := #[] }, { accessFlags := 26, nameIndex := 13, descriptorIndex := 14, attributes := #[] }])
  fields := #[{ name := "value", type := (.array .byte), accessFlags := 0, slot := 0, constantValue := 0 }, { name := "coder", type := .byte, accessFlags := 0, slot := 1, constantValue := 0 }, { name := "maybeLatin1", type := .boolean, accessFlags := 0, slot := 2, constantValue := 0 }, { name := "count", type := .int, accessFlags := 0, slot := 3, constantValue := 0 }, { name := "EMPTYVALUE", type := (.array .byte), accessFlags := 26, slot := 0, constantValue := 0 }]
  methods := #[k10m0, k10m1, k10m2, k10m3, k10m4, k10m5, k10m6, k10m7, k10m8, k10m9]
  instanceTypes := #[(.array .byte), .byte, .boolean, .int]
  staticTypes := #[(.array .byte)]
  resolved := Array.replicate 609 none
  statics := none }

def pool11 : Array CpInfo := pool [(1, .methodref 2 3), (0, .class_ 4), (0, .nameAndType 5 6), (0, u "java/lang/AbstractStringBuilder"), (0, u "<init>"), (0, u "(I)V"), (11, .class_ 20), (1, u "java/lang/String"), (3, .class_ 26), (1, u "java/lang/StringBuilder"), (0, u "append"), (0, u "(Ljava/lang/String;)Ljava/lang/StringBuilder;"), (0, .methodref 2 30), (0, .nameAndType 27 31), (0, u "(Ljava/lang/String;)Ljava/lang/AbstractStringBuilder;"), (105, .methodref 18 138), (0, .nameAndType 5 139), (0, u "(Ljava/lang/StringBuilder;)V"), (5, u "()V"), (10, u "()I"), (186, .methodref 2 344), (0, .nameAndType 345 156), (0, u "length"), (3, .class_ 350), (0, u "java/lang/Appendable"), (0, .class_ 352), (0, u "java/io/Serializable"), (0, .class_ 354), (0, u "java/lang/Comparable"), (0, .class_ 356), (0, u "java/lang/CharSequence"), (0, u "serialVersionUID"), (0, u "J"), (40, u "toString"), (0, u "()Ljava/lang/String;")] 21

def k11c0 : Code := { maxStack := 2, maxLocals := 1, code := jdk_67_method_1_code, exceptionTable := #[], attributes := #[] }
def k11m0 : Method := { name := "<init>", desc := "()V", sig := { parameters := [], returnType := none }, accessFlags := 1, code := some k11c0 }
def k11c1 : Code := { maxStack := 2, maxLocals := 2, code := jdk_67_method_7_code, exceptionTable := #[], attributes := #[] }
def k11m1 : Method := { name := "append", desc := "(Ljava/lang/String;)Ljava/lang/StringBuilder;", sig := { parameters := [(.object "java/lang/String")], returnType := some (.object "java/lang/StringBuilder") }, accessFlags := 1, code := some k11c1 }
def k11c2 : Code := { maxStack := 3, maxLocals := 1, code := jdk_67_method_42_code, exceptionTable := #[], attributes := #[] }
def k11m2 : Method := { name := "toString", desc := "()Ljava/lang/String;", sig := { parameters := [], returnType := some (.object "java/lang/String") }, accessFlags := 1, code := some k11c2 }
def k11c3 : Code := { maxStack := 1, maxLocals := 1, code := jdk_67_method_93_code, exceptionTable := #[], attributes := #[] }
def k11m3 : Method := { name := "length", desc := "()I", sig := { parameters := [], returnType := some .int }, accessFlags := 4161, code := some k11c3 }
/-- java/lang/StringBuilder -/
def k11 : Class := { plain "java/lang/StringBuilder" (some 10) with
  accessFlags := 49
  interfaces := #[9, 2, 3, 4]
  cf := some (fileOf pool11 24 #[] #[{ accessFlags := 1, nameIndex := 5, descriptorIndex := 145, attributes := #[] }, { accessFlags := 1, nameIndex := 27, descriptorIndex := 28, attributes := #[] }, { accessFlags := 1, nameIndex := 399, descriptorIndex := 400, attributes := #[] }, { accessFlags := 4161, nameIndex := 345, descriptorIndex := 156, attributes := #[] }] 49 2 #[349, 351, 353, 355] #[{ accessFlags := 24, nameIndex := 357, descriptorIndex := 358, attributes := #[] }])
  fields := #[{ name := "serialVersionUID", type := .long, accessFlags := 24, slot := 0, constantValue := 0 }]
  methods := #[k11m0, k11m1, k11m2, k11m3]
  instanceTypes := #[(.array .byte), .byte, .boolean, .int]
  staticTypes := #[.long]
  resolved := Array.replicate 422 none
  statics := none }

def pool12 : Array CpInfo := pool [(2, .class_ 4), (1, u "java/lang/Object"), (0, u "<init>"), (0, u "()V"), (1, .class_ 10), (1, u "java/lang/System"), (0, u "allowSecurityManager"), (0, u "I"), (16, u "cons"), (0, u "Ljava/io/Console;"), (77, .class_ 110), (1, u "java/lang/System$CallersHolder"), (43, u "initialErrStream"), (0, u "Ljava/io/PrintStream;"), (19, u "security"), (0, u "Ljava/lang/SecurityManager;"), (31, .class_ 209), (0, u "java/lang/System$1"), (7, u "props"), (0, u "Ljava/util/Properties;"), (2, u "lineSeparator"), (0, u "Ljava/lang/String;"), (96, .class_ 321), (1, u "java/lang/System$LoggerFinder"), (5, .class_ 328), (0, u "java/lang/System$Logger"), (67, u "err"), (2, u "out"), (91, u "notSupportedJnuEncoding"), (15, u "in"), (17, u "initialIn"), (0, u "Ljava/io/InputStream;"), (35, u "bootLayer"), (0, u "Ljava/lang/ModuleLayer;"), (99, .class_ 664), (0, u "java/lang/System$2"), (9, u "NEVER"), (2, u "MAYBE"), (49, u "arraycopy"), (0, u "(Ljava/lang/Object;ILjava/lang/Object;II)V"), (72, .class_ 802), (0, u "java/lang/System$Logger$Level")] 31

def k12m0 : Method := { name := "<init>", desc := "()V", sig := { parameters := [], returnType := none }, accessFlags := 2, code := none }
def k12m1 : Method := { name := "arraycopy", desc := "(Ljava/lang/Object;ILjava/lang/Object;II)V", sig := { parameters := [(.object "java/lang/Object"), .int, (.object "java/lang/Object"), .int, .int], returnType := none }, accessFlags := 265, code := none }
/-- java/lang/System -/
def k12 : Class := { plain "java/lang/System" (some 0) with
  accessFlags := 49
  interfaces := #[]
  cf := some (fileOf pool12 8 #[.nestMembers #[319, 327, 801, 108, 663, 208]] #[{ accessFlags := 2, nameIndex := 5, descriptorIndex := 6, attributes := #[] }, { accessFlags := 265, nameIndex := 727, descriptorIndex := 728, attributes := #[] }] 49 2 #[] #[{ accessFlags := 25, nameIndex := 507, descriptorIndex := 526, attributes := #[] }, { accessFlags := 25, nameIndex := 399, descriptorIndex := 155, attributes := #[] }, { accessFlags := 25, nameIndex := 396, descriptorIndex := 155, attributes := #[] }, { accessFlags := 10, nameIndex := 525, descriptorIndex := 526, attributes := #[] }, { accessFlags := 26, nameIndex := 674, descriptorIndex := 12, attributes := #[] }, { accessFlags := 26, nameIndex := 677, descriptorIndex := 12, attributes := #[] }, { accessFlags := 10, nameIndex := 11, descriptorIndex := 12, attributes := #[] }, { accessFlags := 74, nameIndex := 175, descriptorIndex := 176, attributes := #[] }, { accessFlags := 10, nameIndex := 491, descriptorIndex := 222, attributes := #[] }, { accessFlags := 74, nameIndex := 29, descriptorIndex := 30, attributes := #[] }, { accessFlags := 74, nameIndex := 154, descriptorIndex := 155, attributes := #[] }, { accessFlags := 10, nameIndex := 217, descriptorIndex := 218, attributes := #[] }, { accessFlags := 10, nameIndex := 221, descriptorIndex := 222, attributes := #[] }, { accessFlags := 8, nameIndex := 562, descriptorIndex := 563, attributes := #[] }])
  fields := #[{ name := "in", type := (.object "java/io/InputStream"), accessFlags := 25, slot := 0, constantValue := 0 }, { name := "out", type := (.object "java/io/PrintStream"), accessFlags := 25, slot := 1, constantValue := 0 }, { name := "err", type := (.object "java/io/PrintStream"), accessFlags := 25, slot := 2, constantValue := 0 }, { name := "initialIn", type := (.object "java/io/InputStream"), accessFlags := 10, slot := 3, constantValue := 0 }, { name := "NEVER", type := .int, accessFlags := 26, slot := 4, constantValue := 0 }, { name := "MAYBE", type := .int, accessFlags := 26, slot := 5, constantValue := 0 }, { name := "allowSecurityManager", type := .int, accessFlags := 10, slot := 6, constantValue := 0 }, { name := "security", type := (.object "java/lang/SecurityManager"), accessFlags := 74, slot := 7, constantValue := 0 }, { name := "notSupportedJnuEncoding", type := (.object "java/lang/String"), accessFlags := 10, slot := 8, constantValue := 0 }, { name := "cons", type := (.object "java/io/Console"), accessFlags := 74, slot := 9, constantValue := 0 }, { name := "initialErrStream", type := (.object "java/io/PrintStream"), accessFlags := 74, slot := 10, constantValue := 0 }, { name := "props", type := (.object "java/util/Properties"), accessFlags := 10, slot := 11, constantValue := 0 }, { name := "lineSeparator", type := (.object "java/lang/String"), accessFlags := 10, slot := 12, constantValue := 0 }, { name := "bootLayer", type := (.object "java/lang/ModuleLayer"), accessFlags := 8, slot := 13, constantValue := 0 }]
  methods := #[k12m0, k12m1]
  instanceTypes := #[]
  staticTypes := #[(.object "java/io/InputStream"), (.object "java/io/PrintStream"), (.object "java/io/PrintStream"), (.object "java/io/InputStream"), .int, .int, .int, (.object "java/lang/SecurityManager"), (.object "java/lang/String"), (.object "java/io/Console"), (.object "java/io/PrintStream"), (.object "java/util/Properties"), (.object "java/lang/String"), (.object "java/lang/ModuleLayer")]
  resolved := Array.replicate 834 none
  statics := none }

def pool13 : Array CpInfo := pool [(9, u "<init>"), (6, .class_ 18), (1, u "java/lang/Object"), (0, u "()V"), (1, .class_ 23), (1, u "jdk/internal/util/ArraysSupport"), (0, u "LOG2_ARRAY_LONG_INDEX_SCALE"), (0, u "I"), (2, u "U"), (0, u "Ljdk/internal/misc/Unsafe;"), (8, u "BIG_ENDIAN"), (0, u "Z"), (8, u "LOG2_BYTE_BIT_SIZE"), (4, u "LOG2_ARRAY_INT_INDEX_SCALE"), (54, u "JLA"), (0, u "Ljdk/internal/access/JavaLangAccess;"), (11, u "LOG2_ARRAY_BOOLEAN_INDEX_SCALE"), (9, u "LOG2_ARRAY_BYTE_INDEX_SCALE"), (5, u "LOG2_ARRAY_CHAR_INDEX_SCALE"), (5, u "LOG2_ARRAY_SHORT_INDEX_SCALE"), (18, u "LOG2_ARRAY_FLOAT_INDEX_SCALE"), (24, u "LOG2_ARRAY_DOUBLE_INDEX_SCALE"), (6, .methodref 195 196), (0, .class_ 197), (0, .nameAndType 198 199), (0, u "java/lang/Math"), (0, u "max"), (0, u "(II)I"), (0, .integer 2147483639), (76, u "T_BOOLEAN"), (2, u "T_CHAR"), (1, u "T_FLOAT"), (1, u "T_DOUBLE"), (1, u "T_BYTE"), (1, u "T_SHORT"), (1, u "T_INT"), (1, u "T_LONG"), (1, u "SOFT_MAX_ARRAY_LENGTH"), (56, u "newLength"), (0, u "(III)I")] 25

def k13m0 : Method := { name := "<init>", desc := "()V", sig := { parameters := [], returnType := none }, accessFlags := 2, code := none }
def k13c1 : Code := { maxStack := 3, maxLocals := 4, code := jdk_48_method_27_code, exceptionTable := #[], attributes := #[] }
def k13m1 : Method := { name := "newLength", desc := "(III)I", sig := { parameters := [.int, .int, .int], returnType := some .int }, accessFlags := 9, code := some k13c1 }
/-- jdk/internal/util/ArraysSupport -/
def k13 : Class := { plain "jdk/internal/util/ArraysSupport" (some 0) with
  accessFlags := 33
  interfaces := #[]
  cf := some (fileOf pool13 21 #[] #[{ accessFlags := 2, nameIndex := 9, descriptorIndex := 19, attributes := #[] }, { accessFlags := 9, nameIndex := 351, descriptorIndex := 352, attributes := #[] }] 33 16 #[] #[{ accessFlags := 24, nameIndex := 28, descriptorIndex := 29, attributes := #[] }, { accessFlags := 26, nameIndex := 38, descriptorIndex := 39, attributes := #[] }, { accessFlags := 25, nameIndex := 121, descriptorIndex := 25, attributes := #[] }, { accessFlags := 25, nameIndex := 131, descriptorIndex := 25, attributes := #[] }, { accessFlags := 25, nameIndex := 137, descriptorIndex := 25, attributes := #[] }, { accessFlags := 25, nameIndex := 143, descriptorIndex := 25, attributes := #[] }, { accessFlags := 25, nameIndex := 53, descriptorIndex := 25, attributes := #[] }, { accessFlags := 25, nameIndex := 24, descriptorIndex := 25, attributes := #[] }, { accessFlags := 25, nameIndex := 162, descriptorIndex := 25, attributes := #[] }, { accessFlags := 25, nameIndex := 187, descriptorIndex := 25, attributes := #[] }, { accessFlags := 26, nameIndex := 48, descriptorIndex := 25, attributes := #[] }, { accessFlags := 25, nameIndex := 277, descriptorIndex := 25, attributes := #[] }, { accessFlags := 25, nameIndex := 280, descriptorIndex := 25, attributes := #[] }, { accessFlags := 25, nameIndex := 282, descriptorIndex := 25, attributes := #[] }, { accessFlags := 25, nameIndex := 284, descriptorIndex := 25, attributes := #[] }, { accessFlags := 25, nameIndex := 286, descriptorIndex := 25, attributes := #[] }, { accessFlags := 25, nameIndex := 288, descriptorIndex := 25, attributes := #[] }, { accessFlags := 25, nameIndex := 290, descriptorIndex := 25, attributes := #[] }, { accessFlags := 25, nameIndex := 292, descriptorIndex := 25, attributes := #[] }, { accessFlags := 26, nameIndex := 108, descriptorIndex := 109, attributes := #[] }, { accessFlags := 25, nameIndex := 294, descriptorIndex := 25, attributes := #[] }])
  fields := #[{ name := "U", type := (.object "jdk/internal/misc/Unsafe"), accessFlags := 24, slot := 0, constantValue := 0 }, { name := "BIG_ENDIAN", type := .boolean, accessFlags := 26, slot := 1, constantValue := 0 }, { name := "LOG2_ARRAY_BOOLEAN_INDEX_SCALE", type := .int, accessFlags := 25, slot := 2, constantValue := 0 }, { name := "LOG2_ARRAY_BYTE_INDEX_SCALE", type := .int, accessFlags := 25, slot := 3, constantValue := 0 }, { name := "LOG2_ARRAY_CHAR_INDEX_SCALE", type := .int, accessFlags := 25, slot := 4, constantValue := 0 }, { name := "LOG2_ARRAY_SHORT_INDEX_SCALE", type := .int, accessFlags := 25, slot := 5, constantValue := 0 }, { name := "LOG2_ARRAY_INT_INDEX_SCALE", type := .int, accessFlags := 25, slot := 6, constantValue := 0 }, { name := "LOG2_ARRAY_LONG_INDEX_SCALE", type := .int, accessFlags := 25, slot := 7, constantValue := 0 }, { name := "LOG2_ARRAY_FLOAT_INDEX_SCALE", type := .int, accessFlags := 25, slot := 8, constantValue := 0 }, { name := "LOG2_ARRAY_DOUBLE_INDEX_SCALE", type := .int, accessFlags := 25, slot := 9, constantValue := 0 }, { name := "LOG2_BYTE_BIT_SIZE", type := .int, accessFlags := 26, slot := 10, constantValue := 0 }, { name := "T_BOOLEAN", type := .int, accessFlags := 25, slot := 11, constantValue := 0 }, { name := "T_CHAR", type := .int, accessFlags := 25, slot := 12, constantValue := 0 }, { name := "T_FLOAT", type := .int, accessFlags := 25, slot := 13, constantValue := 0 }, { name := "T_DOUBLE", type := .int, accessFlags := 25, slot := 14, constantValue := 0 }, { name := "T_BYTE", type := .int, accessFlags := 25, slot := 15, constantValue := 0 }, { name := "T_SHORT", type := .int, accessFlags := 25, slot := 16, constantValue := 0 }, { name := "T_INT", type := .int, accessFlags := 25, slot := 17, constantValue := 0 }, { name := "T_LONG", type := .int, accessFlags := 25, slot := 18, constantValue := 0 }, { name := "JLA", type := (.object "jdk/internal/access/JavaLangAccess"), accessFlags := 26, slot := 19, constantValue := 0 }, { name := "SOFT_MAX_ARRAY_LENGTH", type := .int, accessFlags := 25, slot := 20, constantValue := 0 }]
  methods := #[k13m0, k13m1]
  instanceTypes := #[]
  staticTypes := #[(.object "jdk/internal/misc/Unsafe"), .boolean, .int, .int, .int, .int, .int, .int, .int, .int, .int, .int, .int, .int, .int, .int, .int, .int, .int, (.object "jdk/internal/access/JavaLangAccess"), .int]
  resolved := Array.replicate 378 none
  statics := none }

def pool14 : Array CpInfo := pool [(1, .class_ 2), (0, u "java/lang/Math"), (1, .class_ 6), (1, u "java/lang/Object"), (0, u "<init>"), (0, u "()V"), (89, .class_ 100), (1, u "java/lang/Math$RandomNumberGeneratorHolder"), (71, u "negativeZeroFloatBits"), (0, u "J"), (2, u "negativeZeroDoubleBits"), (21, u "max"), (2, u "min"), (43, u "$assertionsDisabled"), (0, u "Z"), (88, u "(II)I"), (2, u "twoToTheDoubleScaleDown"), (0, u "D"), (4, u "twoToTheDoubleScaleUp"), (9, u "E"), (3, u "PI"), (2, u "TAU"), (2, u "DEGREES_TO_RADIANS"), (0, u "RADIANS_TO_DEGREES")] 94

def k14m0 : Method := { name := "<init>", desc := "()V", sig := { parameters := [], returnType := none }, accessFlags := 2, code := none }
def k14c1 : Code := { maxStack := 2, maxLocals := 2, code := jdk_29_method_65_code, exceptionTable := #[], attributes := #[] }
def k14m1 : Method := { name := "max", desc := "(II)I", sig := { parameters := [.int, .int], returnType := some .int }, accessFlags := 9, code := some k14c1 }
def k14c2 : Code := { maxStack := 2, maxLocals := 2, code := jdk_29_method_69_code, exceptionTable := #[], attributes := #[] }
def k14m2 : Method := { name := "min", desc := "(II)I", sig := { parameters := [.int, .int], returnType := some .int }, accessFlags := 9, code := some k14c2 }
/-- java/lang/Math -/
def k14 : Class := { plain "java/lang/Math" (some 0) with
  accessFlags := 49
  interfaces := #[]
  cf := some (fileOf pool14 1 #[.nestMembers #[98]] #[{ accessFlags := 2, nameIndex := 7, descriptorIndex := 8, attributes := #[] }, { accessFlags := 9, nameIndex := 198, descriptorIndex := 335, attributes := #[] }, { accessFlags := 9, nameIndex := 201, descriptorIndex := 335, attributes := #[] }] 49 4 #[] #[{ accessFlags := 25, nameIndex := 354, descriptorIndex := 339, attributes := #[] }, { accessFlags := 25, nameIndex := 358, descriptorIndex := 339, attributes := #[] }, { accessFlags := 25, nameIndex := 361, descriptorIndex := 339, attributes := #[] }, { accessFlags := 26, nameIndex := 364, descriptorIndex := 339, attributes := #[] }, { accessFlags := 26, nameIndex := 365, descriptorIndex := 339, attributes := #[] }, { accessFlags := 26, nameIndex := 172, descriptorIndex := 173, attributes := #[] }, { accessFlags := 26, nameIndex := 176, descriptorIndex := 173, attributes := #[] }, { accessFlags := 8, nameIndex := 344, descriptorIndex := 339, attributes := #[] }, { accessFlags := 8, nameIndex := 338, descriptorIndex := 339, attributes := #[] }, { accessFlags := 4120, nameIndex := 245, descriptorIndex := 246, attributes := #[] }])
  fields := #[{ name := "E", type := .double, accessFlags := 25, slot := 0, constantValue := 0 }, { name := "PI", type := .double, accessFlags := 25, slot := 1, constantValue := 0 }, { name := "TAU", type := .double, accessFlags := 25, slot := 2, constantValue := 0 }, { name := "DEGREES_TO_RADIANS", type := .double, accessFlags := 26, slot := 3, constantValue := 0 }, { name := "RADIANS_TO_DEGREES", type := .double, accessFlags := 26, slot := 4, constantValue := 0 }, { name := "negativeZeroFloatBits", type := .long, accessFlags := 26, slot := 5, constantValue := 0 }, { name := "negativeZeroDoubleBits", type := .long, accessFlags := 26, slot := 6, constantValue := 0 }, { name := "twoToTheDoubleScaleUp", type := .double, accessFlags := 8, slot := 7, constantValue := 0 }, { name := "twoToTheDoubleScaleDown", type := .double, accessFlags := 8, slot := 8, constantValue := 0 }, { name := "$assertionsDisabled", type := .boolean, accessFlags := 4120, slot := 9, constantValue := 0 }]
  methods := #[k14m0, k14m1, k14m2]
  instanceTypes := #[]
  staticTypes := #[.double, .double, .double, .double, .double, .long, .long, .double, .double, .boolean]
  resolved := Array.replicate 460 none
  statics := none }

def pool15 : Array CpInfo := pool [(2, .class_ 4), (1, u "java/lang/Object"), (0, u "<init>"), (0, u "()V"), (7, .class_ 16), (1, u "java/util/Arrays"), (57, .class_ 76), (1, u "java/util/Arrays$NaturalOrder"), (32, u "()Ljava/lang/Object;"), (3, .class_ 115), (1, u "java/util/Arrays$LegacyMergeSort"), (1, u "Z"), (10, .nameAndType 129 109), (0, u "clone"), (9, u "copyOfRange"), (10, .methodref 151 152), (0, .class_ 153), (0, .nameAndType 154 155), (0, u "java/lang/System"), (0, u "arraycopy"), (0, u "(Ljava/lang/Object;ILjava/lang/Object;II)V"), (146, u "copyOf"), (1, .methodref 305 306), (0, .class_ 307), (0, .nameAndType 308 309), (0, u "java/lang/Math"), (0, u "min"), (0, u "(II)I"), (0, .methodref 311 128), (0, .class_ 312), (0, u "[B"), (26, .methodref 14 340), (0, .nameAndType 341 342), (0, u "copyOfRangeByte"), (0, u "([BII)[B"), (0, .methodref 14 344), (0, .nameAndType 345 346), (0, u "checkLength"), (0, u "(II)V"), (28, .class_ 376), (0, u "java/util/Arrays$ArrayList"), (68, u "$assertionsDisabled"), (269, u "MIN_ARRAY_SORT_GRAN"), (0, u "I"), (2, u "INSERTIONSORT_THRESHOLD"), (149, u "([BI)[B"), (105, .class_ 976), (0, u "java/util/Arrays$ArrayItr")] 52

def k15m0 : Method := { name := "<init>", desc := "()V", sig := { parameters := [], returnType := none }, accessFlags := 2, code := none }
def k15c1 : Code := { maxStack := 6, maxLocals := 3, code := jdk_65_method_121_code, exceptionTable := #[], attributes := #[] }
def k15m1 : Method := { name := "copyOf", desc := "([BI)[B", sig := { parameters := [(.array .byte), .int], returnType := some (.array .byte) }, accessFlags := 9, code := some k15c1 }
def k15c2 : Code := { maxStack := 4, maxLocals := 2, code := jdk_65_method_131_code, exceptionTable := #[], attributes := #[] }
def k15m2 : Method := { name := "checkLength", desc := "(II)V", sig := { parameters := [.int, .int], returnType := none }, accessFlags := 10, code := some k15c2 }
def k15c3 : Code := { maxStack := 3, maxLocals := 3, code := jdk_65_method_132_code, exceptionTable := #[], attributes := #[] }
def k15m3 : Method := { name := "copyOfRange", desc := "([BII)[B", sig := { parameters := [(.array .byte), .int, .int], returnType := some (.array .byte) }, accessFlags := 9, code := some k15c3 }
def k15c4 : Code := { maxStack := 6, maxLocals := 5, code := jdk_65_method_133_code, exceptionTable := #[], attributes := #[] }
def k15m4 : Method := { name := "copyOfRangeByte", desc := "([BII)[B", sig := { parameters := [(.array .byte), .int, .int], returnType := some (.array .byte) }, accessFlags := 10, code := some k15c4 }
/-- java/util/Arrays -/
def k15 : Class := { plain "java/util/Arrays" (some 0) with
  accessFlags := 49
  interfaces := #[]
  cf := some (fileOf pool15 14 #[.nestMembers #[975, 375, 113, 74]] #[{ accessFlags := 2, nameIndex := 5, descriptorIndex := 6, attributes := #[] }, { accessFlags := 9, nameIndex := 302, descriptorIndex := 869, attributes := #[] }, { accessFlags := 10, nameIndex := 345, descriptorIndex := 346, attributes := #[] }, { accessFlags := 9, nameIndex := 139, descriptorIndex := 342, attributes := #[] }, { accessFlags := 10, nameIndex := 341, descriptorIndex := 342, attributes := #[] }] 49 2 #[] #[{ accessFlags := 26, nameIndex := 715, descriptorIndex := 716, attributes := #[] }, { accessFlags := 26, nameIndex := 719, descriptorIndex := 716, attributes := #[] }, { accessFlags := 4120, nameIndex := 445, descriptorIndex := 117, attributes := #[] }])
  fields := #[{ name := "MIN_ARRAY_SORT_GRAN", type := .int, accessFlags := 26, slot := 0, constantValue := 0 }, { name := "INSERTIONSORT_THRESHOLD", type := .int, accessFlags := 26, slot := 1, constantValue := 0 }, { name := "$assertionsDisabled", type := .boolean, accessFlags := 4120, slot := 2, constantValue := 0 }]
  methods := #[k15m0, k15m1, k15m2, k15m3, k15m4]
  instanceTypes := #[]
  staticTypes := #[.int, .int, .boolean]
  resolved := Array.replicate 1029 none
  statics := none }

def pool16 : Array CpInfo := pool [(1, .class_ 2), (0, u "java/lang/String"), (1, .class_ 6), (1, u "java/lang/Object"), (0, u "<init>"), (0, u "()V"), (0, .methodref 1 10), (0, .nameAndType 11 12), (0, u "checkIndex"), (0, u "(II)V"), (1, .class_ 16), (1, u "java/lang/StringLatin1"), (36, u "([BI)C"), (36, u "canEncode"), (14, u "(C)Z"), (15, u "$assertionsDisabled"), (0, u "Z"), (98, .class_ 223), (1, u "java/lang/StringLatin1$LinesSpliterator"), (28, u "charAt"), (127, u "toBytes"), (1, u "(C)[B"), (7, .class_ 391), (0, u "java/lang/StringLatin1$CharsSpliterator")] 3

def k16m0 : Method := { name := "<init>", desc := "()V", sig := { parameters := [], returnType := none }, accessFlags := 0, code := none }
def k16c1 : Code := { maxStack := 2, maxLocals := 2, code := jdk_43_method_2_code, exceptionTable := #[], attributes := #[] }
def k16m1 : Method := { name := "charAt", desc := "([BI)C", sig := { parameters := [(.array .byte), .int], returnType := some .char }, accessFlags := 9, code := some k16c1 }
def k16c2 : Code := { maxStack := 2, maxLocals := 1, code := jdk_43_method_3_code, exceptionTable := #[], attributes := #[] }
def k16m2 : Method := { name := "canEncode", desc := "(C)Z", sig := { parameters := [.char], returnType := some .boolean }, accessFlags := 9, code := some k16c2 }
def k16c3 : Code := { maxStack := 4, maxLocals := 1, code := jdk_43_method_46_code, exceptionTable := #[], attributes := #[] }
def k16m3 : Method := { name := "toBytes", desc := "(C)[B", sig := { parameters := [.char], returnType := some (.array .byte) }, accessFlags := 9, code := some k16c3 }
/-- java/lang/StringLatin1 -/
def k16 : Class := { plain "java/lang/StringLatin1" (some 0) with
  accessFlags := 48
  interfaces := #[]
  cf := some (fileOf pool16 14 #[.nestMembers #[390, 221]] #[{ accessFlags := 0, nameIndex := 7, descriptorIndex := 8, attributes := #[] }, { accessFlags := 9, nameIndex := 252, descriptorIndex := 53, attributes := #[] }, { accessFlags := 9, nameIndex := 90, descriptorIndex := 105, attributes := #[] }, { accessFlags := 9, nameIndex := 380, descriptorIndex := 382, attributes := #[] }] 48 4 #[] #[{ accessFlags := 4120, nameIndex := 121, descriptorIndex := 122, attributes := #[] }])
  fields := #[{ name := "$assertionsDisabled", type := .boolean, accessFlags := 4120, slot := 0, constantValue := 0 }]
  methods := #[k16m0, k16m1, k16m2, k16m3]
  instanceTypes := #[]
  staticTypes := #[.boolean]
  resolved := Array.replicate 395 none
  statics := none }

def pool17 : Array CpInfo := pool [(2, .class_ 4), (1, u "java/lang/Object"), (0, u "<init>"), (0, u "()V"), (17, .class_ 26), (1, u "jdk/internal/util/Preconditions"), (6, u "checkIndex"), (21, .class_ 56), (0, u "jdk/internal/util/Preconditions$4"), (57, .class_ 115), (0, u "jdk/internal/util/Preconditions$1"), (7, u "SIOOBE_FORMATTER"), (0, u "Ljava/util/function/BiFunction;"), (0, .class_ 126), (0, u "jdk/internal/util/Preconditions$2"), (3, u "AIOOBE_FORMATTER"), (0, .class_ 132), (0, u "jdk/internal/util/Preconditions$3"), (3, u "IOOBE_FORMATTER"), (41, u "(IILjava/util/function/BiFunction;)I")] 15

def k17m0 : Method := { name := "<init>", desc := "()V", sig := { parameters := [], returnType := none }, accessFlags := 1, code := none }
def k17c1 : Code := { maxStack := 3, maxLocals := 3, code := jdk_41_method_11_code, exceptionTable := #[], attributes := #[] }
def k17m1 : Method := { name := "checkIndex", desc := "(IILjava/util/function/BiFunction;)I", sig := { parameters := [.int, .int, (.object "java/util/function/BiFunction")], returnType := some .int }, accessFlags := 9, code := some k17c1 }
/-- jdk/internal/util/Preconditions -/
def k17 : Class := { plain "jdk/internal/util/Preconditions" (some 0) with
  accessFlags := 33
  interfaces := #[]
  cf := some (fileOf pool17 24 #[.nestMembers #[55, 131, 125, 114]] #[{ accessFlags := 1, nameIndex := 5, descriptorIndex := 6, attributes := #[] }, { accessFlags := 9, nameIndex := 33, descriptorIndex := 178, attributes := #[] }] 33 2 #[] #[{ accessFlags := 25, nameIndex := 123, descriptorIndex := 124, attributes := #[] }, { accessFlags := 25, nameIndex := 130, descriptorIndex := 124, attributes := #[] }, { accessFlags := 25, nameIndex := 136, descriptorIndex := 124, attributes := #[] }])
  fields := #[{ name := "SIOOBE_FORMATTER", type := (.object "java/util/function/BiFunction"), accessFlags := 25, slot := 0, constantValue := 0 }, { name := "AIOOBE_FORMATTER", type := (.object "java/util/function/BiFunction"), accessFlags := 25, slot := 1, constantValue := 0 }, { name := "IOOBE_FORMATTER", type := (.object "java/util/function/BiFunction"), accessFlags := 25, slot := 2, constantValue := 0 }]
  methods := #[k17m0, k17m1]
  instanceTypes := #[]
  staticTypes := #[(.object "java/util/function/BiFunction"), (.object "java/util/function/BiFunction"), (.object "java/util/function/BiFunction")]
  resolved := Array.replicate 194 none
  statics := some 1 }

def pool18 : Array CpInfo := pool [(6, .class_ 8), (1, u "java/lang/Object"), (0, u "<init>"), (0, u "()V"), (1, .class_ 14), (1, u "java/lang/StringUTF16"), (31, u "$assertionsDisabled"), (0, u "Z"), (13, u "HI_BYTE_SHIFT"), (0, u "I"), (2, u "LO_BYTE_SHIFT"), (49, .methodref 12 116), (0, .nameAndType 117 118), (0, u "compress"), (0, u "([CI[BII)I"), (3, u "([CII)[B"), (138, u "coderFromArrayLen"), (0, u "([BI)B"), (106, .class_ 371), (1, u "java/lang/StringUTF16$LinesSpliterator"), (58, u "MAX_LENGTH"), (196, .class_ 628), (0, u "java/lang/StringUTF16$CodePointsSpliterator"), (0, .class_ 630), (0, u "java/lang/StringUTF16$CharsSpliterator")] 4

def k18m0 : Method := { name := "<init>", desc := "()V", sig := { parameters := [], returnType := none }, accessFlags := 0, code := none }
def k18c1 : Code := { maxStack := 2, maxLocals := 2, code := jdk_52_method_15_code, exceptionTable := #[], attributes := #[] }
def k18m1 : Method := { name := "coderFromArrayLen", desc := "([BI)B", sig := { parameters := [(.array .byte), .int], returnType := some .byte }, accessFlags := 8, code := some k18c1 }
def k18c2 : Code := { maxStack := 5, maxLocals := 6, code := jdk_52_method_16_code, exceptionTable := #[], attributes := #[] }
def k18m2 : Method := { name := "compress", desc := "([CII)[B", sig := { parameters := [(.array .char), .int, .int], returnType := some (.array .byte) }, accessFlags := 9, code := some k18c2 }
def k18c3 : Code := { maxStack := 3, maxLocals := 7, code := jdk_52_method_21_code, exceptionTable := #[], attributes := #[] }
def k18m3 : Method := { name := "compress", desc := "([CI[BII)I", sig := { parameters := [(.array .char), .int, (.array .byte), .int, .int], returnType := some .int }, accessFlags := 9, code := some k18c3 }
/-- java/lang/StringUTF16 -/
def k18 : Class := { plain "java/lang/StringUTF16" (some 0) with
  accessFlags := 48
  interfaces := #[]
  cf := some (fileOf pool18 12 #[.nestMembers #[627, 629, 369]] #[{ accessFlags := 0, nameIndex := 9, descriptorIndex := 10, attributes := #[] }, { accessFlags := 8, nameIndex := 261, descriptorIndex := 262, attributes := #[] }, { accessFlags := 9, nameIndex := 117, descriptorIndex := 122, attributes := #[] }, { accessFlags := 9, nameIndex := 117, descriptorIndex := 118, attributes := #[] }] 48 6 #[] #[{ accessFlags := 26, nameIndex := 61, descriptorIndex := 62, attributes := #[] }, { accessFlags := 26, nameIndex := 65, descriptorIndex := 62, attributes := #[] }, { accessFlags := 24, nameIndex := 430, descriptorIndex := 62, attributes := #[] }, { accessFlags := 4120, nameIndex := 46, descriptorIndex := 47, attributes := #[] }])
  fields := #[{ name := "HI_BYTE_SHIFT", type := .int, accessFlags := 26, slot := 0, constantValue := 0 }, { name := "LO_BYTE_SHIFT", type := .int, accessFlags := 26, slot := 1, constantValue := 0 }, { name := "MAX_LENGTH", type := .int, accessFlags := 24, slot := 2, constantValue := 0 }, { name := "$assertionsDisabled", type := .boolean, accessFlags := 4120, slot := 3, constantValue := 0 }]
  methods := #[k18m0, k18m1, k18m2, k18m3]
  instanceTypes := #[]
  staticTypes := #[.int, .int, .int, .boolean]
  resolved := Array.replicate 635 none
  statics := none }

def pool19 : Array CpInfo := pool [(1, .class_ 2), (0, u "java/lang/Cloneable"), (0, .class_ 4), (0, u "java/lang/Object")] 2

/-- java/lang/Cloneable -/
def k19 : Class := { plain "java/lang/Cloneable" (some 0) with
  accessFlags := 1537
  interfaces := #[]
  cf := some (fileOf pool19 1 #[] #[] 1537 3 #[] #[])
  fields := #[]
  methods := #[]
  instanceTypes := #[]
  staticTypes := #[]
  resolved := Array.replicate 7 none
  statics := none }

/-- the primitive byte -/
def k20 : Class := { plain "byte" none with kind := .primitive 'B', accessFlags := 0x411 }
/-- [B -/
def k21 : Class := { plain "[B" (some 0) with kind := .array 20 .byte, interfaces := #[19, 2], accessFlags := 1041 }

/-- the primitive char -/
def k22 : Class := { plain "char" none with kind := .primitive 'C', accessFlags := 0x411 }
/-- [C -/
def k23 : Class := { plain "[C" (some 0) with kind := .array 22 .char, interfaces := #[19, 2], accessFlags := 1041 }

/-- the primitive int -/
def k24 : Class := { plain "int" none with kind := .primitive 'I', accessFlags := 0x411 }
/-- [I -/
def k25 : Class := { plain "[I" (some 0) with kind := .array 24 .int, interfaces := #[19, 2], accessFlags := 1041 }

def heap : Heap := #[{ cls := 7, slots := #[.long 0, .int 1, .null, .int 0, .null, .int 0, .int 0], vm := .statics 7 },
  { cls := 17, slots := #[.null, .null, .null], vm := .statics 17 }]
def classes : Array Class := #[k0, k1, k2, k3, k4, k5, k6, k7, k8, k9, k10, k11, k12, k13, k14, k15, k16, k17, k18, k19, k20, k21, k22, k23, k24, k25]
def interned : List (Array UInt16 × Addr) := []
def slotsUsed : Nat := 10
def theMethod : MethodId := ⟨1, 3⟩
def args0 : Array Value := #[.int 6, .int 300, .int 9]
def aboutOver (below : List Frame) : State where
  vm := { classes := classes, interned := interned.toArray }
  heap := heap
  slotsUsed := slotsUsed
  threads := #[{ frames := .invoking theMethod args0 :: below }]
def below0 : List Frame := [.native { method := ⟨0, 0⟩, args := #[] }]
def about1 : State := aboutOver below0
def p0 : Program := .bare "" "" ""
def e0 : Env := launch0.env 0 0 0
theorem w_frames : about1.frames = Frame.invoking theMethod args0 :: below0 := rfl
set_option maxRecDepth 65536 in
theorem w_args : argsFit about1.vm theMethod args0 = true := by decide +kernel
set_option maxRecDepth 65536 in
theorem w_heap : heapFits about1 = true := by decide +kernel
set_option maxRecDepth 65536 in
theorem w_runnable : about1.curStatus? = some .runnable := by decide +kernel
set_option maxRecDepth 65536 in
theorem w_alone : about1.alone = true := by decide +kernel
set_option maxRecDepth 65536 in
theorem w_named : about1.methodNamed? x = some theMethod := by decide +kernel
set_option maxRecDepth 65536 in
theorem w_hears : about1.hears theMethod below0 = true := by decide +kernel
set_option maxRecDepth 65536 in
theorem w_ripe : about1.ripe theMethod args0 below0 = true := by decide +kernel
theorem w_running : about1.status = .running := rfl
set_option maxRecDepth 65536 in
theorem w_room : about1.hasRoom e0.platform room_1 = true :=
  launch0.hasRoom_least _ room_1 (by decide +kernel) (by decide +kernel) (by decide +kernel) (by decide +kernel) (by decide +kernel) (by decide +kernel)
theorem allAtoms_all (ts : List Jvm.Cond) (a : Array Jvm.Value) (st : Jvm.State) : (allAtoms ts).before a st = ts.all (fun c => c.before a st) := by
  induction ts with
  | nil => rfl
  | cons c t ih =>
    show (Jvm.Cond.and c (allAtoms t)).before a st = _
    rw [Jvm.Cond.before_and, ih, List.all_cons]
def words1 : List Jvm.Cond := Jvm.Cond.code x code maxLocals ret :: tables_1
/-- a 'code' word, met by the world's own term for the bytes: nothing is compared byte by byte -/
theorem code_word {y : MethodName} {bytes : ByteArray} {mx : Nat} {rt : Option FieldType} {a : Array Value} {s : State} {m : MethodId} {meth : Method} {c : Code} (h1 : s.methodNamed? y = some m) (h2 : s.vm.method? m = some meth) (h3 : meth.code = some c) (h4 : c.code = bytes)
    (h5 : (c.maxLocals == mx && c.exceptionTable.isEmpty && decide (c.maxStack ≤ mostOperands) && decide (meth.sig.returnType = rt) && !meth.locks && decide (parseMethodDescriptor y.desc = some meth.sig)) = true) : (Jvm.Cond.code y bytes mx rt).before a s = true := by
  simp only [Bool.and_eq_true, beq_iff_eq, Bool.not_eq_true', decide_eq_true_eq] at h5
  obtain ⟨⟨⟨⟨⟨g1, g2⟩, g3⟩, g4⟩, g5⟩, g6⟩ := h5
  simp [Cond.before, Cond.holds, Cond.value, h1, h2, h3, h4, g1, g2, g3, g4, g5, g6]
def isCode : Jvm.Cond → Bool
  | .code _ _ _ _ => true
  | _ => false
theorem all_split {L : List Jvm.Cond} {P : Jvm.Cond → Bool} (h1 : L.all (fun c => isCode c || P c) = true) (h2 : ∀ c ∈ L.filter isCode, P c = true) : L.all P = true := by
  refine List.all_eq_true.mpr fun c hc => ?_
  have h := List.all_eq_true.mp h1 c hc
  rcases Bool.eq_false_or_eq_true (isCode c) with hi | hi
  · exact h2 c (List.mem_filter.mpr ⟨hc, hi⟩)
  · simpa [hi] using h
set_option maxRecDepth 65536 in
theorem w_c0 : (Jvm.Cond.code x code maxLocals ret).before args0 about1 = true := code_word (m := ⟨1, 3⟩) (meth := k1m3) (c := k1c3) (by decide +kernel) rfl rfl rfl (by decide +kernel)
set_option maxRecDepth 65536 in
theorem w_c1 : (Jvm.Cond.code ({ cls := "com/example/cloud_to_core/cloudtocore/auth/HttpAuthorization", name := "challenge", desc := "(Ljava/lang/String;Ljava/lang/String;)Ljava/lang/String;" } : Jvm.MethodName) prog_1_method_3_code (3 : Nat) (Option.some (Jvm.ClassFile.FieldType.object "java/lang/String"))).before args0 about1 = true := code_word (m := ⟨8, 1⟩) (meth := k8m1) (c := k8c1) (by decide +kernel) rfl rfl rfl (by decide +kernel)
set_option maxRecDepth 65536 in
theorem w_c2 : (Jvm.Cond.code ({ cls := "java/lang/StringBuilder", name := "<init>", desc := "()V" } : Jvm.MethodName) jdk_67_method_1_code (1 : Nat) (Option.none : Option Jvm.ClassFile.FieldType)).before args0 about1 = true := code_word (m := ⟨11, 0⟩) (meth := k11m0) (c := k11c0) (by decide +kernel) rfl rfl rfl (by decide +kernel)
set_option maxRecDepth 65536 in
theorem w_c3 : (Jvm.Cond.code ({ cls := "java/lang/AbstractStringBuilder", name := "<init>", desc := "(I)V" } : Jvm.MethodName) jdk_68_method_2_code (2 : Nat) (Option.none : Option Jvm.ClassFile.FieldType)).before args0 about1 = true := code_word (m := ⟨10, 1⟩) (meth := k10m1) (c := k10c1) (by decide +kernel) rfl rfl rfl (by decide +kernel)
set_option maxRecDepth 65536 in
theorem w_c4 : (Jvm.Cond.code ({ cls := "java/lang/Object", name := "<init>", desc := "()V" } : Jvm.MethodName) object_method_1_code (1 : Nat) (Option.none : Option Jvm.ClassFile.FieldType)).before args0 about1 = true := code_word (m := ⟨0, 0⟩) (meth := k0m0) (c := k0c0) (by decide +kernel) rfl rfl rfl (by decide +kernel)
set_option maxRecDepth 65536 in
theorem w_c5 : (Jvm.Cond.code ({ cls := "java/lang/StringBuilder", name := "append", desc := "(Ljava/lang/String;)Ljava/lang/StringBuilder;" } : Jvm.MethodName) jdk_67_method_7_code (2 : Nat) (Option.some (Jvm.ClassFile.FieldType.object "java/lang/StringBuilder"))).before args0 about1 = true := code_word (m := ⟨11, 1⟩) (meth := k11m1) (c := k11c1) (by decide +kernel) rfl rfl rfl (by decide +kernel)
set_option maxRecDepth 65536 in
theorem w_c6 : (Jvm.Cond.code ({ cls := "java/lang/AbstractStringBuilder", name := "append", desc := "(Ljava/lang/String;)Ljava/lang/AbstractStringBuilder;" } : Jvm.MethodName) jdk_68_method_22_code (3 : Nat) (Option.some (Jvm.ClassFile.FieldType.object "java/lang/AbstractStringBuilder"))).before args0 about1 = true := code_word (m := ⟨10, 5⟩) (meth := k10m5) (c := k10c5) (by decide +kernel) rfl rfl rfl (by decide +kernel)
set_option maxRecDepth 65536 in
theorem w_c7 : (Jvm.Cond.code ({ cls := "java/lang/String", name := "length", desc := "()I" } : Jvm.MethodName) jdk_42_method_54_code (1 : Nat) (Option.some Jvm.ClassFile.FieldType.int)).before args0 about1 = true := code_word (m := ⟨7, 3⟩) (meth := k7m3) (c := k7c3) (by decide +kernel) rfl rfl rfl (by decide +kernel)
set_option maxRecDepth 65536 in
theorem w_c8 : (Jvm.Cond.code ({ cls := "java/lang/String", name := "coder", desc := "()B" } : Jvm.MethodName) jdk_42_method_152_code (1 : Nat) (Option.some Jvm.ClassFile.FieldType.byte)).before args0 about1 = true := code_word (m := ⟨7, 10⟩) (meth := k7m10) (c := k7c10) (by decide +kernel) rfl rfl rfl (by decide +kernel)
set_option maxRecDepth 65536 in
theorem w_c9 : (Jvm.Cond.code ({ cls := "java/lang/AbstractStringBuilder", name := "ensureCapacityInternal", desc := "(I)V" } : Jvm.MethodName) jdk_68_method_9_code (3 : Nat) (Option.none : Option Jvm.ClassFile.FieldType)).before args0 about1 = true := code_word (m := ⟨10, 3⟩) (meth := k10m3) (c := k10c3) (by decide +kernel) rfl rfl rfl (by decide +kernel)
set_option maxRecDepth 65536 in
theorem w_c10 : (Jvm.Cond.code ({ cls := "java/lang/AbstractStringBuilder", name := "putStringAt", desc := "(ILjava/lang/String;)V" } : Jvm.MethodName) jdk_68_method_73_code (3 : Nat) (Option.none : Option Jvm.ClassFile.FieldType)).before args0 about1 = true := code_word (m := ⟨10, 9⟩) (meth := k10m9) (c := k10c9) (by decide +kernel) rfl rfl rfl (by decide +kernel)
set_option maxRecDepth 65536 in
theorem w_c11 : (Jvm.Cond.code ({ cls := "java/lang/AbstractStringBuilder", name := "inflateIfNeededFor", desc := "(Ljava/lang/String;)V" } : Jvm.MethodName) jdk_68_method_71_code (2 : Nat) (Option.none : Option Jvm.ClassFile.FieldType)).before args0 about1 = true := code_word (m := ⟨10, 8⟩) (meth := k10m8) (c := k10c8) (by decide +kernel) rfl rfl rfl (by decide +kernel)
set_option maxRecDepth 65536 in
theorem w_c12 : (Jvm.Cond.code ({ cls := "java/lang/String", name := "getBytes", desc := "([BIB)V" } : Jvm.MethodName) jdk_42_method_147_code (4 : Nat) (Option.none : Option Jvm.ClassFile.FieldType)).before args0 about1 = true := code_word (m := ⟨7, 6⟩) (meth := k7m6) (c := k7c6) (by decide +kernel) rfl rfl rfl (by decide +kernel)
set_option maxRecDepth 65536 in
theorem w_c13 : (Jvm.Cond.code ({ cls := "java/lang/AbstractStringBuilder", name := "newCapacity", desc := "(I)I" } : Jvm.MethodName) jdk_68_method_10_code (6 : Nat) (Option.some Jvm.ClassFile.FieldType.int)).before args0 about1 = true := code_word (m := ⟨10, 4⟩) (meth := k10m4) (c := k10c4) (by decide +kernel) rfl rfl rfl (by decide +kernel)
set_option maxRecDepth 65536 in
theorem w_c14 : (Jvm.Cond.code ({ cls := "jdk/internal/util/ArraysSupport", name := "newLength", desc := "(III)I" } : Jvm.MethodName) jdk_48_method_27_code (4 : Nat) (Option.some Jvm.ClassFile.FieldType.int)).before args0 about1 = true := code_word (m := ⟨13, 1⟩) (meth := k13m1) (c := k13c1) (by decide +kernel) rfl rfl rfl (by decide +kernel)
set_option maxRecDepth 65536 in
theorem w_c15 : (Jvm.Cond.code ({ cls := "java/lang/Math", name := "max", desc := "(II)I" } : Jvm.MethodName) jdk_29_method_65_code (2 : Nat) (Option.some Jvm.ClassFile.FieldType.int)).before args0 about1 = true := code_word (m := ⟨14, 1⟩) (meth := k14m1) (c := k14c1) (by decide +kernel) rfl rfl rfl (by decide +kernel)
set_option maxRecDepth 65536 in
theorem w_c16 : (Jvm.Cond.code ({ cls := "java/util/Arrays", name := "copyOf", desc := "([BI)[B" } : Jvm.MethodName) jdk_65_method_121_code (3 : Nat) (Option.some (Jvm.ClassFile.FieldType.array Jvm.ClassFile.FieldType.byte))).before args0 about1 = true := code_word (m := ⟨15, 1⟩) (meth := k15m1) (c := k15c1) (by decide +kernel) rfl rfl rfl (by decide +kernel)
set_option maxRecDepth 65536 in
theorem w_c17 : (Jvm.Cond.code ({ cls := "java/lang/Math", name := "min", desc := "(II)I" } : Jvm.MethodName) jdk_29_method_69_code (2 : Nat) (Option.some Jvm.ClassFile.FieldType.int)).before args0 about1 = true := code_word (m := ⟨14, 2⟩) (meth := k14m2) (c := k14c2) (by decide +kernel) rfl rfl rfl (by decide +kernel)
set_option maxRecDepth 65536 in
theorem w_c18 : (Jvm.Cond.code ({ cls := "java/lang/StringBuilder", name := "toString", desc := "()Ljava/lang/String;" } : Jvm.MethodName) jdk_67_method_42_code (1 : Nat) (Option.some (Jvm.ClassFile.FieldType.object "java/lang/String"))).before args0 about1 = true := code_word (m := ⟨11, 2⟩) (meth := k11m2) (c := k11c2) (by decide +kernel) rfl rfl rfl (by decide +kernel)
set_option maxRecDepth 65536 in
theorem w_c19 : (Jvm.Cond.code ({ cls := "java/lang/String", name := "<init>", desc := "(Ljava/lang/StringBuilder;)V" } : Jvm.MethodName) jdk_42_method_53_code (2 : Nat) (Option.none : Option Jvm.ClassFile.FieldType)).before args0 about1 = true := code_word (m := ⟨7, 2⟩) (meth := k7m2) (c := k7c2) (by decide +kernel) rfl rfl rfl (by decide +kernel)
set_option maxRecDepth 65536 in
theorem w_c20 : (Jvm.Cond.code ({ cls := "java/lang/String", name := "<init>", desc := "(Ljava/lang/AbstractStringBuilder;Ljava/lang/Void;)V" } : Jvm.MethodName) jdk_42_method_150_code (5 : Nat) (Option.none : Option Jvm.ClassFile.FieldType)).before args0 about1 = true := code_word (m := ⟨7, 8⟩) (meth := k7m8) (c := k7c8) (by decide +kernel) rfl rfl rfl (by decide +kernel)
set_option maxRecDepth 65536 in
theorem w_c21 : (Jvm.Cond.code ({ cls := "java/lang/AbstractStringBuilder", name := "getValue", desc := "()[B" } : Jvm.MethodName) jdk_68_method_64_code (1 : Nat) (Option.some (Jvm.ClassFile.FieldType.array Jvm.ClassFile.FieldType.byte))).before args0 about1 = true := code_word (m := ⟨10, 6⟩) (meth := k10m6) (c := k10c6) (by decide +kernel) rfl rfl rfl (by decide +kernel)
set_option maxRecDepth 65536 in
theorem w_c22 : (Jvm.Cond.code ({ cls := "java/lang/StringBuilder", name := "length", desc := "()I" } : Jvm.MethodName) jdk_67_method_93_code (1 : Nat) (Option.some Jvm.ClassFile.FieldType.int)).before args0 about1 = true := code_word (m := ⟨11, 3⟩) (meth := k11m3) (c := k11c3) (by decide +kernel) rfl rfl rfl (by decide +kernel)
set_option maxRecDepth 65536 in
theorem w_c23 : (Jvm.Cond.code ({ cls := "java/lang/AbstractStringBuilder", name := "length", desc := "()I" } : Jvm.MethodName) jdk_68_method_6_code (1 : Nat) (Option.some Jvm.ClassFile.FieldType.int)).before args0 about1 = true := code_word (m := ⟨10, 2⟩) (meth := k10m2) (c := k10c2) (by decide +kernel) rfl rfl rfl (by decide +kernel)
set_option maxRecDepth 65536 in
theorem w_c24 : (Jvm.Cond.code ({ cls := "java/lang/AbstractStringBuilder", name := "isLatin1", desc := "()Z" } : Jvm.MethodName) jdk_68_method_68_code (1 : Nat) (Option.some Jvm.ClassFile.FieldType.boolean)).before args0 about1 = true := code_word (m := ⟨10, 7⟩) (meth := k10m7) (c := k10c7) (by decide +kernel) rfl rfl rfl (by decide +kernel)
set_option maxRecDepth 65536 in
theorem w_c25 : (Jvm.Cond.code ({ cls := "java/util/Arrays", name := "copyOfRange", desc := "([BII)[B" } : Jvm.MethodName) jdk_65_method_132_code (3 : Nat) (Option.some (Jvm.ClassFile.FieldType.array Jvm.ClassFile.FieldType.byte))).before args0 about1 = true := code_word (m := ⟨15, 3⟩) (meth := k15m3) (c := k15c3) (by decide +kernel) rfl rfl rfl (by decide +kernel)
set_option maxRecDepth 65536 in
theorem w_c26 : (Jvm.Cond.code ({ cls := "java/util/Arrays", name := "copyOfRangeByte", desc := "([BII)[B" } : Jvm.MethodName) jdk_65_method_133_code (5 : Nat) (Option.some (Jvm.ClassFile.FieldType.array Jvm.ClassFile.FieldType.byte))).before args0 about1 = true := code_word (m := ⟨15, 4⟩) (meth := k15m4) (c := k15c4) (by decide +kernel) rfl rfl rfl (by decide +kernel)
set_option maxRecDepth 65536 in
theorem w_c27 : (Jvm.Cond.code ({ cls := "java/util/Arrays", name := "checkLength", desc := "(II)V" } : Jvm.MethodName) jdk_65_method_131_code (2 : Nat) (Option.none : Option Jvm.ClassFile.FieldType)).before args0 about1 = true := code_word (m := ⟨15, 2⟩) (meth := k15m2) (c := k15c2) (by decide +kernel) rfl rfl rfl (by decide +kernel)
set_option maxRecDepth 65536 in
theorem w_c28 : (Jvm.Cond.code ({ cls := "com/example/cloud_to_core/cloudtocore/auth/HttpAuthorizationChallengePinLaw", name := "realmAt", desc := "(Ljava/lang/String;I)Z" } : Jvm.MethodName) method_2_code (2 : Nat) (Option.some Jvm.ClassFile.FieldType.boolean)).before args0 about1 = true := code_word (m := ⟨1, 1⟩) (meth := k1m1) (c := k1c1) (by decide +kernel) rfl rfl rfl (by decide +kernel)
set_option maxRecDepth 65536 in
theorem w_c29 : (Jvm.Cond.code ({ cls := "java/lang/String", name := "charAt", desc := "(I)C" } : Jvm.MethodName) jdk_42_method_56_code (2 : Nat) (Option.some Jvm.ClassFile.FieldType.char)).before args0 about1 = true := code_word (m := ⟨7, 4⟩) (meth := k7m4) (c := k7c4) (by decide +kernel) rfl rfl rfl (by decide +kernel)
set_option maxRecDepth 65536 in
theorem w_c30 : (Jvm.Cond.code ({ cls := "java/lang/String", name := "isLatin1", desc := "()Z" } : Jvm.MethodName) jdk_42_method_154_code (1 : Nat) (Option.some Jvm.ClassFile.FieldType.boolean)).before args0 about1 = true := code_word (m := ⟨7, 11⟩) (meth := k7m11) (c := k7c11) (by decide +kernel) rfl rfl rfl (by decide +kernel)
set_option maxRecDepth 65536 in
theorem w_c31 : (Jvm.Cond.code ({ cls := "java/lang/StringLatin1", name := "charAt", desc := "([BI)C" } : Jvm.MethodName) jdk_43_method_2_code (2 : Nat) (Option.some Jvm.ClassFile.FieldType.char)).before args0 about1 = true := code_word (m := ⟨16, 1⟩) (meth := k16m1) (c := k16c1) (by decide +kernel) rfl rfl rfl (by decide +kernel)
set_option maxRecDepth 65536 in
theorem w_c32 : (Jvm.Cond.code ({ cls := "java/lang/String", name := "checkIndex", desc := "(II)V" } : Jvm.MethodName) jdk_42_method_155_code (2 : Nat) (Option.none : Option Jvm.ClassFile.FieldType)).before args0 about1 = true := code_word (m := ⟨7, 12⟩) (meth := k7m12) (c := k7c12) (by decide +kernel) rfl rfl rfl (by decide +kernel)
set_option maxRecDepth 65536 in
theorem w_c33 : (Jvm.Cond.code ({ cls := "jdk/internal/util/Preconditions", name := "checkIndex", desc := "(IILjava/util/function/BiFunction;)I" } : Jvm.MethodName) jdk_41_method_11_code (3 : Nat) (Option.some Jvm.ClassFile.FieldType.int)).before args0 about1 = true := code_word (m := ⟨17, 1⟩) (meth := k17m1) (c := k17c1) (by decide +kernel) rfl rfl rfl (by decide +kernel)
set_option maxRecDepth 65536 in
theorem w_c34 : (Jvm.Cond.code ({ cls := "java/lang/String", name := "valueOf", desc := "(C)Ljava/lang/String;" } : Jvm.MethodName) jdk_42_method_139_code (1 : Nat) (Option.some (Jvm.ClassFile.FieldType.object "java/lang/String"))).before args0 about1 = true := code_word (m := ⟨7, 5⟩) (meth := k7m5) (c := k7c5) (by decide +kernel) rfl rfl rfl (by decide +kernel)
set_option maxRecDepth 65536 in
theorem w_c35 : (Jvm.Cond.code ({ cls := "java/lang/StringLatin1", name := "canEncode", desc := "(C)Z" } : Jvm.MethodName) jdk_43_method_3_code (1 : Nat) (Option.some Jvm.ClassFile.FieldType.boolean)).before args0 about1 = true := code_word (m := ⟨16, 2⟩) (meth := k16m2) (c := k16c2) (by decide +kernel) rfl rfl rfl (by decide +kernel)
set_option maxRecDepth 65536 in
theorem w_c36 : (Jvm.Cond.code ({ cls := "java/lang/StringLatin1", name := "toBytes", desc := "(C)[B" } : Jvm.MethodName) jdk_43_method_46_code (1 : Nat) (Option.some (Jvm.ClassFile.FieldType.array Jvm.ClassFile.FieldType.byte))).before args0 about1 = true := code_word (m := ⟨16, 3⟩) (meth := k16m3) (c := k16c3) (by decide +kernel) rfl rfl rfl (by decide +kernel)
set_option maxRecDepth 65536 in
theorem w_c37 : (Jvm.Cond.code ({ cls := "java/lang/String", name := "<init>", desc := "([BB)V" } : Jvm.MethodName) jdk_42_method_151_code (3 : Nat) (Option.none : Option Jvm.ClassFile.FieldType)).before args0 about1 = true := code_word (m := ⟨7, 9⟩) (meth := k7m9) (c := k7c9) (by decide +kernel) rfl rfl rfl (by decide +kernel)
set_option maxRecDepth 65536 in
theorem w_c38 : (Jvm.Cond.code ({ cls := "com/example/cloud_to_core/cloudtocore/auth/HttpAuthorizationChallengePinLaw", name := "errorAt", desc := "(Ljava/lang/String;I)Z" } : Jvm.MethodName) method_3_code (2 : Nat) (Option.some Jvm.ClassFile.FieldType.boolean)).before args0 about1 = true := code_word (m := ⟨1, 2⟩) (meth := k1m2) (c := k1c2) (by decide +kernel) rfl rfl rfl (by decide +kernel)
set_option maxRecDepth 65536 in
theorem w_c39 : (Jvm.Cond.code ({ cls := "java/lang/String", name := "<init>", desc := "([C)V" } : Jvm.MethodName) jdk_42_method_3_code (2 : Nat) (Option.none : Option Jvm.ClassFile.FieldType)).before args0 about1 = true := code_word (m := ⟨7, 1⟩) (meth := k7m1) (c := k7c1) (by decide +kernel) rfl rfl rfl (by decide +kernel)
set_option maxRecDepth 65536 in
theorem w_c40 : (Jvm.Cond.code ({ cls := "java/lang/String", name := "<init>", desc := "([CIILjava/lang/Void;)V" } : Jvm.MethodName) jdk_42_method_149_code (6 : Nat) (Option.none : Option Jvm.ClassFile.FieldType)).before args0 about1 = true := code_word (m := ⟨7, 7⟩) (meth := k7m7) (c := k7c7) (by decide +kernel) rfl rfl rfl (by decide +kernel)
set_option maxRecDepth 65536 in
theorem w_c41 : (Jvm.Cond.code ({ cls := "java/lang/StringUTF16", name := "compress", desc := "([CII)[B" } : Jvm.MethodName) jdk_52_method_16_code (6 : Nat) (Option.some (Jvm.ClassFile.FieldType.array Jvm.ClassFile.FieldType.byte))).before args0 about1 = true := code_word (m := ⟨18, 2⟩) (meth := k18m2) (c := k18c2) (by decide +kernel) rfl rfl rfl (by decide +kernel)
set_option maxRecDepth 65536 in
theorem w_c42 : (Jvm.Cond.code ({ cls := "java/lang/StringUTF16", name := "compress", desc := "([CI[BII)I" } : Jvm.MethodName) jdk_52_method_21_code (7 : Nat) (Option.some Jvm.ClassFile.FieldType.int)).before args0 about1 = true := code_word (m := ⟨18, 3⟩) (meth := k18m3) (c := k18c3) (by decide +kernel) rfl rfl rfl (by decide +kernel)
set_option maxRecDepth 65536 in
theorem w_c43 : (Jvm.Cond.code ({ cls := "java/lang/StringUTF16", name := "coderFromArrayLen", desc := "([BI)B" } : Jvm.MethodName) jdk_52_method_15_code (2 : Nat) (Option.some Jvm.ClassFile.FieldType.byte)).before args0 about1 = true := code_word (m := ⟨18, 1⟩) (meth := k18m1) (c := k18c1) (by decide +kernel) rfl rfl rfl (by decide +kernel)
def codes1 : List Jvm.Cond := [Jvm.Cond.code x code maxLocals ret, Jvm.Cond.code ({ cls := "com/example/cloud_to_core/cloudtocore/auth/HttpAuthorization", name := "challenge", desc := "(Ljava/lang/String;Ljava/lang/String;)Ljava/lang/String;" } : Jvm.MethodName) prog_1_method_3_code (3 : Nat) (Option.some (Jvm.ClassFile.FieldType.object "java/lang/String")), Jvm.Cond.code ({ cls := "java/lang/StringBuilder", name := "<init>", desc := "()V" } : Jvm.MethodName) jdk_67_method_1_code (1 : Nat) (Option.none : Option Jvm.ClassFile.FieldType), Jvm.Cond.code ({ cls := "java/lang/AbstractStringBuilder", name := "<init>", desc := "(I)V" } : Jvm.MethodName) jdk_68_method_2_code (2 : Nat) (Option.none : Option Jvm.ClassFile.FieldType), Jvm.Cond.code ({ cls := "java/lang/Object", name := "<init>", desc := "()V" } : Jvm.MethodName) object_method_1_code (1 : Nat) (Option.none : Option Jvm.ClassFile.FieldType), Jvm.Cond.code ({ cls := "java/lang/StringBuilder", name := "append", desc := "(Ljava/lang/String;)Ljava/lang/StringBuilder;" } : Jvm.MethodName) jdk_67_method_7_code (2 : Nat) (Option.some (Jvm.ClassFile.FieldType.object "java/lang/StringBuilder")), Jvm.Cond.code ({ cls := "java/lang/AbstractStringBuilder", name := "append", desc := "(Ljava/lang/String;)Ljava/lang/AbstractStringBuilder;" } : Jvm.MethodName) jdk_68_method_22_code (3 : Nat) (Option.some (Jvm.ClassFile.FieldType.object "java/lang/AbstractStringBuilder")), Jvm.Cond.code ({ cls := "java/lang/String", name := "length", desc := "()I" } : Jvm.MethodName) jdk_42_method_54_code (1 : Nat) (Option.some Jvm.ClassFile.FieldType.int), Jvm.Cond.code ({ cls := "java/lang/String", name := "coder", desc := "()B" } : Jvm.MethodName) jdk_42_method_152_code (1 : Nat) (Option.some Jvm.ClassFile.FieldType.byte), Jvm.Cond.code ({ cls := "java/lang/AbstractStringBuilder", name := "ensureCapacityInternal", desc := "(I)V" } : Jvm.MethodName) jdk_68_method_9_code (3 : Nat) (Option.none : Option Jvm.ClassFile.FieldType), Jvm.Cond.code ({ cls := "java/lang/AbstractStringBuilder", name := "putStringAt", desc := "(ILjava/lang/String;)V" } : Jvm.MethodName) jdk_68_method_73_code (3 : Nat) (Option.none : Option Jvm.ClassFile.FieldType), Jvm.Cond.code ({ cls := "java/lang/AbstractStringBuilder", name := "inflateIfNeededFor", desc := "(Ljava/lang/String;)V" } : Jvm.MethodName) jdk_68_method_71_code (2 : Nat) (Option.none : Option Jvm.ClassFile.FieldType), Jvm.Cond.code ({ cls := "java/lang/String", name := "getBytes", desc := "([BIB)V" } : Jvm.MethodName) jdk_42_method_147_code (4 : Nat) (Option.none : Option Jvm.ClassFile.FieldType), Jvm.Cond.code ({ cls := "java/lang/AbstractStringBuilder", name := "newCapacity", desc := "(I)I" } : Jvm.MethodName) jdk_68_method_10_code (6 : Nat) (Option.some Jvm.ClassFile.FieldType.int), Jvm.Cond.code ({ cls := "jdk/internal/util/ArraysSupport", name := "newLength", desc := "(III)I" } : Jvm.MethodName) jdk_48_method_27_code (4 : Nat) (Option.some Jvm.ClassFile.FieldType.int), Jvm.Cond.code ({ cls := "java/lang/Math", name := "max", desc := "(II)I" } : Jvm.MethodName) jdk_29_method_65_code (2 : Nat) (Option.some Jvm.ClassFile.FieldType.int), Jvm.Cond.code ({ cls := "java/util/Arrays", name := "copyOf", desc := "([BI)[B" } : Jvm.MethodName) jdk_65_method_121_code (3 : Nat) (Option.some (Jvm.ClassFile.FieldType.array Jvm.ClassFile.FieldType.byte)), Jvm.Cond.code ({ cls := "java/lang/Math", name := "min", desc := "(II)I" } : Jvm.MethodName) jdk_29_method_69_code (2 : Nat) (Option.some Jvm.ClassFile.FieldType.int), Jvm.Cond.code ({ cls := "java/lang/StringBuilder", name := "toString", desc := "()Ljava/lang/String;" } : Jvm.MethodName) jdk_67_method_42_code (1 : Nat) (Option.some (Jvm.ClassFile.FieldType.object "java/lang/String")), Jvm.Cond.code ({ cls := "java/lang/String", name := "<init>", desc := "(Ljava/lang/StringBuilder;)V" } : Jvm.MethodName) jdk_42_method_53_code (2 : Nat) (Option.none : Option Jvm.ClassFile.FieldType), Jvm.Cond.code ({ cls := "java/lang/String", name := "<init>", desc := "(Ljava/lang/AbstractStringBuilder;Ljava/lang/Void;)V" } : Jvm.MethodName) jdk_42_method_150_code (5 : Nat) (Option.none : Option Jvm.ClassFile.FieldType), Jvm.Cond.code ({ cls := "java/lang/AbstractStringBuilder", name := "getValue", desc := "()[B" } : Jvm.MethodName) jdk_68_method_64_code (1 : Nat) (Option.some (Jvm.ClassFile.FieldType.array Jvm.ClassFile.FieldType.byte)), Jvm.Cond.code ({ cls := "java/lang/StringBuilder", name := "length", desc := "()I" } : Jvm.MethodName) jdk_67_method_93_code (1 : Nat) (Option.some Jvm.ClassFile.FieldType.int), Jvm.Cond.code ({ cls := "java/lang/AbstractStringBuilder", name := "length", desc := "()I" } : Jvm.MethodName) jdk_68_method_6_code (1 : Nat) (Option.some Jvm.ClassFile.FieldType.int), Jvm.Cond.code ({ cls := "java/lang/AbstractStringBuilder", name := "isLatin1", desc := "()Z" } : Jvm.MethodName) jdk_68_method_68_code (1 : Nat) (Option.some Jvm.ClassFile.FieldType.boolean), Jvm.Cond.code ({ cls := "java/util/Arrays", name := "copyOfRange", desc := "([BII)[B" } : Jvm.MethodName) jdk_65_method_132_code (3 : Nat) (Option.some (Jvm.ClassFile.FieldType.array Jvm.ClassFile.FieldType.byte)), Jvm.Cond.code ({ cls := "java/util/Arrays", name := "copyOfRangeByte", desc := "([BII)[B" } : Jvm.MethodName) jdk_65_method_133_code (5 : Nat) (Option.some (Jvm.ClassFile.FieldType.array Jvm.ClassFile.FieldType.byte)), Jvm.Cond.code ({ cls := "java/util/Arrays", name := "checkLength", desc := "(II)V" } : Jvm.MethodName) jdk_65_method_131_code (2 : Nat) (Option.none : Option Jvm.ClassFile.FieldType), Jvm.Cond.code ({ cls := "com/example/cloud_to_core/cloudtocore/auth/HttpAuthorizationChallengePinLaw", name := "realmAt", desc := "(Ljava/lang/String;I)Z" } : Jvm.MethodName) method_2_code (2 : Nat) (Option.some Jvm.ClassFile.FieldType.boolean), Jvm.Cond.code ({ cls := "java/lang/String", name := "charAt", desc := "(I)C" } : Jvm.MethodName) jdk_42_method_56_code (2 : Nat) (Option.some Jvm.ClassFile.FieldType.char), Jvm.Cond.code ({ cls := "java/lang/String", name := "isLatin1", desc := "()Z" } : Jvm.MethodName) jdk_42_method_154_code (1 : Nat) (Option.some Jvm.ClassFile.FieldType.boolean), Jvm.Cond.code ({ cls := "java/lang/StringLatin1", name := "charAt", desc := "([BI)C" } : Jvm.MethodName) jdk_43_method_2_code (2 : Nat) (Option.some Jvm.ClassFile.FieldType.char), Jvm.Cond.code ({ cls := "java/lang/String", name := "checkIndex", desc := "(II)V" } : Jvm.MethodName) jdk_42_method_155_code (2 : Nat) (Option.none : Option Jvm.ClassFile.FieldType), Jvm.Cond.code ({ cls := "jdk/internal/util/Preconditions", name := "checkIndex", desc := "(IILjava/util/function/BiFunction;)I" } : Jvm.MethodName) jdk_41_method_11_code (3 : Nat) (Option.some Jvm.ClassFile.FieldType.int), Jvm.Cond.code ({ cls := "java/lang/String", name := "valueOf", desc := "(C)Ljava/lang/String;" } : Jvm.MethodName) jdk_42_method_139_code (1 : Nat) (Option.some (Jvm.ClassFile.FieldType.object "java/lang/String")), Jvm.Cond.code ({ cls := "java/lang/StringLatin1", name := "canEncode", desc := "(C)Z" } : Jvm.MethodName) jdk_43_method_3_code (1 : Nat) (Option.some Jvm.ClassFile.FieldType.boolean), Jvm.Cond.code ({ cls := "java/lang/StringLatin1", name := "toBytes", desc := "(C)[B" } : Jvm.MethodName) jdk_43_method_46_code (1 : Nat) (Option.some (Jvm.ClassFile.FieldType.array Jvm.ClassFile.FieldType.byte)), Jvm.Cond.code ({ cls := "java/lang/String", name := "<init>", desc := "([BB)V" } : Jvm.MethodName) jdk_42_method_151_code (3 : Nat) (Option.none : Option Jvm.ClassFile.FieldType), Jvm.Cond.code ({ cls := "com/example/cloud_to_core/cloudtocore/auth/HttpAuthorizationChallengePinLaw", name := "errorAt", desc := "(Ljava/lang/String;I)Z" } : Jvm.MethodName) method_3_code (2 : Nat) (Option.some Jvm.ClassFile.FieldType.boolean), Jvm.Cond.code ({ cls := "java/lang/String", name := "<init>", desc := "([C)V" } : Jvm.MethodName) jdk_42_method_3_code (2 : Nat) (Option.none : Option Jvm.ClassFile.FieldType), Jvm.Cond.code ({ cls := "java/lang/String", name := "<init>", desc := "([CIILjava/lang/Void;)V" } : Jvm.MethodName) jdk_42_method_149_code (6 : Nat) (Option.none : Option Jvm.ClassFile.FieldType), Jvm.Cond.code ({ cls := "java/lang/StringUTF16", name := "compress", desc := "([CII)[B" } : Jvm.MethodName) jdk_52_method_16_code (6 : Nat) (Option.some (Jvm.ClassFile.FieldType.array Jvm.ClassFile.FieldType.byte)), Jvm.Cond.code ({ cls := "java/lang/StringUTF16", name := "compress", desc := "([CI[BII)I" } : Jvm.MethodName) jdk_52_method_21_code (7 : Nat) (Option.some Jvm.ClassFile.FieldType.int), Jvm.Cond.code ({ cls := "java/lang/StringUTF16", name := "coderFromArrayLen", desc := "([BI)B" } : Jvm.MethodName) jdk_52_method_15_code (2 : Nat) (Option.some Jvm.ClassFile.FieldType.byte)]
set_option maxRecDepth 65536 in
theorem codes_eq : words1.filter isCode = codes1 := rfl
theorem w_codes : ∀ c ∈ words1.filter isCode, c.before args0 about1 = true := by
  rw [codes_eq]
  intro c hc
  simp only [codes1, List.mem_cons, List.not_mem_nil, or_false] at hc
  rcases hc with rfl | rfl | rfl | rfl | rfl | rfl | rfl | rfl | rfl | rfl | rfl | rfl | rfl | rfl | rfl | rfl | rfl | rfl | rfl | rfl | rfl | rfl | rfl | rfl | rfl | rfl | rfl | rfl | rfl | rfl | rfl | rfl | rfl | rfl | rfl | rfl | rfl | rfl | rfl | rfl | rfl | rfl | rfl | rfl
  · exact w_c0
  · exact w_c1
  · exact w_c2
  · exact w_c3
  · exact w_c4
  · exact w_c5
  · exact w_c6
  · exact w_c7
  · exact w_c8
  · exact w_c9
  · exact w_c10
  · exact w_c11
  · exact w_c12
  · exact w_c13
  · exact w_c14
  · exact w_c15
  · exact w_c16
  · exact w_c17
  · exact w_c18
  · exact w_c19
  · exact w_c20
  · exact w_c21
  · exact w_c22
  · exact w_c23
  · exact w_c24
  · exact w_c25
  · exact w_c26
  · exact w_c27
  · exact w_c28
  · exact w_c29
  · exact w_c30
  · exact w_c31
  · exact w_c32
  · exact w_c33
  · exact w_c34
  · exact w_c35
  · exact w_c36
  · exact w_c37
  · exact w_c38
  · exact w_c39
  · exact w_c40
  · exact w_c41
  · exact w_c42
  · exact w_c43
set_option maxRecDepth 65536 in
theorem w_t1 : (words1.take 24).all (fun c => isCode c || c.before args0 about1) = true := by decide +kernel
set_option maxRecDepth 65536 in
theorem w_t2 : ((words1.drop 24).take 24).all (fun c => isCode c || c.before args0 about1) = true := by decide +kernel
set_option maxRecDepth 65536 in
theorem w_t3 : (((words1.drop 24).drop 24).take 24).all (fun c => isCode c || c.before args0 about1) = true := by decide +kernel
set_option maxRecDepth 65536 in
theorem w_t4 : ((((words1.drop 24).drop 24).drop 24).take 24).all (fun c => isCode c || c.before args0 about1) = true := by decide +kernel
set_option maxRecDepth 65536 in
theorem w_t5 : (((((words1.drop 24).drop 24).drop 24).drop 24).take 24).all (fun c => isCode c || c.before args0 about1) = true := by decide +kernel
set_option maxRecDepth 65536 in
theorem w_t6 : ((((((words1.drop 24).drop 24).drop 24).drop 24).drop 24).take 24).all (fun c => isCode c || c.before args0 about1) = true := by decide +kernel
set_option maxRecDepth 65536 in
theorem w_t7 : (((((((words1.drop 24).drop 24).drop 24).drop 24).drop 24).drop 24).take 24).all (fun c => isCode c || c.before args0 about1) = true := by decide +kernel
set_option maxRecDepth 65536 in
theorem w_t8 : ((((((((words1.drop 24).drop 24).drop 24).drop 24).drop 24).drop 24).drop 24).take 24).all (fun c => isCode c || c.before args0 about1) = true := by decide +kernel
set_option maxRecDepth 65536 in
theorem w_t9 : (((((((((words1.drop 24).drop 24).drop 24).drop 24).drop 24).drop 24).drop 24).drop 24).take 24).all (fun c => isCode c || c.before args0 about1) = true := by decide +kernel
set_option maxRecDepth 65536 in
theorem w_t10 : (((((((((words1.drop 24).drop 24).drop 24).drop 24).drop 24).drop 24).drop 24).drop 24).drop 24).all (fun c => isCode c || c.before args0 about1) = true := by decide +kernel
theorem w_tables : (allAtoms (Jvm.Cond.code x code maxLocals ret :: tables_1)).before args0 about1 = true := by
  rw [allAtoms_all]
  show words1.all (fun c => c.before args0 about1) = true
  refine all_split ?_ w_codes
  rw [← List.take_append_drop 24 words1, List.all_append, w_t1, ← List.take_append_drop 24 (words1.drop 24), List.all_append, w_t2, ← List.take_append_drop 24 ((words1.drop 24).drop 24), List.all_append, w_t3, ← List.take_append_drop 24 (((words1.drop 24).drop 24).drop 24), List.all_append, w_t4, ← List.take_append_drop 24 ((((words1.drop 24).drop 24).drop 24).drop 24), List.all_append, w_t5, ← List.take_append_drop 24 (((((words1.drop 24).drop 24).drop 24).drop 24).drop 24), List.all_append, w_t6, ← List.take_append_drop 24 ((((((words1.drop 24).drop 24).drop 24).drop 24).drop 24).drop 24), List.all_append, w_t7, ← List.take_append_drop 24 (((((((words1.drop 24).drop 24).drop 24).drop 24).drop 24).drop 24).drop 24), List.all_append, w_t8, ← List.take_append_drop 24 ((((((((words1.drop 24).drop 24).drop 24).drop 24).drop 24).drop 24).drop 24).drop 24), List.all_append, w_t9, w_t10]
  rfl
set_option maxRecDepth 65536 in
theorem w_rest : rest_1_c.before args0 about1 = true := by decide +kernel
set_option maxRecDepth 65536 in
theorem w_case : (Jvm.Cond.and given_1 narrow_1).before args0 about1 = true := by decide +kernel
set_option maxRecDepth 65536 in
theorem w_consts : constsHeld consts_1 about1 := Jvm.Lit.constsHeldB_iff.mp (by decide +kernel)
theorem w_applies : (headSpec (Jvm.Cond.code x code maxLocals ret :: tables_1) room_1).applies x e0.platform about1 = true :=
  (Spec.applies_iff w_frames).mpr ⟨w_running, w_runnable, w_alone, w_named, w_hears, w_ripe, w_room, w_tables⟩
theorem atStart : AtStart classFile x code maxLocals ret World_1 tables_1 room_1 Calls_1 rest_1 Pre_1 launch0 p0 e0 about1 theMethod args0 below0 :=
  ⟨lists_1, trivial, launch0.admits_env _ _ _, launch0.least_env, fairChoices_fair.cas, fairChoices_fair.clock, w_frames, w_args, w_heap, w_applies, ⟨w_consts, trivial⟩, w_rest, w_case⟩
end start1
theorem witness_1 : WitnessClaimed_1 := ⟨start1.p0, start1.e0, start1.about1, start1.theMethod, start1.args0, start1.below0, start1.atStart⟩
end Jvm.Pilot.@@N@@
