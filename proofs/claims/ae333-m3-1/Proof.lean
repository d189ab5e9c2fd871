import JvmDerived
import JvmDerived.Pilot.@@N@@Statement
import JvmDerived.Pilot.@@N@@Code
set_option linter.unusedVariables false
set_option linter.unusedSimpArgs false
set_option maxRecDepth 65536
set_option maxHeartbeats 40000000
namespace Jvm.RoadKit
open Sem ClassFile Op Lib Jvm.Stand Jvm.Free Jvm.LawKit
section New
variable {p : Program} {l : Launch} {e : Env} {R : Room} {s : State} {m : MethodId} {args : Array Value} {below : List Frame} {meth : Method} {c : Code} {T : State} {locs : List Loc} {cells slots : Nat}
theorem retI (X : Stand p l e R s m args below meth c T locs cells slots) (hx : p.tables.exec = Jvm.exec) {pc : Nat} {Ls : Array Slot} {z : Int32} {rest : List Value} (hret : meth.sig.returnType = some .int) (hd : decode c.code pc = .ok (.ireturn, 1)) {fs : List Frame}
    (hl : ∀ (f : JFrame) (acts : List Action), f.method = m → f.locked = none → f.entered = [] → (doReturn e (T.setTop f) acts (some (.int z))).1 = T.setFrames fs) : Steps p.tables e below (T.setTop (mkF m pc Ls (.int z :: rest))) (T.setFrames fs) := by
  have hm' : T.vm.method? m = some meth := X.method'
  have hn : narrow .int (.int z) = .int z := rfl
  show Steps p.tables e below (T.setTop { method := m, pc := pc, locals := Ls, stack := _ :: rest, locked := none }) _
  jvm_step X.here [X.here.top, hx, hd, hm', hret, hn]
  first | (intro acts; rw [hl _ acts rfl rfl rfl]) | rw [hl _ _ rfl rfl rfl]
  exact Steps.refl _
abbrev vI (x : Int32) : Slot := .val (.int x)
abbrev vJ (x : Int64) : Slot := .val (.long x)
abbrev vR (x : Addr) : Slot := .val (.ref x)
abbrev iI (x : Int32) : Value := .int x
abbrev iJ (x : Int64) : Value := .long x
abbrev iR (x : Addr) : Value := .ref x
abbrev SA {tb : Tables} {e : Env} {b : List Frame} {t : State} (T : State) (m : MethodId) (pc : Nat) (L : Array Slot) (S : List Value) : Prop := Steps tb e b (T.setTop (mkF m pc L S)) t
theorem wz {g : JFrame} {rest : List Value} {W : Nat} (h : 2 * g.monitorRoom + (rest.map fun v => v.category).sum = W) : 2 * g.monitorRoom + (rest.map fun v => v.category).sum ≤ W := Nat.le_of_eq h
/-- from one frame to another over the same heap -/
def own_Mid (X : Stand p l e R s m args below meth c T locs cells slots) (h : Heap) (F F' : JFrame) : Prop :=
  ∃ T', Stand p l e R s m args below meth c T' locs cells slots ∧ T'.heap = h ∧ ∀ t, Steps p.tables e below (T'.setTop F') t → Steps p.tables e below (T.setTop F) t
/-- no interface: known of one method of the class, said of another -/
theorem own_nf {s : State} {y z : MethodName} {args : Array Value} (hc : z.cls = y.cls) (h : NotFace s z) (hz : (Cond.instanceMethod z).before args s = true) : NotFace s y := fun r0 h0 => by
  obtain ⟨r1, -, h1, -, -, -⟩ := Cond.instanceMethod_spec hz
  have e1 := findClass_of_methodNamed h0
  have e2 := findClass_of_methodNamed h1
  rw [hc, e1] at e2
  obtain ⟨k, k1, k2⟩ := h r1 h1
  exact ⟨k, by rw [Option.some.inj e2]; exact k1, k2⟩
theorem own_same {s : State} {args : Array Value} {y : MethodName} (hi : (Cond.instanceMethod y).before args s = true) (hnf : NotFace s y) (hy : y.cls ≠ "java/lang/invoke/MethodHandle" ∧ y.cls ≠ "java/lang/invoke/VarHandle") : (Cond.sameMethod y.cls y.cls y.name y.desc).before args s = true := by
  obtain ⟨mk, methM, hnamed, hmethM, -, -⟩ := Cond.instanceMethod_spec hi
  have hfound := State.methodFound?_of_named hnamed hy
  have hc := findClass_of_methodNamed hnamed
  obtain ⟨k, hk, hni⟩ := hnf _ hnamed
  simp [Cond.before, Cond.holds, Cond.value, hc, hk, hni, hfound, hnamed]
/-- a private method is its own choice: its class is made by 'new' -/
theorem own_selPriv {s : State} {args : Array Value} {y : MethodName} {n : Nat} (hi : (Cond.instantiable y.cls n).before args s = true) (hpriv : s.PrivateAt y) (hinst : (Cond.instanceMethod y).before args s = true) (hy : y.cls ≠ "java/lang/invoke/MethodHandle" ∧ y.cls ≠ "java/lang/invoke/VarHandle") : (Cond.selects y.cls y y).before args s = true := by
  obtain ⟨c, k, h1, h2, -, h4, -, -⟩ := Cond.instantiable_spec hi
  exact Stand.selects_self_of_private h1 h2 (Bool.or_eq_false_iff.mp h4).1 hpriv hinst hy
theorem own_selPriv2 {s : State} {args : Array Value} {y : MethodName} (hnf : NotFace s y) (hpriv : s.PrivateAt y) (hinst : (Cond.instanceMethod y).before args s = true) (hy : y.cls ≠ "java/lang/invoke/MethodHandle" ∧ y.cls ≠ "java/lang/invoke/VarHandle") : (Cond.selects y.cls y y).before args s = true := by
  obtain ⟨mk, methM, hnamed, -, -, -⟩ := Cond.instanceMethod_spec hinst
  obtain ⟨k, hk, hni⟩ := hnf _ hnamed
  exact Stand.selects_self_of_private (findClass_of_methodNamed hnamed) hk hni hpriv hinst hy
end New
end Jvm.RoadKit
namespace Jvm.Pilot.@@N@@
open Jvm Jvm.ClassFile Sem Op Lib Jvm.Free Jvm.Stand Jvm.LawKit Jvm.RoadKit Bundle Jvm.Pilot.@@N@@.Jvm.D
theorem ww {a0 : Array Value} {Z : State} (hw : ∀ d ∈ tables_1, d.before a0 Z = true) (i : Nat) {d : Jvm.Cond} (e : tables_1[i]? = some d) : d.before a0 Z = true := hw _ (List.mem_of_getElem? e)
abbrev mn_0 : MethodName := (⟨"java/lang/String", "isLatin1", "()Z"⟩ : MethodName)
abbrev mn_1 : MethodName := (⟨"jdk/internal/util/Preconditions", "checkIndex", "(IILjava/util/function/BiFunction;)I"⟩ : MethodName)
abbrev mn_2 : MethodName := (⟨"java/lang/String", "checkIndex", "(II)V"⟩ : MethodName)
abbrev mn_3 : MethodName := (⟨"java/lang/StringLatin1", "charAt", "([BI)C"⟩ : MethodName)
abbrev mn_4 : MethodName := (⟨"java/lang/String", "charAt", "(I)C"⟩ : MethodName)
abbrev mn_5 : MethodName := (⟨"com/example/plainjson/plainjson/JsonNumber", "pack", "([CII)J"⟩ : MethodName)
abbrev mn_6 : MethodName := (⟨"java/lang/Number", "<init>", "()V"⟩ : MethodName)
abbrev mn_7 : MethodName := (⟨"com/example/plainjson/plainjson/JsonNumber", "<init>", "(JLjava/lang/String;)V"⟩ : MethodName)
abbrev mn_8 : MethodName := (⟨"com/example/plainjson/plainjson/JsonNumber", "parsed", "([CII)Lcom/example/plainjson/plainjson/JsonNumber;"⟩ : MethodName)
abbrev mn_9 : MethodName := (⟨"java/lang/StringUTF16", "compress", "([CI[BII)I"⟩ : MethodName)
abbrev mn_10 : MethodName := (⟨"java/lang/StringUTF16", "compress", "([CII)[B"⟩ : MethodName)
abbrev mn_11 : MethodName := (⟨"java/lang/StringUTF16", "coderFromArrayLen", "([BI)B"⟩ : MethodName)
abbrev mn_12 : MethodName := (⟨"java/lang/String", "<init>", "([CIILjava/lang/Void;)V"⟩ : MethodName)
abbrev mn_13 : MethodName := (⟨"jdk/internal/util/Preconditions", "checkFromIndexSize", "(IIILjava/util/function/BiFunction;)I"⟩ : MethodName)
abbrev mn_14 : MethodName := (⟨"java/lang/String", "checkBoundsOffCount", "(III)I"⟩ : MethodName)
abbrev mn_15 : MethodName := (⟨"java/lang/String", "rangeCheck", "([CII)Ljava/lang/Void;"⟩ : MethodName)
abbrev mn_16 : MethodName := (⟨"java/lang/String", "<init>", "([CII)V"⟩ : MethodName)
abbrev mn_17 : MethodName := (⟨"com/example/plainjson/plainjson/JsonNumber", "toString", "()Ljava/lang/String;"⟩ : MethodName)
abbrev mn_18 : MethodName := (⟨"java/lang/AbstractStringBuilder", "ensureCapacityInternal", "(I)V"⟩ : MethodName)
abbrev mn_19 : MethodName := (⟨"java/lang/AbstractStringBuilder", "isLatin1", "()Z"⟩ : MethodName)
abbrev mn_20 : MethodName := (⟨"java/lang/StringLatin1", "canEncode", "(C)Z"⟩ : MethodName)
abbrev mn_21 : MethodName := (⟨"java/lang/AbstractStringBuilder", "append", "(C)Ljava/lang/AbstractStringBuilder;"⟩ : MethodName)
abbrev mn_22 : MethodName := (⟨"java/lang/StringBuilder", "append", "(C)Ljava/lang/StringBuilder;"⟩ : MethodName)
abbrev mn_23 : MethodName := (⟨"java/lang/AbstractStringBuilder", "<init>", "(I)V"⟩ : MethodName)
abbrev mn_24 : MethodName := (⟨"java/lang/StringBuilder", "<init>", "(I)V"⟩ : MethodName)
abbrev mn_25 : MethodName := (⟨"java/lang/Math", "min", "(II)I"⟩ : MethodName)
abbrev mn_26 : MethodName := (⟨"java/util/Arrays", "checkLength", "(II)V"⟩ : MethodName)
abbrev mn_27 : MethodName := (⟨"java/util/Arrays", "copyOfRangeByte", "([BII)[B"⟩ : MethodName)
abbrev mn_28 : MethodName := (⟨"java/util/Arrays", "copyOfRange", "([BII)[B"⟩ : MethodName)
abbrev mn_29 : MethodName := (⟨"java/lang/AbstractStringBuilder", "getValue", "()[B"⟩ : MethodName)
abbrev mn_30 : MethodName := (⟨"java/lang/AbstractStringBuilder", "length", "()I"⟩ : MethodName)
abbrev mn_31 : MethodName := (⟨"java/lang/StringBuilder", "length", "()I"⟩ : MethodName)
abbrev mn_32 : MethodName := (⟨"java/lang/String", "<init>", "(Ljava/lang/AbstractStringBuilder;Ljava/lang/Void;)V"⟩ : MethodName)
abbrev mn_33 : MethodName := (⟨"java/lang/String", "<init>", "(Ljava/lang/StringBuilder;)V"⟩ : MethodName)
abbrev mn_34 : MethodName := (⟨"java/lang/StringBuilder", "toString", "()Ljava/lang/String;"⟩ : MethodName)
abbrev mn_35 : MethodName := (⟨"java/lang/String", "coder", "()B"⟩ : MethodName)
abbrev mn_36 : MethodName := (⟨"java/lang/String", "length", "()I"⟩ : MethodName)
abbrev mn_37 : MethodName := (⟨"com/example/plainjson/plainjson/JsonNumber", "appendTo", "(Ljava/lang/StringBuilder;)V"⟩ : MethodName)
abbrev mn_38 : MethodName := (⟨"com/example/plainjson/plainjson/JsonNumberParsedPinLaw", "d", "(JI)C"⟩ : MethodName)
abbrev mn_39 : MethodName := (⟨"com/example/plainjson/plainjson/JsonNumberParsedPinLaw", "same", "(Ljava/lang/String;[CIII)Z"⟩ : MethodName)
theorem pd_0 : parseMethodDescriptor "(IILjava/util/function/BiFunction;)I" = some ⟨[.int, .int, (.object "java/util/function/BiFunction")], some .int⟩ := by decide +kernel
theorem pd_1 : parseMethodDescriptor "(II)V" = some ⟨[.int, .int], none⟩ := by decide +kernel
theorem pd_2 : parseMethodDescriptor "()Z" = some ⟨[], some .boolean⟩ := by decide +kernel
theorem pd_3 : parseMethodDescriptor "([BI)C" = some ⟨[(.array .byte), .int], some .char⟩ := by decide +kernel
theorem pd_4 : parseMethodDescriptor "()V" = some ⟨[], none⟩ := by decide +kernel
theorem pd_5 : parseMethodDescriptor "([CII)J" = some ⟨[(.array .char), .int, .int], some .long⟩ := by decide +kernel
theorem pd_6 : parseMethodDescriptor "(JLjava/lang/String;)V" = some ⟨[.long, (.object "java/lang/String")], none⟩ := by decide +kernel
theorem pd_7 : parseMethodDescriptor "([CI[BII)I" = some ⟨[(.array .char), .int, (.array .byte), .int, .int], some .int⟩ := by decide +kernel
theorem pd_8 : parseMethodDescriptor "([CII)[B" = some ⟨[(.array .char), .int, .int], some (.array .byte)⟩ := by decide +kernel
theorem pd_9 : parseMethodDescriptor "([BI)B" = some ⟨[(.array .byte), .int], some .byte⟩ := by decide +kernel
theorem pd_10 : parseMethodDescriptor "(IIILjava/util/function/BiFunction;)I" = some ⟨[.int, .int, .int, (.object "java/util/function/BiFunction")], some .int⟩ := by decide +kernel
theorem pd_11 : parseMethodDescriptor "(III)I" = some ⟨[.int, .int, .int], some .int⟩ := by decide +kernel
theorem pd_12 : parseMethodDescriptor "([CII)Ljava/lang/Void;" = some ⟨[(.array .char), .int, .int], some (.object "java/lang/Void")⟩ := by decide +kernel
theorem pd_13 : parseMethodDescriptor "([CIILjava/lang/Void;)V" = some ⟨[(.array .char), .int, .int, (.object "java/lang/Void")], none⟩ := by decide +kernel
theorem pd_14 : parseMethodDescriptor "([CII)V" = some ⟨[(.array .char), .int, .int], none⟩ := by decide +kernel
theorem pd_15 : parseMethodDescriptor "(I)V" = some ⟨[.int], none⟩ := by decide +kernel
theorem pd_16 : parseMethodDescriptor "(C)Z" = some ⟨[.char], some .boolean⟩ := by decide +kernel
theorem pd_17 : parseMethodDescriptor "(C)Ljava/lang/AbstractStringBuilder;" = some ⟨[.char], some (.object "java/lang/AbstractStringBuilder")⟩ := by decide +kernel
theorem pd_18 : parseMethodDescriptor "(II)I" = some ⟨[.int, .int], some .int⟩ := by decide +kernel
theorem pd_19 : parseMethodDescriptor "([BII)[B" = some ⟨[(.array .byte), .int, .int], some (.array .byte)⟩ := by decide +kernel
theorem pd_20 : parseMethodDescriptor "()I" = some ⟨[], some .int⟩ := by decide +kernel
theorem pd_21 : parseMethodDescriptor "()[B" = some ⟨[], some (.array .byte)⟩ := by decide +kernel
theorem pd_22 : parseMethodDescriptor "(Ljava/lang/AbstractStringBuilder;Ljava/lang/Void;)V" = some ⟨[(.object "java/lang/AbstractStringBuilder"), (.object "java/lang/Void")], none⟩ := by decide +kernel
theorem pd_23 : parseMethodDescriptor "(Ljava/lang/StringBuilder;)V" = some ⟨[(.object "java/lang/StringBuilder")], none⟩ := by decide +kernel
theorem pd_24 : parseMethodDescriptor "()B" = some ⟨[], some .byte⟩ := by decide +kernel
theorem pd_25 : parseMethodDescriptor "(I)C" = some ⟨[.int], some .char⟩ := by decide +kernel
theorem pd_26 : parseMethodDescriptor "(C)Ljava/lang/StringBuilder;" = some ⟨[.char], some (.object "java/lang/StringBuilder")⟩ := by decide +kernel
theorem pd_27 : parseMethodDescriptor "()Ljava/lang/String;" = some ⟨[], some (.object "java/lang/String")⟩ := by decide +kernel
theorem pd_28 : parseMethodDescriptor "([CII)Lcom/example/plainjson/plainjson/JsonNumber;" = some ⟨[(.array .char), .int, .int], some (.object "com/example/plainjson/plainjson/JsonNumber")⟩ := by decide +kernel
theorem pd_29 : parseMethodDescriptor "(Ljava/lang/String;[CIII)Z" = some ⟨[(.object "java/lang/String"), (.array .char), .int, .int, .int], some .boolean⟩ := by decide +kernel
theorem pd_30 : parseMethodDescriptor "(JI)C" = some ⟨[.long, .int], some .char⟩ := by decide +kernel

abbrev own_bs (A : List Int32) : List Value := A.map Value.int
theorem own_shl0 (x : Int32) : x <<< ((0 : Int32) &&& 31) = x := by
  have h := c_ishl x 0 0 (by decide)
  have r1 := rng32 x
  have r2 := rng32 (x <<< ((0 : Int32) &&& 31))
  apply Int32.toInt_inj.mp
  omega
theorem own_z0 : (0 : Int32).toNatClampNeg = 0 := rfl
theorem own_shr0 (x : Int32) : x >>> ((0 : Int32) &&& 31) = x := by
  apply Int32.toInt_inj.mp
  rw [c_ishr x 0 0 (by decide)]; simp
theorem own_bsApp (A B : List Int32) : own_bs (A ++ B) = own_bs A ++ own_bs B := List.map_append
theorem own_rangeB (B : List Int32) (d : Value) : ((List.range B.length).map fun i => (own_bs B).getD (0 + i) d) = own_bs B := by
  apply List.ext_getElem
  · simp
  · intro i h1 h2
    have h3 : i < B.length := by simpa using h1
    simp [List.getD_eq_getElem?_getD, h3]
theorem own_cpy {Z : State} {h : Heap} {b : Addr} {k : ClassId} {cap : Int32} {A B : List Int32} {n sp z : Int32} {m : Nat} (hA : n.toNatClampNeg = A.length) (hs : sp.toNatClampNeg = 0) (hB : z.toNatClampNeg = B.length)
    (F : Arv Z h b k .byte cap ((own_bs A ++ List.replicate m (Value.int (0 : Int32))).take n.toNatClampNeg ++ ((List.range z.toNatClampNeg).map fun i => (own_bs B).getD (sp.toNatClampNeg + i) (.int (0 : Int32))) ++ (own_bs A ++ List.replicate m (Value.int (0 : Int32))).drop (n.toNatClampNeg + z.toNatClampNeg)) (.int (0 : Int32))) : Arv Z h b k .byte cap (own_bs (A ++ B)) (.int (0 : Int32)) := by
  rw [hA, hs, hB, own_rangeB, List.take_left' (by simp), List.drop_append, List.drop_eq_nil_of_le (by simp), List.nil_append, List.drop_replicate, ← own_bsApp] at F
  exact F.pad fun i => (pad_rep _ _ _ i).symm
theorem own_cpN {Z : State} {h : Heap} {b : Addr} {k : ClassId} {cap nc : Int32} {A : List Int32} {m : Nat} (hA : A.length ≤ cap.toNatClampNeg)
    (F : Arv Z h b k .byte nc (([] ++ List.replicate m (Value.int (0 : Int32))).take (0 : Int32).toNatClampNeg ++ ((List.range cap.toNatClampNeg).map fun i => (own_bs A).getD ((0 : Int32).toNatClampNeg + i) (.int (0 : Int32))) ++ ([] ++ List.replicate m (Value.int (0 : Int32))).drop ((0 : Int32).toNatClampNeg + cap.toNatClampNeg)) (.int (0 : Int32))) : Arv Z h b k .byte nc (own_bs A) (.int (0 : Int32)) := by
  refine F.pad fun i => ?_
  rw [own_z0]
  simp only [List.take_zero, List.nil_append, List.drop_replicate, Nat.zero_add]
  rw [pad_rep]
  simp only [List.getD_eq_getElem?_getD, List.getElem?_map]
  by_cases q : i < cap.toNatClampNeg
  · rw [List.getElem?_range q]; simp
  · rw [List.getElem?_eq_none (l := List.range _) (by simpa using q), List.getElem?_eq_none (l := A) (by omega)]; rfl
theorem own_ncne {nc : Int32} (h : ¬ (2147483639 : Int32) < nc) : ¬ nc = (2147483647 : Int32) := fun e => h (by rw [e]; decide)

def own_chr (x : Int32) : Int32 := nar .char ((x &&& (255 : Int32)).toUInt32.toUInt16.toUInt32.toInt32)
theorem own_bsget (B : List Int32) (i : Nat) : (own_bs B).getD i (.int (0 : Int32)) = .int (B.getD i 0) := by
  simp only [List.getD_eq_getElem?_getD, List.getElem?_map]
  cases B[i]? <;> rfl
theorem own_chr2 (x : Int32) : nar .char (own_chr x) = own_chr x := by
  have h1 := c_i2c (x &&& (255 : Int32))
  have h2 := c_i2c ((x &&& (255 : Int32)).toUInt32.toUInt16.toUInt32.toInt32)
  have h3 := c_i2c (own_chr x)
  have e2 : own_chr x = ((x &&& (255 : Int32)).toUInt32.toUInt16.toUInt32.toInt32).toUInt32.toUInt16.toUInt32.toInt32 := rfl
  rw [← e2] at h2
  show (own_chr x).toUInt32.toUInt16.toUInt32.toInt32 = own_chr x
  apply Int32.toInt_inj.mp
  omega
theorem d12_0 : decode jdk_42_method_154_code 0 = .ok (.getstatic 38, 3) := by decide +kernel
theorem d12_3 : decode jdk_42_method_154_code 3 = .ok (.ifCond .eq 14, 3) := by decide +kernel
theorem d12_6 : decode jdk_42_method_154_code 6 = .ok (.aload_n 0, 1) := by decide +kernel
theorem d12_7 : decode jdk_42_method_154_code 7 = .ok (.getfield 15, 3) := by decide +kernel
theorem d12_10 : decode jdk_42_method_154_code 10 = .ok (.ifCond .ne 7, 3) := by decide +kernel
theorem d12_13 : decode jdk_42_method_154_code 13 = .ok (.iconst 1, 1) := by decide +kernel
theorem d12_14 : decode jdk_42_method_154_code 14 = .ok (.goto 4, 3) := by decide +kernel
theorem d12_18 : decode jdk_42_method_154_code 18 = .ok (.ireturn, 1) := by decide +kernel
theorem pn_0 : plainName "java/lang/String" = true := by first | (simp [plainName, overriddenIn]; done) | decide +kernel
theorem ef_12 (m : MethodId) (x0 : Addr) : entryFrame m #[(.ref x0)] 1 = mkF m 0 #[.val (.ref x0)] [] := by first | (simp [entryFrame, mkF, argsToLocals, Value.category]; done) | rfl
def Q12 (Z : State) (a1 : Addr) (cs : Int32) (h0 : Heap) (v : Option Value) (h : Heap) (L : List Loc) : Prop := v = some (.int (1 : Int32)) ∧ L = [] ∧ h = h0
theorem rm12 (l : Launch) (Z : State) (a0 : Array Value) (hw : ∀ d ∈ tables_1, d.before a0 Z = true) (ws : List Jvm.Cond) (a1 : Addr) (cs : Int32) (h0 : Heap) (n0 : Nat) (O0 : Old Z n0 h0) (Fc_a1 : Fld Z h0 a1 "java/lang/String" "coder" "B" (.int (0 : Int32))) (S_CS : Sta Z Z.heap "java/lang/String" "COMPACT_STRINGS" "Z" (.int cs)) (h_cs : ¬ cs = (0 : Int32)) :
    MetFree l mn_0 (head1 (Jvm.Cond.code mn_0 jdk_42_method_154_code 1 (some .boolean) :: ws) ({ frames := 0, cells := 0, slots := 0, locals := 0 } : Room)) (fun a U => a = #[(.ref a1)] ∧ Z.Warmed39 U.vm ∧ U.heap = h0) (fun _ _ _ _ _ => True) (fun _ U o U' => ∃ v L, o = .returned v ∧ Q12 Z a1 cs h0 v U'.heap L ∧ FrameEnd U o U' L ({ frames := 0, cells := 0, slots := 0, locals := 0 } : Room).cells ({ frames := 0, cells := 0, slots := 0, locals := 0 } : Room).slots) := by
  refine MetFree.of_bodySF (plainFor_of_name pn_0) hisR ?_
  intro p e s m args below meth c s₁ Bd hml0 hP hK
  obtain ⟨rfl, hZ, hh⟩ := hP
  have hx := Bd.exec
  have hby := Bd.bytes
  have hml : c.maxLocals = 1 := hml0
  have hown : s.vm.findClass "java/lang/String" = some m.cls := findClass_of_methodNamed Bd.named
  have hnm := (name_of_methodNamed Bd.named Bd.method).1
  have X0 : Stand p l e ({ frames := 0, cells := 0, slots := 0, locals := 0 } : Room) s m #[(.ref a1)] below meth c s₁ [] 0 0 := Stand.of_body Bd
  have e0 : s₁.heap = h0 := by rw [← hh, Bd.state]; rfl
  have pre0 : ∀ t, Steps p.tables e below (s₁.setTop (mkF m 0 #[.val (.ref a1)] [])) t → Steps p.tables e below (s₁.setTop (entryFrame m #[(.ref a1)] 1)) t := fun t k => castTop (ef_12 m a1) k
  obtain ⟨T1, X1, e1, st1⟩ := getS2 X0 hx hZ hown (host := "") (Or.inl (ww hw 79 rfl)) Via.refl e0 (S_CS.ext O0.2) (g := (mkF m 0 #[vR a1] [])) rfl (hb hby d12_0)
  obtain ⟨T2, X2, e2, st2⟩ := getF X1 hx hZ hown (host := "") (Or.inl (ww hw 80 rfl)) Via.refl e1 Fc_a1 (g := (mkF m 7 #[vR a1] [iR a1])) rfl rfl (hb hby d12_7)
  obtain ⟨fs, hr, hrun, hended, hW, hsame⟩ := X2.leave (v := some (.int (1 : Int32))) (fun h => by rw [Bd.returns] at h; cases h)
  refine ⟨_, _, pre0 _ ?_, hrun, hended, _, _, rfl, ?_, ⟨_, rfl⟩, hW, hsame.mono (by decide) (by decide)⟩
  · show SA s₁ m 0 #[vR a1] []
    refine st1 _ ?_
    show SA T1 m 3 #[vR a1] [iI cs]
    refine XS.ifNo X1.here hx rfl (hb hby d12_3) rfl ((if0 _ _).trans (feq h_cs).1) ?_
    show SA T1 m 6 #[vR a1] []
    refine XS.aloadN X1.here hx rfl (hb hby d12_6) rfl rfl ?_
    show SA T1 m 7 #[vR a1] [iR a1]
    refine st2 _ ?_
    show SA T2 m 10 #[vR a1] [iI 0]
    refine XS.ifNo X2.here hx rfl (hb hby d12_10) rfl ((if0 _ _).trans (teq (by decide : (0 : Int32) = (0 : Int32))).2) ?_
    show SA T2 m 13 #[vR a1] []
    refine XS.iconst X2.here hx rfl (hb hby d12_13) ?_
    show SA T2 m 14 #[vR a1] [iI 1]
    refine XS.goto X2.here hx rfl (pc0 := 14) (pc' := 18) rfl (hb hby d12_14) (by decide) (by decide) ?_
    show Steps _ _ _ (T2.setTop (mkF m 18 #[vR a1] [iI 1])) _
    exact retN X2 hx (t := .boolean) Bd.returns (by simp) (hb hby d12_18) hr
  · show Q12 Z a1 cs h0 _ T2.heap _
    rw [e2]
    exact ⟨rfl, rfl, rfl⟩
theorem d15_0 : decode jdk_41_method_11_code 0 = .ok (.iload_n 0, 1) := by decide +kernel
theorem d15_1 : decode jdk_41_method_11_code 1 = .ok (.ifCond .lt 8, 3) := by decide +kernel
theorem d15_4 : decode jdk_41_method_11_code 4 = .ok (.iload_n 0, 1) := by decide +kernel
theorem d15_5 : decode jdk_41_method_11_code 5 = .ok (.iload_n 1, 1) := by decide +kernel
theorem d15_6 : decode jdk_41_method_11_code 6 = .ok (.if_icmp .lt 10, 3) := by decide +kernel
theorem d15_16 : decode jdk_41_method_11_code 16 = .ok (.iload_n 0, 1) := by decide +kernel
theorem d15_17 : decode jdk_41_method_11_code 17 = .ok (.ireturn, 1) := by decide +kernel
theorem pn_1 : plainName "jdk/internal/util/Preconditions" = true := by first | (simp [plainName, overriddenIn]; done) | decide +kernel
theorem ef_15_n (m : MethodId) (x0 : Int32) (x1 : Int32) : entryFrame m #[(.int x0), (.int x1), .null] 3 = mkF m 0 #[.val (.int x0), .val (.int x1), .val .null] [] := by first | (simp [entryFrame, mkF, argsToLocals, Value.category]; done) | rfl
def Q15_n (Z : State) (p1 : Int32) (p2 : Int32) (h0 : Heap) (v : Option Value) (h : Heap) (L : List Loc) : Prop := v = some (.int p1) ∧ L = [] ∧ h = h0
theorem rm15_n (l : Launch) (Z : State) (a0 : Array Value) (hw : ∀ d ∈ tables_1, d.before a0 Z = true) (ws : List Jvm.Cond) (p1 : Int32) (p2 : Int32) (h0 : Heap) (hj0 : ¬ p1 < (0 : Int32)) (hj1 : p1 < p2) :
    MetFree l mn_1 (head1 (Jvm.Cond.code mn_1 jdk_41_method_11_code 3 (some .int) :: ws) ({ frames := 0, cells := 0, slots := 0, locals := 0 } : Room)) (fun a U => a = #[(.int p1), (.int p2), .null] ∧ Z.Warmed39 U.vm ∧ U.heap = h0) (fun _ _ _ _ _ => True) (fun _ U o U' => ∃ v L, o = .returned v ∧ Q15_n Z p1 p2 h0 v U'.heap L ∧ FrameEnd U o U' L ({ frames := 0, cells := 0, slots := 0, locals := 0 } : Room).cells ({ frames := 0, cells := 0, slots := 0, locals := 0 } : Room).slots) := by
  refine MetFree.of_bodySF (plainFor_of_name pn_1) hisR ?_
  intro p e s m args below meth c s₁ Bd hml0 hP hK
  obtain ⟨rfl, hZ, hh⟩ := hP
  have hx := Bd.exec
  have hby := Bd.bytes
  have hml : c.maxLocals = 3 := hml0
  have hown : s.vm.findClass "jdk/internal/util/Preconditions" = some m.cls := findClass_of_methodNamed Bd.named
  have hnm := (name_of_methodNamed Bd.named Bd.method).1
  have X0 : Stand p l e ({ frames := 0, cells := 0, slots := 0, locals := 0 } : Room) s m #[(.int p1), (.int p2), .null] below meth c s₁ [] 0 0 := Stand.of_body Bd
  have e0 : s₁.heap = h0 := by rw [← hh, Bd.state]; rfl
  have pre0 : ∀ t, Steps p.tables e below (s₁.setTop (mkF m 0 #[.val (.int p1), .val (.int p2), .val .null] [])) t → Steps p.tables e below (s₁.setTop (entryFrame m #[(.int p1), (.int p2), .null] 3)) t := fun t k => castTop (ef_15_n m p1 p2) k
  obtain ⟨fs, hr, hrun, hended, hW, hsame⟩ := X0.leave (v := some (.int p1)) (fun h => by rw [Bd.returns] at h; cases h)
  refine ⟨_, _, pre0 _ ?_, hrun, hended, _, _, rfl, ?_, ⟨_, rfl⟩, hW, hsame.mono (by decide) (by decide)⟩
  · show SA s₁ m 0 #[vI p1, vI p2, .val .null] []
    refine XS.iloadN X0.here hx rfl (hb hby d15_0) rfl ?_
    show SA s₁ m 1 #[vI p1, vI p2, .val .null] [iI p1]
    refine XS.ifNo X0.here hx rfl (hb hby d15_1) rfl ((if0 _ _).trans (flt hj0).1) ?_
    show SA s₁ m 4 #[vI p1, vI p2, .val .null] []
    refine XS.iloadN X0.here hx rfl (hb hby d15_4) rfl ?_
    show SA s₁ m 5 #[vI p1, vI p2, .val .null] [iI p1]
    refine XS.iloadN X0.here hx rfl (hb hby d15_5) rfl ?_
    show SA s₁ m 6 #[vI p1, vI p2, .val .null] [iI p2, iI p1]
    refine XS.icmpYes X0.here hx rfl (pc0 := 6) (pc' := 16) rfl (hb hby d15_6) rfl (tlt hj1).1 (by decide) (by decide) ?_
    show SA s₁ m 16 #[vI p1, vI p2, .val .null] []
    refine XS.iloadN X0.here hx rfl (hb hby d15_16) rfl ?_
    show Steps _ _ _ (s₁.setTop (mkF m 17 #[vI p1, vI p2, .val .null] [iI p1])) _
    exact retI X0 hx Bd.returns (hb hby d15_17) hr
  · show Q15_n Z p1 p2 h0 _ s₁.heap _
    rw [e0]
    exact ⟨rfl, rfl, rfl⟩
theorem d14_0 : decode jdk_42_method_155_code 0 = .ok (.iload_n 0, 1) := by decide +kernel
theorem d14_1 : decode jdk_42_method_155_code 1 = .ok (.iload_n 1, 1) := by decide +kernel
theorem d14_2 : decode jdk_42_method_155_code 2 = .ok (.getstatic 1053, 3) := by decide +kernel
theorem d14_5 : decode jdk_42_method_155_code 5 = .ok (.invokestatic 1059, 3) := by decide +kernel
theorem d14_8 : decode jdk_42_method_155_code 8 = .ok (.pop, 1) := by decide +kernel
theorem d14_9 : decode jdk_42_method_155_code 9 = .ok (.return_, 1) := by decide +kernel
theorem ef_14_n (m : MethodId) (x0 : Int32) (x1 : Int32) : entryFrame m #[(.int x0), (.int x1)] 2 = mkF m 0 #[.val (.int x0), .val (.int x1)] [] := by first | (simp [entryFrame, mkF, argsToLocals, Value.category]; done) | rfl
def Q14_n (Z : State) (p1 : Int32) (p2 : Int32) (h0 : Heap) (v : Option Value) (h : Heap) (L : List Loc) : Prop := v = none ∧ L = [] ∧ h = h0
theorem rm14_n (l : Launch) (Z : State) (a0 : Array Value) (hw : ∀ d ∈ tables_1, d.before a0 Z = true) (ws : List Jvm.Cond) (p1 : Int32) (p2 : Int32) (h0 : Heap) (n0 : Nat) (O0 : Old Z n0 h0) (S_F : Sta Z Z.heap "jdk/internal/util/Preconditions" "SIOOBE_FORMATTER" "Ljava/util/function/BiFunction;" .null) (hj0 : ¬ p1 < (0 : Int32)) (hj1 : p1 < p2) :
    MetFree l mn_2 (head1 (Jvm.Cond.code mn_2 jdk_42_method_155_code 2 none :: ws) ({ frames := 1, cells := 0, slots := 0, locals := 14 } : Room)) (fun a U => a = #[(.int p1), (.int p2)] ∧ Z.Warmed39 U.vm ∧ U.heap = h0) (fun _ _ _ _ _ => True) (fun _ U o U' => ∃ v L, o = .returned v ∧ Q14_n Z p1 p2 h0 v U'.heap L ∧ FrameEnd U o U' L ({ frames := 1, cells := 0, slots := 0, locals := 14 } : Room).cells ({ frames := 1, cells := 0, slots := 0, locals := 14 } : Room).slots) := by
  refine MetFree.of_bodySF (plainFor_of_name pn_0) hisR ?_
  intro p e s m args below meth c s₁ Bd hml0 hP hK
  obtain ⟨rfl, hZ, hh⟩ := hP
  have hx := Bd.exec
  have hby := Bd.bytes
  have hml : c.maxLocals = 2 := hml0
  have hown : s.vm.findClass "java/lang/String" = some m.cls := findClass_of_methodNamed Bd.named
  have hnm := (name_of_methodNamed Bd.named Bd.method).1
  have X0 : Stand p l e ({ frames := 1, cells := 0, slots := 0, locals := 14 } : Room) s m #[(.int p1), (.int p2)] below meth c s₁ [] 0 0 := Stand.of_body Bd
  have e0 : s₁.heap = h0 := by rw [← hh, Bd.state]; rfl
  have pre0 : ∀ t, Steps p.tables e below (s₁.setTop (mkF m 0 #[.val (.int p1), .val (.int p2)] [])) t → Steps p.tables e below (s₁.setTop (entryFrame m #[(.int p1), (.int p2)] 2)) t := fun t k => castTop (ef_14_n m p1 p2) k
  obtain ⟨T1, X1, e1, st1⟩ := getS2 X0 hx hZ hown (host := "") (Or.inl (ww hw 89 rfl)) Via.refl e0 (S_F.ext O0.2) (g := (mkF m 2 #[vI p1, vI p2] [iI p2, iI p1])) rfl (hb hby d14_2)
  obtain ⟨_, _, ⟨T2, L2, k2, n2⟩, -, X2, ⟨Lc2, hQ2, l2, y2, z2⟩, st2⟩ := Jvm.LawKit.callS X1 hx (y := mn_1) hown (mvT hZ (ww hw 91 rfl)) (mvT hZ (ww hw 92 rfl)) (mvT hZ (ww hw 90 rfl)) (mvT hZ (ww hw 93 rfl)) (by decide) (backOf (W := 0) (rm15_n l Z a0 hw [] p1 p2  h0 hj0 hj1) hZ (ww hw 93 rfl) (ww hw 90 rfl) (by decide) (by decide)) (g := (mkF m 5 #[vI p1, vI p2] [.null, iI p2, iI p1])) rfl (by rw [hml]; rfl) (argsL := [(.int p1), (.int p2), .null]) (rest := []) (lenOf pd_0 rfl) rfl (wz rfl) (hb hby d14_5) (fun _ _ => ⟨rfl, e1, (by decide : 0 + 0 ≤ _), (by decide : 0 + 0 ≤ _)⟩)
  dsimp only [Pt.U, Pt.locs, Pt.cells, Pt.slots] at X2 l2 y2 z2 st2 hQ2
  subst l2 y2 z2
  obtain ⟨rfl, rfl, e2⟩ := hQ2
  try rw [List.append_nil] at X2
  obtain ⟨fs, hr, hrun, hended, hW, hsame⟩ := X2.leave (v := none) (fun _ => rfl)
  refine ⟨_, _, pre0 _ ?_, hrun, hended, _, _, rfl, ?_, ⟨_, rfl⟩, hW, hsame.mono (by decide) (by decide)⟩
  · show SA s₁ m 0 #[vI p1, vI p2] []
    refine XS.iloadN X0.here hx rfl (hb hby d14_0) rfl ?_
    show SA s₁ m 1 #[vI p1, vI p2] [iI p1]
    refine XS.iloadN X0.here hx rfl (hb hby d14_1) rfl ?_
    show SA s₁ m 2 #[vI p1, vI p2] [iI p2, iI p1]
    refine st1 _ ?_
    show SA T1 m 5 #[vI p1, vI p2] [.null, iI p2, iI p1]
    refine st2 _ ?_
    show SA T2 m 8 #[vI p1, vI p2] [iI p1]
    refine XS.pop X2.here hx rfl (hb hby d14_8) rfl rfl ?_
    show Steps _ _ _ (T2.setTop (mkF m 9 #[vI p1, vI p2] [])) _
    exact X2.returnOut hx Bd.returns (hb hby d14_9) hr
  · show Q14_n Z p1 p2 h0 _ T2.heap _
    rw [e2]
    exact ⟨rfl, rfl, rfl⟩
theorem ef_15_r (m : MethodId) (x0 : Int32) (x1 : Int32) (x2 : Addr) : entryFrame m #[(.int x0), (.int x1), (.ref x2)] 3 = mkF m 0 #[.val (.int x0), .val (.int x1), .val (.ref x2)] [] := by first | (simp [entryFrame, mkF, argsToLocals, Value.category]; done) | rfl
def Q15_r (Z : State) (p1 : Int32) (p2 : Int32) (fa : Addr) (h0 : Heap) (v : Option Value) (h : Heap) (L : List Loc) : Prop := v = some (.int p1) ∧ L = [] ∧ h = h0
theorem rm15_r (l : Launch) (Z : State) (a0 : Array Value) (hw : ∀ d ∈ tables_1, d.before a0 Z = true) (ws : List Jvm.Cond) (p1 : Int32) (p2 : Int32) (fa : Addr) (h0 : Heap) (hj0 : ¬ p1 < (0 : Int32)) (hj1 : p1 < p2) :
    MetFree l mn_1 (head1 (Jvm.Cond.code mn_1 jdk_41_method_11_code 3 (some .int) :: ws) ({ frames := 0, cells := 0, slots := 0, locals := 0 } : Room)) (fun a U => a = #[(.int p1), (.int p2), (.ref fa)] ∧ Z.Warmed39 U.vm ∧ U.heap = h0) (fun _ _ _ _ _ => True) (fun _ U o U' => ∃ v L, o = .returned v ∧ Q15_r Z p1 p2 fa h0 v U'.heap L ∧ FrameEnd U o U' L ({ frames := 0, cells := 0, slots := 0, locals := 0 } : Room).cells ({ frames := 0, cells := 0, slots := 0, locals := 0 } : Room).slots) := by
  refine MetFree.of_bodySF (plainFor_of_name pn_1) hisR ?_
  intro p e s m args below meth c s₁ Bd hml0 hP hK
  obtain ⟨rfl, hZ, hh⟩ := hP
  have hx := Bd.exec
  have hby := Bd.bytes
  have hml : c.maxLocals = 3 := hml0
  have hown : s.vm.findClass "jdk/internal/util/Preconditions" = some m.cls := findClass_of_methodNamed Bd.named
  have hnm := (name_of_methodNamed Bd.named Bd.method).1
  have X0 : Stand p l e ({ frames := 0, cells := 0, slots := 0, locals := 0 } : Room) s m #[(.int p1), (.int p2), (.ref fa)] below meth c s₁ [] 0 0 := Stand.of_body Bd
  have e0 : s₁.heap = h0 := by rw [← hh, Bd.state]; rfl
  have pre0 : ∀ t, Steps p.tables e below (s₁.setTop (mkF m 0 #[.val (.int p1), .val (.int p2), .val (.ref fa)] [])) t → Steps p.tables e below (s₁.setTop (entryFrame m #[(.int p1), (.int p2), (.ref fa)] 3)) t := fun t k => castTop (ef_15_r m p1 p2 fa) k
  obtain ⟨fs, hr, hrun, hended, hW, hsame⟩ := X0.leave (v := some (.int p1)) (fun h => by rw [Bd.returns] at h; cases h)
  refine ⟨_, _, pre0 _ ?_, hrun, hended, _, _, rfl, ?_, ⟨_, rfl⟩, hW, hsame.mono (by decide) (by decide)⟩
  · show SA s₁ m 0 #[vI p1, vI p2, vR fa] []
    refine XS.iloadN X0.here hx rfl (hb hby d15_0) rfl ?_
    show SA s₁ m 1 #[vI p1, vI p2, vR fa] [iI p1]
    refine XS.ifNo X0.here hx rfl (hb hby d15_1) rfl ((if0 _ _).trans (flt hj0).1) ?_
    show SA s₁ m 4 #[vI p1, vI p2, vR fa] []
    refine XS.iloadN X0.here hx rfl (hb hby d15_4) rfl ?_
    show SA s₁ m 5 #[vI p1, vI p2, vR fa] [iI p1]
    refine XS.iloadN X0.here hx rfl (hb hby d15_5) rfl ?_
    show SA s₁ m 6 #[vI p1, vI p2, vR fa] [iI p2, iI p1]
    refine XS.icmpYes X0.here hx rfl (pc0 := 6) (pc' := 16) rfl (hb hby d15_6) rfl (tlt hj1).1 (by decide) (by decide) ?_
    show SA s₁ m 16 #[vI p1, vI p2, vR fa] []
    refine XS.iloadN X0.here hx rfl (hb hby d15_16) rfl ?_
    show Steps _ _ _ (s₁.setTop (mkF m 17 #[vI p1, vI p2, vR fa] [iI p1])) _
    exact retI X0 hx Bd.returns (hb hby d15_17) hr
  · show Q15_r Z p1 p2 fa h0 _ s₁.heap _
    rw [e0]
    exact ⟨rfl, rfl, rfl⟩
theorem ef_14_r (m : MethodId) (x0 : Int32) (x1 : Int32) : entryFrame m #[(.int x0), (.int x1)] 2 = mkF m 0 #[.val (.int x0), .val (.int x1)] [] := by first | (simp [entryFrame, mkF, argsToLocals, Value.category]; done) | rfl
def Q14_r (Z : State) (p1 : Int32) (p2 : Int32) (fa : Addr) (h0 : Heap) (v : Option Value) (h : Heap) (L : List Loc) : Prop := v = none ∧ L = [] ∧ h = h0
theorem rm14_r (l : Launch) (Z : State) (a0 : Array Value) (hw : ∀ d ∈ tables_1, d.before a0 Z = true) (ws : List Jvm.Cond) (p1 : Int32) (p2 : Int32) (fa : Addr) (h0 : Heap) (n0 : Nat) (O0 : Old Z n0 h0) (S_F : Sta Z Z.heap "jdk/internal/util/Preconditions" "SIOOBE_FORMATTER" "Ljava/util/function/BiFunction;" (.ref fa)) (hj0 : ¬ p1 < (0 : Int32)) (hj1 : p1 < p2) :
    MetFree l mn_2 (head1 (Jvm.Cond.code mn_2 jdk_42_method_155_code 2 none :: ws) ({ frames := 1, cells := 0, slots := 0, locals := 14 } : Room)) (fun a U => a = #[(.int p1), (.int p2)] ∧ Z.Warmed39 U.vm ∧ U.heap = h0) (fun _ _ _ _ _ => True) (fun _ U o U' => ∃ v L, o = .returned v ∧ Q14_r Z p1 p2 fa h0 v U'.heap L ∧ FrameEnd U o U' L ({ frames := 1, cells := 0, slots := 0, locals := 14 } : Room).cells ({ frames := 1, cells := 0, slots := 0, locals := 14 } : Room).slots) := by
  refine MetFree.of_bodySF (plainFor_of_name pn_0) hisR ?_
  intro p e s m args below meth c s₁ Bd hml0 hP hK
  obtain ⟨rfl, hZ, hh⟩ := hP
  have hx := Bd.exec
  have hby := Bd.bytes
  have hml : c.maxLocals = 2 := hml0
  have hown : s.vm.findClass "java/lang/String" = some m.cls := findClass_of_methodNamed Bd.named
  have hnm := (name_of_methodNamed Bd.named Bd.method).1
  have X0 : Stand p l e ({ frames := 1, cells := 0, slots := 0, locals := 14 } : Room) s m #[(.int p1), (.int p2)] below meth c s₁ [] 0 0 := Stand.of_body Bd
  have e0 : s₁.heap = h0 := by rw [← hh, Bd.state]; rfl
  have pre0 : ∀ t, Steps p.tables e below (s₁.setTop (mkF m 0 #[.val (.int p1), .val (.int p2)] [])) t → Steps p.tables e below (s₁.setTop (entryFrame m #[(.int p1), (.int p2)] 2)) t := fun t k => castTop (ef_14_r m p1 p2) k
  obtain ⟨T1, X1, e1, st1⟩ := getS2 X0 hx hZ hown (host := "") (Or.inl (ww hw 89 rfl)) Via.refl e0 (S_F.ext O0.2) (g := (mkF m 2 #[vI p1, vI p2] [iI p2, iI p1])) rfl (hb hby d14_2)
  obtain ⟨_, _, ⟨T2, L2, k2, n2⟩, -, X2, ⟨Lc2, hQ2, l2, y2, z2⟩, st2⟩ := Jvm.LawKit.callS X1 hx (y := mn_1) hown (mvT hZ (ww hw 91 rfl)) (mvT hZ (ww hw 92 rfl)) (mvT hZ (ww hw 90 rfl)) (mvT hZ (ww hw 93 rfl)) (by decide) (backOf (W := 0) (rm15_r l Z a0 hw [] p1 p2 fa h0 hj0 hj1) hZ (ww hw 93 rfl) (ww hw 90 rfl) (by decide) (by decide)) (g := (mkF m 5 #[vI p1, vI p2] [iR fa, iI p2, iI p1])) rfl (by rw [hml]; rfl) (argsL := [(.int p1), (.int p2), (.ref fa)]) (rest := []) (lenOf pd_0 rfl) rfl (wz rfl) (hb hby d14_5) (fun _ _ => ⟨rfl, e1, (by decide : 0 + 0 ≤ _), (by decide : 0 + 0 ≤ _)⟩)
  dsimp only [Pt.U, Pt.locs, Pt.cells, Pt.slots] at X2 l2 y2 z2 st2 hQ2
  subst l2 y2 z2
  obtain ⟨rfl, rfl, e2⟩ := hQ2
  try rw [List.append_nil] at X2
  obtain ⟨fs, hr, hrun, hended, hW, hsame⟩ := X2.leave (v := none) (fun _ => rfl)
  refine ⟨_, _, pre0 _ ?_, hrun, hended, _, _, rfl, ?_, ⟨_, rfl⟩, hW, hsame.mono (by decide) (by decide)⟩
  · show SA s₁ m 0 #[vI p1, vI p2] []
    refine XS.iloadN X0.here hx rfl (hb hby d14_0) rfl ?_
    show SA s₁ m 1 #[vI p1, vI p2] [iI p1]
    refine XS.iloadN X0.here hx rfl (hb hby d14_1) rfl ?_
    show SA s₁ m 2 #[vI p1, vI p2] [iI p2, iI p1]
    refine st1 _ ?_
    show SA T1 m 5 #[vI p1, vI p2] [iR fa, iI p2, iI p1]
    refine st2 _ ?_
    show SA T2 m 8 #[vI p1, vI p2] [iI p1]
    refine XS.pop X2.here hx rfl (hb hby d14_8) rfl rfl ?_
    show Steps _ _ _ (T2.setTop (mkF m 9 #[vI p1, vI p2] [])) _
    exact X2.returnOut hx Bd.returns (hb hby d14_9) hr
  · show Q14_r Z p1 p2 fa h0 _ T2.heap _
    rw [e2]
    exact ⟨rfl, rfl, rfl⟩
def Q14 (Z : State) (p1 : Int32) (p2 : Int32) (fm : Value) (h0 : Heap) (v : Option Value) (h : Heap) (L : List Loc) : Prop := v = none ∧ L = [] ∧ h = h0
theorem rm14 (l : Launch) (Z : State) (a0 : Array Value) (hw : ∀ d ∈ tables_1, d.before a0 Z = true) (ws : List Jvm.Cond) (p1 : Int32) (p2 : Int32) (fm : Value) (h0 : Heap) (n0 : Nat) (O0 : Old Z n0 h0) (S_F : Sta Z Z.heap "jdk/internal/util/Preconditions" "SIOOBE_FORMATTER" "Ljava/util/function/BiFunction;" fm) (h_fm : fm.isRef = true) (hj0 : ¬ p1 < (0 : Int32)) (hj1 : p1 < p2) :
    MetFree l mn_2 (head1 (Jvm.Cond.code mn_2 jdk_42_method_155_code 2 none :: ws) ({ frames := 1, cells := 0, slots := 0, locals := 14 } : Room)) (fun a U => a = #[(.int p1), (.int p2)] ∧ Z.Warmed39 U.vm ∧ U.heap = h0) (fun _ _ _ _ _ => True) (fun _ U o U' => ∃ v L, o = .returned v ∧ Q14 Z p1 p2 fm h0 v U'.heap L ∧ FrameEnd U o U' L ({ frames := 1, cells := 0, slots := 0, locals := 14 } : Room).cells ({ frames := 1, cells := 0, slots := 0, locals := 14 } : Room).slots) := by
  rcases ref_cases h_fm with rfl | ⟨fa, rfl⟩
  · exact rm14_n l Z a0 hw ws p1 p2 h0 n0 O0 S_F hj0 hj1
  · exact rm14_r l Z a0 hw ws p1 p2 fa h0 n0 O0 S_F hj0 hj1
theorem d13_0 : decode jdk_43_method_2_code 0 = .ok (.iload_n 1, 1) := by decide +kernel
theorem d13_1 : decode jdk_43_method_2_code 1 = .ok (.aload_n 0, 1) := by decide +kernel
theorem d13_2 : decode jdk_43_method_2_code 2 = .ok (.arraylength, 1) := by decide +kernel
theorem d13_3 : decode jdk_43_method_2_code 3 = .ok (.invokestatic 9, 3) := by decide +kernel
theorem d13_6 : decode jdk_43_method_2_code 6 = .ok (.aload_n 0, 1) := by decide +kernel
theorem d13_7 : decode jdk_43_method_2_code 7 = .ok (.iload_n 1, 1) := by decide +kernel
theorem d13_8 : decode jdk_43_method_2_code 8 = .ok (.baload, 1) := by decide +kernel
theorem d13_9 : decode jdk_43_method_2_code 9 = .ok (.sipush 255, 3) := by decide +kernel
theorem d13_12 : decode jdk_43_method_2_code 12 = .ok (.iand, 1) := by decide +kernel
theorem d13_13 : decode jdk_43_method_2_code 13 = .ok (.i2c, 1) := by decide +kernel
theorem d13_14 : decode jdk_43_method_2_code 14 = .ok (.ireturn, 1) := by decide +kernel
theorem pn_2 : plainName "java/lang/StringLatin1" = true := by first | (simp [plainName, overriddenIn]; done) | decide +kernel
theorem ef_13 (m : MethodId) (x0 : Addr) (x1 : Int32) : entryFrame m #[(.ref x0), (.int x1)] 2 = mkF m 0 #[.val (.ref x0), .val (.int x1)] [] := by first | (simp [entryFrame, mkF, argsToLocals, Value.category]; done) | rfl
def Q13 (Z : State) (a1 : Addr) (p2 : Int32) (kd : ClassId) (z : Int32) (B : List Int32) (fm : Value) (h0 : Heap) (v : Option Value) (h : Heap) (L : List Loc) : Prop := v = some (.int (own_chr (B.getD p2.toNatClampNeg 0))) ∧ L = [] ∧ h = h0
theorem rm13 (l : Launch) (Z : State) (a0 : Array Value) (hw : ∀ d ∈ tables_1, d.before a0 Z = true) (ws : List Jvm.Cond) (a1 : Addr) (p2 : Int32) (kd : ClassId) (z : Int32) (B : List Int32) (fm : Value) (h0 : Heap) (n0 : Nat) (O0 : Old Z n0 h0) (V_b : Arv Z h0 a1 kd .byte z (own_bs B) (.int (0 : Int32))) (hj0 : ¬ p2 < (0 : Int32)) (hj1 : p2 < z) (S_F : Sta Z Z.heap "jdk/internal/util/Preconditions" "SIOOBE_FORMATTER" "Ljava/util/function/BiFunction;" fm) (h_fm : fm.isRef = true) :
    MetFree l mn_3 (head1 (Jvm.Cond.code mn_3 jdk_43_method_2_code 2 (some .char) :: ws) ({ frames := 2, cells := 0, slots := 0, locals := 27 } : Room)) (fun a U => a = #[(.ref a1), (.int p2)] ∧ Z.Warmed39 U.vm ∧ U.heap = h0) (fun _ _ _ _ _ => True) (fun _ U o U' => ∃ v L, o = .returned v ∧ Q13 Z a1 p2 kd z B fm h0 v U'.heap L ∧ FrameEnd U o U' L ({ frames := 2, cells := 0, slots := 0, locals := 27 } : Room).cells ({ frames := 2, cells := 0, slots := 0, locals := 27 } : Room).slots) := by
  refine MetFree.of_bodySF (plainFor_of_name pn_2) hisR ?_
  intro p e s m args below meth c s₁ Bd hml0 hP hK
  obtain ⟨rfl, hZ, hh⟩ := hP
  have hx := Bd.exec
  have hby := Bd.bytes
  have hml : c.maxLocals = 2 := hml0
  have hown : s.vm.findClass "java/lang/StringLatin1" = some m.cls := findClass_of_methodNamed Bd.named
  have hnm := (name_of_methodNamed Bd.named Bd.method).1
  have X0 : Stand p l e ({ frames := 2, cells := 0, slots := 0, locals := 27 } : Room) s m #[(.ref a1), (.int p2)] below meth c s₁ [] 0 0 := Stand.of_body Bd
  have e0 : s₁.heap = h0 := by rw [← hh, Bd.state]; rfl
  have pre0 : ∀ t, Steps p.tables e below (s₁.setTop (mkF m 0 #[.val (.ref a1), .val (.int p2)] [])) t → Steps p.tables e below (s₁.setTop (entryFrame m #[(.ref a1), (.int p2)] 2)) t := fun t k => castTop (ef_13 m a1 p2) k
  obtain ⟨cl1, Ar1, q1, S1, M1, H1, G1⟩ := id V_b
  obtain ⟨_, _, ⟨T2, L2, k2, n2⟩, -, X2, ⟨Lc2, hQ2, l2, y2, z2⟩, st2⟩ := Jvm.LawKit.callS X0 hx (y := mn_2) hown (mvT hZ (ww hw 86 rfl)) (mvT hZ (ww hw 87 rfl)) (mvT hZ (ww hw 52 rfl)) (mvT hZ (ww hw 88 rfl)) (by decide) (backOf (W := 0) (rm14 l Z a0 hw [] p2 z fm h0 n0 O0 S_F h_fm hj0 hj1) hZ (ww hw 88 rfl) (ww hw 52 rfl) (by decide) (by decide)) (g := (mkF m 3 #[vR a1, vI p2] [iI z, iI p2])) rfl (by rw [hml]; rfl) (argsL := [(.int p2), (.int z)]) (rest := []) (lenOf pd_1 rfl) rfl (wz rfl) (hb hby d13_3) (fun _ _ => ⟨rfl, e0, (by decide : 0 + 0 ≤ _), (by decide : 0 + 0 ≤ _)⟩)
  dsimp only [Pt.U, Pt.locs, Pt.cells, Pt.slots] at X2 l2 y2 z2 st2 hQ2
  subst l2 y2 z2
  obtain ⟨rfl, rfl, e2⟩ := hQ2
  try rw [List.append_nil] at X2
  have hin3 : ¬ (p2 < 0 ∨ cl1.slots.size ≤ (p2).toNatClampNeg) := inb_of S1 ⟨hj0, hj1⟩
  have hat4 : cl1.slots[(p2).toNatClampNeg]? = some (.int (B.getD p2.toNatClampNeg 0)) := Has.at H1 hin3 (own_bsget B _)
  obtain ⟨fs, hr, hrun, hended, hW, hsame⟩ := X2.leave (v := some (.int (nar .char ((B.getD p2.toNatClampNeg 0) &&& (255 : Int32)).toUInt32.toUInt16.toUInt32.toInt32))) (fun h => by rw [Bd.returns] at h; cases h)
  refine ⟨_, _, pre0 _ ?_, hrun, hended, _, _, rfl, ?_, ⟨_, rfl⟩, hW, hsame.mono (by decide) (by decide)⟩
  · show SA s₁ m 0 #[vR a1, vI p2] []
    refine XS.iloadN X0.here hx rfl (hb hby d13_0) rfl ?_
    show SA s₁ m 1 #[vR a1, vI p2] [iI p2]
    refine XS.aloadN X0.here hx rfl (hb hby d13_1) rfl rfl ?_
    show SA s₁ m 2 #[vR a1, vI p2] [iR a1, iI p2]
    refine X0.arraylength hx (by rw [e0]; exact Ar1.1) (State.isArrayOf_alike hZ.alike Ar1.2.1) (g := (mkF m 2 #[vR a1, vI p2] [iR a1, iI p2])) rfl rfl (hb hby d13_2) _ ?_
    rw [len_of S1 M1]
    show SA s₁ m 3 #[vR a1, vI p2] [iI z, iI p2]
    refine st2 _ ?_
    show SA T2 m 6 #[vR a1, vI p2] []
    refine XS.aloadN X2.here hx rfl (hb hby d13_6) rfl rfl ?_
    show SA T2 m 7 #[vR a1, vI p2] [iR a1]
    refine XS.iloadN X2.here hx rfl (hb hby d13_7) rfl ?_
    show SA T2 m 8 #[vR a1, vI p2] [iI p2, iR a1]
    refine X2.baloadBytes hx (j := p2) (v := (.int (B.getD p2.toNatClampNeg 0))) (by rw [e2]; exact Ar1.1) (State.isArrayOf_alike hZ.alike Ar1.2.1) Ar1.2.2 hin3 hat4 (g := (mkF m 8 #[vR a1, vI p2] [iI p2, iR a1])) rfl rfl (hb hby d13_8) _ ?_
    show SA T2 m 9 #[vR a1, vI p2] [iI (B.getD p2.toNatClampNeg 0)]
    refine XS.sipush X2.here hx rfl (hb hby d13_9) ?_
    show SA T2 m 12 #[vR a1, vI p2] [iI 255, iI (B.getD p2.toNatClampNeg 0)]
    refine XS.iand X2.here hx rfl (hb hby d13_12) rfl ?_
    show SA T2 m 13 #[vR a1, vI p2] [iI ((B.getD p2.toNatClampNeg 0) &&& (255 : Int32))]
    refine XS.i2c X2.here hx rfl (hb hby d13_13) rfl ?_
    show Steps _ _ _ (T2.setTop (mkF m 14 #[vR a1, vI p2] [iI ((B.getD p2.toNatClampNeg 0) &&& (255 : Int32)).toUInt32.toUInt16.toUInt32.toInt32])) _
    exact retN X2 hx (t := .char) Bd.returns (by simp) (hb hby d13_14) hr
  · show Q13 Z a1 p2 kd z B fm h0 _ T2.heap _
    rw [e2]
    exact ⟨rfl, rfl, rfl⟩
theorem d11_0 : decode jdk_42_method_56_code 0 = .ok (.aload_n 0, 1) := by decide +kernel
theorem d11_1 : decode jdk_42_method_56_code 1 = .ok (.invokevirtual 492, 3) := by decide +kernel
theorem d11_4 : decode jdk_42_method_56_code 4 = .ok (.ifCond .eq 12, 3) := by decide +kernel
theorem d11_7 : decode jdk_42_method_56_code 7 = .ok (.aload_n 0, 1) := by decide +kernel
theorem d11_8 : decode jdk_42_method_56_code 8 = .ok (.getfield 9, 3) := by decide +kernel
theorem d11_11 : decode jdk_42_method_56_code 11 = .ok (.iload_n 1, 1) := by decide +kernel
theorem d11_12 : decode jdk_42_method_56_code 12 = .ok (.invokestatic 495, 3) := by decide +kernel
theorem d11_15 : decode jdk_42_method_56_code 15 = .ok (.ireturn, 1) := by decide +kernel
theorem ef_11 (m : MethodId) (x0 : Addr) (x1 : Int32) : entryFrame m #[(.ref x0), (.int x1)] 2 = mkF m 0 #[.val (.ref x0), .val (.int x1)] [] := by first | (simp [entryFrame, mkF, argsToLocals, Value.category]; done) | rfl
def Q11 (Z : State) (a1 : Addr) (p2 : Int32) (d : Addr) (kd : ClassId) (z : Int32) (B : List Int32) (cs : Int32) (fm : Value) (h0 : Heap) (v : Option Value) (h : Heap) (L : List Loc) : Prop := v = some (.int (own_chr (B.getD p2.toNatClampNeg 0))) ∧ L = [] ∧ h = h0
theorem rm11 (l : Launch) (Z : State) (a0 : Array Value) (hw : ∀ d ∈ tables_1, d.before a0 Z = true) (ws : List Jvm.Cond) (a1 : Addr) (p2 : Int32) (d : Addr) (kd : ClassId) (z : Int32) (B : List Int32) (cs : Int32) (fm : Value) (h0 : Heap) (n0 : Nat) (O0 : Old Z n0 h0) (E_a1 : Exa Z h0 a1 "java/lang/String") (Fc_a1 : Fld Z h0 a1 "java/lang/String" "coder" "B" (.int (0 : Int32))) (Fv_a1 : Fld Z h0 a1 "java/lang/String" "value" "[B" (.ref d)) (V_d : Arv Z h0 d kd .byte z (own_bs B) (.int (0 : Int32))) (hz : ¬ z < 0) (hB : z.toNatClampNeg = B.length) (hj0 : ¬ p2 < (0 : Int32)) (hj1 : p2 < z) (S_CS : Sta Z Z.heap "java/lang/String" "COMPACT_STRINGS" "Z" (.int cs)) (h_cs : ¬ cs = (0 : Int32)) (S_F : Sta Z Z.heap "jdk/internal/util/Preconditions" "SIOOBE_FORMATTER" "Ljava/util/function/BiFunction;" fm) (h_fm : fm.isRef = true) :
    MetFree l mn_4 (head1 (Jvm.Cond.code mn_4 jdk_42_method_56_code 2 (some .char) :: ws) ({ frames := 3, cells := 0, slots := 0, locals := 40 } : Room)) (fun a U => a = #[(.ref a1), (.int p2)] ∧ Z.Warmed39 U.vm ∧ U.heap = h0) (fun _ _ _ _ _ => True) (fun _ U o U' => ∃ v L, o = .returned v ∧ Q11 Z a1 p2 d kd z B cs fm h0 v U'.heap L ∧ FrameEnd U o U' L ({ frames := 3, cells := 0, slots := 0, locals := 40 } : Room).cells ({ frames := 3, cells := 0, slots := 0, locals := 40 } : Room).slots) := by
  refine MetFree.of_bodySF (plainFor_of_name pn_0) hisR ?_
  intro p e s m args below meth c s₁ Bd hml0 hP hK
  obtain ⟨rfl, hZ, hh⟩ := hP
  have hx := Bd.exec
  have hby := Bd.bytes
  have hml : c.maxLocals = 2 := hml0
  have hown : s.vm.findClass "java/lang/String" = some m.cls := findClass_of_methodNamed Bd.named
  have hnm := (name_of_methodNamed Bd.named Bd.method).1
  have X0 : Stand p l e ({ frames := 3, cells := 0, slots := 0, locals := 40 } : Room) s m #[(.ref a1), (.int p2)] below meth c s₁ [] 0 0 := Stand.of_body Bd
  have e0 : s₁.heap = h0 := by rw [← hh, Bd.state]; rfl
  have pre0 : ∀ t, Steps p.tables e below (s₁.setTop (mkF m 0 #[.val (.ref a1), .val (.int p2)] [])) t → Steps p.tables e below (s₁.setTop (entryFrame m #[(.ref a1), (.int p2)] 2)) t := fun t k => castTop (ef_11 m a1 p2) k
  obtain ⟨cq1, kq1, q1a, q1b, q1c⟩ := isOf hZ e0 E_a1
  obtain ⟨_, _, ⟨T1, L1, k1, n1⟩, -, X1, ⟨Lc1, hQ1, l1, y1, z1⟩, st1⟩ := X0.virtualBack hx (y := mn_0) (z := mn_0) hown (mvT hZ (ww hw 74 rfl)) (mvT hZ (ww hw 75 rfl)) (notFace_of_selects (args := #[]) (mvT hZ (ww hw 77 rfl))) (mvT hZ (ww hw 77 rfl)) (mvT hZ (ww hw 76 rfl)) (by decide) (backOf (W := 0) (rm12 l Z a0 hw [] a1 cs h0 n0 O0 Fc_a1 S_CS h_cs) hZ (ww hw 78 rfl) (ww hw 52 rfl) (by decide) (by decide)) q1a q1c (g := (mkF m 1 #[vR a1, vI p2] [iR a1])) rfl (by rw [hml]; rfl) (Steps.refl _) (argsL := []) (rest := []) (lenOf pd_2 rfl) rfl (wz rfl) (hb hby d11_1) (fun _ _ => ⟨rfl, e0, (by decide : 0 + 0 ≤ _), (by decide : 0 + 0 ≤ _)⟩)
  dsimp only [Pt.U, Pt.locs, Pt.cells, Pt.slots] at X1 l1 y1 z1 st1 hQ1
  subst l1 y1 z1
  obtain ⟨rfl, rfl, e1⟩ := hQ1
  try rw [List.append_nil] at X1
  obtain ⟨T2, X2, e2, st2⟩ := getF X1 hx hZ hown (host := "") (Or.inl (ww hw 81 rfl)) Via.refl e1 Fv_a1 (g := (mkF m 8 #[vR a1, vI p2] [iR a1])) rfl rfl (hb hby d11_8)
  obtain ⟨_, _, ⟨T3, L3, k3, n3⟩, -, X3, ⟨Lc3, hQ3, l3, y3, z3⟩, st3⟩ := Jvm.LawKit.callS X2 hx (y := mn_3) hown (mvT hZ (ww hw 82 rfl)) (mvT hZ (ww hw 83 rfl)) (mvT hZ (ww hw 84 rfl)) (mvT hZ (ww hw 85 rfl)) (by decide) (backOf (W := 0) (rm13 l Z a0 hw [] d p2 kd z B fm h0 n0 O0 V_d hj0 hj1 S_F h_fm) hZ (ww hw 85 rfl) (ww hw 84 rfl) (by decide) (by decide)) (g := (mkF m 12 #[vR a1, vI p2] [iI p2, iR d])) rfl (by rw [hml]; rfl) (argsL := [(.ref d), (.int p2)]) (rest := []) (lenOf pd_3 rfl) rfl (wz rfl) (hb hby d11_12) (fun _ _ => ⟨rfl, e2, (by decide : 0 + 0 ≤ _), (by decide : 0 + 0 ≤ _)⟩)
  dsimp only [Pt.U, Pt.locs, Pt.cells, Pt.slots] at X3 l3 y3 z3 st3 hQ3
  subst l3 y3 z3
  obtain ⟨rfl, rfl, e3⟩ := hQ3
  try rw [List.append_nil] at X3
  obtain ⟨fs, hr, hrun, hended, hW, hsame⟩ := X3.leave (v := some (.int (nar .char (own_chr (B.getD p2.toNatClampNeg 0))))) (fun h => by rw [Bd.returns] at h; cases h)
  refine ⟨_, _, pre0 _ ?_, hrun, hended, _, _, rfl, ?_, ⟨_, rfl⟩, hW, hsame.mono (by decide) (by decide)⟩
  · show SA s₁ m 0 #[vR a1, vI p2] []
    refine XS.aloadN X0.here hx rfl (hb hby d11_0) rfl rfl ?_
    show SA s₁ m 1 #[vR a1, vI p2] [iR a1]
    refine st1.trans ?_
    show SA T1 m 4 #[vR a1, vI p2] [iI 1]
    refine XS.ifNo X1.here hx rfl (hb hby d11_4) rfl ((if0 _ _).trans (feq (by decide : ¬ ((1 : Int32) = (0 : Int32)))).1) ?_
    show SA T1 m 7 #[vR a1, vI p2] []
    refine XS.aloadN X1.here hx rfl (hb hby d11_7) rfl rfl ?_
    show SA T1 m 8 #[vR a1, vI p2] [iR a1]
    refine st2 _ ?_
    show SA T2 m 11 #[vR a1, vI p2] [iR d]
    refine XS.iloadN X2.here hx rfl (hb hby d11_11) rfl ?_
    show SA T2 m 12 #[vR a1, vI p2] [iI p2, iR d]
    refine st3 _ ?_
    show Steps _ _ _ (T3.setTop (mkF m 15 #[vR a1, vI p2] [iI (own_chr (B.getD p2.toNatClampNeg 0))])) _
    exact retN X3 hx (t := .char) Bd.returns (by simp) (hb hby d11_15) hr
  · show Q11 Z a1 p2 d kd z B cs fm h0 _ T3.heap _
    rw [e3]
    exact ⟨by rw [own_chr2], rfl, rfl⟩
def Q11_v (Z : State) (a1 : Addr) (p2 : Int32) (d : Addr) (kd : ClassId) (z : Int32) (B : List Int32) (r : Int32) (cs : Int32) (fm : Value) (h0 : Heap) (v : Option Value) (h : Heap) (L : List Loc) : Prop := v = some (.int r) ∧ L = [] ∧ h = h0
theorem rm11_v (l : Launch) (Z : State) (a0 : Array Value) (hw : ∀ d ∈ tables_1, d.before a0 Z = true) (ws : List Jvm.Cond) (a1 : Addr) (p2 : Int32) (d : Addr) (kd : ClassId) (z : Int32) (B : List Int32) (r : Int32) (cs : Int32) (fm : Value) (h0 : Heap) (n0 : Nat) (O0 : Old Z n0 h0) (E_a1 : Exa Z h0 a1 "java/lang/String") (Fc_a1 : Fld Z h0 a1 "java/lang/String" "coder" "B" (.int (0 : Int32))) (Fv_a1 : Fld Z h0 a1 "java/lang/String" "value" "[B" (.ref d)) (V_d : Arv Z h0 d kd .byte z (own_bs B) (.int (0 : Int32))) (hz : ¬ z < 0) (hB : z.toNatClampNeg = B.length) (hj0 : ¬ p2 < (0 : Int32)) (hj1 : p2 < z) (hr : own_chr (B.getD p2.toNatClampNeg 0) = r) (S_CS : Sta Z Z.heap "java/lang/String" "COMPACT_STRINGS" "Z" (.int cs)) (h_cs : ¬ cs = (0 : Int32)) (S_F : Sta Z Z.heap "jdk/internal/util/Preconditions" "SIOOBE_FORMATTER" "Ljava/util/function/BiFunction;" fm) (h_fm : fm.isRef = true) :
    MetFree l mn_4 (head1 (Jvm.Cond.code mn_4 jdk_42_method_56_code 2 (some .char) :: ws) ({ frames := 3, cells := 0, slots := 0, locals := 40 } : Room)) (fun a U => a = #[(.ref a1), (.int p2)] ∧ Z.Warmed39 U.vm ∧ U.heap = h0) (fun _ _ _ _ _ => True) (fun _ U o U' => ∃ v L, o = .returned v ∧ Q11_v Z a1 p2 d kd z B r cs fm h0 v U'.heap L ∧ FrameEnd U o U' L ({ frames := 3, cells := 0, slots := 0, locals := 40 } : Room).cells ({ frames := 3, cells := 0, slots := 0, locals := 40 } : Room).slots) := by
  subst hr
  exact rm11 l Z a0 hw ws a1 p2 d kd z B cs fm h0 n0 O0 E_a1 Fc_a1 Fv_a1 V_d hz hB hj0 hj1 S_CS h_cs S_F h_fm
theorem own_gd {B : List Int32} {k r c : Int32} {i : Nat} (hk : k.toNatClampNeg = i) (hb : B.getD i 0 = c) (hc : own_chr c = r) : own_chr (B.getD k.toNatClampNeg 0) = r := by rw [hk, hb]; exact hc
abbrev own_by (v : Int32) : Int32 := nar .byte v.toInt8.toInt32
def own_PCL : List Int32 := [15, 0, 12, 11, 0, 1, 2, 3, 4, 5, 6, 7, 8, 9, 10, 0, 0, 0, 0, 0, 0, 0, 0, 0, 0, 0, 14, 0, 0, 0, 0, 0, 0, 0, 0, 0, 0, 0, 0, 0, 0, 0, 0, 0, 0, 0, 0, 0, 0, 0, 0, 0, 0, 0, 0, 0, 0, 0, 13]
def own_cd (x : Int32) : Int32 := own_PCL.getD (x - (43 : Int32)).toNatClampNeg 0
def own_chars : List Int32 := [48, 49, 50, 51, 52, 53, 54, 55, 56, 57, 46, 45, 101, 69, 43]
def own_CHL : List Int32 := [48, 49, 50, 51, 52, 53, 54, 55, 56, 57, 46, 45, 101, 69, 43]
theorem own_okc : ∀ x ∈ own_chars, ¬ (x - (43 : Int32)) < (0 : Int32) ∧ (x - (43 : Int32)) < (59 : Int32) ∧ (1 ≤ (own_cd x).toInt ∧ (own_cd x).toInt ≤ 15) ∧ ¬ ((own_cd x) - (1 : Int32)) < (0 : Int32) ∧ ((own_cd x) - (1 : Int32)) < (15 : Int32) ∧ own_chr (own_CHL.getD ((own_cd x) - (1 : Int32)).toNatClampNeg 0) = x ∧ ¬ (255 : Int32) < x ∧ own_chr (own_by x) = x ∧ nar .char x = x ∧ (own_cd x).toInt64.toBitVec.toNat = (own_cd x).toInt.toNat := by decide +kernel
def own_sub (CL : List Int32) (f n : Int32) : List Int32 := (CL.drop f.toNatClampNeg).take n.toNatClampNeg
def own_pkL : List Int32 → Int64
  | [] => 0
  | x :: xs => (own_pkL xs <<< ((4 : Int32) &&& 0x3f).toInt64) ||| (own_cd x).toInt64
def own_pkN : List Int32 → Nat
  | [] => 0
  | x :: xs => 16 * own_pkN xs + (own_cd x).toInt.toNat
theorem own_pkE : ∀ (X : List Int32), (∀ x ∈ X, x ∈ own_chars) → X.length ≤ 16 → (own_pkL X).toBitVec.toNat = own_pkN X ∧ own_pkN X < 16 ^ X.length
  | [], _, _ => ⟨rfl, by decide⟩
  | x :: xs, hok, hl => by
    have hl' : xs.length + 1 ≤ 16 := hl
    obtain ⟨h1, h2⟩ := own_pkE xs (fun y hy => hok y (List.mem_cons_of_mem _ hy)) (by omega)
    have ho := own_okc x (hok x List.mem_cons_self)
    obtain ⟨-, -, hc, -, -, -, -, -, -, hcn⟩ := ho
    have hp : (16 : Nat) ^ (xs.length + 1) = 16 ^ xs.length * 16 := Nat.pow_succ 16 xs.length
    have hb : (16 : Nat) ^ xs.length ≤ 16 ^ 15 := Nat.pow_le_pow_right (by decide) (by omega)
    have hb' : (16 : Nat) ^ 15 = 1152921504606846976 := by decide
    refine ⟨?_, ?_⟩
    · show ((own_pkL xs <<< ((4 : Int32) &&& 0x3f).toInt64) ||| (own_cd x).toInt64).toBitVec.toNat = 16 * own_pkN xs + (own_cd x).toInt.toNat
      have e4 : ((4 : Int32) &&& 0x3f).toInt64 = 4 := by decide
      rw [e4]
      have es : (own_pkL xs <<< (4 : Int64)).toBitVec = (own_pkL xs).toBitVec <<< 4 := by rw [Int64.toBitVec_shiftLeft]; rfl
      have eo : ((own_pkL xs <<< (4 : Int64)) ||| (own_cd x).toInt64).toBitVec.toNat = (own_pkL xs <<< (4 : Int64)).toBitVec.toNat ||| (own_cd x).toInt64.toBitVec.toNat := by simp
      rw [eo, es, hcn, BitVec.toNat_shiftLeft, h1]
      have hm : own_pkN xs <<< 4 % 2 ^ 64 = own_pkN xs <<< 4 := Nat.mod_eq_of_lt (by rw [Nat.shiftLeft_eq]; omega)
      rw [hm, ← Nat.shiftLeft_add_eq_or_of_lt (by omega), Nat.shiftLeft_eq]
      omega
    · show 16 * own_pkN xs + (own_cd x).toInt.toNat < 16 ^ (xs.length + 1)
      omega
theorem own_pkNZ {x : Int32} {xs : List Int32} (hok : ∀ y ∈ x :: xs, y ∈ own_chars) (hl : (x :: xs).length ≤ 16) : ¬ own_pkL (x :: xs) = (0 : Int64) := fun q => by
  have h := (own_pkE _ hok hl).1
  rw [q] at h
  have hc := (own_okc x (hok x List.mem_cons_self)).2.2.1
  have h2 : own_pkN (x :: xs) = 16 * own_pkN xs + (own_cd x).toInt.toNat := rfl
  have h3 : (0 : Int64).toBitVec.toNat = 0 := rfl
  omega
theorem own_pk15 {x : Int32} {xs : List Int32} (hok : ∀ y ∈ x :: xs, y ∈ own_chars) (hl : (x :: xs).length ≤ 16) : (own_pkL (x :: xs)).toInt32 &&& (15 : Int32) = own_cd x := by
  have h := (own_pkE _ hok hl).1
  have hc := (own_okc x (hok x List.mem_cons_self)).2.2.1
  have h2 : own_pkN (x :: xs) = 16 * own_pkN xs + (own_cd x).toInt.toNat := rfl
  have e : ((own_pkL (x :: xs)).toInt32 &&& (15 : Int32)).toBitVec.toNat = own_pkN (x :: xs) % 4294967296 &&& 15 := by
    rw [← h]
    show (BitVec.signExtend 32 (own_pkL (x :: xs)).toBitVec &&& (15 : Int32).toBitVec).toNat = _
    rw [BitVec.signExtend_eq_setWidth_of_le _ (by decide), BitVec.toNat_and, BitVec.toNat_setWidth]; rfl
  have e2 : own_pkN (x :: xs) % 4294967296 &&& 15 = own_pkN (x :: xs) % 4294967296 % 16 := Nat.and_two_pow_sub_one_eq_mod _ 4
  have r := c_and ((own_pkL (x :: xs)).toInt32) 15 (by decide)
  have e15 : (15 : Int32).toInt = 15 := rfl
  rw [e15] at r
  apply Int32.toInt_inj.mp
  have e3 : ((own_pkL (x :: xs)).toInt32 &&& (15 : Int32)).toInt = (((own_pkL (x :: xs)).toInt32 &&& (15 : Int32)).toBitVec.toNat : Int) := by
    show ((own_pkL (x :: xs)).toInt32 &&& (15 : Int32)).toBitVec.toInt = _
    rw [BitVec.toInt_eq_toNat_cond]
    have r' : 0 ≤ ((own_pkL (x :: xs)).toInt32 &&& (15 : Int32)).toBitVec.toInt := r.1
    rw [BitVec.toInt_eq_toNat_cond] at r'
    split at r' <;> split <;> omega
  rw [e3, e, e2]
  omega
theorem own_pkSh {x : Int32} {xs : List Int32} (hok : ∀ y ∈ x :: xs, y ∈ own_chars) (hl : (x :: xs).length ≤ 16) : ((own_pkL (x :: xs)).toUInt64 >>> ((4 : Int32) &&& 0x3f).toInt64.toUInt64).toInt64 = own_pkL xs := by
  have h := (own_pkE _ hok hl).1
  have hl' : xs.length + 1 ≤ 16 := hl
  obtain ⟨h1, h2⟩ := own_pkE xs (fun y hy => hok y (List.mem_cons_of_mem _ hy)) (by omega)
  have hc := (own_okc x (hok x List.mem_cons_self)).2.2.1
  have hN : own_pkN (x :: xs) = 16 * own_pkN xs + (own_cd x).toInt.toNat := rfl
  have hb : (16 : Nat) ^ xs.length ≤ 16 ^ 15 := Nat.pow_le_pow_right (by decide) (by omega)
  have hb' : (16 : Nat) ^ 15 = 1152921504606846976 := by decide
  have q := c_lushr (own_pkL (x :: xs)) 4 4 (by decide) (by decide)
  have tN : ∀ z : Int64, z.toInt % 18446744073709551616 = (z.toBitVec.toNat : Int) := fun z => by
    show z.toBitVec.toInt % 18446744073709551616 = _
    rw [BitVec.toInt_eq_toNat_cond]
    have := z.toBitVec.isLt
    split <;> omega
  apply Int64.toInt_inj.mp
  rw [q, tN, h]
  have e1 : (own_pkL xs).toInt = (own_pkN xs : Int) := by
    show (own_pkL xs).toBitVec.toInt = _
    rw [BitVec.toInt_eq_toNat_cond, h1]
    split <;> omega
  rw [e1]
  have e2 : ((2 ^ 4 : Nat) : Int) = 16 := rfl
  rw [e2]
  omega
theorem own_neg {i : Int32} (h : i.toInt < 0) : i < (0 : Int32) := by rw [Int32.lt_iff_toInt_lt]; exact h
theorem own_nneg {i : Int32} (h : 0 ≤ i.toInt) : ¬ i < (0 : Int32) := by rw [Int32.lt_iff_toInt_lt]; have e : (0 : Int32).toInt = 0 := rfl; omega
theorem own_tn {i : Int32} {n : Nat} (h : i.toInt = (n : Int)) : i.toNatClampNeg = n := by simp only [Int32.toNatClampNeg]; omega
theorem own_inbJ {f n i : Int32} {j : Nat} (hf : 0 ≤ f.toInt ∧ f.toInt ≤ 2) (hl : 1 ≤ n.toInt ∧ n.toInt ≤ 18) (hi : i.toInt = (j : Int)) (hj : j < n.toNatClampNeg) : ¬ (f + i) < (0 : Int32) ∧ (f + i) < (20 : Int32) ∧ (f + i).toNatClampNeg = f.toNatClampNeg + j := by
  have h := c_iadd f i
  have r := rng32 (f + i)
  have e0 : (0 : Int32).toInt = 0 := rfl
  have e20 : (20 : Int32).toInt = 20 := rfl
  simp only [Int32.toNatClampNeg] at *
  rw [Int32.lt_iff_toInt_lt, Int32.lt_iff_toInt_lt, e0, e20]
  omega
theorem own_getok {CL : List Int32} (hCL : CL.length = 20) (hok : ∀ x ∈ CL, x ∈ own_chars) {i : Nat} (hi : i < 20) : CL.getD i 0 ∈ own_chars := by
  rw [List.getD_eq_getElem?_getD, List.getElem?_eq_getElem (by omega)]
  exact hok _ (List.getElem_mem _)
theorem own_pkS {CL : List Int32} {f n : Int32} {j : Nat} (hCL : CL.length = 20) (hf : 0 ≤ f.toInt ∧ f.toInt ≤ 2) (hl : 1 ≤ n.toInt ∧ n.toInt ≤ 18) (hj : j < n.toNatClampNeg) : (own_sub CL f n).drop j = CL.getD (f.toNatClampNeg + j) 0 :: (own_sub CL f n).drop (j + 1) := by
  have hlen : (own_sub CL f n).length = n.toNatClampNeg := by
    simp only [own_sub, List.length_take, List.length_drop, hCL, Int32.toNatClampNeg]; omega
  have hb : f.toNatClampNeg + j < CL.length := by rw [hCL]; simp only [Int32.toNatClampNeg] at *; omega
  rw [List.drop_eq_getElem_cons (by rw [hlen]; exact hj)]
  congr 1
  rw [List.getD_eq_getElem?_getD, List.getElem?_eq_getElem hb]
  simp [own_sub]
theorem own_subok {CL : List Int32} (hok : ∀ x ∈ CL, x ∈ own_chars) (f n : Int32) : ∀ x ∈ own_sub CL f n, x ∈ own_chars := fun x hx => hok x (List.mem_of_mem_drop (List.mem_of_mem_take hx))
theorem own_sublen {CL : List Int32} {f n : Int32} (hCL : CL.length = 20) (hf : 0 ≤ f.toInt ∧ f.toInt ≤ 2) (hl : 1 ≤ n.toInt ∧ n.toInt ≤ 18) : (own_sub CL f n).length = n.toNatClampNeg := by
  simp only [own_sub, List.length_take, List.length_drop, hCL, Int32.toNatClampNeg]; omega
theorem own_dec {i : Int32} {j : Nat} (h : i.toInt = ((j + 1 : Nat) : Int) - 1) (hj : j < 100) : (i + (-1 : Int32)).toInt = (j : Int) - 1 := by
  have q := c_iadd i (-1)
  have r := rng32 (i + (-1 : Int32))
  have e : (-1 : Int32).toInt = -1 := rfl
  omega
theorem own_i0 {n : Int32} (hl : 1 ≤ n.toInt ∧ n.toInt ≤ 18) : (n - (1 : Int32)).toInt = (n.toNatClampNeg : Int) - 1 := by
  have q := c_isub n 1
  have r := rng32 (n - (1 : Int32))
  have e : (1 : Int32).toInt = 1 := rfl
  simp only [Int32.toNatClampNeg]
  omega

def own_QP (CL : List Int32) (p2 p3 : Int32) (h0 : Heap) (n0 : Nat) (v : Option Value) (h : Heap) (L : List Loc) : Prop := v = some (.long (own_pkL (own_sub CL p2 p3))) ∧ Fr n0 L ∧ Keep h0 h []
theorem d3_7 : decode prog_12_method_4_code 7 = .ok (.iload 5, 2) := by decide +kernel
theorem d3_9 : decode prog_12_method_4_code 9 = .ok (.ifCond .lt 28, 3) := by decide +kernel
theorem d3_12 : decode prog_12_method_4_code 12 = .ok (.lload_n 3, 1) := by decide +kernel
theorem d3_13 : decode prog_12_method_4_code 13 = .ok (.iconst 4, 1) := by decide +kernel
theorem d3_14 : decode prog_12_method_4_code 14 = .ok (.lshl, 1) := by decide +kernel
theorem d3_15 : decode prog_12_method_4_code 15 = .ok (.getstatic 41, 3) := by decide +kernel
theorem d3_18 : decode prog_12_method_4_code 18 = .ok (.aload_n 0, 1) := by decide +kernel
theorem d3_19 : decode prog_12_method_4_code 19 = .ok (.iload_n 1, 1) := by decide +kernel
theorem d3_20 : decode prog_12_method_4_code 20 = .ok (.iload 5, 2) := by decide +kernel
theorem d3_22 : decode prog_12_method_4_code 22 = .ok (.iadd, 1) := by decide +kernel
theorem d3_23 : decode prog_12_method_4_code 23 = .ok (.caload, 1) := by decide +kernel
theorem d3_24 : decode prog_12_method_4_code 24 = .ok (.bipush 43, 2) := by decide +kernel
theorem d3_26 : decode prog_12_method_4_code 26 = .ok (.isub, 1) := by decide +kernel
theorem d3_27 : decode prog_12_method_4_code 27 = .ok (.baload, 1) := by decide +kernel
theorem d3_28 : decode prog_12_method_4_code 28 = .ok (.i2l, 1) := by decide +kernel
theorem d3_29 : decode prog_12_method_4_code 29 = .ok (.lor, 1) := by decide +kernel
theorem d3_30 : decode prog_12_method_4_code 30 = .ok (.lstore_n 3, 1) := by decide +kernel
theorem d3_31 : decode prog_12_method_4_code 31 = .ok (.iinc 5 (-1), 3) := by decide +kernel
theorem d3_34 : decode prog_12_method_4_code 34 = .ok (.goto (-27), 3) := by decide +kernel
theorem d3_37 : decode prog_12_method_4_code 37 = .ok (.lload_n 3, 1) := by decide +kernel
theorem d3_38 : decode prog_12_method_4_code 38 = .ok (.lreturn, 1) := by decide +kernel
theorem own_pkloop (j : Nat) : ∀ {p : Program} {l : Launch} {e : Env} {s : State} {m : MethodId} {below : List Frame} {meth : Method} {c : Code} {T0 : State} {locs : List Loc} {Z : State} {a0 : Array Value} {h0 hT : Heap} {n0 : Nat} {a1 : Addr} {p2 : Int32} {p3 : Int32} {kc : ClassId} {CL : List Int32} {s_T : Addr} {cl : Cell} {acc : Int64} {i5 : Int32} (X0 : Stand p l e ({ frames := 0, cells := 0, slots := 0, locals := 0 } : Room) s m #[(.ref a1), (.int p2), (.int p3)] below meth c T0 locs 0 0) (hx : p.tables.exec = Jvm.exec) (hZ : Z.Warmed39 s.vm) (hw : ∀ d ∈ tables_1, d.before a0 Z = true) (hby : c.code = prog_12_method_4_code) (hml : c.maxLocals = 6) (hown : s.vm.findClass "com/example/plainjson/plainjson/JsonNumber" = some m.cls) (hret : meth.sig.returnType = some .long) (hlocks : meth.locks = false) (e0 : T0.heap = hT) (Kt0 : Keep h0 hT []) (N0 : Fr n0 locs) (Z0 : n0 ≤ h0.size) (O0 : Old Z n0 h0) (V_c : Arv Z hT a1 kc .char (20 : Int32) (own_bs CL) (.int (0 : Int32))) (hCL : CL.length = 20) (hok : ∀ x ∈ CL, x ∈ own_chars) (hf : 0 ≤ p2.toInt ∧ p2.toInt ≤ 2) (hl : 1 ≤ p3.toInt ∧ p3.toInt ≤ 18) (S_T : Sta Z Z.heap "com/example/plainjson/plainjson/JsonNumber" "PACK_CODES" "[B" (.ref s_T)) (TB : Tab Z Z.heap s_T cl .byte (59 : Int32)) (hTt : ∀ x ∈ own_chars, atv cl (x - (43 : Int32)) = own_cd x) (hi : i5.toInt = (j : Int) - 1) (hj : j ≤ p3.toNatClampNeg) (hacc : acc = own_pkL ((own_sub CL p2 p3).drop j)), ∃ s₂ o, Steps p.tables e below (T0.setTop (mkF m 7 #[vR a1, vI p2, vI p3, vJ acc, .second, vI i5] [])) s₂ ∧ s₂.status = .running ∧ Ended s₂ below o ∧ ∃ v L, o = .returned v ∧ own_QP CL p2 p3 h0 n0 v s₂.heap L ∧ FrameEnd s o s₂ L ({ frames := 0, cells := 0, slots := 0, locals := 0 } : Room).cells ({ frames := 0, cells := 0, slots := 0, locals := 0 } : Room).slots := by
  induction j with
  | zero =>
    intro p l e s m below meth c T0 locs Z a0 h0 hT n0 a1 p2 p3 kc CL s_T cl acc i5 X0 hx hZ hw hby hml hown hret hlocks e0 Kt0 N0 Z0 O0 V_c hCL hok hf hl S_T TB hTt hi hj hacc
    have hh1 : i5 < (0 : Int32) := (own_neg (by omega))
    obtain ⟨fs, hr, hrun, hended, hW, hsame⟩ := X0.leave (v := some (.long acc)) (fun h => by rw [hret] at h; cases h)
    refine ⟨_, _, ?_, hrun, hended, _, _, rfl, ?_, ⟨_, rfl⟩, hW, hsame.mono (by decide) (by decide)⟩
    · show SA T0 m 7 #[vR a1, vI p2, vI p3, vJ acc, .second, vI i5] []
      refine XS.iload X0.here hx rfl (hb hby d3_7) rfl ?_
      show SA T0 m 9 #[vR a1, vI p2, vI p3, vJ acc, .second, vI i5] [iI i5]
      refine XS.ifYes X0.here hx rfl (pc0 := 9) (pc' := 37) rfl (hb hby d3_9) rfl ((if0 _ _).trans (tlt hh1).1) (by decide) (by decide) ?_
      show SA T0 m 37 #[vR a1, vI p2, vI p3, vJ acc, .second, vI i5] []
      refine XS.lloadN X0.here hx rfl (hb hby d3_37) rfl ?_
      show Steps _ _ _ (T0.setTop (mkF m 38 #[vR a1, vI p2, vI p3, vJ acc, .second, vI i5] [iJ acc])) _
      exact X0.lreturnOut hx hret (hb hby d3_38) hr
    · show own_QP CL p2 p3 h0 n0 _ T0.heap _
      rw [e0]
      exact ⟨by subst hacc; rfl, N0, Kt0⟩
  | succ j ih =>
    intro p l e s m below meth c T0 locs Z a0 h0 hT n0 a1 p2 p3 kc CL s_T cl acc i5 X0 hx hZ hw hby hml hown hret hlocks e0 Kt0 N0 Z0 O0 V_c hCL hok hf hl S_T TB hTt hi hj hacc
    have hinb := own_inbJ hf hl (i := i5) (j := j) (by omega) (Nat.lt_of_succ_le hj)
    have hh1 : ¬ (i5 < (0 : Int32)) := (own_nneg (by omega))
    have Oh2 := O0.keep Kt0 all0
    have fo3 := S_T.ext Oh2.2
    obtain ⟨T4, X4, e4, st4⟩ := getS2 X0 hx hZ hown (host := "") (Or.inl (ww hw 16 rfl)) Via.refl e0 fo3 (g := (mkF m 15 #[vR a1, vI p2, vI p3, vJ acc, .second, vI i5] [iJ (acc <<< ((4 : Int32) &&& 0x3f).toInt64)])) rfl (hb hby d3_15)
    obtain ⟨cl5, Ar5, q5, S5, M5, H5, G5⟩ := id V_c
    have hin6 : ¬ ((p2 + i5) < 0 ∨ cl5.slots.size ≤ ((p2 + i5)).toNatClampNeg) := inb_of S5 ⟨hinb.1, hinb.2.1⟩
    have hat7 : cl5.slots[((p2 + i5)).toNatClampNeg]? = some (.int (CL.getD (p2 + i5).toNatClampNeg 0)) := Has.at H5 hin6 (own_bsget CL _)
    obtain ⟨xc, hxc⟩ : ∃ z : Int32, z = (CL.getD (p2 + i5).toNatClampNeg 0) := ⟨_, rfl⟩
    have hx_xc : xc ∈ own_chars := by rw [hxc, hinb.2.2]; exact own_getok hCL hok (by simp only [Int32.toNatClampNeg] at *; omega)
    have fo9 := TB.1.ext Oh2.2
    have hin10 : ¬ ((xc - (43 : Int32)) < 0 ∨ cl.slots.size ≤ ((xc - (43 : Int32))).toNatClampNeg) := inb_of TB.2.1 ⟨(own_okc _ hx_xc).1, (own_okc _ hx_xc).2.1⟩
    have hat11 : cl.slots[((xc - (43 : Int32))).toNatClampNeg]? = some (.int (own_cd xc)) := (TB.2.2.2 _ hin10).trans (by rw [hTt _ hx_xc])
    have pre12 : ∀ t, Steps p.tables e below (T4.setTop (mkF m 7 #[vR a1, vI p2, vI p3, vJ ((acc <<< ((4 : Int32) &&& 0x3f).toInt64) ||| (own_cd xc).toInt64), .second, vI (i5 + (-1 : Int32))] [])) t → Steps p.tables e below (T0.setTop (mkF m 7 #[vR a1, vI p2, vI p3, vJ acc, .second, vI i5] [])) t := by
      intro t kt
      show SA T0 m 7 #[vR a1, vI p2, vI p3, vJ acc, .second, vI i5] []
      refine XS.iload X0.here hx rfl (hb hby d3_7) rfl ?_
      show SA T0 m 9 #[vR a1, vI p2, vI p3, vJ acc, .second, vI i5] [iI i5]
      refine XS.ifNo X0.here hx rfl (hb hby d3_9) rfl ((if0 _ _).trans (flt hh1).1) ?_
      show SA T0 m 12 #[vR a1, vI p2, vI p3, vJ acc, .second, vI i5] []
      refine XS.lloadN X0.here hx rfl (hb hby d3_12) rfl ?_
      show SA T0 m 13 #[vR a1, vI p2, vI p3, vJ acc, .second, vI i5] [iJ acc]
      refine XS.iconst X0.here hx rfl (hb hby d3_13) ?_
      show SA T0 m 14 #[vR a1, vI p2, vI p3, vJ acc, .second, vI i5] [iI 4, iJ acc]
      refine XS.lshl X0.here hx rfl (hb hby d3_14) rfl ?_
      show SA T0 m 15 #[vR a1, vI p2, vI p3, vJ acc, .second, vI i5] [iJ (acc <<< ((4 : Int32) &&& 0x3f).toInt64)]
      refine st4 _ ?_
      show SA T4 m 18 #[vR a1, vI p2, vI p3, vJ acc, .second, vI i5] [iR s_T, iJ (acc <<< ((4 : Int32) &&& 0x3f).toInt64)]
      refine XS.aloadN X4.here hx rfl (hb hby d3_18) rfl rfl ?_
      show SA T4 m 19 #[vR a1, vI p2, vI p3, vJ acc, .second, vI i5] [iR a1, iR s_T, iJ (acc <<< ((4 : Int32) &&& 0x3f).toInt64)]
      refine XS.iloadN X4.here hx rfl (hb hby d3_19) rfl ?_
      show SA T4 m 20 #[vR a1, vI p2, vI p3, vJ acc, .second, vI i5] [iI p2, iR a1, iR s_T, iJ (acc <<< ((4 : Int32) &&& 0x3f).toInt64)]
      refine XS.iload X4.here hx rfl (hb hby d3_20) rfl ?_
      show SA T4 m 22 #[vR a1, vI p2, vI p3, vJ acc, .second, vI i5] [iI i5, iI p2, iR a1, iR s_T, iJ (acc <<< ((4 : Int32) &&& 0x3f).toInt64)]
      refine XS.iadd X4.here hx rfl (hb hby d3_22) rfl ?_
      show SA T4 m 23 #[vR a1, vI p2, vI p3, vJ acc, .second, vI i5] [iI (p2 + i5), iR a1, iR s_T, iJ (acc <<< ((4 : Int32) &&& 0x3f).toInt64)]
      refine X4.caload hx (j := (p2 + i5)) (v := (.int (CL.getD (p2 + i5).toNatClampNeg 0))) (by rw [e4]; exact Ar5.1) (State.isArrayOf_alike hZ.alike Ar5.2.1) Ar5.2.2 hin6 hat7 (g := (mkF m 23 #[vR a1, vI p2, vI p3, vJ acc, .second, vI i5] [iI (p2 + i5), iR a1, iR s_T, iJ (acc <<< ((4 : Int32) &&& 0x3f).toInt64)])) rfl rfl (hb hby d3_23) _ ?_
      rw [← hxc]
      show SA T4 m 24 #[vR a1, vI p2, vI p3, vJ acc, .second, vI i5] [iI xc, iR s_T, iJ (acc <<< ((4 : Int32) &&& 0x3f).toInt64)]
      refine XS.bipush X4.here hx rfl (hb hby d3_24) ?_
      show SA T4 m 26 #[vR a1, vI p2, vI p3, vJ acc, .second, vI i5] [iI 43, iI xc, iR s_T, iJ (acc <<< ((4 : Int32) &&& 0x3f).toInt64)]
      refine XS.isub X4.here hx rfl (hb hby d3_26) rfl ?_
      show SA T4 m 27 #[vR a1, vI p2, vI p3, vJ acc, .second, vI i5] [iI (xc - (43 : Int32)), iR s_T, iJ (acc <<< ((4 : Int32) &&& 0x3f).toInt64)]
      refine X4.baloadBytes hx (j := (xc - (43 : Int32))) (v := (.int (own_cd xc))) (by rw [e4]; exact fo9.1) (State.isArrayOf_alike hZ.alike fo9.2.1) fo9.2.2 hin10 hat11 (g := (mkF m 27 #[vR a1, vI p2, vI p3, vJ acc, .second, vI i5] [iI (xc - (43 : Int32)), iR s_T, iJ (acc <<< ((4 : Int32) &&& 0x3f).toInt64)])) rfl rfl (hb hby d3_27) _ ?_
      show SA T4 m 28 #[vR a1, vI p2, vI p3, vJ acc, .second, vI i5] [iI (own_cd xc), iJ (acc <<< ((4 : Int32) &&& 0x3f).toInt64)]
      refine XS.i2l X4.here hx rfl (hb hby d3_28) rfl ?_
      show SA T4 m 29 #[vR a1, vI p2, vI p3, vJ acc, .second, vI i5] [iJ (own_cd xc).toInt64, iJ (acc <<< ((4 : Int32) &&& 0x3f).toInt64)]
      refine XS.lor X4.here hx rfl (hb hby d3_29) rfl ?_
      show SA T4 m 30 #[vR a1, vI p2, vI p3, vJ acc, .second, vI i5] [iJ ((acc <<< ((4 : Int32) &&& 0x3f).toInt64) ||| (own_cd xc).toInt64)]
      refine XS.lstoreN X4.here hx rfl (hb hby d3_30) rfl (l' := #[vR a1, vI p2, vI p3, vJ ((acc <<< ((4 : Int32) &&& 0x3f).toInt64) ||| (own_cd xc).toInt64), .second, vI i5]) rfl ?_
      show SA T4 m 31 #[vR a1, vI p2, vI p3, vJ ((acc <<< ((4 : Int32) &&& 0x3f).toInt64) ||| (own_cd xc).toInt64), .second, vI i5] []
      refine XS.iinc X4.here hx rfl (hb hby d3_31) rfl (l' := #[vR a1, vI p2, vI p3, vJ ((acc <<< ((4 : Int32) &&& 0x3f).toInt64) ||| (own_cd xc).toInt64), .second, vI (i5 + (-1 : Int32))]) rfl ?_
      show SA T4 m 34 #[vR a1, vI p2, vI p3, vJ ((acc <<< ((4 : Int32) &&& 0x3f).toInt64) ||| (own_cd xc).toInt64), .second, vI (i5 + (-1 : Int32))] []
      refine XS.goto X4.here hx rfl (pc0 := 34) (pc' := 7) rfl (hb hby d3_34) (by decide) (by decide) ?_
      exact kt
    obtain ⟨s₂, o₂, hs₂, hr₂⟩ := ih (acc := ((acc <<< ((4 : Int32) &&& 0x3f).toInt64) ||| (own_cd xc).toInt64)) (i5 := (i5 + (-1 : Int32))) X4 hx hZ hw hby hml hown hret (by first | assumption | exact BodyLoose.notSynchronized (by assumption) | exact Body.notSynchronized (by assumption)) e4 Kt0 N0 Z0 O0 V_c hCL hok hf hl S_T TB hTt (own_dec hi (by simp only [Int32.toNatClampNeg] at hj; omega)) (Nat.le_of_succ_le hj) (by rw [hxc, hinb.2.2, hacc, own_pkS hCL hf hl (Nat.lt_of_succ_le hj)]; rfl)
    exact ⟨s₂, o₂, pre12 _ hs₂, hr₂⟩
theorem d3_0 : decode prog_12_method_4_code 0 = .ok (.lconst 0, 1) := by decide +kernel
theorem d3_1 : decode prog_12_method_4_code 1 = .ok (.lstore_n 3, 1) := by decide +kernel
theorem d3_2 : decode prog_12_method_4_code 2 = .ok (.iload_n 2, 1) := by decide +kernel
theorem d3_3 : decode prog_12_method_4_code 3 = .ok (.iconst 1, 1) := by decide +kernel
theorem d3_4 : decode prog_12_method_4_code 4 = .ok (.isub, 1) := by decide +kernel
theorem d3_5 : decode prog_12_method_4_code 5 = .ok (.istore 5, 2) := by decide +kernel
theorem pn_3 : plainName "com/example/plainjson/plainjson/JsonNumber" = true := by first | (simp [plainName, overriddenIn]; done) | decide +kernel
theorem ef_3 (m : MethodId) (x0 : Addr) (x1 : Int32) (x2 : Int32) : entryFrame m #[(.ref x0), (.int x1), (.int x2)] 6 = mkF m 0 #[.val (.ref x0), .val (.int x1), .val (.int x2), .unset, .unset, .unset] [] := by first | (simp [entryFrame, mkF, argsToLocals, Value.category]; done) | rfl
def Q3 (Z : State) (a1 : Addr) (p2 : Int32) (p3 : Int32) (kc : ClassId) (CL : List Int32) (s_T : Addr) (cl : Cell) (h0 : Heap) (n0 : Nat) (v : Option Value) (h : Heap) (L : List Loc) : Prop := v = some (.long (own_pkL (own_sub CL p2 p3))) ∧ Fr n0 L ∧ Keep h0 h []
theorem rm3 (l : Launch) (Z : State) (a0 : Array Value) (hw : ∀ d ∈ tables_1, d.before a0 Z = true) (ws : List Jvm.Cond) (a1 : Addr) (p2 : Int32) (p3 : Int32) (kc : ClassId) (CL : List Int32) (s_T : Addr) (cl : Cell) (h0 : Heap) (n0 : Nat) (Z0 : n0 ≤ h0.size) (O0 : Old Z n0 h0) (V_c : Arv Z h0 a1 kc .char (20 : Int32) (own_bs CL) (.int (0 : Int32))) (hCL : CL.length = 20) (hok : ∀ x ∈ CL, x ∈ own_chars) (hf : 0 ≤ p2.toInt ∧ p2.toInt ≤ 2) (hl : 1 ≤ p3.toInt ∧ p3.toInt ≤ 18) (S_T : Sta Z Z.heap "com/example/plainjson/plainjson/JsonNumber" "PACK_CODES" "[B" (.ref s_T)) (TB : Tab Z Z.heap s_T cl .byte (59 : Int32)) (hTt : ∀ x ∈ own_chars, atv cl (x - (43 : Int32)) = own_cd x) :
    MetFree l mn_5 (head1 (Jvm.Cond.code mn_5 prog_12_method_4_code 6 (some .long) :: ws) ({ frames := 0, cells := 0, slots := 0, locals := 0 } : Room)) (fun a U => a = #[(.ref a1), (.int p2), (.int p3)] ∧ Z.Warmed39 U.vm ∧ U.heap = h0) (fun _ _ _ _ _ => True) (fun _ U o U' => ∃ v L, o = .returned v ∧ Q3 Z a1 p2 p3 kc CL s_T cl h0 n0 v U'.heap L ∧ FrameEnd U o U' L ({ frames := 0, cells := 0, slots := 0, locals := 0 } : Room).cells ({ frames := 0, cells := 0, slots := 0, locals := 0 } : Room).slots) := by
  refine MetFree.of_bodySF (plainFor_of_name pn_3) hisR ?_
  intro p e s m args below meth c s₁ Bd hml0 hP hK
  obtain ⟨rfl, hZ, hh⟩ := hP
  have hx := Bd.exec
  have hby := Bd.bytes
  have hml : c.maxLocals = 6 := hml0
  have hown : s.vm.findClass "com/example/plainjson/plainjson/JsonNumber" = some m.cls := findClass_of_methodNamed Bd.named
  have hnm := (name_of_methodNamed Bd.named Bd.method).1
  have X0 : Stand p l e ({ frames := 0, cells := 0, slots := 0, locals := 0 } : Room) s m #[(.ref a1), (.int p2), (.int p3)] below meth c s₁ [] 0 0 := Stand.of_body Bd
  have e0 : s₁.heap = h0 := by rw [← hh, Bd.state]; rfl
  have N0 := Fr.nil n0
  have K0 := Keep.refl h0 []
  have pre0 : ∀ t, Steps p.tables e below (s₁.setTop (mkF m 0 #[.val (.ref a1), .val (.int p2), .val (.int p3), .unset, .unset, .unset] [])) t → Steps p.tables e below (s₁.setTop (entryFrame m #[(.ref a1), (.int p2), (.int p3)] 6)) t := fun t k => castTop (ef_3 m a1 p2 p3) k
  have pre1 : ∀ t, Steps p.tables e below (s₁.setTop (mkF m 7 #[vR a1, vI p2, vI p3, vJ 0, .second, vI (p3 - (1 : Int32))] [])) t → Steps p.tables e below (s₁.setTop (entryFrame m #[(.ref a1), (.int p2), (.int p3)] 6)) t := by
    intro t kt
    refine pre0 t ?_
    show SA s₁ m 0 #[vR a1, vI p2, vI p3, .unset, .unset, .unset] []
    refine XS.lconst X0.here hx rfl (hb hby d3_0) ?_
    show SA s₁ m 1 #[vR a1, vI p2, vI p3, .unset, .unset, .unset] [iJ 0]
    refine XS.lstoreN X0.here hx rfl (hb hby d3_1) rfl (l' := #[vR a1, vI p2, vI p3, vJ 0, .second, .unset]) rfl ?_
    show SA s₁ m 2 #[vR a1, vI p2, vI p3, vJ 0, .second, .unset] []
    refine XS.iloadN X0.here hx rfl (hb hby d3_2) rfl ?_
    show SA s₁ m 3 #[vR a1, vI p2, vI p3, vJ 0, .second, .unset] [iI p3]
    refine XS.iconst X0.here hx rfl (hb hby d3_3) ?_
    show SA s₁ m 4 #[vR a1, vI p2, vI p3, vJ 0, .second, .unset] [iI 1, iI p3]
    refine XS.isub X0.here hx rfl (hb hby d3_4) rfl ?_
    show SA s₁ m 5 #[vR a1, vI p2, vI p3, vJ 0, .second, .unset] [iI (p3 - (1 : Int32))]
    refine XS.istore X0.here hx rfl (hb hby d3_5) rfl (l' := #[vR a1, vI p2, vI p3, vJ 0, .second, vI (p3 - (1 : Int32))]) rfl ?_
    exact kt
  obtain ⟨s₂, o₂, hs₂, hr₂⟩ := own_pkloop p3.toNatClampNeg (acc := (0 : Int64)) (i5 := (p3 - (1 : Int32))) X0 hx hZ hw hby hml hown Bd.returns (by first | assumption | exact BodyLoose.notSynchronized (by assumption) | exact Body.notSynchronized (by assumption)) e0 K0 N0 Z0 O0 V_c hCL hok hf hl S_T TB hTt (own_i0 hl) (Nat.le_refl _) (by rw [List.drop_eq_nil_of_le (by rw [own_sublen hCL hf hl]; exact Nat.le_refl _)]; rfl)
  exact ⟨s₂, o₂, pre1 _ hs₂, hr₂⟩
theorem d5_0 : decode jdk_18_method_1_code 0 = .ok (.aload_n 0, 1) := by decide +kernel
theorem d5_1 : decode jdk_18_method_1_code 1 = .ok (.invokespecial 1, 3) := by decide +kernel
theorem d5_4 : decode jdk_18_method_1_code 4 = .ok (.return_, 1) := by decide +kernel
theorem pn_4 : plainName "java/lang/Number" = true := by first | (simp [plainName, overriddenIn]; done) | decide +kernel
theorem ef_5 (m : MethodId) (x0 : Addr) : entryFrame m #[(.ref x0)] 1 = mkF m 0 #[.val (.ref x0)] [] := by first | (simp [entryFrame, mkF, argsToLocals, Value.category]; done) | rfl
def Q5 (Z : State) (a1 : Addr) (h0 : Heap) (v : Option Value) (h : Heap) (L : List Loc) : Prop := v = none ∧ L = [] ∧ h = h0
theorem rm5 (l : Launch) (Z : State) (a0 : Array Value) (hw : ∀ d ∈ tables_1, d.before a0 Z = true) (ws : List Jvm.Cond) (a1 : Addr) (h0 : Heap) :
    MetFree l mn_6 (head1 (Jvm.Cond.code mn_6 jdk_18_method_1_code 1 none :: ws) ({ frames := 1, cells := 0, slots := 0, locals := 12 } : Room)) (fun a U => a = #[(.ref a1)] ∧ Z.Warmed39 U.vm ∧ U.heap = h0) (fun _ _ _ _ _ => True) (fun _ U o U' => ∃ v L, o = .returned v ∧ Q5 Z a1 h0 v U'.heap L ∧ FrameEnd U o U' L ({ frames := 1, cells := 0, slots := 0, locals := 12 } : Room).cells ({ frames := 1, cells := 0, slots := 0, locals := 12 } : Room).slots) := by
  refine MetFree.of_bodySF (plainFor_of_name pn_4) hisR ?_
  intro p e s m args below meth c s₁ Bd hml0 hP hK
  obtain ⟨rfl, hZ, hh⟩ := hP
  have hx := Bd.exec
  have hby := Bd.bytes
  have hml : c.maxLocals = 1 := hml0
  have hown : s.vm.findClass "java/lang/Number" = some m.cls := findClass_of_methodNamed Bd.named
  have hnm := (name_of_methodNamed Bd.named Bd.method).1
  have X0 : Stand p l e ({ frames := 1, cells := 0, slots := 0, locals := 12 } : Room) s m #[(.ref a1)] below meth c s₁ [] 0 0 := Stand.of_body Bd
  have e0 : s₁.heap = h0 := by rw [← hh, Bd.state]; rfl
  have pre0 : ∀ t, Steps p.tables e below (s₁.setTop (mkF m 0 #[.val (.ref a1)] [])) t → Steps p.tables e below (s₁.setTop (entryFrame m #[(.ref a1)] 1)) t := fun t k => castTop (ef_5 m a1) k
  obtain ⟨T1, X1, e1, st1⟩ := initO X0 hx hZ hown (ww hw 26 rfl) (ww hw 27 rfl) (ww hw 28 rfl) e0 (g := (mkF m 1 #[vR a1] [iR a1])) rfl (by rw [hml]; rfl) rfl (hb hby d5_1) (by decide) (W := 0) (wz rfl) (by decide)
  obtain ⟨fs, hr, hrun, hended, hW, hsame⟩ := X1.leave (v := none) (fun _ => rfl)
  refine ⟨_, _, pre0 _ ?_, hrun, hended, _, _, rfl, ?_, ⟨_, rfl⟩, hW, hsame.mono (by decide) (by decide)⟩
  · show SA s₁ m 0 #[vR a1] []
    refine XS.aloadN X0.here hx rfl (hb hby d5_0) rfl rfl ?_
    show SA s₁ m 1 #[vR a1] [iR a1]
    refine st1 _ ?_
    show Steps _ _ _ (T1.setTop (mkF m 4 #[vR a1] [])) _
    exact X1.returnOut hx Bd.returns (hb hby d5_4) hr
  · show Q5 Z a1 h0 _ T1.heap _
    rw [e1]
    exact ⟨rfl, rfl, rfl⟩
theorem d4_0 : decode prog_12_method_1_code 0 = .ok (.aload_n 0, 1) := by decide +kernel
theorem d4_1 : decode prog_12_method_1_code 1 = .ok (.invokespecial 3, 3) := by decide +kernel
theorem d4_4 : decode prog_12_method_1_code 4 = .ok (.aload_n 0, 1) := by decide +kernel
theorem d4_5 : decode prog_12_method_1_code 5 = .ok (.lload_n 1, 1) := by decide +kernel
theorem d4_6 : decode prog_12_method_1_code 6 = .ok (.putfield 9, 3) := by decide +kernel
theorem d4_9 : decode prog_12_method_1_code 9 = .ok (.aload_n 0, 1) := by decide +kernel
theorem d4_10 : decode prog_12_method_1_code 10 = .ok (.aload_n 3, 1) := by decide +kernel
theorem d4_11 : decode prog_12_method_1_code 11 = .ok (.putfield 13, 3) := by decide +kernel
theorem d4_14 : decode prog_12_method_1_code 14 = .ok (.return_, 1) := by decide +kernel
theorem ef_4_n (m : MethodId) (x0 : Addr) (x1 : Int64) : entryFrame m #[(.ref x0), (.long x1), .null] 4 = mkF m 0 #[.val (.ref x0), .val (.long x1), .second, .val .null] [] := by first | (simp [entryFrame, mkF, argsToLocals, Value.category]; done) | rfl
def Q4_n (Z : State) (a1 : Addr) (q2 : Int64) (h0 : Heap) (n0 : Nat) (v : Option Value) (h : Heap) (L : List Loc) : Prop := v = none ∧ Fr n0 L ∧ Keep h0 h [a1] ∧ Exa Z h a1 "com/example/plainjson/plainjson/JsonNumber" ∧ Fld Z h a1 "com/example/plainjson/plainjson/JsonNumber" "packed" "J" (.long q2) ∧ Fld Z h a1 "com/example/plainjson/plainjson/JsonNumber" "text" "Ljava/lang/String;" .null
theorem rm4_n (l : Launch) (Z : State) (a0 : Array Value) (hw : ∀ d ∈ tables_1, d.before a0 Z = true) (ws : List Jvm.Cond) (a1 : Addr) (q2 : Int64) (h0 : Heap) (n0 : Nat) (Z0 : n0 ≤ h0.size) (E_a1 : Exa Z h0 a1 "com/example/plainjson/plainjson/JsonNumber") (g_a1 : n0 ≤ a1) (F_p : Fld Z h0 a1 "com/example/plainjson/plainjson/JsonNumber" "packed" "J" (.long (0 : Int64))) (F_t : Fld Z h0 a1 "com/example/plainjson/plainjson/JsonNumber" "text" "Ljava/lang/String;" .null) :
    MetFree l mn_7 (head1 (Jvm.Cond.code mn_7 prog_12_method_1_code 4 none :: ws) ({ frames := 2, cells := 0, slots := 0, locals := 24 } : Room)) (fun a U => a = #[(.ref a1), (.long q2), .null] ∧ Z.Warmed39 U.vm ∧ U.heap = h0) (fun _ _ _ _ _ => True) (fun _ U o U' => ∃ v L, o = .returned v ∧ Q4_n Z a1 q2 h0 n0 v U'.heap L ∧ FrameEnd U o U' L ({ frames := 2, cells := 0, slots := 0, locals := 24 } : Room).cells ({ frames := 2, cells := 0, slots := 0, locals := 24 } : Room).slots) := by
  refine MetFree.of_bodySF (plainFor_of_name pn_3) hisR ?_
  intro p e s m args below meth c s₁ Bd hml0 hP hK
  obtain ⟨rfl, hZ, hh⟩ := hP
  have hx := Bd.exec
  have hby := Bd.bytes
  have hml : c.maxLocals = 4 := hml0
  have hown : s.vm.findClass "com/example/plainjson/plainjson/JsonNumber" = some m.cls := findClass_of_methodNamed Bd.named
  have hnm := (name_of_methodNamed Bd.named Bd.method).1
  have X0 : Stand p l e ({ frames := 2, cells := 0, slots := 0, locals := 24 } : Room) s m #[(.ref a1), (.long q2), .null] below meth c s₁ [] 0 0 := Stand.of_body Bd
  have e0 : s₁.heap = h0 := by rw [← hh, Bd.state]; rfl
  have N0 := Fr.nil n0
  have K0 := Keep.refl h0 [a1]
  have pre0 : ∀ t, Steps p.tables e below (s₁.setTop (mkF m 0 #[.val (.ref a1), .val (.long q2), .second, .val .null] [])) t → Steps p.tables e below (s₁.setTop (entryFrame m #[(.ref a1), (.long q2), .null] 4)) t := fun t k => castTop (ef_4_n m a1 q2) k
  obtain ⟨_, _, ⟨T1, L1, k1, n1⟩, -, X1, ⟨Lc1, hQ1, l1, y1, z1⟩, st1⟩ := X0.specialBack hx (y := mn_6) rfl hown (mvT hZ (ww hw 21 rfl)) (mvT hZ (ww hw 22 rfl)) (mvT hZ (ww hw 25 rfl)) (by decide) (backOf (W := 0) (rm5 l Z a0 hw [] a1 h0 ) hZ (ww hw 25 rfl) (ww hw 24 rfl) (by decide) (by decide)) (g := (mkF m 1 #[vR a1, vJ q2, .second, .val .null] [iR a1])) rfl (by rw [hml]; rfl) (Steps.refl _) (a := a1) (argsL := []) (rest := []) (lenOf pd_4 rfl) rfl (wz rfl) (hb hby d4_1) (fun _ _ => ⟨rfl, e0, (by decide : 0 + 0 ≤ _), (by decide : 0 + 0 ≤ _)⟩)
  dsimp only [Pt.U, Pt.locs, Pt.cells, Pt.slots] at X1 l1 y1 z1 st1 hQ1
  subst l1 y1 z1
  obtain ⟨rfl, rfl, e1⟩ := hQ1
  try rw [List.append_nil] at X1
  obtain ⟨T2, h2, X2, e2, W2, st2⟩ := putF X1 hx hZ hown (host := "") (Or.inl (ww hw 29 rfl)) Via.refl e1 F_p E_a1 (Or.inr ⟨(ww hw 30 rfl), rfl, hnm⟩) (ww hw 12 rfl) (ty := .long) (by decide) rfl rfl (g := (mkF m 6 #[vR a1, vJ q2, .second, .val .null] [iJ q2, iR a1])) rfl rfl (hb hby d4_6)
  have Fw2 := F_p.same W2
  have K2 : Keep h0 h2 [a1] := K0.wr W2 (Or.inl (List.mem_of_getElem? (i := 0) rfl))
  have N2 := Fr.snoc X2 N0 g_a1
  have fk3 := (F_t.other W2 (Or.inr (slot_ne (Or.inr (ww hw 32 rfl)) (Or.inr (ww hw 30 rfl)) (by decide) (t := (.object "java/lang/String")) (t' := .long) (by decide) (by decide))))
  have fk4 := (E_a1.wr W2)
  obtain ⟨T5, h5, X5, e5, W5, st5⟩ := putF X2 hx hZ hown (host := "") (Or.inl (ww hw 31 rfl)) Via.refl e2 fk3 fk4 (Or.inr ⟨(ww hw 32 rfl), rfl, hnm⟩) (ww hw 12 rfl) (ty := (.object "java/lang/String")) (by decide) rfl rfl (g := (mkF m 11 #[vR a1, vJ q2, .second, .val .null] [.null, iR a1])) rfl rfl (hb hby d4_11)
  have Fw5 := fk3.same W5
  have K5 : Keep h0 h5 [a1] := K2.wr W5 (Or.inl (List.mem_of_getElem? (i := 0) rfl))
  have N5 := Fr.snoc X5 N2 g_a1
  obtain ⟨fs, hr, hrun, hended, hW, hsame⟩ := X5.leave (v := none) (fun _ => rfl)
  have fk6 := (fk4.wr W5)
  have fk7 := (Fw2.other W5 (Or.inr (slot_ne (Or.inr (ww hw 30 rfl)) (Or.inr (ww hw 32 rfl)) (by decide) (t := .long) (t' := (.object "java/lang/String")) (by decide) (by decide))))
  refine ⟨_, _, pre0 _ ?_, hrun, hended, _, _, rfl, ?_, ⟨_, rfl⟩, hW, hsame.mono (by decide) (by decide)⟩
  · show SA s₁ m 0 #[vR a1, vJ q2, .second, .val .null] []
    refine XS.aloadN X0.here hx rfl (hb hby d4_0) rfl rfl ?_
    show SA s₁ m 1 #[vR a1, vJ q2, .second, .val .null] [iR a1]
    refine st1.trans ?_
    show SA T1 m 4 #[vR a1, vJ q2, .second, .val .null] []
    refine XS.aloadN X1.here hx rfl (hb hby d4_4) rfl rfl ?_
    show SA T1 m 5 #[vR a1, vJ q2, .second, .val .null] [iR a1]
    refine XS.lloadN X1.here hx rfl (hb hby d4_5) rfl ?_
    show SA T1 m 6 #[vR a1, vJ q2, .second, .val .null] [iJ q2, iR a1]
    refine st2 _ ?_
    show SA T2 m 9 #[vR a1, vJ q2, .second, .val .null] []
    refine XS.aloadN X2.here hx rfl (hb hby d4_9) rfl rfl ?_
    show SA T2 m 10 #[vR a1, vJ q2, .second, .val .null] [iR a1]
    refine XS.aloadN X2.here hx rfl (hb hby d4_10) rfl rfl ?_
    show SA T2 m 11 #[vR a1, vJ q2, .second, .val .null] [.null, iR a1]
    refine st5 _ ?_
    show Steps _ _ _ (T5.setTop (mkF m 14 #[vR a1, vJ q2, .second, .val .null] [])) _
    exact X5.returnOut hx Bd.returns (hb hby d4_14) hr
  · show Q4_n Z a1 q2 h0 n0 _ T5.heap _
    rw [e5]
    exact ⟨rfl, N5, K5, fk6, fk7, Fw5⟩
theorem ef_4_s (m : MethodId) (x0 : Addr) (x1 : Int64) (x2 : Addr) : entryFrame m #[(.ref x0), (.long x1), (.ref x2)] 4 = mkF m 0 #[.val (.ref x0), .val (.long x1), .second, .val (.ref x2)] [] := by first | (simp [entryFrame, mkF, argsToLocals, Value.category]; done) | rfl
def Q4_s (Z : State) (a1 : Addr) (q2 : Int64) (a3 : Addr) (h0 : Heap) (n0 : Nat) (v : Option Value) (h : Heap) (L : List Loc) : Prop := v = none ∧ Fr n0 L ∧ Keep h0 h [a1] ∧ Exa Z h a1 "com/example/plainjson/plainjson/JsonNumber" ∧ Fld Z h a1 "com/example/plainjson/plainjson/JsonNumber" "packed" "J" (.long q2) ∧ Fld Z h a1 "com/example/plainjson/plainjson/JsonNumber" "text" "Ljava/lang/String;" (.ref a3)
theorem rm4_s (l : Launch) (Z : State) (a0 : Array Value) (hw : ∀ d ∈ tables_1, d.before a0 Z = true) (ws : List Jvm.Cond) (a1 : Addr) (q2 : Int64) (a3 : Addr) (h0 : Heap) (n0 : Nat) (Z0 : n0 ≤ h0.size) (E_a1 : Exa Z h0 a1 "com/example/plainjson/plainjson/JsonNumber") (g_a1 : n0 ≤ a1) (F_p : Fld Z h0 a1 "com/example/plainjson/plainjson/JsonNumber" "packed" "J" (.long (0 : Int64))) (F_t : Fld Z h0 a1 "com/example/plainjson/plainjson/JsonNumber" "text" "Ljava/lang/String;" .null) :
    MetFree l mn_7 (head1 (Jvm.Cond.code mn_7 prog_12_method_1_code 4 none :: ws) ({ frames := 2, cells := 0, slots := 0, locals := 24 } : Room)) (fun a U => a = #[(.ref a1), (.long q2), (.ref a3)] ∧ Z.Warmed39 U.vm ∧ U.heap = h0) (fun _ _ _ _ _ => True) (fun _ U o U' => ∃ v L, o = .returned v ∧ Q4_s Z a1 q2 a3 h0 n0 v U'.heap L ∧ FrameEnd U o U' L ({ frames := 2, cells := 0, slots := 0, locals := 24 } : Room).cells ({ frames := 2, cells := 0, slots := 0, locals := 24 } : Room).slots) := by
  refine MetFree.of_bodySF (plainFor_of_name pn_3) hisR ?_
  intro p e s m args below meth c s₁ Bd hml0 hP hK
  obtain ⟨rfl, hZ, hh⟩ := hP
  have hx := Bd.exec
  have hby := Bd.bytes
  have hml : c.maxLocals = 4 := hml0
  have hown : s.vm.findClass "com/example/plainjson/plainjson/JsonNumber" = some m.cls := findClass_of_methodNamed Bd.named
  have hnm := (name_of_methodNamed Bd.named Bd.method).1
  have X0 : Stand p l e ({ frames := 2, cells := 0, slots := 0, locals := 24 } : Room) s m #[(.ref a1), (.long q2), (.ref a3)] below meth c s₁ [] 0 0 := Stand.of_body Bd
  have e0 : s₁.heap = h0 := by rw [← hh, Bd.state]; rfl
  have N0 := Fr.nil n0
  have K0 := Keep.refl h0 [a1]
  have pre0 : ∀ t, Steps p.tables e below (s₁.setTop (mkF m 0 #[.val (.ref a1), .val (.long q2), .second, .val (.ref a3)] [])) t → Steps p.tables e below (s₁.setTop (entryFrame m #[(.ref a1), (.long q2), (.ref a3)] 4)) t := fun t k => castTop (ef_4_s m a1 q2 a3) k
  obtain ⟨_, _, ⟨T1, L1, k1, n1⟩, -, X1, ⟨Lc1, hQ1, l1, y1, z1⟩, st1⟩ := X0.specialBack hx (y := mn_6) rfl hown (mvT hZ (ww hw 21 rfl)) (mvT hZ (ww hw 22 rfl)) (mvT hZ (ww hw 25 rfl)) (by decide) (backOf (W := 0) (rm5 l Z a0 hw [] a1 h0 ) hZ (ww hw 25 rfl) (ww hw 24 rfl) (by decide) (by decide)) (g := (mkF m 1 #[vR a1, vJ q2, .second, vR a3] [iR a1])) rfl (by rw [hml]; rfl) (Steps.refl _) (a := a1) (argsL := []) (rest := []) (lenOf pd_4 rfl) rfl (wz rfl) (hb hby d4_1) (fun _ _ => ⟨rfl, e0, (by decide : 0 + 0 ≤ _), (by decide : 0 + 0 ≤ _)⟩)
  dsimp only [Pt.U, Pt.locs, Pt.cells, Pt.slots] at X1 l1 y1 z1 st1 hQ1
  subst l1 y1 z1
  obtain ⟨rfl, rfl, e1⟩ := hQ1
  try rw [List.append_nil] at X1
  obtain ⟨T2, h2, X2, e2, W2, st2⟩ := putF X1 hx hZ hown (host := "") (Or.inl (ww hw 29 rfl)) Via.refl e1 F_p E_a1 (Or.inr ⟨(ww hw 30 rfl), rfl, hnm⟩) (ww hw 12 rfl) (ty := .long) (by decide) rfl rfl (g := (mkF m 6 #[vR a1, vJ q2, .second, vR a3] [iJ q2, iR a1])) rfl rfl (hb hby d4_6)
  have Fw2 := F_p.same W2
  have K2 : Keep h0 h2 [a1] := K0.wr W2 (Or.inl (List.mem_of_getElem? (i := 0) rfl))
  have N2 := Fr.snoc X2 N0 g_a1
  have fk3 := (F_t.other W2 (Or.inr (slot_ne (Or.inr (ww hw 32 rfl)) (Or.inr (ww hw 30 rfl)) (by decide) (t := (.object "java/lang/String")) (t' := .long) (by decide) (by decide))))
  have fk4 := (E_a1.wr W2)
  obtain ⟨T5, h5, X5, e5, W5, st5⟩ := putF X2 hx hZ hown (host := "") (Or.inl (ww hw 31 rfl)) Via.refl e2 fk3 fk4 (Or.inr ⟨(ww hw 32 rfl), rfl, hnm⟩) (ww hw 12 rfl) (ty := (.object "java/lang/String")) (by decide) rfl rfl (g := (mkF m 11 #[vR a1, vJ q2, .second, vR a3] [iR a3, iR a1])) rfl rfl (hb hby d4_11)
  have Fw5 := fk3.same W5
  have K5 : Keep h0 h5 [a1] := K2.wr W5 (Or.inl (List.mem_of_getElem? (i := 0) rfl))
  have N5 := Fr.snoc X5 N2 g_a1
  obtain ⟨fs, hr, hrun, hended, hW, hsame⟩ := X5.leave (v := none) (fun _ => rfl)
  have fk6 := (fk4.wr W5)
  have fk7 := (Fw2.other W5 (Or.inr (slot_ne (Or.inr (ww hw 30 rfl)) (Or.inr (ww hw 32 rfl)) (by decide) (t := .long) (t' := (.object "java/lang/String")) (by decide) (by decide))))
  refine ⟨_, _, pre0 _ ?_, hrun, hended, _, _, rfl, ?_, ⟨_, rfl⟩, hW, hsame.mono (by decide) (by decide)⟩
  · show SA s₁ m 0 #[vR a1, vJ q2, .second, vR a3] []
    refine XS.aloadN X0.here hx rfl (hb hby d4_0) rfl rfl ?_
    show SA s₁ m 1 #[vR a1, vJ q2, .second, vR a3] [iR a1]
    refine st1.trans ?_
    show SA T1 m 4 #[vR a1, vJ q2, .second, vR a3] []
    refine XS.aloadN X1.here hx rfl (hb hby d4_4) rfl rfl ?_
    show SA T1 m 5 #[vR a1, vJ q2, .second, vR a3] [iR a1]
    refine XS.lloadN X1.here hx rfl (hb hby d4_5) rfl ?_
    show SA T1 m 6 #[vR a1, vJ q2, .second, vR a3] [iJ q2, iR a1]
    refine st2 _ ?_
    show SA T2 m 9 #[vR a1, vJ q2, .second, vR a3] []
    refine XS.aloadN X2.here hx rfl (hb hby d4_9) rfl rfl ?_
    show SA T2 m 10 #[vR a1, vJ q2, .second, vR a3] [iR a1]
    refine XS.aloadN X2.here hx rfl (hb hby d4_10) rfl rfl ?_
    show SA T2 m 11 #[vR a1, vJ q2, .second, vR a3] [iR a3, iR a1]
    refine st5 _ ?_
    show Steps _ _ _ (T5.setTop (mkF m 14 #[vR a1, vJ q2, .second, vR a3] [])) _
    exact X5.returnOut hx Bd.returns (hb hby d4_14) hr
  · show Q4_s Z a1 q2 a3 h0 n0 _ T5.heap _
    rw [e5]
    exact ⟨rfl, N5, K5, fk6, fk7, Fw5⟩
theorem d2_0 : decode prog_12_method_3_code 0 = .ok (.iload_n 2, 1) := by decide +kernel
theorem d2_1 : decode prog_12_method_3_code 1 = .ok (.bipush 16, 2) := by decide +kernel
theorem d2_3 : decode prog_12_method_3_code 3 = .ok (.if_icmp .gt 18, 3) := by decide +kernel
theorem d2_6 : decode prog_12_method_3_code 6 = .ok (.new 1, 3) := by decide +kernel
theorem d2_9 : decode prog_12_method_3_code 9 = .ok (.dup, 1) := by decide +kernel
theorem d2_10 : decode prog_12_method_3_code 10 = .ok (.aload_n 0, 1) := by decide +kernel
theorem d2_11 : decode prog_12_method_3_code 11 = .ok (.iload_n 1, 1) := by decide +kernel
theorem d2_12 : decode prog_12_method_3_code 12 = .ok (.iload_n 2, 1) := by decide +kernel
theorem d2_13 : decode prog_12_method_3_code 13 = .ok (.invokestatic 34, 3) := by decide +kernel
theorem d2_16 : decode prog_12_method_3_code 16 = .ok (.aconst_null, 1) := by decide +kernel
theorem d2_17 : decode prog_12_method_3_code 17 = .ok (.invokespecial 31, 3) := by decide +kernel
theorem d2_20 : decode prog_12_method_3_code 20 = .ok (.areturn, 1) := by decide +kernel
theorem ef_2_a (m : MethodId) (x0 : Addr) (x1 : Int32) (x2 : Int32) : entryFrame m #[(.ref x0), (.int x1), (.int x2)] 3 = mkF m 0 #[.val (.ref x0), .val (.int x1), .val (.int x2)] [] := by first | (simp [entryFrame, mkF, argsToLocals, Value.category]; done) | rfl
def Q2_a (Z : State) (a1 : Addr) (p2 : Int32) (p3 : Int32) (kc : ClassId) (CL : List Int32) (s_T : Addr) (cl : Cell) (h0 : Heap) (n0 : Nat) (v : Option Value) (h : Heap) (L : List Loc) : Prop := ∃ o : Addr, v = some (.ref o) ∧ Fr n0 L ∧ Keep h0 h [] ∧ Exa Z h o "com/example/plainjson/plainjson/JsonNumber" ∧ Fld Z h o "com/example/plainjson/plainjson/JsonNumber" "packed" "J" (.long (own_pkL (own_sub CL p2 p3))) ∧ Fld Z h o "com/example/plainjson/plainjson/JsonNumber" "text" "Ljava/lang/String;" .null ∧ h0.size ≤ o
theorem rm2_a (l : Launch) (Z : State) (a0 : Array Value) (hw : ∀ d ∈ tables_1, d.before a0 Z = true) (ws : List Jvm.Cond) (a1 : Addr) (p2 : Int32) (p3 : Int32) (kc : ClassId) (CL : List Int32) (s_T : Addr) (cl : Cell) (h0 : Heap) (n0 : Nat) (Z0 : n0 ≤ h0.size) (O0 : Old Z n0 h0) (V_c : Arv Z h0 a1 kc .char (20 : Int32) (own_bs CL) (.int (0 : Int32))) (hCL : CL.length = 20) (hok : ∀ x ∈ CL, x ∈ own_chars) (hf : 0 ≤ p2.toInt ∧ p2.toInt ≤ 2) (hl : 1 ≤ p3.toInt ∧ p3.toInt ≤ 18) (h16 : ¬ (16 : Int32) < p3) (S_T : Sta Z Z.heap "com/example/plainjson/plainjson/JsonNumber" "PACK_CODES" "[B" (.ref s_T)) (TB : Tab Z Z.heap s_T cl .byte (59 : Int32)) (hTt : ∀ x ∈ own_chars, atv cl (x - (43 : Int32)) = own_cd x) :
    MetFree l mn_8 (head1 (Jvm.Cond.code mn_8 prog_12_method_3_code 3 (some (.object "com/example/plainjson/plainjson/JsonNumber")) :: ws) ({ frames := 3, cells := 1, slots := 2, locals := 40 } : Room)) (fun a U => a = #[(.ref a1), (.int p2), (.int p3)] ∧ Z.Warmed39 U.vm ∧ U.heap = h0) (fun _ _ _ _ _ => True) (fun _ U o U' => ∃ v L, o = .returned v ∧ Q2_a Z a1 p2 p3 kc CL s_T cl h0 n0 v U'.heap L ∧ FrameEnd U o U' L ({ frames := 3, cells := 1, slots := 2, locals := 40 } : Room).cells ({ frames := 3, cells := 1, slots := 2, locals := 40 } : Room).slots) := by
  refine MetFree.of_bodySF (plainFor_of_name pn_3) hisR ?_
  intro p e s m args below meth c s₁ Bd hml0 hP hK
  obtain ⟨rfl, hZ, hh⟩ := hP
  have hx := Bd.exec
  have hby := Bd.bytes
  have hml : c.maxLocals = 3 := hml0
  have hown : s.vm.findClass "com/example/plainjson/plainjson/JsonNumber" = some m.cls := findClass_of_methodNamed Bd.named
  have hnm := (name_of_methodNamed Bd.named Bd.method).1
  have X0 : Stand p l e ({ frames := 3, cells := 1, slots := 2, locals := 40 } : Room) s m #[(.ref a1), (.int p2), (.int p3)] below meth c s₁ [] 0 0 := Stand.of_body Bd
  have e0 : s₁.heap = h0 := by rw [← hh, Bd.state]; rfl
  have N0 := Fr.nil n0
  have K0 := Keep.refl h0 []
  have pre0 : ∀ t, Steps p.tables e below (s₁.setTop (mkF m 0 #[.val (.ref a1), .val (.int p2), .val (.int p3)] [])) t → Steps p.tables e below (s₁.setTop (entryFrame m #[(.ref a1), (.int p2), (.int p3)] 3)) t := fun t k => castTop (ef_2_a m a1 p2 p3) k
  obtain ⟨T1, h1, X1, e1, E1, A1, D1, -, st1⟩ := newO X0 hx hZ hown (ww hw 11 rfl) (ww hw 12 rfl) (ww hw 9 rfl) e0 (g := (mkF m 6 #[vR a1, vI p2, vI p3] [])) rfl (hb hby d2_6) (by decide) (by decide)
  obtain ⟨b1, g1⟩ : ∃ z, z = h0.size := ⟨_, rfl⟩
  rw [← g1] at A1 D1 st1
  have ne_a1_b1 : a1 ≠ b1 := Nat.ne_of_lt (Nat.lt_of_lt_of_le V_c.lt (Nat.le_of_eq g1.symm))
  have sz_b1 : h0.size ≤ b1 := Nat.le_trans K0.1 (Nat.le_of_eq g1.symm)
  have g_b1 : n0 ≤ b1 := Nat.le_trans Z0 sz_b1
  have K1 : Keep h0 h1 [] := K0.ext E1
  have F_packed_b1 : Fld Z h1 b1 "com/example/plainjson/plainjson/JsonNumber" "packed" "J" (.long (0 : Int64)) := D1 (Or.inr (ww hw 30 rfl)) (ty := .long) (by decide)
  have F_text_b1 : Fld Z h1 b1 "com/example/plainjson/plainjson/JsonNumber" "text" "Ljava/lang/String;" .null := D1 (Or.inr (ww hw 32 rfl)) (ty := (.object "java/lang/String")) (by decide)
  have fk3 := (V_c.ext E1)
  have Oh4 := O0.keep K1 all0
  obtain ⟨_, _, ⟨T2, L2, k2, n2⟩, -, X2, ⟨Lc2, hQ2, l2, y2, z2⟩, st2⟩ := Jvm.LawKit.callS X1 hx (y := mn_5) hown (mvT hZ (ww hw 13 rfl)) (mvT hZ (ww hw 14 rfl)) (mvT hZ (ww hw 9 rfl)) (mvT hZ (ww hw 15 rfl)) (by decide) (backOf (W := 2) (rm3 l Z a0 hw [] a1 p2 p3 kc CL s_T cl h1 n0 (Nat.le_trans Z0 K1.1) Oh4 fk3 hCL hok hf hl S_T TB hTt) hZ (ww hw 15 rfl) (ww hw 9 rfl) (by decide) (by decide)) (g := (mkF m 13 #[vR a1, vI p2, vI p3] [iI p3, iI p2, iR a1, iR b1, iR b1])) rfl (by rw [hml]; rfl) (argsL := [(.ref a1), (.int p2), (.int p3)]) (rest := [(.ref b1), (.ref b1)]) (lenOf pd_5 rfl) rfl (wz rfl) (hb hby d2_13) (fun _ _ => ⟨rfl, e1, (by decide : 1 + 0 ≤ _), (by decide : 2 + 0 ≤ _)⟩)
  dsimp only [Pt.U, Pt.locs, Pt.cells, Pt.slots] at X2 l2 y2 z2 st2 hQ2
  subst l2 y2 z2
  obtain ⟨rfl, N2q, K2q⟩ := hQ2
  have N2 := Fr.app N0 N2q
  have K2 : Keep h0 T2.heap [] := Keep.trans K1 K2q all0
  have fk6 := (A1.keep K2q)
  have fk7 := (F_packed_b1.keep K2q nin0)
  have fk8 := (F_text_b1.keep K2q nin0)
  obtain ⟨_, _, ⟨T5, L5, k5, n5⟩, -, X5, ⟨Lc5, hQ5, l5, y5, z5⟩, st5⟩ := X2.specialBack hx (y := mn_7) rfl hown (mvT hZ (ww hw 18 rfl)) (mvT hZ (ww hw 19 rfl)) (mvT hZ (ww hw 20 rfl)) (by decide) (backOf (W := 1) (rm4_n l Z a0 hw [] b1 (own_pkL (own_sub CL p2 p3)) T2.heap n0 (Nat.le_trans Z0 K2.1) fk6 g_b1 fk7 fk8) hZ (ww hw 20 rfl) (ww hw 9 rfl) (by decide) (by decide)) (g := (mkF m 17 #[vR a1, vI p2, vI p3] [.null, iJ (own_pkL (own_sub CL p2 p3)), iR b1, iR b1])) rfl (by rw [hml]; rfl) (Steps.refl _) (a := b1) (argsL := [(.long (own_pkL (own_sub CL p2 p3))), .null]) (rest := [(.ref b1)]) (lenOf pd_6 rfl) rfl (wz rfl) (hb hby d2_17) (fun _ _ => ⟨rfl, rfl, (by decide : 1 + 0 ≤ _), (by decide : 2 + 0 ≤ _)⟩)
  dsimp only [Pt.U, Pt.locs, Pt.cells, Pt.slots] at X5 l5 y5 z5 st5 hQ5
  subst l5 y5 z5
  obtain ⟨rfl, N5q, K5q, E5q, P5q, F5q⟩ := hQ5
  have N5 := Fr.app N2 N5q
  have K5 : Keep h0 T5.heap [] := Keep.trans K2 K5q (allS (Or.inr sz_b1) all0)
  obtain ⟨fs, hr, hrun, hended, hW, hsame⟩ := X5.leave (v := some (.ref b1)) (fun h => by rw [Bd.returns] at h; cases h)
  refine ⟨_, _, pre0 _ ?_, hrun, hended, _, _, rfl, ?_, ⟨_, rfl⟩, hW, hsame.mono (by decide) (by decide)⟩
  · show SA s₁ m 0 #[vR a1, vI p2, vI p3] []
    refine XS.iloadN X0.here hx rfl (hb hby d2_0) rfl ?_
    show SA s₁ m 1 #[vR a1, vI p2, vI p3] [iI p3]
    refine XS.bipush X0.here hx rfl (hb hby d2_1) ?_
    show SA s₁ m 3 #[vR a1, vI p2, vI p3] [iI 16, iI p3]
    refine XS.icmpNo X0.here hx rfl (hb hby d2_3) rfl (flt h16).2.2.1 ?_
    show SA s₁ m 6 #[vR a1, vI p2, vI p3] []
    refine st1 _ ?_
    show SA T1 m 9 #[vR a1, vI p2, vI p3] [iR b1]
    refine XS.dup X1.here hx rfl (hb hby d2_9) rfl rfl ?_
    show SA T1 m 10 #[vR a1, vI p2, vI p3] [iR b1, iR b1]
    refine XS.aloadN X1.here hx rfl (hb hby d2_10) rfl rfl ?_
    show SA T1 m 11 #[vR a1, vI p2, vI p3] [iR a1, iR b1, iR b1]
    refine XS.iloadN X1.here hx rfl (hb hby d2_11) rfl ?_
    show SA T1 m 12 #[vR a1, vI p2, vI p3] [iI p2, iR a1, iR b1, iR b1]
    refine XS.iloadN X1.here hx rfl (hb hby d2_12) rfl ?_
    show SA T1 m 13 #[vR a1, vI p2, vI p3] [iI p3, iI p2, iR a1, iR b1, iR b1]
    refine st2 _ ?_
    show SA T2 m 16 #[vR a1, vI p2, vI p3] [iJ (own_pkL (own_sub CL p2 p3)), iR b1, iR b1]
    refine XS.aconstNull X2.here hx rfl (hb hby d2_16) ?_
    show SA T2 m 17 #[vR a1, vI p2, vI p3] [.null, iJ (own_pkL (own_sub CL p2 p3)), iR b1, iR b1]
    refine st5.trans ?_
    show Steps _ _ _ (T5.setTop (mkF m 20 #[vR a1, vI p2, vI p3] [iR b1])) _
    jvm_step X5.here [X5.here.top, hx, (hb hby d2_20), X5.method', Bd.returns, Value.isRef, FieldType.isReference]
    first | (intro acts; rw [hr _ acts rfl rfl rfl]) | rw [hr _ _ rfl rfl rfl]
    exact Steps.refl _
  · show Q2_a Z a1 p2 p3 kc CL s_T cl h0 n0 _ T5.heap _
    exact ⟨_, rfl, N5, K5, E5q, P5q, F5q, sz_b1⟩
def own_seg (CL : List Int32) (o i : Nat) : List Int32 := ((CL.drop o).take i).map own_by
theorem own_segS {CL : List Int32} {o i : Nat} (h : o + i < CL.length) : own_seg CL o i ++ [own_by (CL.getD (o + i) 0)] = own_seg CL o (i + 1) := by
  simp only [own_seg]
  rw [List.take_add_one, List.map_append]
  congr 1
  rw [List.getElem?_drop, List.getElem?_eq_getElem h, List.getD_eq_getElem?_getD, List.getElem?_eq_getElem h]
  rfl
theorem own_segL {CL : List Int32} {o i : Nat} (h : o + i ≤ CL.length) : (own_seg CL o i).length = i := by
  simp only [own_seg, List.length_map, List.length_take, List.length_drop]; omega
theorem own_segsub (CL : List Int32) (f n : Int32) : own_seg CL f.toNatClampNeg n.toNatClampNeg = (own_sub CL f n).map own_by := rfl
theorem own_inc {i : Int32} {n : Nat} (h : i.toInt = (n : Int)) (hn : n < 1000) : (i + (1 : Int32)).toInt = ((n + 1 : Nat) : Int) := by
  have q := c_iadd i 1
  have r := rng32 (i + (1 : Int32))
  have e : (1 : Int32).toInt = 1 := rfl
  omega
theorem own_lt {a b : Int32} (h : a.toInt < b.toInt) : a < b := by rw [Int32.lt_iff_toInt_lt]; exact h
theorem own_nlt {a b : Int32} (h : b.toInt ≤ a.toInt) : ¬ a < b := by rw [Int32.lt_iff_toInt_lt]; omega
theorem own_subz (x : Int32) : x - x = 0 := by
  apply Int32.toInt_inj.mp
  have q := c_isub x x
  have r := rng32 (x - x)
  have e : (0 : Int32).toInt = 0 := rfl
  omega
theorem own_cfs {f n : Int32} (hf : 0 ≤ f.toInt ∧ f.toInt ≤ 2) (hl : 17 ≤ n.toInt ∧ n.toInt ≤ 18) : ¬ (((20 : Int32) ||| f) ||| n) < (0 : Int32) ∧ ¬ ((20 : Int32) - f) < n := by
  have h1 : f = 0 ∨ f = 1 ∨ f = 2 := by
    have : f.toInt = 0 ∨ f.toInt = 1 ∨ f.toInt = 2 := by omega
    rcases this with h | h | h
    · exact Or.inl (Int32.toInt_inj.mp h)
    · exact Or.inr (Or.inl (Int32.toInt_inj.mp h))
    · exact Or.inr (Or.inr (Int32.toInt_inj.mp h))
  have h2 : n = 17 ∨ n = 18 := by
    have : n.toInt = 17 ∨ n.toInt = 18 := by omega
    rcases this with h | h
    · exact Or.inl (Int32.toInt_inj.mp h)
    · exact Or.inr (Int32.toInt_inj.mp h)
  rcases h1 with rfl | rfl | rfl <;> rcases h2 with rfl | rfl <;> decide

def own_QY (Z : State) (a3 : Addr) (kb : ClassId) (CL : List Int32) (fN : Nat) (p5 : Int32) (h0 : Heap) (n0 : Nat) (v : Option Value) (h : Heap) (L : List Loc) : Prop := v = some (.int p5) ∧ Fr n0 L ∧ Keep h0 h [a3] ∧ Arv Z h a3 kb .byte p5 (own_bs (own_seg CL fN p5.toNatClampNeg)) (.int (0 : Int32))
theorem own_setL (A : List Int32) (x : Int32) (d : Value) : (own_bs A ++ List.replicate 1 d).set A.length (.int x) = own_bs (A ++ [x]) := by
  rw [List.set_append_right _ _ (by simp), own_bsApp]
  simp [own_bs]
theorem d40_3 : decode jdk_52_method_21_code 3 = .ok (.iload 5, 2) := by decide +kernel
theorem d40_5 : decode jdk_52_method_21_code 5 = .ok (.iload 4, 2) := by decide +kernel
theorem d40_7 : decode jdk_52_method_21_code 7 = .ok (.if_icmp .ge 37, 3) := by decide +kernel
theorem d40_10 : decode jdk_52_method_21_code 10 = .ok (.aload_n 0, 1) := by decide +kernel
theorem d40_11 : decode jdk_52_method_21_code 11 = .ok (.iload_n 1, 1) := by decide +kernel
theorem d40_12 : decode jdk_52_method_21_code 12 = .ok (.caload, 1) := by decide +kernel
theorem d40_13 : decode jdk_52_method_21_code 13 = .ok (.istore 6, 2) := by decide +kernel
theorem d40_15 : decode jdk_52_method_21_code 15 = .ok (.iload 6, 2) := by decide +kernel
theorem d40_17 : decode jdk_52_method_21_code 17 = .ok (.sipush 255, 3) := by decide +kernel
theorem d40_20 : decode jdk_52_method_21_code 20 = .ok (.if_icmp .le 6, 3) := by decide +kernel
theorem d40_26 : decode jdk_52_method_21_code 26 = .ok (.aload_n 2, 1) := by decide +kernel
theorem d40_27 : decode jdk_52_method_21_code 27 = .ok (.iload_n 3, 1) := by decide +kernel
theorem d40_28 : decode jdk_52_method_21_code 28 = .ok (.iload 6, 2) := by decide +kernel
theorem d40_30 : decode jdk_52_method_21_code 30 = .ok (.i2b, 1) := by decide +kernel
theorem d40_31 : decode jdk_52_method_21_code 31 = .ok (.bastore, 1) := by decide +kernel
theorem d40_32 : decode jdk_52_method_21_code 32 = .ok (.iinc 1 1, 3) := by decide +kernel
theorem d40_35 : decode jdk_52_method_21_code 35 = .ok (.iinc 3 1, 3) := by decide +kernel
theorem d40_38 : decode jdk_52_method_21_code 38 = .ok (.iinc 5 1, 3) := by decide +kernel
theorem d40_41 : decode jdk_52_method_21_code 41 = .ok (.goto (-38), 3) := by decide +kernel
theorem d40_44 : decode jdk_52_method_21_code 44 = .ok (.iload 4, 2) := by decide +kernel
theorem d40_46 : decode jdk_52_method_21_code 46 = .ok (.ireturn, 1) := by decide +kernel
theorem own_cploop (j : Nat) : ∀ {p : Program} {l : Launch} {e : Env} {s : State} {m : MethodId} {below : List Frame} {meth : Method} {c : Code} {T0 : State} {locs : List Loc} {Z : State} {a0 : Array Value} {h0 hT : Heap} {n0 : Nat} {a1 : Addr} {a3 : Addr} {p5 : Int32} {kc : ClassId} {CL : List Int32} {kb : ClassId} {fN : Nat} {p2 : Int32} {i : Nat} {vo dd i5 c6 : Int32} (X0 : Stand p l e ({ frames := 0, cells := 0, slots := 0, locals := 0 } : Room) s m #[(.ref a1), (.int p2), (.ref a3), (.int (0 : Int32)), (.int p5)] below meth c T0 locs 0 0) (hx : p.tables.exec = Jvm.exec) (hZ : Z.Warmed39 s.vm) (hw : ∀ d ∈ tables_1, d.before a0 Z = true) (hby : c.code = jdk_52_method_21_code) (hml : c.maxLocals = 7) (hown : s.vm.findClass "java/lang/StringUTF16" = some m.cls) (hret : meth.sig.returnType = some .int) (hlocks : meth.locks = false) (e0 : T0.heap = hT) (Kt0 : Keep h0 hT [a3]) (N0 : Fr n0 locs) (Z0 : n0 ≤ h0.size) (V_c : Arv Z hT a1 kc .char (20 : Int32) (own_bs CL) (.int (0 : Int32))) (V_b : Arv Z hT a3 kb .byte p5 (own_bs (own_seg CL fN i)) (.int (0 : Int32))) (hCL : CL.length = 20) (hok : ∀ x ∈ CL, x ∈ own_chars) (hl5 : 1 ≤ p5.toInt ∧ p5.toInt ≤ 18) (hfN : fN ≤ 2) (ne_a1_a3 : a1 ≠ a3) (g_a3 : n0 ≤ a3) (hi : i5.toInt = (i : Int)) (hv : vo.toInt = ((fN + i : Nat) : Int)) (hd : dd.toInt = (i : Int)) (hij : i + j = p5.toNatClampNeg), ∃ s₂ o, Steps p.tables e below (T0.setTop (mkF m 3 #[vR a1, vI vo, vR a3, vI dd, vI p5, vI i5, vI c6] [])) s₂ ∧ s₂.status = .running ∧ Ended s₂ below o ∧ ∃ v L, o = .returned v ∧ own_QY Z a3 kb CL fN p5 h0 n0 v s₂.heap L ∧ FrameEnd s o s₂ L ({ frames := 0, cells := 0, slots := 0, locals := 0 } : Room).cells ({ frames := 0, cells := 0, slots := 0, locals := 0 } : Room).slots := by
  induction j with
  | zero =>
    intro p l e s m below meth c T0 locs Z a0 h0 hT n0 a1 a3 p5 kc CL kb fN p2 i vo dd i5 c6 X0 hx hZ hw hby hml hown hret hlocks e0 Kt0 N0 Z0 V_c V_b hCL hok hl5 hfN ne_a1_a3 g_a3 hi hv hd hij
    have hh1 : ¬ (i5 < p5) := (own_nlt (by simp only [Int32.toNatClampNeg] at *; omega))
    obtain ⟨fs, hr, hrun, hended, hW, hsame⟩ := X0.leave (v := some (.int p5)) (fun h => by rw [hret] at h; cases h)
    refine ⟨_, _, ?_, hrun, hended, _, _, rfl, ?_, ⟨_, rfl⟩, hW, hsame.mono (by decide) (by decide)⟩
    · show SA T0 m 3 #[vR a1, vI vo, vR a3, vI dd, vI p5, vI i5, vI c6] []
      refine XS.iload X0.here hx rfl (hb hby d40_3) rfl ?_
      show SA T0 m 5 #[vR a1, vI vo, vR a3, vI dd, vI p5, vI i5, vI c6] [iI i5]
      refine XS.iload X0.here hx rfl (hb hby d40_5) rfl ?_
      show SA T0 m 7 #[vR a1, vI vo, vR a3, vI dd, vI p5, vI i5, vI c6] [iI p5, iI i5]
      refine XS.icmpYes X0.here hx rfl (pc0 := 7) (pc' := 44) rfl (hb hby d40_7) rfl (flt hh1).2.1 (by decide) (by decide) ?_
      show SA T0 m 44 #[vR a1, vI vo, vR a3, vI dd, vI p5, vI i5, vI c6] []
      refine XS.iload X0.here hx rfl (hb hby d40_44) rfl ?_
      show Steps _ _ _ (T0.setTop (mkF m 46 #[vR a1, vI vo, vR a3, vI dd, vI p5, vI i5, vI c6] [iI p5])) _
      exact retI X0 hx hret (hb hby d40_46) hr
    · show own_QY Z a3 kb CL fN p5 h0 n0 _ T0.heap _
      rw [e0]
      exact ⟨rfl, N0, Kt0, (by have e : i = p5.toNatClampNeg := (by omega); rw [← e]; exact V_b)⟩
  | succ j ih =>
    intro p l e s m below meth c T0 locs Z a0 h0 hT n0 a1 a3 p5 kc CL kb fN p2 i vo dd i5 c6 X0 hx hZ hw hby hml hown hret hlocks e0 Kt0 N0 Z0 V_c V_b hCL hok hl5 hfN ne_a1_a3 g_a3 hi hv hd hij
    have h18 : p5.toNatClampNeg ≤ 18 := by simp only [Int32.toNatClampNeg]; omega
    have hh1 : i5 < p5 := (own_lt (by have e0 : (0 : Int32).toInt = 0 := rfl; simp only [Int32.toNatClampNeg] at *; omega))
    obtain ⟨cl2, Ar2, q2, S2, M2, H2, G2⟩ := id V_c
    have hin3 : ¬ (vo < 0 ∨ cl2.slots.size ≤ (vo).toNatClampNeg) := inb_of S2 ⟨own_nneg (by omega), own_lt (by have e : (20 : Int32).toInt = 20 := rfl; omega)⟩
    have hat4 : cl2.slots[(vo).toNatClampNeg]? = some (.int (CL.getD vo.toNatClampNeg 0)) := Has.at H2 hin3 (own_bsget CL _)
    obtain ⟨xc, hxc⟩ : ∃ z : Int32, z = (CL.getD vo.toNatClampNeg 0) := ⟨_, rfl⟩
    have hxc' : xc = CL.getD (fN + i) 0 := by rw [hxc, own_tn hv]
    have hx_xc : xc ∈ own_chars := by rw [hxc']; exact own_getok hCL hok (by omega)
    have hh6 : ¬ ((255 : Int32) < xc) := (own_okc _ hx_xc).2.2.2.2.2.2.1
    have VP7 : Arv Z hT a3 kb .byte p5 (own_bs (own_seg CL fN i) ++ List.replicate 1 (.int (0 : Int32))) (.int (0 : Int32)) := V_b.pad (pad_rep _ _ 1)
    obtain ⟨cl8, Ar8, q8, S8, M8, H8, G8⟩ := id VP7
    have hin9 : ¬ (dd < 0 ∨ cl8.slots.size ≤ (dd).toNatClampNeg) := inb_of S8 ⟨own_nneg (by have e0 : (0 : Int32).toInt = 0 := rfl; omega), own_lt (by have e0 : (0 : Int32).toInt = 0 := rfl; simp only [Int32.toNatClampNeg] at *; omega)⟩
    obtain ⟨T10, h10, X10, e10, W10, st10⟩ := stB X0 hx hZ e0 Ar8 (j := dd) hin9 (g := (mkF m 31 #[vR a1, vI vo, vR a3, vI dd, vI p5, vI i5, vI xc] [iI xc.toInt8.toInt32, iI dd, iR a3])) rfl rfl (hb hby d40_31)
    have hsl : (own_seg CL fN i).length = i := own_segL (by rw [hCL]; omega)
    have V10r := Arv.set Ar8 q8 S8 M8 H8 G8 (fits_nar_byte _) W10 (own_seg CL fN i).length (by rw [hsl]; exact own_tn hd) (by simp)
    have V10 : Arv Z h10 a3 kb .byte p5 (own_bs (own_seg CL fN (i + 1))) (.int (0 : Int32)) := by rw [← own_segS (by rw [hCL]; omega), ← hxc', ← own_setL _ _ (.int (0 : Int32))]; exact V10r
    have K10 : Keep h0 h10 [a3] := Kt0.wr W10 (Or.inl (List.mem_of_getElem? (i := 0) rfl))
    have N10 := Fr.snoc X10 N0 g_a3
    have fk11 := (V_c.other W10 ne_a1_a3)
    have pre12 : ∀ t, Steps p.tables e below (T10.setTop (mkF m 3 #[vR a1, vI (vo + (1 : Int32)), vR a3, vI (dd + (1 : Int32)), vI p5, vI (i5 + (1 : Int32)), vI xc] [])) t → Steps p.tables e below (T0.setTop (mkF m 3 #[vR a1, vI vo, vR a3, vI dd, vI p5, vI i5, vI c6] [])) t := by
      intro t kt
      show SA T0 m 3 #[vR a1, vI vo, vR a3, vI dd, vI p5, vI i5, vI c6] []
      refine XS.iload X0.here hx rfl (hb hby d40_3) rfl ?_
      show SA T0 m 5 #[vR a1, vI vo, vR a3, vI dd, vI p5, vI i5, vI c6] [iI i5]
      refine XS.iload X0.here hx rfl (hb hby d40_5) rfl ?_
      show SA T0 m 7 #[vR a1, vI vo, vR a3, vI dd, vI p5, vI i5, vI c6] [iI p5, iI i5]
      refine XS.icmpNo X0.here hx rfl (hb hby d40_7) rfl (tlt hh1).2.1 ?_
      show SA T0 m 10 #[vR a1, vI vo, vR a3, vI dd, vI p5, vI i5, vI c6] []
      refine XS.aloadN X0.here hx rfl (hb hby d40_10) rfl rfl ?_
      show SA T0 m 11 #[vR a1, vI vo, vR a3, vI dd, vI p5, vI i5, vI c6] [iR a1]
      refine XS.iloadN X0.here hx rfl (hb hby d40_11) rfl ?_
      show SA T0 m 12 #[vR a1, vI vo, vR a3, vI dd, vI p5, vI i5, vI c6] [iI vo, iR a1]
      refine X0.caload hx (j := vo) (v := (.int (CL.getD vo.toNatClampNeg 0))) (by rw [e0]; exact Ar2.1) (State.isArrayOf_alike hZ.alike Ar2.2.1) Ar2.2.2 hin3 hat4 (g := (mkF m 12 #[vR a1, vI vo, vR a3, vI dd, vI p5, vI i5, vI c6] [iI vo, iR a1])) rfl rfl (hb hby d40_12) _ ?_
      rw [← hxc]
      show SA T0 m 13 #[vR a1, vI vo, vR a3, vI dd, vI p5, vI i5, vI c6] [iI xc]
      refine XS.istore X0.here hx rfl (hb hby d40_13) rfl (l' := #[vR a1, vI vo, vR a3, vI dd, vI p5, vI i5, vI xc]) rfl ?_
      show SA T0 m 15 #[vR a1, vI vo, vR a3, vI dd, vI p5, vI i5, vI xc] []
      refine XS.iload X0.here hx rfl (hb hby d40_15) rfl ?_
      show SA T0 m 17 #[vR a1, vI vo, vR a3, vI dd, vI p5, vI i5, vI xc] [iI xc]
      refine XS.sipush X0.here hx rfl (hb hby d40_17) ?_
      show SA T0 m 20 #[vR a1, vI vo, vR a3, vI dd, vI p5, vI i5, vI xc] [iI 255, iI xc]
      refine XS.icmpYes X0.here hx rfl (pc0 := 20) (pc' := 26) rfl (hb hby d40_20) rfl (flt hh6).2.2.2 (by decide) (by decide) ?_
      show SA T0 m 26 #[vR a1, vI vo, vR a3, vI dd, vI p5, vI i5, vI xc] []
      refine XS.aloadN X0.here hx rfl (hb hby d40_26) rfl rfl ?_
      show SA T0 m 27 #[vR a1, vI vo, vR a3, vI dd, vI p5, vI i5, vI xc] [iR a3]
      refine XS.iloadN X0.here hx rfl (hb hby d40_27) rfl ?_
      show SA T0 m 28 #[vR a1, vI vo, vR a3, vI dd, vI p5, vI i5, vI xc] [iI dd, iR a3]
      refine XS.iload X0.here hx rfl (hb hby d40_28) rfl ?_
      show SA T0 m 30 #[vR a1, vI vo, vR a3, vI dd, vI p5, vI i5, vI xc] [iI xc, iI dd, iR a3]
      refine XS.i2b X0.here hx rfl (hb hby d40_30) rfl ?_
      show SA T0 m 31 #[vR a1, vI vo, vR a3, vI dd, vI p5, vI i5, vI xc] [iI xc.toInt8.toInt32, iI dd, iR a3]
      refine st10 _ ?_
      show SA T10 m 32 #[vR a1, vI vo, vR a3, vI dd, vI p5, vI i5, vI xc] []
      refine XS.iinc X10.here hx rfl (hb hby d40_32) rfl (l' := #[vR a1, vI (vo + (1 : Int32)), vR a3, vI dd, vI p5, vI i5, vI xc]) rfl ?_
      show SA T10 m 35 #[vR a1, vI (vo + (1 : Int32)), vR a3, vI dd, vI p5, vI i5, vI xc] []
      refine XS.iinc X10.here hx rfl (hb hby d40_35) rfl (l' := #[vR a1, vI (vo + (1 : Int32)), vR a3, vI (dd + (1 : Int32)), vI p5, vI i5, vI xc]) rfl ?_
      show SA T10 m 38 #[vR a1, vI (vo + (1 : Int32)), vR a3, vI (dd + (1 : Int32)), vI p5, vI i5, vI xc] []
      refine XS.iinc X10.here hx rfl (hb hby d40_38) rfl (l' := #[vR a1, vI (vo + (1 : Int32)), vR a3, vI (dd + (1 : Int32)), vI p5, vI (i5 + (1 : Int32)), vI xc]) rfl ?_
      show SA T10 m 41 #[vR a1, vI (vo + (1 : Int32)), vR a3, vI (dd + (1 : Int32)), vI p5, vI (i5 + (1 : Int32)), vI xc] []
      refine XS.goto X10.here hx rfl (pc0 := 41) (pc' := 3) rfl (hb hby d40_41) (by decide) (by decide) ?_
      exact kt
    obtain ⟨s₂, o₂, hs₂, hr₂⟩ := ih (i := i + 1) (vo := (vo + (1 : Int32))) (dd := (dd + (1 : Int32))) (i5 := (i5 + (1 : Int32))) (c6 := xc) X10 hx hZ hw hby hml hown hret (by first | assumption | exact BodyLoose.notSynchronized (by assumption) | exact Body.notSynchronized (by assumption)) e10 K10 N10 Z0 fk11 V10 hCL hok hl5 hfN ne_a1_a3 g_a3 (own_inc (n := i) hi (by omega)) (own_inc (n := fN + i) hv (by omega)) (own_inc (n := i) hd (by omega)) (by omega)
    exact ⟨s₂, o₂, pre12 _ hs₂, hr₂⟩
theorem d40_0 : decode jdk_52_method_21_code 0 = .ok (.iconst 0, 1) := by decide +kernel
theorem d40_1 : decode jdk_52_method_21_code 1 = .ok (.istore 5, 2) := by decide +kernel
theorem pn_5 : plainName "java/lang/StringUTF16" = true := by first | (simp [plainName, overriddenIn]; done) | decide +kernel
theorem ef_40 (m : MethodId) (x0 : Addr) (x1 : Int32) (x2 : Addr) (x4 : Int32) : entryFrame m #[(.ref x0), (.int x1), (.ref x2), (.int (0 : Int32)), (.int x4)] 7 = mkF m 0 #[.val (.ref x0), .val (.int x1), .val (.ref x2), .val (.int (0 : Int32)), .val (.int x4), .unset, .unset] [] := by first | (simp [entryFrame, mkF, argsToLocals, Value.category]; done) | rfl
def Q40 (Z : State) (a1 : Addr) (p2 : Int32) (a3 : Addr) (p5 : Int32) (kc : ClassId) (CL : List Int32) (kb : ClassId) (fN : Nat) (h0 : Heap) (n0 : Nat) (v : Option Value) (h : Heap) (L : List Loc) : Prop := v = some (.int p5) ∧ Fr n0 L ∧ Keep h0 h [a3] ∧ Arv Z h a3 kb .byte p5 (own_bs (own_seg CL fN p5.toNatClampNeg)) (.int (0 : Int32))
theorem rm40 (l : Launch) (Z : State) (a0 : Array Value) (hw : ∀ d ∈ tables_1, d.before a0 Z = true) (ws : List Jvm.Cond) (a1 : Addr) (p2 : Int32) (a3 : Addr) (p5 : Int32) (kc : ClassId) (CL : List Int32) (kb : ClassId) (fN : Nat) (h0 : Heap) (n0 : Nat) (Z0 : n0 ≤ h0.size) (V_c : Arv Z h0 a1 kc .char (20 : Int32) (own_bs CL) (.int (0 : Int32))) (V_b : Arv Z h0 a3 kb .byte p5 (own_bs []) (.int (0 : Int32))) (hCL : CL.length = 20) (hok : ∀ x ∈ CL, x ∈ own_chars) (hl5 : 1 ≤ p5.toInt ∧ p5.toInt ≤ 18) (hfN : fN ≤ 2) (ne_a1_a3 : a1 ≠ a3) (g_a3 : n0 ≤ a3) (hp2 : p2.toInt = (fN : Int)) :
    MetFree l mn_9 (head1 (Jvm.Cond.code mn_9 jdk_52_method_21_code 7 (some .int) :: ws) ({ frames := 0, cells := 0, slots := 0, locals := 0 } : Room)) (fun a U => a = #[(.ref a1), (.int p2), (.ref a3), (.int (0 : Int32)), (.int p5)] ∧ Z.Warmed39 U.vm ∧ U.heap = h0) (fun _ _ _ _ _ => True) (fun _ U o U' => ∃ v L, o = .returned v ∧ Q40 Z a1 p2 a3 p5 kc CL kb fN h0 n0 v U'.heap L ∧ FrameEnd U o U' L ({ frames := 0, cells := 0, slots := 0, locals := 0 } : Room).cells ({ frames := 0, cells := 0, slots := 0, locals := 0 } : Room).slots) := by
  refine MetFree.of_bodySF (plainFor_of_name pn_5) hisR ?_
  intro p e s m args below meth c s₁ Bd hml0 hP hK
  obtain ⟨rfl, hZ, hh⟩ := hP
  have hx := Bd.exec
  have hby := Bd.bytes
  have hml : c.maxLocals = 7 := hml0
  have hown : s.vm.findClass "java/lang/StringUTF16" = some m.cls := findClass_of_methodNamed Bd.named
  have hnm := (name_of_methodNamed Bd.named Bd.method).1
  have X0 : Stand p l e ({ frames := 0, cells := 0, slots := 0, locals := 0 } : Room) s m #[(.ref a1), (.int p2), (.ref a3), (.int (0 : Int32)), (.int p5)] below meth c s₁ [] 0 0 := Stand.of_body Bd
  have e0 : s₁.heap = h0 := by rw [← hh, Bd.state]; rfl
  have N0 := Fr.nil n0
  have K0 := Keep.refl h0 [a3]
  have pre0 : ∀ t, Steps p.tables e below (s₁.setTop (mkF m 0 #[.val (.ref a1), .val (.int p2), .val (.ref a3), .val (.int (0 : Int32)), .val (.int p5), .unset, .unset] [])) t → Steps p.tables e below (s₁.setTop (entryFrame m #[(.ref a1), (.int p2), (.ref a3), (.int (0 : Int32)), (.int p5)] 7)) t := fun t k => castTop (ef_40 m a1 p2 a3 p5) k
  have h18 : p5.toNatClampNeg ≤ 18 := by simp only [Int32.toNatClampNeg]; omega
  obtain ⟨cl1, Ar1, q1, S1, M1, H1, G1⟩ := id V_c
  have hin2 : ¬ (p2 < 0 ∨ cl1.slots.size ≤ (p2).toNatClampNeg) := inb_of S1 ⟨own_nneg (by omega), own_lt (by have e : (20 : Int32).toInt = 20 := rfl; omega)⟩
  have hat3 : cl1.slots[(p2).toNatClampNeg]? = some (.int (CL.getD p2.toNatClampNeg 0)) := Has.at H1 hin2 (own_bsget CL _)
  obtain ⟨xc, hxc⟩ : ∃ z : Int32, z = (CL.getD p2.toNatClampNeg 0) := ⟨_, rfl⟩
  have hxc' : xc = CL.getD (fN + 0) 0 := by rw [hxc, own_tn hp2]; rfl
  have hx_xc : xc ∈ own_chars := by rw [hxc']; exact own_getok hCL hok (by omega)
  have hh5 : ¬ ((255 : Int32) < xc) := (own_okc _ hx_xc).2.2.2.2.2.2.1
  have VP6 : Arv Z h0 a3 kb .byte p5 (own_bs (own_seg CL fN 0) ++ List.replicate 1 (.int (0 : Int32))) (.int (0 : Int32)) := V_b.pad (pad_rep _ _ 1)
  obtain ⟨cl7, Ar7, q7, S7, M7, H7, G7⟩ := id VP6
  have hin8 : ¬ ((0 : Int32) < 0 ∨ cl7.slots.size ≤ ((0 : Int32)).toNatClampNeg) := inb_of S7 ⟨own_nneg (by have e0 : (0 : Int32).toInt = 0 := rfl; omega), own_lt (by have e0 : (0 : Int32).toInt = 0 := rfl; simp only [Int32.toNatClampNeg] at *; omega)⟩
  obtain ⟨T9, h9, X9, e9, W9, st9⟩ := stB X0 hx hZ e0 Ar7 (j := (0 : Int32)) hin8 (g := (mkF m 31 #[vR a1, vI p2, vR a3, vI 0, vI p5, vI 0, vI xc] [iI xc.toInt8.toInt32, iI 0, iR a3])) rfl rfl (hb hby d40_31)
  have hsl : (own_seg CL fN 0).length = 0 := own_segL (by rw [hCL]; omega)
  have V9r := Arv.set Ar7 q7 S7 M7 H7 G7 (fits_nar_byte _) W9 (own_seg CL fN 0).length (by rw [hsl]; exact own_tn (rfl : (0 : Int32).toInt = ((0 : Nat) : Int))) (by simp)
  have V9 : Arv Z h9 a3 kb .byte p5 (own_bs (own_seg CL fN (0 + 1))) (.int (0 : Int32)) := by rw [← own_segS (by rw [hCL]; omega), ← hxc', ← own_setL _ _ (.int (0 : Int32))]; exact V9r
  have K9 : Keep h0 h9 [a3] := K0.wr W9 (Or.inl (List.mem_of_getElem? (i := 0) rfl))
  have N9 := Fr.snoc X9 N0 g_a3
  have fk10 := (V_c.other W9 ne_a1_a3)
  have pre11 : ∀ t, Steps p.tables e below (T9.setTop (mkF m 3 #[vR a1, vI (p2 + (1 : Int32)), vR a3, vI 1, vI p5, vI 1, vI xc] [])) t → Steps p.tables e below (s₁.setTop (entryFrame m #[(.ref a1), (.int p2), (.ref a3), (.int (0 : Int32)), (.int p5)] 7)) t := by
    intro t kt
    refine pre0 t ?_
    show SA s₁ m 0 #[vR a1, vI p2, vR a3, vI 0, vI p5, .unset, .unset] []
    refine XS.iconst X0.here hx rfl (hb hby d40_0) ?_
    show SA s₁ m 1 #[vR a1, vI p2, vR a3, vI 0, vI p5, .unset, .unset] [iI 0]
    refine XS.istore X0.here hx rfl (hb hby d40_1) rfl (l' := #[vR a1, vI p2, vR a3, vI 0, vI p5, vI 0, .unset]) rfl ?_
    show SA s₁ m 3 #[vR a1, vI p2, vR a3, vI 0, vI p5, vI 0, .unset] []
    refine XS.iload X0.here hx rfl (hb hby d40_3) rfl ?_
    show SA s₁ m 5 #[vR a1, vI p2, vR a3, vI 0, vI p5, vI 0, .unset] [iI 0]
    refine XS.iload X0.here hx rfl (hb hby d40_5) rfl ?_
    show SA s₁ m 7 #[vR a1, vI p2, vR a3, vI 0, vI p5, vI 0, .unset] [iI p5, iI 0]
    refine XS.icmpNo X0.here hx rfl (hb hby d40_7) rfl (tlt (own_lt (by have e0 : (0 : Int32).toInt = 0 := rfl; omega))).2.1 ?_
    show SA s₁ m 10 #[vR a1, vI p2, vR a3, vI 0, vI p5, vI 0, .unset] []
    refine XS.aloadN X0.here hx rfl (hb hby d40_10) rfl rfl ?_
    show SA s₁ m 11 #[vR a1, vI p2, vR a3, vI 0, vI p5, vI 0, .unset] [iR a1]
    refine XS.iloadN X0.here hx rfl (hb hby d40_11) rfl ?_
    show SA s₁ m 12 #[vR a1, vI p2, vR a3, vI 0, vI p5, vI 0, .unset] [iI p2, iR a1]
    refine X0.caload hx (j := p2) (v := (.int (CL.getD p2.toNatClampNeg 0))) (by rw [e0]; exact Ar1.1) (State.isArrayOf_alike hZ.alike Ar1.2.1) Ar1.2.2 hin2 hat3 (g := (mkF m 12 #[vR a1, vI p2, vR a3, vI 0, vI p5, vI 0, .unset] [iI p2, iR a1])) rfl rfl (hb hby d40_12) _ ?_
    rw [← hxc]
    show SA s₁ m 13 #[vR a1, vI p2, vR a3, vI 0, vI p5, vI 0, .unset] [iI xc]
    refine XS.istore X0.here hx rfl (hb hby d40_13) rfl (l' := #[vR a1, vI p2, vR a3, vI 0, vI p5, vI 0, vI xc]) rfl ?_
    show SA s₁ m 15 #[vR a1, vI p2, vR a3, vI 0, vI p5, vI 0, vI xc] []
    refine XS.iload X0.here hx rfl (hb hby d40_15) rfl ?_
    show SA s₁ m 17 #[vR a1, vI p2, vR a3, vI 0, vI p5, vI 0, vI xc] [iI xc]
    refine XS.sipush X0.here hx rfl (hb hby d40_17) ?_
    show SA s₁ m 20 #[vR a1, vI p2, vR a3, vI 0, vI p5, vI 0, vI xc] [iI 255, iI xc]
    refine XS.icmpYes X0.here hx rfl (pc0 := 20) (pc' := 26) rfl (hb hby d40_20) rfl (flt hh5).2.2.2 (by decide) (by decide) ?_
    show SA s₁ m 26 #[vR a1, vI p2, vR a3, vI 0, vI p5, vI 0, vI xc] []
    refine XS.aloadN X0.here hx rfl (hb hby d40_26) rfl rfl ?_
    show SA s₁ m 27 #[vR a1, vI p2, vR a3, vI 0, vI p5, vI 0, vI xc] [iR a3]
    refine XS.iloadN X0.here hx rfl (hb hby d40_27) rfl ?_
    show SA s₁ m 28 #[vR a1, vI p2, vR a3, vI 0, vI p5, vI 0, vI xc] [iI 0, iR a3]
    refine XS.iload X0.here hx rfl (hb hby d40_28) rfl ?_
    show SA s₁ m 30 #[vR a1, vI p2, vR a3, vI 0, vI p5, vI 0, vI xc] [iI xc, iI 0, iR a3]
    refine XS.i2b X0.here hx rfl (hb hby d40_30) rfl ?_
    show SA s₁ m 31 #[vR a1, vI p2, vR a3, vI 0, vI p5, vI 0, vI xc] [iI xc.toInt8.toInt32, iI 0, iR a3]
    refine st9 _ ?_
    show SA T9 m 32 #[vR a1, vI p2, vR a3, vI 0, vI p5, vI 0, vI xc] []
    refine XS.iinc X9.here hx rfl (hb hby d40_32) rfl (l' := #[vR a1, vI (p2 + (1 : Int32)), vR a3, vI 0, vI p5, vI 0, vI xc]) rfl ?_
    show SA T9 m 35 #[vR a1, vI (p2 + (1 : Int32)), vR a3, vI 0, vI p5, vI 0, vI xc] []
    refine XS.iinc X9.here hx rfl (hb hby d40_35) rfl (l' := #[vR a1, vI (p2 + (1 : Int32)), vR a3, vI ((0 : Int32) + (1 : Int32)), vI p5, vI 0, vI xc]) rfl ?_
    rw [(by decide : ((0 : Int32) + (1 : Int32)) = (1 : Int32))]
    show SA T9 m 38 #[vR a1, vI (p2 + (1 : Int32)), vR a3, vI 1, vI p5, vI 0, vI xc] []
    refine XS.iinc X9.here hx rfl (hb hby d40_38) rfl (l' := #[vR a1, vI (p2 + (1 : Int32)), vR a3, vI 1, vI p5, vI ((0 : Int32) + (1 : Int32)), vI xc]) rfl ?_
    rw [(by decide : ((0 : Int32) + (1 : Int32)) = (1 : Int32))]
    show SA T9 m 41 #[vR a1, vI (p2 + (1 : Int32)), vR a3, vI 1, vI p5, vI 1, vI xc] []
    refine XS.goto X9.here hx rfl (pc0 := 41) (pc' := 3) rfl (hb hby d40_41) (by decide) (by decide) ?_
    exact kt
  obtain ⟨s₂, o₂, hs₂, hr₂⟩ := own_cploop (p5.toNatClampNeg - 1) (i := 1) (vo := (p2 + (1 : Int32))) (dd := (1 : Int32)) (i5 := (1 : Int32)) (c6 := xc) (p2 := p2) X9 hx hZ hw hby hml hown Bd.returns (by first | assumption | exact BodyLoose.notSynchronized (by assumption) | exact Body.notSynchronized (by assumption)) e9 K9 N9 Z0 fk10 V9 hCL hok hl5 hfN ne_a1_a3 g_a3 rfl (own_inc (n := fN) hp2 (by omega)) rfl (by simp only [Int32.toNatClampNeg]; omega)
  exact ⟨s₂, o₂, pre11 _ hs₂, hr₂⟩
theorem d39_0 : decode jdk_52_method_16_code 0 = .ok (.iload_n 2, 1) := by decide +kernel
theorem d39_1 : decode jdk_52_method_16_code 1 = .ok (.newarray .byte, 2) := by decide +kernel
theorem d39_3 : decode jdk_52_method_16_code 3 = .ok (.astore_n 3, 1) := by decide +kernel
theorem d39_4 : decode jdk_52_method_16_code 4 = .ok (.aload_n 0, 1) := by decide +kernel
theorem d39_5 : decode jdk_52_method_16_code 5 = .ok (.iload_n 1, 1) := by decide +kernel
theorem d39_6 : decode jdk_52_method_16_code 6 = .ok (.aload_n 3, 1) := by decide +kernel
theorem d39_7 : decode jdk_52_method_16_code 7 = .ok (.iconst 0, 1) := by decide +kernel
theorem d39_8 : decode jdk_52_method_16_code 8 = .ok (.iload_n 2, 1) := by decide +kernel
theorem d39_9 : decode jdk_52_method_16_code 9 = .ok (.invokestatic 115, 3) := by decide +kernel
theorem d39_12 : decode jdk_52_method_16_code 12 = .ok (.istore 4, 2) := by decide +kernel
theorem d39_14 : decode jdk_52_method_16_code 14 = .ok (.iload 4, 2) := by decide +kernel
theorem d39_16 : decode jdk_52_method_16_code 16 = .ok (.iload_n 2, 1) := by decide +kernel
theorem d39_17 : decode jdk_52_method_16_code 17 = .ok (.if_icmp .eq 40, 3) := by decide +kernel
theorem d39_57 : decode jdk_52_method_16_code 57 = .ok (.aload_n 3, 1) := by decide +kernel
theorem d39_58 : decode jdk_52_method_16_code 58 = .ok (.areturn, 1) := by decide +kernel
theorem ef_39 (m : MethodId) (x0 : Addr) (x1 : Int32) (x2 : Int32) : entryFrame m #[(.ref x0), (.int x1), (.int x2)] 6 = mkF m 0 #[.val (.ref x0), .val (.int x1), .val (.int x2), .unset, .unset, .unset] [] := by first | (simp [entryFrame, mkF, argsToLocals, Value.category]; done) | rfl
def Q39 (Z : State) (a1 : Addr) (p2 : Int32) (p3 : Int32) (kc : ClassId) (CL : List Int32) (fN : Nat) (h0 : Heap) (n0 : Nat) (v : Option Value) (h : Heap) (L : List Loc) : Prop := ∃ (b : Addr) (kb : ClassId), v = some (.ref b) ∧ Fr n0 L ∧ Keep h0 h [] ∧ Arv Z h b kb .byte p3 (own_bs (own_seg CL fN p3.toNatClampNeg)) (.int (0 : Int32)) ∧ h0.size ≤ b
theorem rm39 (l : Launch) (Z : State) (a0 : Array Value) (hw : ∀ d ∈ tables_1, d.before a0 Z = true) (ws : List Jvm.Cond) (a1 : Addr) (p2 : Int32) (p3 : Int32) (kc : ClassId) (CL : List Int32) (fN : Nat) (h0 : Heap) (n0 : Nat) (Z0 : n0 ≤ h0.size) (V_c : Arv Z h0 a1 kc .char (20 : Int32) (own_bs CL) (.int (0 : Int32))) (hCL : CL.length = 20) (hok : ∀ x ∈ CL, x ∈ own_chars) (hl3 : 17 ≤ p3.toInt ∧ p3.toInt ≤ 18) (hfN : fN ≤ 2) (hp2 : p2.toInt = (fN : Int)) :
    MetFree l mn_10 (head1 (Jvm.Cond.code mn_10 jdk_52_method_16_code 6 (some (.array .byte)) :: ws) ({ frames := 1, cells := 1, slots := 18, locals := 18 } : Room)) (fun a U => a = #[(.ref a1), (.int p2), (.int p3)] ∧ Z.Warmed39 U.vm ∧ U.heap = h0) (fun _ _ _ _ _ => True) (fun _ U o U' => ∃ v L, o = .returned v ∧ Q39 Z a1 p2 p3 kc CL fN h0 n0 v U'.heap L ∧ FrameEnd U o U' L ({ frames := 1, cells := 1, slots := 18, locals := 18 } : Room).cells ({ frames := 1, cells := 1, slots := 18, locals := 18 } : Room).slots) := by
  refine MetFree.of_bodySF (plainFor_of_name pn_5) hisR ?_
  intro p e s m args below meth c s₁ Bd hml0 hP hK
  obtain ⟨rfl, hZ, hh⟩ := hP
  have hx := Bd.exec
  have hby := Bd.bytes
  have hml : c.maxLocals = 6 := hml0
  have hown : s.vm.findClass "java/lang/StringUTF16" = some m.cls := findClass_of_methodNamed Bd.named
  have hnm := (name_of_methodNamed Bd.named Bd.method).1
  have X0 : Stand p l e ({ frames := 1, cells := 1, slots := 18, locals := 18 } : Room) s m #[(.ref a1), (.int p2), (.int p3)] below meth c s₁ [] 0 0 := Stand.of_body Bd
  have e0 : s₁.heap = h0 := by rw [← hh, Bd.state]; rfl
  have N0 := Fr.nil n0
  have K0 := Keep.refl h0 []
  have pre0 : ∀ t, Steps p.tables e below (s₁.setTop (mkF m 0 #[.val (.ref a1), .val (.int p2), .val (.int p3), .unset, .unset, .unset] [])) t → Steps p.tables e below (s₁.setTop (entryFrame m #[(.ref a1), (.int p2), (.int p3)] 6)) t := fun t k => castTop (ef_39 m a1 p2 p3) k
  obtain ⟨T1, h1, k1, X1, e1, E1, A1, st1⟩ := newP X0 hx hZ (ww hw 53 rfl) e0 (g := (mkF m 1 #[vR a1, vI p2, vI p3, .unset, .unset, .unset] [iI p3])) rfl (hb hby d39_1) rfl (own_nneg (by omega)) (cap := 18) (by simp only [Int32.toNatClampNeg]; omega) (by decide) (by decide) (by decide)
  obtain ⟨b1, g1⟩ : ∃ z, z = h0.size := ⟨_, rfl⟩
  rw [← g1] at A1 st1
  have ne_a1_b1 : a1 ≠ b1 := Nat.ne_of_lt (Nat.lt_of_lt_of_le V_c.lt (Nat.le_of_eq g1.symm))
  have sz_b1 : h0.size ≤ b1 := Nat.le_trans K0.1 (Nat.le_of_eq g1.symm)
  have g_b1 : n0 ≤ b1 := Nat.le_trans Z0 sz_b1
  have K1 : Keep h0 h1 [] := K0.ext E1
  have V1 : Arv Z h1 b1 k1 .byte p3 [] (.int (0 : Int32)) := (Arv.new A1 (own_nneg (by omega))).pad (pad_rep [] (.int (0 : Int32)) 0)
  have fk3 := (V_c.ext E1)
  obtain ⟨_, _, ⟨T2, L2, k2, n2⟩, -, X2, ⟨Lc2, hQ2, l2, y2, z2⟩, st2⟩ := Jvm.LawKit.callS X1 hx (y := mn_9) hown (mvT hZ (ww hw 209 rfl)) (mvT hZ (ww hw 210 rfl)) (mvT hZ (ww hw 207 rfl)) (mvT hZ (ww hw 211 rfl)) (by decide) (backOf (W := 0) (rm40 l Z a0 hw [] a1 p2 b1 p3 kc CL k1 fN h1 n0 (Nat.le_trans Z0 K1.1) fk3 V1 hCL hok ⟨by omega, hl3.2⟩ hfN ne_a1_b1 g_b1 hp2) hZ (ww hw 211 rfl) (ww hw 207 rfl) (by decide) (by decide)) (g := (mkF m 9 #[vR a1, vI p2, vI p3, vR b1, .unset, .unset] [iI p3, iI 0, iR b1, iI p2, iR a1])) rfl (by rw [hml]; rfl) (argsL := [(.ref a1), (.int p2), (.ref b1), (.int (0 : Int32)), (.int p3)]) (rest := []) (lenOf pd_7 rfl) rfl (wz rfl) (hb hby d39_9) (fun _ _ => ⟨rfl, e1, (by decide : 1 + 0 ≤ _), (by decide : 18 + 0 ≤ _)⟩)
  dsimp only [Pt.U, Pt.locs, Pt.cells, Pt.slots] at X2 l2 y2 z2 st2 hQ2
  subst l2 y2 z2
  obtain ⟨rfl, N2q, K2q, V2q⟩ := hQ2
  have N2 := Fr.app N0 N2q
  have K2 : Keep h0 T2.heap [] := Keep.trans K1 K2q (allS (Or.inr sz_b1) all0)
  obtain ⟨fs, hr, hrun, hended, hW, hsame⟩ := X2.leave (v := some (.ref b1)) (fun h => by rw [Bd.returns] at h; cases h)
  refine ⟨_, _, pre0 _ ?_, hrun, hended, _, _, rfl, ?_, ⟨_, rfl⟩, hW, hsame.mono (by decide) (by decide)⟩
  · show SA s₁ m 0 #[vR a1, vI p2, vI p3, .unset, .unset, .unset] []
    refine XS.iloadN X0.here hx rfl (hb hby d39_0) rfl ?_
    show SA s₁ m 1 #[vR a1, vI p2, vI p3, .unset, .unset, .unset] [iI p3]
    refine st1 _ ?_
    show SA T1 m 3 #[vR a1, vI p2, vI p3, .unset, .unset, .unset] [iR b1]
    refine XS.astoreN X1.here hx rfl (hb hby d39_3) rfl rfl (l' := #[vR a1, vI p2, vI p3, vR b1, .unset, .unset]) rfl ?_
    show SA T1 m 4 #[vR a1, vI p2, vI p3, vR b1, .unset, .unset] []
    refine XS.aloadN X1.here hx rfl (hb hby d39_4) rfl rfl ?_
    show SA T1 m 5 #[vR a1, vI p2, vI p3, vR b1, .unset, .unset] [iR a1]
    refine XS.iloadN X1.here hx rfl (hb hby d39_5) rfl ?_
    show SA T1 m 6 #[vR a1, vI p2, vI p3, vR b1, .unset, .unset] [iI p2, iR a1]
    refine XS.aloadN X1.here hx rfl (hb hby d39_6) rfl rfl ?_
    show SA T1 m 7 #[vR a1, vI p2, vI p3, vR b1, .unset, .unset] [iR b1, iI p2, iR a1]
    refine XS.iconst X1.here hx rfl (hb hby d39_7) ?_
    show SA T1 m 8 #[vR a1, vI p2, vI p3, vR b1, .unset, .unset] [iI 0, iR b1, iI p2, iR a1]
    refine XS.iloadN X1.here hx rfl (hb hby d39_8) rfl ?_
    show SA T1 m 9 #[vR a1, vI p2, vI p3, vR b1, .unset, .unset] [iI p3, iI 0, iR b1, iI p2, iR a1]
    refine st2 _ ?_
    show SA T2 m 12 #[vR a1, vI p2, vI p3, vR b1, .unset, .unset] [iI p3]
    refine XS.istore X2.here hx rfl (hb hby d39_12) rfl (l' := #[vR a1, vI p2, vI p3, vR b1, vI p3, .unset]) rfl ?_
    show SA T2 m 14 #[vR a1, vI p2, vI p3, vR b1, vI p3, .unset] []
    refine XS.iload X2.here hx rfl (hb hby d39_14) rfl ?_
    show SA T2 m 16 #[vR a1, vI p2, vI p3, vR b1, vI p3, .unset] [iI p3]
    refine XS.iloadN X2.here hx rfl (hb hby d39_16) rfl ?_
    show SA T2 m 17 #[vR a1, vI p2, vI p3, vR b1, vI p3, .unset] [iI p3, iI p3]
    refine XS.icmpYes X2.here hx rfl (pc0 := 17) (pc' := 57) rfl (hb hby d39_17) rfl (teq (rfl : p3 = p3)).1 (by decide) (by decide) ?_
    show SA T2 m 57 #[vR a1, vI p2, vI p3, vR b1, vI p3, .unset] []
    refine XS.aloadN X2.here hx rfl (hb hby d39_57) rfl rfl ?_
    show Steps _ _ _ (T2.setTop (mkF m 58 #[vR a1, vI p2, vI p3, vR b1, vI p3, .unset] [iR b1])) _
    jvm_step X2.here [X2.here.top, hx, (hb hby d39_58), X2.method', Bd.returns, Value.isRef, FieldType.isReference]
    first | (intro acts; rw [hr _ acts rfl rfl rfl]) | rw [hr _ _ rfl rfl rfl]
    exact Steps.refl _
  · show Q39 Z a1 p2 p3 kc CL fN h0 n0 _ T2.heap _
    exact ⟨_, _, rfl, N2, K2, V2q, sz_b1⟩
theorem d41_0 : decode jdk_52_method_15_code 0 = .ok (.iload_n 1, 1) := by decide +kernel
theorem d41_1 : decode jdk_52_method_15_code 1 = .ok (.aload_n 0, 1) := by decide +kernel
theorem d41_2 : decode jdk_52_method_15_code 2 = .ok (.arraylength, 1) := by decide +kernel
theorem d41_3 : decode jdk_52_method_15_code 3 = .ok (.isub, 1) := by decide +kernel
theorem d41_4 : decode jdk_52_method_15_code 4 = .ok (.bipush 31, 2) := by decide +kernel
theorem d41_6 : decode jdk_52_method_15_code 6 = .ok (.iushr, 1) := by decide +kernel
theorem d41_7 : decode jdk_52_method_15_code 7 = .ok (.i2b, 1) := by decide +kernel
theorem d41_8 : decode jdk_52_method_15_code 8 = .ok (.ireturn, 1) := by decide +kernel
theorem ef_41 (m : MethodId) (x0 : Addr) (x1 : Int32) : entryFrame m #[(.ref x0), (.int x1)] 2 = mkF m 0 #[.val (.ref x0), .val (.int x1)] [] := by first | (simp [entryFrame, mkF, argsToLocals, Value.category]; done) | rfl
def Q41 (Z : State) (a1 : Addr) (p2 : Int32) (kb : ClassId) (A : List Int32) (h0 : Heap) (v : Option Value) (h : Heap) (L : List Loc) : Prop := v = some (.int (0 : Int32)) ∧ L = [] ∧ h = h0
theorem rm41 (l : Launch) (Z : State) (a0 : Array Value) (hw : ∀ d ∈ tables_1, d.before a0 Z = true) (ws : List Jvm.Cond) (a1 : Addr) (p2 : Int32) (kb : ClassId) (A : List Int32) (h0 : Heap) (V_b : Arv Z h0 a1 kb .byte p2 (own_bs A) (.int (0 : Int32))) :
    MetFree l mn_11 (head1 (Jvm.Cond.code mn_11 jdk_52_method_15_code 2 (some .byte) :: ws) ({ frames := 0, cells := 0, slots := 0, locals := 0 } : Room)) (fun a U => a = #[(.ref a1), (.int p2)] ∧ Z.Warmed39 U.vm ∧ U.heap = h0) (fun _ _ _ _ _ => True) (fun _ U o U' => ∃ v L, o = .returned v ∧ Q41 Z a1 p2 kb A h0 v U'.heap L ∧ FrameEnd U o U' L ({ frames := 0, cells := 0, slots := 0, locals := 0 } : Room).cells ({ frames := 0, cells := 0, slots := 0, locals := 0 } : Room).slots) := by
  refine MetFree.of_bodySF (plainFor_of_name pn_5) hisR ?_
  intro p e s m args below meth c s₁ Bd hml0 hP hK
  obtain ⟨rfl, hZ, hh⟩ := hP
  have hx := Bd.exec
  have hby := Bd.bytes
  have hml : c.maxLocals = 2 := hml0
  have hown : s.vm.findClass "java/lang/StringUTF16" = some m.cls := findClass_of_methodNamed Bd.named
  have hnm := (name_of_methodNamed Bd.named Bd.method).1
  have X0 : Stand p l e ({ frames := 0, cells := 0, slots := 0, locals := 0 } : Room) s m #[(.ref a1), (.int p2)] below meth c s₁ [] 0 0 := Stand.of_body Bd
  have e0 : s₁.heap = h0 := by rw [← hh, Bd.state]; rfl
  have pre0 : ∀ t, Steps p.tables e below (s₁.setTop (mkF m 0 #[.val (.ref a1), .val (.int p2)] [])) t → Steps p.tables e below (s₁.setTop (entryFrame m #[(.ref a1), (.int p2)] 2)) t := fun t k => castTop (ef_41 m a1 p2) k
  obtain ⟨cl1, Ar1, q1, S1, M1, H1, G1⟩ := id V_b
  obtain ⟨fs, hr, hrun, hended, hW, hsame⟩ := X0.leave (v := some (.int (0 : Int32))) (fun h => by rw [Bd.returns] at h; cases h)
  refine ⟨_, _, pre0 _ ?_, hrun, hended, _, _, rfl, ?_, ⟨_, rfl⟩, hW, hsame.mono (by decide) (by decide)⟩
  · show SA s₁ m 0 #[vR a1, vI p2] []
    refine XS.iloadN X0.here hx rfl (hb hby d41_0) rfl ?_
    show SA s₁ m 1 #[vR a1, vI p2] [iI p2]
    refine XS.aloadN X0.here hx rfl (hb hby d41_1) rfl rfl ?_
    show SA s₁ m 2 #[vR a1, vI p2] [iR a1, iI p2]
    refine X0.arraylength hx (by rw [e0]; exact Ar1.1) (State.isArrayOf_alike hZ.alike Ar1.2.1) (g := (mkF m 2 #[vR a1, vI p2] [iR a1, iI p2])) rfl rfl (hb hby d41_2) _ ?_
    rw [len_of S1 M1]
    show SA s₁ m 3 #[vR a1, vI p2] [iI p2, iI p2]
    refine XS.isub X0.here hx rfl (hb hby d41_3) rfl ?_
    rw [own_subz]
    show SA s₁ m 4 #[vR a1, vI p2] [iI 0]
    refine XS.bipush X0.here hx rfl (hb hby d41_4) ?_
    show SA s₁ m 6 #[vR a1, vI p2] [iI 31, iI 0]
    refine XS.iushr X0.here hx rfl (hb hby d41_6) rfl ?_
    rw [(by decide : (((0 : Int32).toUInt32 >>> ((31 : Int32) &&& 31).toUInt32).toInt32) = (0 : Int32))]
    show SA s₁ m 7 #[vR a1, vI p2] [iI 0]
    refine XS.i2b X0.here hx rfl (hb hby d41_7) rfl ?_
    rw [(by decide : (0 : Int32).toInt8.toInt32 = (0 : Int32))]
    show Steps _ _ _ (s₁.setTop (mkF m 8 #[vR a1, vI p2] [iI 0])) _
    exact retN X0 hx (t := .byte) Bd.returns (by simp) (hb hby d41_8) hr
  · show Q41 Z a1 p2 kb A h0 _ s₁.heap _
    rw [e0]
    exact ⟨rfl, rfl, rfl⟩
theorem d38_0 : decode jdk_42_method_149_code 0 = .ok (.aload_n 0, 1) := by decide +kernel
theorem d38_1 : decode jdk_42_method_149_code 1 = .ok (.invokespecial 1, 3) := by decide +kernel
theorem d38_4 : decode jdk_42_method_149_code 4 = .ok (.iload_n 3, 1) := by decide +kernel
theorem d38_5 : decode jdk_42_method_149_code 5 = .ok (.ifCond .ne 22, 3) := by decide +kernel
theorem d38_27 : decode jdk_42_method_149_code 27 = .ok (.getstatic 38, 3) := by decide +kernel
theorem d38_30 : decode jdk_42_method_149_code 30 = .ok (.ifCond .eq 28, 3) := by decide +kernel
theorem d38_33 : decode jdk_42_method_149_code 33 = .ok (.aload_n 1, 1) := by decide +kernel
theorem d38_34 : decode jdk_42_method_149_code 34 = .ok (.iload_n 2, 1) := by decide +kernel
theorem d38_35 : decode jdk_42_method_149_code 35 = .ok (.iload_n 3, 1) := by decide +kernel
theorem d38_36 : decode jdk_42_method_149_code 36 = .ok (.invokestatic 177, 3) := by decide +kernel
theorem d38_39 : decode jdk_42_method_149_code 39 = .ok (.astore 5, 2) := by decide +kernel
theorem d38_41 : decode jdk_42_method_149_code 41 = .ok (.aload_n 0, 1) := by decide +kernel
theorem d38_42 : decode jdk_42_method_149_code 42 = .ok (.aload 5, 2) := by decide +kernel
theorem d38_44 : decode jdk_42_method_149_code 44 = .ok (.iload_n 3, 1) := by decide +kernel
theorem d38_45 : decode jdk_42_method_149_code 45 = .ok (.invokestatic 47, 3) := by decide +kernel
theorem d38_48 : decode jdk_42_method_149_code 48 = .ok (.putfield 15, 3) := by decide +kernel
theorem d38_51 : decode jdk_42_method_149_code 51 = .ok (.aload_n 0, 1) := by decide +kernel
theorem d38_52 : decode jdk_42_method_149_code 52 = .ok (.aload 5, 2) := by decide +kernel
theorem d38_54 : decode jdk_42_method_149_code 54 = .ok (.putfield 9, 3) := by decide +kernel
theorem d38_57 : decode jdk_42_method_149_code 57 = .ok (.return_, 1) := by decide +kernel
theorem ef_38 (m : MethodId) (x0 : Addr) (x1 : Addr) (x2 : Int32) (x3 : Int32) : entryFrame m #[(.ref x0), (.ref x1), (.int x2), (.int x3), .null] 6 = mkF m 0 #[.val (.ref x0), .val (.ref x1), .val (.int x2), .val (.int x3), .val .null, .unset] [] := by first | (simp [entryFrame, mkF, argsToLocals, Value.category]; done) | rfl
def Q38 (Z : State) (a1 : Addr) (a2 : Addr) (p3 : Int32) (p4 : Int32) (kc : ClassId) (CL : List Int32) (fN : Nat) (cs : Int32) (h0 : Heap) (n0 : Nat) (v : Option Value) (h : Heap) (L : List Loc) : Prop := ∃ (b : Addr) (kb : ClassId), v = none ∧ Fr n0 L ∧ Keep h0 h [a1] ∧ Exa Z h a1 "java/lang/String" ∧ Fld Z h a1 "java/lang/String" "coder" "B" (.int (0 : Int32)) ∧ Fld Z h a1 "java/lang/String" "value" "[B" (.ref b) ∧ Arv Z h b kb .byte p4 (own_bs (own_seg CL fN p4.toNatClampNeg)) (.int (0 : Int32)) ∧ h0.size ≤ b
theorem rm38 (l : Launch) (Z : State) (a0 : Array Value) (hw : ∀ d ∈ tables_1, d.before a0 Z = true) (ws : List Jvm.Cond) (a1 : Addr) (a2 : Addr) (p3 : Int32) (p4 : Int32) (kc : ClassId) (CL : List Int32) (fN : Nat) (cs : Int32) (h0 : Heap) (n0 : Nat) (Z0 : n0 ≤ h0.size) (O0 : Old Z n0 h0) (E_a1 : Exa Z h0 a1 "java/lang/String") (g_a1 : n0 ≤ a1) (F_v : Fld Z h0 a1 "java/lang/String" "value" "[B" .null) (F_c : Fld Z h0 a1 "java/lang/String" "coder" "B" (.int (0 : Int32))) (V_c : Arv Z h0 a2 kc .char (20 : Int32) (own_bs CL) (.int (0 : Int32))) (ne_a1_a2 : a1 ≠ a2) (hCL : CL.length = 20) (hok : ∀ x ∈ CL, x ∈ own_chars) (hl4 : 17 ≤ p4.toInt ∧ p4.toInt ≤ 18) (hfN : fN ≤ 2) (hp3 : p3.toInt = (fN : Int)) (S_CS : Sta Z Z.heap "java/lang/String" "COMPACT_STRINGS" "Z" (.int cs)) (h_cs : ¬ cs = (0 : Int32)) :
    MetFree l mn_12 (head1 (Jvm.Cond.code mn_12 jdk_42_method_149_code 6 none :: ws) ({ frames := 2, cells := 1, slots := 18, locals := 35 } : Room)) (fun a U => a = #[(.ref a1), (.ref a2), (.int p3), (.int p4), .null] ∧ Z.Warmed39 U.vm ∧ U.heap = h0) (fun _ _ _ _ _ => True) (fun _ U o U' => ∃ v L, o = .returned v ∧ Q38 Z a1 a2 p3 p4 kc CL fN cs h0 n0 v U'.heap L ∧ FrameEnd U o U' L ({ frames := 2, cells := 1, slots := 18, locals := 35 } : Room).cells ({ frames := 2, cells := 1, slots := 18, locals := 35 } : Room).slots) := by
  refine MetFree.of_bodySF (plainFor_of_name pn_0) hisR ?_
  intro p e s m args below meth c s₁ Bd hml0 hP hK
  obtain ⟨rfl, hZ, hh⟩ := hP
  have hx := Bd.exec
  have hby := Bd.bytes
  have hml : c.maxLocals = 6 := hml0
  have hown : s.vm.findClass "java/lang/String" = some m.cls := findClass_of_methodNamed Bd.named
  have hnm := (name_of_methodNamed Bd.named Bd.method).1
  have X0 : Stand p l e ({ frames := 2, cells := 1, slots := 18, locals := 35 } : Room) s m #[(.ref a1), (.ref a2), (.int p3), (.int p4), .null] below meth c s₁ [] 0 0 := Stand.of_body Bd
  have e0 : s₁.heap = h0 := by rw [← hh, Bd.state]; rfl
  have N0 := Fr.nil n0
  have K0 := Keep.refl h0 [a1]
  have pre0 : ∀ t, Steps p.tables e below (s₁.setTop (mkF m 0 #[.val (.ref a1), .val (.ref a2), .val (.int p3), .val (.int p4), .val .null, .unset] [])) t → Steps p.tables e below (s₁.setTop (entryFrame m #[(.ref a1), (.ref a2), (.int p3), (.int p4), .null] 6)) t := fun t k => castTop (ef_38 m a1 a2 p3 p4) k
  obtain ⟨T1, X1, e1, st1⟩ := initO X0 hx hZ hown (ww hw 132 rfl) (ww hw 27 rfl) (ww hw 28 rfl) e0 (g := (mkF m 1 #[vR a1, vR a2, vI p3, vI p4, .val .null, .unset] [iR a1])) rfl (by rw [hml]; rfl) rfl (hb hby d38_1) (by decide) (W := 0) (wz rfl) (by decide)
  obtain ⟨T2, X2, e2, st2⟩ := getS2 X1 hx hZ hown (host := "") (Or.inl (ww hw 79 rfl)) Via.refl e1 (S_CS.ext O0.2) (g := (mkF m 27 #[vR a1, vR a2, vI p3, vI p4, .val .null, .unset] [])) rfl (hb hby d38_27)
  obtain ⟨_, _, ⟨T3, L3, k3, n3⟩, -, X3, ⟨Lc3, hQ3, l3, y3, z3⟩, st3⟩ := Jvm.LawKit.callS X2 hx (y := mn_10) hown (mvT hZ (ww hw 205 rfl)) (mvT hZ (ww hw 206 rfl)) (mvT hZ (ww hw 207 rfl)) (mvT hZ (ww hw 208 rfl)) (by decide) (backOf (W := 0) (rm39 l Z a0 hw [] a2 p3 p4 kc CL fN h0 n0 (Nat.le_trans Z0 K0.1) V_c hCL hok hl4 hfN hp3) hZ (ww hw 208 rfl) (ww hw 207 rfl) (by decide) (by decide)) (g := (mkF m 36 #[vR a1, vR a2, vI p3, vI p4, .val .null, .unset] [iI p4, iI p3, iR a2])) rfl (by rw [hml]; rfl) (argsL := [(.ref a2), (.int p3), (.int p4)]) (rest := []) (lenOf pd_8 rfl) rfl (wz rfl) (hb hby d38_36) (fun _ _ => ⟨rfl, e2, (by decide : 0 + 1 ≤ _), (by decide : 0 + 18 ≤ _)⟩)
  dsimp only [Pt.U, Pt.locs, Pt.cells, Pt.slots] at X3 l3 y3 z3 st3 hQ3
  subst l3 y3 z3
  obtain ⟨d3, kd3, rfl, N3q, K3q, V3q, z_d3⟩ := hQ3
  have ne_a1_d3 : a1 ≠ d3 := Nat.ne_of_lt (Nat.lt_of_lt_of_le E_a1.lt z_d3)
  have ne_a2_d3 : a2 ≠ d3 := Nat.ne_of_lt (Nat.lt_of_lt_of_le V_c.lt z_d3)
  have sz_d3 : h0.size ≤ d3 := Nat.le_trans K0.1 z_d3
  have g_d3 : n0 ≤ d3 := Nat.le_trans Z0 sz_d3
  have N3 := Fr.app N0 N3q
  have K3 : Keep h0 T3.heap [a1] := Keep.trans K0 K3q all0
  obtain ⟨_, _, ⟨T4, L4, k4, n4⟩, -, X4, ⟨Lc4, hQ4, l4, y4, z4⟩, st4⟩ := Jvm.LawKit.callS X3 hx (y := mn_11) hown (mvT hZ (ww hw 212 rfl)) (mvT hZ (ww hw 213 rfl)) (mvT hZ (ww hw 207 rfl)) (mvT hZ (ww hw 214 rfl)) (by decide) (backOf (W := 1) (rm41 l Z a0 hw [] d3 p4 kd3 (own_seg CL fN p4.toNatClampNeg) T3.heap V3q) hZ (ww hw 214 rfl) (ww hw 207 rfl) (by decide) (by decide)) (g := (mkF m 45 #[vR a1, vR a2, vI p3, vI p4, .val .null, vR d3] [iI p4, iR d3, iR a1])) rfl (by rw [hml]; rfl) (argsL := [(.ref d3), (.int p4)]) (rest := [(.ref a1)]) (lenOf pd_9 rfl) rfl (wz rfl) (hb hby d38_45) (fun _ _ => ⟨rfl, rfl, (by decide : 1 + 0 ≤ _), (by decide : 18 + 0 ≤ _)⟩)
  dsimp only [Pt.U, Pt.locs, Pt.cells, Pt.slots] at X4 l4 y4 z4 st4 hQ4
  subst l4 y4 z4
  obtain ⟨rfl, rfl, e4⟩ := hQ4
  try rw [List.append_nil] at X4
  have fk5 := (F_c.keep K3q nin0)
  have fk6 := (E_a1.keep K3q)
  obtain ⟨T7, h7, X7, e7, W7, st7⟩ := putFN X4 hx hZ hown (ww hw 80 rfl) Via.refl e4 fk5 fk6 (Or.inr ⟨(ww hw 66 rfl), rfl, hnm⟩) (ww hw 64 rfl) (ty := .byte) (v' := (.int (0 : Int32))) (by decide) rfl (by decide) (g := (mkF m 48 #[vR a1, vR a2, vI p3, vI p4, .val .null, vR d3] [iI 0, iR a1])) rfl rfl (hb hby d38_48)
  have Fw7 := fk5.same W7
  have K7 : Keep h0 h7 [a1] := K3.wr W7 (Or.inl (List.mem_of_getElem? (i := 0) rfl))
  have N7 := Fr.snoc X7 N3 g_a1
  have fk8 := ((F_v.keep K3q nin0).other W7 (Or.inr (slot_ne (Or.inr (ww hw 65 rfl)) (Or.inr (ww hw 66 rfl)) (by decide) (t := (.array .byte)) (t' := .byte) (by decide) (by decide))))
  have fk9 := (fk6.wr W7)
  obtain ⟨T10, h10, X10, e10, W10, st10⟩ := putF X7 hx hZ hown (host := "") (Or.inl (ww hw 81 rfl)) Via.refl e7 fk8 fk9 (Or.inr ⟨(ww hw 65 rfl), rfl, hnm⟩) (ww hw 64 rfl) (ty := (.array .byte)) (by decide) rfl rfl (g := (mkF m 54 #[vR a1, vR a2, vI p3, vI p4, .val .null, vR d3] [iR d3, iR a1])) rfl rfl (hb hby d38_54)
  have Fw10 := fk8.same W10
  have K10 : Keep h0 h10 [a1] := K7.wr W10 (Or.inl (List.mem_of_getElem? (i := 0) rfl))
  have N10 := Fr.snoc X10 N7 g_a1
  obtain ⟨fs, hr, hrun, hended, hW, hsame⟩ := X10.leave (v := none) (fun _ => rfl)
  have fk11 := (fk9.wr W10)
  have fk12 := (Fw7.other W10 (Or.inr (slot_ne (Or.inr (ww hw 66 rfl)) (Or.inr (ww hw 65 rfl)) (by decide) (t := .byte) (t' := (.array .byte)) (by decide) (by decide))))
  have fk13 := ((V3q.other W7 (Ne.symm ne_a1_d3)).other W10 (Ne.symm ne_a1_d3))
  refine ⟨_, _, pre0 _ ?_, hrun, hended, _, _, rfl, ?_, ⟨_, rfl⟩, hW, hsame.mono (by decide) (by decide)⟩
  · show SA s₁ m 0 #[vR a1, vR a2, vI p3, vI p4, .val .null, .unset] []
    refine XS.aloadN X0.here hx rfl (hb hby d38_0) rfl rfl ?_
    show SA s₁ m 1 #[vR a1, vR a2, vI p3, vI p4, .val .null, .unset] [iR a1]
    refine st1 _ ?_
    show SA T1 m 4 #[vR a1, vR a2, vI p3, vI p4, .val .null, .unset] []
    refine XS.iloadN X1.here hx rfl (hb hby d38_4) rfl ?_
    show SA T1 m 5 #[vR a1, vR a2, vI p3, vI p4, .val .null, .unset] [iI p4]
    refine XS.ifYes X1.here hx rfl (pc0 := 5) (pc' := 27) rfl (hb hby d38_5) rfl ((if0 _ _).trans (feq (fun e => absurd hl4.1 (by rw [e]; decide))).2) (by decide) (by decide) ?_
    show SA T1 m 27 #[vR a1, vR a2, vI p3, vI p4, .val .null, .unset] []
    refine st2 _ ?_
    show SA T2 m 30 #[vR a1, vR a2, vI p3, vI p4, .val .null, .unset] [iI cs]
    refine XS.ifNo X2.here hx rfl (hb hby d38_30) rfl ((if0 _ _).trans (feq h_cs).1) ?_
    show SA T2 m 33 #[vR a1, vR a2, vI p3, vI p4, .val .null, .unset] []
    refine XS.aloadN X2.here hx rfl (hb hby d38_33) rfl rfl ?_
    show SA T2 m 34 #[vR a1, vR a2, vI p3, vI p4, .val .null, .unset] [iR a2]
    refine XS.iloadN X2.here hx rfl (hb hby d38_34) rfl ?_
    show SA T2 m 35 #[vR a1, vR a2, vI p3, vI p4, .val .null, .unset] [iI p3, iR a2]
    refine XS.iloadN X2.here hx rfl (hb hby d38_35) rfl ?_
    show SA T2 m 36 #[vR a1, vR a2, vI p3, vI p4, .val .null, .unset] [iI p4, iI p3, iR a2]
    refine st3 _ ?_
    show SA T3 m 39 #[vR a1, vR a2, vI p3, vI p4, .val .null, .unset] [iR d3]
    refine XS.astore X3.here hx rfl (hb hby d38_39) rfl rfl (l' := #[vR a1, vR a2, vI p3, vI p4, .val .null, vR d3]) rfl ?_
    show SA T3 m 41 #[vR a1, vR a2, vI p3, vI p4, .val .null, vR d3] []
    refine XS.aloadN X3.here hx rfl (hb hby d38_41) rfl rfl ?_
    show SA T3 m 42 #[vR a1, vR a2, vI p3, vI p4, .val .null, vR d3] [iR a1]
    refine XS.aload X3.here hx rfl (hb hby d38_42) rfl rfl ?_
    show SA T3 m 44 #[vR a1, vR a2, vI p3, vI p4, .val .null, vR d3] [iR d3, iR a1]
    refine XS.iloadN X3.here hx rfl (hb hby d38_44) rfl ?_
    show SA T3 m 45 #[vR a1, vR a2, vI p3, vI p4, .val .null, vR d3] [iI p4, iR d3, iR a1]
    refine st4 _ ?_
    show SA T4 m 48 #[vR a1, vR a2, vI p3, vI p4, .val .null, vR d3] [iI 0, iR a1]
    refine st7 _ ?_
    show SA T7 m 51 #[vR a1, vR a2, vI p3, vI p4, .val .null, vR d3] []
    refine XS.aloadN X7.here hx rfl (hb hby d38_51) rfl rfl ?_
    show SA T7 m 52 #[vR a1, vR a2, vI p3, vI p4, .val .null, vR d3] [iR a1]
    refine XS.aload X7.here hx rfl (hb hby d38_52) rfl rfl ?_
    show SA T7 m 54 #[vR a1, vR a2, vI p3, vI p4, .val .null, vR d3] [iR d3, iR a1]
    refine st10 _ ?_
    show Steps _ _ _ (T10.setTop (mkF m 57 #[vR a1, vR a2, vI p3, vI p4, .val .null, vR d3] [])) _
    exact X10.returnOut hx Bd.returns (hb hby d38_57) hr
  · show Q38 Z a1 a2 p3 p4 kc CL fN cs h0 n0 _ T10.heap _
    rw [e10]
    exact ⟨_, _, rfl, N10, K10, fk11, fk12, Fw10, fk13, sz_d3⟩
theorem d37_0 : decode jdk_41_method_13_code 0 = .ok (.iload_n 2, 1) := by decide +kernel
theorem d37_1 : decode jdk_41_method_13_code 1 = .ok (.iload_n 0, 1) := by decide +kernel
theorem d37_2 : decode jdk_41_method_13_code 2 = .ok (.ior, 1) := by decide +kernel
theorem d37_3 : decode jdk_41_method_13_code 3 = .ok (.iload_n 1, 1) := by decide +kernel
theorem d37_4 : decode jdk_41_method_13_code 4 = .ok (.ior, 1) := by decide +kernel
theorem d37_5 : decode jdk_41_method_13_code 5 = .ok (.ifCond .lt 10, 3) := by decide +kernel
theorem d37_8 : decode jdk_41_method_13_code 8 = .ok (.iload_n 1, 1) := by decide +kernel
theorem d37_9 : decode jdk_41_method_13_code 9 = .ok (.iload_n 2, 1) := by decide +kernel
theorem d37_10 : decode jdk_41_method_13_code 10 = .ok (.iload_n 0, 1) := by decide +kernel
theorem d37_11 : decode jdk_41_method_13_code 11 = .ok (.isub, 1) := by decide +kernel
theorem d37_12 : decode jdk_41_method_13_code 12 = .ok (.if_icmp .le 11, 3) := by decide +kernel
theorem d37_23 : decode jdk_41_method_13_code 23 = .ok (.iload_n 0, 1) := by decide +kernel
theorem d37_24 : decode jdk_41_method_13_code 24 = .ok (.ireturn, 1) := by decide +kernel
theorem ef_37_n (m : MethodId) (x0 : Int32) (x1 : Int32) (x2 : Int32) : entryFrame m #[(.int x0), (.int x1), (.int x2), .null] 4 = mkF m 0 #[.val (.int x0), .val (.int x1), .val (.int x2), .val .null] [] := by first | (simp [entryFrame, mkF, argsToLocals, Value.category]; done) | rfl
def Q37_n (Z : State) (p1 : Int32) (p2 : Int32) (p3 : Int32) (h0 : Heap) (v : Option Value) (h : Heap) (L : List Loc) : Prop := v = some (.int p1) ∧ L = [] ∧ h = h0
theorem rm37_n (l : Launch) (Z : State) (a0 : Array Value) (hw : ∀ d ∈ tables_1, d.before a0 Z = true) (ws : List Jvm.Cond) (p1 : Int32) (p2 : Int32) (p3 : Int32) (h0 : Heap) (h5 : ¬ ((p3 ||| p1) ||| p2) < (0 : Int32)) (h12 : ¬ (p3 - p1) < p2) :
    MetFree l mn_13 (head1 (Jvm.Cond.code mn_13 jdk_41_method_13_code 4 (some .int) :: ws) ({ frames := 0, cells := 0, slots := 0, locals := 0 } : Room)) (fun a U => a = #[(.int p1), (.int p2), (.int p3), .null] ∧ Z.Warmed39 U.vm ∧ U.heap = h0) (fun _ _ _ _ _ => True) (fun _ U o U' => ∃ v L, o = .returned v ∧ Q37_n Z p1 p2 p3 h0 v U'.heap L ∧ FrameEnd U o U' L ({ frames := 0, cells := 0, slots := 0, locals := 0 } : Room).cells ({ frames := 0, cells := 0, slots := 0, locals := 0 } : Room).slots) := by
  refine MetFree.of_bodySF (plainFor_of_name pn_1) hisR ?_
  intro p e s m args below meth c s₁ Bd hml0 hP hK
  obtain ⟨rfl, hZ, hh⟩ := hP
  have hx := Bd.exec
  have hby := Bd.bytes
  have hml : c.maxLocals = 4 := hml0
  have hown : s.vm.findClass "jdk/internal/util/Preconditions" = some m.cls := findClass_of_methodNamed Bd.named
  have hnm := (name_of_methodNamed Bd.named Bd.method).1
  have X0 : Stand p l e ({ frames := 0, cells := 0, slots := 0, locals := 0 } : Room) s m #[(.int p1), (.int p2), (.int p3), .null] below meth c s₁ [] 0 0 := Stand.of_body Bd
  have e0 : s₁.heap = h0 := by rw [← hh, Bd.state]; rfl
  have pre0 : ∀ t, Steps p.tables e below (s₁.setTop (mkF m 0 #[.val (.int p1), .val (.int p2), .val (.int p3), .val .null] [])) t → Steps p.tables e below (s₁.setTop (entryFrame m #[(.int p1), (.int p2), (.int p3), .null] 4)) t := fun t k => castTop (ef_37_n m p1 p2 p3) k
  obtain ⟨fs, hr, hrun, hended, hW, hsame⟩ := X0.leave (v := some (.int p1)) (fun h => by rw [Bd.returns] at h; cases h)
  refine ⟨_, _, pre0 _ ?_, hrun, hended, _, _, rfl, ?_, ⟨_, rfl⟩, hW, hsame.mono (by decide) (by decide)⟩
  · show SA s₁ m 0 #[vI p1, vI p2, vI p3, .val .null] []
    refine XS.iloadN X0.here hx rfl (hb hby d37_0) rfl ?_
    show SA s₁ m 1 #[vI p1, vI p2, vI p3, .val .null] [iI p3]
    refine XS.iloadN X0.here hx rfl (hb hby d37_1) rfl ?_
    show SA s₁ m 2 #[vI p1, vI p2, vI p3, .val .null] [iI p1, iI p3]
    refine XS.ior X0.here hx rfl (hb hby d37_2) rfl ?_
    show SA s₁ m 3 #[vI p1, vI p2, vI p3, .val .null] [iI (p3 ||| p1)]
    refine XS.iloadN X0.here hx rfl (hb hby d37_3) rfl ?_
    show SA s₁ m 4 #[vI p1, vI p2, vI p3, .val .null] [iI p2, iI (p3 ||| p1)]
    refine XS.ior X0.here hx rfl (hb hby d37_4) rfl ?_
    show SA s₁ m 5 #[vI p1, vI p2, vI p3, .val .null] [iI ((p3 ||| p1) ||| p2)]
    refine XS.ifNo X0.here hx rfl (hb hby d37_5) rfl ((if0 _ _).trans (flt h5).1) ?_
    show SA s₁ m 8 #[vI p1, vI p2, vI p3, .val .null] []
    refine XS.iloadN X0.here hx rfl (hb hby d37_8) rfl ?_
    show SA s₁ m 9 #[vI p1, vI p2, vI p3, .val .null] [iI p2]
    refine XS.iloadN X0.here hx rfl (hb hby d37_9) rfl ?_
    show SA s₁ m 10 #[vI p1, vI p2, vI p3, .val .null] [iI p3, iI p2]
    refine XS.iloadN X0.here hx rfl (hb hby d37_10) rfl ?_
    show SA s₁ m 11 #[vI p1, vI p2, vI p3, .val .null] [iI p1, iI p3, iI p2]
    refine XS.isub X0.here hx rfl (hb hby d37_11) rfl ?_
    show SA s₁ m 12 #[vI p1, vI p2, vI p3, .val .null] [iI (p3 - p1), iI p2]
    refine XS.icmpYes X0.here hx rfl (pc0 := 12) (pc' := 23) rfl (hb hby d37_12) rfl (flt h12).2.2.2 (by decide) (by decide) ?_
    show SA s₁ m 23 #[vI p1, vI p2, vI p3, .val .null] []
    refine XS.iloadN X0.here hx rfl (hb hby d37_23) rfl ?_
    show Steps _ _ _ (s₁.setTop (mkF m 24 #[vI p1, vI p2, vI p3, .val .null] [iI p1])) _
    exact retI X0 hx Bd.returns (hb hby d37_24) hr
  · show Q37_n Z p1 p2 p3 h0 _ s₁.heap _
    rw [e0]
    exact ⟨rfl, rfl, rfl⟩
theorem d36_0 : decode jdk_42_method_157_code 0 = .ok (.iload_n 0, 1) := by decide +kernel
theorem d36_1 : decode jdk_42_method_157_code 1 = .ok (.iload_n 1, 1) := by decide +kernel
theorem d36_2 : decode jdk_42_method_157_code 2 = .ok (.iload_n 2, 1) := by decide +kernel
theorem d36_3 : decode jdk_42_method_157_code 3 = .ok (.getstatic 1053, 3) := by decide +kernel
theorem d36_6 : decode jdk_42_method_157_code 6 = .ok (.invokestatic 1065, 3) := by decide +kernel
theorem d36_9 : decode jdk_42_method_157_code 9 = .ok (.ireturn, 1) := by decide +kernel
theorem ef_36_n (m : MethodId) (x0 : Int32) (x1 : Int32) (x2 : Int32) : entryFrame m #[(.int x0), (.int x1), (.int x2)] 3 = mkF m 0 #[.val (.int x0), .val (.int x1), .val (.int x2)] [] := by first | (simp [entryFrame, mkF, argsToLocals, Value.category]; done) | rfl
def Q36_n (Z : State) (p1 : Int32) (p2 : Int32) (p3 : Int32) (h0 : Heap) (v : Option Value) (h : Heap) (L : List Loc) : Prop := v = some (.int p1) ∧ L = [] ∧ h = h0
theorem rm36_n (l : Launch) (Z : State) (a0 : Array Value) (hw : ∀ d ∈ tables_1, d.before a0 Z = true) (ws : List Jvm.Cond) (p1 : Int32) (p2 : Int32) (p3 : Int32) (h0 : Heap) (n0 : Nat) (O0 : Old Z n0 h0) (S_F : Sta Z Z.heap "jdk/internal/util/Preconditions" "SIOOBE_FORMATTER" "Ljava/util/function/BiFunction;" .null) (h5 : ¬ ((p3 ||| p1) ||| p2) < (0 : Int32)) (h12 : ¬ (p3 - p1) < p2) :
    MetFree l mn_14 (head1 (Jvm.Cond.code mn_14 jdk_42_method_157_code 3 (some .int) :: ws) ({ frames := 1, cells := 0, slots := 0, locals := 15 } : Room)) (fun a U => a = #[(.int p1), (.int p2), (.int p3)] ∧ Z.Warmed39 U.vm ∧ U.heap = h0) (fun _ _ _ _ _ => True) (fun _ U o U' => ∃ v L, o = .returned v ∧ Q36_n Z p1 p2 p3 h0 v U'.heap L ∧ FrameEnd U o U' L ({ frames := 1, cells := 0, slots := 0, locals := 15 } : Room).cells ({ frames := 1, cells := 0, slots := 0, locals := 15 } : Room).slots) := by
  refine MetFree.of_bodySF (plainFor_of_name pn_0) hisR ?_
  intro p e s m args below meth c s₁ Bd hml0 hP hK
  obtain ⟨rfl, hZ, hh⟩ := hP
  have hx := Bd.exec
  have hby := Bd.bytes
  have hml : c.maxLocals = 3 := hml0
  have hown : s.vm.findClass "java/lang/String" = some m.cls := findClass_of_methodNamed Bd.named
  have hnm := (name_of_methodNamed Bd.named Bd.method).1
  have X0 : Stand p l e ({ frames := 1, cells := 0, slots := 0, locals := 15 } : Room) s m #[(.int p1), (.int p2), (.int p3)] below meth c s₁ [] 0 0 := Stand.of_body Bd
  have e0 : s₁.heap = h0 := by rw [← hh, Bd.state]; rfl
  have pre0 : ∀ t, Steps p.tables e below (s₁.setTop (mkF m 0 #[.val (.int p1), .val (.int p2), .val (.int p3)] [])) t → Steps p.tables e below (s₁.setTop (entryFrame m #[(.int p1), (.int p2), (.int p3)] 3)) t := fun t k => castTop (ef_36_n m p1 p2 p3) k
  obtain ⟨T1, X1, e1, st1⟩ := getS2 X0 hx hZ hown (host := "") (Or.inl (ww hw 89 rfl)) Via.refl e0 (S_F.ext O0.2) (g := (mkF m 3 #[vI p1, vI p2, vI p3] [iI p3, iI p2, iI p1])) rfl (hb hby d36_3)
  obtain ⟨_, _, ⟨T2, L2, k2, n2⟩, -, X2, ⟨Lc2, hQ2, l2, y2, z2⟩, st2⟩ := Jvm.LawKit.callS X1 hx (y := mn_13) hown (mvT hZ (ww hw 199 rfl)) (mvT hZ (ww hw 200 rfl)) (mvT hZ (ww hw 90 rfl)) (mvT hZ (ww hw 201 rfl)) (by decide) (backOf (W := 0) (rm37_n l Z a0 hw [] p1 p2 p3  h0 h5 h12) hZ (ww hw 201 rfl) (ww hw 90 rfl) (by decide) (by decide)) (g := (mkF m 6 #[vI p1, vI p2, vI p3] [.null, iI p3, iI p2, iI p1])) rfl (by rw [hml]; rfl) (argsL := [(.int p1), (.int p2), (.int p3), .null]) (rest := []) (lenOf pd_10 rfl) rfl (wz rfl) (hb hby d36_6) (fun _ _ => ⟨rfl, e1, (by decide : 0 + 0 ≤ _), (by decide : 0 + 0 ≤ _)⟩)
  dsimp only [Pt.U, Pt.locs, Pt.cells, Pt.slots] at X2 l2 y2 z2 st2 hQ2
  subst l2 y2 z2
  obtain ⟨rfl, rfl, e2⟩ := hQ2
  try rw [List.append_nil] at X2
  obtain ⟨fs, hr, hrun, hended, hW, hsame⟩ := X2.leave (v := some (.int p1)) (fun h => by rw [Bd.returns] at h; cases h)
  refine ⟨_, _, pre0 _ ?_, hrun, hended, _, _, rfl, ?_, ⟨_, rfl⟩, hW, hsame.mono (by decide) (by decide)⟩
  · show SA s₁ m 0 #[vI p1, vI p2, vI p3] []
    refine XS.iloadN X0.here hx rfl (hb hby d36_0) rfl ?_
    show SA s₁ m 1 #[vI p1, vI p2, vI p3] [iI p1]
    refine XS.iloadN X0.here hx rfl (hb hby d36_1) rfl ?_
    show SA s₁ m 2 #[vI p1, vI p2, vI p3] [iI p2, iI p1]
    refine XS.iloadN X0.here hx rfl (hb hby d36_2) rfl ?_
    show SA s₁ m 3 #[vI p1, vI p2, vI p3] [iI p3, iI p2, iI p1]
    refine st1 _ ?_
    show SA T1 m 6 #[vI p1, vI p2, vI p3] [.null, iI p3, iI p2, iI p1]
    refine st2 _ ?_
    show Steps _ _ _ (T2.setTop (mkF m 9 #[vI p1, vI p2, vI p3] [iI p1])) _
    exact retI X2 hx Bd.returns (hb hby d36_9) hr
  · show Q36_n Z p1 p2 p3 h0 _ T2.heap _
    rw [e2]
    exact ⟨rfl, rfl, rfl⟩
theorem ef_37_r (m : MethodId) (x0 : Int32) (x1 : Int32) (x2 : Int32) (x3 : Addr) : entryFrame m #[(.int x0), (.int x1), (.int x2), (.ref x3)] 4 = mkF m 0 #[.val (.int x0), .val (.int x1), .val (.int x2), .val (.ref x3)] [] := by first | (simp [entryFrame, mkF, argsToLocals, Value.category]; done) | rfl
def Q37_r (Z : State) (p1 : Int32) (p2 : Int32) (p3 : Int32) (fa : Addr) (h0 : Heap) (v : Option Value) (h : Heap) (L : List Loc) : Prop := v = some (.int p1) ∧ L = [] ∧ h = h0
theorem rm37_r (l : Launch) (Z : State) (a0 : Array Value) (hw : ∀ d ∈ tables_1, d.before a0 Z = true) (ws : List Jvm.Cond) (p1 : Int32) (p2 : Int32) (p3 : Int32) (fa : Addr) (h0 : Heap) (h5 : ¬ ((p3 ||| p1) ||| p2) < (0 : Int32)) (h12 : ¬ (p3 - p1) < p2) :
    MetFree l mn_13 (head1 (Jvm.Cond.code mn_13 jdk_41_method_13_code 4 (some .int) :: ws) ({ frames := 0, cells := 0, slots := 0, locals := 0 } : Room)) (fun a U => a = #[(.int p1), (.int p2), (.int p3), (.ref fa)] ∧ Z.Warmed39 U.vm ∧ U.heap = h0) (fun _ _ _ _ _ => True) (fun _ U o U' => ∃ v L, o = .returned v ∧ Q37_r Z p1 p2 p3 fa h0 v U'.heap L ∧ FrameEnd U o U' L ({ frames := 0, cells := 0, slots := 0, locals := 0 } : Room).cells ({ frames := 0, cells := 0, slots := 0, locals := 0 } : Room).slots) := by
  refine MetFree.of_bodySF (plainFor_of_name pn_1) hisR ?_
  intro p e s m args below meth c s₁ Bd hml0 hP hK
  obtain ⟨rfl, hZ, hh⟩ := hP
  have hx := Bd.exec
  have hby := Bd.bytes
  have hml : c.maxLocals = 4 := hml0
  have hown : s.vm.findClass "jdk/internal/util/Preconditions" = some m.cls := findClass_of_methodNamed Bd.named
  have hnm := (name_of_methodNamed Bd.named Bd.method).1
  have X0 : Stand p l e ({ frames := 0, cells := 0, slots := 0, locals := 0 } : Room) s m #[(.int p1), (.int p2), (.int p3), (.ref fa)] below meth c s₁ [] 0 0 := Stand.of_body Bd
  have e0 : s₁.heap = h0 := by rw [← hh, Bd.state]; rfl
  have pre0 : ∀ t, Steps p.tables e below (s₁.setTop (mkF m 0 #[.val (.int p1), .val (.int p2), .val (.int p3), .val (.ref fa)] [])) t → Steps p.tables e below (s₁.setTop (entryFrame m #[(.int p1), (.int p2), (.int p3), (.ref fa)] 4)) t := fun t k => castTop (ef_37_r m p1 p2 p3 fa) k
  obtain ⟨fs, hr, hrun, hended, hW, hsame⟩ := X0.leave (v := some (.int p1)) (fun h => by rw [Bd.returns] at h; cases h)
  refine ⟨_, _, pre0 _ ?_, hrun, hended, _, _, rfl, ?_, ⟨_, rfl⟩, hW, hsame.mono (by decide) (by decide)⟩
  · show SA s₁ m 0 #[vI p1, vI p2, vI p3, vR fa] []
    refine XS.iloadN X0.here hx rfl (hb hby d37_0) rfl ?_
    show SA s₁ m 1 #[vI p1, vI p2, vI p3, vR fa] [iI p3]
    refine XS.iloadN X0.here hx rfl (hb hby d37_1) rfl ?_
    show SA s₁ m 2 #[vI p1, vI p2, vI p3, vR fa] [iI p1, iI p3]
    refine XS.ior X0.here hx rfl (hb hby d37_2) rfl ?_
    show SA s₁ m 3 #[vI p1, vI p2, vI p3, vR fa] [iI (p3 ||| p1)]
    refine XS.iloadN X0.here hx rfl (hb hby d37_3) rfl ?_
    show SA s₁ m 4 #[vI p1, vI p2, vI p3, vR fa] [iI p2, iI (p3 ||| p1)]
    refine XS.ior X0.here hx rfl (hb hby d37_4) rfl ?_
    show SA s₁ m 5 #[vI p1, vI p2, vI p3, vR fa] [iI ((p3 ||| p1) ||| p2)]
    refine XS.ifNo X0.here hx rfl (hb hby d37_5) rfl ((if0 _ _).trans (flt h5).1) ?_
    show SA s₁ m 8 #[vI p1, vI p2, vI p3, vR fa] []
    refine XS.iloadN X0.here hx rfl (hb hby d37_8) rfl ?_
    show SA s₁ m 9 #[vI p1, vI p2, vI p3, vR fa] [iI p2]
    refine XS.iloadN X0.here hx rfl (hb hby d37_9) rfl ?_
    show SA s₁ m 10 #[vI p1, vI p2, vI p3, vR fa] [iI p3, iI p2]
    refine XS.iloadN X0.here hx rfl (hb hby d37_10) rfl ?_
    show SA s₁ m 11 #[vI p1, vI p2, vI p3, vR fa] [iI p1, iI p3, iI p2]
    refine XS.isub X0.here hx rfl (hb hby d37_11) rfl ?_
    show SA s₁ m 12 #[vI p1, vI p2, vI p3, vR fa] [iI (p3 - p1), iI p2]
    refine XS.icmpYes X0.here hx rfl (pc0 := 12) (pc' := 23) rfl (hb hby d37_12) rfl (flt h12).2.2.2 (by decide) (by decide) ?_
    show SA s₁ m 23 #[vI p1, vI p2, vI p3, vR fa] []
    refine XS.iloadN X0.here hx rfl (hb hby d37_23) rfl ?_
    show Steps _ _ _ (s₁.setTop (mkF m 24 #[vI p1, vI p2, vI p3, vR fa] [iI p1])) _
    exact retI X0 hx Bd.returns (hb hby d37_24) hr
  · show Q37_r Z p1 p2 p3 fa h0 _ s₁.heap _
    rw [e0]
    exact ⟨rfl, rfl, rfl⟩
theorem ef_36_r (m : MethodId) (x0 : Int32) (x1 : Int32) (x2 : Int32) : entryFrame m #[(.int x0), (.int x1), (.int x2)] 3 = mkF m 0 #[.val (.int x0), .val (.int x1), .val (.int x2)] [] := by first | (simp [entryFrame, mkF, argsToLocals, Value.category]; done) | rfl
def Q36_r (Z : State) (p1 : Int32) (p2 : Int32) (p3 : Int32) (fa : Addr) (h0 : Heap) (v : Option Value) (h : Heap) (L : List Loc) : Prop := v = some (.int p1) ∧ L = [] ∧ h = h0
theorem rm36_r (l : Launch) (Z : State) (a0 : Array Value) (hw : ∀ d ∈ tables_1, d.before a0 Z = true) (ws : List Jvm.Cond) (p1 : Int32) (p2 : Int32) (p3 : Int32) (fa : Addr) (h0 : Heap) (n0 : Nat) (O0 : Old Z n0 h0) (S_F : Sta Z Z.heap "jdk/internal/util/Preconditions" "SIOOBE_FORMATTER" "Ljava/util/function/BiFunction;" (.ref fa)) (h5 : ¬ ((p3 ||| p1) ||| p2) < (0 : Int32)) (h12 : ¬ (p3 - p1) < p2) :
    MetFree l mn_14 (head1 (Jvm.Cond.code mn_14 jdk_42_method_157_code 3 (some .int) :: ws) ({ frames := 1, cells := 0, slots := 0, locals := 15 } : Room)) (fun a U => a = #[(.int p1), (.int p2), (.int p3)] ∧ Z.Warmed39 U.vm ∧ U.heap = h0) (fun _ _ _ _ _ => True) (fun _ U o U' => ∃ v L, o = .returned v ∧ Q36_r Z p1 p2 p3 fa h0 v U'.heap L ∧ FrameEnd U o U' L ({ frames := 1, cells := 0, slots := 0, locals := 15 } : Room).cells ({ frames := 1, cells := 0, slots := 0, locals := 15 } : Room).slots) := by
  refine MetFree.of_bodySF (plainFor_of_name pn_0) hisR ?_
  intro p e s m args below meth c s₁ Bd hml0 hP hK
  obtain ⟨rfl, hZ, hh⟩ := hP
  have hx := Bd.exec
  have hby := Bd.bytes
  have hml : c.maxLocals = 3 := hml0
  have hown : s.vm.findClass "java/lang/String" = some m.cls := findClass_of_methodNamed Bd.named
  have hnm := (name_of_methodNamed Bd.named Bd.method).1
  have X0 : Stand p l e ({ frames := 1, cells := 0, slots := 0, locals := 15 } : Room) s m #[(.int p1), (.int p2), (.int p3)] below meth c s₁ [] 0 0 := Stand.of_body Bd
  have e0 : s₁.heap = h0 := by rw [← hh, Bd.state]; rfl
  have pre0 : ∀ t, Steps p.tables e below (s₁.setTop (mkF m 0 #[.val (.int p1), .val (.int p2), .val (.int p3)] [])) t → Steps p.tables e below (s₁.setTop (entryFrame m #[(.int p1), (.int p2), (.int p3)] 3)) t := fun t k => castTop (ef_36_r m p1 p2 p3) k
  obtain ⟨T1, X1, e1, st1⟩ := getS2 X0 hx hZ hown (host := "") (Or.inl (ww hw 89 rfl)) Via.refl e0 (S_F.ext O0.2) (g := (mkF m 3 #[vI p1, vI p2, vI p3] [iI p3, iI p2, iI p1])) rfl (hb hby d36_3)
  obtain ⟨_, _, ⟨T2, L2, k2, n2⟩, -, X2, ⟨Lc2, hQ2, l2, y2, z2⟩, st2⟩ := Jvm.LawKit.callS X1 hx (y := mn_13) hown (mvT hZ (ww hw 199 rfl)) (mvT hZ (ww hw 200 rfl)) (mvT hZ (ww hw 90 rfl)) (mvT hZ (ww hw 201 rfl)) (by decide) (backOf (W := 0) (rm37_r l Z a0 hw [] p1 p2 p3 fa h0 h5 h12) hZ (ww hw 201 rfl) (ww hw 90 rfl) (by decide) (by decide)) (g := (mkF m 6 #[vI p1, vI p2, vI p3] [iR fa, iI p3, iI p2, iI p1])) rfl (by rw [hml]; rfl) (argsL := [(.int p1), (.int p2), (.int p3), (.ref fa)]) (rest := []) (lenOf pd_10 rfl) rfl (wz rfl) (hb hby d36_6) (fun _ _ => ⟨rfl, e1, (by decide : 0 + 0 ≤ _), (by decide : 0 + 0 ≤ _)⟩)
  dsimp only [Pt.U, Pt.locs, Pt.cells, Pt.slots] at X2 l2 y2 z2 st2 hQ2
  subst l2 y2 z2
  obtain ⟨rfl, rfl, e2⟩ := hQ2
  try rw [List.append_nil] at X2
  obtain ⟨fs, hr, hrun, hended, hW, hsame⟩ := X2.leave (v := some (.int p1)) (fun h => by rw [Bd.returns] at h; cases h)
  refine ⟨_, _, pre0 _ ?_, hrun, hended, _, _, rfl, ?_, ⟨_, rfl⟩, hW, hsame.mono (by decide) (by decide)⟩
  · show SA s₁ m 0 #[vI p1, vI p2, vI p3] []
    refine XS.iloadN X0.here hx rfl (hb hby d36_0) rfl ?_
    show SA s₁ m 1 #[vI p1, vI p2, vI p3] [iI p1]
    refine XS.iloadN X0.here hx rfl (hb hby d36_1) rfl ?_
    show SA s₁ m 2 #[vI p1, vI p2, vI p3] [iI p2, iI p1]
    refine XS.iloadN X0.here hx rfl (hb hby d36_2) rfl ?_
    show SA s₁ m 3 #[vI p1, vI p2, vI p3] [iI p3, iI p2, iI p1]
    refine st1 _ ?_
    show SA T1 m 6 #[vI p1, vI p2, vI p3] [iR fa, iI p3, iI p2, iI p1]
    refine st2 _ ?_
    show Steps _ _ _ (T2.setTop (mkF m 9 #[vI p1, vI p2, vI p3] [iI p1])) _
    exact retI X2 hx Bd.returns (hb hby d36_9) hr
  · show Q36_r Z p1 p2 p3 fa h0 _ T2.heap _
    rw [e2]
    exact ⟨rfl, rfl, rfl⟩
def Q36 (Z : State) (p1 : Int32) (p2 : Int32) (p3 : Int32) (fm : Value) (h0 : Heap) (v : Option Value) (h : Heap) (L : List Loc) : Prop := v = some (.int p1) ∧ L = [] ∧ h = h0
theorem rm36 (l : Launch) (Z : State) (a0 : Array Value) (hw : ∀ d ∈ tables_1, d.before a0 Z = true) (ws : List Jvm.Cond) (p1 : Int32) (p2 : Int32) (p3 : Int32) (fm : Value) (h0 : Heap) (n0 : Nat) (O0 : Old Z n0 h0) (S_F : Sta Z Z.heap "jdk/internal/util/Preconditions" "SIOOBE_FORMATTER" "Ljava/util/function/BiFunction;" fm) (h_fm : fm.isRef = true) (h5 : ¬ ((p3 ||| p1) ||| p2) < (0 : Int32)) (h12 : ¬ (p3 - p1) < p2) :
    MetFree l mn_14 (head1 (Jvm.Cond.code mn_14 jdk_42_method_157_code 3 (some .int) :: ws) ({ frames := 1, cells := 0, slots := 0, locals := 15 } : Room)) (fun a U => a = #[(.int p1), (.int p2), (.int p3)] ∧ Z.Warmed39 U.vm ∧ U.heap = h0) (fun _ _ _ _ _ => True) (fun _ U o U' => ∃ v L, o = .returned v ∧ Q36 Z p1 p2 p3 fm h0 v U'.heap L ∧ FrameEnd U o U' L ({ frames := 1, cells := 0, slots := 0, locals := 15 } : Room).cells ({ frames := 1, cells := 0, slots := 0, locals := 15 } : Room).slots) := by
  rcases ref_cases h_fm with rfl | ⟨fa, rfl⟩
  · exact rm36_n l Z a0 hw ws p1 p2 p3 h0 n0 O0 S_F h5 h12
  · exact rm36_r l Z a0 hw ws p1 p2 p3 fa h0 n0 O0 S_F h5 h12
theorem d35_0 : decode jdk_42_method_5_code 0 = .ok (.iload_n 1, 1) := by decide +kernel
theorem d35_1 : decode jdk_42_method_5_code 1 = .ok (.iload_n 2, 1) := by decide +kernel
theorem d35_2 : decode jdk_42_method_5_code 2 = .ok (.aload_n 0, 1) := by decide +kernel
theorem d35_3 : decode jdk_42_method_5_code 3 = .ok (.arraylength, 1) := by decide +kernel
theorem d35_4 : decode jdk_42_method_5_code 4 = .ok (.invokestatic 34, 3) := by decide +kernel
theorem d35_7 : decode jdk_42_method_5_code 7 = .ok (.pop, 1) := by decide +kernel
theorem d35_8 : decode jdk_42_method_5_code 8 = .ok (.aconst_null, 1) := by decide +kernel
theorem d35_9 : decode jdk_42_method_5_code 9 = .ok (.areturn, 1) := by decide +kernel
theorem ef_35 (m : MethodId) (x0 : Addr) (x1 : Int32) (x2 : Int32) : entryFrame m #[(.ref x0), (.int x1), (.int x2)] 3 = mkF m 0 #[.val (.ref x0), .val (.int x1), .val (.int x2)] [] := by first | (simp [entryFrame, mkF, argsToLocals, Value.category]; done) | rfl
def Q35 (Z : State) (a1 : Addr) (p2 : Int32) (p3 : Int32) (kc : ClassId) (CL : List Int32) (fm : Value) (h0 : Heap) (v : Option Value) (h : Heap) (L : List Loc) : Prop := v = some .null ∧ L = [] ∧ h = h0
theorem rm35 (l : Launch) (Z : State) (a0 : Array Value) (hw : ∀ d ∈ tables_1, d.before a0 Z = true) (ws : List Jvm.Cond) (a1 : Addr) (p2 : Int32) (p3 : Int32) (kc : ClassId) (CL : List Int32) (fm : Value) (h0 : Heap) (n0 : Nat) (O0 : Old Z n0 h0) (V_c : Arv Z h0 a1 kc .char (20 : Int32) (own_bs CL) (.int (0 : Int32))) (h5 : ¬ (((20 : Int32) ||| p2) ||| p3) < (0 : Int32)) (h12 : ¬ ((20 : Int32) - p2) < p3) (S_F : Sta Z Z.heap "jdk/internal/util/Preconditions" "SIOOBE_FORMATTER" "Ljava/util/function/BiFunction;" fm) (h_fm : fm.isRef = true) :
    MetFree l mn_15 (head1 (Jvm.Cond.code mn_15 jdk_42_method_5_code 3 (some (.object "java/lang/Void")) :: ws) ({ frames := 2, cells := 0, slots := 0, locals := 29 } : Room)) (fun a U => a = #[(.ref a1), (.int p2), (.int p3)] ∧ Z.Warmed39 U.vm ∧ U.heap = h0) (fun _ _ _ _ _ => True) (fun _ U o U' => ∃ v L, o = .returned v ∧ Q35 Z a1 p2 p3 kc CL fm h0 v U'.heap L ∧ FrameEnd U o U' L ({ frames := 2, cells := 0, slots := 0, locals := 29 } : Room).cells ({ frames := 2, cells := 0, slots := 0, locals := 29 } : Room).slots) := by
  refine MetFree.of_bodySF (plainFor_of_name pn_0) hisR ?_
  intro p e s m args below meth c s₁ Bd hml0 hP hK
  obtain ⟨rfl, hZ, hh⟩ := hP
  have hx := Bd.exec
  have hby := Bd.bytes
  have hml : c.maxLocals = 3 := hml0
  have hown : s.vm.findClass "java/lang/String" = some m.cls := findClass_of_methodNamed Bd.named
  have hnm := (name_of_methodNamed Bd.named Bd.method).1
  have X0 : Stand p l e ({ frames := 2, cells := 0, slots := 0, locals := 29 } : Room) s m #[(.ref a1), (.int p2), (.int p3)] below meth c s₁ [] 0 0 := Stand.of_body Bd
  have e0 : s₁.heap = h0 := by rw [← hh, Bd.state]; rfl
  have pre0 : ∀ t, Steps p.tables e below (s₁.setTop (mkF m 0 #[.val (.ref a1), .val (.int p2), .val (.int p3)] [])) t → Steps p.tables e below (s₁.setTop (entryFrame m #[(.ref a1), (.int p2), (.int p3)] 3)) t := fun t k => castTop (ef_35 m a1 p2 p3) k
  obtain ⟨cl1, Ar1, q1, S1, M1, H1, G1⟩ := id V_c
  obtain ⟨_, _, ⟨T2, L2, k2, n2⟩, -, X2, ⟨Lc2, hQ2, l2, y2, z2⟩, st2⟩ := Jvm.LawKit.callS X0 hx (y := mn_14) hown (mvT hZ (ww hw 196 rfl)) (mvT hZ (ww hw 197 rfl)) (mvT hZ (ww hw 52 rfl)) (mvT hZ (ww hw 198 rfl)) (by decide) (backOf (W := 0) (rm36 l Z a0 hw [] p2 p3 (20 : Int32) fm h0 n0 O0 S_F h_fm h5 h12) hZ (ww hw 198 rfl) (ww hw 52 rfl) (by decide) (by decide)) (g := (mkF m 4 #[vR a1, vI p2, vI p3] [iI 20, iI p3, iI p2])) rfl (by rw [hml]; rfl) (argsL := [(.int p2), (.int p3), (.int (20 : Int32))]) (rest := []) (lenOf pd_11 rfl) rfl (wz rfl) (hb hby d35_4) (fun _ _ => ⟨rfl, e0, (by decide : 0 + 0 ≤ _), (by decide : 0 + 0 ≤ _)⟩)
  dsimp only [Pt.U, Pt.locs, Pt.cells, Pt.slots] at X2 l2 y2 z2 st2 hQ2
  subst l2 y2 z2
  obtain ⟨rfl, rfl, e2⟩ := hQ2
  try rw [List.append_nil] at X2
  obtain ⟨fs, hr, hrun, hended, hW, hsame⟩ := X2.leave (v := some .null) (fun h => by rw [Bd.returns] at h; cases h)
  refine ⟨_, _, pre0 _ ?_, hrun, hended, _, _, rfl, ?_, ⟨_, rfl⟩, hW, hsame.mono (by decide) (by decide)⟩
  · show SA s₁ m 0 #[vR a1, vI p2, vI p3] []
    refine XS.iloadN X0.here hx rfl (hb hby d35_0) rfl ?_
    show SA s₁ m 1 #[vR a1, vI p2, vI p3] [iI p2]
    refine XS.iloadN X0.here hx rfl (hb hby d35_1) rfl ?_
    show SA s₁ m 2 #[vR a1, vI p2, vI p3] [iI p3, iI p2]
    refine XS.aloadN X0.here hx rfl (hb hby d35_2) rfl rfl ?_
    show SA s₁ m 3 #[vR a1, vI p2, vI p3] [iR a1, iI p3, iI p2]
    refine X0.arraylength hx (by rw [e0]; exact Ar1.1) (State.isArrayOf_alike hZ.alike Ar1.2.1) (g := (mkF m 3 #[vR a1, vI p2, vI p3] [iR a1, iI p3, iI p2])) rfl rfl (hb hby d35_3) _ ?_
    rw [len_of S1 M1]
    show SA s₁ m 4 #[vR a1, vI p2, vI p3] [iI 20, iI p3, iI p2]
    refine st2 _ ?_
    show SA T2 m 7 #[vR a1, vI p2, vI p3] [iI p2]
    refine XS.pop X2.here hx rfl (hb hby d35_7) rfl rfl ?_
    show SA T2 m 8 #[vR a1, vI p2, vI p3] []
    refine XS.aconstNull X2.here hx rfl (hb hby d35_8) ?_
    show Steps _ _ _ (T2.setTop (mkF m 9 #[vR a1, vI p2, vI p3] [.null])) _
    jvm_step X2.here [X2.here.top, hx, (hb hby d35_9), X2.method', Bd.returns, Value.isRef, FieldType.isReference]
    first | (intro acts; rw [hr _ acts rfl rfl rfl]) | rw [hr _ _ rfl rfl rfl]
    exact Steps.refl _
  · show Q35 Z a1 p2 p3 kc CL fm h0 _ T2.heap _
    rw [e2]
    exact ⟨rfl, rfl, rfl⟩
theorem d34_0 : decode jdk_42_method_4_code 0 = .ok (.aload_n 0, 1) := by decide +kernel
theorem d34_1 : decode jdk_42_method_4_code 1 = .ok (.aload_n 1, 1) := by decide +kernel
theorem d34_2 : decode jdk_42_method_4_code 2 = .ok (.iload_n 2, 1) := by decide +kernel
theorem d34_3 : decode jdk_42_method_4_code 3 = .ok (.iload_n 3, 1) := by decide +kernel
theorem d34_4 : decode jdk_42_method_4_code 4 = .ok (.aload_n 1, 1) := by decide +kernel
theorem d34_5 : decode jdk_42_method_4_code 5 = .ok (.iload_n 2, 1) := by decide +kernel
theorem d34_6 : decode jdk_42_method_4_code 6 = .ok (.iload_n 3, 1) := by decide +kernel
theorem d34_7 : decode jdk_42_method_4_code 7 = .ok (.invokestatic 30, 3) := by decide +kernel
theorem d34_10 : decode jdk_42_method_4_code 10 = .ok (.invokespecial 27, 3) := by decide +kernel
theorem d34_13 : decode jdk_42_method_4_code 13 = .ok (.return_, 1) := by decide +kernel
theorem ef_34 (m : MethodId) (x0 : Addr) (x1 : Addr) (x2 : Int32) (x3 : Int32) : entryFrame m #[(.ref x0), (.ref x1), (.int x2), (.int x3)] 4 = mkF m 0 #[.val (.ref x0), .val (.ref x1), .val (.int x2), .val (.int x3)] [] := by first | (simp [entryFrame, mkF, argsToLocals, Value.category]; done) | rfl
def Q34 (Z : State) (a1 : Addr) (a2 : Addr) (p3 : Int32) (p4 : Int32) (kc : ClassId) (CL : List Int32) (fN : Nat) (cs : Int32) (fm : Value) (h0 : Heap) (n0 : Nat) (v : Option Value) (h : Heap) (L : List Loc) : Prop := ∃ (b : Addr) (kb : ClassId), v = none ∧ Fr n0 L ∧ Keep h0 h [a1] ∧ Exa Z h a1 "java/lang/String" ∧ Fld Z h a1 "java/lang/String" "coder" "B" (.int (0 : Int32)) ∧ Fld Z h a1 "java/lang/String" "value" "[B" (.ref b) ∧ Arv Z h b kb .byte p4 (own_bs (own_seg CL fN p4.toNatClampNeg)) (.int (0 : Int32)) ∧ h0.size ≤ b
theorem rm34 (l : Launch) (Z : State) (a0 : Array Value) (hw : ∀ d ∈ tables_1, d.before a0 Z = true) (ws : List Jvm.Cond) (a1 : Addr) (a2 : Addr) (p3 : Int32) (p4 : Int32) (kc : ClassId) (CL : List Int32) (fN : Nat) (cs : Int32) (fm : Value) (h0 : Heap) (n0 : Nat) (Z0 : n0 ≤ h0.size) (O0 : Old Z n0 h0) (E_a1 : Exa Z h0 a1 "java/lang/String") (g_a1 : n0 ≤ a1) (F_v : Fld Z h0 a1 "java/lang/String" "value" "[B" .null) (F_c : Fld Z h0 a1 "java/lang/String" "coder" "B" (.int (0 : Int32))) (V_c : Arv Z h0 a2 kc .char (20 : Int32) (own_bs CL) (.int (0 : Int32))) (ne_a1_a2 : a1 ≠ a2) (hCL : CL.length = 20) (hok : ∀ x ∈ CL, x ∈ own_chars) (hl4 : 17 ≤ p4.toInt ∧ p4.toInt ≤ 18) (hfN : fN ≤ 2) (hp3 : p3.toInt = (fN : Int)) (S_CS : Sta Z Z.heap "java/lang/String" "COMPACT_STRINGS" "Z" (.int cs)) (h_cs : ¬ cs = (0 : Int32)) (S_F : Sta Z Z.heap "jdk/internal/util/Preconditions" "SIOOBE_FORMATTER" "Ljava/util/function/BiFunction;" fm) (h_fm : fm.isRef = true) :
    MetFree l mn_16 (head1 (Jvm.Cond.code mn_16 jdk_42_method_4_code 4 none :: ws) ({ frames := 3, cells := 1, slots := 18, locals := 52 } : Room)) (fun a U => a = #[(.ref a1), (.ref a2), (.int p3), (.int p4)] ∧ Z.Warmed39 U.vm ∧ U.heap = h0) (fun _ _ _ _ _ => True) (fun _ U o U' => ∃ v L, o = .returned v ∧ Q34 Z a1 a2 p3 p4 kc CL fN cs fm h0 n0 v U'.heap L ∧ FrameEnd U o U' L ({ frames := 3, cells := 1, slots := 18, locals := 52 } : Room).cells ({ frames := 3, cells := 1, slots := 18, locals := 52 } : Room).slots) := by
  refine MetFree.of_bodySF (plainFor_of_name pn_0) hisR ?_
  intro p e s m args below meth c s₁ Bd hml0 hP hK
  obtain ⟨rfl, hZ, hh⟩ := hP
  have hx := Bd.exec
  have hby := Bd.bytes
  have hml : c.maxLocals = 4 := hml0
  have hown : s.vm.findClass "java/lang/String" = some m.cls := findClass_of_methodNamed Bd.named
  have hnm := (name_of_methodNamed Bd.named Bd.method).1
  have X0 : Stand p l e ({ frames := 3, cells := 1, slots := 18, locals := 52 } : Room) s m #[(.ref a1), (.ref a2), (.int p3), (.int p4)] below meth c s₁ [] 0 0 := Stand.of_body Bd
  have e0 : s₁.heap = h0 := by rw [← hh, Bd.state]; rfl
  have N0 := Fr.nil n0
  have K0 := Keep.refl h0 [a1]
  have pre0 : ∀ t, Steps p.tables e below (s₁.setTop (mkF m 0 #[.val (.ref a1), .val (.ref a2), .val (.int p3), .val (.int p4)] [])) t → Steps p.tables e below (s₁.setTop (entryFrame m #[(.ref a1), (.ref a2), (.int p3), (.int p4)] 4)) t := fun t k => castTop (ef_34 m a1 a2 p3 p4) k
  have hf4 : 0 ≤ p3.toInt ∧ p3.toInt ≤ 2 := by omega
  obtain ⟨_, _, ⟨T1, L1, k1, n1⟩, -, X1, ⟨Lc1, hQ1, l1, y1, z1⟩, st1⟩ := Jvm.LawKit.callS X0 hx (y := mn_15) hown (mvT hZ (ww hw 193 rfl)) (mvT hZ (ww hw 194 rfl)) (mvT hZ (ww hw 52 rfl)) (mvT hZ (ww hw 195 rfl)) (by decide) (backOf (W := 4) (rm35 l Z a0 hw [] a2 p3 p4 kc CL fm h0 n0 O0 V_c (own_cfs hf4 hl4).1 (own_cfs hf4 hl4).2 S_F h_fm) hZ (ww hw 195 rfl) (ww hw 52 rfl) (by decide) (by decide)) (g := (mkF m 7 #[vR a1, vR a2, vI p3, vI p4] [iI p4, iI p3, iR a2, iI p4, iI p3, iR a2, iR a1])) rfl (by rw [hml]; rfl) (argsL := [(.ref a2), (.int p3), (.int p4)]) (rest := [(.int p4), (.int p3), (.ref a2), (.ref a1)]) (lenOf pd_12 rfl) rfl (wz rfl) (hb hby d34_7) (fun _ _ => ⟨rfl, e0, (by decide : 0 + 0 ≤ _), (by decide : 0 + 0 ≤ _)⟩)
  dsimp only [Pt.U, Pt.locs, Pt.cells, Pt.slots] at X1 l1 y1 z1 st1 hQ1
  subst l1 y1 z1
  obtain ⟨rfl, rfl, e1⟩ := hQ1
  try rw [List.append_nil] at X1
  obtain ⟨_, _, ⟨T2, L2, k2, n2⟩, -, X2, ⟨Lc2, hQ2, l2, y2, z2⟩, st2⟩ := X1.specialBack hx (y := mn_12) rfl hown (mvT hZ (ww hw 202 rfl)) (mvT hZ (ww hw 203 rfl)) (mvT hZ (ww hw 204 rfl)) (by decide) (backOf (W := 0) (rm38 l Z a0 hw [] a1 a2 p3 p4 kc CL fN cs h0 n0 (Nat.le_trans Z0 K0.1) O0 E_a1 g_a1 F_v F_c V_c ne_a1_a2 hCL hok hl4 hfN hp3 S_CS h_cs) hZ (ww hw 204 rfl) (ww hw 52 rfl) (by decide) (by decide)) (g := (mkF m 10 #[vR a1, vR a2, vI p3, vI p4] [.null, iI p4, iI p3, iR a2, iR a1])) rfl (by rw [hml]; rfl) (Steps.refl _) (a := a1) (argsL := [(.ref a2), (.int p3), (.int p4), .null]) (rest := []) (lenOf pd_13 rfl) rfl (wz rfl) (hb hby d34_10) (fun _ _ => ⟨rfl, e1, (by decide : 0 + 1 ≤ _), (by decide : 0 + 18 ≤ _)⟩)
  dsimp only [Pt.U, Pt.locs, Pt.cells, Pt.slots] at X2 l2 y2 z2 st2 hQ2
  subst l2 y2 z2
  obtain ⟨d2, kd2, rfl, N2q, K2q, E2q, C2q, F2q, V2q, z_d2⟩ := hQ2
  have ne_a1_d2 : a1 ≠ d2 := Nat.ne_of_lt (Nat.lt_of_lt_of_le E_a1.lt z_d2)
  have ne_a2_d2 : a2 ≠ d2 := Nat.ne_of_lt (Nat.lt_of_lt_of_le V_c.lt z_d2)
  have sz_d2 : h0.size ≤ d2 := Nat.le_trans K0.1 z_d2
  have g_d2 : n0 ≤ d2 := Nat.le_trans Z0 sz_d2
  have N2 := Fr.app N0 N2q
  have K2 : Keep h0 T2.heap [a1] := Keep.trans K0 K2q (allS (Or.inl (List.mem_of_getElem? (i := 0) rfl)) all0)
  obtain ⟨fs, hr, hrun, hended, hW, hsame⟩ := X2.leave (v := none) (fun _ => rfl)
  refine ⟨_, _, pre0 _ ?_, hrun, hended, _, _, rfl, ?_, ⟨_, rfl⟩, hW, hsame.mono (by decide) (by decide)⟩
  · show SA s₁ m 0 #[vR a1, vR a2, vI p3, vI p4] []
    refine XS.aloadN X0.here hx rfl (hb hby d34_0) rfl rfl ?_
    show SA s₁ m 1 #[vR a1, vR a2, vI p3, vI p4] [iR a1]
    refine XS.aloadN X0.here hx rfl (hb hby d34_1) rfl rfl ?_
    show SA s₁ m 2 #[vR a1, vR a2, vI p3, vI p4] [iR a2, iR a1]
    refine XS.iloadN X0.here hx rfl (hb hby d34_2) rfl ?_
    show SA s₁ m 3 #[vR a1, vR a2, vI p3, vI p4] [iI p3, iR a2, iR a1]
    refine XS.iloadN X0.here hx rfl (hb hby d34_3) rfl ?_
    show SA s₁ m 4 #[vR a1, vR a2, vI p3, vI p4] [iI p4, iI p3, iR a2, iR a1]
    refine XS.aloadN X0.here hx rfl (hb hby d34_4) rfl rfl ?_
    show SA s₁ m 5 #[vR a1, vR a2, vI p3, vI p4] [iR a2, iI p4, iI p3, iR a2, iR a1]
    refine XS.iloadN X0.here hx rfl (hb hby d34_5) rfl ?_
    show SA s₁ m 6 #[vR a1, vR a2, vI p3, vI p4] [iI p3, iR a2, iI p4, iI p3, iR a2, iR a1]
    refine XS.iloadN X0.here hx rfl (hb hby d34_6) rfl ?_
    show SA s₁ m 7 #[vR a1, vR a2, vI p3, vI p4] [iI p4, iI p3, iR a2, iI p4, iI p3, iR a2, iR a1]
    refine st1 _ ?_
    show SA T1 m 10 #[vR a1, vR a2, vI p3, vI p4] [.null, iI p4, iI p3, iR a2, iR a1]
    refine st2.trans ?_
    show Steps _ _ _ (T2.setTop (mkF m 13 #[vR a1, vR a2, vI p3, vI p4] [])) _
    exact X2.returnOut hx Bd.returns (hb hby d34_13) hr
  · show Q34 Z a1 a2 p3 p4 kc CL fN cs fm h0 n0 _ T2.heap _
    exact ⟨_, _, rfl, N2, K2, E2q, C2q, F2q, V2q, sz_d2⟩
theorem d2_21 : decode prog_12_method_3_code 21 = .ok (.new 1, 3) := by decide +kernel
theorem d2_24 : decode prog_12_method_3_code 24 = .ok (.dup, 1) := by decide +kernel
theorem d2_25 : decode prog_12_method_3_code 25 = .ok (.lconst 0, 1) := by decide +kernel
theorem d2_26 : decode prog_12_method_3_code 26 = .ok (.new 18, 3) := by decide +kernel
theorem d2_29 : decode prog_12_method_3_code 29 = .ok (.dup, 1) := by decide +kernel
theorem d2_30 : decode prog_12_method_3_code 30 = .ok (.aload_n 0, 1) := by decide +kernel
theorem d2_31 : decode prog_12_method_3_code 31 = .ok (.iload_n 1, 1) := by decide +kernel
theorem d2_32 : decode prog_12_method_3_code 32 = .ok (.iload_n 2, 1) := by decide +kernel
theorem d2_33 : decode prog_12_method_3_code 33 = .ok (.invokespecial 38, 3) := by decide +kernel
theorem d2_36 : decode prog_12_method_3_code 36 = .ok (.invokespecial 31, 3) := by decide +kernel
theorem d2_39 : decode prog_12_method_3_code 39 = .ok (.areturn, 1) := by decide +kernel
theorem ef_2_b (m : MethodId) (x0 : Addr) (x1 : Int32) (x2 : Int32) : entryFrame m #[(.ref x0), (.int x1), (.int x2)] 3 = mkF m 0 #[.val (.ref x0), .val (.int x1), .val (.int x2)] [] := by first | (simp [entryFrame, mkF, argsToLocals, Value.category]; done) | rfl
def Q2_b (Z : State) (a1 : Addr) (p2 : Int32) (p3 : Int32) (kc : ClassId) (CL : List Int32) (cs : Int32) (fm : Value) (h0 : Heap) (n0 : Nat) (v : Option Value) (h : Heap) (L : List Loc) : Prop := ∃ (o a d : Addr) (kd : ClassId), v = some (.ref o) ∧ Fr n0 L ∧ Keep h0 h [] ∧ Exa Z h o "com/example/plainjson/plainjson/JsonNumber" ∧ Fld Z h o "com/example/plainjson/plainjson/JsonNumber" "text" "Ljava/lang/String;" (.ref a) ∧ Exa Z h a "java/lang/String" ∧ Fld Z h a "java/lang/String" "coder" "B" (.int (0 : Int32)) ∧ Fld Z h a "java/lang/String" "value" "[B" (.ref d) ∧ Arv Z h d kd .byte p3 (own_bs (own_seg CL p2.toNatClampNeg p3.toNatClampNeg)) (.int (0 : Int32)) ∧ h0.size ≤ o ∧ h0.size ≤ a ∧ h0.size ≤ d
theorem rm2_b (l : Launch) (Z : State) (a0 : Array Value) (hw : ∀ d ∈ tables_1, d.before a0 Z = true) (ws : List Jvm.Cond) (a1 : Addr) (p2 : Int32) (p3 : Int32) (kc : ClassId) (CL : List Int32) (cs : Int32) (fm : Value) (h0 : Heap) (n0 : Nat) (Z0 : n0 ≤ h0.size) (O0 : Old Z n0 h0) (V_c : Arv Z h0 a1 kc .char (20 : Int32) (own_bs CL) (.int (0 : Int32))) (hCL : CL.length = 20) (hok : ∀ x ∈ CL, x ∈ own_chars) (hf : 0 ≤ p2.toInt ∧ p2.toInt ≤ 2) (hl : 1 ≤ p3.toInt ∧ p3.toInt ≤ 18) (h16 : (16 : Int32) < p3) (S_CS : Sta Z Z.heap "java/lang/String" "COMPACT_STRINGS" "Z" (.int cs)) (h_cs : ¬ cs = (0 : Int32)) (S_F : Sta Z Z.heap "jdk/internal/util/Preconditions" "SIOOBE_FORMATTER" "Ljava/util/function/BiFunction;" fm) (h_fm : fm.isRef = true) :
    MetFree l mn_8 (head1 (Jvm.Cond.code mn_8 prog_12_method_3_code 3 (some (.object "com/example/plainjson/plainjson/JsonNumber")) :: ws) ({ frames := 4, cells := 3, slots := 24, locals := 72 } : Room)) (fun a U => a = #[(.ref a1), (.int p2), (.int p3)] ∧ Z.Warmed39 U.vm ∧ U.heap = h0) (fun _ _ _ _ _ => True) (fun _ U o U' => ∃ v L, o = .returned v ∧ Q2_b Z a1 p2 p3 kc CL cs fm h0 n0 v U'.heap L ∧ FrameEnd U o U' L ({ frames := 4, cells := 3, slots := 24, locals := 72 } : Room).cells ({ frames := 4, cells := 3, slots := 24, locals := 72 } : Room).slots) := by
  refine MetFree.of_bodySF (plainFor_of_name pn_3) hisR ?_
  intro p e s m args below meth c s₁ Bd hml0 hP hK
  obtain ⟨rfl, hZ, hh⟩ := hP
  have hx := Bd.exec
  have hby := Bd.bytes
  have hml : c.maxLocals = 3 := hml0
  have hown : s.vm.findClass "com/example/plainjson/plainjson/JsonNumber" = some m.cls := findClass_of_methodNamed Bd.named
  have hnm := (name_of_methodNamed Bd.named Bd.method).1
  have X0 : Stand p l e ({ frames := 4, cells := 3, slots := 24, locals := 72 } : Room) s m #[(.ref a1), (.int p2), (.int p3)] below meth c s₁ [] 0 0 := Stand.of_body Bd
  have e0 : s₁.heap = h0 := by rw [← hh, Bd.state]; rfl
  have N0 := Fr.nil n0
  have K0 := Keep.refl h0 []
  have pre0 : ∀ t, Steps p.tables e below (s₁.setTop (mkF m 0 #[.val (.ref a1), .val (.int p2), .val (.int p3)] [])) t → Steps p.tables e below (s₁.setTop (entryFrame m #[(.ref a1), (.int p2), (.int p3)] 3)) t := fun t k => castTop (ef_2_b m a1 p2 p3) k
  obtain ⟨T1, h1, X1, e1, E1, A1, D1, -, st1⟩ := newO X0 hx hZ hown (ww hw 11 rfl) (ww hw 12 rfl) (ww hw 9 rfl) e0 (g := (mkF m 21 #[vR a1, vI p2, vI p3] [])) rfl (hb hby d2_21) (by decide) (by decide)
  obtain ⟨b1, g1⟩ : ∃ z, z = h0.size := ⟨_, rfl⟩
  rw [← g1] at A1 D1 st1
  have ne_a1_b1 : a1 ≠ b1 := Nat.ne_of_lt (Nat.lt_of_lt_of_le V_c.lt (Nat.le_of_eq g1.symm))
  have sz_b1 : h0.size ≤ b1 := Nat.le_trans K0.1 (Nat.le_of_eq g1.symm)
  have g_b1 : n0 ≤ b1 := Nat.le_trans Z0 sz_b1
  have K1 : Keep h0 h1 [] := K0.ext E1
  have F_packed_b1 : Fld Z h1 b1 "com/example/plainjson/plainjson/JsonNumber" "packed" "J" (.long (0 : Int64)) := D1 (Or.inr (ww hw 30 rfl)) (ty := .long) (by decide)
  have F_text_b1 : Fld Z h1 b1 "com/example/plainjson/plainjson/JsonNumber" "text" "Ljava/lang/String;" .null := D1 (Or.inr (ww hw 32 rfl)) (ty := (.object "java/lang/String")) (by decide)
  obtain ⟨T2, h2, X2, e2, E2, A2, D2, -, st2⟩ := newO X1 hx hZ hown (ww hw 189 rfl) (ww hw 64 rfl) (ww hw 52 rfl) e1 (g := (mkF m 26 #[vR a1, vI p2, vI p3] [iJ 0, iR b1, iR b1])) rfl (hb hby d2_26) (by decide) (by decide)
  obtain ⟨b2, g2⟩ : ∃ z, z = h1.size := ⟨_, rfl⟩
  rw [← g2] at A2 D2 st2
  have fk3 := (V_c.ext E1)
  have ne_a1_b2 : a1 ≠ b2 := Nat.ne_of_lt (Nat.lt_of_lt_of_le fk3.lt (Nat.le_of_eq g2.symm))
  have ne_b1_b2 : b1 ≠ b2 := Nat.ne_of_lt (Nat.lt_of_lt_of_le A1.lt (Nat.le_of_eq g2.symm))
  have sz_b2 : h0.size ≤ b2 := Nat.le_trans K1.1 (Nat.le_of_eq g2.symm)
  have g_b2 : n0 ≤ b2 := Nat.le_trans Z0 sz_b2
  have K2 : Keep h0 h2 [] := K1.ext E2
  have F_value_b2 : Fld Z h2 b2 "java/lang/String" "value" "[B" .null := D2 (Or.inr (ww hw 65 rfl)) (ty := (.array .byte)) (by decide)
  have F_coder_b2 : Fld Z h2 b2 "java/lang/String" "coder" "B" (.int (0 : Int32)) := D2 (Or.inr (ww hw 66 rfl)) (ty := .byte) (by decide)
  have fk5 := (fk3.ext E2)
  have Oh6 := O0.keep K2 all0
  obtain ⟨_, _, ⟨T4, L4, k4, n4⟩, -, X4, ⟨Lc4, hQ4, l4, y4, z4⟩, st4⟩ := X2.specialBack hx (y := mn_16) rfl hown (mvT hZ (ww hw 190 rfl)) (mvT hZ (ww hw 191 rfl)) (mvT hZ (ww hw 192 rfl)) (by decide) (backOf (W := 5) (rm34 l Z a0 hw [] b2 a1 p2 p3 kc CL p2.toNatClampNeg cs fm h2 n0 (Nat.le_trans Z0 K2.1) Oh6 A2 g_b2 F_value_b2 F_coder_b2 fk5 (Ne.symm ne_a1_b2) hCL hok ⟨by have e : (16 : Int32).toInt = 16 := rfl; rw [Int32.lt_iff_toInt_lt] at h16; omega, hl.2⟩ (by simp only [Int32.toNatClampNeg]; omega) (by simp only [Int32.toNatClampNeg]; omega) S_CS h_cs S_F h_fm) hZ (ww hw 192 rfl) (ww hw 52 rfl) (by decide) (by decide)) (g := (mkF m 33 #[vR a1, vI p2, vI p3] [iI p3, iI p2, iR a1, iR b2, iR b2, iJ 0, iR b1, iR b1])) rfl (by rw [hml]; rfl) (Steps.refl _) (a := b2) (argsL := [(.ref a1), (.int p2), (.int p3)]) (rest := [(.ref b2), (.long (0 : Int64)), (.ref b1), (.ref b1)]) (lenOf pd_14 rfl) rfl (wz rfl) (hb hby d2_33) (fun _ _ => ⟨rfl, e2, (by decide : 2 + 1 ≤ _), (by decide : 6 + 18 ≤ _)⟩)
  dsimp only [Pt.U, Pt.locs, Pt.cells, Pt.slots] at X4 l4 y4 z4 st4 hQ4
  subst l4 y4 z4
  obtain ⟨d4, kd4, rfl, N4q, K4q, E4q, C4q, F4q, V4q, z_d4⟩ := hQ4
  have fk7 := (A1.ext E2)
  have ne_a1_d4 : a1 ≠ d4 := Nat.ne_of_lt (Nat.lt_of_lt_of_le fk5.lt z_d4)
  have ne_b1_d4 : b1 ≠ d4 := Nat.ne_of_lt (Nat.lt_of_lt_of_le fk7.lt z_d4)
  have ne_b2_d4 : b2 ≠ d4 := Nat.ne_of_lt (Nat.lt_of_lt_of_le A2.lt z_d4)
  have sz_d4 : h0.size ≤ d4 := Nat.le_trans K2.1 z_d4
  have g_d4 : n0 ≤ d4 := Nat.le_trans Z0 sz_d4
  have N4 := Fr.app N0 N4q
  have K4 : Keep h0 T4.heap [] := Keep.trans K2 K4q (allS (Or.inr sz_b2) all0)
  have fk9 := (fk7.keep K4q)
  have fk10 := ((F_packed_b1.ext E2).keep K4q (ninS ne_b1_b2 nin0))
  have fk11 := ((F_text_b1.ext E2).keep K4q (ninS ne_b1_b2 nin0))
  obtain ⟨_, _, ⟨T8, L8, k8, n8⟩, -, X8, ⟨Lc8, hQ8, l8, y8, z8⟩, st8⟩ := X4.specialBack hx (y := mn_7) rfl hown (mvT hZ (ww hw 18 rfl)) (mvT hZ (ww hw 19 rfl)) (mvT hZ (ww hw 20 rfl)) (by decide) (backOf (W := 1) (rm4_s l Z a0 hw [] b1 (0 : Int64) b2 T4.heap n0 (Nat.le_trans Z0 K4.1) fk9 g_b1 fk10 fk11) hZ (ww hw 20 rfl) (ww hw 9 rfl) (by decide) (by decide)) (g := (mkF m 36 #[vR a1, vI p2, vI p3] [iR b2, iJ 0, iR b1, iR b1])) rfl (by rw [hml]; rfl) (Steps.refl _) (a := b1) (argsL := [(.long (0 : Int64)), (.ref b2)]) (rest := [(.ref b1)]) (lenOf pd_6 rfl) rfl (wz rfl) (hb hby d2_36) (fun _ _ => ⟨rfl, rfl, (by decide : 3 + 0 ≤ _), (by decide : 24 + 0 ≤ _)⟩)
  dsimp only [Pt.U, Pt.locs, Pt.cells, Pt.slots] at X8 l8 y8 z8 st8 hQ8
  subst l8 y8 z8
  obtain ⟨rfl, N8q, K8q, E8q, P8q, F8q⟩ := hQ8
  have N8 := Fr.app N4 N8q
  have K8 : Keep h0 T8.heap [] := Keep.trans K4 K8q (allS (Or.inr sz_b1) all0)
  obtain ⟨fs, hr, hrun, hended, hW, hsame⟩ := X8.leave (v := some (.ref b1)) (fun h => by rw [Bd.returns] at h; cases h)
  have fk12 := (E4q.keep K8q)
  have fk13 := (C4q.keep K8q (ninS (Ne.symm ne_b1_b2) nin0))
  have fk14 := (F4q.keep K8q (ninS (Ne.symm ne_b1_b2) nin0))
  have fk15 := (V4q.keep K8q (ninS (Ne.symm ne_b1_d4) nin0))
  refine ⟨_, _, pre0 _ ?_, hrun, hended, _, _, rfl, ?_, ⟨_, rfl⟩, hW, hsame.mono (by decide) (by decide)⟩
  · show SA s₁ m 0 #[vR a1, vI p2, vI p3] []
    refine XS.iloadN X0.here hx rfl (hb hby d2_0) rfl ?_
    show SA s₁ m 1 #[vR a1, vI p2, vI p3] [iI p3]
    refine XS.bipush X0.here hx rfl (hb hby d2_1) ?_
    show SA s₁ m 3 #[vR a1, vI p2, vI p3] [iI 16, iI p3]
    refine XS.icmpYes X0.here hx rfl (pc0 := 3) (pc' := 21) rfl (hb hby d2_3) rfl (tlt h16).2.2.1 (by decide) (by decide) ?_
    show SA s₁ m 21 #[vR a1, vI p2, vI p3] []
    refine st1 _ ?_
    show SA T1 m 24 #[vR a1, vI p2, vI p3] [iR b1]
    refine XS.dup X1.here hx rfl (hb hby d2_24) rfl rfl ?_
    show SA T1 m 25 #[vR a1, vI p2, vI p3] [iR b1, iR b1]
    refine XS.lconst X1.here hx rfl (hb hby d2_25) ?_
    show SA T1 m 26 #[vR a1, vI p2, vI p3] [iJ 0, iR b1, iR b1]
    refine st2 _ ?_
    show SA T2 m 29 #[vR a1, vI p2, vI p3] [iR b2, iJ 0, iR b1, iR b1]
    refine XS.dup X2.here hx rfl (hb hby d2_29) rfl rfl ?_
    show SA T2 m 30 #[vR a1, vI p2, vI p3] [iR b2, iR b2, iJ 0, iR b1, iR b1]
    refine XS.aloadN X2.here hx rfl (hb hby d2_30) rfl rfl ?_
    show SA T2 m 31 #[vR a1, vI p2, vI p3] [iR a1, iR b2, iR b2, iJ 0, iR b1, iR b1]
    refine XS.iloadN X2.here hx rfl (hb hby d2_31) rfl ?_
    show SA T2 m 32 #[vR a1, vI p2, vI p3] [iI p2, iR a1, iR b2, iR b2, iJ 0, iR b1, iR b1]
    refine XS.iloadN X2.here hx rfl (hb hby d2_32) rfl ?_
    show SA T2 m 33 #[vR a1, vI p2, vI p3] [iI p3, iI p2, iR a1, iR b2, iR b2, iJ 0, iR b1, iR b1]
    refine st4.trans ?_
    show SA T4 m 36 #[vR a1, vI p2, vI p3] [iR b2, iJ 0, iR b1, iR b1]
    refine st8.trans ?_
    show Steps _ _ _ (T8.setTop (mkF m 39 #[vR a1, vI p2, vI p3] [iR b1])) _
    jvm_step X8.here [X8.here.top, hx, (hb hby d2_39), X8.method', Bd.returns, Value.isRef, FieldType.isReference]
    first | (intro acts; rw [hr _ acts rfl rfl rfl]) | rw [hr _ _ rfl rfl rfl]
    exact Steps.refl _
  · show Q2_b Z a1 p2 p3 kc CL cs fm h0 n0 _ T8.heap _
    exact ⟨_, _, _, _, rfl, N8, K8, E8q, F8q, fk12, fk13, fk14, fk15, sz_b1, sz_b2, sz_d4⟩
theorem d7_0 : decode prog_12_method_18_code 0 = .ok (.aload_n 0, 1) := by decide +kernel
theorem d7_1 : decode prog_12_method_18_code 1 = .ok (.getfield 13, 3) := by decide +kernel
theorem d7_4 : decode prog_12_method_18_code 4 = .ok (.ifnull 8, 3) := by decide +kernel
theorem d7_7 : decode prog_12_method_18_code 7 = .ok (.aload_n 0, 1) := by decide +kernel
theorem d7_8 : decode prog_12_method_18_code 8 = .ok (.getfield 13, 3) := by decide +kernel
theorem d7_11 : decode prog_12_method_18_code 11 = .ok (.areturn, 1) := by decide +kernel
theorem ef_7_s (m : MethodId) (x0 : Addr) : entryFrame m #[(.ref x0)] 2 = mkF m 0 #[.val (.ref x0), .unset] [] := by first | (simp [entryFrame, mkF, argsToLocals, Value.category]; done) | rfl
def Q7_s (Z : State) (a1 : Addr) (ta : Addr) (h0 : Heap) (v : Option Value) (h : Heap) (L : List Loc) : Prop := v = some (.ref ta) ∧ L = [] ∧ h = h0
theorem rm7_s (l : Launch) (Z : State) (a0 : Array Value) (hw : ∀ d ∈ tables_1, d.before a0 Z = true) (ws : List Jvm.Cond) (a1 : Addr) (ta : Addr) (h0 : Heap) (F_t : Fld Z h0 a1 "com/example/plainjson/plainjson/JsonNumber" "text" "Ljava/lang/String;" (.ref ta)) :
    MetFree l mn_17 (head1 (Jvm.Cond.code mn_17 prog_12_method_18_code 2 (some (.object "java/lang/String")) :: ws) ({ frames := 0, cells := 0, slots := 0, locals := 0 } : Room)) (fun a U => a = #[(.ref a1)] ∧ Z.Warmed39 U.vm ∧ U.heap = h0) (fun _ _ _ _ _ => True) (fun _ U o U' => ∃ v L, o = .returned v ∧ Q7_s Z a1 ta h0 v U'.heap L ∧ FrameEnd U o U' L ({ frames := 0, cells := 0, slots := 0, locals := 0 } : Room).cells ({ frames := 0, cells := 0, slots := 0, locals := 0 } : Room).slots) := by
  refine MetFree.of_bodySF (plainFor_of_name pn_3) hisR ?_
  intro p e s m args below meth c s₁ Bd hml0 hP hK
  obtain ⟨rfl, hZ, hh⟩ := hP
  have hx := Bd.exec
  have hby := Bd.bytes
  have hml : c.maxLocals = 2 := hml0
  have hown : s.vm.findClass "com/example/plainjson/plainjson/JsonNumber" = some m.cls := findClass_of_methodNamed Bd.named
  have hnm := (name_of_methodNamed Bd.named Bd.method).1
  have X0 : Stand p l e ({ frames := 0, cells := 0, slots := 0, locals := 0 } : Room) s m #[(.ref a1)] below meth c s₁ [] 0 0 := Stand.of_body Bd
  have e0 : s₁.heap = h0 := by rw [← hh, Bd.state]; rfl
  have pre0 : ∀ t, Steps p.tables e below (s₁.setTop (mkF m 0 #[.val (.ref a1), .unset] [])) t → Steps p.tables e below (s₁.setTop (entryFrame m #[(.ref a1)] 2)) t := fun t k => castTop (ef_7_s m a1) k
  obtain ⟨T1, X1, e1, st1⟩ := getF X0 hx hZ hown (host := "") (Or.inl (ww hw 31 rfl)) Via.refl e0 F_t (g := (mkF m 1 #[vR a1, .unset] [iR a1])) rfl rfl (hb hby d7_1)
  obtain ⟨T2, X2, e2, st2⟩ := getF X1 hx hZ hown (host := "") (Or.inl (ww hw 31 rfl)) Via.refl e1 F_t (g := (mkF m 8 #[vR a1, .unset] [iR a1])) rfl rfl (hb hby d7_8)
  obtain ⟨fs, hr, hrun, hended, hW, hsame⟩ := X2.leave (v := some (.ref ta)) (fun h => by rw [Bd.returns] at h; cases h)
  refine ⟨_, _, pre0 _ ?_, hrun, hended, _, _, rfl, ?_, ⟨_, rfl⟩, hW, hsame.mono (by decide) (by decide)⟩
  · show SA s₁ m 0 #[vR a1, .unset] []
    refine XS.aloadN X0.here hx rfl (hb hby d7_0) rfl rfl ?_
    show SA s₁ m 1 #[vR a1, .unset] [iR a1]
    refine st1 _ ?_
    show SA T1 m 4 #[vR a1, .unset] [iR ta]
    refine XS.ifnullNo X1.here hx rfl (hb hby d7_4) rfl ?_
    show SA T1 m 7 #[vR a1, .unset] []
    refine XS.aloadN X1.here hx rfl (hb hby d7_7) rfl rfl ?_
    show SA T1 m 8 #[vR a1, .unset] [iR a1]
    refine st2 _ ?_
    show Steps _ _ _ (T2.setTop (mkF m 11 #[vR a1, .unset] [iR ta])) _
    jvm_step X2.here [X2.here.top, hx, (hb hby d7_11), X2.method', Bd.returns, Value.isRef, FieldType.isReference]
    first | (intro acts; rw [hr _ acts rfl rfl rfl]) | rw [hr _ _ rfl rfl rfl]
    exact Steps.refl _
  · show Q7_s Z a1 ta h0 _ T2.heap _
    rw [e2]
    exact ⟨rfl, rfl, rfl⟩
theorem own_ens (nz p : Int32) (h : ¬ nz < p) (h0 : ¬ p < 0) : ¬ ((0 : Int32) < (p - (nz >>> ((0 : Int32) &&& 31)))) := by
  rw [own_shr0]
  have h1 := c_isub p nz
  have h2 := rng32 nz
  have h3 := rng32 p
  have h4 := rng32 (p - nz)
  have e0 : (0 : Int32).toInt = 0 := rfl
  rw [Int32.lt_iff_toInt_lt] at h h0 ⊢
  rw [e0] at h0 ⊢
  omega
theorem d18_0 : decode jdk_68_method_9_code 0 = .ok (.aload_n 0, 1) := by decide +kernel
theorem d18_1 : decode jdk_68_method_9_code 1 = .ok (.getfield 15, 3) := by decide +kernel
theorem d18_4 : decode jdk_68_method_9_code 4 = .ok (.arraylength, 1) := by decide +kernel
theorem d18_5 : decode jdk_68_method_9_code 5 = .ok (.aload_n 0, 1) := by decide +kernel
theorem d18_6 : decode jdk_68_method_9_code 6 = .ok (.getfield 22, 3) := by decide +kernel
theorem d18_9 : decode jdk_68_method_9_code 9 = .ok (.ishr, 1) := by decide +kernel
theorem d18_10 : decode jdk_68_method_9_code 10 = .ok (.istore_n 2, 1) := by decide +kernel
theorem d18_11 : decode jdk_68_method_9_code 11 = .ok (.iload_n 1, 1) := by decide +kernel
theorem d18_12 : decode jdk_68_method_9_code 12 = .ok (.iload_n 2, 1) := by decide +kernel
theorem d18_13 : decode jdk_68_method_9_code 13 = .ok (.isub, 1) := by decide +kernel
theorem d18_14 : decode jdk_68_method_9_code 14 = .ok (.ifCond .le 24, 3) := by decide +kernel
theorem d18_38 : decode jdk_68_method_9_code 38 = .ok (.return_, 1) := by decide +kernel
theorem pn_6 : plainName "java/lang/AbstractStringBuilder" = true := by first | (simp [plainName, overriddenIn]; done) | decide +kernel
theorem ef_18_f (m : MethodId) (x0 : Addr) (x1 : Int32) : entryFrame m #[(.ref x0), (.int x1)] 3 = mkF m 0 #[.val (.ref x0), .val (.int x1), .unset] [] := by first | (simp [entryFrame, mkF, argsToLocals, Value.category]; done) | rfl
def Q18_f (Z : State) (a1 : Addr) (p2 : Int32) (b : Addr) (kb : ClassId) (cap : Int32) (A : List Int32) (h0 : Heap) (v : Option Value) (h : Heap) (L : List Loc) : Prop := v = none ∧ L = [] ∧ h = h0
theorem rm18_f (l : Launch) (Z : State) (a0 : Array Value) (hw : ∀ d ∈ tables_1, d.before a0 Z = true) (ws : List Jvm.Cond) (a1 : Addr) (p2 : Int32) (b : Addr) (kb : ClassId) (cap : Int32) (A : List Int32) (h0 : Heap) (E_a1 : Exa Z h0 a1 "java/lang/StringBuilder") (Gv_a1 : Fld Z h0 a1 "java/lang/AbstractStringBuilder" "value" "[B" (.ref b)) (Gc_a1 : Fld Z h0 a1 "java/lang/AbstractStringBuilder" "coder" "B" (.int (0 : Int32))) (V_b : Arv Z h0 b kb .byte cap (own_bs A) (.int (0 : Int32))) (hle : ¬ cap < p2) (hp : ¬ p2 < 0) :
    MetFree l mn_18 (head1 (Jvm.Cond.code mn_18 jdk_68_method_9_code 3 none :: ws) ({ frames := 0, cells := 0, slots := 0, locals := 0 } : Room)) (fun a U => a = #[(.ref a1), (.int p2)] ∧ Z.Warmed39 U.vm ∧ U.heap = h0) (fun _ _ _ _ _ => True) (fun _ U o U' => ∃ v L, o = .returned v ∧ Q18_f Z a1 p2 b kb cap A h0 v U'.heap L ∧ FrameEnd U o U' L ({ frames := 0, cells := 0, slots := 0, locals := 0 } : Room).cells ({ frames := 0, cells := 0, slots := 0, locals := 0 } : Room).slots) := by
  refine MetFree.of_bodySF (plainFor_of_name pn_6) hisR ?_
  intro p e s m args below meth c s₁ Bd hml0 hP hK
  obtain ⟨rfl, hZ, hh⟩ := hP
  have hx := Bd.exec
  have hby := Bd.bytes
  have hml : c.maxLocals = 3 := hml0
  have hown : s.vm.findClass "java/lang/AbstractStringBuilder" = some m.cls := findClass_of_methodNamed Bd.named
  have hnm := (name_of_methodNamed Bd.named Bd.method).1
  have X0 : Stand p l e ({ frames := 0, cells := 0, slots := 0, locals := 0 } : Room) s m #[(.ref a1), (.int p2)] below meth c s₁ [] 0 0 := Stand.of_body Bd
  have e0 : s₁.heap = h0 := by rw [← hh, Bd.state]; rfl
  have pre0 : ∀ t, Steps p.tables e below (s₁.setTop (mkF m 0 #[.val (.ref a1), .val (.int p2), .unset] [])) t → Steps p.tables e below (s₁.setTop (entryFrame m #[(.ref a1), (.int p2)] 3)) t := fun t k => castTop (ef_18_f m a1 p2) k
  obtain ⟨T1, X1, e1, st1⟩ := getF X0 hx hZ hown (host := "") (Or.inl (ww hw 54 rfl)) Via.refl e0 Gv_a1 (g := (mkF m 1 #[vR a1, vI p2, .unset] [iR a1])) rfl rfl (hb hby d18_1)
  obtain ⟨cl2, Ar2, q2, S2, M2, H2, G2⟩ := id V_b
  obtain ⟨T3, X3, e3, st3⟩ := getF X1 hx hZ hown (host := "") (Or.inl (ww hw 56 rfl)) Via.refl e1 Gc_a1 (g := (mkF m 6 #[vR a1, vI p2, .unset] [iR a1, iI cap])) rfl rfl (hb hby d18_6)
  have hh4 : ¬ ((0 : Int32) < (p2 - (cap >>> ((0 : Int32) &&& 31)))) := own_ens cap p2 hle hp
  obtain ⟨fs, hr, hrun, hended, hW, hsame⟩ := X3.leave (v := none) (fun _ => rfl)
  refine ⟨_, _, pre0 _ ?_, hrun, hended, _, _, rfl, ?_, ⟨_, rfl⟩, hW, hsame.mono (by decide) (by decide)⟩
  · show SA s₁ m 0 #[vR a1, vI p2, .unset] []
    refine XS.aloadN X0.here hx rfl (hb hby d18_0) rfl rfl ?_
    show SA s₁ m 1 #[vR a1, vI p2, .unset] [iR a1]
    refine st1 _ ?_
    show SA T1 m 4 #[vR a1, vI p2, .unset] [iR b]
    refine X1.arraylength hx (by rw [e1]; exact Ar2.1) (State.isArrayOf_alike hZ.alike Ar2.2.1) (g := (mkF m 4 #[vR a1, vI p2, .unset] [iR b])) rfl rfl (hb hby d18_4) _ ?_
    rw [len_of S2 M2]
    show SA T1 m 5 #[vR a1, vI p2, .unset] [iI cap]
    refine XS.aloadN X1.here hx rfl (hb hby d18_5) rfl rfl ?_
    show SA T1 m 6 #[vR a1, vI p2, .unset] [iR a1, iI cap]
    refine st3 _ ?_
    show SA T3 m 9 #[vR a1, vI p2, .unset] [iI 0, iI cap]
    refine XS.ishr X3.here hx rfl (hb hby d18_9) rfl ?_
    show SA T3 m 10 #[vR a1, vI p2, .unset] [iI (cap >>> ((0 : Int32) &&& 31))]
    refine XS.istoreN X3.here hx rfl (hb hby d18_10) rfl (l' := #[vR a1, vI p2, vI (cap >>> ((0 : Int32) &&& 31))]) rfl ?_
    show SA T3 m 11 #[vR a1, vI p2, vI (cap >>> ((0 : Int32) &&& 31))] []
    refine XS.iloadN X3.here hx rfl (hb hby d18_11) rfl ?_
    show SA T3 m 12 #[vR a1, vI p2, vI (cap >>> ((0 : Int32) &&& 31))] [iI p2]
    refine XS.iloadN X3.here hx rfl (hb hby d18_12) rfl ?_
    show SA T3 m 13 #[vR a1, vI p2, vI (cap >>> ((0 : Int32) &&& 31))] [iI (cap >>> ((0 : Int32) &&& 31)), iI p2]
    refine XS.isub X3.here hx rfl (hb hby d18_13) rfl ?_
    show SA T3 m 14 #[vR a1, vI p2, vI (cap >>> ((0 : Int32) &&& 31))] [iI (p2 - (cap >>> ((0 : Int32) &&& 31)))]
    refine XS.ifYes X3.here hx rfl (pc0 := 14) (pc' := 38) rfl (hb hby d18_14) rfl ((if0 _ _).trans (flt hh4).2.2.2) (by decide) (by decide) ?_
    show Steps _ _ _ (T3.setTop (mkF m 38 #[vR a1, vI p2, vI (cap >>> ((0 : Int32) &&& 31))] [])) _
    exact X3.returnOut hx Bd.returns (hb hby d18_38) hr
  · show Q18_f Z a1 p2 b kb cap A h0 _ T3.heap _
    rw [e3]
    exact ⟨rfl, rfl, rfl⟩
theorem d19_0 : decode jdk_68_method_68_code 0 = .ok (.getstatic 18, 3) := by decide +kernel
theorem d19_3 : decode jdk_68_method_68_code 3 = .ok (.ifCond .eq 14, 3) := by decide +kernel
theorem d19_6 : decode jdk_68_method_68_code 6 = .ok (.aload_n 0, 1) := by decide +kernel
theorem d19_7 : decode jdk_68_method_68_code 7 = .ok (.getfield 22, 3) := by decide +kernel
theorem d19_10 : decode jdk_68_method_68_code 10 = .ok (.ifCond .ne 7, 3) := by decide +kernel
theorem d19_13 : decode jdk_68_method_68_code 13 = .ok (.iconst 1, 1) := by decide +kernel
theorem d19_14 : decode jdk_68_method_68_code 14 = .ok (.goto 4, 3) := by decide +kernel
theorem d19_18 : decode jdk_68_method_68_code 18 = .ok (.ireturn, 1) := by decide +kernel
theorem ef_19 (m : MethodId) (x0 : Addr) : entryFrame m #[(.ref x0)] 1 = mkF m 0 #[.val (.ref x0)] [] := by first | (simp [entryFrame, mkF, argsToLocals, Value.category]; done) | rfl
def Q19 (Z : State) (a1 : Addr) (cs : Int32) (h0 : Heap) (v : Option Value) (h : Heap) (L : List Loc) : Prop := v = some (.int (1 : Int32)) ∧ L = [] ∧ h = h0
theorem rm19 (l : Launch) (Z : State) (a0 : Array Value) (hw : ∀ d ∈ tables_1, d.before a0 Z = true) (ws : List Jvm.Cond) (a1 : Addr) (cs : Int32) (h0 : Heap) (n0 : Nat) (O0 : Old Z n0 h0) (F_c : Fld Z h0 a1 "java/lang/AbstractStringBuilder" "coder" "B" (.int (0 : Int32))) (S_CS : Sta Z Z.heap "java/lang/String" "COMPACT_STRINGS" "Z" (.int cs)) (h_cs : ¬ cs = (0 : Int32)) :
    MetFree l mn_19 (head1 (Jvm.Cond.code mn_19 jdk_68_method_68_code 1 (some .boolean) :: ws) ({ frames := 0, cells := 0, slots := 0, locals := 0 } : Room)) (fun a U => a = #[(.ref a1)] ∧ Z.Warmed39 U.vm ∧ U.heap = h0) (fun _ _ _ _ _ => True) (fun _ U o U' => ∃ v L, o = .returned v ∧ Q19 Z a1 cs h0 v U'.heap L ∧ FrameEnd U o U' L ({ frames := 0, cells := 0, slots := 0, locals := 0 } : Room).cells ({ frames := 0, cells := 0, slots := 0, locals := 0 } : Room).slots) := by
  refine MetFree.of_bodySF (plainFor_of_name pn_6) hisR ?_
  intro p e s m args below meth c s₁ Bd hml0 hP hK
  obtain ⟨rfl, hZ, hh⟩ := hP
  have hx := Bd.exec
  have hby := Bd.bytes
  have hml : c.maxLocals = 1 := hml0
  have hown : s.vm.findClass "java/lang/AbstractStringBuilder" = some m.cls := findClass_of_methodNamed Bd.named
  have hnm := (name_of_methodNamed Bd.named Bd.method).1
  have X0 : Stand p l e ({ frames := 0, cells := 0, slots := 0, locals := 0 } : Room) s m #[(.ref a1)] below meth c s₁ [] 0 0 := Stand.of_body Bd
  have e0 : s₁.heap = h0 := by rw [← hh, Bd.state]; rfl
  have pre0 : ∀ t, Steps p.tables e below (s₁.setTop (mkF m 0 #[.val (.ref a1)] [])) t → Steps p.tables e below (s₁.setTop (entryFrame m #[(.ref a1)] 1)) t := fun t k => castTop (ef_19 m a1) k
  obtain ⟨T1, X1, e1, st1⟩ := getS2 X0 hx hZ hown (host := "") (Or.inl (ww hw 51 rfl)) Via.refl e0 (S_CS.ext O0.2) (g := (mkF m 0 #[vR a1] [])) rfl (hb hby d19_0)
  obtain ⟨T2, X2, e2, st2⟩ := getF X1 hx hZ hown (host := "") (Or.inl (ww hw 56 rfl)) Via.refl e1 F_c (g := (mkF m 7 #[vR a1] [iR a1])) rfl rfl (hb hby d19_7)
  obtain ⟨fs, hr, hrun, hended, hW, hsame⟩ := X2.leave (v := some (.int (1 : Int32))) (fun h => by rw [Bd.returns] at h; cases h)
  refine ⟨_, _, pre0 _ ?_, hrun, hended, _, _, rfl, ?_, ⟨_, rfl⟩, hW, hsame.mono (by decide) (by decide)⟩
  · show SA s₁ m 0 #[vR a1] []
    refine st1 _ ?_
    show SA T1 m 3 #[vR a1] [iI cs]
    refine XS.ifNo X1.here hx rfl (hb hby d19_3) rfl ((if0 _ _).trans (feq h_cs).1) ?_
    show SA T1 m 6 #[vR a1] []
    refine XS.aloadN X1.here hx rfl (hb hby d19_6) rfl rfl ?_
    show SA T1 m 7 #[vR a1] [iR a1]
    refine st2 _ ?_
    show SA T2 m 10 #[vR a1] [iI 0]
    refine XS.ifNo X2.here hx rfl (hb hby d19_10) rfl ((if0 _ _).trans (teq (by decide : (0 : Int32) = (0 : Int32))).2) ?_
    show SA T2 m 13 #[vR a1] []
    refine XS.iconst X2.here hx rfl (hb hby d19_13) ?_
    show SA T2 m 14 #[vR a1] [iI 1]
    refine XS.goto X2.here hx rfl (pc0 := 14) (pc' := 18) rfl (hb hby d19_14) (by decide) (by decide) ?_
    show Steps _ _ _ (T2.setTop (mkF m 18 #[vR a1] [iI 1])) _
    exact retN X2 hx (t := .boolean) Bd.returns (by simp) (hb hby d19_18) hr
  · show Q19 Z a1 cs h0 _ T2.heap _
    rw [e2]
    exact ⟨rfl, rfl, rfl⟩
def own_can (p1 : Int32) : Int32 := (nar .boolean (if (255 : Int32) < p1 then (0 : Int32) else (1 : Int32)))
theorem d20_0 : decode jdk_43_method_3_code 0 = .ok (.iload_n 0, 1) := by decide +kernel
theorem d20_1 : decode jdk_43_method_3_code 1 = .ok (.sipush 255, 3) := by decide +kernel
theorem d20_4 : decode jdk_43_method_3_code 4 = .ok (.if_icmp .gt 7, 3) := by decide +kernel
theorem d20_7 : decode jdk_43_method_3_code 7 = .ok (.iconst 1, 1) := by decide +kernel
theorem d20_8 : decode jdk_43_method_3_code 8 = .ok (.goto 4, 3) := by decide +kernel
theorem d20_11 : decode jdk_43_method_3_code 11 = .ok (.iconst 0, 1) := by decide +kernel
theorem d20_12 : decode jdk_43_method_3_code 12 = .ok (.ireturn, 1) := by decide +kernel
theorem ef_20 (m : MethodId) (x0 : Int32) : entryFrame m #[(.int x0)] 1 = mkF m 0 #[.val (.int x0)] [] := by first | (simp [entryFrame, mkF, argsToLocals, Value.category]; done) | rfl
def Q20 (Z : State) (p1 : Int32) (h0 : Heap) (v : Option Value) (h : Heap) (L : List Loc) : Prop := v = some (.int (own_can p1)) ∧ L = [] ∧ h = h0
theorem rm20 (l : Launch) (Z : State) (a0 : Array Value) (hw : ∀ d ∈ tables_1, d.before a0 Z = true) (ws : List Jvm.Cond) (p1 : Int32) (h0 : Heap) :
    MetFree l mn_20 (head1 (Jvm.Cond.code mn_20 jdk_43_method_3_code 1 (some .boolean) :: ws) ({ frames := 0, cells := 0, slots := 0, locals := 0 } : Room)) (fun a U => a = #[(.int p1)] ∧ Z.Warmed39 U.vm ∧ U.heap = h0) (fun _ _ _ _ _ => True) (fun _ U o U' => ∃ v L, o = .returned v ∧ Q20 Z p1 h0 v U'.heap L ∧ FrameEnd U o U' L ({ frames := 0, cells := 0, slots := 0, locals := 0 } : Room).cells ({ frames := 0, cells := 0, slots := 0, locals := 0 } : Room).slots) := by
  refine MetFree.of_bodySF (plainFor_of_name pn_2) hisR ?_
  intro p e s m args below meth c s₁ Bd hml0 hP hK
  obtain ⟨rfl, hZ, hh⟩ := hP
  have hx := Bd.exec
  have hby := Bd.bytes
  have hml : c.maxLocals = 1 := hml0
  have hown : s.vm.findClass "java/lang/StringLatin1" = some m.cls := findClass_of_methodNamed Bd.named
  have hnm := (name_of_methodNamed Bd.named Bd.method).1
  have X0 : Stand p l e ({ frames := 0, cells := 0, slots := 0, locals := 0 } : Room) s m #[(.int p1)] below meth c s₁ [] 0 0 := Stand.of_body Bd
  have e0 : s₁.heap = h0 := by rw [← hh, Bd.state]; rfl
  have pre0 : ∀ t, Steps p.tables e below (s₁.setTop (mkF m 0 #[.val (.int p1)] [])) t → Steps p.tables e below (s₁.setTop (entryFrame m #[(.int p1)] 1)) t := fun t k => castTop (ef_20 m p1) k
  obtain ⟨v1, hv1⟩ : ∃ z : Int32, z = (if (255 : Int32) < p1 then (0 : Int32) else (1 : Int32)) := ⟨_, rfl⟩
  obtain ⟨T2, X2, e2, st2⟩ : own_Mid X0 h0 (mkF m 4 #[vI p1] [iI 255, iI p1]) (mkF m 12 #[vI p1] [iI v1]) := by
    by_cases hc3 : (255 : Int32) < p1
    · refine ⟨s₁, X0, e0, fun t kt => ?_⟩
      subst hv1
      simp only [if_pos hc3] at kt
      show SA s₁ m 4 #[vI p1] [iI 255, iI p1]
      refine XS.icmpYes X0.here hx rfl (pc0 := 4) (pc' := 11) rfl (hb hby d20_4) rfl (tlt hc3).2.2.1 (by decide) (by decide) ?_
      show SA s₁ m 11 #[vI p1] []
      refine XS.iconst X0.here hx rfl (hb hby d20_11) ?_
      exact kt
    · refine ⟨s₁, X0, e0, fun t kt => ?_⟩
      subst hv1
      simp only [if_neg hc3] at kt
      show SA s₁ m 4 #[vI p1] [iI 255, iI p1]
      refine XS.icmpNo X0.here hx rfl (hb hby d20_4) rfl (flt hc3).2.2.1 ?_
      show SA s₁ m 7 #[vI p1] []
      refine XS.iconst X0.here hx rfl (hb hby d20_7) ?_
      show SA s₁ m 8 #[vI p1] [iI 1]
      refine XS.goto X0.here hx rfl (pc0 := 8) (pc' := 12) rfl (hb hby d20_8) (by decide) (by decide) ?_
      exact kt
  obtain ⟨fs, hr, hrun, hended, hW, hsame⟩ := X2.leave (v := some (.int (nar .boolean v1))) (fun h => by rw [Bd.returns] at h; cases h)
  refine ⟨_, _, pre0 _ ?_, hrun, hended, _, _, rfl, ?_, ⟨_, rfl⟩, hW, hsame.mono (by decide) (by decide)⟩
  · show SA s₁ m 0 #[vI p1] []
    refine XS.iloadN X0.here hx rfl (hb hby d20_0) rfl ?_
    show SA s₁ m 1 #[vI p1] [iI p1]
    refine XS.sipush X0.here hx rfl (hb hby d20_1) ?_
    show SA s₁ m 4 #[vI p1] [iI 255, iI p1]
    refine st2 _ ?_
    show Steps _ _ _ (T2.setTop (mkF m 12 #[vI p1] [iI v1])) _
    exact retN X2 hx (t := .boolean) Bd.returns (by simp) (hb hby d20_12) hr
  · show Q20 Z p1 h0 _ T2.heap _
    rw [e2]
    exact ⟨by subst hv1; first | rfl | (simp only [own_can]; done) | (simp only [own_can]; rfl) | (simp only [own_can, nar] ; first | rfl | (simp; done) | decide), rfl, rfl⟩
theorem d17_0 : decode jdk_68_method_31_code 0 = .ok (.aload_n 0, 1) := by decide +kernel
theorem d17_1 : decode jdk_68_method_31_code 1 = .ok (.aload_n 0, 1) := by decide +kernel
theorem d17_2 : decode jdk_68_method_31_code 2 = .ok (.getfield 79, 3) := by decide +kernel
theorem d17_5 : decode jdk_68_method_31_code 5 = .ok (.iconst 1, 1) := by decide +kernel
theorem d17_6 : decode jdk_68_method_31_code 6 = .ok (.iadd, 1) := by decide +kernel
theorem d17_7 : decode jdk_68_method_31_code 7 = .ok (.invokevirtual 100, 3) := by decide +kernel
theorem d17_10 : decode jdk_68_method_31_code 10 = .ok (.aload_n 0, 1) := by decide +kernel
theorem d17_11 : decode jdk_68_method_31_code 11 = .ok (.invokevirtual 83, 3) := by decide +kernel
theorem d17_14 : decode jdk_68_method_31_code 14 = .ok (.ifCond .eq 31, 3) := by decide +kernel
theorem d17_17 : decode jdk_68_method_31_code 17 = .ok (.iload_n 1, 1) := by decide +kernel
theorem d17_18 : decode jdk_68_method_31_code 18 = .ok (.invokestatic 191, 3) := by decide +kernel
theorem d17_21 : decode jdk_68_method_31_code 21 = .ok (.ifCond .eq 24, 3) := by decide +kernel
theorem d17_24 : decode jdk_68_method_31_code 24 = .ok (.aload_n 0, 1) := by decide +kernel
theorem d17_25 : decode jdk_68_method_31_code 25 = .ok (.getfield 15, 3) := by decide +kernel
theorem d17_28 : decode jdk_68_method_31_code 28 = .ok (.aload_n 0, 1) := by decide +kernel
theorem d17_29 : decode jdk_68_method_31_code 29 = .ok (.dup, 1) := by decide +kernel
theorem d17_30 : decode jdk_68_method_31_code 30 = .ok (.getfield 79, 3) := by decide +kernel
theorem d17_33 : decode jdk_68_method_31_code 33 = .ok (.dup_x1, 1) := by decide +kernel
theorem d17_34 : decode jdk_68_method_31_code 34 = .ok (.iconst 1, 1) := by decide +kernel
theorem d17_35 : decode jdk_68_method_31_code 35 = .ok (.iadd, 1) := by decide +kernel
theorem d17_36 : decode jdk_68_method_31_code 36 = .ok (.putfield 79, 3) := by decide +kernel
theorem d17_39 : decode jdk_68_method_31_code 39 = .ok (.iload_n 1, 1) := by decide +kernel
theorem d17_40 : decode jdk_68_method_31_code 40 = .ok (.i2b, 1) := by decide +kernel
theorem d17_41 : decode jdk_68_method_31_code 41 = .ok (.bastore, 1) := by decide +kernel
theorem d17_42 : decode jdk_68_method_31_code 42 = .ok (.goto 33, 3) := by decide +kernel
theorem d17_75 : decode jdk_68_method_31_code 75 = .ok (.aload_n 0, 1) := by decide +kernel
theorem d17_76 : decode jdk_68_method_31_code 76 = .ok (.areturn, 1) := by decide +kernel
theorem ef_17 (m : MethodId) (x0 : Addr) (x1 : Int32) : entryFrame m #[(.ref x0), (.int x1)] 2 = mkF m 0 #[.val (.ref x0), .val (.int x1)] [] := by first | (simp [entryFrame, mkF, argsToLocals, Value.category]; done) | rfl
def Q17 (Z : State) (a1 : Addr) (p2 : Int32) (b : Addr) (kb : ClassId) (cap : Int32) (A : List Int32) (n : Int32) (cs : Int32) (h0 : Heap) (n0 : Nat) (v : Option Value) (h : Heap) (L : List Loc) : Prop := v = some (.ref a1) ∧ Fr n0 L ∧ Keep h0 h [a1, b] ∧ Exa Z h a1 "java/lang/StringBuilder" ∧ Fld Z h a1 "java/lang/AbstractStringBuilder" "value" "[B" (.ref b) ∧ Fld Z h a1 "java/lang/AbstractStringBuilder" "coder" "B" (.int (0 : Int32)) ∧ Fld Z h a1 "java/lang/AbstractStringBuilder" "count" "I" (.int (n + (1 : Int32))) ∧ Arv Z h b kb .byte cap (own_bs (A ++ [(nar .byte p2.toInt8.toInt32)])) (.int (0 : Int32))
theorem rm17 (l : Launch) (Z : State) (a0 : Array Value) (hw : ∀ d ∈ tables_1, d.before a0 Z = true) (ws : List Jvm.Cond) (a1 : Addr) (p2 : Int32) (b : Addr) (kb : ClassId) (cap : Int32) (A : List Int32) (n : Int32) (cs : Int32) (h0 : Heap) (n0 : Nat) (Z0 : n0 ≤ h0.size) (O0 : Old Z n0 h0) (E_a1 : Exa Z h0 a1 "java/lang/StringBuilder") (Gv_a1 : Fld Z h0 a1 "java/lang/AbstractStringBuilder" "value" "[B" (.ref b)) (Gc_a1 : Fld Z h0 a1 "java/lang/AbstractStringBuilder" "coder" "B" (.int (0 : Int32))) (V_b : Arv Z h0 b kb .byte cap (own_bs A) (.int (0 : Int32))) (g_b : n0 ≤ b) (Gn_a1 : Fld Z h0 a1 "java/lang/AbstractStringBuilder" "count" "I" (.int n)) (g_a1 : n0 ≤ a1) (ne_a1_b : a1 ≠ b) (hn : ¬ n < 0) (hA : n.toNatClampNeg = A.length) (hs0 : ¬ (n + (1 : Int32)) < 0) (hle : ¬ cap < (n + (1 : Int32))) (hlt : n < cap) (hl : ¬ (255 : Int32) < p2) (S_CS : Sta Z Z.heap "java/lang/String" "COMPACT_STRINGS" "Z" (.int cs)) (h_cs : ¬ cs = (0 : Int32)) :
    MetFree l mn_21 (head1 (Jvm.Cond.code mn_21 jdk_68_method_31_code 2 (some (.object "java/lang/AbstractStringBuilder")) :: ws) ({ frames := 1, cells := 0, slots := 0, locals := 14 } : Room)) (fun a U => a = #[(.ref a1), (.int p2)] ∧ Z.Warmed39 U.vm ∧ U.heap = h0) (fun _ _ _ _ _ => True) (fun _ U o U' => ∃ v L, o = .returned v ∧ Q17 Z a1 p2 b kb cap A n cs h0 n0 v U'.heap L ∧ FrameEnd U o U' L ({ frames := 1, cells := 0, slots := 0, locals := 14 } : Room).cells ({ frames := 1, cells := 0, slots := 0, locals := 14 } : Room).slots) := by
  refine MetFree.of_bodySF (plainFor_of_name pn_6) hisR ?_
  intro p e s m args below meth c s₁ Bd hml0 hP hK
  obtain ⟨rfl, hZ, hh⟩ := hP
  have hx := Bd.exec
  have hby := Bd.bytes
  have hml : c.maxLocals = 2 := hml0
  have hown : s.vm.findClass "java/lang/AbstractStringBuilder" = some m.cls := findClass_of_methodNamed Bd.named
  have hnm := (name_of_methodNamed Bd.named Bd.method).1
  have X0 : Stand p l e ({ frames := 1, cells := 0, slots := 0, locals := 14 } : Room) s m #[(.ref a1), (.int p2)] below meth c s₁ [] 0 0 := Stand.of_body Bd
  have e0 : s₁.heap = h0 := by rw [← hh, Bd.state]; rfl
  have N0 := Fr.nil n0
  have K0 := Keep.refl h0 [a1, b]
  have pre0 : ∀ t, Steps p.tables e below (s₁.setTop (mkF m 0 #[.val (.ref a1), .val (.int p2)] [])) t → Steps p.tables e below (s₁.setTop (entryFrame m #[(.ref a1), (.int p2)] 2)) t := fun t k => castTop (ef_17 m a1 p2) k
  obtain ⟨T1, X1, e1, st1⟩ := getF X0 hx hZ hown (host := "") (Or.inl (ww hw 104 rfl)) Via.refl e0 Gn_a1 (g := (mkF m 2 #[vR a1, vI p2] [iR a1, iR a1])) rfl rfl (hb hby d17_2)
  obtain ⟨cq2, q2, q2'⟩ := E_a1.cell
  obtain ⟨_, _, ⟨T2, L2, k2, n2⟩, -, X2, ⟨Lc2, hQ2, l2, y2, z2⟩, st2⟩ := X1.privateBack hx (y := mn_18) hown (mvT hZ (ww hw 106 rfl)) (mvT hZ (ww hw 107 rfl)) (own_selPriv2 (own_nf (z := mn_18) rfl (notFace_of_selects (args := #[]) (mvT hZ (ww hw 109 rfl))) (mvT hZ (ww hw 107 rfl) (args := #[]))) (Cond.privateMethod_at (mvP hZ (ww hw 108 rfl) (args := #[]))) (mvT hZ (ww hw 107 rfl)) (by decide)) (Cond.privateMethod_at (mvP hZ (ww hw 108 rfl) (args := #[]))) (mvT hZ (ww hw 110 rfl)) (by decide) (backOf (W := 0) (rm18_f l Z a0 hw [] a1 (n + (1 : Int32)) b kb cap A h0 E_a1 Gv_a1 Gc_a1 V_b hle hs0) hZ (ww hw 110 rfl) (ww hw 48 rfl) (by decide) (by decide)) (g := (mkF m 7 #[vR a1, vI p2] [iI (n + (1 : Int32)), iR a1])) rfl (by rw [hml]; rfl) (Steps.refl _) (a := a1) (by rw [e1]; exact q2) q2' (argsL := [(.int (n + (1 : Int32)))]) (rest := []) (lenOf pd_15 rfl) rfl (wz rfl) (hb hby d17_7) (fun _ _ => ⟨rfl, e1, (by decide : 0 + 0 ≤ _), (by decide : 0 + 0 ≤ _)⟩)
  dsimp only [Pt.U, Pt.locs, Pt.cells, Pt.slots] at X2 l2 y2 z2 st2 hQ2
  subst l2 y2 z2
  obtain ⟨rfl, rfl, e2⟩ := hQ2
  try rw [List.append_nil] at X2
  obtain ⟨cq3, kq3, q3a, q3b, q3c⟩ := isOf hZ e2 E_a1
  obtain ⟨_, _, ⟨T3, L3, k3, n3⟩, -, X3, ⟨Lc3, hQ3, l3, y3, z3⟩, st3⟩ := X2.virtualBack hx (y := mn_19) (z := mn_19) hown (mvT hZ (ww hw 111 rfl)) (mvT hZ (ww hw 112 rfl)) (notFace_of_selects (args := #[]) (mvT hZ (ww hw 114 rfl))) (mvT hZ (ww hw 114 rfl)) (mvT hZ (ww hw 113 rfl)) (by decide) (backOf (W := 0) (rm19 l Z a0 hw [] a1 cs h0 n0 O0 Gc_a1 S_CS h_cs) hZ (ww hw 115 rfl) (ww hw 48 rfl) (by decide) (by decide)) q3a q3c (g := (mkF m 11 #[vR a1, vI p2] [iR a1])) rfl (by rw [hml]; rfl) (Steps.refl _) (argsL := []) (rest := []) (lenOf pd_2 rfl) rfl (wz rfl) (hb hby d17_11) (fun _ _ => ⟨rfl, e2, (by decide : 0 + 0 ≤ _), (by decide : 0 + 0 ≤ _)⟩)
  dsimp only [Pt.U, Pt.locs, Pt.cells, Pt.slots] at X3 l3 y3 z3 st3 hQ3
  subst l3 y3 z3
  obtain ⟨rfl, rfl, e3⟩ := hQ3
  try rw [List.append_nil] at X3
  obtain ⟨_, _, ⟨T4, L4, k4, n4⟩, -, X4, ⟨Lc4, hQ4, l4, y4, z4⟩, st4⟩ := Jvm.LawKit.callS X3 hx (y := mn_20) hown (mvT hZ (ww hw 116 rfl)) (mvT hZ (ww hw 117 rfl)) (mvT hZ (ww hw 84 rfl)) (mvT hZ (ww hw 118 rfl)) (by decide) (backOf (W := 0) (rm20 l Z a0 hw [] p2 h0 ) hZ (ww hw 118 rfl) (ww hw 84 rfl) (by decide) (by decide)) (g := (mkF m 18 #[vR a1, vI p2] [iI p2])) rfl (by rw [hml]; rfl) (argsL := [(.int p2)]) (rest := []) (lenOf pd_16 rfl) rfl (wz rfl) (hb hby d17_18) (fun _ _ => ⟨rfl, e3, (by decide : 0 + 0 ≤ _), (by decide : 0 + 0 ≤ _)⟩)
  dsimp only [Pt.U, Pt.locs, Pt.cells, Pt.slots] at X4 l4 y4 z4 st4 hQ4
  subst l4 y4 z4
  obtain ⟨rfl, rfl, e4⟩ := hQ4
  try rw [List.append_nil] at X4
  have hh5 : ¬ ((own_can p2) = (0 : Int32)) := (by unfold own_can; rw [if_neg hl]; decide)
  obtain ⟨T6, X6, e6, st6⟩ := getF X4 hx hZ hown (host := "") (Or.inl (ww hw 54 rfl)) Via.refl e4 Gv_a1 (g := (mkF m 25 #[vR a1, vI p2] [iR a1])) rfl rfl (hb hby d17_25)
  obtain ⟨T7, X7, e7, st7⟩ := getF X6 hx hZ hown (host := "") (Or.inl (ww hw 104 rfl)) Via.refl e6 Gn_a1 (g := (mkF m 30 #[vR a1, vI p2] [iR a1, iR a1, iR b])) rfl rfl (hb hby d17_30)
  obtain ⟨T8, h8, X8, e8, W8, st8⟩ := putF X7 hx hZ hown (host := "") (Or.inl (ww hw 104 rfl)) Via.refl e7 Gn_a1 E_a1 (Or.inl (ww hw 105 rfl)) (ww hw 39 rfl) (ty := .int) (by decide) rfl rfl (g := (mkF m 36 #[vR a1, vI p2] [iI (n + (1 : Int32)), iR a1, iI n, iR b])) rfl rfl (hb hby d17_36)
  have Fw8 := Gn_a1.same W8
  have K8 : Keep h0 h8 [a1, b] := K0.wr W8 (Or.inl (List.mem_of_getElem? (i := 0) rfl))
  have N8 := Fr.snoc X8 N0 g_a1
  have fk9 := (V_b.other W8 (Ne.symm ne_a1_b))
  have VP10 : Arv Z h8 b kb .byte cap (own_bs A ++ List.replicate 1 (.int (0 : Int32))) (.int (0 : Int32)) := fk9.pad (pad_rep _ _ 1)
  obtain ⟨cl11, Ar11, q11, S11, M11, H11, G11⟩ := id VP10
  have hin12 : ¬ (n < 0 ∨ cl11.slots.size ≤ (n).toNatClampNeg) := inb_of S11 ⟨hn, hlt⟩
  obtain ⟨T13, h13, X13, e13, W13, st13⟩ := stB X8 hx hZ e8 Ar11 (j := n) hin12 (g := (mkF m 41 #[vR a1, vI p2] [iI p2.toInt8.toInt32, iI n, iR b])) rfl rfl (hb hby d17_41)
  have V13r := Arv.set Ar11 q11 S11 M11 H11 G11 (fits_nar_byte _) W13 A.length hA (by simp)
  have V13 : Arv Z h13 b kb .byte cap (own_bs (A ++ [(nar .byte p2.toInt8.toInt32)])) (.int (0 : Int32)) := by rw [← own_setL A (nar .byte p2.toInt8.toInt32) (.int (0 : Int32))]; exact V13r
  have K13 : Keep h0 h13 [a1, b] := K8.wr W13 (Or.inl (List.mem_of_getElem? (i := 1) rfl))
  have N13 := Fr.snoc X13 N8 g_b
  obtain ⟨fs, hr, hrun, hended, hW, hsame⟩ := X13.leave (v := some (.ref a1)) (fun h => by rw [Bd.returns] at h; cases h)
  have fk14 := ((E_a1.wr W8).wr W13)
  have fk15 := ((Gv_a1.other W8 (Or.inr (slot_ne (Or.inl (ww hw 55 rfl)) (Or.inl (ww hw 105 rfl)) (by decide) (t := (.array .byte)) (t' := .int) (by decide) (by decide)))).other W13 (Or.inl ne_a1_b))
  have fk16 := ((Gc_a1.other W8 (Or.inr (slot_ne (Or.inl (ww hw 57 rfl)) (Or.inl (ww hw 105 rfl)) (by decide) (t := .byte) (t' := .int) (by decide) (by decide)))).other W13 (Or.inl ne_a1_b))
  have fk17 := (Fw8.other W13 (Or.inl ne_a1_b))
  refine ⟨_, _, pre0 _ ?_, hrun, hended, _, _, rfl, ?_, ⟨_, rfl⟩, hW, hsame.mono (by decide) (by decide)⟩
  · show SA s₁ m 0 #[vR a1, vI p2] []
    refine XS.aloadN X0.here hx rfl (hb hby d17_0) rfl rfl ?_
    show SA s₁ m 1 #[vR a1, vI p2] [iR a1]
    refine XS.aloadN X0.here hx rfl (hb hby d17_1) rfl rfl ?_
    show SA s₁ m 2 #[vR a1, vI p2] [iR a1, iR a1]
    refine st1 _ ?_
    show SA T1 m 5 #[vR a1, vI p2] [iI n, iR a1]
    refine XS.iconst X1.here hx rfl (hb hby d17_5) ?_
    show SA T1 m 6 #[vR a1, vI p2] [iI 1, iI n, iR a1]
    refine XS.iadd X1.here hx rfl (hb hby d17_6) rfl ?_
    show SA T1 m 7 #[vR a1, vI p2] [iI (n + (1 : Int32)), iR a1]
    refine st2.trans ?_
    show SA T2 m 10 #[vR a1, vI p2] []
    refine XS.aloadN X2.here hx rfl (hb hby d17_10) rfl rfl ?_
    show SA T2 m 11 #[vR a1, vI p2] [iR a1]
    refine st3.trans ?_
    show SA T3 m 14 #[vR a1, vI p2] [iI 1]
    refine XS.ifNo X3.here hx rfl (hb hby d17_14) rfl ((if0 _ _).trans (feq (by decide : ¬ ((1 : Int32) = (0 : Int32)))).1) ?_
    show SA T3 m 17 #[vR a1, vI p2] []
    refine XS.iloadN X3.here hx rfl (hb hby d17_17) rfl ?_
    show SA T3 m 18 #[vR a1, vI p2] [iI p2]
    refine st4 _ ?_
    show SA T4 m 21 #[vR a1, vI p2] [iI (own_can p2)]
    refine XS.ifNo X4.here hx rfl (hb hby d17_21) rfl ((if0 _ _).trans (feq hh5).1) ?_
    show SA T4 m 24 #[vR a1, vI p2] []
    refine XS.aloadN X4.here hx rfl (hb hby d17_24) rfl rfl ?_
    show SA T4 m 25 #[vR a1, vI p2] [iR a1]
    refine st6 _ ?_
    show SA T6 m 28 #[vR a1, vI p2] [iR b]
    refine XS.aloadN X6.here hx rfl (hb hby d17_28) rfl rfl ?_
    show SA T6 m 29 #[vR a1, vI p2] [iR a1, iR b]
    refine XS.dup X6.here hx rfl (hb hby d17_29) rfl rfl ?_
    show SA T6 m 30 #[vR a1, vI p2] [iR a1, iR a1, iR b]
    refine st7 _ ?_
    show SA T7 m 33 #[vR a1, vI p2] [iI n, iR a1, iR b]
    refine XS.dupX1 X7.here hx rfl (hb hby d17_33) rfl rfl rfl ?_
    show SA T7 m 34 #[vR a1, vI p2] [iI n, iR a1, iI n, iR b]
    refine XS.iconst X7.here hx rfl (hb hby d17_34) ?_
    show SA T7 m 35 #[vR a1, vI p2] [iI 1, iI n, iR a1, iI n, iR b]
    refine XS.iadd X7.here hx rfl (hb hby d17_35) rfl ?_
    show SA T7 m 36 #[vR a1, vI p2] [iI (n + (1 : Int32)), iR a1, iI n, iR b]
    refine st8 _ ?_
    show SA T8 m 39 #[vR a1, vI p2] [iI n, iR b]
    refine XS.iloadN X8.here hx rfl (hb hby d17_39) rfl ?_
    show SA T8 m 40 #[vR a1, vI p2] [iI p2, iI n, iR b]
    refine XS.i2b X8.here hx rfl (hb hby d17_40) rfl ?_
    show SA T8 m 41 #[vR a1, vI p2] [iI p2.toInt8.toInt32, iI n, iR b]
    refine st13 _ ?_
    show SA T13 m 42 #[vR a1, vI p2] []
    refine XS.goto X13.here hx rfl (pc0 := 42) (pc' := 75) rfl (hb hby d17_42) (by decide) (by decide) ?_
    show SA T13 m 75 #[vR a1, vI p2] []
    refine XS.aloadN X13.here hx rfl (hb hby d17_75) rfl rfl ?_
    show Steps _ _ _ (T13.setTop (mkF m 76 #[vR a1, vI p2] [iR a1])) _
    jvm_step X13.here [X13.here.top, hx, (hb hby d17_76), X13.method', Bd.returns, Value.isRef, FieldType.isReference]
    first | (intro acts; rw [hr _ acts rfl rfl rfl]) | rw [hr _ _ rfl rfl rfl]
    exact Steps.refl _
  · show Q17 Z a1 p2 b kb cap A n cs h0 n0 _ T13.heap _
    rw [e13]
    exact ⟨rfl, N13, K13, fk14, fk15, fk16, fk17, V13⟩
theorem d16_0 : decode jdk_67_method_14_code 0 = .ok (.aload_n 0, 1) := by decide +kernel
theorem d16_1 : decode jdk_67_method_14_code 1 = .ok (.iload_n 1, 1) := by decide +kernel
theorem d16_2 : decode jdk_67_method_14_code 2 = .ok (.invokespecial 50, 3) := by decide +kernel
theorem d16_5 : decode jdk_67_method_14_code 5 = .ok (.pop, 1) := by decide +kernel
theorem d16_6 : decode jdk_67_method_14_code 6 = .ok (.aload_n 0, 1) := by decide +kernel
theorem d16_7 : decode jdk_67_method_14_code 7 = .ok (.areturn, 1) := by decide +kernel
theorem pn_7 : plainName "java/lang/StringBuilder" = true := by first | (simp [plainName, overriddenIn]; done) | decide +kernel
theorem ef_16 (m : MethodId) (x0 : Addr) (x1 : Int32) : entryFrame m #[(.ref x0), (.int x1)] 2 = mkF m 0 #[.val (.ref x0), .val (.int x1)] [] := by first | (simp [entryFrame, mkF, argsToLocals, Value.category]; done) | rfl
def Q16 (Z : State) (a1 : Addr) (p2 : Int32) (b : Addr) (kb : ClassId) (cap : Int32) (A : List Int32) (n : Int32) (cs : Int32) (h0 : Heap) (n0 : Nat) (v : Option Value) (h : Heap) (L : List Loc) : Prop := v = some (.ref a1) ∧ Fr n0 L ∧ Keep h0 h [a1, b] ∧ Exa Z h a1 "java/lang/StringBuilder" ∧ Fld Z h a1 "java/lang/AbstractStringBuilder" "value" "[B" (.ref b) ∧ Fld Z h a1 "java/lang/AbstractStringBuilder" "coder" "B" (.int (0 : Int32)) ∧ Fld Z h a1 "java/lang/AbstractStringBuilder" "count" "I" (.int (n + (1 : Int32))) ∧ Arv Z h b kb .byte cap (own_bs (A ++ [(nar .byte p2.toInt8.toInt32)])) (.int (0 : Int32))
theorem rm16 (l : Launch) (Z : State) (a0 : Array Value) (hw : ∀ d ∈ tables_1, d.before a0 Z = true) (ws : List Jvm.Cond) (a1 : Addr) (p2 : Int32) (b : Addr) (kb : ClassId) (cap : Int32) (A : List Int32) (n : Int32) (cs : Int32) (h0 : Heap) (n0 : Nat) (Z0 : n0 ≤ h0.size) (O0 : Old Z n0 h0) (E_a1 : Exa Z h0 a1 "java/lang/StringBuilder") (Gv_a1 : Fld Z h0 a1 "java/lang/AbstractStringBuilder" "value" "[B" (.ref b)) (Gc_a1 : Fld Z h0 a1 "java/lang/AbstractStringBuilder" "coder" "B" (.int (0 : Int32))) (V_b : Arv Z h0 b kb .byte cap (own_bs A) (.int (0 : Int32))) (g_b : n0 ≤ b) (Gn_a1 : Fld Z h0 a1 "java/lang/AbstractStringBuilder" "count" "I" (.int n)) (g_a1 : n0 ≤ a1) (ne_a1_b : a1 ≠ b) (hn : ¬ n < 0) (hA : n.toNatClampNeg = A.length) (hs0 : ¬ (n + (1 : Int32)) < 0) (hle : ¬ cap < (n + (1 : Int32))) (hlt : n < cap) (hl : ¬ (255 : Int32) < p2) (S_CS : Sta Z Z.heap "java/lang/String" "COMPACT_STRINGS" "Z" (.int cs)) (h_cs : ¬ cs = (0 : Int32)) :
    MetFree l mn_22 (head1 (Jvm.Cond.code mn_22 jdk_67_method_14_code 2 (some (.object "java/lang/StringBuilder")) :: ws) ({ frames := 2, cells := 0, slots := 0, locals := 27 } : Room)) (fun a U => a = #[(.ref a1), (.int p2)] ∧ Z.Warmed39 U.vm ∧ U.heap = h0) (fun _ _ _ _ _ => True) (fun _ U o U' => ∃ v L, o = .returned v ∧ Q16 Z a1 p2 b kb cap A n cs h0 n0 v U'.heap L ∧ FrameEnd U o U' L ({ frames := 2, cells := 0, slots := 0, locals := 27 } : Room).cells ({ frames := 2, cells := 0, slots := 0, locals := 27 } : Room).slots) := by
  refine MetFree.of_bodySF (plainFor_of_name pn_7) hisR ?_
  intro p e s m args below meth c s₁ Bd hml0 hP hK
  obtain ⟨rfl, hZ, hh⟩ := hP
  have hx := Bd.exec
  have hby := Bd.bytes
  have hml : c.maxLocals = 2 := hml0
  have hown : s.vm.findClass "java/lang/StringBuilder" = some m.cls := findClass_of_methodNamed Bd.named
  have hnm := (name_of_methodNamed Bd.named Bd.method).1
  have X0 : Stand p l e ({ frames := 2, cells := 0, slots := 0, locals := 27 } : Room) s m #[(.ref a1), (.int p2)] below meth c s₁ [] 0 0 := Stand.of_body Bd
  have e0 : s₁.heap = h0 := by rw [← hh, Bd.state]; rfl
  have N0 := Fr.nil n0
  have K0 := Keep.refl h0 [a1, b]
  have pre0 : ∀ t, Steps p.tables e below (s₁.setTop (mkF m 0 #[.val (.ref a1), .val (.int p2)] [])) t → Steps p.tables e below (s₁.setTop (entryFrame m #[(.ref a1), (.int p2)] 2)) t := fun t k => castTop (ef_16 m a1 p2) k
  obtain ⟨_, _, ⟨T1, L1, k1, n1⟩, -, X1, ⟨Lc1, hQ1, l1, y1, z1⟩, st1⟩ := superBack X0 hx hZ (y := mn_21) hown (ww hw 99 rfl) (own_same (ww hw 100 rfl) (own_nf (z := mn_18) rfl (notFace_of_selects (ww hw 109 rfl)) (ww hw 107 rfl)) (by decide)) (ww hw 100 rfl) (ww hw 101 rfl) (by decide) (backOf (W := 0) (rm17 l Z a0 hw [] a1 p2 b kb cap A n cs h0 n0 (Nat.le_trans Z0 K0.1) O0 E_a1 Gv_a1 Gc_a1 V_b g_b Gn_a1 g_a1 ne_a1_b hn hA hs0 hle hlt hl S_CS h_cs) hZ (ww hw 103 rfl) (ww hw 48 rfl) (by decide) (by decide)) e0 (Ins.self E_a1) (g := (mkF m 2 #[vR a1, vI p2] [iI p2, iR a1])) rfl (by rw [hml]; rfl) (ww hw 103 rfl) (argsL := [(.int p2)]) (rest := []) (lenOf pd_17 rfl) rfl (wz rfl) (hb hby d16_2) (fun _ _ => ⟨rfl, e0, (by decide : 0 + 0 ≤ _), (by decide : 0 + 0 ≤ _)⟩)
  dsimp only [Pt.U, Pt.locs, Pt.cells, Pt.slots] at X1 l1 y1 z1 st1 hQ1
  subst l1 y1 z1
  obtain ⟨rfl, N1q, K1q, E1q, Fv1q, Fc1q, Fn1q, V1q⟩ := hQ1
  have N1 := Fr.app N0 N1q
  have K1 : Keep h0 T1.heap [a1, b] := Keep.trans K0 K1q (allS (Or.inl (List.mem_of_getElem? (i := 0) rfl)) (allS (Or.inl (List.mem_of_getElem? (i := 1) rfl)) all0))
  obtain ⟨fs, hr, hrun, hended, hW, hsame⟩ := X1.leave (v := some (.ref a1)) (fun h => by rw [Bd.returns] at h; cases h)
  refine ⟨_, _, pre0 _ ?_, hrun, hended, _, _, rfl, ?_, ⟨_, rfl⟩, hW, hsame.mono (by decide) (by decide)⟩
  · show SA s₁ m 0 #[vR a1, vI p2] []
    refine XS.aloadN X0.here hx rfl (hb hby d16_0) rfl rfl ?_
    show SA s₁ m 1 #[vR a1, vI p2] [iR a1]
    refine XS.iloadN X0.here hx rfl (hb hby d16_1) rfl ?_
    show SA s₁ m 2 #[vR a1, vI p2] [iI p2, iR a1]
    refine st1.trans ?_
    show SA T1 m 5 #[vR a1, vI p2] [iR a1]
    refine XS.pop X1.here hx rfl (hb hby d16_5) rfl rfl ?_
    show SA T1 m 6 #[vR a1, vI p2] []
    refine XS.aloadN X1.here hx rfl (hb hby d16_6) rfl rfl ?_
    show Steps _ _ _ (T1.setTop (mkF m 7 #[vR a1, vI p2] [iR a1])) _
    jvm_step X1.here [X1.here.top, hx, (hb hby d16_7), X1.method', Bd.returns, Value.isRef, FieldType.isReference]
    first | (intro acts; rw [hr _ acts rfl rfl rfl]) | rw [hr _ _ rfl rfl rfl]
    exact Steps.refl _
  · show Q16 Z a1 p2 b kb cap A n cs h0 n0 _ T1.heap _
    exact ⟨rfl, N1, K1, E1q, Fv1q, Fc1q, Fn1q, V1q⟩
theorem d9_0 : decode jdk_68_method_2_code 0 = .ok (.aload_n 0, 1) := by decide +kernel
theorem d9_1 : decode jdk_68_method_2_code 1 = .ok (.invokespecial 3, 3) := by decide +kernel
theorem d9_4 : decode jdk_68_method_2_code 4 = .ok (.getstatic 18, 3) := by decide +kernel
theorem d9_7 : decode jdk_68_method_2_code 7 = .ok (.ifCond .eq 18, 3) := by decide +kernel
theorem d9_10 : decode jdk_68_method_2_code 10 = .ok (.aload_n 0, 1) := by decide +kernel
theorem d9_11 : decode jdk_68_method_2_code 11 = .ok (.iload_n 1, 1) := by decide +kernel
theorem d9_12 : decode jdk_68_method_2_code 12 = .ok (.newarray .byte, 2) := by decide +kernel
theorem d9_14 : decode jdk_68_method_2_code 14 = .ok (.putfield 15, 3) := by decide +kernel
theorem d9_17 : decode jdk_68_method_2_code 17 = .ok (.aload_n 0, 1) := by decide +kernel
theorem d9_18 : decode jdk_68_method_2_code 18 = .ok (.iconst 0, 1) := by decide +kernel
theorem d9_19 : decode jdk_68_method_2_code 19 = .ok (.putfield 22, 3) := by decide +kernel
theorem d9_22 : decode jdk_68_method_2_code 22 = .ok (.goto 16, 3) := by decide +kernel
theorem d9_38 : decode jdk_68_method_2_code 38 = .ok (.return_, 1) := by decide +kernel
theorem ef_9 (m : MethodId) (x0 : Addr) : entryFrame m #[(.ref x0), (.int (16 : Int32))] 2 = mkF m 0 #[.val (.ref x0), .val (.int (16 : Int32))] [] := by first | (simp [entryFrame, mkF, argsToLocals, Value.category]; done) | rfl
def Q9 (Z : State) (a1 : Addr) (cs : Int32) (h0 : Heap) (n0 : Nat) (v : Option Value) (h : Heap) (L : List Loc) : Prop := ∃ (b : Addr) (kb : ClassId), v = none ∧ Fr n0 L ∧ Keep h0 h [a1] ∧ Exa Z h a1 "java/lang/StringBuilder" ∧ Fld Z h a1 "java/lang/AbstractStringBuilder" "value" "[B" (.ref b) ∧ Fld Z h a1 "java/lang/AbstractStringBuilder" "coder" "B" (.int (0 : Int32)) ∧ Fld Z h a1 "java/lang/AbstractStringBuilder" "count" "I" (.int (0 : Int32)) ∧ Arv Z h b kb .byte (16 : Int32) (own_bs []) (.int (0 : Int32)) ∧ Exa Z h b "[B" ∧ h0.size ≤ b
theorem rm9 (l : Launch) (Z : State) (a0 : Array Value) (hw : ∀ d ∈ tables_1, d.before a0 Z = true) (ws : List Jvm.Cond) (a1 : Addr) (cs : Int32) (h0 : Heap) (n0 : Nat) (Z0 : n0 ≤ h0.size) (O0 : Old Z n0 h0) (E_a1 : Exa Z h0 a1 "java/lang/StringBuilder") (g_a1 : n0 ≤ a1) (F_value : Fld Z h0 a1 "java/lang/AbstractStringBuilder" "value" "[B" .null) (F_coder : Fld Z h0 a1 "java/lang/AbstractStringBuilder" "coder" "B" (.int (0 : Int32))) (F_count : Fld Z h0 a1 "java/lang/AbstractStringBuilder" "count" "I" (.int (0 : Int32))) (S_CS : Sta Z Z.heap "java/lang/String" "COMPACT_STRINGS" "Z" (.int cs)) (h_cs : ¬ cs = (0 : Int32)) :
    MetFree l mn_23 (head1 (Jvm.Cond.code mn_23 jdk_68_method_2_code 2 none :: ws) ({ frames := 1, cells := 1, slots := 16, locals := 12 } : Room)) (fun a U => a = #[(.ref a1), (.int (16 : Int32))] ∧ Z.Warmed39 U.vm ∧ U.heap = h0) (fun _ _ _ _ _ => True) (fun _ U o U' => ∃ v L, o = .returned v ∧ Q9 Z a1 cs h0 n0 v U'.heap L ∧ FrameEnd U o U' L ({ frames := 1, cells := 1, slots := 16, locals := 12 } : Room).cells ({ frames := 1, cells := 1, slots := 16, locals := 12 } : Room).slots) := by
  refine MetFree.of_bodySF (plainFor_of_name pn_6) hisR ?_
  intro p e s m args below meth c s₁ Bd hml0 hP hK
  obtain ⟨rfl, hZ, hh⟩ := hP
  have hx := Bd.exec
  have hby := Bd.bytes
  have hml : c.maxLocals = 2 := hml0
  have hown : s.vm.findClass "java/lang/AbstractStringBuilder" = some m.cls := findClass_of_methodNamed Bd.named
  have hnm := (name_of_methodNamed Bd.named Bd.method).1
  have X0 : Stand p l e ({ frames := 1, cells := 1, slots := 16, locals := 12 } : Room) s m #[(.ref a1), (.int (16 : Int32))] below meth c s₁ [] 0 0 := Stand.of_body Bd
  have e0 : s₁.heap = h0 := by rw [← hh, Bd.state]; rfl
  have N0 := Fr.nil n0
  have K0 := Keep.refl h0 [a1]
  have pre0 : ∀ t, Steps p.tables e below (s₁.setTop (mkF m 0 #[.val (.ref a1), .val (.int (16 : Int32))] [])) t → Steps p.tables e below (s₁.setTop (entryFrame m #[(.ref a1), (.int (16 : Int32))] 2)) t := fun t k => castTop (ef_9 m a1) k
  obtain ⟨T1, X1, e1, st1⟩ := initO X0 hx hZ hown (ww hw 50 rfl) (ww hw 27 rfl) (ww hw 28 rfl) e0 (g := (mkF m 1 #[vR a1, vI 16] [iR a1])) rfl (by rw [hml]; rfl) rfl (hb hby d9_1) (by decide) (W := 0) (wz rfl) (by decide)
  obtain ⟨T2, X2, e2, st2⟩ := getS2 X1 hx hZ hown (host := "") (Or.inl (ww hw 51 rfl)) Via.refl e1 (S_CS.ext O0.2) (g := (mkF m 4 #[vR a1, vI 16] [])) rfl (hb hby d9_4)
  obtain ⟨T3, h3, k3, X3, e3, E3, A3, B3, st3⟩ := newPE X2 hx hZ (ww hw 53 rfl) e2 (g := (mkF m 12 #[vR a1, vI 16] [iI 16, iR a1])) rfl (hb hby d9_12) rfl (by decide) (cap := 16) (by decide) (by decide) (by decide) (by decide) rfl
  obtain ⟨b3, g3⟩ : ∃ z, z = h0.size := ⟨_, rfl⟩
  rw [← g3] at A3 B3 st3
  have ne_a1_b3 : a1 ≠ b3 := Nat.ne_of_lt (Nat.lt_of_lt_of_le E_a1.lt (Nat.le_of_eq g3.symm))
  have sz_b3 : h0.size ≤ b3 := Nat.le_trans K0.1 (Nat.le_of_eq g3.symm)
  have g_b3 : n0 ≤ b3 := Nat.le_trans Z0 sz_b3
  have K3 : Keep h0 h3 [a1] := K0.ext E3
  have V3 : Arv Z h3 b3 k3 .byte (16 : Int32) [(.int (0 : Int32)), (.int (0 : Int32)), (.int (0 : Int32)), (.int (0 : Int32)), (.int (0 : Int32)), (.int (0 : Int32)), (.int (0 : Int32)), (.int (0 : Int32)), (.int (0 : Int32)), (.int (0 : Int32)), (.int (0 : Int32)), (.int (0 : Int32)), (.int (0 : Int32)), (.int (0 : Int32)), (.int (0 : Int32)), (.int (0 : Int32))] (.int (0 : Int32)) := (Arv.new A3 (by decide)).pad (pad_rep [] (.int (0 : Int32)) 16)
  have fk4 := (F_value.ext E3)
  have fk5 := (E_a1.ext E3)
  obtain ⟨T6, h6, X6, e6, W6, st6⟩ := putF X3 hx hZ hown (host := "") (Or.inl (ww hw 54 rfl)) Via.refl e3 fk4 fk5 (Or.inl (ww hw 55 rfl)) (ww hw 39 rfl) (ty := (.array .byte)) (by decide) rfl rfl (g := (mkF m 14 #[vR a1, vI 16] [iR b3, iR a1])) rfl rfl (hb hby d9_14)
  have Fw6 := fk4.same W6
  have K6 : Keep h0 h6 [a1] := K3.wr W6 (Or.inl (List.mem_of_getElem? (i := 0) rfl))
  have N6 := Fr.snoc X6 N0 g_a1
  have fk7 := ((F_coder.ext E3).other W6 (Or.inr (slot_ne (Or.inl (ww hw 57 rfl)) (Or.inl (ww hw 55 rfl)) (by decide) (t := .byte) (t' := (.array .byte)) (by decide) (by decide))))
  have fk8 := (fk5.wr W6)
  obtain ⟨T9, h9, X9, e9, W9, st9⟩ := putFN X6 hx hZ hown (ww hw 56 rfl) Via.refl e6 fk7 fk8 (Or.inl (ww hw 57 rfl)) (ww hw 39 rfl) (ty := .byte) (v' := (.int (0 : Int32))) (by decide) rfl (by decide) (g := (mkF m 19 #[vR a1, vI 16] [iI 0, iR a1])) rfl rfl (hb hby d9_19)
  have Fw9 := fk7.same W9
  have K9 : Keep h0 h9 [a1] := K6.wr W9 (Or.inl (List.mem_of_getElem? (i := 0) rfl))
  have N9 := Fr.snoc X9 N6 g_a1
  obtain ⟨fs, hr, hrun, hended, hW, hsame⟩ := X9.leave (v := none) (fun _ => rfl)
  have fk10 := (fk8.wr W9)
  have fk11 := (Fw6.other W9 (Or.inr (slot_ne (Or.inl (ww hw 55 rfl)) (Or.inl (ww hw 57 rfl)) (by decide) (t := (.array .byte)) (t' := .byte) (by decide) (by decide))))
  have fk12 := (((F_count.ext E3).other W6 (Or.inr (slot_ne (Or.inl (ww hw 105 rfl)) (Or.inl (ww hw 55 rfl)) (by decide) (t := .int) (t' := (.array .byte)) (by decide) (by decide)))).other W9 (Or.inr (slot_ne (Or.inl (ww hw 105 rfl)) (Or.inl (ww hw 57 rfl)) (by decide) (t := .int) (t' := .byte) (by decide) (by decide))))
  have fk13 := ((V3.other W6 (Ne.symm ne_a1_b3)).other W9 (Ne.symm ne_a1_b3))
  have fk14 := ((B3.wr W6).wr W9)
  refine ⟨_, _, pre0 _ ?_, hrun, hended, _, _, rfl, ?_, ⟨_, rfl⟩, hW, hsame.mono (by decide) (by decide)⟩
  · show SA s₁ m 0 #[vR a1, vI 16] []
    refine XS.aloadN X0.here hx rfl (hb hby d9_0) rfl rfl ?_
    show SA s₁ m 1 #[vR a1, vI 16] [iR a1]
    refine st1 _ ?_
    show SA T1 m 4 #[vR a1, vI 16] []
    refine st2 _ ?_
    show SA T2 m 7 #[vR a1, vI 16] [iI cs]
    refine XS.ifNo X2.here hx rfl (hb hby d9_7) rfl ((if0 _ _).trans (feq h_cs).1) ?_
    show SA T2 m 10 #[vR a1, vI 16] []
    refine XS.aloadN X2.here hx rfl (hb hby d9_10) rfl rfl ?_
    show SA T2 m 11 #[vR a1, vI 16] [iR a1]
    refine XS.iloadN X2.here hx rfl (hb hby d9_11) rfl ?_
    show SA T2 m 12 #[vR a1, vI 16] [iI 16, iR a1]
    refine st3 _ ?_
    show SA T3 m 14 #[vR a1, vI 16] [iR b3, iR a1]
    refine st6 _ ?_
    show SA T6 m 17 #[vR a1, vI 16] []
    refine XS.aloadN X6.here hx rfl (hb hby d9_17) rfl rfl ?_
    show SA T6 m 18 #[vR a1, vI 16] [iR a1]
    refine XS.iconst X6.here hx rfl (hb hby d9_18) ?_
    show SA T6 m 19 #[vR a1, vI 16] [iI 0, iR a1]
    refine st9 _ ?_
    show SA T9 m 22 #[vR a1, vI 16] []
    refine XS.goto X9.here hx rfl (pc0 := 22) (pc' := 38) rfl (hb hby d9_22) (by decide) (by decide) ?_
    show Steps _ _ _ (T9.setTop (mkF m 38 #[vR a1, vI 16] [])) _
    exact X9.returnOut hx Bd.returns (hb hby d9_38) hr
  · show Q9 Z a1 cs h0 n0 _ T9.heap _
    rw [e9]
    exact ⟨_, _, rfl, N9, K9, fk10, fk11, Fw9, fk12, (fk13.pad (fun i => (pad_rep [] (.int (0 : Int32)) 16 i).symm)), fk14, sz_b3⟩
theorem d8_0 : decode jdk_67_method_2_code 0 = .ok (.aload_n 0, 1) := by decide +kernel
theorem d8_1 : decode jdk_67_method_2_code 1 = .ok (.iload_n 1, 1) := by decide +kernel
theorem d8_2 : decode jdk_67_method_2_code 2 = .ok (.invokespecial 1, 3) := by decide +kernel
theorem d8_5 : decode jdk_67_method_2_code 5 = .ok (.return_, 1) := by decide +kernel
theorem ef_8 (m : MethodId) (x0 : Addr) : entryFrame m #[(.ref x0), (.int (16 : Int32))] 2 = mkF m 0 #[.val (.ref x0), .val (.int (16 : Int32))] [] := by first | (simp [entryFrame, mkF, argsToLocals, Value.category]; done) | rfl
def Q8 (Z : State) (a1 : Addr) (cs : Int32) (h0 : Heap) (n0 : Nat) (v : Option Value) (h : Heap) (L : List Loc) : Prop := ∃ (b : Addr) (kb : ClassId), v = none ∧ Fr n0 L ∧ Keep h0 h [a1] ∧ Exa Z h a1 "java/lang/StringBuilder" ∧ Fld Z h a1 "java/lang/AbstractStringBuilder" "value" "[B" (.ref b) ∧ Fld Z h a1 "java/lang/AbstractStringBuilder" "coder" "B" (.int (0 : Int32)) ∧ Fld Z h a1 "java/lang/AbstractStringBuilder" "count" "I" (.int (0 : Int32)) ∧ Arv Z h b kb .byte (16 : Int32) (own_bs []) (.int (0 : Int32)) ∧ Exa Z h b "[B" ∧ h0.size ≤ b
theorem rm8 (l : Launch) (Z : State) (a0 : Array Value) (hw : ∀ d ∈ tables_1, d.before a0 Z = true) (ws : List Jvm.Cond) (a1 : Addr) (cs : Int32) (h0 : Heap) (n0 : Nat) (Z0 : n0 ≤ h0.size) (O0 : Old Z n0 h0) (E_a1 : Exa Z h0 a1 "java/lang/StringBuilder") (g_a1 : n0 ≤ a1) (F_value : Fld Z h0 a1 "java/lang/AbstractStringBuilder" "value" "[B" .null) (F_coder : Fld Z h0 a1 "java/lang/AbstractStringBuilder" "coder" "B" (.int (0 : Int32))) (F_count : Fld Z h0 a1 "java/lang/AbstractStringBuilder" "count" "I" (.int (0 : Int32))) (S_CS : Sta Z Z.heap "java/lang/String" "COMPACT_STRINGS" "Z" (.int cs)) (h_cs : ¬ cs = (0 : Int32)) :
    MetFree l mn_24 (head1 (Jvm.Cond.code mn_24 jdk_67_method_2_code 2 none :: ws) ({ frames := 2, cells := 1, slots := 16, locals := 25 } : Room)) (fun a U => a = #[(.ref a1), (.int (16 : Int32))] ∧ Z.Warmed39 U.vm ∧ U.heap = h0) (fun _ _ _ _ _ => True) (fun _ U o U' => ∃ v L, o = .returned v ∧ Q8 Z a1 cs h0 n0 v U'.heap L ∧ FrameEnd U o U' L ({ frames := 2, cells := 1, slots := 16, locals := 25 } : Room).cells ({ frames := 2, cells := 1, slots := 16, locals := 25 } : Room).slots) := by
  refine MetFree.of_bodySF (plainFor_of_name pn_7) hisR ?_
  intro p e s m args below meth c s₁ Bd hml0 hP hK
  obtain ⟨rfl, hZ, hh⟩ := hP
  have hx := Bd.exec
  have hby := Bd.bytes
  have hml : c.maxLocals = 2 := hml0
  have hown : s.vm.findClass "java/lang/StringBuilder" = some m.cls := findClass_of_methodNamed Bd.named
  have hnm := (name_of_methodNamed Bd.named Bd.method).1
  have X0 : Stand p l e ({ frames := 2, cells := 1, slots := 16, locals := 25 } : Room) s m #[(.ref a1), (.int (16 : Int32))] below meth c s₁ [] 0 0 := Stand.of_body Bd
  have e0 : s₁.heap = h0 := by rw [← hh, Bd.state]; rfl
  have N0 := Fr.nil n0
  have K0 := Keep.refl h0 [a1]
  have pre0 : ∀ t, Steps p.tables e below (s₁.setTop (mkF m 0 #[.val (.ref a1), .val (.int (16 : Int32))] [])) t → Steps p.tables e below (s₁.setTop (entryFrame m #[(.ref a1), (.int (16 : Int32))] 2)) t := fun t k => castTop (ef_8 m a1) k
  obtain ⟨_, _, ⟨T1, L1, k1, n1⟩, -, X1, ⟨Lc1, hQ1, l1, y1, z1⟩, st1⟩ := X0.specialBack hx (y := mn_23) rfl hown (mvT hZ (ww hw 44 rfl)) (mvT hZ (ww hw 45 rfl)) (mvT hZ (ww hw 49 rfl)) (by decide) (backOf (W := 0) (rm9 l Z a0 hw [] a1 cs h0 n0 (Nat.le_trans Z0 K0.1) O0 E_a1 g_a1 F_value F_coder F_count S_CS h_cs) hZ (ww hw 49 rfl) (ww hw 48 rfl) (by decide) (by decide)) (g := (mkF m 2 #[vR a1, vI 16] [iI 16, iR a1])) rfl (by rw [hml]; rfl) (Steps.refl _) (a := a1) (argsL := [(.int (16 : Int32))]) (rest := []) (lenOf pd_15 rfl) rfl (wz rfl) (hb hby d8_2) (fun _ _ => ⟨rfl, e0, (by decide : 0 + 1 ≤ _), (by decide : 0 + 16 ≤ _)⟩)
  dsimp only [Pt.U, Pt.locs, Pt.cells, Pt.slots] at X1 l1 y1 z1 st1 hQ1
  subst l1 y1 z1
  obtain ⟨d1, kd1, rfl, N1q, K1q, E1q, Fv1q, Fc1q, Fn1q, V1q, G1q, z_d1⟩ := hQ1
  have ne_a1_d1 : a1 ≠ d1 := Nat.ne_of_lt (Nat.lt_of_lt_of_le E_a1.lt z_d1)
  have sz_d1 : h0.size ≤ d1 := Nat.le_trans K0.1 z_d1
  have g_d1 : n0 ≤ d1 := Nat.le_trans Z0 sz_d1
  have N1 := Fr.app N0 N1q
  have K1 : Keep h0 T1.heap [a1] := Keep.trans K0 K1q (allS (Or.inl (List.mem_of_getElem? (i := 0) rfl)) all0)
  obtain ⟨fs, hr, hrun, hended, hW, hsame⟩ := X1.leave (v := none) (fun _ => rfl)
  refine ⟨_, _, pre0 _ ?_, hrun, hended, _, _, rfl, ?_, ⟨_, rfl⟩, hW, hsame.mono (by decide) (by decide)⟩
  · show SA s₁ m 0 #[vR a1, vI 16] []
    refine XS.aloadN X0.here hx rfl (hb hby d8_0) rfl rfl ?_
    show SA s₁ m 1 #[vR a1, vI 16] [iR a1]
    refine XS.iloadN X0.here hx rfl (hb hby d8_1) rfl ?_
    show SA s₁ m 2 #[vR a1, vI 16] [iI 16, iR a1]
    refine st1.trans ?_
    show Steps _ _ _ (T1.setTop (mkF m 5 #[vR a1, vI 16] [])) _
    exact X1.returnOut hx Bd.returns (hb hby d8_5) hr
  · show Q8 Z a1 cs h0 n0 _ T1.heap _
    exact ⟨_, _, rfl, N1, K1, E1q, Fv1q, Fc1q, Fn1q, V1q, G1q, sz_d1⟩
def own_min (p1 : Int32) (p2 : Int32) : Int32 := (if p2 < p1 then p2 else p1)
theorem d30_0 : decode jdk_29_method_69_code 0 = .ok (.iload_n 0, 1) := by decide +kernel
theorem d30_1 : decode jdk_29_method_69_code 1 = .ok (.iload_n 1, 1) := by decide +kernel
theorem d30_2 : decode jdk_29_method_69_code 2 = .ok (.if_icmp .gt 7, 3) := by decide +kernel
theorem d30_5 : decode jdk_29_method_69_code 5 = .ok (.iload_n 0, 1) := by decide +kernel
theorem d30_6 : decode jdk_29_method_69_code 6 = .ok (.goto 4, 3) := by decide +kernel
theorem d30_9 : decode jdk_29_method_69_code 9 = .ok (.iload_n 1, 1) := by decide +kernel
theorem d30_10 : decode jdk_29_method_69_code 10 = .ok (.ireturn, 1) := by decide +kernel
theorem ef_30 (m : MethodId) (x0 : Int32) (x1 : Int32) : entryFrame m #[(.int x0), (.int x1)] 2 = mkF m 0 #[.val (.int x0), .val (.int x1)] [] := by first | (simp [entryFrame, mkF, argsToLocals, Value.category]; done) | rfl
def Q30 (Z : State) (p1 : Int32) (p2 : Int32) (h0 : Heap) (v : Option Value) (h : Heap) (L : List Loc) : Prop := v = some (.int (own_min p1 p2)) ∧ L = [] ∧ h = h0
theorem rm30 (l : Launch) (Z : State) (a0 : Array Value) (hw : ∀ d ∈ tables_1, d.before a0 Z = true) (ws : List Jvm.Cond) (p1 : Int32) (p2 : Int32) (h0 : Heap) :
    MetFree l mn_25 (head1 (Jvm.Cond.code mn_25 jdk_29_method_69_code 2 (some .int) :: ws) ({ frames := 0, cells := 0, slots := 0, locals := 0 } : Room)) (fun a U => a = #[(.int p1), (.int p2)] ∧ Z.Warmed39 U.vm ∧ U.heap = h0) (fun _ _ _ _ _ => True) (fun _ U o U' => ∃ v L, o = .returned v ∧ Q30 Z p1 p2 h0 v U'.heap L ∧ FrameEnd U o U' L ({ frames := 0, cells := 0, slots := 0, locals := 0 } : Room).cells ({ frames := 0, cells := 0, slots := 0, locals := 0 } : Room).slots) := by
  refine MetFree.of_bodySF (Jvm.Free.JP.mathPlain rfl (by decide +kernel)) hisR ?_
  intro p e s m args below meth c s₁ Bd hml0 hP hK
  obtain ⟨rfl, hZ, hh⟩ := hP
  have hx := Bd.exec
  have hby := Bd.bytes
  have hml : c.maxLocals = 2 := hml0
  have hown : s.vm.findClass "java/lang/Math" = some m.cls := findClass_of_methodNamed Bd.named
  have hnm := (name_of_methodNamed Bd.named Bd.method).1
  have X0 : Stand p l e ({ frames := 0, cells := 0, slots := 0, locals := 0 } : Room) s m #[(.int p1), (.int p2)] below meth c s₁ [] 0 0 := Stand.of_body Bd
  have e0 : s₁.heap = h0 := by rw [← hh, Bd.state]; rfl
  have pre0 : ∀ t, Steps p.tables e below (s₁.setTop (mkF m 0 #[.val (.int p1), .val (.int p2)] [])) t → Steps p.tables e below (s₁.setTop (entryFrame m #[(.int p1), (.int p2)] 2)) t := fun t k => castTop (ef_30 m p1 p2) k
  obtain ⟨v1, hv1⟩ : ∃ z : Int32, z = (if p2 < p1 then p2 else p1) := ⟨_, rfl⟩
  obtain ⟨T2, X2, e2, st2⟩ : own_Mid X0 h0 (mkF m 2 #[vI p1, vI p2] [iI p2, iI p1]) (mkF m 10 #[vI p1, vI p2] [iI v1]) := by
    by_cases hc3 : p2 < p1
    · refine ⟨s₁, X0, e0, fun t kt => ?_⟩
      subst hv1
      simp only [if_pos hc3] at kt
      show SA s₁ m 2 #[vI p1, vI p2] [iI p2, iI p1]
      refine XS.icmpYes X0.here hx rfl (pc0 := 2) (pc' := 9) rfl (hb hby d30_2) rfl (tlt hc3).2.2.1 (by decide) (by decide) ?_
      show SA s₁ m 9 #[vI p1, vI p2] []
      refine XS.iloadN X0.here hx rfl (hb hby d30_9) rfl ?_
      exact kt
    · refine ⟨s₁, X0, e0, fun t kt => ?_⟩
      subst hv1
      simp only [if_neg hc3] at kt
      show SA s₁ m 2 #[vI p1, vI p2] [iI p2, iI p1]
      refine XS.icmpNo X0.here hx rfl (hb hby d30_2) rfl (flt hc3).2.2.1 ?_
      show SA s₁ m 5 #[vI p1, vI p2] []
      refine XS.iloadN X0.here hx rfl (hb hby d30_5) rfl ?_
      show SA s₁ m 6 #[vI p1, vI p2] [iI p1]
      refine XS.goto X0.here hx rfl (pc0 := 6) (pc' := 10) rfl (hb hby d30_6) (by decide) (by decide) ?_
      exact kt
  obtain ⟨fs, hr, hrun, hended, hW, hsame⟩ := X2.leave (v := some (.int v1)) (fun h => by rw [Bd.returns] at h; cases h)
  refine ⟨_, _, pre0 _ ?_, hrun, hended, _, _, rfl, ?_, ⟨_, rfl⟩, hW, hsame.mono (by decide) (by decide)⟩
  · show SA s₁ m 0 #[vI p1, vI p2] []
    refine XS.iloadN X0.here hx rfl (hb hby d30_0) rfl ?_
    show SA s₁ m 1 #[vI p1, vI p2] [iI p1]
    refine XS.iloadN X0.here hx rfl (hb hby d30_1) rfl ?_
    show SA s₁ m 2 #[vI p1, vI p2] [iI p2, iI p1]
    refine st2 _ ?_
    show Steps _ _ _ (T2.setTop (mkF m 10 #[vI p1, vI p2] [iI v1])) _
    exact retI X2 hx Bd.returns (hb hby d30_10) hr
  · show Q30 Z p1 p2 h0 _ T2.heap _
    rw [e2]
    exact ⟨by subst hv1; first | rfl | (simp only [own_min]; done) | (simp only [own_min]; rfl) | (simp only [own_min, nar] ; first | rfl | (simp; done) | decide), rfl, rfl⟩
def Q30_e (Z : State) (p1 : Int32) (p2 : Int32) (r : Int32) (h0 : Heap) (v : Option Value) (h : Heap) (L : List Loc) : Prop := v = some (.int r) ∧ L = [] ∧ h = h0
theorem rm30_e (l : Launch) (Z : State) (a0 : Array Value) (hw : ∀ d ∈ tables_1, d.before a0 Z = true) (ws : List Jvm.Cond) (p1 : Int32) (p2 : Int32) (r : Int32) (h0 : Heap) (hr : own_min p1 p2 = r) :
    MetFree l mn_25 (head1 (Jvm.Cond.code mn_25 jdk_29_method_69_code 2 (some .int) :: ws) ({ frames := 0, cells := 0, slots := 0, locals := 0 } : Room)) (fun a U => a = #[(.int p1), (.int p2)] ∧ Z.Warmed39 U.vm ∧ U.heap = h0) (fun _ _ _ _ _ => True) (fun _ U o U' => ∃ v L, o = .returned v ∧ Q30_e Z p1 p2 r h0 v U'.heap L ∧ FrameEnd U o U' L ({ frames := 0, cells := 0, slots := 0, locals := 0 } : Room).cells ({ frames := 0, cells := 0, slots := 0, locals := 0 } : Room).slots) := by
  subst hr
  exact rm30 l Z a0 hw ws p1 p2 h0
theorem own_minL {a b : Int32} (h : a < b) : own_min a b = a := by
  unfold own_min
  rw [Int32.lt_iff_toInt_lt] at h
  split
  · next q => rw [Int32.lt_iff_toInt_lt] at q; omega
  · rfl
theorem own_ltN {a b : Int32} (h0 : ¬ a < 0) (h : a < b) : a.toNatClampNeg ≤ b.toNatClampNeg ∧ ¬ b = a ∧ ¬ b < 0 := by
  have e0 : (0 : Int32).toInt = 0 := rfl
  refine ⟨?_, fun e => ?_, ?_⟩
  · rw [Int32.lt_iff_toInt_lt] at *; simp only [Int32.toNatClampNeg]; omega
  · rw [e, Int32.lt_iff_toInt_lt] at h; omega
  · rw [Int32.lt_iff_toInt_lt] at *; omega
theorem own_sub0 (x : Int32) : x - (0 : Int32) = x := by
  have h := c_isub x 0
  have e0 : (0 : Int32).toInt = 0 := rfl
  have r1 := rng32 x
  have r2 := rng32 (x - 0)
  apply Int32.toInt_inj.mp
  omega
theorem own_minR {a b : Int32} (h : b < a) : own_min a b = b := by
  unfold own_min
  rw [Int32.lt_iff_toInt_lt] at h
  split
  · rfl
  · next q => rw [Int32.lt_iff_toInt_lt] at q; omega
theorem d29_0 : decode jdk_65_method_131_code 0 = .ok (.iload_n 1, 1) := by decide +kernel
theorem d29_1 : decode jdk_65_method_131_code 1 = .ok (.iload_n 0, 1) := by decide +kernel
theorem d29_2 : decode jdk_65_method_131_code 2 = .ok (.if_icmp .ge 35, 3) := by decide +kernel
theorem d29_37 : decode jdk_65_method_131_code 37 = .ok (.return_, 1) := by decide +kernel
theorem pn_8 : plainName "java/util/Arrays" = true := by first | (simp [plainName, overriddenIn]; done) | decide +kernel
theorem ef_29 (m : MethodId) (x0 : Int32) (x1 : Int32) : entryFrame m #[(.int x0), (.int x1)] 2 = mkF m 0 #[.val (.int x0), .val (.int x1)] [] := by first | (simp [entryFrame, mkF, argsToLocals, Value.category]; done) | rfl
def Q29 (Z : State) (p1 : Int32) (p2 : Int32) (h0 : Heap) (v : Option Value) (h : Heap) (L : List Loc) : Prop := v = none ∧ L = [] ∧ h = h0
theorem rm29 (l : Launch) (Z : State) (a0 : Array Value) (hw : ∀ d ∈ tables_1, d.before a0 Z = true) (ws : List Jvm.Cond) (p1 : Int32) (p2 : Int32) (h0 : Heap) (hk : ¬ p2 < p1) :
    MetFree l mn_26 (head1 (Jvm.Cond.code mn_26 jdk_65_method_131_code 2 none :: ws) ({ frames := 0, cells := 0, slots := 0, locals := 0 } : Room)) (fun a U => a = #[(.int p1), (.int p2)] ∧ Z.Warmed39 U.vm ∧ U.heap = h0) (fun _ _ _ _ _ => True) (fun _ U o U' => ∃ v L, o = .returned v ∧ Q29 Z p1 p2 h0 v U'.heap L ∧ FrameEnd U o U' L ({ frames := 0, cells := 0, slots := 0, locals := 0 } : Room).cells ({ frames := 0, cells := 0, slots := 0, locals := 0 } : Room).slots) := by
  refine MetFree.of_bodySF (plainFor_of_name pn_8) hisR ?_
  intro p e s m args below meth c s₁ Bd hml0 hP hK
  obtain ⟨rfl, hZ, hh⟩ := hP
  have hx := Bd.exec
  have hby := Bd.bytes
  have hml : c.maxLocals = 2 := hml0
  have hown : s.vm.findClass "java/util/Arrays" = some m.cls := findClass_of_methodNamed Bd.named
  have hnm := (name_of_methodNamed Bd.named Bd.method).1
  have X0 : Stand p l e ({ frames := 0, cells := 0, slots := 0, locals := 0 } : Room) s m #[(.int p1), (.int p2)] below meth c s₁ [] 0 0 := Stand.of_body Bd
  have e0 : s₁.heap = h0 := by rw [← hh, Bd.state]; rfl
  have pre0 : ∀ t, Steps p.tables e below (s₁.setTop (mkF m 0 #[.val (.int p1), .val (.int p2)] [])) t → Steps p.tables e below (s₁.setTop (entryFrame m #[(.int p1), (.int p2)] 2)) t := fun t k => castTop (ef_29 m p1 p2) k
  obtain ⟨fs, hr, hrun, hended, hW, hsame⟩ := X0.leave (v := none) (fun _ => rfl)
  refine ⟨_, _, pre0 _ ?_, hrun, hended, _, _, rfl, ?_, ⟨_, rfl⟩, hW, hsame.mono (by decide) (by decide)⟩
  · show SA s₁ m 0 #[vI p1, vI p2] []
    refine XS.iloadN X0.here hx rfl (hb hby d29_0) rfl ?_
    show SA s₁ m 1 #[vI p1, vI p2] [iI p2]
    refine XS.iloadN X0.here hx rfl (hb hby d29_1) rfl ?_
    show SA s₁ m 2 #[vI p1, vI p2] [iI p1, iI p2]
    refine XS.icmpYes X0.here hx rfl (pc0 := 2) (pc' := 37) rfl (hb hby d29_2) rfl (flt hk).2.1 (by decide) (by decide) ?_
    show Steps _ _ _ (s₁.setTop (mkF m 37 #[vI p1, vI p2] [])) _
    exact X0.returnOut hx Bd.returns (hb hby d29_37) hr
  · show Q29 Z p1 p2 h0 _ s₁.heap _
    rw [e0]
    exact ⟨rfl, rfl, rfl⟩
theorem d28_0 : decode jdk_65_method_133_code 0 = .ok (.iload_n 1, 1) := by decide +kernel
theorem d28_1 : decode jdk_65_method_133_code 1 = .ok (.iload_n 2, 1) := by decide +kernel
theorem d28_2 : decode jdk_65_method_133_code 2 = .ok (.invokestatic 343, 3) := by decide +kernel
theorem d28_5 : decode jdk_65_method_133_code 5 = .ok (.iload_n 2, 1) := by decide +kernel
theorem d28_6 : decode jdk_65_method_133_code 6 = .ok (.iload_n 1, 1) := by decide +kernel
theorem d28_7 : decode jdk_65_method_133_code 7 = .ok (.isub, 1) := by decide +kernel
theorem d28_8 : decode jdk_65_method_133_code 8 = .ok (.istore_n 3, 1) := by decide +kernel
theorem d28_9 : decode jdk_65_method_133_code 9 = .ok (.iload_n 3, 1) := by decide +kernel
theorem d28_10 : decode jdk_65_method_133_code 10 = .ok (.newarray .byte, 2) := by decide +kernel
theorem d28_12 : decode jdk_65_method_133_code 12 = .ok (.astore 4, 2) := by decide +kernel
theorem d28_14 : decode jdk_65_method_133_code 14 = .ok (.aload_n 0, 1) := by decide +kernel
theorem d28_15 : decode jdk_65_method_133_code 15 = .ok (.iload_n 1, 1) := by decide +kernel
theorem d28_16 : decode jdk_65_method_133_code 16 = .ok (.aload 4, 2) := by decide +kernel
theorem d28_18 : decode jdk_65_method_133_code 18 = .ok (.iconst 0, 1) := by decide +kernel
theorem d28_19 : decode jdk_65_method_133_code 19 = .ok (.aload_n 0, 1) := by decide +kernel
theorem d28_20 : decode jdk_65_method_133_code 20 = .ok (.arraylength, 1) := by decide +kernel
theorem d28_21 : decode jdk_65_method_133_code 21 = .ok (.iload_n 1, 1) := by decide +kernel
theorem d28_22 : decode jdk_65_method_133_code 22 = .ok (.isub, 1) := by decide +kernel
theorem d28_23 : decode jdk_65_method_133_code 23 = .ok (.iload_n 3, 1) := by decide +kernel
theorem d28_24 : decode jdk_65_method_133_code 24 = .ok (.invokestatic 304, 3) := by decide +kernel
theorem d28_27 : decode jdk_65_method_133_code 27 = .ok (.invokestatic 150, 3) := by decide +kernel
theorem d28_30 : decode jdk_65_method_133_code 30 = .ok (.aload 4, 2) := by decide +kernel
theorem d28_32 : decode jdk_65_method_133_code 32 = .ok (.areturn, 1) := by decide +kernel
theorem ef_28 (m : MethodId) (x0 : Addr) (x2 : Int32) : entryFrame m #[(.ref x0), (.int (0 : Int32)), (.int x2)] 5 = mkF m 0 #[.val (.ref x0), .val (.int (0 : Int32)), .val (.int x2), .unset, .unset] [] := by first | (simp [entryFrame, mkF, argsToLocals, Value.category]; done) | rfl
def Q28 (Z : State) (a1 : Addr) (kb : ClassId) (cap n : Int32) (A : List Int32) (h0 : Heap) (n0 : Nat) (v : Option Value) (h : Heap) (L : List Loc) : Prop := ∃ (o : Addr) (ko : ClassId), v = some (.ref o) ∧ Fr n0 L ∧ Keep h0 h [] ∧ Arv Z h o ko .byte n (own_bs A) (.int (0 : Int32)) ∧ h0.size ≤ o
theorem rm28 (l : Launch) (Z : State) (a0 : Array Value) (hw : ∀ d ∈ tables_1, d.before a0 Z = true) (ws : List Jvm.Cond) (a1 : Addr) (kb : ClassId) (cap n : Int32) (A : List Int32) (h0 : Heap) (n0 : Nat) (Z0 : n0 ≤ h0.size) (V_b : Arv Z h0 a1 kb .byte cap (own_bs A) (.int (0 : Int32))) (hn : ¬ n < 0) (hl : n < cap) (hm : n.toNatClampNeg ≤ 16) (hA : n.toNatClampNeg = A.length) :
    MetFree l mn_27 (head1 (Jvm.Cond.code mn_27 jdk_65_method_133_code 5 (some (.array .byte)) :: ws) ({ frames := 1, cells := 1, slots := 16, locals := 18 } : Room)) (fun a U => a = #[(.ref a1), (.int (0 : Int32)), (.int n)] ∧ Z.Warmed39 U.vm ∧ U.heap = h0) (fun _ _ _ _ _ => True) (fun _ U o U' => ∃ v L, o = .returned v ∧ Q28 Z a1 kb cap n A h0 n0 v U'.heap L ∧ FrameEnd U o U' L ({ frames := 1, cells := 1, slots := 16, locals := 18 } : Room).cells ({ frames := 1, cells := 1, slots := 16, locals := 18 } : Room).slots) := by
  refine MetFree.of_bodySF (plainFor_of_name pn_8) hisR ?_
  intro p e s m args below meth c s₁ Bd hml0 hP hK
  obtain ⟨rfl, hZ, hh⟩ := hP
  have hx := Bd.exec
  have hby := Bd.bytes
  have hml : c.maxLocals = 5 := hml0
  have hown : s.vm.findClass "java/util/Arrays" = some m.cls := findClass_of_methodNamed Bd.named
  have hnm := (name_of_methodNamed Bd.named Bd.method).1
  have X0 : Stand p l e ({ frames := 1, cells := 1, slots := 16, locals := 18 } : Room) s m #[(.ref a1), (.int (0 : Int32)), (.int n)] below meth c s₁ [] 0 0 := Stand.of_body Bd
  have e0 : s₁.heap = h0 := by rw [← hh, Bd.state]; rfl
  have N0 := Fr.nil n0
  have K0 := Keep.refl h0 []
  have pre0 : ∀ t, Steps p.tables e below (s₁.setTop (mkF m 0 #[.val (.ref a1), .val (.int (0 : Int32)), .val (.int n), .unset, .unset] [])) t → Steps p.tables e below (s₁.setTop (entryFrame m #[(.ref a1), (.int (0 : Int32)), (.int n)] 5)) t := fun t k => castTop (ef_28 m a1 n) k
  obtain ⟨_, _, ⟨T1, L1, k1, n1⟩, -, X1, ⟨Lc1, hQ1, l1, y1, z1⟩, st1⟩ := Jvm.LawKit.callS X0 hx (y := mn_26) hown (mvT hZ (ww hw 154 rfl)) (mvT hZ (ww hw 155 rfl)) (mvT hZ (ww hw 149 rfl)) (mvT hZ (ww hw 156 rfl)) (by decide) (backOf (W := 0) (rm29 l Z a0 hw [] (0 : Int32) n h0 hn) hZ (ww hw 156 rfl) (ww hw 149 rfl) (by decide) (by decide)) (g := (mkF m 2 #[vR a1, vI 0, vI n, .unset, .unset] [iI n, iI 0])) rfl (by rw [hml]; rfl) (argsL := [(.int (0 : Int32)), (.int n)]) (rest := []) (lenOf pd_1 rfl) rfl (wz rfl) (hb hby d28_2) (fun _ _ => ⟨rfl, e0, (by decide : 0 + 0 ≤ _), (by decide : 0 + 0 ≤ _)⟩)
  dsimp only [Pt.U, Pt.locs, Pt.cells, Pt.slots] at X1 l1 y1 z1 st1 hQ1
  subst l1 y1 z1
  obtain ⟨rfl, rfl, e1⟩ := hQ1
  try rw [List.append_nil] at X1
  obtain ⟨T2, h2, k2, X2, e2, E2, A2, st2⟩ := newP X1 hx hZ (ww hw 53 rfl) e1 (g := (mkF m 10 #[vR a1, vI 0, vI n, vI n, .unset] [iI n])) rfl (hb hby d28_10) rfl hn (cap := 16) hm (by decide) (by decide) (by decide)
  obtain ⟨b2, g2⟩ : ∃ z, z = h0.size := ⟨_, rfl⟩
  rw [← g2] at A2 st2
  have ne_a1_b2 : a1 ≠ b2 := Nat.ne_of_lt (Nat.lt_of_lt_of_le V_b.lt (Nat.le_of_eq g2.symm))
  have sz_b2 : h0.size ≤ b2 := Nat.le_trans K0.1 (Nat.le_of_eq g2.symm)
  have g_b2 : n0 ≤ b2 := Nat.le_trans Z0 sz_b2
  have K2 : Keep h0 h2 [] := K0.ext E2
  have V2 : Arv Z h2 b2 k2 .byte n [] (.int (0 : Int32)) := (Arv.new A2 hn).pad (pad_rep [] (.int (0 : Int32)) 0)
  have fk3 := (V_b.ext E2)
  obtain ⟨cl4, Ar4, q4, S4, M4, H4, G4⟩ := id fk3
  obtain ⟨_, _, ⟨T5, L5, k5, n5⟩, -, X5, ⟨Lc5, hQ5, l5, y5, z5⟩, st5⟩ := Jvm.LawKit.callS X2 hx (y := mn_25) hown (mvT hZ (ww hw 157 rfl)) (mvT hZ (ww hw 158 rfl)) (mvT hZ (ww hw 159 rfl)) (mvT hZ (ww hw 160 rfl)) (by decide) (backOf (W := 4) (rm30_e l Z a0 hw [] cap n n h2 (own_minR hl)) hZ (ww hw 160 rfl) (ww hw 159 rfl) (by decide) (by decide)) (g := (mkF m 24 #[vR a1, vI 0, vI n, vI n, vR b2] [iI n, iI cap, iI 0, iR b2, iI 0, iR a1])) rfl (by rw [hml]; rfl) (argsL := [(.int cap), (.int n)]) (rest := [(.int (0 : Int32)), (.ref b2), (.int (0 : Int32)), (.ref a1)]) (lenOf pd_18 rfl) rfl (wz rfl) (hb hby d28_24) (fun _ _ => ⟨rfl, e2, (by decide : 1 + 0 ≤ _), (by decide : 16 + 0 ≤ _)⟩)
  dsimp only [Pt.U, Pt.locs, Pt.cells, Pt.slots] at X5 l5 y5 z5 st5 hQ5
  subst l5 y5 z5
  obtain ⟨rfl, rfl, e5⟩ := hQ5
  try rw [List.append_nil] at X5
  obtain ⟨T6, h6, L6, X6, e6, N6, K6q, V6q, st6⟩ := cpA X5 hx hZ hown (ww hw 161 rfl) (ww hw 164 rfl) (ww hw 162 rfl) (ww hw 163 rfl) e5 fk3 (V2.pad (pad_rep [] _ n.toNatClampNeg)) (Or.inl ⟨rfl, rfl⟩) (by decide) (by decide) hn (by rw [own_z0, Nat.zero_add]; exact (own_ltN hn hl).1) (by rw [own_z0, Nat.zero_add]; exact Nat.le_refl _) rfl (by rw [own_z0, List.length_append, List.length_replicate]; simp) N0 g_b2 (g := (mkF m 27 #[vR a1, vI 0, vI n, vI n, vR b2] [iI n, iI 0, iR b2, iI 0, iR a1])) rfl (by rw [hml]; rfl) rfl (hb hby d28_27) (by decide) (W := 0) (wz rfl) (by decide)
  have K6 : Keep h0 h6 [] := Keep.trans K2 K6q (allS (Or.inr sz_b2) all0)
  have V6 : Arv Z h6 b2 k2 .byte n (own_bs A) (.int (0 : Int32)) := own_cpN (Nat.le_of_eq hA.symm) V6q
  obtain ⟨fs, hr, hrun, hended, hW, hsame⟩ := X6.leave (v := some (.ref b2)) (fun h => by rw [Bd.returns] at h; cases h)
  refine ⟨_, _, pre0 _ ?_, hrun, hended, _, _, rfl, ?_, ⟨_, rfl⟩, hW, hsame.mono (by decide) (by decide)⟩
  · show SA s₁ m 0 #[vR a1, vI 0, vI n, .unset, .unset] []
    refine XS.iloadN X0.here hx rfl (hb hby d28_0) rfl ?_
    show SA s₁ m 1 #[vR a1, vI 0, vI n, .unset, .unset] [iI 0]
    refine XS.iloadN X0.here hx rfl (hb hby d28_1) rfl ?_
    show SA s₁ m 2 #[vR a1, vI 0, vI n, .unset, .unset] [iI n, iI 0]
    refine st1 _ ?_
    show SA T1 m 5 #[vR a1, vI 0, vI n, .unset, .unset] []
    refine XS.iloadN X1.here hx rfl (hb hby d28_5) rfl ?_
    show SA T1 m 6 #[vR a1, vI 0, vI n, .unset, .unset] [iI n]
    refine XS.iloadN X1.here hx rfl (hb hby d28_6) rfl ?_
    show SA T1 m 7 #[vR a1, vI 0, vI n, .unset, .unset] [iI 0, iI n]
    refine XS.isub X1.here hx rfl (hb hby d28_7) rfl ?_
    rw [own_sub0]
    show SA T1 m 8 #[vR a1, vI 0, vI n, .unset, .unset] [iI n]
    refine XS.istoreN X1.here hx rfl (hb hby d28_8) rfl (l' := #[vR a1, vI 0, vI n, vI n, .unset]) rfl ?_
    show SA T1 m 9 #[vR a1, vI 0, vI n, vI n, .unset] []
    refine XS.iloadN X1.here hx rfl (hb hby d28_9) rfl ?_
    show SA T1 m 10 #[vR a1, vI 0, vI n, vI n, .unset] [iI n]
    refine st2 _ ?_
    show SA T2 m 12 #[vR a1, vI 0, vI n, vI n, .unset] [iR b2]
    refine XS.astore X2.here hx rfl (hb hby d28_12) rfl rfl (l' := #[vR a1, vI 0, vI n, vI n, vR b2]) rfl ?_
    show SA T2 m 14 #[vR a1, vI 0, vI n, vI n, vR b2] []
    refine XS.aloadN X2.here hx rfl (hb hby d28_14) rfl rfl ?_
    show SA T2 m 15 #[vR a1, vI 0, vI n, vI n, vR b2] [iR a1]
    refine XS.iloadN X2.here hx rfl (hb hby d28_15) rfl ?_
    show SA T2 m 16 #[vR a1, vI 0, vI n, vI n, vR b2] [iI 0, iR a1]
    refine XS.aload X2.here hx rfl (hb hby d28_16) rfl rfl ?_
    show SA T2 m 18 #[vR a1, vI 0, vI n, vI n, vR b2] [iR b2, iI 0, iR a1]
    refine XS.iconst X2.here hx rfl (hb hby d28_18) ?_
    show SA T2 m 19 #[vR a1, vI 0, vI n, vI n, vR b2] [iI 0, iR b2, iI 0, iR a1]
    refine XS.aloadN X2.here hx rfl (hb hby d28_19) rfl rfl ?_
    show SA T2 m 20 #[vR a1, vI 0, vI n, vI n, vR b2] [iR a1, iI 0, iR b2, iI 0, iR a1]
    refine X2.arraylength hx (by rw [e2]; exact Ar4.1) (State.isArrayOf_alike hZ.alike Ar4.2.1) (g := (mkF m 20 #[vR a1, vI 0, vI n, vI n, vR b2] [iR a1, iI 0, iR b2, iI 0, iR a1])) rfl rfl (hb hby d28_20) _ ?_
    rw [len_of S4 M4]
    show SA T2 m 21 #[vR a1, vI 0, vI n, vI n, vR b2] [iI cap, iI 0, iR b2, iI 0, iR a1]
    refine XS.iloadN X2.here hx rfl (hb hby d28_21) rfl ?_
    show SA T2 m 22 #[vR a1, vI 0, vI n, vI n, vR b2] [iI 0, iI cap, iI 0, iR b2, iI 0, iR a1]
    refine XS.isub X2.here hx rfl (hb hby d28_22) rfl ?_
    rw [own_sub0]
    show SA T2 m 23 #[vR a1, vI 0, vI n, vI n, vR b2] [iI cap, iI 0, iR b2, iI 0, iR a1]
    refine XS.iloadN X2.here hx rfl (hb hby d28_23) rfl ?_
    show SA T2 m 24 #[vR a1, vI 0, vI n, vI n, vR b2] [iI n, iI cap, iI 0, iR b2, iI 0, iR a1]
    refine st5 _ ?_
    show SA T5 m 27 #[vR a1, vI 0, vI n, vI n, vR b2] [iI n, iI 0, iR b2, iI 0, iR a1]
    refine st6 _ ?_
    show SA T6 m 30 #[vR a1, vI 0, vI n, vI n, vR b2] []
    refine XS.aload X6.here hx rfl (hb hby d28_30) rfl rfl ?_
    show Steps _ _ _ (T6.setTop (mkF m 32 #[vR a1, vI 0, vI n, vI n, vR b2] [iR b2])) _
    jvm_step X6.here [X6.here.top, hx, (hb hby d28_32), X6.method', Bd.returns, Value.isRef, FieldType.isReference]
    first | (intro acts; rw [hr _ acts rfl rfl rfl]) | rw [hr _ _ rfl rfl rfl]
    exact Steps.refl _
  · show Q28 Z a1 kb cap n A h0 n0 _ T6.heap _
    rw [e6]
    exact ⟨_, _, rfl, N6, K6, V6, sz_b2⟩
theorem d27_0 : decode jdk_65_method_132_code 0 = .ok (.iload_n 1, 1) := by decide +kernel
theorem d27_1 : decode jdk_65_method_132_code 1 = .ok (.ifCond .ne 9, 3) := by decide +kernel
theorem d27_4 : decode jdk_65_method_132_code 4 = .ok (.iload_n 2, 1) := by decide +kernel
theorem d27_5 : decode jdk_65_method_132_code 5 = .ok (.aload_n 0, 1) := by decide +kernel
theorem d27_6 : decode jdk_65_method_132_code 6 = .ok (.arraylength, 1) := by decide +kernel
theorem d27_7 : decode jdk_65_method_132_code 7 = .ok (.if_icmp .eq 10, 3) := by decide +kernel
theorem d27_10 : decode jdk_65_method_132_code 10 = .ok (.aload_n 0, 1) := by decide +kernel
theorem d27_11 : decode jdk_65_method_132_code 11 = .ok (.iload_n 1, 1) := by decide +kernel
theorem d27_12 : decode jdk_65_method_132_code 12 = .ok (.iload_n 2, 1) := by decide +kernel
theorem d27_13 : decode jdk_65_method_132_code 13 = .ok (.invokestatic 339, 3) := by decide +kernel
theorem d27_16 : decode jdk_65_method_132_code 16 = .ok (.areturn, 1) := by decide +kernel
theorem ef_27 (m : MethodId) (x0 : Addr) (x2 : Int32) : entryFrame m #[(.ref x0), (.int (0 : Int32)), (.int x2)] 3 = mkF m 0 #[.val (.ref x0), .val (.int (0 : Int32)), .val (.int x2)] [] := by first | (simp [entryFrame, mkF, argsToLocals, Value.category]; done) | rfl
def Q27 (Z : State) (a1 : Addr) (kb : ClassId) (cap n : Int32) (A : List Int32) (h0 : Heap) (n0 : Nat) (v : Option Value) (h : Heap) (L : List Loc) : Prop := ∃ (o : Addr) (ko : ClassId), v = some (.ref o) ∧ Fr n0 L ∧ Keep h0 h [] ∧ Arv Z h o ko .byte n (own_bs A) (.int (0 : Int32)) ∧ h0.size ≤ o
theorem rm27 (l : Launch) (Z : State) (a0 : Array Value) (hw : ∀ d ∈ tables_1, d.before a0 Z = true) (ws : List Jvm.Cond) (a1 : Addr) (kb : ClassId) (cap n : Int32) (A : List Int32) (h0 : Heap) (n0 : Nat) (Z0 : n0 ≤ h0.size) (V_b : Arv Z h0 a1 kb .byte cap (own_bs A) (.int (0 : Int32))) (hn : ¬ n < 0) (hl : n < cap) (hm : n.toNatClampNeg ≤ 16) (hA : n.toNatClampNeg = A.length) :
    MetFree l mn_28 (head1 (Jvm.Cond.code mn_28 jdk_65_method_132_code 3 (some (.array .byte)) :: ws) ({ frames := 2, cells := 1, slots := 16, locals := 34 } : Room)) (fun a U => a = #[(.ref a1), (.int (0 : Int32)), (.int n)] ∧ Z.Warmed39 U.vm ∧ U.heap = h0) (fun _ _ _ _ _ => True) (fun _ U o U' => ∃ v L, o = .returned v ∧ Q27 Z a1 kb cap n A h0 n0 v U'.heap L ∧ FrameEnd U o U' L ({ frames := 2, cells := 1, slots := 16, locals := 34 } : Room).cells ({ frames := 2, cells := 1, slots := 16, locals := 34 } : Room).slots) := by
  refine MetFree.of_bodySF (plainFor_of_name pn_8) hisR ?_
  intro p e s m args below meth c s₁ Bd hml0 hP hK
  obtain ⟨rfl, hZ, hh⟩ := hP
  have hx := Bd.exec
  have hby := Bd.bytes
  have hml : c.maxLocals = 3 := hml0
  have hown : s.vm.findClass "java/util/Arrays" = some m.cls := findClass_of_methodNamed Bd.named
  have hnm := (name_of_methodNamed Bd.named Bd.method).1
  have X0 : Stand p l e ({ frames := 2, cells := 1, slots := 16, locals := 34 } : Room) s m #[(.ref a1), (.int (0 : Int32)), (.int n)] below meth c s₁ [] 0 0 := Stand.of_body Bd
  have e0 : s₁.heap = h0 := by rw [← hh, Bd.state]; rfl
  have N0 := Fr.nil n0
  have K0 := Keep.refl h0 []
  have pre0 : ∀ t, Steps p.tables e below (s₁.setTop (mkF m 0 #[.val (.ref a1), .val (.int (0 : Int32)), .val (.int n)] [])) t → Steps p.tables e below (s₁.setTop (entryFrame m #[(.ref a1), (.int (0 : Int32)), (.int n)] 3)) t := fun t k => castTop (ef_27 m a1 n) k
  obtain ⟨cl1, Ar1, q1, S1, M1, H1, G1⟩ := id V_b
  have hh2 : ¬ (n = cap) := (fun e => absurd hl (by rw [e]; exact fun q => Int32.lt_irrefl q))
  obtain ⟨_, _, ⟨T3, L3, k3, n3⟩, -, X3, ⟨Lc3, hQ3, l3, y3, z3⟩, st3⟩ := Jvm.LawKit.callS X0 hx (y := mn_27) hown (mvT hZ (ww hw 151 rfl)) (mvT hZ (ww hw 152 rfl)) (mvT hZ (ww hw 149 rfl)) (mvT hZ (ww hw 153 rfl)) (by decide) (backOf (W := 0) (rm28 l Z a0 hw [] a1 kb cap n A h0 n0 (Nat.le_trans Z0 K0.1) V_b hn hl hm hA) hZ (ww hw 153 rfl) (ww hw 149 rfl) (by decide) (by decide)) (g := (mkF m 13 #[vR a1, vI 0, vI n] [iI n, iI 0, iR a1])) rfl (by rw [hml]; rfl) (argsL := [(.ref a1), (.int (0 : Int32)), (.int n)]) (rest := []) (lenOf pd_19 rfl) rfl (wz rfl) (hb hby d27_13) (fun _ _ => ⟨rfl, e0, (by decide : 0 + 1 ≤ _), (by decide : 0 + 16 ≤ _)⟩)
  dsimp only [Pt.U, Pt.locs, Pt.cells, Pt.slots] at X3 l3 y3 z3 st3 hQ3
  subst l3 y3 z3
  obtain ⟨d3, kd3, rfl, N3q, K3q, V3q, z_d3⟩ := hQ3
  have ne_a1_d3 : a1 ≠ d3 := Nat.ne_of_lt (Nat.lt_of_lt_of_le V_b.lt z_d3)
  have sz_d3 : h0.size ≤ d3 := Nat.le_trans K0.1 z_d3
  have g_d3 : n0 ≤ d3 := Nat.le_trans Z0 sz_d3
  have N3 := Fr.app N0 N3q
  have K3 : Keep h0 T3.heap [] := Keep.trans K0 K3q all0
  obtain ⟨fs, hr, hrun, hended, hW, hsame⟩ := X3.leave (v := some (.ref d3)) (fun h => by rw [Bd.returns] at h; cases h)
  refine ⟨_, _, pre0 _ ?_, hrun, hended, _, _, rfl, ?_, ⟨_, rfl⟩, hW, hsame.mono (by decide) (by decide)⟩
  · show SA s₁ m 0 #[vR a1, vI 0, vI n] []
    refine XS.iloadN X0.here hx rfl (hb hby d27_0) rfl ?_
    show SA s₁ m 1 #[vR a1, vI 0, vI n] [iI 0]
    refine XS.ifNo X0.here hx rfl (hb hby d27_1) rfl ((if0 _ _).trans (teq (by decide : (0 : Int32) = (0 : Int32))).2) ?_
    show SA s₁ m 4 #[vR a1, vI 0, vI n] []
    refine XS.iloadN X0.here hx rfl (hb hby d27_4) rfl ?_
    show SA s₁ m 5 #[vR a1, vI 0, vI n] [iI n]
    refine XS.aloadN X0.here hx rfl (hb hby d27_5) rfl rfl ?_
    show SA s₁ m 6 #[vR a1, vI 0, vI n] [iR a1, iI n]
    refine X0.arraylength hx (by rw [e0]; exact Ar1.1) (State.isArrayOf_alike hZ.alike Ar1.2.1) (g := (mkF m 6 #[vR a1, vI 0, vI n] [iR a1, iI n])) rfl rfl (hb hby d27_6) _ ?_
    rw [len_of S1 M1]
    show SA s₁ m 7 #[vR a1, vI 0, vI n] [iI cap, iI n]
    refine XS.icmpNo X0.here hx rfl (hb hby d27_7) rfl (feq hh2).1 ?_
    show SA s₁ m 10 #[vR a1, vI 0, vI n] []
    refine XS.aloadN X0.here hx rfl (hb hby d27_10) rfl rfl ?_
    show SA s₁ m 11 #[vR a1, vI 0, vI n] [iR a1]
    refine XS.iloadN X0.here hx rfl (hb hby d27_11) rfl ?_
    show SA s₁ m 12 #[vR a1, vI 0, vI n] [iI 0, iR a1]
    refine XS.iloadN X0.here hx rfl (hb hby d27_12) rfl ?_
    show SA s₁ m 13 #[vR a1, vI 0, vI n] [iI n, iI 0, iR a1]
    refine st3 _ ?_
    show Steps _ _ _ (T3.setTop (mkF m 16 #[vR a1, vI 0, vI n] [iR d3])) _
    jvm_step X3.here [X3.here.top, hx, (hb hby d27_16), X3.method', Bd.returns, Value.isRef, FieldType.isReference]
    first | (intro acts; rw [hr _ acts rfl rfl rfl]) | rw [hr _ _ rfl rfl rfl]
    exact Steps.refl _
  · show Q27 Z a1 kb cap n A h0 n0 _ T3.heap _
    exact ⟨_, _, rfl, N3, K3, V3q, sz_d3⟩
theorem d27_17 : decode jdk_65_method_132_code 17 = .ok (.aload_n 0, 1) := by decide +kernel
theorem d27_18 : decode jdk_65_method_132_code 18 = .ok (.invokevirtual 310, 3) := by decide +kernel
theorem d27_21 : decode jdk_65_method_132_code 21 = .ok (.checkcast 311, 3) := by decide +kernel
theorem d27_24 : decode jdk_65_method_132_code 24 = .ok (.areturn, 1) := by decide +kernel
theorem ef_27_e (m : MethodId) (x0 : Addr) (x2 : Int32) : entryFrame m #[(.ref x0), (.int (0 : Int32)), (.int x2)] 3 = mkF m 0 #[.val (.ref x0), .val (.int (0 : Int32)), .val (.int x2)] [] := by first | (simp [entryFrame, mkF, argsToLocals, Value.category]; done) | rfl
def Q27_e (Z : State) (a1 : Addr) (kb : ClassId) (n : Int32) (A : List Int32) (h0 : Heap) (n0 : Nat) (v : Option Value) (h : Heap) (L : List Loc) : Prop := ∃ (o : Addr) (ko : ClassId), v = some (.ref o) ∧ Fr n0 L ∧ Keep h0 h [] ∧ Arv Z h o ko .byte n (own_bs A) (.int (0 : Int32)) ∧ h0.size ≤ o
theorem rm27_e (l : Launch) (Z : State) (a0 : Array Value) (hw : ∀ d ∈ tables_1, d.before a0 Z = true) (ws : List Jvm.Cond) (a1 : Addr) (kb : ClassId) (n : Int32) (A : List Int32) (h0 : Heap) (n0 : Nat) (Z0 : n0 ≤ h0.size) (V_b : Arv Z h0 a1 kb .byte n (own_bs A) (.int (0 : Int32))) (E_b : Exa Z h0 a1 "[B") (hm : n.toNatClampNeg ≤ 16) :
    MetFree l mn_28 (head1 (Jvm.Cond.code mn_28 jdk_65_method_132_code 3 (some (.array .byte)) :: ws) ({ frames := 2, cells := 1, slots := 16, locals := 34 } : Room)) (fun a U => a = #[(.ref a1), (.int (0 : Int32)), (.int n)] ∧ Z.Warmed39 U.vm ∧ U.heap = h0) (fun _ _ _ _ _ => True) (fun _ U o U' => ∃ v L, o = .returned v ∧ Q27_e Z a1 kb n A h0 n0 v U'.heap L ∧ FrameEnd U o U' L ({ frames := 2, cells := 1, slots := 16, locals := 34 } : Room).cells ({ frames := 2, cells := 1, slots := 16, locals := 34 } : Room).slots) := by
  refine MetFree.of_bodySF (plainFor_of_name pn_8) hisR ?_
  intro p e s m args below meth c s₁ Bd hml0 hP hK
  obtain ⟨rfl, hZ, hh⟩ := hP
  have hx := Bd.exec
  have hby := Bd.bytes
  have hml : c.maxLocals = 3 := hml0
  have hown : s.vm.findClass "java/util/Arrays" = some m.cls := findClass_of_methodNamed Bd.named
  have hnm := (name_of_methodNamed Bd.named Bd.method).1
  have X0 : Stand p l e ({ frames := 2, cells := 1, slots := 16, locals := 34 } : Room) s m #[(.ref a1), (.int (0 : Int32)), (.int n)] below meth c s₁ [] 0 0 := Stand.of_body Bd
  have e0 : s₁.heap = h0 := by rw [← hh, Bd.state]; rfl
  have N0 := Fr.nil n0
  have K0 := Keep.refl h0 []
  have pre0 : ∀ t, Steps p.tables e below (s₁.setTop (mkF m 0 #[.val (.ref a1), .val (.int (0 : Int32)), .val (.int n)] [])) t → Steps p.tables e below (s₁.setTop (entryFrame m #[(.ref a1), (.int (0 : Int32)), (.int n)] 3)) t := fun t k => castTop (ef_27_e m a1 n) k
  obtain ⟨cl1, Ar1, q1, S1, M1, H1, G1⟩ := id V_b
  obtain ⟨T2, h2, X2, e2, E2, A2, B2, st2⟩ := cloneH X0 hx hZ hown (ww hw 180 rfl) (ww hw 181 rfl) (ww hw 185 rfl) (ww hw 183 rfl) (ww hw 184 rfl) (ww hw 186 rfl) e0 V_b.arh E_b (g := (mkF m 18 #[vR a1, vI 0, vI n] [iR a1])) rfl (by rw [hml]; rfl) rfl (hb hby d27_18) (by decide) (W := 0) (cap := 16) (wz rfl) (by decide) hm (by decide) (by decide)
  obtain ⟨b2, g2⟩ : ∃ z, z = h0.size := ⟨_, rfl⟩
  rw [← g2] at A2 B2 st2
  have ne_a1_b2 : a1 ≠ b2 := Nat.ne_of_lt (Nat.lt_of_lt_of_le V_b.lt (Nat.le_of_eq g2.symm))
  have sz_b2 : h0.size ≤ b2 := Nat.le_trans K0.1 (Nat.le_of_eq g2.symm)
  have g_b2 : n0 ≤ b2 := Nat.le_trans Z0 sz_b2
  have K2 : Keep h0 h2 [] := K0.ext E2
  have V2 : Arv Z h2 b2 kb .byte n (own_bs A) (.int (0 : Int32)) := A2
  obtain ⟨T3, X3, e3, st3⟩ := castY X2 hx hZ hown (ww hw 187 rfl) e2 (Ins.self B2) (g := (mkF m 21 #[vR a1, vI 0, vI n] [iR b2])) rfl rfl (hb hby d27_21)
  obtain ⟨fs, hr, hrun, hended, hW, hsame⟩ := X3.leave (v := some (.ref b2)) (fun h => by rw [Bd.returns] at h; cases h)
  refine ⟨_, _, pre0 _ ?_, hrun, hended, _, _, rfl, ?_, ⟨_, rfl⟩, hW, hsame.mono (by decide) (by decide)⟩
  · show SA s₁ m 0 #[vR a1, vI 0, vI n] []
    refine XS.iloadN X0.here hx rfl (hb hby d27_0) rfl ?_
    show SA s₁ m 1 #[vR a1, vI 0, vI n] [iI 0]
    refine XS.ifNo X0.here hx rfl (hb hby d27_1) rfl ((if0 _ _).trans (teq (by decide : (0 : Int32) = (0 : Int32))).2) ?_
    show SA s₁ m 4 #[vR a1, vI 0, vI n] []
    refine XS.iloadN X0.here hx rfl (hb hby d27_4) rfl ?_
    show SA s₁ m 5 #[vR a1, vI 0, vI n] [iI n]
    refine XS.aloadN X0.here hx rfl (hb hby d27_5) rfl rfl ?_
    show SA s₁ m 6 #[vR a1, vI 0, vI n] [iR a1, iI n]
    refine X0.arraylength hx (by rw [e0]; exact Ar1.1) (State.isArrayOf_alike hZ.alike Ar1.2.1) (g := (mkF m 6 #[vR a1, vI 0, vI n] [iR a1, iI n])) rfl rfl (hb hby d27_6) _ ?_
    rw [len_of S1 M1]
    show SA s₁ m 7 #[vR a1, vI 0, vI n] [iI n, iI n]
    refine XS.icmpYes X0.here hx rfl (pc0 := 7) (pc' := 17) rfl (hb hby d27_7) rfl (teq (rfl : n = n)).1 (by decide) (by decide) ?_
    show SA s₁ m 17 #[vR a1, vI 0, vI n] []
    refine XS.aloadN X0.here hx rfl (hb hby d27_17) rfl rfl ?_
    show SA s₁ m 18 #[vR a1, vI 0, vI n] [iR a1]
    refine st2 _ ?_
    show SA T2 m 21 #[vR a1, vI 0, vI n] [iR b2]
    refine st3 _ ?_
    show Steps _ _ _ (T3.setTop (mkF m 24 #[vR a1, vI 0, vI n] [iR b2])) _
    jvm_step X3.here [X3.here.top, hx, (hb hby d27_24), X3.method', Bd.returns, Value.isRef, FieldType.isReference]
    first | (intro acts; rw [hr _ acts rfl rfl rfl]) | rw [hr _ _ rfl rfl rfl]
    exact Steps.refl _
  · show Q27_e Z a1 kb n A h0 n0 _ T3.heap _
    rw [e3]
    exact ⟨_, _, rfl, N0, K2, V2, sz_b2⟩
def Q27_u (Z : State) (a1 : Addr) (kb : ClassId) (cap n : Int32) (A : List Int32) (h0 : Heap) (n0 : Nat) (v : Option Value) (h : Heap) (L : List Loc) : Prop := ∃ (o : Addr) (ko : ClassId), v = some (.ref o) ∧ Fr n0 L ∧ Keep h0 h [] ∧ Arv Z h o ko .byte n (own_bs A) (.int (0 : Int32)) ∧ h0.size ≤ o
theorem rm27_u (l : Launch) (Z : State) (a0 : Array Value) (hw : ∀ d ∈ tables_1, d.before a0 Z = true) (ws : List Jvm.Cond) (a1 : Addr) (kb : ClassId) (cap n : Int32) (A : List Int32) (h0 : Heap) (n0 : Nat) (Z0 : n0 ≤ h0.size) (V_b : Arv Z h0 a1 kb .byte cap (own_bs A) (.int (0 : Int32))) (E_b : Exa Z h0 a1 "[B") (hn : ¬ n < 0) (hl : ¬ cap < n) (hm : n.toNatClampNeg ≤ 16) (hA : n.toNatClampNeg = A.length) :
    MetFree l mn_28 (head1 (Jvm.Cond.code mn_28 jdk_65_method_132_code 3 (some (.array .byte)) :: ws) ({ frames := 2, cells := 1, slots := 16, locals := 34 } : Room)) (fun a U => a = #[(.ref a1), (.int (0 : Int32)), (.int n)] ∧ Z.Warmed39 U.vm ∧ U.heap = h0) (fun _ _ _ _ _ => True) (fun _ U o U' => ∃ v L, o = .returned v ∧ Q27_u Z a1 kb cap n A h0 n0 v U'.heap L ∧ FrameEnd U o U' L ({ frames := 2, cells := 1, slots := 16, locals := 34 } : Room).cells ({ frames := 2, cells := 1, slots := 16, locals := 34 } : Room).slots) := by
  by_cases q : cap = n
  · subst q
    exact rm27_e l Z a0 hw ws a1 kb _ A h0 n0 Z0 V_b E_b hm
  · refine rm27 l Z a0 hw ws a1 kb cap n A h0 n0 Z0 V_b hn ?_ hm hA
    have q' : ¬ cap.toInt = n.toInt := fun z => q (Int32.toInt_inj.mp z)
    rw [Int32.lt_iff_toInt_lt] at *
    omega
theorem d24_0 : decode jdk_68_method_64_code 0 = .ok (.aload_n 0, 1) := by decide +kernel
theorem d24_1 : decode jdk_68_method_64_code 1 = .ok (.getfield 15, 3) := by decide +kernel
theorem d24_4 : decode jdk_68_method_64_code 4 = .ok (.areturn, 1) := by decide +kernel
theorem ef_24 (m : MethodId) (x0 : Addr) : entryFrame m #[(.ref x0)] 1 = mkF m 0 #[.val (.ref x0)] [] := by first | (simp [entryFrame, mkF, argsToLocals, Value.category]; done) | rfl
def Q24 (Z : State) (a1 : Addr) (b : Addr) (h0 : Heap) (v : Option Value) (h : Heap) (L : List Loc) : Prop := v = some (.ref b) ∧ L = [] ∧ h = h0
theorem rm24 (l : Launch) (Z : State) (a0 : Array Value) (hw : ∀ d ∈ tables_1, d.before a0 Z = true) (ws : List Jvm.Cond) (a1 : Addr) (b : Addr) (h0 : Heap) (F_v : Fld Z h0 a1 "java/lang/AbstractStringBuilder" "value" "[B" (.ref b)) :
    MetFree l mn_29 (head1 (Jvm.Cond.code mn_29 jdk_68_method_64_code 1 (some (.array .byte)) :: ws) ({ frames := 0, cells := 0, slots := 0, locals := 0 } : Room)) (fun a U => a = #[(.ref a1)] ∧ Z.Warmed39 U.vm ∧ U.heap = h0) (fun _ _ _ _ _ => True) (fun _ U o U' => ∃ v L, o = .returned v ∧ Q24 Z a1 b h0 v U'.heap L ∧ FrameEnd U o U' L ({ frames := 0, cells := 0, slots := 0, locals := 0 } : Room).cells ({ frames := 0, cells := 0, slots := 0, locals := 0 } : Room).slots) := by
  refine MetFree.of_bodySF (plainFor_of_name pn_6) hisR ?_
  intro p e s m args below meth c s₁ Bd hml0 hP hK
  obtain ⟨rfl, hZ, hh⟩ := hP
  have hx := Bd.exec
  have hby := Bd.bytes
  have hml : c.maxLocals = 1 := hml0
  have hown : s.vm.findClass "java/lang/AbstractStringBuilder" = some m.cls := findClass_of_methodNamed Bd.named
  have hnm := (name_of_methodNamed Bd.named Bd.method).1
  have X0 : Stand p l e ({ frames := 0, cells := 0, slots := 0, locals := 0 } : Room) s m #[(.ref a1)] below meth c s₁ [] 0 0 := Stand.of_body Bd
  have e0 : s₁.heap = h0 := by rw [← hh, Bd.state]; rfl
  have pre0 : ∀ t, Steps p.tables e below (s₁.setTop (mkF m 0 #[.val (.ref a1)] [])) t → Steps p.tables e below (s₁.setTop (entryFrame m #[(.ref a1)] 1)) t := fun t k => castTop (ef_24 m a1) k
  obtain ⟨T1, X1, e1, st1⟩ := getF X0 hx hZ hown (host := "") (Or.inl (ww hw 54 rfl)) Via.refl e0 F_v (g := (mkF m 1 #[vR a1] [iR a1])) rfl rfl (hb hby d24_1)
  obtain ⟨fs, hr, hrun, hended, hW, hsame⟩ := X1.leave (v := some (.ref b)) (fun h => by rw [Bd.returns] at h; cases h)
  refine ⟨_, _, pre0 _ ?_, hrun, hended, _, _, rfl, ?_, ⟨_, rfl⟩, hW, hsame.mono (by decide) (by decide)⟩
  · show SA s₁ m 0 #[vR a1] []
    refine XS.aloadN X0.here hx rfl (hb hby d24_0) rfl rfl ?_
    show SA s₁ m 1 #[vR a1] [iR a1]
    refine st1 _ ?_
    show Steps _ _ _ (T1.setTop (mkF m 4 #[vR a1] [iR b])) _
    jvm_step X1.here [X1.here.top, hx, (hb hby d24_4), X1.method', Bd.returns, Value.isRef, FieldType.isReference]
    first | (intro acts; rw [hr _ acts rfl rfl rfl]) | rw [hr _ _ rfl rfl rfl]
    exact Steps.refl _
  · show Q24 Z a1 b h0 _ T1.heap _
    rw [e1]
    exact ⟨rfl, rfl, rfl⟩
theorem d26_0 : decode jdk_68_method_6_code 0 = .ok (.aload_n 0, 1) := by decide +kernel
theorem d26_1 : decode jdk_68_method_6_code 1 = .ok (.getfield 79, 3) := by decide +kernel
theorem d26_4 : decode jdk_68_method_6_code 4 = .ok (.ireturn, 1) := by decide +kernel
theorem ef_26 (m : MethodId) (x0 : Addr) : entryFrame m #[(.ref x0)] 1 = mkF m 0 #[.val (.ref x0)] [] := by first | (simp [entryFrame, mkF, argsToLocals, Value.category]; done) | rfl
def Q26 (Z : State) (a1 : Addr) (n : Int32) (h0 : Heap) (v : Option Value) (h : Heap) (L : List Loc) : Prop := v = some (.int n) ∧ L = [] ∧ h = h0
theorem rm26 (l : Launch) (Z : State) (a0 : Array Value) (hw : ∀ d ∈ tables_1, d.before a0 Z = true) (ws : List Jvm.Cond) (a1 : Addr) (n : Int32) (h0 : Heap) (F_n : Fld Z h0 a1 "java/lang/AbstractStringBuilder" "count" "I" (.int n)) :
    MetFree l mn_30 (head1 (Jvm.Cond.code mn_30 jdk_68_method_6_code 1 (some .int) :: ws) ({ frames := 0, cells := 0, slots := 0, locals := 0 } : Room)) (fun a U => a = #[(.ref a1)] ∧ Z.Warmed39 U.vm ∧ U.heap = h0) (fun _ _ _ _ _ => True) (fun _ U o U' => ∃ v L, o = .returned v ∧ Q26 Z a1 n h0 v U'.heap L ∧ FrameEnd U o U' L ({ frames := 0, cells := 0, slots := 0, locals := 0 } : Room).cells ({ frames := 0, cells := 0, slots := 0, locals := 0 } : Room).slots) := by
  refine MetFree.of_bodySF (plainFor_of_name pn_6) hisR ?_
  intro p e s m args below meth c s₁ Bd hml0 hP hK
  obtain ⟨rfl, hZ, hh⟩ := hP
  have hx := Bd.exec
  have hby := Bd.bytes
  have hml : c.maxLocals = 1 := hml0
  have hown : s.vm.findClass "java/lang/AbstractStringBuilder" = some m.cls := findClass_of_methodNamed Bd.named
  have hnm := (name_of_methodNamed Bd.named Bd.method).1
  have X0 : Stand p l e ({ frames := 0, cells := 0, slots := 0, locals := 0 } : Room) s m #[(.ref a1)] below meth c s₁ [] 0 0 := Stand.of_body Bd
  have e0 : s₁.heap = h0 := by rw [← hh, Bd.state]; rfl
  have pre0 : ∀ t, Steps p.tables e below (s₁.setTop (mkF m 0 #[.val (.ref a1)] [])) t → Steps p.tables e below (s₁.setTop (entryFrame m #[(.ref a1)] 1)) t := fun t k => castTop (ef_26 m a1) k
  obtain ⟨T1, X1, e1, st1⟩ := getF X0 hx hZ hown (host := "") (Or.inl (ww hw 104 rfl)) Via.refl e0 F_n (g := (mkF m 1 #[vR a1] [iR a1])) rfl rfl (hb hby d26_1)
  obtain ⟨fs, hr, hrun, hended, hW, hsame⟩ := X1.leave (v := some (.int n)) (fun h => by rw [Bd.returns] at h; cases h)
  refine ⟨_, _, pre0 _ ?_, hrun, hended, _, _, rfl, ?_, ⟨_, rfl⟩, hW, hsame.mono (by decide) (by decide)⟩
  · show SA s₁ m 0 #[vR a1] []
    refine XS.aloadN X0.here hx rfl (hb hby d26_0) rfl rfl ?_
    show SA s₁ m 1 #[vR a1] [iR a1]
    refine st1 _ ?_
    show Steps _ _ _ (T1.setTop (mkF m 4 #[vR a1] [iI n])) _
    exact retI X1 hx Bd.returns (hb hby d26_4) hr
  · show Q26 Z a1 n h0 _ T1.heap _
    rw [e1]
    exact ⟨rfl, rfl, rfl⟩
theorem d25_0 : decode jdk_67_method_93_code 0 = .ok (.aload_n 0, 1) := by decide +kernel
theorem d25_1 : decode jdk_67_method_93_code 1 = .ok (.invokespecial 343, 3) := by decide +kernel
theorem d25_4 : decode jdk_67_method_93_code 4 = .ok (.ireturn, 1) := by decide +kernel
theorem ef_25 (m : MethodId) (x0 : Addr) : entryFrame m #[(.ref x0)] 1 = mkF m 0 #[.val (.ref x0)] [] := by first | (simp [entryFrame, mkF, argsToLocals, Value.category]; done) | rfl
def Q25 (Z : State) (a1 : Addr) (n : Int32) (h0 : Heap) (v : Option Value) (h : Heap) (L : List Loc) : Prop := v = some (.int n) ∧ L = [] ∧ h = h0
theorem rm25 (l : Launch) (Z : State) (a0 : Array Value) (hw : ∀ d ∈ tables_1, d.before a0 Z = true) (ws : List Jvm.Cond) (a1 : Addr) (n : Int32) (h0 : Heap) (E_a1 : Exa Z h0 a1 "java/lang/StringBuilder") (F_n : Fld Z h0 a1 "java/lang/AbstractStringBuilder" "count" "I" (.int n)) :
    MetFree l mn_31 (head1 (Jvm.Cond.code mn_31 jdk_67_method_93_code 1 (some .int) :: ws) ({ frames := 1, cells := 0, slots := 0, locals := 12 } : Room)) (fun a U => a = #[(.ref a1)] ∧ Z.Warmed39 U.vm ∧ U.heap = h0) (fun _ _ _ _ _ => True) (fun _ U o U' => ∃ v L, o = .returned v ∧ Q25 Z a1 n h0 v U'.heap L ∧ FrameEnd U o U' L ({ frames := 1, cells := 0, slots := 0, locals := 12 } : Room).cells ({ frames := 1, cells := 0, slots := 0, locals := 12 } : Room).slots) := by
  refine MetFree.of_bodySF (plainFor_of_name pn_7) hisR ?_
  intro p e s m args below meth c s₁ Bd hml0 hP hK
  obtain ⟨rfl, hZ, hh⟩ := hP
  have hx := Bd.exec
  have hby := Bd.bytes
  have hml : c.maxLocals = 1 := hml0
  have hown : s.vm.findClass "java/lang/StringBuilder" = some m.cls := findClass_of_methodNamed Bd.named
  have hnm := (name_of_methodNamed Bd.named Bd.method).1
  have X0 : Stand p l e ({ frames := 1, cells := 0, slots := 0, locals := 12 } : Room) s m #[(.ref a1)] below meth c s₁ [] 0 0 := Stand.of_body Bd
  have e0 : s₁.heap = h0 := by rw [← hh, Bd.state]; rfl
  have pre0 : ∀ t, Steps p.tables e below (s₁.setTop (mkF m 0 #[.val (.ref a1)] [])) t → Steps p.tables e below (s₁.setTop (entryFrame m #[(.ref a1)] 1)) t := fun t k => castTop (ef_25 m a1) k
  obtain ⟨_, _, ⟨T1, L1, k1, n1⟩, -, X1, ⟨Lc1, hQ1, l1, y1, z1⟩, st1⟩ := superBack X0 hx hZ (y := mn_30) hown (ww hw 144 rfl) (own_same (ww hw 140 rfl) (own_nf (z := mn_18) rfl (notFace_of_selects (ww hw 109 rfl)) (ww hw 107 rfl)) (by decide)) (ww hw 140 rfl) (ww hw 101 rfl) (by decide) (backOf (W := 0) (rm26 l Z a0 hw [] a1 n h0 F_n) hZ (ww hw 145 rfl) (ww hw 48 rfl) (by decide) (by decide)) e0 (Ins.self E_a1) (g := (mkF m 1 #[vR a1] [iR a1])) rfl (by rw [hml]; rfl) (ww hw 145 rfl) (argsL := []) (rest := []) (lenOf pd_20 rfl) rfl (wz rfl) (hb hby d25_1) (fun _ _ => ⟨rfl, e0, (by decide : 0 + 0 ≤ _), (by decide : 0 + 0 ≤ _)⟩)
  dsimp only [Pt.U, Pt.locs, Pt.cells, Pt.slots] at X1 l1 y1 z1 st1 hQ1
  subst l1 y1 z1
  obtain ⟨rfl, rfl, e1⟩ := hQ1
  try rw [List.append_nil] at X1
  obtain ⟨fs, hr, hrun, hended, hW, hsame⟩ := X1.leave (v := some (.int n)) (fun h => by rw [Bd.returns] at h; cases h)
  refine ⟨_, _, pre0 _ ?_, hrun, hended, _, _, rfl, ?_, ⟨_, rfl⟩, hW, hsame.mono (by decide) (by decide)⟩
  · show SA s₁ m 0 #[vR a1] []
    refine XS.aloadN X0.here hx rfl (hb hby d25_0) rfl rfl ?_
    show SA s₁ m 1 #[vR a1] [iR a1]
    refine st1.trans ?_
    show Steps _ _ _ (T1.setTop (mkF m 4 #[vR a1] [iI n])) _
    exact retI X1 hx Bd.returns (hb hby d25_4) hr
  · show Q25 Z a1 n h0 _ T1.heap _
    rw [e1]
    exact ⟨rfl, rfl, rfl⟩
theorem d23_0 : decode jdk_42_method_150_code 0 = .ok (.aload_n 0, 1) := by decide +kernel
theorem d23_1 : decode jdk_42_method_150_code 1 = .ok (.invokespecial 1, 3) := by decide +kernel
theorem d23_4 : decode jdk_42_method_150_code 4 = .ok (.aload_n 1, 1) := by decide +kernel
theorem d23_5 : decode jdk_42_method_150_code 5 = .ok (.invokevirtual 552, 3) := by decide +kernel
theorem d23_8 : decode jdk_42_method_150_code 8 = .ok (.astore_n 3, 1) := by decide +kernel
theorem d23_9 : decode jdk_42_method_150_code 9 = .ok (.aload_n 1, 1) := by decide +kernel
theorem d23_10 : decode jdk_42_method_150_code 10 = .ok (.invokevirtual 549, 3) := by decide +kernel
theorem d23_13 : decode jdk_42_method_150_code 13 = .ok (.istore 4, 2) := by decide +kernel
theorem d23_15 : decode jdk_42_method_150_code 15 = .ok (.aload_n 1, 1) := by decide +kernel
theorem d23_16 : decode jdk_42_method_150_code 16 = .ok (.invokevirtual 1047, 3) := by decide +kernel
theorem d23_19 : decode jdk_42_method_150_code 19 = .ok (.ifCond .eq 22, 3) := by decide +kernel
theorem d23_22 : decode jdk_42_method_150_code 22 = .ok (.aload_n 0, 1) := by decide +kernel
theorem d23_23 : decode jdk_42_method_150_code 23 = .ok (.iconst 0, 1) := by decide +kernel
theorem d23_24 : decode jdk_42_method_150_code 24 = .ok (.putfield 15, 3) := by decide +kernel
theorem d23_27 : decode jdk_42_method_150_code 27 = .ok (.aload_n 0, 1) := by decide +kernel
theorem d23_28 : decode jdk_42_method_150_code 28 = .ok (.aload_n 3, 1) := by decide +kernel
theorem d23_29 : decode jdk_42_method_150_code 29 = .ok (.iconst 0, 1) := by decide +kernel
theorem d23_30 : decode jdk_42_method_150_code 30 = .ok (.iload 4, 2) := by decide +kernel
theorem d23_32 : decode jdk_42_method_150_code 32 = .ok (.invokestatic 54, 3) := by decide +kernel
theorem d23_35 : decode jdk_42_method_150_code 35 = .ok (.putfield 9, 3) := by decide +kernel
theorem d23_38 : decode jdk_42_method_150_code 38 = .ok (.goto 59, 3) := by decide +kernel
theorem d23_97 : decode jdk_42_method_150_code 97 = .ok (.return_, 1) := by decide +kernel
theorem ef_23 (m : MethodId) (x0 : Addr) (x1 : Addr) : entryFrame m #[(.ref x0), (.ref x1), .null] 5 = mkF m 0 #[.val (.ref x0), .val (.ref x1), .val .null, .unset, .unset] [] := by first | (simp [entryFrame, mkF, argsToLocals, Value.category]; done) | rfl
def Q23 (Z : State) (a1 : Addr) (a2 : Addr) (b : Addr) (kb : ClassId) (cap : Int32) (A : List Int32) (n : Int32) (cs : Int32) (h0 : Heap) (n0 : Nat) (v : Option Value) (h : Heap) (L : List Loc) : Prop := ∃ (o : Addr) (ko : ClassId), v = none ∧ Fr n0 L ∧ Keep h0 h [a1] ∧ Exa Z h a1 "java/lang/String" ∧ Fld Z h a1 "java/lang/String" "coder" "B" (.int (0 : Int32)) ∧ Fld Z h a1 "java/lang/String" "value" "[B" (.ref o) ∧ Arv Z h o ko .byte n (own_bs A) (.int (0 : Int32)) ∧ h0.size ≤ o
theorem rm23 (l : Launch) (Z : State) (a0 : Array Value) (hw : ∀ d ∈ tables_1, d.before a0 Z = true) (ws : List Jvm.Cond) (a1 : Addr) (a2 : Addr) (b : Addr) (kb : ClassId) (cap : Int32) (A : List Int32) (n : Int32) (cs : Int32) (h0 : Heap) (n0 : Nat) (Z0 : n0 ≤ h0.size) (O0 : Old Z n0 h0) (E_a1 : Exa Z h0 a1 "java/lang/String") (g_a1 : n0 ≤ a1) (H_v : Fld Z h0 a1 "java/lang/String" "value" "[B" .null) (H_c : Fld Z h0 a1 "java/lang/String" "coder" "B" (.int (0 : Int32))) (ne_a1_a2 : a1 ≠ a2) (ne_a1_b : a1 ≠ b) (E_a2 : Exa Z h0 a2 "java/lang/StringBuilder") (Gv_a2 : Fld Z h0 a2 "java/lang/AbstractStringBuilder" "value" "[B" (.ref b)) (Gc_a2 : Fld Z h0 a2 "java/lang/AbstractStringBuilder" "coder" "B" (.int (0 : Int32))) (V_b : Arv Z h0 b kb .byte cap (own_bs A) (.int (0 : Int32))) (Gn_a2 : Fld Z h0 a2 "java/lang/AbstractStringBuilder" "count" "I" (.int n)) (hn : ¬ n < 0) (hl : ¬ cap < n) (hm : n.toNatClampNeg ≤ 16) (hA : n.toNatClampNeg = A.length) (E_b : Exa Z h0 b "[B") (S_CS : Sta Z Z.heap "java/lang/String" "COMPACT_STRINGS" "Z" (.int cs)) (h_cs : ¬ cs = (0 : Int32)) :
    MetFree l mn_32 (head1 (Jvm.Cond.code mn_32 jdk_42_method_150_code 5 none :: ws) ({ frames := 3, cells := 1, slots := 16, locals := 49 } : Room)) (fun a U => a = #[(.ref a1), (.ref a2), .null] ∧ Z.Warmed39 U.vm ∧ U.heap = h0) (fun _ _ _ _ _ => True) (fun _ U o U' => ∃ v L, o = .returned v ∧ Q23 Z a1 a2 b kb cap A n cs h0 n0 v U'.heap L ∧ FrameEnd U o U' L ({ frames := 3, cells := 1, slots := 16, locals := 49 } : Room).cells ({ frames := 3, cells := 1, slots := 16, locals := 49 } : Room).slots) := by
  refine MetFree.of_bodySF (plainFor_of_name pn_0) hisR ?_
  intro p e s m args below meth c s₁ Bd hml0 hP hK
  obtain ⟨rfl, hZ, hh⟩ := hP
  have hx := Bd.exec
  have hby := Bd.bytes
  have hml : c.maxLocals = 5 := hml0
  have hown : s.vm.findClass "java/lang/String" = some m.cls := findClass_of_methodNamed Bd.named
  have hnm := (name_of_methodNamed Bd.named Bd.method).1
  have X0 : Stand p l e ({ frames := 3, cells := 1, slots := 16, locals := 49 } : Room) s m #[(.ref a1), (.ref a2), .null] below meth c s₁ [] 0 0 := Stand.of_body Bd
  have e0 : s₁.heap = h0 := by rw [← hh, Bd.state]; rfl
  have N0 := Fr.nil n0
  have K0 := Keep.refl h0 [a1]
  have pre0 : ∀ t, Steps p.tables e below (s₁.setTop (mkF m 0 #[.val (.ref a1), .val (.ref a2), .val .null, .unset, .unset] [])) t → Steps p.tables e below (s₁.setTop (entryFrame m #[(.ref a1), (.ref a2), .null] 5)) t := fun t k => castTop (ef_23 m a1 a2) k
  obtain ⟨T1, X1, e1, st1⟩ := initO X0 hx hZ hown (ww hw 132 rfl) (ww hw 27 rfl) (ww hw 28 rfl) e0 (g := (mkF m 1 #[vR a1, vR a2, .val .null, .unset, .unset] [iR a1])) rfl (by rw [hml]; rfl) rfl (hb hby d23_1) (by decide) (W := 0) (wz rfl) (by decide)
  obtain ⟨cq2, kq2, q2a, q2b, q2c⟩ := isOf hZ e1 E_a2
  obtain ⟨_, _, ⟨T2, L2, k2, n2⟩, -, X2, ⟨Lc2, hQ2, l2, y2, z2⟩, st2⟩ := X1.virtualBack hx (y := mn_29) (z := mn_29) hown (mvT hZ (ww hw 133 rfl)) (mvT hZ (ww hw 134 rfl)) (notFace_of_selects (args := #[]) (mvT hZ (ww hw 136 rfl))) (mvT hZ (ww hw 136 rfl)) (mvT hZ (ww hw 135 rfl)) (by decide) (backOf (W := 0) (rm24 l Z a0 hw [] a2 b h0 Gv_a2) hZ (ww hw 137 rfl) (ww hw 48 rfl) (by decide) (by decide)) q2a q2c (g := (mkF m 5 #[vR a1, vR a2, .val .null, .unset, .unset] [iR a2])) rfl (by rw [hml]; rfl) (Steps.refl _) (argsL := []) (rest := []) (lenOf pd_21 rfl) rfl (wz rfl) (hb hby d23_5) (fun _ _ => ⟨rfl, e1, (by decide : 0 + 0 ≤ _), (by decide : 0 + 0 ≤ _)⟩)
  dsimp only [Pt.U, Pt.locs, Pt.cells, Pt.slots] at X2 l2 y2 z2 st2 hQ2
  subst l2 y2 z2
  obtain ⟨rfl, rfl, e2⟩ := hQ2
  try rw [List.append_nil] at X2
  obtain ⟨cq3, kq3, q3a, q3b, q3c⟩ := isOf hZ e2 E_a2
  obtain ⟨_, _, ⟨T3, L3, k3, n3⟩, -, X3, ⟨Lc3, hQ3, l3, y3, z3⟩, st3⟩ := X2.virtualBack hx (y := mn_30) (z := mn_31) hown (mvT hZ (ww hw 138 rfl)) (mvT hZ (ww hw 139 rfl)) (own_nf (z := mn_18) rfl (notFace_of_selects (args := #[]) (mvT hZ (ww hw 109 rfl))) (mvT hZ (ww hw 107 rfl) (args := #[]))) (mvT hZ (ww hw 141 rfl)) (mvT hZ (ww hw 142 rfl)) (by decide) (backOf (W := 0) (rm25 l Z a0 hw [] a2 n h0 E_a2 Gn_a2) hZ (ww hw 143 rfl) (ww hw 40 rfl) (by decide) (by decide)) q3a q3c (g := (mkF m 10 #[vR a1, vR a2, .val .null, vR b, .unset] [iR a2])) rfl (by rw [hml]; rfl) (Steps.refl _) (argsL := []) (rest := []) (lenOf pd_20 rfl) rfl (wz rfl) (hb hby d23_10) (fun _ _ => ⟨rfl, e2, (by decide : 0 + 0 ≤ _), (by decide : 0 + 0 ≤ _)⟩)
  dsimp only [Pt.U, Pt.locs, Pt.cells, Pt.slots] at X3 l3 y3 z3 st3 hQ3
  subst l3 y3 z3
  obtain ⟨rfl, rfl, e3⟩ := hQ3
  try rw [List.append_nil] at X3
  obtain ⟨cq4, kq4, q4a, q4b, q4c⟩ := isOf hZ e3 E_a2
  obtain ⟨_, _, ⟨T4, L4, k4, n4⟩, -, X4, ⟨Lc4, hQ4, l4, y4, z4⟩, st4⟩ := X3.virtualBack hx (y := mn_19) (z := mn_19) hown (mvT hZ (ww hw 146 rfl)) (mvT hZ (ww hw 112 rfl)) (notFace_of_selects (args := #[]) (mvT hZ (ww hw 114 rfl))) (mvT hZ (ww hw 114 rfl)) (mvT hZ (ww hw 113 rfl)) (by decide) (backOf (W := 0) (rm19 l Z a0 hw [] a2 cs h0 n0 O0 Gc_a2 S_CS h_cs) hZ (ww hw 115 rfl) (ww hw 48 rfl) (by decide) (by decide)) q4a q4c (g := (mkF m 16 #[vR a1, vR a2, .val .null, vR b, vI n] [iR a2])) rfl (by rw [hml]; rfl) (Steps.refl _) (argsL := []) (rest := []) (lenOf pd_2 rfl) rfl (wz rfl) (hb hby d23_16) (fun _ _ => ⟨rfl, e3, (by decide : 0 + 0 ≤ _), (by decide : 0 + 0 ≤ _)⟩)
  dsimp only [Pt.U, Pt.locs, Pt.cells, Pt.slots] at X4 l4 y4 z4 st4 hQ4
  subst l4 y4 z4
  obtain ⟨rfl, rfl, e4⟩ := hQ4
  try rw [List.append_nil] at X4
  obtain ⟨T5, h5, X5, e5, W5, st5⟩ := putFN X4 hx hZ hown (ww hw 80 rfl) Via.refl e4 H_c E_a1 (Or.inr ⟨(ww hw 66 rfl), rfl, hnm⟩) (ww hw 64 rfl) (ty := .byte) (v' := (.int (0 : Int32))) (by decide) rfl (by decide) (g := (mkF m 24 #[vR a1, vR a2, .val .null, vR b, vI n] [iI 0, iR a1])) rfl rfl (hb hby d23_24)
  have Fw5 := H_c.same W5
  have K5 : Keep h0 h5 [a1] := K0.wr W5 (Or.inl (List.mem_of_getElem? (i := 0) rfl))
  have N5 := Fr.snoc X5 N0 g_a1
  have fk7 := (V_b.other W5 (Ne.symm ne_a1_b))
  have fk8 := (E_b.wr W5)
  obtain ⟨_, _, ⟨T6, L6, k6, n6⟩, -, X6, ⟨Lc6, hQ6, l6, y6, z6⟩, st6⟩ := Jvm.LawKit.callS X5 hx (y := mn_28) hown (mvT hZ (ww hw 147 rfl)) (mvT hZ (ww hw 148 rfl)) (mvT hZ (ww hw 149 rfl)) (mvT hZ (ww hw 150 rfl)) (by decide) (backOf (W := 1) (rm27_u l Z a0 hw [] b kb cap n A h5 n0 (Nat.le_trans Z0 K5.1) fk7 fk8 hn hl hm hA) hZ (ww hw 150 rfl) (ww hw 149 rfl) (by decide) (by decide)) (g := (mkF m 32 #[vR a1, vR a2, .val .null, vR b, vI n] [iI n, iI 0, iR b, iR a1])) rfl (by rw [hml]; rfl) (argsL := [(.ref b), (.int (0 : Int32)), (.int n)]) (rest := [(.ref a1)]) (lenOf pd_19 rfl) rfl (wz rfl) (hb hby d23_32) (fun _ _ => ⟨rfl, e5, (by decide : 0 + 1 ≤ _), (by decide : 0 + 16 ≤ _)⟩)
  dsimp only [Pt.U, Pt.locs, Pt.cells, Pt.slots] at X6 l6 y6 z6 st6 hQ6
  subst l6 y6 z6
  obtain ⟨d6, kd6, rfl, N6q, K6q, V6q, z_d6⟩ := hQ6
  have fk9 := (E_a1.wr W5)
  have fk10 := (E_a2.wr W5)
  have ne_a1_d6 : a1 ≠ d6 := Nat.ne_of_lt (Nat.lt_of_lt_of_le fk9.lt z_d6)
  have ne_a2_d6 : a2 ≠ d6 := Nat.ne_of_lt (Nat.lt_of_lt_of_le fk10.lt z_d6)
  have ne_b_d6 : b ≠ d6 := Nat.ne_of_lt (Nat.lt_of_lt_of_le fk7.lt z_d6)
  have sz_d6 : h0.size ≤ d6 := Nat.le_trans K5.1 z_d6
  have g_d6 : n0 ≤ d6 := Nat.le_trans Z0 sz_d6
  have N6 := Fr.app N5 N6q
  have K6 : Keep h0 T6.heap [a1] := Keep.trans K5 K6q all0
  have fk11 := ((H_v.other W5 (Or.inr (slot_ne (Or.inr (ww hw 65 rfl)) (Or.inr (ww hw 66 rfl)) (by decide) (t := (.array .byte)) (t' := .byte) (by decide) (by decide)))).keep K6q nin0)
  have fk12 := (fk9.keep K6q)
  obtain ⟨T13, h13, X13, e13, W13, st13⟩ := putF X6 hx hZ hown (host := "") (Or.inl (ww hw 81 rfl)) Via.refl rfl fk11 fk12 (Or.inr ⟨(ww hw 65 rfl), rfl, hnm⟩) (ww hw 64 rfl) (ty := (.array .byte)) (by decide) rfl rfl (g := (mkF m 35 #[vR a1, vR a2, .val .null, vR b, vI n] [iR d6, iR a1])) rfl rfl (hb hby d23_35)
  have Fw13 := fk11.same W13
  have K13 : Keep h0 h13 [a1] := K6.wr W13 (Or.inl (List.mem_of_getElem? (i := 0) rfl))
  have N13 := Fr.snoc X13 N6 g_a1
  obtain ⟨fs, hr, hrun, hended, hW, hsame⟩ := X13.leave (v := none) (fun _ => rfl)
  have fk14 := (fk12.wr W13)
  have fk15 := ((Fw5.keep K6q nin0).other W13 (Or.inr (slot_ne (Or.inr (ww hw 66 rfl)) (Or.inr (ww hw 65 rfl)) (by decide) (t := .byte) (t' := (.array .byte)) (by decide) (by decide))))
  have fk16 := (V6q.other W13 (Ne.symm ne_a1_d6))
  refine ⟨_, _, pre0 _ ?_, hrun, hended, _, _, rfl, ?_, ⟨_, rfl⟩, hW, hsame.mono (by decide) (by decide)⟩
  · show SA s₁ m 0 #[vR a1, vR a2, .val .null, .unset, .unset] []
    refine XS.aloadN X0.here hx rfl (hb hby d23_0) rfl rfl ?_
    show SA s₁ m 1 #[vR a1, vR a2, .val .null, .unset, .unset] [iR a1]
    refine st1 _ ?_
    show SA T1 m 4 #[vR a1, vR a2, .val .null, .unset, .unset] []
    refine XS.aloadN X1.here hx rfl (hb hby d23_4) rfl rfl ?_
    show SA T1 m 5 #[vR a1, vR a2, .val .null, .unset, .unset] [iR a2]
    refine st2.trans ?_
    show SA T2 m 8 #[vR a1, vR a2, .val .null, .unset, .unset] [iR b]
    refine XS.astoreN X2.here hx rfl (hb hby d23_8) rfl rfl (l' := #[vR a1, vR a2, .val .null, vR b, .unset]) rfl ?_
    show SA T2 m 9 #[vR a1, vR a2, .val .null, vR b, .unset] []
    refine XS.aloadN X2.here hx rfl (hb hby d23_9) rfl rfl ?_
    show SA T2 m 10 #[vR a1, vR a2, .val .null, vR b, .unset] [iR a2]
    refine st3.trans ?_
    show SA T3 m 13 #[vR a1, vR a2, .val .null, vR b, .unset] [iI n]
    refine XS.istore X3.here hx rfl (hb hby d23_13) rfl (l' := #[vR a1, vR a2, .val .null, vR b, vI n]) rfl ?_
    show SA T3 m 15 #[vR a1, vR a2, .val .null, vR b, vI n] []
    refine XS.aloadN X3.here hx rfl (hb hby d23_15) rfl rfl ?_
    show SA T3 m 16 #[vR a1, vR a2, .val .null, vR b, vI n] [iR a2]
    refine st4.trans ?_
    show SA T4 m 19 #[vR a1, vR a2, .val .null, vR b, vI n] [iI 1]
    refine XS.ifNo X4.here hx rfl (hb hby d23_19) rfl ((if0 _ _).trans (feq (by decide : ¬ ((1 : Int32) = (0 : Int32)))).1) ?_
    show SA T4 m 22 #[vR a1, vR a2, .val .null, vR b, vI n] []
    refine XS.aloadN X4.here hx rfl (hb hby d23_22) rfl rfl ?_
    show SA T4 m 23 #[vR a1, vR a2, .val .null, vR b, vI n] [iR a1]
    refine XS.iconst X4.here hx rfl (hb hby d23_23) ?_
    show SA T4 m 24 #[vR a1, vR a2, .val .null, vR b, vI n] [iI 0, iR a1]
    refine st5 _ ?_
    show SA T5 m 27 #[vR a1, vR a2, .val .null, vR b, vI n] []
    refine XS.aloadN X5.here hx rfl (hb hby d23_27) rfl rfl ?_
    show SA T5 m 28 #[vR a1, vR a2, .val .null, vR b, vI n] [iR a1]
    refine XS.aloadN X5.here hx rfl (hb hby d23_28) rfl rfl ?_
    show SA T5 m 29 #[vR a1, vR a2, .val .null, vR b, vI n] [iR b, iR a1]
    refine XS.iconst X5.here hx rfl (hb hby d23_29) ?_
    show SA T5 m 30 #[vR a1, vR a2, .val .null, vR b, vI n] [iI 0, iR b, iR a1]
    refine XS.iload X5.here hx rfl (hb hby d23_30) rfl ?_
    show SA T5 m 32 #[vR a1, vR a2, .val .null, vR b, vI n] [iI n, iI 0, iR b, iR a1]
    refine st6 _ ?_
    show SA T6 m 35 #[vR a1, vR a2, .val .null, vR b, vI n] [iR d6, iR a1]
    refine st13 _ ?_
    show SA T13 m 38 #[vR a1, vR a2, .val .null, vR b, vI n] []
    refine XS.goto X13.here hx rfl (pc0 := 38) (pc' := 97) rfl (hb hby d23_38) (by decide) (by decide) ?_
    show Steps _ _ _ (T13.setTop (mkF m 97 #[vR a1, vR a2, .val .null, vR b, vI n] [])) _
    exact X13.returnOut hx Bd.returns (hb hby d23_97) hr
  · show Q23 Z a1 a2 b kb cap A n cs h0 n0 _ T13.heap _
    rw [e13]
    exact ⟨_, _, rfl, N13, K13, fk14, fk15, Fw13, fk16, sz_d6⟩
theorem d22_0 : decode jdk_42_method_53_code 0 = .ok (.aload_n 0, 1) := by decide +kernel
theorem d22_1 : decode jdk_42_method_53_code 1 = .ok (.aload_n 1, 1) := by decide +kernel
theorem d22_2 : decode jdk_42_method_53_code 2 = .ok (.aconst_null, 1) := by decide +kernel
theorem d22_3 : decode jdk_42_method_53_code 3 = .ok (.invokespecial 489, 3) := by decide +kernel
theorem d22_6 : decode jdk_42_method_53_code 6 = .ok (.return_, 1) := by decide +kernel
theorem ef_22 (m : MethodId) (x0 : Addr) (x1 : Addr) : entryFrame m #[(.ref x0), (.ref x1)] 2 = mkF m 0 #[.val (.ref x0), .val (.ref x1)] [] := by first | (simp [entryFrame, mkF, argsToLocals, Value.category]; done) | rfl
def Q22 (Z : State) (a1 : Addr) (a2 : Addr) (b : Addr) (kb : ClassId) (cap : Int32) (A : List Int32) (n : Int32) (cs : Int32) (h0 : Heap) (n0 : Nat) (v : Option Value) (h : Heap) (L : List Loc) : Prop := ∃ (o : Addr) (ko : ClassId), v = none ∧ Fr n0 L ∧ Keep h0 h [a1] ∧ Exa Z h a1 "java/lang/String" ∧ Fld Z h a1 "java/lang/String" "coder" "B" (.int (0 : Int32)) ∧ Fld Z h a1 "java/lang/String" "value" "[B" (.ref o) ∧ Arv Z h o ko .byte n (own_bs A) (.int (0 : Int32)) ∧ h0.size ≤ o
theorem rm22 (l : Launch) (Z : State) (a0 : Array Value) (hw : ∀ d ∈ tables_1, d.before a0 Z = true) (ws : List Jvm.Cond) (a1 : Addr) (a2 : Addr) (b : Addr) (kb : ClassId) (cap : Int32) (A : List Int32) (n : Int32) (cs : Int32) (h0 : Heap) (n0 : Nat) (Z0 : n0 ≤ h0.size) (O0 : Old Z n0 h0) (E_a1 : Exa Z h0 a1 "java/lang/String") (g_a1 : n0 ≤ a1) (H_v : Fld Z h0 a1 "java/lang/String" "value" "[B" .null) (H_c : Fld Z h0 a1 "java/lang/String" "coder" "B" (.int (0 : Int32))) (ne_a1_a2 : a1 ≠ a2) (ne_a1_b : a1 ≠ b) (E_a2 : Exa Z h0 a2 "java/lang/StringBuilder") (Gv_a2 : Fld Z h0 a2 "java/lang/AbstractStringBuilder" "value" "[B" (.ref b)) (Gc_a2 : Fld Z h0 a2 "java/lang/AbstractStringBuilder" "coder" "B" (.int (0 : Int32))) (V_b : Arv Z h0 b kb .byte cap (own_bs A) (.int (0 : Int32))) (Gn_a2 : Fld Z h0 a2 "java/lang/AbstractStringBuilder" "count" "I" (.int n)) (hn : ¬ n < 0) (hl : ¬ cap < n) (hm : n.toNatClampNeg ≤ 16) (hA : n.toNatClampNeg = A.length) (E_b : Exa Z h0 b "[B") (S_CS : Sta Z Z.heap "java/lang/String" "COMPACT_STRINGS" "Z" (.int cs)) (h_cs : ¬ cs = (0 : Int32)) :
    MetFree l mn_33 (head1 (Jvm.Cond.code mn_33 jdk_42_method_53_code 2 none :: ws) ({ frames := 4, cells := 1, slots := 16, locals := 65 } : Room)) (fun a U => a = #[(.ref a1), (.ref a2)] ∧ Z.Warmed39 U.vm ∧ U.heap = h0) (fun _ _ _ _ _ => True) (fun _ U o U' => ∃ v L, o = .returned v ∧ Q22 Z a1 a2 b kb cap A n cs h0 n0 v U'.heap L ∧ FrameEnd U o U' L ({ frames := 4, cells := 1, slots := 16, locals := 65 } : Room).cells ({ frames := 4, cells := 1, slots := 16, locals := 65 } : Room).slots) := by
  refine MetFree.of_bodySF (plainFor_of_name pn_0) hisR ?_
  intro p e s m args below meth c s₁ Bd hml0 hP hK
  obtain ⟨rfl, hZ, hh⟩ := hP
  have hx := Bd.exec
  have hby := Bd.bytes
  have hml : c.maxLocals = 2 := hml0
  have hown : s.vm.findClass "java/lang/String" = some m.cls := findClass_of_methodNamed Bd.named
  have hnm := (name_of_methodNamed Bd.named Bd.method).1
  have X0 : Stand p l e ({ frames := 4, cells := 1, slots := 16, locals := 65 } : Room) s m #[(.ref a1), (.ref a2)] below meth c s₁ [] 0 0 := Stand.of_body Bd
  have e0 : s₁.heap = h0 := by rw [← hh, Bd.state]; rfl
  have N0 := Fr.nil n0
  have K0 := Keep.refl h0 [a1]
  have pre0 : ∀ t, Steps p.tables e below (s₁.setTop (mkF m 0 #[.val (.ref a1), .val (.ref a2)] [])) t → Steps p.tables e below (s₁.setTop (entryFrame m #[(.ref a1), (.ref a2)] 2)) t := fun t k => castTop (ef_22 m a1 a2) k
  obtain ⟨_, _, ⟨T1, L1, k1, n1⟩, -, X1, ⟨Lc1, hQ1, l1, y1, z1⟩, st1⟩ := X0.specialBack hx (y := mn_32) rfl hown (mvT hZ (ww hw 129 rfl)) (mvT hZ (ww hw 130 rfl)) (mvT hZ (ww hw 131 rfl)) (by decide) (backOf (W := 0) (rm23 l Z a0 hw [] a1 a2 b kb cap A n cs h0 n0 (Nat.le_trans Z0 K0.1) O0 E_a1 g_a1 H_v H_c ne_a1_a2 ne_a1_b E_a2 Gv_a2 Gc_a2 V_b Gn_a2 hn hl hm hA E_b S_CS h_cs) hZ (ww hw 131 rfl) (ww hw 52 rfl) (by decide) (by decide)) (g := (mkF m 3 #[vR a1, vR a2] [.null, iR a2, iR a1])) rfl (by rw [hml]; rfl) (Steps.refl _) (a := a1) (argsL := [(.ref a2), .null]) (rest := []) (lenOf pd_22 rfl) rfl (wz rfl) (hb hby d22_3) (fun _ _ => ⟨rfl, e0, (by decide : 0 + 1 ≤ _), (by decide : 0 + 16 ≤ _)⟩)
  dsimp only [Pt.U, Pt.locs, Pt.cells, Pt.slots] at X1 l1 y1 z1 st1 hQ1
  subst l1 y1 z1
  obtain ⟨d1, kd1, rfl, N1q, K1q, E1q, C1q, F1q, V1q, z_d1⟩ := hQ1
  have ne_a1_d1 : a1 ≠ d1 := Nat.ne_of_lt (Nat.lt_of_lt_of_le E_a1.lt z_d1)
  have ne_a2_d1 : a2 ≠ d1 := Nat.ne_of_lt (Nat.lt_of_lt_of_le E_a2.lt z_d1)
  have ne_b_d1 : b ≠ d1 := Nat.ne_of_lt (Nat.lt_of_lt_of_le V_b.lt z_d1)
  have sz_d1 : h0.size ≤ d1 := Nat.le_trans K0.1 z_d1
  have g_d1 : n0 ≤ d1 := Nat.le_trans Z0 sz_d1
  have N1 := Fr.app N0 N1q
  have K1 : Keep h0 T1.heap [a1] := Keep.trans K0 K1q (allS (Or.inl (List.mem_of_getElem? (i := 0) rfl)) all0)
  obtain ⟨fs, hr, hrun, hended, hW, hsame⟩ := X1.leave (v := none) (fun _ => rfl)
  refine ⟨_, _, pre0 _ ?_, hrun, hended, _, _, rfl, ?_, ⟨_, rfl⟩, hW, hsame.mono (by decide) (by decide)⟩
  · show SA s₁ m 0 #[vR a1, vR a2] []
    refine XS.aloadN X0.here hx rfl (hb hby d22_0) rfl rfl ?_
    show SA s₁ m 1 #[vR a1, vR a2] [iR a1]
    refine XS.aloadN X0.here hx rfl (hb hby d22_1) rfl rfl ?_
    show SA s₁ m 2 #[vR a1, vR a2] [iR a2, iR a1]
    refine XS.aconstNull X0.here hx rfl (hb hby d22_2) ?_
    show SA s₁ m 3 #[vR a1, vR a2] [.null, iR a2, iR a1]
    refine st1.trans ?_
    show Steps _ _ _ (T1.setTop (mkF m 6 #[vR a1, vR a2] [])) _
    exact X1.returnOut hx Bd.returns (hb hby d22_6) hr
  · show Q22 Z a1 a2 b kb cap A n cs h0 n0 _ T1.heap _
    exact ⟨_, _, rfl, N1, K1, E1q, C1q, F1q, V1q, sz_d1⟩
theorem d21_0 : decode jdk_67_method_42_code 0 = .ok (.new 18, 3) := by decide +kernel
theorem d21_3 : decode jdk_67_method_42_code 3 = .ok (.dup, 1) := by decide +kernel
theorem d21_4 : decode jdk_67_method_42_code 4 = .ok (.aload_n 0, 1) := by decide +kernel
theorem d21_5 : decode jdk_67_method_42_code 5 = .ok (.invokespecial 137, 3) := by decide +kernel
theorem d21_8 : decode jdk_67_method_42_code 8 = .ok (.areturn, 1) := by decide +kernel
theorem ef_21 (m : MethodId) (x0 : Addr) : entryFrame m #[(.ref x0)] 1 = mkF m 0 #[.val (.ref x0)] [] := by first | (simp [entryFrame, mkF, argsToLocals, Value.category]; done) | rfl
def Q21 (Z : State) (a1 : Addr) (b : Addr) (kb : ClassId) (cap : Int32) (A : List Int32) (n : Int32) (cs : Int32) (h0 : Heap) (n0 : Nat) (v : Option Value) (h : Heap) (L : List Loc) : Prop := ∃ (o d : Addr) (ko : ClassId), v = some (.ref o) ∧ Fr n0 L ∧ Keep h0 h [] ∧ Exa Z h o "java/lang/String" ∧ Fld Z h o "java/lang/String" "coder" "B" (.int (0 : Int32)) ∧ Fld Z h o "java/lang/String" "value" "[B" (.ref d) ∧ Arv Z h d ko .byte n (own_bs A) (.int (0 : Int32)) ∧ h0.size ≤ o ∧ h0.size ≤ d
theorem rm21 (l : Launch) (Z : State) (a0 : Array Value) (hw : ∀ d ∈ tables_1, d.before a0 Z = true) (ws : List Jvm.Cond) (a1 : Addr) (b : Addr) (kb : ClassId) (cap : Int32) (A : List Int32) (n : Int32) (cs : Int32) (h0 : Heap) (n0 : Nat) (Z0 : n0 ≤ h0.size) (O0 : Old Z n0 h0) (E_a1 : Exa Z h0 a1 "java/lang/StringBuilder") (Gv_a1 : Fld Z h0 a1 "java/lang/AbstractStringBuilder" "value" "[B" (.ref b)) (Gc_a1 : Fld Z h0 a1 "java/lang/AbstractStringBuilder" "coder" "B" (.int (0 : Int32))) (V_b : Arv Z h0 b kb .byte cap (own_bs A) (.int (0 : Int32))) (Gn_a1 : Fld Z h0 a1 "java/lang/AbstractStringBuilder" "count" "I" (.int n)) (hn : ¬ n < 0) (hl : ¬ cap < n) (hm : n.toNatClampNeg ≤ 16) (hA : n.toNatClampNeg = A.length) (E_b : Exa Z h0 b "[B") (S_CS : Sta Z Z.heap "java/lang/String" "COMPACT_STRINGS" "Z" (.int cs)) (h_cs : ¬ cs = (0 : Int32)) :
    MetFree l mn_34 (head1 (Jvm.Cond.code mn_34 jdk_67_method_42_code 1 (some (.object "java/lang/String")) :: ws) ({ frames := 5, cells := 2, slots := 20, locals := 79 } : Room)) (fun a U => a = #[(.ref a1)] ∧ Z.Warmed39 U.vm ∧ U.heap = h0) (fun _ _ _ _ _ => True) (fun _ U o U' => ∃ v L, o = .returned v ∧ Q21 Z a1 b kb cap A n cs h0 n0 v U'.heap L ∧ FrameEnd U o U' L ({ frames := 5, cells := 2, slots := 20, locals := 79 } : Room).cells ({ frames := 5, cells := 2, slots := 20, locals := 79 } : Room).slots) := by
  refine MetFree.of_bodySF (plainFor_of_name pn_7) hisR ?_
  intro p e s m args below meth c s₁ Bd hml0 hP hK
  obtain ⟨rfl, hZ, hh⟩ := hP
  have hx := Bd.exec
  have hby := Bd.bytes
  have hml : c.maxLocals = 1 := hml0
  have hown : s.vm.findClass "java/lang/StringBuilder" = some m.cls := findClass_of_methodNamed Bd.named
  have hnm := (name_of_methodNamed Bd.named Bd.method).1
  have X0 : Stand p l e ({ frames := 5, cells := 2, slots := 20, locals := 79 } : Room) s m #[(.ref a1)] below meth c s₁ [] 0 0 := Stand.of_body Bd
  have e0 : s₁.heap = h0 := by rw [← hh, Bd.state]; rfl
  have N0 := Fr.nil n0
  have K0 := Keep.refl h0 []
  have pre0 : ∀ t, Steps p.tables e below (s₁.setTop (mkF m 0 #[.val (.ref a1)] [])) t → Steps p.tables e below (s₁.setTop (entryFrame m #[(.ref a1)] 1)) t := fun t k => castTop (ef_21 m a1) k
  obtain ⟨T1, h1, X1, e1, E1, A1, D1, -, st1⟩ := newO X0 hx hZ hown (ww hw 124 rfl) (ww hw 64 rfl) (ww hw 52 rfl) e0 (g := (mkF m 0 #[vR a1] [])) rfl (hb hby d21_0) (by decide) (by decide)
  obtain ⟨b1, g1⟩ : ∃ z, z = h0.size := ⟨_, rfl⟩
  rw [← g1] at A1 D1 st1
  have ne_a1_b1 : a1 ≠ b1 := Nat.ne_of_lt (Nat.lt_of_lt_of_le E_a1.lt (Nat.le_of_eq g1.symm))
  have ne_b_b1 : b ≠ b1 := Nat.ne_of_lt (Nat.lt_of_lt_of_le V_b.lt (Nat.le_of_eq g1.symm))
  have sz_b1 : h0.size ≤ b1 := Nat.le_trans K0.1 (Nat.le_of_eq g1.symm)
  have g_b1 : n0 ≤ b1 := Nat.le_trans Z0 sz_b1
  have K1 : Keep h0 h1 [] := K0.ext E1
  have F_value_b1 : Fld Z h1 b1 "java/lang/String" "value" "[B" .null := D1 (Or.inr (ww hw 65 rfl)) (ty := (.array .byte)) (by decide)
  have F_coder_b1 : Fld Z h1 b1 "java/lang/String" "coder" "B" (.int (0 : Int32)) := D1 (Or.inr (ww hw 66 rfl)) (ty := .byte) (by decide)
  have fk3 := (E_a1.ext E1)
  have fk4 := (Gv_a1.ext E1)
  have fk5 := (Gc_a1.ext E1)
  have fk6 := (V_b.ext E1)
  have fk7 := (Gn_a1.ext E1)
  have fk8 := (E_b.ext E1)
  have Oh9 := O0.keep K1 all0
  obtain ⟨_, _, ⟨T2, L2, k2, n2⟩, -, X2, ⟨Lc2, hQ2, l2, y2, z2⟩, st2⟩ := X1.specialBack hx (y := mn_33) rfl hown (mvT hZ (ww hw 125 rfl)) (mvT hZ (ww hw 126 rfl)) (mvT hZ (ww hw 128 rfl)) (by decide) (backOf (W := 1) (rm22 l Z a0 hw [] b1 a1 b kb cap A n cs h1 n0 (Nat.le_trans Z0 K1.1) Oh9 A1 g_b1 F_value_b1 F_coder_b1 (Ne.symm ne_a1_b1) (Ne.symm ne_b_b1) fk3 fk4 fk5 fk6 fk7 hn hl hm hA fk8 S_CS h_cs) hZ (ww hw 128 rfl) (ww hw 52 rfl) (by decide) (by decide)) (g := (mkF m 5 #[vR a1] [iR a1, iR b1, iR b1])) rfl (by rw [hml]; rfl) (Steps.refl _) (a := b1) (argsL := [(.ref a1)]) (rest := [(.ref b1)]) (lenOf pd_23 rfl) rfl (wz rfl) (hb hby d21_5) (fun _ _ => ⟨rfl, e1, (by decide : 1 + 1 ≤ _), (by decide : 4 + 16 ≤ _)⟩)
  dsimp only [Pt.U, Pt.locs, Pt.cells, Pt.slots] at X2 l2 y2 z2 st2 hQ2
  subst l2 y2 z2
  obtain ⟨d2, kd2, rfl, N2q, K2q, E2q, C2q, F2q, V2q, z_d2⟩ := hQ2
  have ne_a1_d2 : a1 ≠ d2 := Nat.ne_of_lt (Nat.lt_of_lt_of_le fk3.lt z_d2)
  have ne_b_d2 : b ≠ d2 := Nat.ne_of_lt (Nat.lt_of_lt_of_le fk6.lt z_d2)
  have ne_b1_d2 : b1 ≠ d2 := Nat.ne_of_lt (Nat.lt_of_lt_of_le A1.lt z_d2)
  have sz_d2 : h0.size ≤ d2 := Nat.le_trans K1.1 z_d2
  have g_d2 : n0 ≤ d2 := Nat.le_trans Z0 sz_d2
  have N2 := Fr.app N0 N2q
  have K2 : Keep h0 T2.heap [] := Keep.trans K1 K2q (allS (Or.inr sz_b1) all0)
  obtain ⟨fs, hr, hrun, hended, hW, hsame⟩ := X2.leave (v := some (.ref b1)) (fun h => by rw [Bd.returns] at h; cases h)
  refine ⟨_, _, pre0 _ ?_, hrun, hended, _, _, rfl, ?_, ⟨_, rfl⟩, hW, hsame.mono (by decide) (by decide)⟩
  · show SA s₁ m 0 #[vR a1] []
    refine st1 _ ?_
    show SA T1 m 3 #[vR a1] [iR b1]
    refine XS.dup X1.here hx rfl (hb hby d21_3) rfl rfl ?_
    show SA T1 m 4 #[vR a1] [iR b1, iR b1]
    refine XS.aloadN X1.here hx rfl (hb hby d21_4) rfl rfl ?_
    show SA T1 m 5 #[vR a1] [iR a1, iR b1, iR b1]
    refine st2.trans ?_
    show Steps _ _ _ (T2.setTop (mkF m 8 #[vR a1] [iR b1])) _
    jvm_step X2.here [X2.here.top, hx, (hb hby d21_8), X2.method', Bd.returns, Value.isRef, FieldType.isReference]
    first | (intro acts; rw [hr _ acts rfl rfl rfl]) | rw [hr _ _ rfl rfl rfl]
    exact Steps.refl _
  · show Q21 Z a1 b kb cap A n cs h0 n0 _ T2.heap _
    exact ⟨_, _, _, rfl, N2, K2, E2q, C2q, F2q, V2q, sz_b1, sz_d2⟩
theorem d32_0 : decode jdk_42_method_152_code 0 = .ok (.getstatic 38, 3) := by decide +kernel
theorem d32_3 : decode jdk_42_method_152_code 3 = .ok (.ifCond .eq 10, 3) := by decide +kernel
theorem d32_6 : decode jdk_42_method_152_code 6 = .ok (.aload_n 0, 1) := by decide +kernel
theorem d32_7 : decode jdk_42_method_152_code 7 = .ok (.getfield 15, 3) := by decide +kernel
theorem d32_10 : decode jdk_42_method_152_code 10 = .ok (.goto 4, 3) := by decide +kernel
theorem d32_14 : decode jdk_42_method_152_code 14 = .ok (.ireturn, 1) := by decide +kernel
theorem ef_32 (m : MethodId) (x0 : Addr) : entryFrame m #[(.ref x0)] 1 = mkF m 0 #[.val (.ref x0)] [] := by first | (simp [entryFrame, mkF, argsToLocals, Value.category]; done) | rfl
def Q32 (Z : State) (a1 : Addr) (cs : Int32) (h0 : Heap) (v : Option Value) (h : Heap) (L : List Loc) : Prop := v = some (.int (0 : Int32)) ∧ L = [] ∧ h = h0
theorem rm32 (l : Launch) (Z : State) (a0 : Array Value) (hw : ∀ d ∈ tables_1, d.before a0 Z = true) (ws : List Jvm.Cond) (a1 : Addr) (cs : Int32) (h0 : Heap) (n0 : Nat) (O0 : Old Z n0 h0) (Fc_a1 : Fld Z h0 a1 "java/lang/String" "coder" "B" (.int (0 : Int32))) (S_CS : Sta Z Z.heap "java/lang/String" "COMPACT_STRINGS" "Z" (.int cs)) (h_cs : ¬ cs = (0 : Int32)) :
    MetFree l mn_35 (head1 (Jvm.Cond.code mn_35 jdk_42_method_152_code 1 (some .byte) :: ws) ({ frames := 0, cells := 0, slots := 0, locals := 0 } : Room)) (fun a U => a = #[(.ref a1)] ∧ Z.Warmed39 U.vm ∧ U.heap = h0) (fun _ _ _ _ _ => True) (fun _ U o U' => ∃ v L, o = .returned v ∧ Q32 Z a1 cs h0 v U'.heap L ∧ FrameEnd U o U' L ({ frames := 0, cells := 0, slots := 0, locals := 0 } : Room).cells ({ frames := 0, cells := 0, slots := 0, locals := 0 } : Room).slots) := by
  refine MetFree.of_bodySF (plainFor_of_name pn_0) hisR ?_
  intro p e s m args below meth c s₁ Bd hml0 hP hK
  obtain ⟨rfl, hZ, hh⟩ := hP
  have hx := Bd.exec
  have hby := Bd.bytes
  have hml : c.maxLocals = 1 := hml0
  have hown : s.vm.findClass "java/lang/String" = some m.cls := findClass_of_methodNamed Bd.named
  have hnm := (name_of_methodNamed Bd.named Bd.method).1
  have X0 : Stand p l e ({ frames := 0, cells := 0, slots := 0, locals := 0 } : Room) s m #[(.ref a1)] below meth c s₁ [] 0 0 := Stand.of_body Bd
  have e0 : s₁.heap = h0 := by rw [← hh, Bd.state]; rfl
  have pre0 : ∀ t, Steps p.tables e below (s₁.setTop (mkF m 0 #[.val (.ref a1)] [])) t → Steps p.tables e below (s₁.setTop (entryFrame m #[(.ref a1)] 1)) t := fun t k => castTop (ef_32 m a1) k
  obtain ⟨T1, X1, e1, st1⟩ := getS2 X0 hx hZ hown (host := "") (Or.inl (ww hw 79 rfl)) Via.refl e0 (S_CS.ext O0.2) (g := (mkF m 0 #[vR a1] [])) rfl (hb hby d32_0)
  obtain ⟨T2, X2, e2, st2⟩ := getF X1 hx hZ hown (host := "") (Or.inl (ww hw 80 rfl)) Via.refl e1 Fc_a1 (g := (mkF m 7 #[vR a1] [iR a1])) rfl rfl (hb hby d32_7)
  obtain ⟨fs, hr, hrun, hended, hW, hsame⟩ := X2.leave (v := some (.int (0 : Int32))) (fun h => by rw [Bd.returns] at h; cases h)
  refine ⟨_, _, pre0 _ ?_, hrun, hended, _, _, rfl, ?_, ⟨_, rfl⟩, hW, hsame.mono (by decide) (by decide)⟩
  · show SA s₁ m 0 #[vR a1] []
    refine st1 _ ?_
    show SA T1 m 3 #[vR a1] [iI cs]
    refine XS.ifNo X1.here hx rfl (hb hby d32_3) rfl ((if0 _ _).trans (feq h_cs).1) ?_
    show SA T1 m 6 #[vR a1] []
    refine XS.aloadN X1.here hx rfl (hb hby d32_6) rfl rfl ?_
    show SA T1 m 7 #[vR a1] [iR a1]
    refine st2 _ ?_
    show SA T2 m 10 #[vR a1] [iI 0]
    refine XS.goto X2.here hx rfl (pc0 := 10) (pc' := 14) rfl (hb hby d32_10) (by decide) (by decide) ?_
    show Steps _ _ _ (T2.setTop (mkF m 14 #[vR a1] [iI 0])) _
    exact retN X2 hx (t := .byte) Bd.returns (by simp) (hb hby d32_14) hr
  · show Q32 Z a1 cs h0 _ T2.heap _
    rw [e2]
    exact ⟨rfl, rfl, rfl⟩
theorem d31_0 : decode jdk_42_method_54_code 0 = .ok (.aload_n 0, 1) := by decide +kernel
theorem d31_1 : decode jdk_42_method_54_code 1 = .ok (.getfield 9, 3) := by decide +kernel
theorem d31_4 : decode jdk_42_method_54_code 4 = .ok (.arraylength, 1) := by decide +kernel
theorem d31_5 : decode jdk_42_method_54_code 5 = .ok (.aload_n 0, 1) := by decide +kernel
theorem d31_6 : decode jdk_42_method_54_code 6 = .ok (.invokevirtual 335, 3) := by decide +kernel
theorem d31_9 : decode jdk_42_method_54_code 9 = .ok (.ishr, 1) := by decide +kernel
theorem d31_10 : decode jdk_42_method_54_code 10 = .ok (.ireturn, 1) := by decide +kernel
theorem ef_31 (m : MethodId) (x0 : Addr) : entryFrame m #[(.ref x0)] 1 = mkF m 0 #[.val (.ref x0)] [] := by first | (simp [entryFrame, mkF, argsToLocals, Value.category]; done) | rfl
def Q31 (Z : State) (a1 : Addr) (d : Addr) (kd : ClassId) (z : Int32) (B : List Int32) (cs : Int32) (h0 : Heap) (v : Option Value) (h : Heap) (L : List Loc) : Prop := v = some (.int z) ∧ L = [] ∧ h = h0
theorem rm31 (l : Launch) (Z : State) (a0 : Array Value) (hw : ∀ d ∈ tables_1, d.before a0 Z = true) (ws : List Jvm.Cond) (a1 : Addr) (d : Addr) (kd : ClassId) (z : Int32) (B : List Int32) (cs : Int32) (h0 : Heap) (n0 : Nat) (O0 : Old Z n0 h0) (E_a1 : Exa Z h0 a1 "java/lang/String") (Fc_a1 : Fld Z h0 a1 "java/lang/String" "coder" "B" (.int (0 : Int32))) (Fv_a1 : Fld Z h0 a1 "java/lang/String" "value" "[B" (.ref d)) (V_d : Arv Z h0 d kd .byte z (own_bs B) (.int (0 : Int32))) (hz : ¬ z < 0) (hB : z.toNatClampNeg = B.length) (S_CS : Sta Z Z.heap "java/lang/String" "COMPACT_STRINGS" "Z" (.int cs)) (h_cs : ¬ cs = (0 : Int32)) :
    MetFree l mn_36 (head1 (Jvm.Cond.code mn_36 jdk_42_method_54_code 1 (some .int) :: ws) ({ frames := 1, cells := 0, slots := 0, locals := 13 } : Room)) (fun a U => a = #[(.ref a1)] ∧ Z.Warmed39 U.vm ∧ U.heap = h0) (fun _ _ _ _ _ => True) (fun _ U o U' => ∃ v L, o = .returned v ∧ Q31 Z a1 d kd z B cs h0 v U'.heap L ∧ FrameEnd U o U' L ({ frames := 1, cells := 0, slots := 0, locals := 13 } : Room).cells ({ frames := 1, cells := 0, slots := 0, locals := 13 } : Room).slots) := by
  refine MetFree.of_bodySF (plainFor_of_name pn_0) hisR ?_
  intro p e s m args below meth c s₁ Bd hml0 hP hK
  obtain ⟨rfl, hZ, hh⟩ := hP
  have hx := Bd.exec
  have hby := Bd.bytes
  have hml : c.maxLocals = 1 := hml0
  have hown : s.vm.findClass "java/lang/String" = some m.cls := findClass_of_methodNamed Bd.named
  have hnm := (name_of_methodNamed Bd.named Bd.method).1
  have X0 : Stand p l e ({ frames := 1, cells := 0, slots := 0, locals := 13 } : Room) s m #[(.ref a1)] below meth c s₁ [] 0 0 := Stand.of_body Bd
  have e0 : s₁.heap = h0 := by rw [← hh, Bd.state]; rfl
  have pre0 : ∀ t, Steps p.tables e below (s₁.setTop (mkF m 0 #[.val (.ref a1)] [])) t → Steps p.tables e below (s₁.setTop (entryFrame m #[(.ref a1)] 1)) t := fun t k => castTop (ef_31 m a1) k
  obtain ⟨T1, X1, e1, st1⟩ := getF X0 hx hZ hown (host := "") (Or.inl (ww hw 81 rfl)) Via.refl e0 Fv_a1 (g := (mkF m 1 #[vR a1] [iR a1])) rfl rfl (hb hby d31_1)
  obtain ⟨cl2, Ar2, q2, S2, M2, H2, G2⟩ := id V_d
  obtain ⟨cq3, kq3, q3a, q3b, q3c⟩ := isOf hZ e1 E_a1
  obtain ⟨_, _, ⟨T3, L3, k3, n3⟩, -, X3, ⟨Lc3, hQ3, l3, y3, z3⟩, st3⟩ := X1.virtualBack hx (y := mn_35) (z := mn_35) hown (mvT hZ (ww hw 170 rfl)) (mvT hZ (ww hw 171 rfl)) (notFace_of_selects (args := #[]) (mvT hZ (ww hw 173 rfl))) (mvT hZ (ww hw 173 rfl)) (mvT hZ (ww hw 172 rfl)) (by decide) (backOf (W := 1) (rm32 l Z a0 hw [] a1 cs h0 n0 O0 Fc_a1 S_CS h_cs) hZ (ww hw 174 rfl) (ww hw 52 rfl) (by decide) (by decide)) q3a q3c (g := (mkF m 6 #[vR a1] [iR a1, iI z])) rfl (by rw [hml]; rfl) (Steps.refl _) (argsL := []) (rest := [(.int z)]) (lenOf pd_24 rfl) rfl (wz rfl) (hb hby d31_6) (fun _ _ => ⟨rfl, e1, (by decide : 0 + 0 ≤ _), (by decide : 0 + 0 ≤ _)⟩)
  dsimp only [Pt.U, Pt.locs, Pt.cells, Pt.slots] at X3 l3 y3 z3 st3 hQ3
  subst l3 y3 z3
  obtain ⟨rfl, rfl, e3⟩ := hQ3
  try rw [List.append_nil] at X3
  obtain ⟨fs, hr, hrun, hended, hW, hsame⟩ := X3.leave (v := some (.int (z >>> ((0 : Int32) &&& 31)))) (fun h => by rw [Bd.returns] at h; cases h)
  refine ⟨_, _, pre0 _ ?_, hrun, hended, _, _, rfl, ?_, ⟨_, rfl⟩, hW, hsame.mono (by decide) (by decide)⟩
  · show SA s₁ m 0 #[vR a1] []
    refine XS.aloadN X0.here hx rfl (hb hby d31_0) rfl rfl ?_
    show SA s₁ m 1 #[vR a1] [iR a1]
    refine st1 _ ?_
    show SA T1 m 4 #[vR a1] [iR d]
    refine X1.arraylength hx (by rw [e1]; exact Ar2.1) (State.isArrayOf_alike hZ.alike Ar2.2.1) (g := (mkF m 4 #[vR a1] [iR d])) rfl rfl (hb hby d31_4) _ ?_
    rw [len_of S2 M2]
    show SA T1 m 5 #[vR a1] [iI z]
    refine XS.aloadN X1.here hx rfl (hb hby d31_5) rfl rfl ?_
    show SA T1 m 6 #[vR a1] [iR a1, iI z]
    refine st3.trans ?_
    show SA T3 m 9 #[vR a1] [iI 0, iI z]
    refine XS.ishr X3.here hx rfl (hb hby d31_9) rfl ?_
    show Steps _ _ _ (T3.setTop (mkF m 10 #[vR a1] [iI (z >>> ((0 : Int32) &&& 31))])) _
    exact retI X3 hx Bd.returns (hb hby d31_10) hr
  · show Q31 Z a1 d kd z B cs h0 _ T3.heap _
    rw [e3]
    exact ⟨by rw [own_shr0], rfl, rfl⟩
theorem own_strAtoms {a0 : Array Value} {Z : State} (hw : ∀ d ∈ tables_1, d.before a0 Z = true) : ∀ a ∈ Bundle.stringAtoms, a.before a0 Z = true := by
  intro a ha
  simp only [Bundle.stringAtoms, List.mem_cons, List.not_mem_nil, or_false] at ha
  rcases ha with rfl | rfl | rfl | rfl | rfl | rfl | rfl
  · exact (ww hw 52 rfl)
  · exact (ww hw 64 rfl)
  · exact (ww hw 53 rfl)
  · exact (ww hw 65 rfl)
  · exact (ww hw 66 rfl)
  · exact (ww hw 67 rfl)
  · exact (ww hw 68 rfl)
theorem own_ct0 : (∀ c ∈ ("0123456789.-eE+" : String).toList, c.toNat < 256) ∧ ("0123456789.-eE+" : String).toList.map (fun c => Value.int (Jvm.Lit.byteI c.toNat.toUInt16)) = own_bs [(48 : Int32), (49 : Int32), (50 : Int32), (51 : Int32), (52 : Int32), (53 : Int32), (54 : Int32), (55 : Int32), (56 : Int32), (57 : Int32), (46 : Int32), (45 : Int32), (101 : Int32), (69 : Int32), (43 : Int32)] := by
  first | exact ⟨by decide, rfl⟩ | exact ⟨by decide, by decide⟩ | (constructor <;> decide +kernel)
theorem own_EW {a0 : Array Value} {Z : State} (hw : ∀ d ∈ tables_1, d.before a0 Z = true) : EW Z a0 consts_1 := (EW.cons (ww hw 63 rfl) own_ct0.1 EW.nil)
theorem own_backS {p : Program} {l : Launch} {e : Env} {R : Room} {s : State} {args : Array Value} {below : List Frame} {Z : State} {a0 : Array Value} {EL : List (String × Nat)} {h : Heap} {vm0 : Vm} {y : MethodName} {bytes : ByteArray} {maxL : Nat} {ret : Option FieldType} {rm : Room} {len W : Nat} {as' : Array Value} {ws : List Addr} {Q : Option Value → Heap → List Loc → Prop}
    (hM : MetFree l y (head1 [Cond.code y bytes maxL ret] rm) (fun a U => a = as' ∧ Z.Warmed39 U.vm ∧ U.heap = h ∧ CHv Z EL U.vm h ∧ ∀ x ∈ ws, Safe Z EL U.vm h x) (fun _ _ _ _ _ => True) (fun _ U o U' => ∃ v L, o = .returned v ∧ Q v U'.heap L ∧ CHr Z EL U.vm U.heap U'.vm U'.heap ∧ ReturnedEndW U o U' L rm.cells rm.slots))
    (hZ : Z.Warmed39 vm0) (wc : (Cond.code y bytes maxL ret).before a0 Z = true) (wz : (Cond.initialized y.cls).before a0 Z = true) (hf : rm.frames + 1 ≤ R.frames) (hl : W + (maxL + 11) + rm.locals ≤ R.locals) (hEL : EW Z a0 EL) (H : CHv Z EL vm0 h) (hs : ∀ x ∈ ws, x < h.size ∧ Safe Z EL vm0 h x) :
    BackS l R p e below (s.setVm vm0) args y len W (fun A a => a = as' ∧ A.U.heap = h ∧ A.cells + rm.cells ≤ R.cells ∧ A.slots + rm.slots ≤ R.slots)
      (fun A _ v B => ∃ L, Q v B.U.heap L ∧ B.locs = A.locs ++ L ∧ B.cells = A.cells + rm.cells ∧ B.slots = A.slots + rm.slots ∧ CHr Z EL vm0 h B.U.vm B.U.heap) := by
  refine BackS.of_freeW (bytes := bytes) (maxL := maxL) (ret := ret) (E := fun _ u o t L k n => (k = rm.cells ∧ n = rm.slots) ∧ (∃ v, o = .returned v ∧ Q v t.heap L) ∧ CHr Z EL u.vm u.heap t.vm t.heap) hM hf hl ?_ ?_ (fun _ _ _ _ _ _ _ _ _ => trivial) ?_ ?_
  · intro m meth c A a Y hp
    have hU : Z.Warmed39 A.U.vm := wtrans (s := s.setVm vm0) hZ Y.warmed
    refine ⟨?_, mv hU wc, mv hU wz, hp.2.2.1, hp.2.2.2⟩
    show (Cond.and _ .tt).before a A.U = true
    rw [Cond.before_and, mv hU wc]; rfl
  · intro m meth c A a g mk Y hp
    have q := CHv.at Y hZ hEL H
    exact ⟨hp.1, wtrans (s := s.setVm vm0) hZ Y.warmed, hp.2.1, q.1, fun x hx => q.safe (hs x hx).1 (hs x hx).2⟩
  · intro a u o t ⟨v, L, h1, h2, h3, h4⟩
    exact ⟨L, _, _, h4, ⟨rfl, rfl⟩, ⟨v, h1, h2⟩, h3⟩
  · intro m meth c A a g mk v t L k n Y hp _ _ ⟨⟨e1, e2⟩, ⟨v', e3, e4⟩, e5⟩
    cases e3
    subst e1 e2
    have q := CHv.at Y hZ hEL H
    refine ⟨L, e4, rfl, rfl, rfl, q.trans ?_⟩
    rw [← hp.2.1]
    exact e5
def own_QA (Z : State) (a2 b : Addr) (kb : ClassId) (FL : List Int32) (h0 : Heap) (n0 : Nat) (v : Option Value) (h : Heap) (L : List Loc) : Prop := ∃ m : Int32, v = none ∧ Fr n0 L ∧ Keep h0 h [a2, b] ∧ Exa Z h a2 "java/lang/StringBuilder" ∧ Fld Z h a2 "java/lang/AbstractStringBuilder" "value" "[B" (.ref b) ∧ Fld Z h a2 "java/lang/AbstractStringBuilder" "coder" "B" (.int (0 : Int32)) ∧ Fld Z h a2 "java/lang/AbstractStringBuilder" "count" "I" (.int m) ∧ Arv Z h b kb .byte (16 : Int32) (own_bs FL) (.int (0 : Int32)) ∧ m.toInt = (FL.length : Int)
theorem own_ap {n : Int32} {l a : Nat} (hA : n.toInt = (a : Int)) (hl : a + (l + 1) ≤ 16) : ¬ n < 0 ∧ n.toNatClampNeg = a ∧ ¬ (n + (1 : Int32)) < 0 ∧ ¬ (16 : Int32) < (n + (1 : Int32)) ∧ n < (16 : Int32) ∧ (n + (1 : Int32)).toInt = ((a + 1 : Nat) : Int) := by
  have q := c_iadd n 1
  have r := rng32 (n + (1 : Int32))
  have e1 : (1 : Int32).toInt = 1 := rfl
  have e0 : (0 : Int32).toInt = 0 := rfl
  have e16 : (16 : Int32).toInt = 16 := rfl
  simp only [Int32.lt_iff_toInt_lt, Int32.toNatClampNeg, e0, e16]
  omega
theorem d10_0 : decode prog_12_method_19_code 0 = .ok (.aload_n 0, 1) := by decide +kernel
theorem d10_1 : decode prog_12_method_19_code 1 = .ok (.getfield 13, 3) := by decide +kernel
theorem d10_4 : decode prog_12_method_19_code 4 = .ok (.ifnull 13, 3) := by decide +kernel
theorem d10_17 : decode prog_12_method_19_code 17 = .ok (.aload_n 0, 1) := by decide +kernel
theorem d10_18 : decode prog_12_method_19_code 18 = .ok (.getfield 9, 3) := by decide +kernel
theorem d10_21 : decode prog_12_method_19_code 21 = .ok (.lstore_n 2, 1) := by decide +kernel
theorem d10_22 : decode prog_12_method_19_code 22 = .ok (.lload_n 2, 1) := by decide +kernel
theorem d10_23 : decode prog_12_method_19_code 23 = .ok (.lconst 0, 1) := by decide +kernel
theorem d10_24 : decode prog_12_method_19_code 24 = .ok (.lcmp, 1) := by decide +kernel
theorem d10_25 : decode prog_12_method_19_code 25 = .ok (.ifCond .eq 31, 3) := by decide +kernel
theorem d10_28 : decode prog_12_method_19_code 28 = .ok (.lload_n 2, 1) := by decide +kernel
theorem d10_29 : decode prog_12_method_19_code 29 = .ok (.l2i, 1) := by decide +kernel
theorem d10_30 : decode prog_12_method_19_code 30 = .ok (.bipush 15, 2) := by decide +kernel
theorem d10_32 : decode prog_12_method_19_code 32 = .ok (.iand, 1) := by decide +kernel
theorem d10_33 : decode prog_12_method_19_code 33 = .ok (.istore 4, 2) := by decide +kernel
theorem d10_35 : decode prog_12_method_19_code 35 = .ok (.aload_n 1, 1) := by decide +kernel
theorem d10_36 : decode prog_12_method_19_code 36 = .ok (.ldc 241, 2) := by decide +kernel
theorem d10_38 : decode prog_12_method_19_code 38 = .ok (.iload 4, 2) := by decide +kernel
theorem d10_40 : decode prog_12_method_19_code 40 = .ok (.iconst 1, 1) := by decide +kernel
theorem d10_41 : decode prog_12_method_19_code 41 = .ok (.isub, 1) := by decide +kernel
theorem d10_42 : decode prog_12_method_19_code 42 = .ok (.invokevirtual 130, 3) := by decide +kernel
theorem d10_45 : decode prog_12_method_19_code 45 = .ok (.invokevirtual 243, 3) := by decide +kernel
theorem d10_48 : decode prog_12_method_19_code 48 = .ok (.pop, 1) := by decide +kernel
theorem d10_49 : decode prog_12_method_19_code 49 = .ok (.lload_n 2, 1) := by decide +kernel
theorem d10_50 : decode prog_12_method_19_code 50 = .ok (.iconst 4, 1) := by decide +kernel
theorem d10_51 : decode prog_12_method_19_code 51 = .ok (.lushr, 1) := by decide +kernel
theorem d10_52 : decode prog_12_method_19_code 52 = .ok (.lstore_n 2, 1) := by decide +kernel
theorem d10_53 : decode prog_12_method_19_code 53 = .ok (.goto (-31), 3) := by decide +kernel
theorem d10_56 : decode prog_12_method_19_code 56 = .ok (.return_, 1) := by decide +kernel
theorem own_aploop (X : List Int32) : ∀ {p : Program} {l : Launch} {e : Env} {s : State} {m : MethodId} {below : List Frame} {meth : Method} {c : Code} {T0 : State} {locs : List Loc} {Z : State} {a0 : Array Value} {h0 hT : Heap} {n0 : Nat} {vmT : Vm} {kT : Nat} {a1 : Addr} {a2 : Addr} {b : Addr} {kb : ClassId} {cs : Int32} {fm : Value} {FL A : List Int32} {n : Int32} {c4 : Int32} {la lb : Addr} {kl : ClassId} (X0 : Stand p l e ({ frames := 4, cells := 2, slots := 64, locals := 54 } : Room) (s.setVm vmT) m #[(.ref a1), (.ref a2)] below meth c T0 locs 2 64) (hx : p.tables.exec = Jvm.exec) (hZ : Z.Warmed39 (s.setVm vmT).vm) (hw : ∀ d ∈ tables_1, d.before a0 Z = true) (hby : c.code = prog_12_method_19_code) (hml : c.maxLocals = 5) (hown : (s.setVm vmT).vm.findClass "com/example/plainjson/plainjson/JsonNumber" = some m.cls) (hret : meth.sig.returnType = none) (hlocks : meth.locks = false) (e0 : T0.heap = hT) (Kt0 : Keep h0 hT [a2, b]) (N0 : Fr n0 locs) (Z0 : n0 ≤ h0.size) (O0 : Old Z n0 h0) (hS0 : s.Since vmT kT) (hk0 : kT ≤ hT.size) (RT : CHr Z consts_1 s.vm h0 vmT hT) (hh : s.heap = h0) (E_a2 : Exa Z hT a2 "java/lang/StringBuilder") (Gv_a2 : Fld Z hT a2 "java/lang/AbstractStringBuilder" "value" "[B" (.ref b)) (Gc_a2 : Fld Z hT a2 "java/lang/AbstractStringBuilder" "coder" "B" (.int (0 : Int32))) (Gn_a2 : Fld Z hT a2 "java/lang/AbstractStringBuilder" "count" "I" (.int n)) (V_b : Arv Z hT b kb .byte (16 : Int32) (own_bs A) (.int (0 : Int32))) (g_a2 : n0 ≤ a2) (g_b : n0 ≤ b) (ne_a2_b : a2 ≠ b) (E_la : Exa Z hT la "java/lang/String") (Fc_la : Fld Z hT la "java/lang/String" "coder" "B" (.int (0 : Int32))) (Fv_la : Fld Z hT la "java/lang/String" "value" "[B" (.ref lb)) (V_lb : Arv Z hT lb kl .byte (15 : Int32) (own_bs own_CHL) (.int (0 : Int32))) (hLit : Lit (s.setVm vmT) "com/example/plainjson/plainjson/JsonNumber" 241 la) (ne_a2_la : a2 ≠ la) (ne_a2_lb : a2 ≠ lb) (ne_b_la : b ≠ la) (ne_b_lb : b ≠ lb) (S_a2 : Safe Z consts_1 vmT hT a2) (S_b : Safe Z consts_1 vmT hT b) (hok : ∀ y ∈ X, y ∈ own_chars) (hA : n.toInt = (A.length : Int)) (hcap : A.length + X.length ≤ 15 + 1) (hF : A ++ X.map own_by = FL) (S_CS : Sta Z Z.heap "java/lang/String" "COMPACT_STRINGS" "Z" (.int cs)) (h_cs : ¬ cs = (0 : Int32)) (S_F : Sta Z Z.heap "jdk/internal/util/Preconditions" "SIOOBE_FORMATTER" "Ljava/util/function/BiFunction;" fm) (h_fm : fm.isRef = true), ∃ s₂ o, Steps p.tables e below (T0.setTop (mkF m 22 #[vR a1, vR a2, vJ (own_pkL X), .second, vI c4] [])) s₂ ∧ s₂.status = .running ∧ Ended s₂ below o ∧ ∃ v L, o = .returned v ∧ own_QA Z a2 b kb FL h0 n0 v s₂.heap L ∧ CHr Z consts_1 s.vm s.heap s₂.vm s₂.heap ∧ ReturnedEndW s o s₂ L ({ frames := 4, cells := 2, slots := 64, locals := 54 } : Room).cells ({ frames := 4, cells := 2, slots := 64, locals := 54 } : Room).slots := by
  induction X with
  | nil =>
    intro p l e s m below meth c T0 locs Z a0 h0 hT n0 vmT kT a1 a2 b kb cs fm FL A n c4 la lb kl X0 hx hZ hw hby hml hown hret hlocks e0 Kt0 N0 Z0 O0 hS0 hk0 RT hh E_a2 Gv_a2 Gc_a2 Gn_a2 V_b g_a2 g_b ne_a2_b E_la Fc_la Fv_la V_lb hLit ne_a2_la ne_a2_lb ne_b_la ne_b_lb S_a2 S_b hok hA hcap hF S_CS h_cs S_F h_fm
    have hh1 : (own_pkL []) = (0 : Int64) := rfl
    have hfin := RT.trans (CHv.at (s := s) (vm0 := vmT) X0 hZ (own_EW hw) RT.1)
    obtain ⟨fs, hr, hrun, hended, hEnd⟩ := X0.leaveW hS0 (by rw [e0]; exact hk0) (v := none) (fun _ => rfl)
    refine ⟨_, _, ?_, hrun, hended, _, _, rfl, ?_, (by rw [hh]; show CHr Z consts_1 s.vm h0 T0.vm T0.heap; rw [e0]; exact hfin), ⟨hEnd.1, hEnd.2.1, hEnd.2.2.1, hEnd.2.2.2.mono (by decide) (by decide)⟩⟩
    · show SA T0 m 22 #[vR a1, vR a2, vJ (own_pkL []), .second, vI c4] []
      refine XS.lloadN X0.here hx rfl (hb hby d10_22) rfl ?_
      show SA T0 m 23 #[vR a1, vR a2, vJ (own_pkL []), .second, vI c4] [iJ (own_pkL [])]
      refine XS.lconst X0.here hx rfl (hb hby d10_23) ?_
      show SA T0 m 24 #[vR a1, vR a2, vJ (own_pkL []), .second, vI c4] [iJ 0, iJ (own_pkL [])]
      refine XS.lcmp X0.here hx rfl (hb hby d10_24) rfl ?_
      show SA T0 m 25 #[vR a1, vR a2, vJ (own_pkL []), .second, vI c4] [iI (lcmpW (own_pkL []) (0 : Int64))]
      refine XS.ifYes X0.here hx rfl (pc0 := 25) (pc' := 56) rfl (hb hby d10_25) rfl ((if0 _ _).trans (teq ((lw_eq _ _).mpr hh1)).1) (by decide) (by decide) ?_
      show Steps _ _ _ (T0.setTop (mkF m 56 #[vR a1, vR a2, vJ (own_pkL []), .second, vI c4] [])) _
      exact X0.returnOut hx hret (hb hby d10_56) hr
    · show own_QA Z a2 b kb FL h0 n0 _ T0.heap _
      rw [e0]
      exact ⟨_, rfl, N0, Kt0, E_a2, Gv_a2, Gc_a2, Gn_a2, (by rw [← hF, List.map_nil, List.append_nil]; exact V_b), (by rw [← hF, List.map_nil, List.append_nil]; exact hA)⟩
  | cons x xs ih =>
    intro p l e s m below meth c T0 locs Z a0 h0 hT n0 vmT kT a1 a2 b kb cs fm FL A n c4 la lb kl X0 hx hZ hw hby hml hown hret hlocks e0 Kt0 N0 Z0 O0 hS0 hk0 RT hh E_a2 Gv_a2 Gc_a2 Gn_a2 V_b g_a2 g_b ne_a2_b E_la Fc_la Fv_la V_lb hLit ne_a2_la ne_a2_lb ne_b_la ne_b_lb S_a2 S_b hok hA hcap hF S_CS h_cs S_F h_fm
    have hlen : (x :: xs).length ≤ 16 := by have q := hcap; omega
    have hh1 : ¬ ((own_pkL (x :: xs)) = (0 : Int64)) := (own_pkNZ hok hlen)
    have hap := own_ap (n := n) (a := A.length) (l := xs.length) hA (by have q : A.length + (xs.length + 1) ≤ 16 := hcap; exact q)
    have Oh3 := O0.keep Kt0 (allS g_a2 (allS g_b all0))
    obtain ⟨cq2, kq2, q2a, q2b, q2c⟩ := isOf hZ e0 E_la
    obtain ⟨_, _, ⟨T2, L2, k2, n2⟩, -, X2, ⟨Lc2, hQ2, l2, y2, z2⟩, st2⟩ := X0.virtualBack hx (y := mn_4) (z := mn_4) hown (mvT hZ (ww hw 69 rfl)) (mvT hZ (ww hw 70 rfl)) (notFace_of_selects (args := #[]) (mvT hZ (ww hw 72 rfl))) (mvT hZ (ww hw 72 rfl)) (mvT hZ (ww hw 71 rfl)) (by decide) (backOf (W := 1) (rm11_v l Z a0 hw [] la ((own_cd x) - (1 : Int32)) lb kl (15 : Int32) own_CHL x cs fm hT n0 Oh3 E_la Fc_la Fv_la V_lb (by decide) (by decide) (own_okc x (hok x List.mem_cons_self)).2.2.2.1 (own_okc x (hok x List.mem_cons_self)).2.2.2.2.1 (own_okc x (hok x List.mem_cons_self)).2.2.2.2.2.1 S_CS h_cs S_F h_fm) hZ (ww hw 73 rfl) (ww hw 52 rfl) (by decide) (by decide)) q2a q2c (g := (mkF m 42 #[vR a1, vR a2, vJ (own_pkL (x :: xs)), .second, vI (own_cd x)] [iI ((own_cd x) - (1 : Int32)), iR la, iR a2])) rfl (by rw [hml]; rfl) (Steps.refl _) (argsL := [(.int ((own_cd x) - (1 : Int32)))]) (rest := [(.ref a2)]) (lenOf pd_25 rfl) rfl (wz rfl) (hb hby d10_42) (fun _ _ => ⟨rfl, e0, (by decide : 2 + 0 ≤ _), (by decide : 64 + 0 ≤ _)⟩)
    dsimp only [Pt.U, Pt.locs, Pt.cells, Pt.slots] at X2 l2 y2 z2 st2 hQ2
    subst l2 y2 z2
    obtain ⟨rfl, rfl, e2⟩ := hQ2
    try rw [List.append_nil] at X2
    obtain ⟨cq4, kq4, q4a, q4b, q4c⟩ := isOf hZ e2 E_a2
    obtain ⟨_, _, ⟨T4, L4, k4, n4⟩, -, X4, ⟨Lc4, hQ4, l4, y4, z4⟩, st4⟩ := X2.virtualBack hx (y := mn_22) (z := mn_22) hown (mvT hZ (ww hw 94 rfl)) (mvT hZ (ww hw 95 rfl)) (notFace_of_selects (args := #[]) (mvT hZ (ww hw 97 rfl))) (mvT hZ (ww hw 97 rfl)) (mvT hZ (ww hw 96 rfl)) (by decide) (backOf (W := 0) (rm16 l Z a0 hw [] a2 x b kb (16 : Int32) A n cs hT n0 (Nat.le_trans Z0 Kt0.1) Oh3 E_a2 Gv_a2 Gc_a2 V_b g_b Gn_a2 g_a2 ne_a2_b hap.1 hap.2.1 hap.2.2.1 hap.2.2.2.1 hap.2.2.2.2.1 (own_okc x (hok x List.mem_cons_self)).2.2.2.2.2.2.1 S_CS h_cs) hZ (ww hw 98 rfl) (ww hw 40 rfl) (by decide) (by decide)) q4a q4c (g := (mkF m 45 #[vR a1, vR a2, vJ (own_pkL (x :: xs)), .second, vI (own_cd x)] [iI x, iR a2])) rfl (by rw [hml]; rfl) (Steps.refl _) (argsL := [(.int x)]) (rest := []) (lenOf pd_26 rfl) rfl (wz rfl) (hb hby d10_45) (fun _ _ => ⟨rfl, e2, (by decide : 2 + 0 ≤ _), (by decide : 64 + 0 ≤ _)⟩)
    dsimp only [Pt.U, Pt.locs, Pt.cells, Pt.slots] at X4 l4 y4 z4 st4 hQ4
    subst l4 y4 z4
    obtain ⟨rfl, N4q, K4q, E4q, Fv4q, Fc4q, Fn4q, V4q⟩ := hQ4
    have N4 := Fr.app N0 N4q
    have K4 : Keep h0 T4.heap [a2, b] := Keep.trans Kt0 K4q (allS (Or.inl (List.mem_of_getElem? (i := 0) rfl)) (allS (Or.inl (List.mem_of_getElem? (i := 1) rfl)) all0))
    have sq5 : ∀ x ∈ [a2, b], Safe Z consts_1 vmT _ x := (sfS S_a2 (sfS S_b sf0))
    have S5_a2 := Safe.keep K4q sq5 RT.1 S_a2
    have S5_b := Safe.keep K4q sq5 RT.1 S_b
    have R5 := RT.trans (CHr.keep K4q sq5 RT.1)
    have fk6 := (E_la.keep K4q)
    have fk7 := (Fc_la.keep K4q (ninS (Ne.symm ne_a2_la) (ninS (Ne.symm ne_b_la) nin0)))
    have fk8 := (Fv_la.keep K4q (ninS (Ne.symm ne_a2_la) (ninS (Ne.symm ne_b_la) nin0)))
    have fk9 := (V_lb.keep K4q (ninS (Ne.symm ne_a2_lb) (ninS (Ne.symm ne_b_lb) nin0)))
    have pre10 : ∀ t, Steps p.tables e below (T4.setTop (mkF m 22 #[vR a1, vR a2, vJ (own_pkL xs), .second, vI (own_cd x)] [])) t → Steps p.tables e below (T0.setTop (mkF m 22 #[vR a1, vR a2, vJ (own_pkL (x :: xs)), .second, vI c4] [])) t := by
      intro t kt
      show SA T0 m 22 #[vR a1, vR a2, vJ (own_pkL (x :: xs)), .second, vI c4] []
      refine XS.lloadN X0.here hx rfl (hb hby d10_22) rfl ?_
      show SA T0 m 23 #[vR a1, vR a2, vJ (own_pkL (x :: xs)), .second, vI c4] [iJ (own_pkL (x :: xs))]
      refine XS.lconst X0.here hx rfl (hb hby d10_23) ?_
      show SA T0 m 24 #[vR a1, vR a2, vJ (own_pkL (x :: xs)), .second, vI c4] [iJ 0, iJ (own_pkL (x :: xs))]
      refine XS.lcmp X0.here hx rfl (hb hby d10_24) rfl ?_
      show SA T0 m 25 #[vR a1, vR a2, vJ (own_pkL (x :: xs)), .second, vI c4] [iI (lcmpW (own_pkL (x :: xs)) (0 : Int64))]
      refine XS.ifNo X0.here hx rfl (hb hby d10_25) rfl ((if0 _ _).trans (feq (mt (lw_eq _ _).mp hh1)).1) ?_
      show SA T0 m 28 #[vR a1, vR a2, vJ (own_pkL (x :: xs)), .second, vI c4] []
      refine XS.lloadN X0.here hx rfl (hb hby d10_28) rfl ?_
      show SA T0 m 29 #[vR a1, vR a2, vJ (own_pkL (x :: xs)), .second, vI c4] [iJ (own_pkL (x :: xs))]
      refine XS.l2i X0.here hx rfl (hb hby d10_29) rfl ?_
      show SA T0 m 30 #[vR a1, vR a2, vJ (own_pkL (x :: xs)), .second, vI c4] [iI (own_pkL (x :: xs)).toInt32]
      refine XS.bipush X0.here hx rfl (hb hby d10_30) ?_
      show SA T0 m 32 #[vR a1, vR a2, vJ (own_pkL (x :: xs)), .second, vI c4] [iI 15, iI (own_pkL (x :: xs)).toInt32]
      refine XS.iand X0.here hx rfl (hb hby d10_32) rfl ?_
      rw [own_pk15 hok hlen]
      show SA T0 m 33 #[vR a1, vR a2, vJ (own_pkL (x :: xs)), .second, vI c4] [iI (own_cd x)]
      refine XS.istore X0.here hx rfl (hb hby d10_33) rfl (l' := #[vR a1, vR a2, vJ (own_pkL (x :: xs)), .second, vI (own_cd x)]) rfl ?_
      show SA T0 m 35 #[vR a1, vR a2, vJ (own_pkL (x :: xs)), .second, vI (own_cd x)] []
      refine XS.aloadN X0.here hx rfl (hb hby d10_35) rfl rfl ?_
      show SA T0 m 36 #[vR a1, vR a2, vJ (own_pkL (x :: xs)), .second, vI (own_cd x)] [iR a2]
      refine ldcAgain (s := s) (vm0 := vmT) X0 hx hZ hown (ww hw 63 rfl) hLit (g := (mkF m 36 #[vR a1, vR a2, vJ (own_pkL (x :: xs)), .second, vI (own_cd x)] [iR a2])) rfl (hb hby d10_36) _ ?_
      show SA T0 m 38 #[vR a1, vR a2, vJ (own_pkL (x :: xs)), .second, vI (own_cd x)] [iR la, iR a2]
      refine XS.iload X0.here hx rfl (hb hby d10_38) rfl ?_
      show SA T0 m 40 #[vR a1, vR a2, vJ (own_pkL (x :: xs)), .second, vI (own_cd x)] [iI (own_cd x), iR la, iR a2]
      refine XS.iconst X0.here hx rfl (hb hby d10_40) ?_
      show SA T0 m 41 #[vR a1, vR a2, vJ (own_pkL (x :: xs)), .second, vI (own_cd x)] [iI 1, iI (own_cd x), iR la, iR a2]
      refine XS.isub X0.here hx rfl (hb hby d10_41) rfl ?_
      show SA T0 m 42 #[vR a1, vR a2, vJ (own_pkL (x :: xs)), .second, vI (own_cd x)] [iI ((own_cd x) - (1 : Int32)), iR la, iR a2]
      refine st2.trans ?_
      show SA T2 m 45 #[vR a1, vR a2, vJ (own_pkL (x :: xs)), .second, vI (own_cd x)] [iI x, iR a2]
      refine st4.trans ?_
      show SA T4 m 48 #[vR a1, vR a2, vJ (own_pkL (x :: xs)), .second, vI (own_cd x)] [iR a2]
      refine XS.pop X4.here hx rfl (hb hby d10_48) rfl rfl ?_
      show SA T4 m 49 #[vR a1, vR a2, vJ (own_pkL (x :: xs)), .second, vI (own_cd x)] []
      refine XS.lloadN X4.here hx rfl (hb hby d10_49) rfl ?_
      show SA T4 m 50 #[vR a1, vR a2, vJ (own_pkL (x :: xs)), .second, vI (own_cd x)] [iJ (own_pkL (x :: xs))]
      refine XS.iconst X4.here hx rfl (hb hby d10_50) ?_
      show SA T4 m 51 #[vR a1, vR a2, vJ (own_pkL (x :: xs)), .second, vI (own_cd x)] [iI 4, iJ (own_pkL (x :: xs))]
      refine XS.lushr X4.here hx rfl (hb hby d10_51) rfl ?_
      rw [own_pkSh hok hlen]
      show SA T4 m 52 #[vR a1, vR a2, vJ (own_pkL (x :: xs)), .second, vI (own_cd x)] [iJ (own_pkL xs)]
      refine XS.lstoreN X4.here hx rfl (hb hby d10_52) rfl (l' := #[vR a1, vR a2, vJ (own_pkL xs), .second, vI (own_cd x)]) rfl ?_
      show SA T4 m 53 #[vR a1, vR a2, vJ (own_pkL xs), .second, vI (own_cd x)] []
      refine XS.goto X4.here hx rfl (pc0 := 53) (pc' := 22) rfl (hb hby d10_53) (by decide) (by decide) ?_
      exact kt
    obtain ⟨s₂, o₂, hs₂, hr₂⟩ := ih (FL := FL) (n := (n + (1 : Int32))) (A := (A ++ [(nar .byte x.toInt8.toInt32)])) (c4 := (own_cd x)) (la := la) (lb := lb) (kl := kl) (s := s) (vmT := vmT) X4 hx hZ hw hby hml hown hret (by first | assumption | exact BodyLoose.notSynchronized (by assumption) | exact Body.notSynchronized (by assumption)) (rfl : T4.heap = _) K4 N4 Z0 O0 hS0 (Nat.le_trans hk0 K4q.1) R5 hh E4q Fv4q Fc4q Fn4q V4q g_a2 g_b ne_a2_b fk6 fk7 fk8 fk9 hLit ne_a2_la ne_a2_lb ne_b_la ne_b_lb S5_a2 S5_b (fun y hy => hok y (List.mem_cons_of_mem _ hy)) (by rw [List.length_append]; exact hap.2.2.2.2.2) (by have q : A.length + (xs.length + 1) ≤ 16 := hcap; rw [List.length_append]; show A.length + 1 + xs.length ≤ 16; omega) (by rw [List.append_assoc]; exact hF) S_CS h_cs S_F h_fm
    exact ⟨s₂, o₂, pre10 _ hs₂, hr₂⟩
theorem ef_10 (m : MethodId) (x0 : Addr) (x1 : Addr) : entryFrame m #[(.ref x0), (.ref x1)] 5 = mkF m 0 #[.val (.ref x0), .val (.ref x1), .unset, .unset, .unset] [] := by first | (simp [entryFrame, mkF, argsToLocals, Value.category]; done) | rfl
def Q10 (Z : State) (a1 : Addr) (a2 : Addr) (b : Addr) (kb : ClassId) (x : Int32) (xs FL : List Int32) (cs : Int32) (fm : Value) (h0 : Heap) (n0 : Nat) (v : Option Value) (h : Heap) (L : List Loc) : Prop := ∃ m : Int32, v = none ∧ Fr n0 L ∧ Keep h0 h [a2, b] ∧ Exa Z h a2 "java/lang/StringBuilder" ∧ Fld Z h a2 "java/lang/AbstractStringBuilder" "value" "[B" (.ref b) ∧ Fld Z h a2 "java/lang/AbstractStringBuilder" "coder" "B" (.int (0 : Int32)) ∧ Fld Z h a2 "java/lang/AbstractStringBuilder" "count" "I" (.int m) ∧ Arv Z h b kb .byte (16 : Int32) (own_bs FL) (.int (0 : Int32)) ∧ m.toInt = (FL.length : Int)
theorem rm10 (l : Launch) (Z : State) (a0 : Array Value) (hw : ∀ d ∈ tables_1, d.before a0 Z = true) (ws : List Jvm.Cond) (a1 : Addr) (a2 : Addr) (b : Addr) (kb : ClassId) (x : Int32) (xs FL : List Int32) (cs : Int32) (fm : Value) (h0 : Heap) (n0 : Nat) (Z0 : n0 ≤ h0.size) (O0 : Old Z n0 h0) (F_t : Fld Z h0 a1 "com/example/plainjson/plainjson/JsonNumber" "text" "Ljava/lang/String;" .null) (F_p : Fld Z h0 a1 "com/example/plainjson/plainjson/JsonNumber" "packed" "J" (.long (own_pkL (x :: xs)))) (E_a2 : Exa Z h0 a2 "java/lang/StringBuilder") (Gv_a2 : Fld Z h0 a2 "java/lang/AbstractStringBuilder" "value" "[B" (.ref b)) (Gc_a2 : Fld Z h0 a2 "java/lang/AbstractStringBuilder" "coder" "B" (.int (0 : Int32))) (Gn_a2 : Fld Z h0 a2 "java/lang/AbstractStringBuilder" "count" "I" (.int (0 : Int32))) (V_b : Arv Z h0 b kb .byte (16 : Int32) (own_bs []) (.int (0 : Int32))) (g_a2 : n0 ≤ a2) (g_b : n0 ≤ b) (ne_a2_b : a2 ≠ b) (ne_a1_a2 : a1 ≠ a2) (ne_a1_b : a1 ≠ b) (hok : ∀ y ∈ x :: xs, y ∈ own_chars) (hlen : (x :: xs).length ≤ 16) (hF : (x :: xs).map own_by = FL) (S_CS : Sta Z Z.heap "java/lang/String" "COMPACT_STRINGS" "Z" (.int cs)) (h_cs : ¬ cs = (0 : Int32)) (S_F : Sta Z Z.heap "jdk/internal/util/Preconditions" "SIOOBE_FORMATTER" "Ljava/util/function/BiFunction;" fm) (h_fm : fm.isRef = true) :
    MetFree l mn_37 (head1 (Jvm.Cond.code mn_37 prog_12_method_19_code 5 none :: ws) ({ frames := 4, cells := 2, slots := 64, locals := 54 } : Room)) (fun a U => a = #[(.ref a1), (.ref a2)] ∧ Z.Warmed39 U.vm ∧ U.heap = h0 ∧ CHv Z consts_1 U.vm h0 ∧ ∀ x ∈ [a2, b], Safe Z consts_1 U.vm h0 x) (fun _ _ _ _ _ => True) (fun _ U o U' => ∃ v L, o = .returned v ∧ Q10 Z a1 a2 b kb x xs FL cs fm h0 n0 v U'.heap L ∧ CHr Z consts_1 U.vm U.heap U'.vm U'.heap ∧ ReturnedEndW U o U' L ({ frames := 4, cells := 2, slots := 64, locals := 54 } : Room).cells ({ frames := 4, cells := 2, slots := 64, locals := 54 } : Room).slots) := by
  refine MetFree.of_bodySF (plainFor_of_name pn_3) hisR ?_
  intro p e s m args below meth c s₁ Bd hml0 hP hK
  obtain ⟨rfl, hZ, hh, hC0, hSf⟩ := hP
  have hx := Bd.exec
  have hby := Bd.bytes
  have hml : c.maxLocals = 5 := hml0
  have hown : s.vm.findClass "com/example/plainjson/plainjson/JsonNumber" = some m.cls := findClass_of_methodNamed Bd.named
  have hnm := (name_of_methodNamed Bd.named Bd.method).1
  have X0 : Stand p l e ({ frames := 4, cells := 2, slots := 64, locals := 54 } : Room) s m #[(.ref a1), (.ref a2)] below meth c s₁ [] 0 0 := Stand.of_body Bd
  have e0 : s₁.heap = h0 := by rw [← hh, Bd.state]; rfl
  have R0 := CHr.refl hC0
  have N0 := Fr.nil n0
  have K0 := Keep.refl h0 [a2, b]
  have pre0 : ∀ t, Steps p.tables e below (s₁.setTop (mkF m 0 #[.val (.ref a1), .val (.ref a2), .unset, .unset, .unset] [])) t → Steps p.tables e below (s₁.setTop (entryFrame m #[(.ref a1), (.ref a2)] 5)) t := fun t k => castTop (ef_10 m a1 a2) k
  obtain ⟨T1, X1, e1, st1⟩ := getF X0 hx hZ hown (host := "") (Or.inl (ww hw 31 rfl)) Via.refl e0 F_t (g := (mkF m 1 #[vR a1, vR a2, .unset, .unset, .unset] [iR a1])) rfl rfl (hb hby d10_1)
  obtain ⟨T2, X2, e2, st2⟩ := getF X1 hx hZ hown (host := "") (Or.inl (ww hw 29 rfl)) Via.refl e1 F_p (g := (mkF m 18 #[vR a1, vR a2, .unset, .unset, .unset] [iR a1])) rfl rfl (hb hby d10_18)
  have hh3 : ¬ ((own_pkL (x :: xs)) = (0 : Int64)) := (own_pkNZ hok hlen)
  have hap := own_ap (n := (0 : Int32)) (a := 0) (l := xs.length) rfl (by have q : xs.length + 1 ≤ 16 := hlen; omega)
  obtain ⟨la4, T4, h4, kk4, lb4, kl4, X4, e4, E4, hS4, hk4, hZ, hown, EE4, FC4, FV4, VV4, -, -, C4, li4, ne4, st4⟩ := ldcCH (s := s) (vm0 := s.vm) X2 hx hZ hown (ww hw 63 rfl) (own_strAtoms hw) e2 ((State.WarmedH.refl s).since 0) (Nat.zero_le _) (own_EW hw) (List.mem_of_getElem? (i := 0) rfl) R0.1 (vs := own_bs [(48 : Int32), (49 : Int32), (50 : Int32), (51 : Int32), (52 : Int32), (53 : Int32), (54 : Int32), (55 : Int32), (56 : Int32), (57 : Int32), (46 : Int32), (45 : Int32), (101 : Int32), (69 : Int32), (43 : Int32)]) (z := (15 : Int32)) own_ct0 (by decide) (by decide) (g := (mkF m 36 #[vR a1, vR a2, vJ (own_pkL (x :: xs)), .second, vI (own_cd x)] [iR a2])) rfl (hb hby d10_36) (n := 60) (by decide) (by decide) (by decide) (by decide)
  have K4 : Keep h0 h4 [a2, b] := K0.ext E4
  have S4_a2 := C4.safe E_a2.lt (hSf _ (List.mem_of_getElem? (i := 0) rfl))
  have S4_b := C4.safe V_b.lt (hSf _ (List.mem_of_getElem? (i := 1) rfl))
  have R4 := R0.trans C4
  have Oh6 := O0.keep K4 (allS g_a2 (allS g_b all0))
  obtain ⟨cq5, kq5, q5a, q5b, q5c⟩ := isOf hZ e4 EE4
  obtain ⟨_, _, ⟨T5, L5, k5, n5⟩, -, X5, ⟨Lc5, hQ5, l5, y5, z5⟩, st5⟩ := X4.virtualBack hx (y := mn_4) (z := mn_4) hown (mvT hZ (ww hw 69 rfl)) (mvT hZ (ww hw 70 rfl)) (notFace_of_selects (args := #[]) (mvT hZ (ww hw 72 rfl))) (mvT hZ (ww hw 72 rfl)) (mvT hZ (ww hw 71 rfl)) (by decide) (backOf (W := 1) (rm11_v l Z a0 hw [] la4 ((own_cd x) - (1 : Int32)) lb4 kl4 (15 : Int32) own_CHL x cs fm h4 n0 Oh6 EE4 FC4 FV4 VV4 (by decide) (by decide) (own_okc x (hok x List.mem_cons_self)).2.2.2.1 (own_okc x (hok x List.mem_cons_self)).2.2.2.2.1 (own_okc x (hok x List.mem_cons_self)).2.2.2.2.2.1 S_CS h_cs S_F h_fm) hZ (ww hw 73 rfl) (ww hw 52 rfl) (by decide) (by decide)) q5a q5c (g := (mkF m 42 #[vR a1, vR a2, vJ (own_pkL (x :: xs)), .second, vI (own_cd x)] [iI ((own_cd x) - (1 : Int32)), iR la4, iR a2])) rfl (by rw [hml]; rfl) (Steps.refl _) (argsL := [(.int ((own_cd x) - (1 : Int32)))]) (rest := [(.ref a2)]) (lenOf pd_25 rfl) rfl (wz rfl) (hb hby d10_42) (fun _ _ => ⟨rfl, e4, (by decide : 2 + 0 ≤ _), (by decide : 64 + 0 ≤ _)⟩)
  dsimp only [Pt.U, Pt.locs, Pt.cells, Pt.slots] at X5 l5 y5 z5 st5 hQ5
  subst l5 y5 z5
  obtain ⟨rfl, rfl, e5⟩ := hQ5
  try rw [List.append_nil] at X5
  have fk8 := (E_a2.ext E4)
  have fk9 := (Gv_a2.ext E4)
  have fk10 := (Gc_a2.ext E4)
  have fk11 := (V_b.ext E4)
  have fk12 := (Gn_a2.ext E4)
  obtain ⟨cq7, kq7, q7a, q7b, q7c⟩ := isOf hZ e5 fk8
  obtain ⟨_, _, ⟨T7, L7, k7, n7⟩, -, X7, ⟨Lc7, hQ7, l7, y7, z7⟩, st7⟩ := X5.virtualBack hx (y := mn_22) (z := mn_22) hown (mvT hZ (ww hw 94 rfl)) (mvT hZ (ww hw 95 rfl)) (notFace_of_selects (args := #[]) (mvT hZ (ww hw 97 rfl))) (mvT hZ (ww hw 97 rfl)) (mvT hZ (ww hw 96 rfl)) (by decide) (backOf (W := 0) (rm16 l Z a0 hw [] a2 x b kb (16 : Int32) [] (0 : Int32) cs h4 n0 (Nat.le_trans Z0 K4.1) Oh6 fk8 fk9 fk10 fk11 g_b fk12 g_a2 ne_a2_b hap.1 hap.2.1 hap.2.2.1 hap.2.2.2.1 hap.2.2.2.2.1 (own_okc x (hok x List.mem_cons_self)).2.2.2.2.2.2.1 S_CS h_cs) hZ (ww hw 98 rfl) (ww hw 40 rfl) (by decide) (by decide)) q7a q7c (g := (mkF m 45 #[vR a1, vR a2, vJ (own_pkL (x :: xs)), .second, vI (own_cd x)] [iI x, iR a2])) rfl (by rw [hml]; rfl) (Steps.refl _) (argsL := [(.int x)]) (rest := []) (lenOf pd_26 rfl) rfl (wz rfl) (hb hby d10_45) (fun _ _ => ⟨rfl, e5, (by decide : 2 + 0 ≤ _), (by decide : 64 + 0 ≤ _)⟩)
  dsimp only [Pt.U, Pt.locs, Pt.cells, Pt.slots] at X7 l7 y7 z7 st7 hQ7
  subst l7 y7 z7
  obtain ⟨rfl, N7q, K7q, E7q, Fv7q, Fc7q, Fn7q, V7q⟩ := hQ7
  have N7 := Fr.app N0 N7q
  have K7 : Keep h0 T7.heap [a2, b] := Keep.trans K4 K7q (allS (Or.inl (List.mem_of_getElem? (i := 0) rfl)) (allS (Or.inl (List.mem_of_getElem? (i := 1) rfl)) all0))
  have sq13 : ∀ x ∈ [a2, b], Safe Z consts_1 T4.vm _ x := (sfS S4_a2 (sfS S4_b sf0))
  have S13_a2 := Safe.keep K7q sq13 R4.1 S4_a2
  have S13_b := Safe.keep K7q sq13 R4.1 S4_b
  have R13 := R4.trans (CHr.keep K7q sq13 R4.1)
  have fk14 := (EE4.keep K7q)
  have fk15 := (FC4.keep K7q (ninS (Ne.symm (ne4 _ S4_a2).1) (ninS (Ne.symm (ne4 _ S4_b).1) nin0)))
  have fk16 := (FV4.keep K7q (ninS (Ne.symm (ne4 _ S4_a2).1) (ninS (Ne.symm (ne4 _ S4_b).1) nin0)))
  have fk17 := (VV4.keep K7q (ninS (Ne.symm (ne4 _ S4_a2).2) (ninS (Ne.symm (ne4 _ S4_b).2) nin0)))
  have pre18 : ∀ t, Steps p.tables e below (T7.setTop (mkF m 22 #[vR a1, vR a2, vJ (own_pkL xs), .second, vI (own_cd x)] [])) t → Steps p.tables e below (s₁.setTop (entryFrame m #[(.ref a1), (.ref a2)] 5)) t := by
    intro t kt
    refine pre0 t ?_
    show SA s₁ m 0 #[vR a1, vR a2, .unset, .unset, .unset] []
    refine XS.aloadN X0.here hx rfl (hb hby d10_0) rfl rfl ?_
    show SA s₁ m 1 #[vR a1, vR a2, .unset, .unset, .unset] [iR a1]
    refine st1 _ ?_
    show SA T1 m 4 #[vR a1, vR a2, .unset, .unset, .unset] [.null]
    refine XS.ifnullYes X1.here hx rfl (pc0 := 4) (pc' := 17) rfl (hb hby d10_4) rfl (by decide) (by decide) ?_
    show SA T1 m 17 #[vR a1, vR a2, .unset, .unset, .unset] []
    refine XS.aloadN X1.here hx rfl (hb hby d10_17) rfl rfl ?_
    show SA T1 m 18 #[vR a1, vR a2, .unset, .unset, .unset] [iR a1]
    refine st2 _ ?_
    show SA T2 m 21 #[vR a1, vR a2, .unset, .unset, .unset] [iJ (own_pkL (x :: xs))]
    refine XS.lstoreN X2.here hx rfl (hb hby d10_21) rfl (l' := #[vR a1, vR a2, vJ (own_pkL (x :: xs)), .second, .unset]) rfl ?_
    show SA T2 m 22 #[vR a1, vR a2, vJ (own_pkL (x :: xs)), .second, .unset] []
    refine XS.lloadN X2.here hx rfl (hb hby d10_22) rfl ?_
    show SA T2 m 23 #[vR a1, vR a2, vJ (own_pkL (x :: xs)), .second, .unset] [iJ (own_pkL (x :: xs))]
    refine XS.lconst X2.here hx rfl (hb hby d10_23) ?_
    show SA T2 m 24 #[vR a1, vR a2, vJ (own_pkL (x :: xs)), .second, .unset] [iJ 0, iJ (own_pkL (x :: xs))]
    refine XS.lcmp X2.here hx rfl (hb hby d10_24) rfl ?_
    show SA T2 m 25 #[vR a1, vR a2, vJ (own_pkL (x :: xs)), .second, .unset] [iI (lcmpW (own_pkL (x :: xs)) (0 : Int64))]
    refine XS.ifNo X2.here hx rfl (hb hby d10_25) rfl ((if0 _ _).trans (feq (mt (lw_eq _ _).mp hh3)).1) ?_
    show SA T2 m 28 #[vR a1, vR a2, vJ (own_pkL (x :: xs)), .second, .unset] []
    refine XS.lloadN X2.here hx rfl (hb hby d10_28) rfl ?_
    show SA T2 m 29 #[vR a1, vR a2, vJ (own_pkL (x :: xs)), .second, .unset] [iJ (own_pkL (x :: xs))]
    refine XS.l2i X2.here hx rfl (hb hby d10_29) rfl ?_
    show SA T2 m 30 #[vR a1, vR a2, vJ (own_pkL (x :: xs)), .second, .unset] [iI (own_pkL (x :: xs)).toInt32]
    refine XS.bipush X2.here hx rfl (hb hby d10_30) ?_
    show SA T2 m 32 #[vR a1, vR a2, vJ (own_pkL (x :: xs)), .second, .unset] [iI 15, iI (own_pkL (x :: xs)).toInt32]
    refine XS.iand X2.here hx rfl (hb hby d10_32) rfl ?_
    rw [own_pk15 hok hlen]
    show SA T2 m 33 #[vR a1, vR a2, vJ (own_pkL (x :: xs)), .second, .unset] [iI (own_cd x)]
    refine XS.istore X2.here hx rfl (hb hby d10_33) rfl (l' := #[vR a1, vR a2, vJ (own_pkL (x :: xs)), .second, vI (own_cd x)]) rfl ?_
    show SA T2 m 35 #[vR a1, vR a2, vJ (own_pkL (x :: xs)), .second, vI (own_cd x)] []
    refine XS.aloadN X2.here hx rfl (hb hby d10_35) rfl rfl ?_
    show SA T2 m 36 #[vR a1, vR a2, vJ (own_pkL (x :: xs)), .second, vI (own_cd x)] [iR a2]
    refine st4 _ ?_
    show SA T4 m 38 #[vR a1, vR a2, vJ (own_pkL (x :: xs)), .second, vI (own_cd x)] [iR la4, iR a2]
    refine XS.iload X4.here hx rfl (hb hby d10_38) rfl ?_
    show SA T4 m 40 #[vR a1, vR a2, vJ (own_pkL (x :: xs)), .second, vI (own_cd x)] [iI (own_cd x), iR la4, iR a2]
    refine XS.iconst X4.here hx rfl (hb hby d10_40) ?_
    show SA T4 m 41 #[vR a1, vR a2, vJ (own_pkL (x :: xs)), .second, vI (own_cd x)] [iI 1, iI (own_cd x), iR la4, iR a2]
    refine XS.isub X4.here hx rfl (hb hby d10_41) rfl ?_
    show SA T4 m 42 #[vR a1, vR a2, vJ (own_pkL (x :: xs)), .second, vI (own_cd x)] [iI ((own_cd x) - (1 : Int32)), iR la4, iR a2]
    refine st5.trans ?_
    show SA T5 m 45 #[vR a1, vR a2, vJ (own_pkL (x :: xs)), .second, vI (own_cd x)] [iI x, iR a2]
    refine st7.trans ?_
    show SA T7 m 48 #[vR a1, vR a2, vJ (own_pkL (x :: xs)), .second, vI (own_cd x)] [iR a2]
    refine XS.pop X7.here hx rfl (hb hby d10_48) rfl rfl ?_
    show SA T7 m 49 #[vR a1, vR a2, vJ (own_pkL (x :: xs)), .second, vI (own_cd x)] []
    refine XS.lloadN X7.here hx rfl (hb hby d10_49) rfl ?_
    show SA T7 m 50 #[vR a1, vR a2, vJ (own_pkL (x :: xs)), .second, vI (own_cd x)] [iJ (own_pkL (x :: xs))]
    refine XS.iconst X7.here hx rfl (hb hby d10_50) ?_
    show SA T7 m 51 #[vR a1, vR a2, vJ (own_pkL (x :: xs)), .second, vI (own_cd x)] [iI 4, iJ (own_pkL (x :: xs))]
    refine XS.lushr X7.here hx rfl (hb hby d10_51) rfl ?_
    rw [own_pkSh hok hlen]
    show SA T7 m 52 #[vR a1, vR a2, vJ (own_pkL (x :: xs)), .second, vI (own_cd x)] [iJ (own_pkL xs)]
    refine XS.lstoreN X7.here hx rfl (hb hby d10_52) rfl (l' := #[vR a1, vR a2, vJ (own_pkL xs), .second, vI (own_cd x)]) rfl ?_
    show SA T7 m 53 #[vR a1, vR a2, vJ (own_pkL xs), .second, vI (own_cd x)] []
    refine XS.goto X7.here hx rfl (pc0 := 53) (pc' := 22) rfl (hb hby d10_53) (by decide) (by decide) ?_
    exact kt
  obtain ⟨s₂, o₂, hs₂, hr₂⟩ := own_aploop xs (FL := FL) (n := ((0 : Int32) + (1 : Int32))) (A := ([] ++ [(nar .byte x.toInt8.toInt32)])) (c4 := (own_cd x)) (la := la4) (lb := lb4) (kl := kl4) (s := s) (vmT := T4.vm) X7 hx hZ hw hby hml hown Bd.returns (by first | assumption | exact BodyLoose.notSynchronized (by assumption) | exact Body.notSynchronized (by assumption)) (rfl : T7.heap = _) K7 N7 Z0 O0 hS4 (Nat.le_trans hk4 K7q.1) R13 hh E7q Fv7q Fc7q Fn7q V7q g_a2 g_b ne_a2_b fk14 fk15 fk16 fk17 li4 (ne4 _ S4_a2).1 (ne4 _ S4_a2).2 (ne4 _ S4_b).1 (ne4 _ S4_b).2 S13_a2 S13_b (fun y hy => hok y (List.mem_cons_of_mem _ hy)) hap.2.2.2.2.2 (by have q : xs.length + 1 ≤ 16 := hlen; show 1 + xs.length ≤ 16; omega) hF S_CS h_cs S_F h_fm
  exact ⟨s₂, o₂, pre18 _ hs₂, hr₂⟩
theorem d7_12 : decode prog_12_method_18_code 12 = .ok (.new 227, 3) := by decide +kernel
theorem d7_15 : decode prog_12_method_18_code 15 = .ok (.dup, 1) := by decide +kernel
theorem d7_16 : decode prog_12_method_18_code 16 = .ok (.bipush 16, 2) := by decide +kernel
theorem d7_18 : decode prog_12_method_18_code 18 = .ok (.invokespecial 229, 3) := by decide +kernel
theorem d7_21 : decode prog_12_method_18_code 21 = .ok (.astore_n 1, 1) := by decide +kernel
theorem d7_22 : decode prog_12_method_18_code 22 = .ok (.aload_n 0, 1) := by decide +kernel
theorem d7_23 : decode prog_12_method_18_code 23 = .ok (.aload_n 1, 1) := by decide +kernel
theorem d7_24 : decode prog_12_method_18_code 24 = .ok (.invokevirtual 232, 3) := by decide +kernel
theorem d7_27 : decode prog_12_method_18_code 27 = .ok (.aload_n 1, 1) := by decide +kernel
theorem d7_28 : decode prog_12_method_18_code 28 = .ok (.invokevirtual 236, 3) := by decide +kernel
theorem d7_31 : decode prog_12_method_18_code 31 = .ok (.areturn, 1) := by decide +kernel
theorem ef_7_p (m : MethodId) (x0 : Addr) : entryFrame m #[(.ref x0)] 2 = mkF m 0 #[.val (.ref x0), .unset] [] := by first | (simp [entryFrame, mkF, argsToLocals, Value.category]; done) | rfl
def Q7_p (Z : State) (a1 : Addr) (x zz : Int32) (xs FL : List Int32) (cs : Int32) (fm : Value) (h0 : Heap) (n0 : Nat) (v : Option Value) (h : Heap) (L : List Loc) : Prop := ∃ (o d : Addr) (ko : ClassId), v = some (.ref o) ∧ Fr n0 L ∧ Keep h0 h [] ∧ Exa Z h o "java/lang/String" ∧ Fld Z h o "java/lang/String" "coder" "B" (.int (0 : Int32)) ∧ Fld Z h o "java/lang/String" "value" "[B" (.ref d) ∧ Arv Z h d ko .byte zz (own_bs FL) (.int (0 : Int32))
theorem rm7_p (l : Launch) (Z : State) (a0 : Array Value) (hw : ∀ d ∈ tables_1, d.before a0 Z = true) (ws : List Jvm.Cond) (a1 : Addr) (x zz : Int32) (xs FL : List Int32) (cs : Int32) (fm : Value) (h0 : Heap) (n0 : Nat) (Z0 : n0 ≤ h0.size) (O0 : Old Z n0 h0) (E_a1 : Exa Z h0 a1 "com/example/plainjson/plainjson/JsonNumber") (F_t : Fld Z h0 a1 "com/example/plainjson/plainjson/JsonNumber" "text" "Ljava/lang/String;" .null) (F_p : Fld Z h0 a1 "com/example/plainjson/plainjson/JsonNumber" "packed" "J" (.long (own_pkL (x :: xs)))) (hok : ∀ y ∈ x :: xs, y ∈ own_chars) (hlen : (x :: xs).length ≤ 16) (hF : (x :: xs).map own_by = FL) (hzz : zz.toInt = (FL.length : Int)) (S_CS : Sta Z Z.heap "java/lang/String" "COMPACT_STRINGS" "Z" (.int cs)) (h_cs : ¬ cs = (0 : Int32)) (S_F : Sta Z Z.heap "jdk/internal/util/Preconditions" "SIOOBE_FORMATTER" "Ljava/util/function/BiFunction;" fm) (h_fm : fm.isRef = true) :
    MetFree l mn_17 (head1 (Jvm.Cond.code mn_17 prog_12_method_18_code 2 (some (.object "java/lang/String")) :: ws) ({ frames := 6, cells := 6, slots := 104, locals := 91 } : Room)) (fun a U => a = #[(.ref a1)] ∧ Z.Warmed39 U.vm ∧ U.heap = h0 ∧ CHv Z consts_1 U.vm h0) (fun _ _ _ _ _ => True) (fun _ U o U' => ∃ v L, o = .returned v ∧ Q7_p Z a1 x zz xs FL cs fm h0 n0 v U'.heap L ∧ CHr Z consts_1 U.vm U.heap U'.vm U'.heap ∧ ReturnedEndW U o U' L ({ frames := 6, cells := 6, slots := 104, locals := 91 } : Room).cells ({ frames := 6, cells := 6, slots := 104, locals := 91 } : Room).slots) := by
  refine MetFree.of_bodySF (plainFor_of_name pn_3) hisR ?_
  intro p e s m args below meth c s₁ Bd hml0 hP hK
  obtain ⟨rfl, hZ, hh, hC0⟩ := hP
  have hx := Bd.exec
  have hby := Bd.bytes
  have hml : c.maxLocals = 2 := hml0
  have hown : s.vm.findClass "com/example/plainjson/plainjson/JsonNumber" = some m.cls := findClass_of_methodNamed Bd.named
  have hnm := (name_of_methodNamed Bd.named Bd.method).1
  have X0 : Stand p l e ({ frames := 6, cells := 6, slots := 104, locals := 91 } : Room) s m #[(.ref a1)] below meth c s₁ [] 0 0 := Stand.of_body Bd
  have e0 : s₁.heap = h0 := by rw [← hh, Bd.state]; rfl
  have R0 := CHr.refl hC0
  have N0 := Fr.nil n0
  have K0 := Keep.refl h0 []
  have pre0 : ∀ t, Steps p.tables e below (s₁.setTop (mkF m 0 #[.val (.ref a1), .unset] [])) t → Steps p.tables e below (s₁.setTop (entryFrame m #[(.ref a1)] 2)) t := fun t k => castTop (ef_7_p m a1) k
  have hFl : FL.length ≤ 16 := by rw [← hF, List.length_map]; exact hlen
  obtain ⟨T1, X1, e1, st1⟩ := getF X0 hx hZ hown (host := "") (Or.inl (ww hw 31 rfl)) Via.refl e0 F_t (g := (mkF m 1 #[vR a1, .unset] [iR a1])) rfl rfl (hb hby d7_1)
  obtain ⟨T2, h2, X2, e2, E2, A2, D2, -, st2⟩ := newO X1 hx hZ hown (ww hw 38 rfl) (ww hw 39 rfl) (ww hw 40 rfl) e1 (g := (mkF m 12 #[vR a1, .unset] [])) rfl (hb hby d7_12) (by decide) (by decide)
  obtain ⟨b2, g2⟩ : ∃ z, z = h0.size := ⟨_, rfl⟩
  rw [← g2] at A2 D2 st2
  have ne_a1_b2 : a1 ≠ b2 := Nat.ne_of_lt (Nat.lt_of_lt_of_le E_a1.lt (Nat.le_of_eq g2.symm))
  have sz_b2 : h0.size ≤ b2 := Nat.le_trans K0.1 (Nat.le_of_eq g2.symm)
  have g_b2 : n0 ≤ b2 := Nat.le_trans Z0 sz_b2
  have K2 : Keep h0 h2 [] := K0.ext E2
  have F_value_b2 : Fld Z h2 b2 "java/lang/AbstractStringBuilder" "value" "[B" .null := D2 (Or.inl (ww hw 55 rfl)) (ty := (.array .byte)) (by decide)
  have F_coder_b2 : Fld Z h2 b2 "java/lang/AbstractStringBuilder" "coder" "B" (.int (0 : Int32)) := D2 (Or.inl (ww hw 57 rfl)) (ty := .byte) (by decide)
  have F_count_b2 : Fld Z h2 b2 "java/lang/AbstractStringBuilder" "count" "I" (.int (0 : Int32)) := D2 (Or.inl (ww hw 105 rfl)) (ty := .int) (by decide)
  have Oh4 := O0.keep K2 all0
  obtain ⟨_, _, ⟨T3, L3, k3, n3⟩, -, X3, ⟨Lc3, hQ3, l3, y3, z3⟩, st3⟩ := X2.specialBack hx (y := mn_24) rfl hown (mvT hZ (ww hw 41 rfl)) (mvT hZ (ww hw 42 rfl)) (mvT hZ (ww hw 43 rfl)) (by decide) (backOf (W := 1) (rm8 l Z a0 hw [] b2 cs h2 n0 (Nat.le_trans Z0 K2.1) Oh4 A2 g_b2 F_value_b2 F_coder_b2 F_count_b2 S_CS h_cs) hZ (ww hw 43 rfl) (ww hw 40 rfl) (by decide) (by decide)) (g := (mkF m 18 #[vR a1, .unset] [iI 16, iR b2, iR b2])) rfl (by rw [hml]; rfl) (Steps.refl _) (a := b2) (argsL := [(.int (16 : Int32))]) (rest := [(.ref b2)]) (lenOf pd_15 rfl) rfl (wz rfl) (hb hby d7_18) (fun _ _ => ⟨rfl, e2, (by decide : 1 + 1 ≤ _), (by decide : 4 + 16 ≤ _)⟩)
  dsimp only [Pt.U, Pt.locs, Pt.cells, Pt.slots] at X3 l3 y3 z3 st3 hQ3
  subst l3 y3 z3
  obtain ⟨d3, kd3, rfl, N3q, K3q, E3q, Fv3q, Fc3q, Fn3q, V3q, G3q, z_d3⟩ := hQ3
  have fk5 := (E_a1.ext E2)
  have ne_a1_d3 : a1 ≠ d3 := Nat.ne_of_lt (Nat.lt_of_lt_of_le fk5.lt z_d3)
  have ne_b2_d3 : b2 ≠ d3 := Nat.ne_of_lt (Nat.lt_of_lt_of_le A2.lt z_d3)
  have sz_d3 : h0.size ≤ d3 := Nat.le_trans K2.1 z_d3
  have g_d3 : n0 ≤ d3 := Nat.le_trans Z0 sz_d3
  have N3 := Fr.app N0 N3q
  have K3 : Keep h0 T3.heap [] := Keep.trans K2 K3q (allS (Or.inr sz_b2) all0)
  have fk7 := ((F_t.ext E2).keep K3q (ninS ne_a1_b2 nin0))
  have fk8 := ((F_p.ext E2).keep K3q (ninS ne_a1_b2 nin0))
  have Oh9 := O0.keep K3 all0
  have S10_b2 := Safe.ext E2 R0.1 (Safe.new (Nat.le_of_eq g2.symm))
  have R10 := R0.trans (CHr.ext E2 R0.1)
  have sq11 : ∀ x ∈ [b2], Safe Z consts_1 s.vm _ x := (sfS S10_b2 sf0)
  have S11_b2 := Safe.keep K3q sq11 R10.1 S10_b2
  have S11_d3 := Safe.keep K3q sq11 R10.1 (Safe.new z_d3)
  have R11 := R10.trans (CHr.keep K3q sq11 R10.1)
  have fk12 := (fk5.keep K3q)
  obtain ⟨cq6, kq6, q6a, q6b, q6c⟩ := isOf hZ rfl fk12
  obtain ⟨_, _, ⟨T6, L6, k6, n6⟩, -, X6, hS6q, gr6, ⟨Lc6, hQ6, l6, y6, z6, C6⟩, st6⟩ := virtualBackS (s := s.setVm s.vm) X3 hx (y := mn_37) (z := mn_37) hown (mvT hZ (ww hw 58 rfl)) (mvT hZ (ww hw 59 rfl)) (notFace_of_selects (args := #[]) (mvT hZ (ww hw 61 rfl))) (mvT hZ (ww hw 61 rfl)) (mvT hZ (ww hw 60 rfl)) (by decide) (own_backS (s := s) (vm0 := s.vm) (W := 0) (rm10 l Z a0 hw [] a1 b2 d3 kd3 x xs FL cs fm T3.heap n0 (Nat.le_trans Z0 K3.1) Oh9 fk7 fk8 E3q Fv3q Fc3q Fn3q V3q g_b2 g_d3 ne_b2_d3 ne_a1_b2 ne_a1_d3 hok hlen hF S_CS h_cs S_F h_fm) hZ (ww hw 62 rfl) (ww hw 9 rfl) (by decide) (by decide) (own_EW hw) R11.1 (allS ⟨E3q.lt, S11_b2⟩ (allS ⟨G3q.lt, S11_d3⟩ all0))) q6a q6c (g := (mkF m 24 #[vR a1, vR b2] [iR b2, iR a1])) rfl (by rw [hml]; rfl) (Steps.refl _) (argsL := [(.ref b2)]) (rest := []) (lenOf pd_23 rfl) rfl (wz rfl) (hb hby d7_24) (fun _ _ => ⟨rfl, rfl, (by decide : 2 + 2 ≤ _), (by decide : 20 + 64 ≤ _)⟩)
  dsimp only [Pt.U, Pt.locs, Pt.cells, Pt.slots] at X6 hS6q gr6 l6 y6 z6 C6 st6 hQ6
  subst l6 y6 z6
  have hS6 := State.Since.trans ((State.WarmedH.refl s).since 0) hS6q (Nat.le_trans (Nat.zero_le _) gr6)
  have hZ : Z.Warmed39 (s.setVm T6.vm).vm := State.Warmed39.trans (t := s.setVm s.vm) hZ hS6q.1
  have hown : (s.setVm T6.vm).vm.findClass "com/example/plainjson/plainjson/JsonNumber" = some m.cls := by rw [show (s.setVm T6.vm).vm = T6.vm from rfl, hS6q.1.alike.findClass]; exact hown
  have R6 := R11.trans C6
  obtain ⟨m6, rfl, N6q, K6q, E6q, Fv6q, Fc6q, Fn6q, V6q, hm6⟩ := hQ6
  have N6 := Fr.app N3 N6q
  have K6 : Keep h0 T6.heap [] := Keep.trans K3 K6q (allS (Or.inr sz_b2) (allS (Or.inr sz_d3) all0))
  have hmz : zz = m6 := Int32.toInt_inj.mp (by rw [hm6, hzz])
  subst hmz
  have fk15 := (G3q.keep K6q)
  have Oh16 := O0.keep K6 all0
  obtain ⟨cq14, kq14, q14a, q14b, q14c⟩ := isOf hZ rfl E6q
  obtain ⟨_, _, ⟨T14, L14, k14, n14⟩, -, X14, ⟨Lc14, hQ14, l14, y14, z14⟩, st14⟩ := X6.virtualBack hx (y := mn_34) (z := mn_34) hown (mvT hZ (ww hw 119 rfl)) (mvT hZ (ww hw 120 rfl)) (notFace_of_selects (args := #[]) (mvT hZ (ww hw 122 rfl))) (mvT hZ (ww hw 122 rfl)) (mvT hZ (ww hw 121 rfl)) (by decide) (backOf (W := 0) (rm21 l Z a0 hw [] b2 d3 kd3 (16 : Int32) FL zz cs T6.heap n0 (Nat.le_trans Z0 K6.1) Oh16 E6q Fv6q Fc6q V6q Fn6q (own_nneg (by omega)) (by have e : (16 : Int32).toInt = 16 := rfl; rw [Int32.lt_iff_toInt_lt]; omega) (by simp only [Int32.toNatClampNeg]; omega) (own_tn hm6) fk15 S_CS h_cs) hZ (ww hw 123 rfl) (ww hw 40 rfl) (by decide) (by decide)) q14a q14c (g := (mkF m 28 #[vR a1, vR b2] [iR b2])) rfl (by rw [hml]; rfl) (Steps.refl _) (argsL := []) (rest := []) (lenOf pd_27 rfl) rfl (wz rfl) (hb hby d7_28) (fun _ _ => ⟨rfl, rfl, (by decide : 4 + 2 ≤ _), (by decide : 84 + 20 ≤ _)⟩)
  dsimp only [Pt.U, Pt.locs, Pt.cells, Pt.slots] at X14 l14 y14 z14 st14 hQ14
  subst l14 y14 z14
  obtain ⟨o14, d14, kd14, rfl, N14q, K14q, E14q, C14q, F14q, V14q, z_o14, z_d14⟩ := hQ14
  have fk17 := (fk12.keep K6q)
  have ne_a1_o14 : a1 ≠ o14 := Nat.ne_of_lt (Nat.lt_of_lt_of_le fk17.lt z_o14)
  have ne_b2_o14 : b2 ≠ o14 := Nat.ne_of_lt (Nat.lt_of_lt_of_le E6q.lt z_o14)
  have ne_d3_o14 : d3 ≠ o14 := Nat.ne_of_lt (Nat.lt_of_lt_of_le fk15.lt z_o14)
  have sz_o14 : h0.size ≤ o14 := Nat.le_trans K6.1 z_o14
  have g_o14 : n0 ≤ o14 := Nat.le_trans Z0 sz_o14
  have ne_a1_d14 : a1 ≠ d14 := Nat.ne_of_lt (Nat.lt_of_lt_of_le fk17.lt z_d14)
  have ne_b2_d14 : b2 ≠ d14 := Nat.ne_of_lt (Nat.lt_of_lt_of_le E6q.lt z_d14)
  have ne_d3_d14 : d3 ≠ d14 := Nat.ne_of_lt (Nat.lt_of_lt_of_le fk15.lt z_d14)
  have sz_d14 : h0.size ≤ d14 := Nat.le_trans K6.1 z_d14
  have g_d14 : n0 ≤ d14 := Nat.le_trans Z0 sz_d14
  have N14 := Fr.app N6 N14q
  have K14 : Keep h0 T14.heap [] := Keep.trans K6 K14q all0
  have S18_o14 := Safe.keep K14q sf0 R6.1 (Safe.new z_o14)
  have S18_d14 := Safe.keep K14q sf0 R6.1 (Safe.new z_d14)
  have R18 := R6.trans (CHr.keep K14q sf0 R6.1)
  have hfin := R18.trans (CHv.at (s := s) (vm0 := T6.vm) X14 hZ (own_EW hw) R18.1)
  obtain ⟨fs, hr, hrun, hended, hEnd⟩ := X14.leaveW hS6 (Nat.le_trans (Nat.le_refl _) K14q.1) (v := some (.ref o14)) (fun h => by rw [Bd.returns] at h; cases h)
  refine ⟨_, _, pre0 _ ?_, hrun, hended, _, _, rfl, ?_, (by rw [hh]; show CHr Z consts_1 s.vm h0 T14.vm T14.heap; exact hfin), ⟨hEnd.1, hEnd.2.1, hEnd.2.2.1, hEnd.2.2.2.mono (by decide) (by decide)⟩⟩
  · show SA s₁ m 0 #[vR a1, .unset] []
    refine XS.aloadN X0.here hx rfl (hb hby d7_0) rfl rfl ?_
    show SA s₁ m 1 #[vR a1, .unset] [iR a1]
    refine st1 _ ?_
    show SA T1 m 4 #[vR a1, .unset] [.null]
    refine XS.ifnullYes X1.here hx rfl (pc0 := 4) (pc' := 12) rfl (hb hby d7_4) rfl (by decide) (by decide) ?_
    show SA T1 m 12 #[vR a1, .unset] []
    refine st2 _ ?_
    show SA T2 m 15 #[vR a1, .unset] [iR b2]
    refine XS.dup X2.here hx rfl (hb hby d7_15) rfl rfl ?_
    show SA T2 m 16 #[vR a1, .unset] [iR b2, iR b2]
    refine XS.bipush X2.here hx rfl (hb hby d7_16) ?_
    show SA T2 m 18 #[vR a1, .unset] [iI 16, iR b2, iR b2]
    refine st3.trans ?_
    show SA T3 m 21 #[vR a1, .unset] [iR b2]
    refine XS.astoreN X3.here hx rfl (hb hby d7_21) rfl rfl (l' := #[vR a1, vR b2]) rfl ?_
    show SA T3 m 22 #[vR a1, vR b2] []
    refine XS.aloadN X3.here hx rfl (hb hby d7_22) rfl rfl ?_
    show SA T3 m 23 #[vR a1, vR b2] [iR a1]
    refine XS.aloadN X3.here hx rfl (hb hby d7_23) rfl rfl ?_
    show SA T3 m 24 #[vR a1, vR b2] [iR b2, iR a1]
    refine st6.trans ?_
    show SA T6 m 27 #[vR a1, vR b2] []
    refine XS.aloadN X6.here hx rfl (hb hby d7_27) rfl rfl ?_
    show SA T6 m 28 #[vR a1, vR b2] [iR b2]
    refine st14.trans ?_
    show Steps _ _ _ (T14.setTop (mkF m 31 #[vR a1, vR b2] [iR o14])) _
    jvm_step X14.here [X14.here.top, hx, (hb hby d7_31), X14.method', Bd.returns, Value.isRef, FieldType.isReference]
    first | (intro acts; rw [hr _ acts rfl rfl rfl]) | rw [hr _ _ rfl rfl rfl]
    exact Steps.refl _
  · show Q7_p Z a1 x zz xs FL cs fm h0 n0 _ T14.heap _
    exact ⟨_, _, _, rfl, N14, K14, E14q, C14q, F14q, V14q⟩
def own_d (q1 : Int64) (p2 : Int32) : Int32 := (nar .char ((48 : Int32) + ((((q1.toUInt64 >>> (((4 : Int32) * p2) &&& 0x3f).toInt64.toUInt64).toInt64) &&& (15 : Int64)) - (((q1.toUInt64 >>> (((4 : Int32) * p2) &&& 0x3f).toInt64.toUInt64).toInt64) &&& (15 : Int64)) / (10 : Int64) * (10 : Int64)).toInt32).toUInt32.toUInt16.toUInt32.toInt32)
theorem d1_0 : decode method_2_code 0 = .ok (.bipush 48, 2) := by decide +kernel
theorem d1_2 : decode method_2_code 2 = .ok (.lload_n 0, 1) := by decide +kernel
theorem d1_3 : decode method_2_code 3 = .ok (.iconst 4, 1) := by decide +kernel
theorem d1_4 : decode method_2_code 4 = .ok (.iload_n 2, 1) := by decide +kernel
theorem d1_5 : decode method_2_code 5 = .ok (.imul, 1) := by decide +kernel
theorem d1_6 : decode method_2_code 6 = .ok (.lushr, 1) := by decide +kernel
theorem d1_7 : decode method_2_code 7 = .ok (.ldc2_w 7, 3) := by decide +kernel
theorem d1_10 : decode method_2_code 10 = .ok (.land, 1) := by decide +kernel
theorem d1_11 : decode method_2_code 11 = .ok (.ldc2_w 9, 3) := by decide +kernel
theorem d1_14 : decode method_2_code 14 = .ok (.lrem, 1) := by decide +kernel
theorem d1_15 : decode method_2_code 15 = .ok (.l2i, 1) := by decide +kernel
theorem d1_16 : decode method_2_code 16 = .ok (.iadd, 1) := by decide +kernel
theorem d1_17 : decode method_2_code 17 = .ok (.i2c, 1) := by decide +kernel
theorem d1_18 : decode method_2_code 18 = .ok (.ireturn, 1) := by decide +kernel
theorem pn_9 : plainName "com/example/plainjson/plainjson/JsonNumberParsedPinLaw" = true := by first | (simp [plainName, overriddenIn]; done) | decide +kernel
theorem ef_1 (m : MethodId) (x0 : Int64) (x1 : Int32) : entryFrame m #[(.long x0), (.int x1)] 3 = mkF m 0 #[.val (.long x0), .second, .val (.int x1)] [] := by first | (simp [entryFrame, mkF, argsToLocals, Value.category]; done) | rfl
def Q1 (Z : State) (q1 : Int64) (p2 : Int32) (h0 : Heap) (v : Option Value) (h : Heap) (L : List Loc) : Prop := v = some (.int (own_d q1 p2)) ∧ L = [] ∧ h = h0
theorem rm1 (l : Launch) (Z : State) (a0 : Array Value) (hw : ∀ d ∈ tables_1, d.before a0 Z = true) (ws : List Jvm.Cond) (q1 : Int64) (p2 : Int32) (h0 : Heap) :
    MetFree l mn_38 (head1 (Jvm.Cond.code mn_38 method_2_code 3 (some .char) :: ws) ({ frames := 0, cells := 0, slots := 0, locals := 0 } : Room)) (fun a U => a = #[(.long q1), (.int p2)] ∧ Z.Warmed39 U.vm ∧ U.heap = h0) (fun _ _ _ _ _ => True) (fun _ U o U' => ∃ v L, o = .returned v ∧ Q1 Z q1 p2 h0 v U'.heap L ∧ FrameEnd U o U' L ({ frames := 0, cells := 0, slots := 0, locals := 0 } : Room).cells ({ frames := 0, cells := 0, slots := 0, locals := 0 } : Room).slots) := by
  refine MetFree.of_bodySF (plainFor_of_name pn_9) hisR ?_
  intro p e s m args below meth c s₁ Bd hml0 hP hK
  obtain ⟨rfl, hZ, hh⟩ := hP
  have hx := Bd.exec
  have hby := Bd.bytes
  have hml : c.maxLocals = 3 := hml0
  have hown : s.vm.findClass "com/example/plainjson/plainjson/JsonNumberParsedPinLaw" = some m.cls := findClass_of_methodNamed Bd.named
  have hnm := (name_of_methodNamed Bd.named Bd.method).1
  have X0 : Stand p l e ({ frames := 0, cells := 0, slots := 0, locals := 0 } : Room) s m #[(.long q1), (.int p2)] below meth c s₁ [] 0 0 := Stand.of_body Bd
  have e0 : s₁.heap = h0 := by rw [← hh, Bd.state]; rfl
  have pre0 : ∀ t, Steps p.tables e below (s₁.setTop (mkF m 0 #[.val (.long q1), .second, .val (.int p2)] [])) t → Steps p.tables e below (s₁.setTop (entryFrame m #[(.long q1), (.int p2)] 3)) t := fun t k => castTop (ef_1 m q1 p2) k
  obtain ⟨fs, hr, hrun, hended, hW, hsame⟩ := X0.leave (v := some (.int (nar .char ((48 : Int32) + ((((q1.toUInt64 >>> (((4 : Int32) * p2) &&& 0x3f).toInt64.toUInt64).toInt64) &&& (15 : Int64)) - (((q1.toUInt64 >>> (((4 : Int32) * p2) &&& 0x3f).toInt64.toUInt64).toInt64) &&& (15 : Int64)) / (10 : Int64) * (10 : Int64)).toInt32).toUInt32.toUInt16.toUInt32.toInt32))) (fun h => by rw [Bd.returns] at h; cases h)
  refine ⟨_, _, pre0 _ ?_, hrun, hended, _, _, rfl, ?_, ⟨_, rfl⟩, hW, hsame.mono (by decide) (by decide)⟩
  · show SA s₁ m 0 #[vJ q1, .second, vI p2] []
    refine XS.bipush X0.here hx rfl (hb hby d1_0) ?_
    show SA s₁ m 2 #[vJ q1, .second, vI p2] [iI 48]
    refine XS.lloadN X0.here hx rfl (hb hby d1_2) rfl ?_
    show SA s₁ m 3 #[vJ q1, .second, vI p2] [iJ q1, iI 48]
    refine XS.iconst X0.here hx rfl (hb hby d1_3) ?_
    show SA s₁ m 4 #[vJ q1, .second, vI p2] [iI 4, iJ q1, iI 48]
    refine XS.iloadN X0.here hx rfl (hb hby d1_4) rfl ?_
    show SA s₁ m 5 #[vJ q1, .second, vI p2] [iI p2, iI 4, iJ q1, iI 48]
    refine XS.imul X0.here hx rfl (hb hby d1_5) rfl ?_
    show SA s₁ m 6 #[vJ q1, .second, vI p2] [iI ((4 : Int32) * p2), iJ q1, iI 48]
    refine XS.lushr X0.here hx rfl (hb hby d1_6) rfl ?_
    show SA s₁ m 7 #[vJ q1, .second, vI p2] [iJ ((q1.toUInt64 >>> (((4 : Int32) * p2) &&& 0x3f).toInt64.toUInt64).toInt64), iI 48]
    refine X0.ldc2Long hx hown (mvT hZ (ww hw 5 rfl)) (g := (mkF m 7 #[vJ q1, .second, vI p2] [iJ ((q1.toUInt64 >>> (((4 : Int32) * p2) &&& 0x3f).toInt64.toUInt64).toInt64), iI 48])) rfl (hb hby d1_7) _ ?_
    show SA s₁ m 10 #[vJ q1, .second, vI p2] [iJ 15, iJ ((q1.toUInt64 >>> (((4 : Int32) * p2) &&& 0x3f).toInt64.toUInt64).toInt64), iI 48]
    refine XS.land X0.here hx rfl (hb hby d1_10) rfl ?_
    show SA s₁ m 11 #[vJ q1, .second, vI p2] [iJ (((q1.toUInt64 >>> (((4 : Int32) * p2) &&& 0x3f).toInt64.toUInt64).toInt64) &&& (15 : Int64)), iI 48]
    refine X0.ldc2Long hx hown (mvT hZ (ww hw 6 rfl)) (g := (mkF m 11 #[vJ q1, .second, vI p2] [iJ (((q1.toUInt64 >>> (((4 : Int32) * p2) &&& 0x3f).toInt64.toUInt64).toInt64) &&& (15 : Int64)), iI 48])) rfl (hb hby d1_11) _ ?_
    show SA s₁ m 14 #[vJ q1, .second, vI p2] [iJ 10, iJ (((q1.toUInt64 >>> (((4 : Int32) * p2) &&& 0x3f).toInt64.toUInt64).toInt64) &&& (15 : Int64)), iI 48]
    refine XS.lrem X0.here hx rfl (hb hby d1_14) rfl (by decide) ?_
    show SA s₁ m 15 #[vJ q1, .second, vI p2] [iJ ((((q1.toUInt64 >>> (((4 : Int32) * p2) &&& 0x3f).toInt64.toUInt64).toInt64) &&& (15 : Int64)) - (((q1.toUInt64 >>> (((4 : Int32) * p2) &&& 0x3f).toInt64.toUInt64).toInt64) &&& (15 : Int64)) / (10 : Int64) * (10 : Int64)), iI 48]
    refine XS.l2i X0.here hx rfl (hb hby d1_15) rfl ?_
    show SA s₁ m 16 #[vJ q1, .second, vI p2] [iI ((((q1.toUInt64 >>> (((4 : Int32) * p2) &&& 0x3f).toInt64.toUInt64).toInt64) &&& (15 : Int64)) - (((q1.toUInt64 >>> (((4 : Int32) * p2) &&& 0x3f).toInt64.toUInt64).toInt64) &&& (15 : Int64)) / (10 : Int64) * (10 : Int64)).toInt32, iI 48]
    refine XS.iadd X0.here hx rfl (hb hby d1_16) rfl ?_
    show SA s₁ m 17 #[vJ q1, .second, vI p2] [iI ((48 : Int32) + ((((q1.toUInt64 >>> (((4 : Int32) * p2) &&& 0x3f).toInt64.toUInt64).toInt64) &&& (15 : Int64)) - (((q1.toUInt64 >>> (((4 : Int32) * p2) &&& 0x3f).toInt64.toUInt64).toInt64) &&& (15 : Int64)) / (10 : Int64) * (10 : Int64)).toInt32)]
    refine XS.i2c X0.here hx rfl (hb hby d1_17) rfl ?_
    show Steps _ _ _ (s₁.setTop (mkF m 18 #[vJ q1, .second, vI p2] [iI ((48 : Int32) + ((((q1.toUInt64 >>> (((4 : Int32) * p2) &&& 0x3f).toInt64.toUInt64).toInt64) &&& (15 : Int64)) - (((q1.toUInt64 >>> (((4 : Int32) * p2) &&& 0x3f).toInt64.toUInt64).toInt64) &&& (15 : Int64)) / (10 : Int64) * (10 : Int64)).toInt32).toUInt32.toUInt16.toUInt32.toInt32])) _
    exact retN X0 hx (t := .char) Bd.returns (by simp) (hb hby d1_18) hr
  · show Q1 Z q1 p2 h0 _ s₁.heap _
    rw [e0]
    exact ⟨by first | rfl | (simp only [own_d]; done) | (simp only [own_d]; rfl) | (simp only [own_d, nar] ; first | rfl | (simp; done) | decide), rfl, rfl⟩
theorem own_ofNat (v : Int32) (n : Nat) (hn : n ≤ 1000000) (h0 : 0 ≤ v.toInt) (h1 : v.toInt < n) : ∃ i, i < n ∧ v = Int32.ofNat i := by
  refine ⟨v.toInt.toNat, by omega, Int32.toInt_inj.mp ?_⟩
  rw [Int32.toInt_ofNat_of_lt (by omega)]; omega

theorem own_dig {x : Int32} (h : 48 ≤ x.toInt ∧ x.toInt ≤ 57) : x ∈ own_chars := by
  obtain ⟨i, hi, rfl⟩ := own_ofNat x 58 (by omega) (by omega) (by omega)
  have q : ∀ i : Fin 58, 48 ≤ i.val → Int32.ofNat i.val ∈ own_chars := by decide +kernel
  rw [Int32.toInt_ofNat_of_lt (by omega)] at h
  exact q ⟨i, hi⟩ (by show 48 ≤ i; omega)
theorem own_c16 {x : Int32} (h : 0 ≤ x.toInt ∧ x.toInt ≤ 200) : nar .char x.toUInt32.toUInt16.toUInt32.toInt32 = x ∧ nar .char x = x := by
  have h1 := c_i2c x
  have e1 : x.toUInt32.toUInt16.toUInt32.toInt32 = x := Int32.toInt_inj.mp (by omega)
  have e2 : nar .char x = x := e1
  exact ⟨by rw [e1]; exact e2, e2⟩
theorem own_land (x m : Int64) (k : Nat) (hm : m.toInt = (k : Int)) (hk : (k : Int) < 1000) : 0 ≤ (x &&& m).toInt ∧ (x &&& m).toInt ≤ k := by
  have e : (x &&& m).toBitVec.toNat = x.toBitVec.toNat &&& m.toBitVec.toNat := by simp
  have h1 : x.toBitVec.toNat &&& m.toBitVec.toNat ≤ m.toBitVec.toNat := Nat.and_le_right
  have h2 : (m.toBitVec.toNat : Int) = k := by
    have h3 : m.toBitVec.toInt = (k : Int) := hm
    rw [BitVec.toInt_eq_toNat_cond] at h3
    have := m.toBitVec.isLt
    split at h3 <;> omega
  have h4 : (x &&& m).toInt = ((x &&& m).toBitVec.toNat : Int) := by
    show (x &&& m).toBitVec.toInt = _
    rw [BitVec.toInt_eq_toNat_cond, e]
    split <;> omega
  rw [h4, e]
  omega
theorem own_d9 (y : Int64) : 0 ≤ ((y &&& (15 : Int64)) - (y &&& (15 : Int64)) / (10 : Int64) * (10 : Int64)).toInt32.toInt ∧ ((y &&& (15 : Int64)) - (y &&& (15 : Int64)) / (10 : Int64) * (10 : Int64)).toInt32.toInt ≤ 9 := by
  have h := own_land y 15 15 rfl (by decide)
  have h2 := (c_lrem (y &&& (15 : Int64)) 10 10 rfl).1 h.1
  have h3 := c_l2i ((y &&& (15 : Int64)) - (y &&& (15 : Int64)) / (10 : Int64) * (10 : Int64))
  have h4 := rng32 ((y &&& (15 : Int64)) - (y &&& (15 : Int64)) / (10 : Int64) * (10 : Int64)).toInt32
  omega
theorem own_okd (q : Int64) (p : Int32) : nar .char (own_d q p) ∈ own_chars := by
  have h := own_d9 ((q.toUInt64 >>> (((4 : Int32) * p) &&& 0x3f).toInt64.toUInt64).toInt64)
  unfold own_d
  generalize (((q.toUInt64 >>> (((4 : Int32) * p) &&& 0x3f).toInt64.toUInt64).toInt64 &&& (15 : Int64)) - (((q.toUInt64 >>> (((4 : Int32) * p) &&& 0x3f).toInt64.toUInt64).toInt64) &&& (15 : Int64)) / (10 : Int64) * (10 : Int64)).toInt32 = z at h ⊢
  have q1 := c_iadd 48 z
  have q2 := rng32 ((48 : Int32) + z)
  have e : (48 : Int32).toInt = 48 := rfl
  have hb : 48 ≤ ((48 : Int32) + z).toInt ∧ ((48 : Int32) + z).toInt ≤ 57 := by omega
  rw [(own_c16 (x := (48 : Int32) + z) ⟨by omega, by omega⟩).1, (own_c16 (x := (48 : Int32) + z) ⟨by omega, by omega⟩).2]
  exact own_dig hb
theorem own_ok1 (q : Int64) : nar .char ((49 : Int32) + ((((q.toUInt64 >>> ((16 : Int32) &&& 0x3f).toInt64.toUInt64).toInt64) &&& (7 : Int64)).toInt32)).toUInt32.toUInt16.toUInt32.toInt32 ∈ own_chars := by
  have h := own_land ((q.toUInt64 >>> ((16 : Int32) &&& 0x3f).toInt64.toUInt64).toInt64) 7 7 rfl (by decide)
  have h3 := c_l2i (((q.toUInt64 >>> ((16 : Int32) &&& 0x3f).toInt64.toUInt64).toInt64) &&& (7 : Int64))
  have h4 := rng32 ((((q.toUInt64 >>> ((16 : Int32) &&& 0x3f).toInt64.toUInt64).toInt64) &&& (7 : Int64)).toInt32)
  generalize ((((q.toUInt64 >>> ((16 : Int32) &&& 0x3f).toInt64.toUInt64).toInt64) &&& (7 : Int64)).toInt32) = z at h3 h4 ⊢
  have q1 := c_iadd 49 z
  have q2 := rng32 ((49 : Int32) + z)
  have e : (49 : Int32).toInt = 49 := rfl
  rw [(own_c16 (x := (49 : Int32) + z) ⟨by omega, by omega⟩).1]
  exact own_dig ⟨by omega, by omega⟩
theorem own_rem3 (x : Int32) : 0 ≤ ((x &&& (3 : Int32)) % (3 : Int32)).toInt ∧ ((x &&& (3 : Int32)) % (3 : Int32)).toInt ≤ 2 := by
  have h0 : 0 ≤ (x &&& (3 : Int32)).toInt := (c_and x 3 (by decide)).1
  rw [(c_irem (x &&& (3 : Int32)) 3 3 rfl).1 h0]
  omega
theorem own_rem18 (x : Int32) : 0 ≤ ((x &&& (31 : Int32)) % (18 : Int32)).toInt ∧ ((x &&& (31 : Int32)) % (18 : Int32)).toInt ≤ 17 := by
  have h0 : 0 ≤ (x &&& (31 : Int32)).toInt := (c_and x 31 (by decide)).1
  rw [(c_irem (x &&& (31 : Int32)) 18 18 rfl).1 h0]
  omega
theorem own_len18 (x : Int32) : 1 ≤ ((1 : Int32) + ((x &&& (31 : Int32)) % (18 : Int32))).toInt ∧ ((1 : Int32) + ((x &&& (31 : Int32)) % (18 : Int32))).toInt ≤ 18 := by
  have h := own_rem18 x
  have q := c_iadd 1 ((x &&& (31 : Int32)) % (18 : Int32))
  have r := rng32 ((1 : Int32) + ((x &&& (31 : Int32)) % (18 : Int32)))
  have e : (1 : Int32).toInt = 1 := rfl
  omega
theorem own_01 {v : Int32} {P : Prop} [Decidable P] (h : v = if P then (0 : Int32) else (1 : Int32)) : 0 ≤ v.toInt ∧ v.toInt ≤ 1 := by rw [h]; split <;> decide
theorem own_01b {v : Int32} {P Q : Prop} [Decidable P] [Decidable Q] (h : v = if P then (1 : Int32) else (if Q then (1 : Int32) else (0 : Int32))) : 0 ≤ v.toInt ∧ v.toInt ≤ 1 := by rw [h]; split <;> (try split) <;> decide
theorem own_ec {v : Int32} {P : Prop} [Decidable P] (h : v = if P then (101 : Int32) else (69 : Int32)) : v ∈ own_chars := by rw [h]; split <;> decide
theorem own_rx {he ep sv sl ln xo : Int32} (hep : 0 ≤ ep.toInt ∧ ep.toInt ≤ 17) (hsl : 0 ≤ sl.toInt ∧ sl.toInt ≤ 1) (h : xo = (if he = (0 : Int32) then (0 : Int32) else (if ep < (sv + (1 : Int32)) then (0 : Int32) else (if ln < ((ep + sl) + (2 : Int32)) then (0 : Int32) else (1 : Int32))))) : ¬ xo = (0 : Int32) → ep.toInt + 2 ≤ ln.toInt := by
  intro hx
  rw [h] at hx
  by_cases h1 : he = (0 : Int32)
  · simp only [if_pos h1] at hx; exact absurd trivial (by simp at hx)
  by_cases h2 : ep < (sv + (1 : Int32))
  · simp only [if_neg h1, if_pos h2] at hx; exact absurd trivial (by simp at hx)
  by_cases h3 : ln < ((ep + sl) + (2 : Int32))
  · simp only [if_neg h1, if_neg h2, if_pos h3] at hx; exact absurd trivial (by simp at hx)
  have q := c_iadd ep sl
  have q2 := c_iadd (ep + sl) 2
  have r := rng32 (ep + sl)
  have r2 := rng32 ((ep + sl) + (2 : Int32))
  have e : (2 : Int32).toInt = 2 := rfl
  rw [Int32.lt_iff_toInt_lt] at h3
  omega
theorem own_in1 {f g : Int32} (hf : 0 ≤ f.toInt ∧ f.toInt ≤ 2) (hg : 0 ≤ g.toInt ∧ g.toInt ≤ 17) : ¬ (f + g) < (0 : Int32) ∧ (f + g) < (20 : Int32) := by
  have q := c_iadd f g
  have r := rng32 (f + g)
  have e0 : (0 : Int32).toInt = 0 := rfl
  have e : (20 : Int32).toInt = 20 := rfl
  rw [Int32.lt_iff_toInt_lt, Int32.lt_iff_toInt_lt]
  omega
theorem own_in2 {f g : Int32} (hf : 0 ≤ f.toInt ∧ f.toInt ≤ 2) (hg : 0 ≤ g.toInt ∧ g.toInt ≤ 16) : ¬ ((f + g) + (1 : Int32)) < (0 : Int32) ∧ ((f + g) + (1 : Int32)) < (20 : Int32) := by
  have q := c_iadd f g
  have q2 := c_iadd (f + g) 1
  have r := rng32 (f + g)
  have r2 := rng32 ((f + g) + (1 : Int32))
  have e0 : (0 : Int32).toInt = 0 := rfl
  have e1 : (1 : Int32).toInt = 1 := rfl
  have e : (20 : Int32).toInt = 20 := rfl
  rw [Int32.lt_iff_toInt_lt, Int32.lt_iff_toInt_lt]
  omega
theorem own_in0 {f : Int32} (hf : 0 ≤ f.toInt ∧ f.toInt ≤ 2) : ¬ f < (0 : Int32) ∧ f < (20 : Int32) := by
  have e0 : (0 : Int32).toInt = 0 := rfl
  have e : (20 : Int32).toInt = 20 := rfl
  rw [Int32.lt_iff_toInt_lt, Int32.lt_iff_toInt_lt]
  omega
theorem own_in20 {j : Int32} (h : ¬ j < (0 : Int32) ∧ j < (20 : Int32)) : j.toNatClampNeg < 20 := by
  have e0 : (0 : Int32).toInt = 0 := rfl
  have e : (20 : Int32).toInt = 20 := rfl
  rw [Int32.lt_iff_toInt_lt, Int32.lt_iff_toInt_lt] at h
  simp only [Int32.toNatClampNeg]; omega
theorem own_bsSet (A : List Int32) (i : Nat) (x : Int32) : (own_bs A).set i (.int x) = own_bs (A.set i x) := List.map_set.symm
theorem own_okset {CL : List Int32} (hok : ∀ x ∈ CL, x ∈ own_chars) (i : Nat) {y : Int32} (hy : y ∈ own_chars) : ∀ x ∈ CL.set i y, x ∈ own_chars := fun x hx => (List.mem_or_eq_of_mem_set hx).elim (hok x) (fun e => e ▸ hy)
theorem own_sm {CL FL : List Int32} {f n : Int32} (hCL : CL.length = 20) (hok : ∀ x ∈ CL, x ∈ own_chars) (hf : 0 ≤ f.toInt ∧ f.toInt ≤ 2) (hl : 1 ≤ n.toInt ∧ n.toInt ≤ 18) (hF : (own_sub CL f n).map own_by = FL) : ∀ i : Int32, ¬ i < (0 : Int32) → i < n → own_chr (FL.getD i.toNatClampNeg 0) = CL.getD (f + i).toNatClampNeg 0 := by
  intro i h0 h1
  have e0 : (0 : Int32).toInt = 0 := rfl
  rw [Int32.lt_iff_toInt_lt, e0] at h0
  rw [Int32.lt_iff_toInt_lt] at h1
  have hi : i.toInt = (i.toNatClampNeg : Int) := by simp only [Int32.toNatClampNeg]; omega
  have hj : i.toNatClampNeg < n.toNatClampNeg := by simp only [Int32.toNatClampNeg]; omega
  obtain ⟨a1, a2, a3⟩ := own_inbJ hf hl hi hj
  have hs := own_pkS (CL := CL) (f := f) (n := n) hCL hf hl hj
  have hlen := own_sublen (CL := CL) hCL hf hl
  have hlt : i.toNatClampNeg < (own_sub CL f n).length := by rw [hlen]; exact hj
  have hg : (own_sub CL f n)[i.toNatClampNeg] = CL.getD (f.toNatClampNeg + i.toNatClampNeg) 0 := by
    rw [List.drop_eq_getElem_cons hlt] at hs
    exact (List.cons.inj hs).1
  rw [a3, ← hF, List.getD_eq_getElem?_getD, List.getElem?_map, List.getElem?_eq_getElem hlt, hg]
  show own_chr (own_by (CL.getD (f.toNatClampNeg + i.toNatClampNeg) 0)) = _
  exact (own_okc _ (own_getok hCL hok (by rw [← a3]; exact own_in20 ⟨a1, a2⟩))).2.2.2.2.2.2.2.1
theorem own_inA {f n : Int32} (hf : 0 ≤ f.toInt ∧ f.toInt ≤ 2) (hl : 1 ≤ n.toInt ∧ n.toInt ≤ 18) : ∀ i : Int32, ¬ i < (0 : Int32) → i < n → ¬ (f + i) < (0 : Int32) ∧ (f + i) < (20 : Int32) := by
  intro i h0 h1
  have e0 : (0 : Int32).toInt = 0 := rfl
  rw [Int32.lt_iff_toInt_lt, e0] at h0
  rw [Int32.lt_iff_toInt_lt] at h1
  have q := own_inbJ hf hl (i := i) (j := i.toNatClampNeg) (by simp only [Int32.toNatClampNeg]; omega) (by simp only [Int32.toNatClampNeg]; omega)
  exact ⟨q.1, q.2.1⟩
theorem own_cons {CL : List Int32} {f n : Int32} (hCL : CL.length = 20) (hf : 0 ≤ f.toInt ∧ f.toInt ≤ 2) (hl : 1 ≤ n.toInt ∧ n.toInt ≤ 18) : own_sub CL f n = CL.getD f.toNatClampNeg 0 :: (own_sub CL f n).drop 1 := by
  have h := own_pkS (CL := CL) (f := f) (n := n) (j := 0) hCL hf hl (by simp only [Int32.toNatClampNeg]; omega)
  exact h

theorem d33_0 : decode method_3_code 0 = .ok (.iload 4, 2) := by decide +kernel
theorem d33_2 : decode method_3_code 2 = .ok (.iload_n 3, 1) := by decide +kernel
theorem d33_3 : decode method_3_code 3 = .ok (.if_icmp .ge 18, 3) := by decide +kernel
theorem d33_6 : decode method_3_code 6 = .ok (.aload_n 0, 1) := by decide +kernel
theorem d33_7 : decode method_3_code 7 = .ok (.iload 4, 2) := by decide +kernel
theorem d33_9 : decode method_3_code 9 = .ok (.invokevirtual 11, 3) := by decide +kernel
theorem d33_12 : decode method_3_code 12 = .ok (.aload_n 1, 1) := by decide +kernel
theorem d33_13 : decode method_3_code 13 = .ok (.iload_n 2, 1) := by decide +kernel
theorem d33_14 : decode method_3_code 14 = .ok (.iload 4, 2) := by decide +kernel
theorem d33_16 : decode method_3_code 16 = .ok (.iadd, 1) := by decide +kernel
theorem d33_17 : decode method_3_code 17 = .ok (.caload, 1) := by decide +kernel
theorem d33_18 : decode method_3_code 18 = .ok (.if_icmp .ne 7, 3) := by decide +kernel
theorem d33_21 : decode method_3_code 21 = .ok (.iconst 1, 1) := by decide +kernel
theorem d33_22 : decode method_3_code 22 = .ok (.goto 4, 3) := by decide +kernel
theorem d33_26 : decode method_3_code 26 = .ok (.ireturn, 1) := by decide +kernel
theorem ef_33 (m : MethodId) (x0 : Addr) (x1 : Addr) (x2 : Int32) (x3 : Int32) (x4 : Int32) : entryFrame m #[(.ref x0), (.ref x1), (.int x2), (.int x3), (.int x4)] 5 = mkF m 0 #[.val (.ref x0), .val (.ref x1), .val (.int x2), .val (.int x3), .val (.int x4)] [] := by first | (simp [entryFrame, mkF, argsToLocals, Value.category]; done) | rfl
def Q33 (Z : State) (a1 : Addr) (a2 : Addr) (p3 : Int32) (p5 : Int32) (d : Addr) (kd : ClassId) (z : Int32) (B : List Int32) (kc : ClassId) (CL : List Int32) (cs : Int32) (fm : Value) (h0 : Heap) (v : Option Value) (h : Heap) (L : List Loc) : Prop := v = some (.int (1 : Int32)) ∧ L = [] ∧ h = h0
theorem rm33 (l : Launch) (Z : State) (a0 : Array Value) (hw : ∀ d ∈ tables_1, d.before a0 Z = true) (ws : List Jvm.Cond) (a1 : Addr) (a2 : Addr) (p3 : Int32) (p5 : Int32) (d : Addr) (kd : ClassId) (z : Int32) (B : List Int32) (kc : ClassId) (CL : List Int32) (cs : Int32) (fm : Value) (h0 : Heap) (n0 : Nat) (O0 : Old Z n0 h0) (E_a1 : Exa Z h0 a1 "java/lang/String") (Fc_a1 : Fld Z h0 a1 "java/lang/String" "coder" "B" (.int (0 : Int32))) (Fv_a1 : Fld Z h0 a1 "java/lang/String" "value" "[B" (.ref d)) (V_d : Arv Z h0 d kd .byte z (own_bs B) (.int (0 : Int32))) (hz : ¬ z < 0) (hB : z.toNatClampNeg = B.length) (V_c : Arv Z h0 a2 kc .char (20 : Int32) (own_bs CL) (.int (0 : Int32))) (h5 : ¬ p5 < (0 : Int32)) (hin : ∀ i : Int32, ¬ i < (0 : Int32) → i < z → ¬ (p3 + i) < (0 : Int32) ∧ (p3 + i) < (20 : Int32)) (hsm : ∀ i : Int32, ¬ i < (0 : Int32) → i < z → own_chr (B.getD i.toNatClampNeg 0) = CL.getD (p3 + i).toNatClampNeg 0) (S_CS : Sta Z Z.heap "java/lang/String" "COMPACT_STRINGS" "Z" (.int cs)) (h_cs : ¬ cs = (0 : Int32)) (S_F : Sta Z Z.heap "jdk/internal/util/Preconditions" "SIOOBE_FORMATTER" "Ljava/util/function/BiFunction;" fm) (h_fm : fm.isRef = true) :
    MetFree l mn_39 (head1 (Jvm.Cond.code mn_39 method_3_code 5 (some .boolean) :: ws) ({ frames := 4, cells := 0, slots := 0, locals := 53 } : Room)) (fun a U => a = #[(.ref a1), (.ref a2), (.int p3), (.int z), (.int p5)] ∧ Z.Warmed39 U.vm ∧ U.heap = h0) (fun _ _ _ _ _ => True) (fun _ U o U' => ∃ v L, o = .returned v ∧ Q33 Z a1 a2 p3 p5 d kd z B kc CL cs fm h0 v U'.heap L ∧ FrameEnd U o U' L ({ frames := 4, cells := 0, slots := 0, locals := 53 } : Room).cells ({ frames := 4, cells := 0, slots := 0, locals := 53 } : Room).slots) := by
  refine MetFree.of_bodySF (plainFor_of_name pn_9) hisR ?_
  intro p e s m args below meth c s₁ Bd hml0 hP hK
  obtain ⟨rfl, hZ, hh⟩ := hP
  have hx := Bd.exec
  have hby := Bd.bytes
  have hml : c.maxLocals = 5 := hml0
  have hown : s.vm.findClass "com/example/plainjson/plainjson/JsonNumberParsedPinLaw" = some m.cls := findClass_of_methodNamed Bd.named
  have hnm := (name_of_methodNamed Bd.named Bd.method).1
  have X0 : Stand p l e ({ frames := 4, cells := 0, slots := 0, locals := 53 } : Room) s m #[(.ref a1), (.ref a2), (.int p3), (.int z), (.int p5)] below meth c s₁ [] 0 0 := Stand.of_body Bd
  have e0 : s₁.heap = h0 := by rw [← hh, Bd.state]; rfl
  have pre0 : ∀ t, Steps p.tables e below (s₁.setTop (mkF m 0 #[.val (.ref a1), .val (.ref a2), .val (.int p3), .val (.int z), .val (.int p5)] [])) t → Steps p.tables e below (s₁.setTop (entryFrame m #[(.ref a1), (.ref a2), (.int p3), (.int z), (.int p5)] 5)) t := fun t k => castTop (ef_33 m a1 a2 p3 z p5) k
  have pre2 : ∀ t, Steps p.tables e below (s₁.setTop (mkF m 3 #[vR a1, vR a2, vI p3, vI z, vI p5] [iI z, iI p5])) t → Steps p.tables e below (s₁.setTop (entryFrame m #[(.ref a1), (.ref a2), (.int p3), (.int z), (.int p5)] 5)) t := by
    intro t kt
    refine pre0 t ?_
    show SA s₁ m 0 #[vR a1, vR a2, vI p3, vI z, vI p5] []
    refine XS.iload X0.here hx rfl (hb hby d33_0) rfl ?_
    show SA s₁ m 2 #[vR a1, vR a2, vI p3, vI z, vI p5] [iI p5]
    refine XS.iloadN X0.here hx rfl (hb hby d33_2) rfl ?_
    exact kt
  by_cases hc1 : p5 < z
  · obtain ⟨cq3, kq3, q3a, q3b, q3c⟩ := isOf hZ e0 E_a1
    obtain ⟨_, _, ⟨T3, L3, k3, n3⟩, -, X3, ⟨Lc3, hQ3, l3, y3, z3⟩, st3⟩ := X0.virtualBack hx (y := mn_4) (z := mn_4) hown (mvT hZ (ww hw 178 rfl)) (mvT hZ (ww hw 70 rfl)) (notFace_of_selects (args := #[]) (mvT hZ (ww hw 72 rfl))) (mvT hZ (ww hw 72 rfl)) (mvT hZ (ww hw 71 rfl)) (by decide) (backOf (W := 0) (rm11_v l Z a0 hw [] a1 p5 d kd z B (CL.getD (p3 + p5).toNatClampNeg 0) cs fm h0 n0 O0 E_a1 Fc_a1 Fv_a1 V_d hz hB h5 hc1 (hsm _ h5 hc1) S_CS h_cs S_F h_fm) hZ (ww hw 73 rfl) (ww hw 52 rfl) (by decide) (by decide)) q3a q3c (g := (mkF m 9 #[vR a1, vR a2, vI p3, vI z, vI p5] [iI p5, iR a1])) rfl (by rw [hml]; rfl) (Steps.refl _) (argsL := [(.int p5)]) (rest := []) (lenOf pd_25 rfl) rfl (wz rfl) (hb hby d33_9) (fun _ _ => ⟨rfl, e0, (by decide : 0 + 0 ≤ _), (by decide : 0 + 0 ≤ _)⟩)
    dsimp only [Pt.U, Pt.locs, Pt.cells, Pt.slots] at X3 l3 y3 z3 st3 hQ3
    subst l3 y3 z3
    obtain ⟨rfl, rfl, e3⟩ := hQ3
    try rw [List.append_nil] at X3
    obtain ⟨cl4, Ar4, q4, S4, M4, H4, G4⟩ := id V_c
    have hin5 : ¬ ((p3 + p5) < 0 ∨ cl4.slots.size ≤ ((p3 + p5)).toNatClampNeg) := inb_of S4 (hin _ h5 hc1)
    have hat6 : cl4.slots[((p3 + p5)).toNatClampNeg]? = some (.int (CL.getD (p3 + p5).toNatClampNeg 0)) := Has.at H4 hin5 (own_bsget CL _)
    obtain ⟨fs, hr, hrun, hended, hW, hsame⟩ := X3.leave (v := some (.int (1 : Int32))) (fun h => by rw [Bd.returns] at h; cases h)
    refine ⟨_, _, pre2 _ ?_, hrun, hended, _, _, rfl, ?_, ⟨_, rfl⟩, hW, hsame.mono (by decide) (by decide)⟩
    · show SA s₁ m 3 #[vR a1, vR a2, vI p3, vI z, vI p5] [iI z, iI p5]
      refine XS.icmpNo X0.here hx rfl (hb hby d33_3) rfl (tlt hc1).2.1 ?_
      show SA s₁ m 6 #[vR a1, vR a2, vI p3, vI z, vI p5] []
      refine XS.aloadN X0.here hx rfl (hb hby d33_6) rfl rfl ?_
      show SA s₁ m 7 #[vR a1, vR a2, vI p3, vI z, vI p5] [iR a1]
      refine XS.iload X0.here hx rfl (hb hby d33_7) rfl ?_
      show SA s₁ m 9 #[vR a1, vR a2, vI p3, vI z, vI p5] [iI p5, iR a1]
      refine st3.trans ?_
      show SA T3 m 12 #[vR a1, vR a2, vI p3, vI z, vI p5] [iI (CL.getD (p3 + p5).toNatClampNeg 0)]
      refine XS.aloadN X3.here hx rfl (hb hby d33_12) rfl rfl ?_
      show SA T3 m 13 #[vR a1, vR a2, vI p3, vI z, vI p5] [iR a2, iI (CL.getD (p3 + p5).toNatClampNeg 0)]
      refine XS.iloadN X3.here hx rfl (hb hby d33_13) rfl ?_
      show SA T3 m 14 #[vR a1, vR a2, vI p3, vI z, vI p5] [iI p3, iR a2, iI (CL.getD (p3 + p5).toNatClampNeg 0)]
      refine XS.iload X3.here hx rfl (hb hby d33_14) rfl ?_
      show SA T3 m 16 #[vR a1, vR a2, vI p3, vI z, vI p5] [iI p5, iI p3, iR a2, iI (CL.getD (p3 + p5).toNatClampNeg 0)]
      refine XS.iadd X3.here hx rfl (hb hby d33_16) rfl ?_
      show SA T3 m 17 #[vR a1, vR a2, vI p3, vI z, vI p5] [iI (p3 + p5), iR a2, iI (CL.getD (p3 + p5).toNatClampNeg 0)]
      refine X3.caload hx (j := (p3 + p5)) (v := (.int (CL.getD (p3 + p5).toNatClampNeg 0))) (by rw [e3]; exact Ar4.1) (State.isArrayOf_alike hZ.alike Ar4.2.1) Ar4.2.2 hin5 hat6 (g := (mkF m 17 #[vR a1, vR a2, vI p3, vI z, vI p5] [iI (p3 + p5), iR a2, iI (CL.getD (p3 + p5).toNatClampNeg 0)])) rfl rfl (hb hby d33_17) _ ?_
      show SA T3 m 18 #[vR a1, vR a2, vI p3, vI z, vI p5] [iI (CL.getD (p3 + p5).toNatClampNeg 0), iI (CL.getD (p3 + p5).toNatClampNeg 0)]
      refine XS.icmpNo X3.here hx rfl (hb hby d33_18) rfl (teq (rfl : (CL.getD (p3 + p5).toNatClampNeg 0) = (CL.getD (p3 + p5).toNatClampNeg 0))).2 ?_
      show SA T3 m 21 #[vR a1, vR a2, vI p3, vI z, vI p5] []
      refine XS.iconst X3.here hx rfl (hb hby d33_21) ?_
      show SA T3 m 22 #[vR a1, vR a2, vI p3, vI z, vI p5] [iI 1]
      refine XS.goto X3.here hx rfl (pc0 := 22) (pc' := 26) rfl (hb hby d33_22) (by decide) (by decide) ?_
      show Steps _ _ _ (T3.setTop (mkF m 26 #[vR a1, vR a2, vI p3, vI z, vI p5] [iI 1])) _
      exact retN X3 hx (t := .boolean) Bd.returns (by simp) (hb hby d33_26) hr
    · show Q33 Z a1 a2 p3 p5 d kd z B kc CL cs fm h0 _ T3.heap _
      rw [e3]
      exact ⟨rfl, rfl, rfl⟩
  · obtain ⟨fs, hr, hrun, hended, hW, hsame⟩ := X0.leave (v := some (.int (1 : Int32))) (fun h => by rw [Bd.returns] at h; cases h)
    refine ⟨_, _, pre2 _ ?_, hrun, hended, _, _, rfl, ?_, ⟨_, rfl⟩, hW, hsame.mono (by decide) (by decide)⟩
    · show SA s₁ m 3 #[vR a1, vR a2, vI p3, vI z, vI p5] [iI z, iI p5]
      refine XS.icmpYes X0.here hx rfl (pc0 := 3) (pc' := 21) rfl (hb hby d33_3) rfl (flt hc1).2.1 (by decide) (by decide) ?_
      show SA s₁ m 21 #[vR a1, vR a2, vI p3, vI z, vI p5] []
      refine XS.iconst X0.here hx rfl (hb hby d33_21) ?_
      show SA s₁ m 22 #[vR a1, vR a2, vI p3, vI z, vI p5] [iI 1]
      refine XS.goto X0.here hx rfl (pc0 := 22) (pc' := 26) rfl (hb hby d33_22) (by decide) (by decide) ?_
      show Steps _ _ _ (s₁.setTop (mkF m 26 #[vR a1, vR a2, vI p3, vI z, vI p5] [iI 1])) _
      exact retN X0 hx (t := .boolean) Bd.returns (by simp) (hb hby d33_26) hr
    · show Q33 Z a1 a2 p3 p5 d kd z B kc CL cs fm h0 _ s₁.heap _
      rw [e0]
      exact ⟨rfl, rfl, rfl⟩
def own_Q0 (n0 : Nat) (v : Option Value) (h : Heap) (L : List Loc) : Prop := v = some (.int (1 : Int32)) ∧ Fr n0 L
theorem own_t603 {p : Program} {l : Launch} {e : Env} {s : State} {m : MethodId} {below : List Frame} {meth : Method} {c : Code} {T0 : State} {locs : List Loc} {Z : State} {a0 : Array Value} {h0 hT : Heap} {n0 : Nat} {vmT : Vm} {kT : Nat} {q1 : Int64} {q2 : Int64} {p3 : Int32} {p4 : Int32} {s_T : Addr} {cl : Cell} {cs : Int32} {fm : Value} {cc : Addr} {fr ln ng_ he_ ec_ sg_ hd_ ep_ dp_ sv_ sl_ xo_ en_ dk_ ie_ : Int32} {kc : ClassId} {CL : List Int32} {jn tt d : Addr} {kd : ClassId} {B : List Int32}
    (X0 : Stand p l e room_1 (s.setVm vmT) m #[(.long q1), (.long q2), (.int p3), (.int p4)] below meth c T0 locs 8 126) (hx : p.tables.exec = Jvm.exec) (hZ : Z.Warmed39 (s.setVm vmT).vm) (hw : ∀ d ∈ tables_1, d.before a0 Z = true) (hby : c.code = code) (hml : c.maxLocals = 24) (hown : (s.setVm vmT).vm.findClass "com/example/plainjson/plainjson/JsonNumberParsedPinLaw" = some m.cls) (hret : meth.sig.returnType = some .boolean) (hlocks : meth.locks = false) (e0 : T0.heap = hT) (Kt0 : Keep h0 hT []) (N0 : Fr n0 locs) (Z0 : n0 ≤ h0.size) (O0 : Old Z n0 h0) (hS0 : s.Since vmT kT) (hk0 : kT ≤ hT.size) (RT : CHr Z consts_1 s.vm h0 vmT hT) (hh : s.heap = h0) (V_c : Arv Z hT cc kc .char (20 : Int32) (own_bs CL) (.int (0 : Int32))) (E_tt : Exa Z hT tt "java/lang/String") (Fc_tt : Fld Z hT tt "java/lang/String" "coder" "B" (.int (0 : Int32))) (Fv_tt : Fld Z hT tt "java/lang/String" "value" "[B" (.ref d)) (V_d : Arv Z hT d kd .byte ln (own_bs B) (.int (0 : Int32))) (hz : ¬ ln < 0) (hB : ln.toNatClampNeg = B.length) (hin : ∀ i : Int32, ¬ i < (0 : Int32) → i < ln → ¬ (fr + i) < (0 : Int32) ∧ (fr + i) < (20 : Int32)) (hsm : ∀ i : Int32, ¬ i < (0 : Int32) → i < ln → own_chr (B.getD i.toNatClampNeg 0) = CL.getD (fr + i).toNatClampNeg 0) (S_T : Sta Z Z.heap "com/example/plainjson/plainjson/JsonNumber" "PACK_CODES" "[B" (.ref s_T)) (TB : Tab Z Z.heap s_T cl .byte (59 : Int32)) (hTt : ∀ x ∈ own_chars, atv cl (x - (43 : Int32)) = own_cd x) (S_CS : Sta Z Z.heap "java/lang/String" "COMPACT_STRINGS" "Z" (.int cs)) (h_cs : ¬ cs = (0 : Int32)) (S_F : Sta Z Z.heap "jdk/internal/util/Preconditions" "SIOOBE_FORMATTER" "Ljava/util/function/BiFunction;" fm) (h_fm : fm.isRef = true) :
    ∃ s₂ o, Steps p.tables e below (T0.setTop (mkF m 603 #[vJ q1, .second, vJ q2, .second, vI p3, vI p4, vR cc, vI fr, vI ln, vI ng_, vI he_, vI ec_, vI sg_, vI hd_, vI ep_, vI dp_, vI sv_, vI sl_, vI xo_, vI en_, vI dk_, vI ie_, vR jn, vR tt] [])) s₂ ∧ s₂.status = .running ∧ Ended s₂ below o ∧ ∃ v L, o = .returned v ∧ own_Q0 n0 v s₂.heap L ∧ ReturnedEndW s o s₂ L room_1.cells room_1.slots := by
  have Oh2 := O0.keep Kt0 all0
  obtain ⟨cq1, kq1, q1a, q1b, q1c⟩ := isOf hZ e0 E_tt
  obtain ⟨_, _, ⟨T1, L1, k1, n1⟩, -, X1, ⟨Lc1, hQ1, l1, y1, z1⟩, st1⟩ := X0.virtualBack hx (y := mn_36) (z := mn_36) hown (mvT hZ (ww hw 165 rfl)) (mvT hZ (ww hw 166 rfl)) (notFace_of_selects (args := #[]) (mvT hZ (ww hw 168 rfl))) (mvT hZ (ww hw 168 rfl)) (mvT hZ (ww hw 167 rfl)) (by decide) (backOf (W := 0) (rm31 l Z a0 hw [] tt d kd ln B cs hT n0 Oh2 E_tt Fc_tt Fv_tt V_d hz hB S_CS h_cs) hZ (ww hw 169 rfl) (ww hw 52 rfl) (by decide) (by decide)) q1a q1c (g := (mkF m 605 #[vJ q1, .second, vJ q2, .second, vI p3, vI p4, vR cc, vI fr, vI ln, vI ng_, vI he_, vI ec_, vI sg_, vI hd_, vI ep_, vI dp_, vI sv_, vI sl_, vI xo_, vI en_, vI dk_, vI ie_, vR jn, vR tt] [iR tt])) rfl (by rw [hml]; rfl) (Steps.refl _) (argsL := []) (rest := []) (lenOf pd_20 rfl) rfl (wz rfl) (hb hby at_605) (fun _ _ => ⟨rfl, e0, (by decide : 8 + 0 ≤ _), (by decide : 126 + 0 ≤ _)⟩)
  dsimp only [Pt.U, Pt.locs, Pt.cells, Pt.slots] at X1 l1 y1 z1 st1 hQ1
  subst l1 y1 z1
  obtain ⟨rfl, rfl, e1⟩ := hQ1
  try rw [List.append_nil] at X1
  obtain ⟨_, _, ⟨T3, L3, k3, n3⟩, -, X3, ⟨Lc3, hQ3, l3, y3, z3⟩, st3⟩ := Jvm.LawKit.callS X1 hx (y := mn_39) hown (mvT hZ (ww hw 175 rfl)) (mvT hZ (ww hw 176 rfl)) (mvT hZ (ww hw 3 rfl)) (mvT hZ (ww hw 177 rfl)) (by decide) (backOf (W := 0) (rm33 l Z a0 hw [] tt cc fr (0 : Int32) d kd ln B kc CL cs fm hT n0 Oh2 E_tt Fc_tt Fv_tt V_d hz hB V_c (by decide) hin hsm S_CS h_cs S_F h_fm) hZ (ww hw 177 rfl) (ww hw 3 rfl) (by decide) (by decide)) (g := (mkF m 622 #[vJ q1, .second, vJ q2, .second, vI p3, vI p4, vR cc, vI fr, vI ln, vI ng_, vI he_, vI ec_, vI sg_, vI hd_, vI ep_, vI dp_, vI sv_, vI sl_, vI xo_, vI en_, vI dk_, vI ie_, vR jn, vR tt] [iI 0, iI ln, iI fr, iR cc, iR tt])) rfl (by rw [hml]; rfl) (argsL := [(.ref tt), (.ref cc), (.int fr), (.int ln), (.int (0 : Int32))]) (rest := []) (lenOf pd_29 rfl) rfl (wz rfl) (hb hby at_622) (fun _ _ => ⟨rfl, e1, (by decide : 8 + 0 ≤ _), (by decide : 126 + 0 ≤ _)⟩)
  dsimp only [Pt.U, Pt.locs, Pt.cells, Pt.slots] at X3 l3 y3 z3 st3 hQ3
  subst l3 y3 z3
  obtain ⟨rfl, rfl, e3⟩ := hQ3
  try rw [List.append_nil] at X3
  obtain ⟨_, _, ⟨T4, L4, k4, n4⟩, -, X4, ⟨Lc4, hQ4, l4, y4, z4⟩, st4⟩ := Jvm.LawKit.callS X3 hx (y := mn_39) hown (mvT hZ (ww hw 175 rfl)) (mvT hZ (ww hw 176 rfl)) (mvT hZ (ww hw 3 rfl)) (mvT hZ (ww hw 177 rfl)) (by decide) (backOf (W := 0) (rm33 l Z a0 hw [] tt cc fr (1 : Int32) d kd ln B kc CL cs fm hT n0 Oh2 E_tt Fc_tt Fv_tt V_d hz hB V_c (by decide) hin hsm S_CS h_cs S_F h_fm) hZ (ww hw 177 rfl) (ww hw 3 rfl) (by decide) (by decide)) (g := (mkF m 637 #[vJ q1, .second, vJ q2, .second, vI p3, vI p4, vR cc, vI fr, vI ln, vI ng_, vI he_, vI ec_, vI sg_, vI hd_, vI ep_, vI dp_, vI sv_, vI sl_, vI xo_, vI en_, vI dk_, vI ie_, vR jn, vR tt] [iI 1, iI ln, iI fr, iR cc, iR tt])) rfl (by rw [hml]; rfl) (argsL := [(.ref tt), (.ref cc), (.int fr), (.int ln), (.int (1 : Int32))]) (rest := []) (lenOf pd_29 rfl) rfl (wz rfl) (hb hby at_637) (fun _ _ => ⟨rfl, e3, (by decide : 8 + 0 ≤ _), (by decide : 126 + 0 ≤ _)⟩)
  dsimp only [Pt.U, Pt.locs, Pt.cells, Pt.slots] at X4 l4 y4 z4 st4 hQ4
  subst l4 y4 z4
  obtain ⟨rfl, rfl, e4⟩ := hQ4
  try rw [List.append_nil] at X4
  obtain ⟨_, _, ⟨T5, L5, k5, n5⟩, -, X5, ⟨Lc5, hQ5, l5, y5, z5⟩, st5⟩ := Jvm.LawKit.callS X4 hx (y := mn_39) hown (mvT hZ (ww hw 175 rfl)) (mvT hZ (ww hw 176 rfl)) (mvT hZ (ww hw 3 rfl)) (mvT hZ (ww hw 177 rfl)) (by decide) (backOf (W := 0) (rm33 l Z a0 hw [] tt cc fr (2 : Int32) d kd ln B kc CL cs fm hT n0 Oh2 E_tt Fc_tt Fv_tt V_d hz hB V_c (by decide) hin hsm S_CS h_cs S_F h_fm) hZ (ww hw 177 rfl) (ww hw 3 rfl) (by decide) (by decide)) (g := (mkF m 652 #[vJ q1, .second, vJ q2, .second, vI p3, vI p4, vR cc, vI fr, vI ln, vI ng_, vI he_, vI ec_, vI sg_, vI hd_, vI ep_, vI dp_, vI sv_, vI sl_, vI xo_, vI en_, vI dk_, vI ie_, vR jn, vR tt] [iI 2, iI ln, iI fr, iR cc, iR tt])) rfl (by rw [hml]; rfl) (argsL := [(.ref tt), (.ref cc), (.int fr), (.int ln), (.int (2 : Int32))]) (rest := []) (lenOf pd_29 rfl) rfl (wz rfl) (hb hby at_652) (fun _ _ => ⟨rfl, e4, (by decide : 8 + 0 ≤ _), (by decide : 126 + 0 ≤ _)⟩)
  dsimp only [Pt.U, Pt.locs, Pt.cells, Pt.slots] at X5 l5 y5 z5 st5 hQ5
  subst l5 y5 z5
  obtain ⟨rfl, rfl, e5⟩ := hQ5
  try rw [List.append_nil] at X5
  obtain ⟨_, _, ⟨T6, L6, k6, n6⟩, -, X6, ⟨Lc6, hQ6, l6, y6, z6⟩, st6⟩ := Jvm.LawKit.callS X5 hx (y := mn_39) hown (mvT hZ (ww hw 175 rfl)) (mvT hZ (ww hw 176 rfl)) (mvT hZ (ww hw 3 rfl)) (mvT hZ (ww hw 177 rfl)) (by decide) (backOf (W := 0) (rm33 l Z a0 hw [] tt cc fr (3 : Int32) d kd ln B kc CL cs fm hT n0 Oh2 E_tt Fc_tt Fv_tt V_d hz hB V_c (by decide) hin hsm S_CS h_cs S_F h_fm) hZ (ww hw 177 rfl) (ww hw 3 rfl) (by decide) (by decide)) (g := (mkF m 667 #[vJ q1, .second, vJ q2, .second, vI p3, vI p4, vR cc, vI fr, vI ln, vI ng_, vI he_, vI ec_, vI sg_, vI hd_, vI ep_, vI dp_, vI sv_, vI sl_, vI xo_, vI en_, vI dk_, vI ie_, vR jn, vR tt] [iI 3, iI ln, iI fr, iR cc, iR tt])) rfl (by rw [hml]; rfl) (argsL := [(.ref tt), (.ref cc), (.int fr), (.int ln), (.int (3 : Int32))]) (rest := []) (lenOf pd_29 rfl) rfl (wz rfl) (hb hby at_667) (fun _ _ => ⟨rfl, e5, (by decide : 8 + 0 ≤ _), (by decide : 126 + 0 ≤ _)⟩)
  dsimp only [Pt.U, Pt.locs, Pt.cells, Pt.slots] at X6 l6 y6 z6 st6 hQ6
  subst l6 y6 z6
  obtain ⟨rfl, rfl, e6⟩ := hQ6
  try rw [List.append_nil] at X6
  obtain ⟨_, _, ⟨T7, L7, k7, n7⟩, -, X7, ⟨Lc7, hQ7, l7, y7, z7⟩, st7⟩ := Jvm.LawKit.callS X6 hx (y := mn_39) hown (mvT hZ (ww hw 175 rfl)) (mvT hZ (ww hw 176 rfl)) (mvT hZ (ww hw 3 rfl)) (mvT hZ (ww hw 177 rfl)) (by decide) (backOf (W := 0) (rm33 l Z a0 hw [] tt cc fr (4 : Int32) d kd ln B kc CL cs fm hT n0 Oh2 E_tt Fc_tt Fv_tt V_d hz hB V_c (by decide) hin hsm S_CS h_cs S_F h_fm) hZ (ww hw 177 rfl) (ww hw 3 rfl) (by decide) (by decide)) (g := (mkF m 682 #[vJ q1, .second, vJ q2, .second, vI p3, vI p4, vR cc, vI fr, vI ln, vI ng_, vI he_, vI ec_, vI sg_, vI hd_, vI ep_, vI dp_, vI sv_, vI sl_, vI xo_, vI en_, vI dk_, vI ie_, vR jn, vR tt] [iI 4, iI ln, iI fr, iR cc, iR tt])) rfl (by rw [hml]; rfl) (argsL := [(.ref tt), (.ref cc), (.int fr), (.int ln), (.int (4 : Int32))]) (rest := []) (lenOf pd_29 rfl) rfl (wz rfl) (hb hby at_682) (fun _ _ => ⟨rfl, e6, (by decide : 8 + 0 ≤ _), (by decide : 126 + 0 ≤ _)⟩)
  dsimp only [Pt.U, Pt.locs, Pt.cells, Pt.slots] at X7 l7 y7 z7 st7 hQ7
  subst l7 y7 z7
  obtain ⟨rfl, rfl, e7⟩ := hQ7
  try rw [List.append_nil] at X7
  obtain ⟨_, _, ⟨T8, L8, k8, n8⟩, -, X8, ⟨Lc8, hQ8, l8, y8, z8⟩, st8⟩ := Jvm.LawKit.callS X7 hx (y := mn_39) hown (mvT hZ (ww hw 175 rfl)) (mvT hZ (ww hw 176 rfl)) (mvT hZ (ww hw 3 rfl)) (mvT hZ (ww hw 177 rfl)) (by decide) (backOf (W := 0) (rm33 l Z a0 hw [] tt cc fr (5 : Int32) d kd ln B kc CL cs fm hT n0 Oh2 E_tt Fc_tt Fv_tt V_d hz hB V_c (by decide) hin hsm S_CS h_cs S_F h_fm) hZ (ww hw 177 rfl) (ww hw 3 rfl) (by decide) (by decide)) (g := (mkF m 697 #[vJ q1, .second, vJ q2, .second, vI p3, vI p4, vR cc, vI fr, vI ln, vI ng_, vI he_, vI ec_, vI sg_, vI hd_, vI ep_, vI dp_, vI sv_, vI sl_, vI xo_, vI en_, vI dk_, vI ie_, vR jn, vR tt] [iI 5, iI ln, iI fr, iR cc, iR tt])) rfl (by rw [hml]; rfl) (argsL := [(.ref tt), (.ref cc), (.int fr), (.int ln), (.int (5 : Int32))]) (rest := []) (lenOf pd_29 rfl) rfl (wz rfl) (hb hby at_697) (fun _ _ => ⟨rfl, e7, (by decide : 8 + 0 ≤ _), (by decide : 126 + 0 ≤ _)⟩)
  dsimp only [Pt.U, Pt.locs, Pt.cells, Pt.slots] at X8 l8 y8 z8 st8 hQ8
  subst l8 y8 z8
  obtain ⟨rfl, rfl, e8⟩ := hQ8
  try rw [List.append_nil] at X8
  obtain ⟨_, _, ⟨T9, L9, k9, n9⟩, -, X9, ⟨Lc9, hQ9, l9, y9, z9⟩, st9⟩ := Jvm.LawKit.callS X8 hx (y := mn_39) hown (mvT hZ (ww hw 175 rfl)) (mvT hZ (ww hw 176 rfl)) (mvT hZ (ww hw 3 rfl)) (mvT hZ (ww hw 177 rfl)) (by decide) (backOf (W := 0) (rm33 l Z a0 hw [] tt cc fr (6 : Int32) d kd ln B kc CL cs fm hT n0 Oh2 E_tt Fc_tt Fv_tt V_d hz hB V_c (by decide) hin hsm S_CS h_cs S_F h_fm) hZ (ww hw 177 rfl) (ww hw 3 rfl) (by decide) (by decide)) (g := (mkF m 713 #[vJ q1, .second, vJ q2, .second, vI p3, vI p4, vR cc, vI fr, vI ln, vI ng_, vI he_, vI ec_, vI sg_, vI hd_, vI ep_, vI dp_, vI sv_, vI sl_, vI xo_, vI en_, vI dk_, vI ie_, vR jn, vR tt] [iI 6, iI ln, iI fr, iR cc, iR tt])) rfl (by rw [hml]; rfl) (argsL := [(.ref tt), (.ref cc), (.int fr), (.int ln), (.int (6 : Int32))]) (rest := []) (lenOf pd_29 rfl) rfl (wz rfl) (hb hby at_713) (fun _ _ => ⟨rfl, e8, (by decide : 8 + 0 ≤ _), (by decide : 126 + 0 ≤ _)⟩)
  dsimp only [Pt.U, Pt.locs, Pt.cells, Pt.slots] at X9 l9 y9 z9 st9 hQ9
  subst l9 y9 z9
  obtain ⟨rfl, rfl, e9⟩ := hQ9
  try rw [List.append_nil] at X9
  obtain ⟨_, _, ⟨T10, L10, k10, n10⟩, -, X10, ⟨Lc10, hQ10, l10, y10, z10⟩, st10⟩ := Jvm.LawKit.callS X9 hx (y := mn_39) hown (mvT hZ (ww hw 175 rfl)) (mvT hZ (ww hw 176 rfl)) (mvT hZ (ww hw 3 rfl)) (mvT hZ (ww hw 177 rfl)) (by decide) (backOf (W := 0) (rm33 l Z a0 hw [] tt cc fr (7 : Int32) d kd ln B kc CL cs fm hT n0 Oh2 E_tt Fc_tt Fv_tt V_d hz hB V_c (by decide) hin hsm S_CS h_cs S_F h_fm) hZ (ww hw 177 rfl) (ww hw 3 rfl) (by decide) (by decide)) (g := (mkF m 729 #[vJ q1, .second, vJ q2, .second, vI p3, vI p4, vR cc, vI fr, vI ln, vI ng_, vI he_, vI ec_, vI sg_, vI hd_, vI ep_, vI dp_, vI sv_, vI sl_, vI xo_, vI en_, vI dk_, vI ie_, vR jn, vR tt] [iI 7, iI ln, iI fr, iR cc, iR tt])) rfl (by rw [hml]; rfl) (argsL := [(.ref tt), (.ref cc), (.int fr), (.int ln), (.int (7 : Int32))]) (rest := []) (lenOf pd_29 rfl) rfl (wz rfl) (hb hby at_729) (fun _ _ => ⟨rfl, e9, (by decide : 8 + 0 ≤ _), (by decide : 126 + 0 ≤ _)⟩)
  dsimp only [Pt.U, Pt.locs, Pt.cells, Pt.slots] at X10 l10 y10 z10 st10 hQ10
  subst l10 y10 z10
  obtain ⟨rfl, rfl, e10⟩ := hQ10
  try rw [List.append_nil] at X10
  obtain ⟨_, _, ⟨T11, L11, k11, n11⟩, -, X11, ⟨Lc11, hQ11, l11, y11, z11⟩, st11⟩ := Jvm.LawKit.callS X10 hx (y := mn_39) hown (mvT hZ (ww hw 175 rfl)) (mvT hZ (ww hw 176 rfl)) (mvT hZ (ww hw 3 rfl)) (mvT hZ (ww hw 177 rfl)) (by decide) (backOf (W := 0) (rm33 l Z a0 hw [] tt cc fr (8 : Int32) d kd ln B kc CL cs fm hT n0 Oh2 E_tt Fc_tt Fv_tt V_d hz hB V_c (by decide) hin hsm S_CS h_cs S_F h_fm) hZ (ww hw 177 rfl) (ww hw 3 rfl) (by decide) (by decide)) (g := (mkF m 745 #[vJ q1, .second, vJ q2, .second, vI p3, vI p4, vR cc, vI fr, vI ln, vI ng_, vI he_, vI ec_, vI sg_, vI hd_, vI ep_, vI dp_, vI sv_, vI sl_, vI xo_, vI en_, vI dk_, vI ie_, vR jn, vR tt] [iI 8, iI ln, iI fr, iR cc, iR tt])) rfl (by rw [hml]; rfl) (argsL := [(.ref tt), (.ref cc), (.int fr), (.int ln), (.int (8 : Int32))]) (rest := []) (lenOf pd_29 rfl) rfl (wz rfl) (hb hby at_745) (fun _ _ => ⟨rfl, e10, (by decide : 8 + 0 ≤ _), (by decide : 126 + 0 ≤ _)⟩)
  dsimp only [Pt.U, Pt.locs, Pt.cells, Pt.slots] at X11 l11 y11 z11 st11 hQ11
  subst l11 y11 z11
  obtain ⟨rfl, rfl, e11⟩ := hQ11
  try rw [List.append_nil] at X11
  obtain ⟨_, _, ⟨T12, L12, k12, n12⟩, -, X12, ⟨Lc12, hQ12, l12, y12, z12⟩, st12⟩ := Jvm.LawKit.callS X11 hx (y := mn_39) hown (mvT hZ (ww hw 175 rfl)) (mvT hZ (ww hw 176 rfl)) (mvT hZ (ww hw 3 rfl)) (mvT hZ (ww hw 177 rfl)) (by decide) (backOf (W := 0) (rm33 l Z a0 hw [] tt cc fr (9 : Int32) d kd ln B kc CL cs fm hT n0 Oh2 E_tt Fc_tt Fv_tt V_d hz hB V_c (by decide) hin hsm S_CS h_cs S_F h_fm) hZ (ww hw 177 rfl) (ww hw 3 rfl) (by decide) (by decide)) (g := (mkF m 761 #[vJ q1, .second, vJ q2, .second, vI p3, vI p4, vR cc, vI fr, vI ln, vI ng_, vI he_, vI ec_, vI sg_, vI hd_, vI ep_, vI dp_, vI sv_, vI sl_, vI xo_, vI en_, vI dk_, vI ie_, vR jn, vR tt] [iI 9, iI ln, iI fr, iR cc, iR tt])) rfl (by rw [hml]; rfl) (argsL := [(.ref tt), (.ref cc), (.int fr), (.int ln), (.int (9 : Int32))]) (rest := []) (lenOf pd_29 rfl) rfl (wz rfl) (hb hby at_761) (fun _ _ => ⟨rfl, e11, (by decide : 8 + 0 ≤ _), (by decide : 126 + 0 ≤ _)⟩)
  dsimp only [Pt.U, Pt.locs, Pt.cells, Pt.slots] at X12 l12 y12 z12 st12 hQ12
  subst l12 y12 z12
  obtain ⟨rfl, rfl, e12⟩ := hQ12
  try rw [List.append_nil] at X12
  obtain ⟨_, _, ⟨T13, L13, k13, n13⟩, -, X13, ⟨Lc13, hQ13, l13, y13, z13⟩, st13⟩ := Jvm.LawKit.callS X12 hx (y := mn_39) hown (mvT hZ (ww hw 175 rfl)) (mvT hZ (ww hw 176 rfl)) (mvT hZ (ww hw 3 rfl)) (mvT hZ (ww hw 177 rfl)) (by decide) (backOf (W := 0) (rm33 l Z a0 hw [] tt cc fr (10 : Int32) d kd ln B kc CL cs fm hT n0 Oh2 E_tt Fc_tt Fv_tt V_d hz hB V_c (by decide) hin hsm S_CS h_cs S_F h_fm) hZ (ww hw 177 rfl) (ww hw 3 rfl) (by decide) (by decide)) (g := (mkF m 777 #[vJ q1, .second, vJ q2, .second, vI p3, vI p4, vR cc, vI fr, vI ln, vI ng_, vI he_, vI ec_, vI sg_, vI hd_, vI ep_, vI dp_, vI sv_, vI sl_, vI xo_, vI en_, vI dk_, vI ie_, vR jn, vR tt] [iI 10, iI ln, iI fr, iR cc, iR tt])) rfl (by rw [hml]; rfl) (argsL := [(.ref tt), (.ref cc), (.int fr), (.int ln), (.int (10 : Int32))]) (rest := []) (lenOf pd_29 rfl) rfl (wz rfl) (hb hby at_777) (fun _ _ => ⟨rfl, e12, (by decide : 8 + 0 ≤ _), (by decide : 126 + 0 ≤ _)⟩)
  dsimp only [Pt.U, Pt.locs, Pt.cells, Pt.slots] at X13 l13 y13 z13 st13 hQ13
  subst l13 y13 z13
  obtain ⟨rfl, rfl, e13⟩ := hQ13
  try rw [List.append_nil] at X13
  obtain ⟨_, _, ⟨T14, L14, k14, n14⟩, -, X14, ⟨Lc14, hQ14, l14, y14, z14⟩, st14⟩ := Jvm.LawKit.callS X13 hx (y := mn_39) hown (mvT hZ (ww hw 175 rfl)) (mvT hZ (ww hw 176 rfl)) (mvT hZ (ww hw 3 rfl)) (mvT hZ (ww hw 177 rfl)) (by decide) (backOf (W := 0) (rm33 l Z a0 hw [] tt cc fr (11 : Int32) d kd ln B kc CL cs fm hT n0 Oh2 E_tt Fc_tt Fv_tt V_d hz hB V_c (by decide) hin hsm S_CS h_cs S_F h_fm) hZ (ww hw 177 rfl) (ww hw 3 rfl) (by decide) (by decide)) (g := (mkF m 793 #[vJ q1, .second, vJ q2, .second, vI p3, vI p4, vR cc, vI fr, vI ln, vI ng_, vI he_, vI ec_, vI sg_, vI hd_, vI ep_, vI dp_, vI sv_, vI sl_, vI xo_, vI en_, vI dk_, vI ie_, vR jn, vR tt] [iI 11, iI ln, iI fr, iR cc, iR tt])) rfl (by rw [hml]; rfl) (argsL := [(.ref tt), (.ref cc), (.int fr), (.int ln), (.int (11 : Int32))]) (rest := []) (lenOf pd_29 rfl) rfl (wz rfl) (hb hby at_793) (fun _ _ => ⟨rfl, e13, (by decide : 8 + 0 ≤ _), (by decide : 126 + 0 ≤ _)⟩)
  dsimp only [Pt.U, Pt.locs, Pt.cells, Pt.slots] at X14 l14 y14 z14 st14 hQ14
  subst l14 y14 z14
  obtain ⟨rfl, rfl, e14⟩ := hQ14
  try rw [List.append_nil] at X14
  obtain ⟨_, _, ⟨T15, L15, k15, n15⟩, -, X15, ⟨Lc15, hQ15, l15, y15, z15⟩, st15⟩ := Jvm.LawKit.callS X14 hx (y := mn_39) hown (mvT hZ (ww hw 175 rfl)) (mvT hZ (ww hw 176 rfl)) (mvT hZ (ww hw 3 rfl)) (mvT hZ (ww hw 177 rfl)) (by decide) (backOf (W := 0) (rm33 l Z a0 hw [] tt cc fr (12 : Int32) d kd ln B kc CL cs fm hT n0 Oh2 E_tt Fc_tt Fv_tt V_d hz hB V_c (by decide) hin hsm S_CS h_cs S_F h_fm) hZ (ww hw 177 rfl) (ww hw 3 rfl) (by decide) (by decide)) (g := (mkF m 809 #[vJ q1, .second, vJ q2, .second, vI p3, vI p4, vR cc, vI fr, vI ln, vI ng_, vI he_, vI ec_, vI sg_, vI hd_, vI ep_, vI dp_, vI sv_, vI sl_, vI xo_, vI en_, vI dk_, vI ie_, vR jn, vR tt] [iI 12, iI ln, iI fr, iR cc, iR tt])) rfl (by rw [hml]; rfl) (argsL := [(.ref tt), (.ref cc), (.int fr), (.int ln), (.int (12 : Int32))]) (rest := []) (lenOf pd_29 rfl) rfl (wz rfl) (hb hby at_809) (fun _ _ => ⟨rfl, e14, (by decide : 8 + 0 ≤ _), (by decide : 126 + 0 ≤ _)⟩)
  dsimp only [Pt.U, Pt.locs, Pt.cells, Pt.slots] at X15 l15 y15 z15 st15 hQ15
  subst l15 y15 z15
  obtain ⟨rfl, rfl, e15⟩ := hQ15
  try rw [List.append_nil] at X15
  obtain ⟨_, _, ⟨T16, L16, k16, n16⟩, -, X16, ⟨Lc16, hQ16, l16, y16, z16⟩, st16⟩ := Jvm.LawKit.callS X15 hx (y := mn_39) hown (mvT hZ (ww hw 175 rfl)) (mvT hZ (ww hw 176 rfl)) (mvT hZ (ww hw 3 rfl)) (mvT hZ (ww hw 177 rfl)) (by decide) (backOf (W := 0) (rm33 l Z a0 hw [] tt cc fr (13 : Int32) d kd ln B kc CL cs fm hT n0 Oh2 E_tt Fc_tt Fv_tt V_d hz hB V_c (by decide) hin hsm S_CS h_cs S_F h_fm) hZ (ww hw 177 rfl) (ww hw 3 rfl) (by decide) (by decide)) (g := (mkF m 825 #[vJ q1, .second, vJ q2, .second, vI p3, vI p4, vR cc, vI fr, vI ln, vI ng_, vI he_, vI ec_, vI sg_, vI hd_, vI ep_, vI dp_, vI sv_, vI sl_, vI xo_, vI en_, vI dk_, vI ie_, vR jn, vR tt] [iI 13, iI ln, iI fr, iR cc, iR tt])) rfl (by rw [hml]; rfl) (argsL := [(.ref tt), (.ref cc), (.int fr), (.int ln), (.int (13 : Int32))]) (rest := []) (lenOf pd_29 rfl) rfl (wz rfl) (hb hby at_825) (fun _ _ => ⟨rfl, e15, (by decide : 8 + 0 ≤ _), (by decide : 126 + 0 ≤ _)⟩)
  dsimp only [Pt.U, Pt.locs, Pt.cells, Pt.slots] at X16 l16 y16 z16 st16 hQ16
  subst l16 y16 z16
  obtain ⟨rfl, rfl, e16⟩ := hQ16
  try rw [List.append_nil] at X16
  obtain ⟨_, _, ⟨T17, L17, k17, n17⟩, -, X17, ⟨Lc17, hQ17, l17, y17, z17⟩, st17⟩ := Jvm.LawKit.callS X16 hx (y := mn_39) hown (mvT hZ (ww hw 175 rfl)) (mvT hZ (ww hw 176 rfl)) (mvT hZ (ww hw 3 rfl)) (mvT hZ (ww hw 177 rfl)) (by decide) (backOf (W := 0) (rm33 l Z a0 hw [] tt cc fr (14 : Int32) d kd ln B kc CL cs fm hT n0 Oh2 E_tt Fc_tt Fv_tt V_d hz hB V_c (by decide) hin hsm S_CS h_cs S_F h_fm) hZ (ww hw 177 rfl) (ww hw 3 rfl) (by decide) (by decide)) (g := (mkF m 841 #[vJ q1, .second, vJ q2, .second, vI p3, vI p4, vR cc, vI fr, vI ln, vI ng_, vI he_, vI ec_, vI sg_, vI hd_, vI ep_, vI dp_, vI sv_, vI sl_, vI xo_, vI en_, vI dk_, vI ie_, vR jn, vR tt] [iI 14, iI ln, iI fr, iR cc, iR tt])) rfl (by rw [hml]; rfl) (argsL := [(.ref tt), (.ref cc), (.int fr), (.int ln), (.int (14 : Int32))]) (rest := []) (lenOf pd_29 rfl) rfl (wz rfl) (hb hby at_841) (fun _ _ => ⟨rfl, e16, (by decide : 8 + 0 ≤ _), (by decide : 126 + 0 ≤ _)⟩)
  dsimp only [Pt.U, Pt.locs, Pt.cells, Pt.slots] at X17 l17 y17 z17 st17 hQ17
  subst l17 y17 z17
  obtain ⟨rfl, rfl, e17⟩ := hQ17
  try rw [List.append_nil] at X17
  obtain ⟨_, _, ⟨T18, L18, k18, n18⟩, -, X18, ⟨Lc18, hQ18, l18, y18, z18⟩, st18⟩ := Jvm.LawKit.callS X17 hx (y := mn_39) hown (mvT hZ (ww hw 175 rfl)) (mvT hZ (ww hw 176 rfl)) (mvT hZ (ww hw 3 rfl)) (mvT hZ (ww hw 177 rfl)) (by decide) (backOf (W := 0) (rm33 l Z a0 hw [] tt cc fr (15 : Int32) d kd ln B kc CL cs fm hT n0 Oh2 E_tt Fc_tt Fv_tt V_d hz hB V_c (by decide) hin hsm S_CS h_cs S_F h_fm) hZ (ww hw 177 rfl) (ww hw 3 rfl) (by decide) (by decide)) (g := (mkF m 857 #[vJ q1, .second, vJ q2, .second, vI p3, vI p4, vR cc, vI fr, vI ln, vI ng_, vI he_, vI ec_, vI sg_, vI hd_, vI ep_, vI dp_, vI sv_, vI sl_, vI xo_, vI en_, vI dk_, vI ie_, vR jn, vR tt] [iI 15, iI ln, iI fr, iR cc, iR tt])) rfl (by rw [hml]; rfl) (argsL := [(.ref tt), (.ref cc), (.int fr), (.int ln), (.int (15 : Int32))]) (rest := []) (lenOf pd_29 rfl) rfl (wz rfl) (hb hby at_857) (fun _ _ => ⟨rfl, e17, (by decide : 8 + 0 ≤ _), (by decide : 126 + 0 ≤ _)⟩)
  dsimp only [Pt.U, Pt.locs, Pt.cells, Pt.slots] at X18 l18 y18 z18 st18 hQ18
  subst l18 y18 z18
  obtain ⟨rfl, rfl, e18⟩ := hQ18
  try rw [List.append_nil] at X18
  obtain ⟨_, _, ⟨T19, L19, k19, n19⟩, -, X19, ⟨Lc19, hQ19, l19, y19, z19⟩, st19⟩ := Jvm.LawKit.callS X18 hx (y := mn_39) hown (mvT hZ (ww hw 175 rfl)) (mvT hZ (ww hw 176 rfl)) (mvT hZ (ww hw 3 rfl)) (mvT hZ (ww hw 177 rfl)) (by decide) (backOf (W := 0) (rm33 l Z a0 hw [] tt cc fr (16 : Int32) d kd ln B kc CL cs fm hT n0 Oh2 E_tt Fc_tt Fv_tt V_d hz hB V_c (by decide) hin hsm S_CS h_cs S_F h_fm) hZ (ww hw 177 rfl) (ww hw 3 rfl) (by decide) (by decide)) (g := (mkF m 873 #[vJ q1, .second, vJ q2, .second, vI p3, vI p4, vR cc, vI fr, vI ln, vI ng_, vI he_, vI ec_, vI sg_, vI hd_, vI ep_, vI dp_, vI sv_, vI sl_, vI xo_, vI en_, vI dk_, vI ie_, vR jn, vR tt] [iI 16, iI ln, iI fr, iR cc, iR tt])) rfl (by rw [hml]; rfl) (argsL := [(.ref tt), (.ref cc), (.int fr), (.int ln), (.int (16 : Int32))]) (rest := []) (lenOf pd_29 rfl) rfl (wz rfl) (hb hby at_873) (fun _ _ => ⟨rfl, e18, (by decide : 8 + 0 ≤ _), (by decide : 126 + 0 ≤ _)⟩)
  dsimp only [Pt.U, Pt.locs, Pt.cells, Pt.slots] at X19 l19 y19 z19 st19 hQ19
  subst l19 y19 z19
  obtain ⟨rfl, rfl, e19⟩ := hQ19
  try rw [List.append_nil] at X19
  obtain ⟨_, _, ⟨T20, L20, k20, n20⟩, -, X20, ⟨Lc20, hQ20, l20, y20, z20⟩, st20⟩ := Jvm.LawKit.callS X19 hx (y := mn_39) hown (mvT hZ (ww hw 175 rfl)) (mvT hZ (ww hw 176 rfl)) (mvT hZ (ww hw 3 rfl)) (mvT hZ (ww hw 177 rfl)) (by decide) (backOf (W := 0) (rm33 l Z a0 hw [] tt cc fr (17 : Int32) d kd ln B kc CL cs fm hT n0 Oh2 E_tt Fc_tt Fv_tt V_d hz hB V_c (by decide) hin hsm S_CS h_cs S_F h_fm) hZ (ww hw 177 rfl) (ww hw 3 rfl) (by decide) (by decide)) (g := (mkF m 889 #[vJ q1, .second, vJ q2, .second, vI p3, vI p4, vR cc, vI fr, vI ln, vI ng_, vI he_, vI ec_, vI sg_, vI hd_, vI ep_, vI dp_, vI sv_, vI sl_, vI xo_, vI en_, vI dk_, vI ie_, vR jn, vR tt] [iI 17, iI ln, iI fr, iR cc, iR tt])) rfl (by rw [hml]; rfl) (argsL := [(.ref tt), (.ref cc), (.int fr), (.int ln), (.int (17 : Int32))]) (rest := []) (lenOf pd_29 rfl) rfl (wz rfl) (hb hby at_889) (fun _ _ => ⟨rfl, e19, (by decide : 8 + 0 ≤ _), (by decide : 126 + 0 ≤ _)⟩)
  dsimp only [Pt.U, Pt.locs, Pt.cells, Pt.slots] at X20 l20 y20 z20 st20 hQ20
  subst l20 y20 z20
  obtain ⟨rfl, rfl, e20⟩ := hQ20
  try rw [List.append_nil] at X20
  obtain ⟨fs, hr, hrun, hended, hEnd⟩ := X20.leaveW hS0 (by rw [e20]; exact hk0) (v := some (.int (1 : Int32))) (fun h => by rw [hret] at h; cases h)
  refine ⟨_, _, ?_, hrun, hended, _, _, rfl, ?_, ⟨hEnd.1, hEnd.2.1, hEnd.2.2.1, hEnd.2.2.2.mono (by decide) (by decide)⟩⟩
  · show SA T0 m 603 #[vJ q1, .second, vJ q2, .second, vI p3, vI p4, vR cc, vI fr, vI ln, vI ng_, vI he_, vI ec_, vI sg_, vI hd_, vI ep_, vI dp_, vI sv_, vI sl_, vI xo_, vI en_, vI dk_, vI ie_, vR jn, vR tt] []
    refine XS.aload X0.here hx rfl (hb hby at_603) rfl rfl ?_
    show SA T0 m 605 #[vJ q1, .second, vJ q2, .second, vI p3, vI p4, vR cc, vI fr, vI ln, vI ng_, vI he_, vI ec_, vI sg_, vI hd_, vI ep_, vI dp_, vI sv_, vI sl_, vI xo_, vI en_, vI dk_, vI ie_, vR jn, vR tt] [iR tt]
    refine st1.trans ?_
    show SA T1 m 608 #[vJ q1, .second, vJ q2, .second, vI p3, vI p4, vR cc, vI fr, vI ln, vI ng_, vI he_, vI ec_, vI sg_, vI hd_, vI ep_, vI dp_, vI sv_, vI sl_, vI xo_, vI en_, vI dk_, vI ie_, vR jn, vR tt] [iI ln]
    refine XS.iload X1.here hx rfl (hb hby at_608) rfl ?_
    show SA T1 m 610 #[vJ q1, .second, vJ q2, .second, vI p3, vI p4, vR cc, vI fr, vI ln, vI ng_, vI he_, vI ec_, vI sg_, vI hd_, vI ep_, vI dp_, vI sv_, vI sl_, vI xo_, vI en_, vI dk_, vI ie_, vR jn, vR tt] [iI ln, iI ln]
    refine XS.icmpNo X1.here hx rfl (hb hby at_610) rfl (teq (rfl : ln = ln)).2 ?_
    show SA T1 m 613 #[vJ q1, .second, vJ q2, .second, vI p3, vI p4, vR cc, vI fr, vI ln, vI ng_, vI he_, vI ec_, vI sg_, vI hd_, vI ep_, vI dp_, vI sv_, vI sl_, vI xo_, vI en_, vI dk_, vI ie_, vR jn, vR tt] []
    refine XS.aload X1.here hx rfl (hb hby at_613) rfl rfl ?_
    show SA T1 m 615 #[vJ q1, .second, vJ q2, .second, vI p3, vI p4, vR cc, vI fr, vI ln, vI ng_, vI he_, vI ec_, vI sg_, vI hd_, vI ep_, vI dp_, vI sv_, vI sl_, vI xo_, vI en_, vI dk_, vI ie_, vR jn, vR tt] [iR tt]
    refine XS.aload X1.here hx rfl (hb hby at_615) rfl rfl ?_
    show SA T1 m 617 #[vJ q1, .second, vJ q2, .second, vI p3, vI p4, vR cc, vI fr, vI ln, vI ng_, vI he_, vI ec_, vI sg_, vI hd_, vI ep_, vI dp_, vI sv_, vI sl_, vI xo_, vI en_, vI dk_, vI ie_, vR jn, vR tt] [iR cc, iR tt]
    refine XS.iload X1.here hx rfl (hb hby at_617) rfl ?_
    show SA T1 m 619 #[vJ q1, .second, vJ q2, .second, vI p3, vI p4, vR cc, vI fr, vI ln, vI ng_, vI he_, vI ec_, vI sg_, vI hd_, vI ep_, vI dp_, vI sv_, vI sl_, vI xo_, vI en_, vI dk_, vI ie_, vR jn, vR tt] [iI fr, iR cc, iR tt]
    refine XS.iload X1.here hx rfl (hb hby at_619) rfl ?_
    show SA T1 m 621 #[vJ q1, .second, vJ q2, .second, vI p3, vI p4, vR cc, vI fr, vI ln, vI ng_, vI he_, vI ec_, vI sg_, vI hd_, vI ep_, vI dp_, vI sv_, vI sl_, vI xo_, vI en_, vI dk_, vI ie_, vR jn, vR tt] [iI ln, iI fr, iR cc, iR tt]
    refine XS.iconst X1.here hx rfl (hb hby at_621) ?_
    show SA T1 m 622 #[vJ q1, .second, vJ q2, .second, vI p3, vI p4, vR cc, vI fr, vI ln, vI ng_, vI he_, vI ec_, vI sg_, vI hd_, vI ep_, vI dp_, vI sv_, vI sl_, vI xo_, vI en_, vI dk_, vI ie_, vR jn, vR tt] [iI 0, iI ln, iI fr, iR cc, iR tt]
    refine st3 _ ?_
    show SA T3 m 625 #[vJ q1, .second, vJ q2, .second, vI p3, vI p4, vR cc, vI fr, vI ln, vI ng_, vI he_, vI ec_, vI sg_, vI hd_, vI ep_, vI dp_, vI sv_, vI sl_, vI xo_, vI en_, vI dk_, vI ie_, vR jn, vR tt] [iI 1]
    refine XS.ifNo X3.here hx rfl (hb hby at_625) rfl ((if0 _ _).trans (feq (by decide : ¬ ((1 : Int32) = (0 : Int32)))).1) ?_
    show SA T3 m 628 #[vJ q1, .second, vJ q2, .second, vI p3, vI p4, vR cc, vI fr, vI ln, vI ng_, vI he_, vI ec_, vI sg_, vI hd_, vI ep_, vI dp_, vI sv_, vI sl_, vI xo_, vI en_, vI dk_, vI ie_, vR jn, vR tt] []
    refine XS.aload X3.here hx rfl (hb hby at_628) rfl rfl ?_
    show SA T3 m 630 #[vJ q1, .second, vJ q2, .second, vI p3, vI p4, vR cc, vI fr, vI ln, vI ng_, vI he_, vI ec_, vI sg_, vI hd_, vI ep_, vI dp_, vI sv_, vI sl_, vI xo_, vI en_, vI dk_, vI ie_, vR jn, vR tt] [iR tt]
    refine XS.aload X3.here hx rfl (hb hby at_630) rfl rfl ?_
    show SA T3 m 632 #[vJ q1, .second, vJ q2, .second, vI p3, vI p4, vR cc, vI fr, vI ln, vI ng_, vI he_, vI ec_, vI sg_, vI hd_, vI ep_, vI dp_, vI sv_, vI sl_, vI xo_, vI en_, vI dk_, vI ie_, vR jn, vR tt] [iR cc, iR tt]
    refine XS.iload X3.here hx rfl (hb hby at_632) rfl ?_
    show SA T3 m 634 #[vJ q1, .second, vJ q2, .second, vI p3, vI p4, vR cc, vI fr, vI ln, vI ng_, vI he_, vI ec_, vI sg_, vI hd_, vI ep_, vI dp_, vI sv_, vI sl_, vI xo_, vI en_, vI dk_, vI ie_, vR jn, vR tt] [iI fr, iR cc, iR tt]
    refine XS.iload X3.here hx rfl (hb hby at_634) rfl ?_
    show SA T3 m 636 #[vJ q1, .second, vJ q2, .second, vI p3, vI p4, vR cc, vI fr, vI ln, vI ng_, vI he_, vI ec_, vI sg_, vI hd_, vI ep_, vI dp_, vI sv_, vI sl_, vI xo_, vI en_, vI dk_, vI ie_, vR jn, vR tt] [iI ln, iI fr, iR cc, iR tt]
    refine XS.iconst X3.here hx rfl (hb hby at_636) ?_
    show SA T3 m 637 #[vJ q1, .second, vJ q2, .second, vI p3, vI p4, vR cc, vI fr, vI ln, vI ng_, vI he_, vI ec_, vI sg_, vI hd_, vI ep_, vI dp_, vI sv_, vI sl_, vI xo_, vI en_, vI dk_, vI ie_, vR jn, vR tt] [iI 1, iI ln, iI fr, iR cc, iR tt]
    refine st4 _ ?_
    show SA T4 m 640 #[vJ q1, .second, vJ q2, .second, vI p3, vI p4, vR cc, vI fr, vI ln, vI ng_, vI he_, vI ec_, vI sg_, vI hd_, vI ep_, vI dp_, vI sv_, vI sl_, vI xo_, vI en_, vI dk_, vI ie_, vR jn, vR tt] [iI 1]
    refine XS.ifNo X4.here hx rfl (hb hby at_640) rfl ((if0 _ _).trans (feq (by decide : ¬ ((1 : Int32) = (0 : Int32)))).1) ?_
    show SA T4 m 643 #[vJ q1, .second, vJ q2, .second, vI p3, vI p4, vR cc, vI fr, vI ln, vI ng_, vI he_, vI ec_, vI sg_, vI hd_, vI ep_, vI dp_, vI sv_, vI sl_, vI xo_, vI en_, vI dk_, vI ie_, vR jn, vR tt] []
    refine XS.aload X4.here hx rfl (hb hby at_643) rfl rfl ?_
    show SA T4 m 645 #[vJ q1, .second, vJ q2, .second, vI p3, vI p4, vR cc, vI fr, vI ln, vI ng_, vI he_, vI ec_, vI sg_, vI hd_, vI ep_, vI dp_, vI sv_, vI sl_, vI xo_, vI en_, vI dk_, vI ie_, vR jn, vR tt] [iR tt]
    refine XS.aload X4.here hx rfl (hb hby at_645) rfl rfl ?_
    show SA T4 m 647 #[vJ q1, .second, vJ q2, .second, vI p3, vI p4, vR cc, vI fr, vI ln, vI ng_, vI he_, vI ec_, vI sg_, vI hd_, vI ep_, vI dp_, vI sv_, vI sl_, vI xo_, vI en_, vI dk_, vI ie_, vR jn, vR tt] [iR cc, iR tt]
    refine XS.iload X4.here hx rfl (hb hby at_647) rfl ?_
    show SA T4 m 649 #[vJ q1, .second, vJ q2, .second, vI p3, vI p4, vR cc, vI fr, vI ln, vI ng_, vI he_, vI ec_, vI sg_, vI hd_, vI ep_, vI dp_, vI sv_, vI sl_, vI xo_, vI en_, vI dk_, vI ie_, vR jn, vR tt] [iI fr, iR cc, iR tt]
    refine XS.iload X4.here hx rfl (hb hby at_649) rfl ?_
    show SA T4 m 651 #[vJ q1, .second, vJ q2, .second, vI p3, vI p4, vR cc, vI fr, vI ln, vI ng_, vI he_, vI ec_, vI sg_, vI hd_, vI ep_, vI dp_, vI sv_, vI sl_, vI xo_, vI en_, vI dk_, vI ie_, vR jn, vR tt] [iI ln, iI fr, iR cc, iR tt]
    refine XS.iconst X4.here hx rfl (hb hby at_651) ?_
    show SA T4 m 652 #[vJ q1, .second, vJ q2, .second, vI p3, vI p4, vR cc, vI fr, vI ln, vI ng_, vI he_, vI ec_, vI sg_, vI hd_, vI ep_, vI dp_, vI sv_, vI sl_, vI xo_, vI en_, vI dk_, vI ie_, vR jn, vR tt] [iI 2, iI ln, iI fr, iR cc, iR tt]
    refine st5 _ ?_
    show SA T5 m 655 #[vJ q1, .second, vJ q2, .second, vI p3, vI p4, vR cc, vI fr, vI ln, vI ng_, vI he_, vI ec_, vI sg_, vI hd_, vI ep_, vI dp_, vI sv_, vI sl_, vI xo_, vI en_, vI dk_, vI ie_, vR jn, vR tt] [iI 1]
    refine XS.ifNo X5.here hx rfl (hb hby at_655) rfl ((if0 _ _).trans (feq (by decide : ¬ ((1 : Int32) = (0 : Int32)))).1) ?_
    show SA T5 m 658 #[vJ q1, .second, vJ q2, .second, vI p3, vI p4, vR cc, vI fr, vI ln, vI ng_, vI he_, vI ec_, vI sg_, vI hd_, vI ep_, vI dp_, vI sv_, vI sl_, vI xo_, vI en_, vI dk_, vI ie_, vR jn, vR tt] []
    refine XS.aload X5.here hx rfl (hb hby at_658) rfl rfl ?_
    show SA T5 m 660 #[vJ q1, .second, vJ q2, .second, vI p3, vI p4, vR cc, vI fr, vI ln, vI ng_, vI he_, vI ec_, vI sg_, vI hd_, vI ep_, vI dp_, vI sv_, vI sl_, vI xo_, vI en_, vI dk_, vI ie_, vR jn, vR tt] [iR tt]
    refine XS.aload X5.here hx rfl (hb hby at_660) rfl rfl ?_
    show SA T5 m 662 #[vJ q1, .second, vJ q2, .second, vI p3, vI p4, vR cc, vI fr, vI ln, vI ng_, vI he_, vI ec_, vI sg_, vI hd_, vI ep_, vI dp_, vI sv_, vI sl_, vI xo_, vI en_, vI dk_, vI ie_, vR jn, vR tt] [iR cc, iR tt]
    refine XS.iload X5.here hx rfl (hb hby at_662) rfl ?_
    show SA T5 m 664 #[vJ q1, .second, vJ q2, .second, vI p3, vI p4, vR cc, vI fr, vI ln, vI ng_, vI he_, vI ec_, vI sg_, vI hd_, vI ep_, vI dp_, vI sv_, vI sl_, vI xo_, vI en_, vI dk_, vI ie_, vR jn, vR tt] [iI fr, iR cc, iR tt]
    refine XS.iload X5.here hx rfl (hb hby at_664) rfl ?_
    show SA T5 m 666 #[vJ q1, .second, vJ q2, .second, vI p3, vI p4, vR cc, vI fr, vI ln, vI ng_, vI he_, vI ec_, vI sg_, vI hd_, vI ep_, vI dp_, vI sv_, vI sl_, vI xo_, vI en_, vI dk_, vI ie_, vR jn, vR tt] [iI ln, iI fr, iR cc, iR tt]
    refine XS.iconst X5.here hx rfl (hb hby at_666) ?_
    show SA T5 m 667 #[vJ q1, .second, vJ q2, .second, vI p3, vI p4, vR cc, vI fr, vI ln, vI ng_, vI he_, vI ec_, vI sg_, vI hd_, vI ep_, vI dp_, vI sv_, vI sl_, vI xo_, vI en_, vI dk_, vI ie_, vR jn, vR tt] [iI 3, iI ln, iI fr, iR cc, iR tt]
    refine st6 _ ?_
    show SA T6 m 670 #[vJ q1, .second, vJ q2, .second, vI p3, vI p4, vR cc, vI fr, vI ln, vI ng_, vI he_, vI ec_, vI sg_, vI hd_, vI ep_, vI dp_, vI sv_, vI sl_, vI xo_, vI en_, vI dk_, vI ie_, vR jn, vR tt] [iI 1]
    refine XS.ifNo X6.here hx rfl (hb hby at_670) rfl ((if0 _ _).trans (feq (by decide : ¬ ((1 : Int32) = (0 : Int32)))).1) ?_
    show SA T6 m 673 #[vJ q1, .second, vJ q2, .second, vI p3, vI p4, vR cc, vI fr, vI ln, vI ng_, vI he_, vI ec_, vI sg_, vI hd_, vI ep_, vI dp_, vI sv_, vI sl_, vI xo_, vI en_, vI dk_, vI ie_, vR jn, vR tt] []
    refine XS.aload X6.here hx rfl (hb hby at_673) rfl rfl ?_
    show SA T6 m 675 #[vJ q1, .second, vJ q2, .second, vI p3, vI p4, vR cc, vI fr, vI ln, vI ng_, vI he_, vI ec_, vI sg_, vI hd_, vI ep_, vI dp_, vI sv_, vI sl_, vI xo_, vI en_, vI dk_, vI ie_, vR jn, vR tt] [iR tt]
    refine XS.aload X6.here hx rfl (hb hby at_675) rfl rfl ?_
    show SA T6 m 677 #[vJ q1, .second, vJ q2, .second, vI p3, vI p4, vR cc, vI fr, vI ln, vI ng_, vI he_, vI ec_, vI sg_, vI hd_, vI ep_, vI dp_, vI sv_, vI sl_, vI xo_, vI en_, vI dk_, vI ie_, vR jn, vR tt] [iR cc, iR tt]
    refine XS.iload X6.here hx rfl (hb hby at_677) rfl ?_
    show SA T6 m 679 #[vJ q1, .second, vJ q2, .second, vI p3, vI p4, vR cc, vI fr, vI ln, vI ng_, vI he_, vI ec_, vI sg_, vI hd_, vI ep_, vI dp_, vI sv_, vI sl_, vI xo_, vI en_, vI dk_, vI ie_, vR jn, vR tt] [iI fr, iR cc, iR tt]
    refine XS.iload X6.here hx rfl (hb hby at_679) rfl ?_
    show SA T6 m 681 #[vJ q1, .second, vJ q2, .second, vI p3, vI p4, vR cc, vI fr, vI ln, vI ng_, vI he_, vI ec_, vI sg_, vI hd_, vI ep_, vI dp_, vI sv_, vI sl_, vI xo_, vI en_, vI dk_, vI ie_, vR jn, vR tt] [iI ln, iI fr, iR cc, iR tt]
    refine XS.iconst X6.here hx rfl (hb hby at_681) ?_
    show SA T6 m 682 #[vJ q1, .second, vJ q2, .second, vI p3, vI p4, vR cc, vI fr, vI ln, vI ng_, vI he_, vI ec_, vI sg_, vI hd_, vI ep_, vI dp_, vI sv_, vI sl_, vI xo_, vI en_, vI dk_, vI ie_, vR jn, vR tt] [iI 4, iI ln, iI fr, iR cc, iR tt]
    refine st7 _ ?_
    show SA T7 m 685 #[vJ q1, .second, vJ q2, .second, vI p3, vI p4, vR cc, vI fr, vI ln, vI ng_, vI he_, vI ec_, vI sg_, vI hd_, vI ep_, vI dp_, vI sv_, vI sl_, vI xo_, vI en_, vI dk_, vI ie_, vR jn, vR tt] [iI 1]
    refine XS.ifNo X7.here hx rfl (hb hby at_685) rfl ((if0 _ _).trans (feq (by decide : ¬ ((1 : Int32) = (0 : Int32)))).1) ?_
    show SA T7 m 688 #[vJ q1, .second, vJ q2, .second, vI p3, vI p4, vR cc, vI fr, vI ln, vI ng_, vI he_, vI ec_, vI sg_, vI hd_, vI ep_, vI dp_, vI sv_, vI sl_, vI xo_, vI en_, vI dk_, vI ie_, vR jn, vR tt] []
    refine XS.aload X7.here hx rfl (hb hby at_688) rfl rfl ?_
    show SA T7 m 690 #[vJ q1, .second, vJ q2, .second, vI p3, vI p4, vR cc, vI fr, vI ln, vI ng_, vI he_, vI ec_, vI sg_, vI hd_, vI ep_, vI dp_, vI sv_, vI sl_, vI xo_, vI en_, vI dk_, vI ie_, vR jn, vR tt] [iR tt]
    refine XS.aload X7.here hx rfl (hb hby at_690) rfl rfl ?_
    show SA T7 m 692 #[vJ q1, .second, vJ q2, .second, vI p3, vI p4, vR cc, vI fr, vI ln, vI ng_, vI he_, vI ec_, vI sg_, vI hd_, vI ep_, vI dp_, vI sv_, vI sl_, vI xo_, vI en_, vI dk_, vI ie_, vR jn, vR tt] [iR cc, iR tt]
    refine XS.iload X7.here hx rfl (hb hby at_692) rfl ?_
    show SA T7 m 694 #[vJ q1, .second, vJ q2, .second, vI p3, vI p4, vR cc, vI fr, vI ln, vI ng_, vI he_, vI ec_, vI sg_, vI hd_, vI ep_, vI dp_, vI sv_, vI sl_, vI xo_, vI en_, vI dk_, vI ie_, vR jn, vR tt] [iI fr, iR cc, iR tt]
    refine XS.iload X7.here hx rfl (hb hby at_694) rfl ?_
    show SA T7 m 696 #[vJ q1, .second, vJ q2, .second, vI p3, vI p4, vR cc, vI fr, vI ln, vI ng_, vI he_, vI ec_, vI sg_, vI hd_, vI ep_, vI dp_, vI sv_, vI sl_, vI xo_, vI en_, vI dk_, vI ie_, vR jn, vR tt] [iI ln, iI fr, iR cc, iR tt]
    refine XS.iconst X7.here hx rfl (hb hby at_696) ?_
    show SA T7 m 697 #[vJ q1, .second, vJ q2, .second, vI p3, vI p4, vR cc, vI fr, vI ln, vI ng_, vI he_, vI ec_, vI sg_, vI hd_, vI ep_, vI dp_, vI sv_, vI sl_, vI xo_, vI en_, vI dk_, vI ie_, vR jn, vR tt] [iI 5, iI ln, iI fr, iR cc, iR tt]
    refine st8 _ ?_
    show SA T8 m 700 #[vJ q1, .second, vJ q2, .second, vI p3, vI p4, vR cc, vI fr, vI ln, vI ng_, vI he_, vI ec_, vI sg_, vI hd_, vI ep_, vI dp_, vI sv_, vI sl_, vI xo_, vI en_, vI dk_, vI ie_, vR jn, vR tt] [iI 1]
    refine XS.ifNo X8.here hx rfl (hb hby at_700) rfl ((if0 _ _).trans (feq (by decide : ¬ ((1 : Int32) = (0 : Int32)))).1) ?_
    show SA T8 m 703 #[vJ q1, .second, vJ q2, .second, vI p3, vI p4, vR cc, vI fr, vI ln, vI ng_, vI he_, vI ec_, vI sg_, vI hd_, vI ep_, vI dp_, vI sv_, vI sl_, vI xo_, vI en_, vI dk_, vI ie_, vR jn, vR tt] []
    refine XS.aload X8.here hx rfl (hb hby at_703) rfl rfl ?_
    show SA T8 m 705 #[vJ q1, .second, vJ q2, .second, vI p3, vI p4, vR cc, vI fr, vI ln, vI ng_, vI he_, vI ec_, vI sg_, vI hd_, vI ep_, vI dp_, vI sv_, vI sl_, vI xo_, vI en_, vI dk_, vI ie_, vR jn, vR tt] [iR tt]
    refine XS.aload X8.here hx rfl (hb hby at_705) rfl rfl ?_
    show SA T8 m 707 #[vJ q1, .second, vJ q2, .second, vI p3, vI p4, vR cc, vI fr, vI ln, vI ng_, vI he_, vI ec_, vI sg_, vI hd_, vI ep_, vI dp_, vI sv_, vI sl_, vI xo_, vI en_, vI dk_, vI ie_, vR jn, vR tt] [iR cc, iR tt]
    refine XS.iload X8.here hx rfl (hb hby at_707) rfl ?_
    show SA T8 m 709 #[vJ q1, .second, vJ q2, .second, vI p3, vI p4, vR cc, vI fr, vI ln, vI ng_, vI he_, vI ec_, vI sg_, vI hd_, vI ep_, vI dp_, vI sv_, vI sl_, vI xo_, vI en_, vI dk_, vI ie_, vR jn, vR tt] [iI fr, iR cc, iR tt]
    refine XS.iload X8.here hx rfl (hb hby at_709) rfl ?_
    show SA T8 m 711 #[vJ q1, .second, vJ q2, .second, vI p3, vI p4, vR cc, vI fr, vI ln, vI ng_, vI he_, vI ec_, vI sg_, vI hd_, vI ep_, vI dp_, vI sv_, vI sl_, vI xo_, vI en_, vI dk_, vI ie_, vR jn, vR tt] [iI ln, iI fr, iR cc, iR tt]
    refine XS.bipush X8.here hx rfl (hb hby at_711) ?_
    show SA T8 m 713 #[vJ q1, .second, vJ q2, .second, vI p3, vI p4, vR cc, vI fr, vI ln, vI ng_, vI he_, vI ec_, vI sg_, vI hd_, vI ep_, vI dp_, vI sv_, vI sl_, vI xo_, vI en_, vI dk_, vI ie_, vR jn, vR tt] [iI 6, iI ln, iI fr, iR cc, iR tt]
    refine st9 _ ?_
    show SA T9 m 716 #[vJ q1, .second, vJ q2, .second, vI p3, vI p4, vR cc, vI fr, vI ln, vI ng_, vI he_, vI ec_, vI sg_, vI hd_, vI ep_, vI dp_, vI sv_, vI sl_, vI xo_, vI en_, vI dk_, vI ie_, vR jn, vR tt] [iI 1]
    refine XS.ifNo X9.here hx rfl (hb hby at_716) rfl ((if0 _ _).trans (feq (by decide : ¬ ((1 : Int32) = (0 : Int32)))).1) ?_
    show SA T9 m 719 #[vJ q1, .second, vJ q2, .second, vI p3, vI p4, vR cc, vI fr, vI ln, vI ng_, vI he_, vI ec_, vI sg_, vI hd_, vI ep_, vI dp_, vI sv_, vI sl_, vI xo_, vI en_, vI dk_, vI ie_, vR jn, vR tt] []
    refine XS.aload X9.here hx rfl (hb hby at_719) rfl rfl ?_
    show SA T9 m 721 #[vJ q1, .second, vJ q2, .second, vI p3, vI p4, vR cc, vI fr, vI ln, vI ng_, vI he_, vI ec_, vI sg_, vI hd_, vI ep_, vI dp_, vI sv_, vI sl_, vI xo_, vI en_, vI dk_, vI ie_, vR jn, vR tt] [iR tt]
    refine XS.aload X9.here hx rfl (hb hby at_721) rfl rfl ?_
    show SA T9 m 723 #[vJ q1, .second, vJ q2, .second, vI p3, vI p4, vR cc, vI fr, vI ln, vI ng_, vI he_, vI ec_, vI sg_, vI hd_, vI ep_, vI dp_, vI sv_, vI sl_, vI xo_, vI en_, vI dk_, vI ie_, vR jn, vR tt] [iR cc, iR tt]
    refine XS.iload X9.here hx rfl (hb hby at_723) rfl ?_
    show SA T9 m 725 #[vJ q1, .second, vJ q2, .second, vI p3, vI p4, vR cc, vI fr, vI ln, vI ng_, vI he_, vI ec_, vI sg_, vI hd_, vI ep_, vI dp_, vI sv_, vI sl_, vI xo_, vI en_, vI dk_, vI ie_, vR jn, vR tt] [iI fr, iR cc, iR tt]
    refine XS.iload X9.here hx rfl (hb hby at_725) rfl ?_
    show SA T9 m 727 #[vJ q1, .second, vJ q2, .second, vI p3, vI p4, vR cc, vI fr, vI ln, vI ng_, vI he_, vI ec_, vI sg_, vI hd_, vI ep_, vI dp_, vI sv_, vI sl_, vI xo_, vI en_, vI dk_, vI ie_, vR jn, vR tt] [iI ln, iI fr, iR cc, iR tt]
    refine XS.bipush X9.here hx rfl (hb hby at_727) ?_
    show SA T9 m 729 #[vJ q1, .second, vJ q2, .second, vI p3, vI p4, vR cc, vI fr, vI ln, vI ng_, vI he_, vI ec_, vI sg_, vI hd_, vI ep_, vI dp_, vI sv_, vI sl_, vI xo_, vI en_, vI dk_, vI ie_, vR jn, vR tt] [iI 7, iI ln, iI fr, iR cc, iR tt]
    refine st10 _ ?_
    show SA T10 m 732 #[vJ q1, .second, vJ q2, .second, vI p3, vI p4, vR cc, vI fr, vI ln, vI ng_, vI he_, vI ec_, vI sg_, vI hd_, vI ep_, vI dp_, vI sv_, vI sl_, vI xo_, vI en_, vI dk_, vI ie_, vR jn, vR tt] [iI 1]
    refine XS.ifNo X10.here hx rfl (hb hby at_732) rfl ((if0 _ _).trans (feq (by decide : ¬ ((1 : Int32) = (0 : Int32)))).1) ?_
    show SA T10 m 735 #[vJ q1, .second, vJ q2, .second, vI p3, vI p4, vR cc, vI fr, vI ln, vI ng_, vI he_, vI ec_, vI sg_, vI hd_, vI ep_, vI dp_, vI sv_, vI sl_, vI xo_, vI en_, vI dk_, vI ie_, vR jn, vR tt] []
    refine XS.aload X10.here hx rfl (hb hby at_735) rfl rfl ?_
    show SA T10 m 737 #[vJ q1, .second, vJ q2, .second, vI p3, vI p4, vR cc, vI fr, vI ln, vI ng_, vI he_, vI ec_, vI sg_, vI hd_, vI ep_, vI dp_, vI sv_, vI sl_, vI xo_, vI en_, vI dk_, vI ie_, vR jn, vR tt] [iR tt]
    refine XS.aload X10.here hx rfl (hb hby at_737) rfl rfl ?_
    show SA T10 m 739 #[vJ q1, .second, vJ q2, .second, vI p3, vI p4, vR cc, vI fr, vI ln, vI ng_, vI he_, vI ec_, vI sg_, vI hd_, vI ep_, vI dp_, vI sv_, vI sl_, vI xo_, vI en_, vI dk_, vI ie_, vR jn, vR tt] [iR cc, iR tt]
    refine XS.iload X10.here hx rfl (hb hby at_739) rfl ?_
    show SA T10 m 741 #[vJ q1, .second, vJ q2, .second, vI p3, vI p4, vR cc, vI fr, vI ln, vI ng_, vI he_, vI ec_, vI sg_, vI hd_, vI ep_, vI dp_, vI sv_, vI sl_, vI xo_, vI en_, vI dk_, vI ie_, vR jn, vR tt] [iI fr, iR cc, iR tt]
    refine XS.iload X10.here hx rfl (hb hby at_741) rfl ?_
    show SA T10 m 743 #[vJ q1, .second, vJ q2, .second, vI p3, vI p4, vR cc, vI fr, vI ln, vI ng_, vI he_, vI ec_, vI sg_, vI hd_, vI ep_, vI dp_, vI sv_, vI sl_, vI xo_, vI en_, vI dk_, vI ie_, vR jn, vR tt] [iI ln, iI fr, iR cc, iR tt]
    refine XS.bipush X10.here hx rfl (hb hby at_743) ?_
    show SA T10 m 745 #[vJ q1, .second, vJ q2, .second, vI p3, vI p4, vR cc, vI fr, vI ln, vI ng_, vI he_, vI ec_, vI sg_, vI hd_, vI ep_, vI dp_, vI sv_, vI sl_, vI xo_, vI en_, vI dk_, vI ie_, vR jn, vR tt] [iI 8, iI ln, iI fr, iR cc, iR tt]
    refine st11 _ ?_
    show SA T11 m 748 #[vJ q1, .second, vJ q2, .second, vI p3, vI p4, vR cc, vI fr, vI ln, vI ng_, vI he_, vI ec_, vI sg_, vI hd_, vI ep_, vI dp_, vI sv_, vI sl_, vI xo_, vI en_, vI dk_, vI ie_, vR jn, vR tt] [iI 1]
    refine XS.ifNo X11.here hx rfl (hb hby at_748) rfl ((if0 _ _).trans (feq (by decide : ¬ ((1 : Int32) = (0 : Int32)))).1) ?_
    show SA T11 m 751 #[vJ q1, .second, vJ q2, .second, vI p3, vI p4, vR cc, vI fr, vI ln, vI ng_, vI he_, vI ec_, vI sg_, vI hd_, vI ep_, vI dp_, vI sv_, vI sl_, vI xo_, vI en_, vI dk_, vI ie_, vR jn, vR tt] []
    refine XS.aload X11.here hx rfl (hb hby at_751) rfl rfl ?_
    show SA T11 m 753 #[vJ q1, .second, vJ q2, .second, vI p3, vI p4, vR cc, vI fr, vI ln, vI ng_, vI he_, vI ec_, vI sg_, vI hd_, vI ep_, vI dp_, vI sv_, vI sl_, vI xo_, vI en_, vI dk_, vI ie_, vR jn, vR tt] [iR tt]
    refine XS.aload X11.here hx rfl (hb hby at_753) rfl rfl ?_
    show SA T11 m 755 #[vJ q1, .second, vJ q2, .second, vI p3, vI p4, vR cc, vI fr, vI ln, vI ng_, vI he_, vI ec_, vI sg_, vI hd_, vI ep_, vI dp_, vI sv_, vI sl_, vI xo_, vI en_, vI dk_, vI ie_, vR jn, vR tt] [iR cc, iR tt]
    refine XS.iload X11.here hx rfl (hb hby at_755) rfl ?_
    show SA T11 m 757 #[vJ q1, .second, vJ q2, .second, vI p3, vI p4, vR cc, vI fr, vI ln, vI ng_, vI he_, vI ec_, vI sg_, vI hd_, vI ep_, vI dp_, vI sv_, vI sl_, vI xo_, vI en_, vI dk_, vI ie_, vR jn, vR tt] [iI fr, iR cc, iR tt]
    refine XS.iload X11.here hx rfl (hb hby at_757) rfl ?_
    show SA T11 m 759 #[vJ q1, .second, vJ q2, .second, vI p3, vI p4, vR cc, vI fr, vI ln, vI ng_, vI he_, vI ec_, vI sg_, vI hd_, vI ep_, vI dp_, vI sv_, vI sl_, vI xo_, vI en_, vI dk_, vI ie_, vR jn, vR tt] [iI ln, iI fr, iR cc, iR tt]
    refine XS.bipush X11.here hx rfl (hb hby at_759) ?_
    show SA T11 m 761 #[vJ q1, .second, vJ q2, .second, vI p3, vI p4, vR cc, vI fr, vI ln, vI ng_, vI he_, vI ec_, vI sg_, vI hd_, vI ep_, vI dp_, vI sv_, vI sl_, vI xo_, vI en_, vI dk_, vI ie_, vR jn, vR tt] [iI 9, iI ln, iI fr, iR cc, iR tt]
    refine st12 _ ?_
    show SA T12 m 764 #[vJ q1, .second, vJ q2, .second, vI p3, vI p4, vR cc, vI fr, vI ln, vI ng_, vI he_, vI ec_, vI sg_, vI hd_, vI ep_, vI dp_, vI sv_, vI sl_, vI xo_, vI en_, vI dk_, vI ie_, vR jn, vR tt] [iI 1]
    refine XS.ifNo X12.here hx rfl (hb hby at_764) rfl ((if0 _ _).trans (feq (by decide : ¬ ((1 : Int32) = (0 : Int32)))).1) ?_
    show SA T12 m 767 #[vJ q1, .second, vJ q2, .second, vI p3, vI p4, vR cc, vI fr, vI ln, vI ng_, vI he_, vI ec_, vI sg_, vI hd_, vI ep_, vI dp_, vI sv_, vI sl_, vI xo_, vI en_, vI dk_, vI ie_, vR jn, vR tt] []
    refine XS.aload X12.here hx rfl (hb hby at_767) rfl rfl ?_
    show SA T12 m 769 #[vJ q1, .second, vJ q2, .second, vI p3, vI p4, vR cc, vI fr, vI ln, vI ng_, vI he_, vI ec_, vI sg_, vI hd_, vI ep_, vI dp_, vI sv_, vI sl_, vI xo_, vI en_, vI dk_, vI ie_, vR jn, vR tt] [iR tt]
    refine XS.aload X12.here hx rfl (hb hby at_769) rfl rfl ?_
    show SA T12 m 771 #[vJ q1, .second, vJ q2, .second, vI p3, vI p4, vR cc, vI fr, vI ln, vI ng_, vI he_, vI ec_, vI sg_, vI hd_, vI ep_, vI dp_, vI sv_, vI sl_, vI xo_, vI en_, vI dk_, vI ie_, vR jn, vR tt] [iR cc, iR tt]
    refine XS.iload X12.here hx rfl (hb hby at_771) rfl ?_
    show SA T12 m 773 #[vJ q1, .second, vJ q2, .second, vI p3, vI p4, vR cc, vI fr, vI ln, vI ng_, vI he_, vI ec_, vI sg_, vI hd_, vI ep_, vI dp_, vI sv_, vI sl_, vI xo_, vI en_, vI dk_, vI ie_, vR jn, vR tt] [iI fr, iR cc, iR tt]
    refine XS.iload X12.here hx rfl (hb hby at_773) rfl ?_
    show SA T12 m 775 #[vJ q1, .second, vJ q2, .second, vI p3, vI p4, vR cc, vI fr, vI ln, vI ng_, vI he_, vI ec_, vI sg_, vI hd_, vI ep_, vI dp_, vI sv_, vI sl_, vI xo_, vI en_, vI dk_, vI ie_, vR jn, vR tt] [iI ln, iI fr, iR cc, iR tt]
    refine XS.bipush X12.here hx rfl (hb hby at_775) ?_
    show SA T12 m 777 #[vJ q1, .second, vJ q2, .second, vI p3, vI p4, vR cc, vI fr, vI ln, vI ng_, vI he_, vI ec_, vI sg_, vI hd_, vI ep_, vI dp_, vI sv_, vI sl_, vI xo_, vI en_, vI dk_, vI ie_, vR jn, vR tt] [iI 10, iI ln, iI fr, iR cc, iR tt]
    refine st13 _ ?_
    show SA T13 m 780 #[vJ q1, .second, vJ q2, .second, vI p3, vI p4, vR cc, vI fr, vI ln, vI ng_, vI he_, vI ec_, vI sg_, vI hd_, vI ep_, vI dp_, vI sv_, vI sl_, vI xo_, vI en_, vI dk_, vI ie_, vR jn, vR tt] [iI 1]
    refine XS.ifNo X13.here hx rfl (hb hby at_780) rfl ((if0 _ _).trans (feq (by decide : ¬ ((1 : Int32) = (0 : Int32)))).1) ?_
    show SA T13 m 783 #[vJ q1, .second, vJ q2, .second, vI p3, vI p4, vR cc, vI fr, vI ln, vI ng_, vI he_, vI ec_, vI sg_, vI hd_, vI ep_, vI dp_, vI sv_, vI sl_, vI xo_, vI en_, vI dk_, vI ie_, vR jn, vR tt] []
    refine XS.aload X13.here hx rfl (hb hby at_783) rfl rfl ?_
    show SA T13 m 785 #[vJ q1, .second, vJ q2, .second, vI p3, vI p4, vR cc, vI fr, vI ln, vI ng_, vI he_, vI ec_, vI sg_, vI hd_, vI ep_, vI dp_, vI sv_, vI sl_, vI xo_, vI en_, vI dk_, vI ie_, vR jn, vR tt] [iR tt]
    refine XS.aload X13.here hx rfl (hb hby at_785) rfl rfl ?_
    show SA T13 m 787 #[vJ q1, .second, vJ q2, .second, vI p3, vI p4, vR cc, vI fr, vI ln, vI ng_, vI he_, vI ec_, vI sg_, vI hd_, vI ep_, vI dp_, vI sv_, vI sl_, vI xo_, vI en_, vI dk_, vI ie_, vR jn, vR tt] [iR cc, iR tt]
    refine XS.iload X13.here hx rfl (hb hby at_787) rfl ?_
    show SA T13 m 789 #[vJ q1, .second, vJ q2, .second, vI p3, vI p4, vR cc, vI fr, vI ln, vI ng_, vI he_, vI ec_, vI sg_, vI hd_, vI ep_, vI dp_, vI sv_, vI sl_, vI xo_, vI en_, vI dk_, vI ie_, vR jn, vR tt] [iI fr, iR cc, iR tt]
    refine XS.iload X13.here hx rfl (hb hby at_789) rfl ?_
    show SA T13 m 791 #[vJ q1, .second, vJ q2, .second, vI p3, vI p4, vR cc, vI fr, vI ln, vI ng_, vI he_, vI ec_, vI sg_, vI hd_, vI ep_, vI dp_, vI sv_, vI sl_, vI xo_, vI en_, vI dk_, vI ie_, vR jn, vR tt] [iI ln, iI fr, iR cc, iR tt]
    refine XS.bipush X13.here hx rfl (hb hby at_791) ?_
    show SA T13 m 793 #[vJ q1, .second, vJ q2, .second, vI p3, vI p4, vR cc, vI fr, vI ln, vI ng_, vI he_, vI ec_, vI sg_, vI hd_, vI ep_, vI dp_, vI sv_, vI sl_, vI xo_, vI en_, vI dk_, vI ie_, vR jn, vR tt] [iI 11, iI ln, iI fr, iR cc, iR tt]
    refine st14 _ ?_
    show SA T14 m 796 #[vJ q1, .second, vJ q2, .second, vI p3, vI p4, vR cc, vI fr, vI ln, vI ng_, vI he_, vI ec_, vI sg_, vI hd_, vI ep_, vI dp_, vI sv_, vI sl_, vI xo_, vI en_, vI dk_, vI ie_, vR jn, vR tt] [iI 1]
    refine XS.ifNo X14.here hx rfl (hb hby at_796) rfl ((if0 _ _).trans (feq (by decide : ¬ ((1 : Int32) = (0 : Int32)))).1) ?_
    show SA T14 m 799 #[vJ q1, .second, vJ q2, .second, vI p3, vI p4, vR cc, vI fr, vI ln, vI ng_, vI he_, vI ec_, vI sg_, vI hd_, vI ep_, vI dp_, vI sv_, vI sl_, vI xo_, vI en_, vI dk_, vI ie_, vR jn, vR tt] []
    refine XS.aload X14.here hx rfl (hb hby at_799) rfl rfl ?_
    show SA T14 m 801 #[vJ q1, .second, vJ q2, .second, vI p3, vI p4, vR cc, vI fr, vI ln, vI ng_, vI he_, vI ec_, vI sg_, vI hd_, vI ep_, vI dp_, vI sv_, vI sl_, vI xo_, vI en_, vI dk_, vI ie_, vR jn, vR tt] [iR tt]
    refine XS.aload X14.here hx rfl (hb hby at_801) rfl rfl ?_
    show SA T14 m 803 #[vJ q1, .second, vJ q2, .second, vI p3, vI p4, vR cc, vI fr, vI ln, vI ng_, vI he_, vI ec_, vI sg_, vI hd_, vI ep_, vI dp_, vI sv_, vI sl_, vI xo_, vI en_, vI dk_, vI ie_, vR jn, vR tt] [iR cc, iR tt]
    refine XS.iload X14.here hx rfl (hb hby at_803) rfl ?_
    show SA T14 m 805 #[vJ q1, .second, vJ q2, .second, vI p3, vI p4, vR cc, vI fr, vI ln, vI ng_, vI he_, vI ec_, vI sg_, vI hd_, vI ep_, vI dp_, vI sv_, vI sl_, vI xo_, vI en_, vI dk_, vI ie_, vR jn, vR tt] [iI fr, iR cc, iR tt]
    refine XS.iload X14.here hx rfl (hb hby at_805) rfl ?_
    show SA T14 m 807 #[vJ q1, .second, vJ q2, .second, vI p3, vI p4, vR cc, vI fr, vI ln, vI ng_, vI he_, vI ec_, vI sg_, vI hd_, vI ep_, vI dp_, vI sv_, vI sl_, vI xo_, vI en_, vI dk_, vI ie_, vR jn, vR tt] [iI ln, iI fr, iR cc, iR tt]
    refine XS.bipush X14.here hx rfl (hb hby at_807) ?_
    show SA T14 m 809 #[vJ q1, .second, vJ q2, .second, vI p3, vI p4, vR cc, vI fr, vI ln, vI ng_, vI he_, vI ec_, vI sg_, vI hd_, vI ep_, vI dp_, vI sv_, vI sl_, vI xo_, vI en_, vI dk_, vI ie_, vR jn, vR tt] [iI 12, iI ln, iI fr, iR cc, iR tt]
    refine st15 _ ?_
    show SA T15 m 812 #[vJ q1, .second, vJ q2, .second, vI p3, vI p4, vR cc, vI fr, vI ln, vI ng_, vI he_, vI ec_, vI sg_, vI hd_, vI ep_, vI dp_, vI sv_, vI sl_, vI xo_, vI en_, vI dk_, vI ie_, vR jn, vR tt] [iI 1]
    refine XS.ifNo X15.here hx rfl (hb hby at_812) rfl ((if0 _ _).trans (feq (by decide : ¬ ((1 : Int32) = (0 : Int32)))).1) ?_
    show SA T15 m 815 #[vJ q1, .second, vJ q2, .second, vI p3, vI p4, vR cc, vI fr, vI ln, vI ng_, vI he_, vI ec_, vI sg_, vI hd_, vI ep_, vI dp_, vI sv_, vI sl_, vI xo_, vI en_, vI dk_, vI ie_, vR jn, vR tt] []
    refine XS.aload X15.here hx rfl (hb hby at_815) rfl rfl ?_
    show SA T15 m 817 #[vJ q1, .second, vJ q2, .second, vI p3, vI p4, vR cc, vI fr, vI ln, vI ng_, vI he_, vI ec_, vI sg_, vI hd_, vI ep_, vI dp_, vI sv_, vI sl_, vI xo_, vI en_, vI dk_, vI ie_, vR jn, vR tt] [iR tt]
    refine XS.aload X15.here hx rfl (hb hby at_817) rfl rfl ?_
    show SA T15 m 819 #[vJ q1, .second, vJ q2, .second, vI p3, vI p4, vR cc, vI fr, vI ln, vI ng_, vI he_, vI ec_, vI sg_, vI hd_, vI ep_, vI dp_, vI sv_, vI sl_, vI xo_, vI en_, vI dk_, vI ie_, vR jn, vR tt] [iR cc, iR tt]
    refine XS.iload X15.here hx rfl (hb hby at_819) rfl ?_
    show SA T15 m 821 #[vJ q1, .second, vJ q2, .second, vI p3, vI p4, vR cc, vI fr, vI ln, vI ng_, vI he_, vI ec_, vI sg_, vI hd_, vI ep_, vI dp_, vI sv_, vI sl_, vI xo_, vI en_, vI dk_, vI ie_, vR jn, vR tt] [iI fr, iR cc, iR tt]
    refine XS.iload X15.here hx rfl (hb hby at_821) rfl ?_
    show SA T15 m 823 #[vJ q1, .second, vJ q2, .second, vI p3, vI p4, vR cc, vI fr, vI ln, vI ng_, vI he_, vI ec_, vI sg_, vI hd_, vI ep_, vI dp_, vI sv_, vI sl_, vI xo_, vI en_, vI dk_, vI ie_, vR jn, vR tt] [iI ln, iI fr, iR cc, iR tt]
    refine XS.bipush X15.here hx rfl (hb hby at_823) ?_
    show SA T15 m 825 #[vJ q1, .second, vJ q2, .second, vI p3, vI p4, vR cc, vI fr, vI ln, vI ng_, vI he_, vI ec_, vI sg_, vI hd_, vI ep_, vI dp_, vI sv_, vI sl_, vI xo_, vI en_, vI dk_, vI ie_, vR jn, vR tt] [iI 13, iI ln, iI fr, iR cc, iR tt]
    refine st16 _ ?_
    show SA T16 m 828 #[vJ q1, .second, vJ q2, .second, vI p3, vI p4, vR cc, vI fr, vI ln, vI ng_, vI he_, vI ec_, vI sg_, vI hd_, vI ep_, vI dp_, vI sv_, vI sl_, vI xo_, vI en_, vI dk_, vI ie_, vR jn, vR tt] [iI 1]
    refine XS.ifNo X16.here hx rfl (hb hby at_828) rfl ((if0 _ _).trans (feq (by decide : ¬ ((1 : Int32) = (0 : Int32)))).1) ?_
    show SA T16 m 831 #[vJ q1, .second, vJ q2, .second, vI p3, vI p4, vR cc, vI fr, vI ln, vI ng_, vI he_, vI ec_, vI sg_, vI hd_, vI ep_, vI dp_, vI sv_, vI sl_, vI xo_, vI en_, vI dk_, vI ie_, vR jn, vR tt] []
    refine XS.aload X16.here hx rfl (hb hby at_831) rfl rfl ?_
    show SA T16 m 833 #[vJ q1, .second, vJ q2, .second, vI p3, vI p4, vR cc, vI fr, vI ln, vI ng_, vI he_, vI ec_, vI sg_, vI hd_, vI ep_, vI dp_, vI sv_, vI sl_, vI xo_, vI en_, vI dk_, vI ie_, vR jn, vR tt] [iR tt]
    refine XS.aload X16.here hx rfl (hb hby at_833) rfl rfl ?_
    show SA T16 m 835 #[vJ q1, .second, vJ q2, .second, vI p3, vI p4, vR cc, vI fr, vI ln, vI ng_, vI he_, vI ec_, vI sg_, vI hd_, vI ep_, vI dp_, vI sv_, vI sl_, vI xo_, vI en_, vI dk_, vI ie_, vR jn, vR tt] [iR cc, iR tt]
    refine XS.iload X16.here hx rfl (hb hby at_835) rfl ?_
    show SA T16 m 837 #[vJ q1, .second, vJ q2, .second, vI p3, vI p4, vR cc, vI fr, vI ln, vI ng_, vI he_, vI ec_, vI sg_, vI hd_, vI ep_, vI dp_, vI sv_, vI sl_, vI xo_, vI en_, vI dk_, vI ie_, vR jn, vR tt] [iI fr, iR cc, iR tt]
    refine XS.iload X16.here hx rfl (hb hby at_837) rfl ?_
    show SA T16 m 839 #[vJ q1, .second, vJ q2, .second, vI p3, vI p4, vR cc, vI fr, vI ln, vI ng_, vI he_, vI ec_, vI sg_, vI hd_, vI ep_, vI dp_, vI sv_, vI sl_, vI xo_, vI en_, vI dk_, vI ie_, vR jn, vR tt] [iI ln, iI fr, iR cc, iR tt]
    refine XS.bipush X16.here hx rfl (hb hby at_839) ?_
    show SA T16 m 841 #[vJ q1, .second, vJ q2, .second, vI p3, vI p4, vR cc, vI fr, vI ln, vI ng_, vI he_, vI ec_, vI sg_, vI hd_, vI ep_, vI dp_, vI sv_, vI sl_, vI xo_, vI en_, vI dk_, vI ie_, vR jn, vR tt] [iI 14, iI ln, iI fr, iR cc, iR tt]
    refine st17 _ ?_
    show SA T17 m 844 #[vJ q1, .second, vJ q2, .second, vI p3, vI p4, vR cc, vI fr, vI ln, vI ng_, vI he_, vI ec_, vI sg_, vI hd_, vI ep_, vI dp_, vI sv_, vI sl_, vI xo_, vI en_, vI dk_, vI ie_, vR jn, vR tt] [iI 1]
    refine XS.ifNo X17.here hx rfl (hb hby at_844) rfl ((if0 _ _).trans (feq (by decide : ¬ ((1 : Int32) = (0 : Int32)))).1) ?_
    show SA T17 m 847 #[vJ q1, .second, vJ q2, .second, vI p3, vI p4, vR cc, vI fr, vI ln, vI ng_, vI he_, vI ec_, vI sg_, vI hd_, vI ep_, vI dp_, vI sv_, vI sl_, vI xo_, vI en_, vI dk_, vI ie_, vR jn, vR tt] []
    refine XS.aload X17.here hx rfl (hb hby at_847) rfl rfl ?_
    show SA T17 m 849 #[vJ q1, .second, vJ q2, .second, vI p3, vI p4, vR cc, vI fr, vI ln, vI ng_, vI he_, vI ec_, vI sg_, vI hd_, vI ep_, vI dp_, vI sv_, vI sl_, vI xo_, vI en_, vI dk_, vI ie_, vR jn, vR tt] [iR tt]
    refine XS.aload X17.here hx rfl (hb hby at_849) rfl rfl ?_
    show SA T17 m 851 #[vJ q1, .second, vJ q2, .second, vI p3, vI p4, vR cc, vI fr, vI ln, vI ng_, vI he_, vI ec_, vI sg_, vI hd_, vI ep_, vI dp_, vI sv_, vI sl_, vI xo_, vI en_, vI dk_, vI ie_, vR jn, vR tt] [iR cc, iR tt]
    refine XS.iload X17.here hx rfl (hb hby at_851) rfl ?_
    show SA T17 m 853 #[vJ q1, .second, vJ q2, .second, vI p3, vI p4, vR cc, vI fr, vI ln, vI ng_, vI he_, vI ec_, vI sg_, vI hd_, vI ep_, vI dp_, vI sv_, vI sl_, vI xo_, vI en_, vI dk_, vI ie_, vR jn, vR tt] [iI fr, iR cc, iR tt]
    refine XS.iload X17.here hx rfl (hb hby at_853) rfl ?_
    show SA T17 m 855 #[vJ q1, .second, vJ q2, .second, vI p3, vI p4, vR cc, vI fr, vI ln, vI ng_, vI he_, vI ec_, vI sg_, vI hd_, vI ep_, vI dp_, vI sv_, vI sl_, vI xo_, vI en_, vI dk_, vI ie_, vR jn, vR tt] [iI ln, iI fr, iR cc, iR tt]
    refine XS.bipush X17.here hx rfl (hb hby at_855) ?_
    show SA T17 m 857 #[vJ q1, .second, vJ q2, .second, vI p3, vI p4, vR cc, vI fr, vI ln, vI ng_, vI he_, vI ec_, vI sg_, vI hd_, vI ep_, vI dp_, vI sv_, vI sl_, vI xo_, vI en_, vI dk_, vI ie_, vR jn, vR tt] [iI 15, iI ln, iI fr, iR cc, iR tt]
    refine st18 _ ?_
    show SA T18 m 860 #[vJ q1, .second, vJ q2, .second, vI p3, vI p4, vR cc, vI fr, vI ln, vI ng_, vI he_, vI ec_, vI sg_, vI hd_, vI ep_, vI dp_, vI sv_, vI sl_, vI xo_, vI en_, vI dk_, vI ie_, vR jn, vR tt] [iI 1]
    refine XS.ifNo X18.here hx rfl (hb hby at_860) rfl ((if0 _ _).trans (feq (by decide : ¬ ((1 : Int32) = (0 : Int32)))).1) ?_
    show SA T18 m 863 #[vJ q1, .second, vJ q2, .second, vI p3, vI p4, vR cc, vI fr, vI ln, vI ng_, vI he_, vI ec_, vI sg_, vI hd_, vI ep_, vI dp_, vI sv_, vI sl_, vI xo_, vI en_, vI dk_, vI ie_, vR jn, vR tt] []
    refine XS.aload X18.here hx rfl (hb hby at_863) rfl rfl ?_
    show SA T18 m 865 #[vJ q1, .second, vJ q2, .second, vI p3, vI p4, vR cc, vI fr, vI ln, vI ng_, vI he_, vI ec_, vI sg_, vI hd_, vI ep_, vI dp_, vI sv_, vI sl_, vI xo_, vI en_, vI dk_, vI ie_, vR jn, vR tt] [iR tt]
    refine XS.aload X18.here hx rfl (hb hby at_865) rfl rfl ?_
    show SA T18 m 867 #[vJ q1, .second, vJ q2, .second, vI p3, vI p4, vR cc, vI fr, vI ln, vI ng_, vI he_, vI ec_, vI sg_, vI hd_, vI ep_, vI dp_, vI sv_, vI sl_, vI xo_, vI en_, vI dk_, vI ie_, vR jn, vR tt] [iR cc, iR tt]
    refine XS.iload X18.here hx rfl (hb hby at_867) rfl ?_
    show SA T18 m 869 #[vJ q1, .second, vJ q2, .second, vI p3, vI p4, vR cc, vI fr, vI ln, vI ng_, vI he_, vI ec_, vI sg_, vI hd_, vI ep_, vI dp_, vI sv_, vI sl_, vI xo_, vI en_, vI dk_, vI ie_, vR jn, vR tt] [iI fr, iR cc, iR tt]
    refine XS.iload X18.here hx rfl (hb hby at_869) rfl ?_
    show SA T18 m 871 #[vJ q1, .second, vJ q2, .second, vI p3, vI p4, vR cc, vI fr, vI ln, vI ng_, vI he_, vI ec_, vI sg_, vI hd_, vI ep_, vI dp_, vI sv_, vI sl_, vI xo_, vI en_, vI dk_, vI ie_, vR jn, vR tt] [iI ln, iI fr, iR cc, iR tt]
    refine XS.bipush X18.here hx rfl (hb hby at_871) ?_
    show SA T18 m 873 #[vJ q1, .second, vJ q2, .second, vI p3, vI p4, vR cc, vI fr, vI ln, vI ng_, vI he_, vI ec_, vI sg_, vI hd_, vI ep_, vI dp_, vI sv_, vI sl_, vI xo_, vI en_, vI dk_, vI ie_, vR jn, vR tt] [iI 16, iI ln, iI fr, iR cc, iR tt]
    refine st19 _ ?_
    show SA T19 m 876 #[vJ q1, .second, vJ q2, .second, vI p3, vI p4, vR cc, vI fr, vI ln, vI ng_, vI he_, vI ec_, vI sg_, vI hd_, vI ep_, vI dp_, vI sv_, vI sl_, vI xo_, vI en_, vI dk_, vI ie_, vR jn, vR tt] [iI 1]
    refine XS.ifNo X19.here hx rfl (hb hby at_876) rfl ((if0 _ _).trans (feq (by decide : ¬ ((1 : Int32) = (0 : Int32)))).1) ?_
    show SA T19 m 879 #[vJ q1, .second, vJ q2, .second, vI p3, vI p4, vR cc, vI fr, vI ln, vI ng_, vI he_, vI ec_, vI sg_, vI hd_, vI ep_, vI dp_, vI sv_, vI sl_, vI xo_, vI en_, vI dk_, vI ie_, vR jn, vR tt] []
    refine XS.aload X19.here hx rfl (hb hby at_879) rfl rfl ?_
    show SA T19 m 881 #[vJ q1, .second, vJ q2, .second, vI p3, vI p4, vR cc, vI fr, vI ln, vI ng_, vI he_, vI ec_, vI sg_, vI hd_, vI ep_, vI dp_, vI sv_, vI sl_, vI xo_, vI en_, vI dk_, vI ie_, vR jn, vR tt] [iR tt]
    refine XS.aload X19.here hx rfl (hb hby at_881) rfl rfl ?_
    show SA T19 m 883 #[vJ q1, .second, vJ q2, .second, vI p3, vI p4, vR cc, vI fr, vI ln, vI ng_, vI he_, vI ec_, vI sg_, vI hd_, vI ep_, vI dp_, vI sv_, vI sl_, vI xo_, vI en_, vI dk_, vI ie_, vR jn, vR tt] [iR cc, iR tt]
    refine XS.iload X19.here hx rfl (hb hby at_883) rfl ?_
    show SA T19 m 885 #[vJ q1, .second, vJ q2, .second, vI p3, vI p4, vR cc, vI fr, vI ln, vI ng_, vI he_, vI ec_, vI sg_, vI hd_, vI ep_, vI dp_, vI sv_, vI sl_, vI xo_, vI en_, vI dk_, vI ie_, vR jn, vR tt] [iI fr, iR cc, iR tt]
    refine XS.iload X19.here hx rfl (hb hby at_885) rfl ?_
    show SA T19 m 887 #[vJ q1, .second, vJ q2, .second, vI p3, vI p4, vR cc, vI fr, vI ln, vI ng_, vI he_, vI ec_, vI sg_, vI hd_, vI ep_, vI dp_, vI sv_, vI sl_, vI xo_, vI en_, vI dk_, vI ie_, vR jn, vR tt] [iI ln, iI fr, iR cc, iR tt]
    refine XS.bipush X19.here hx rfl (hb hby at_887) ?_
    show SA T19 m 889 #[vJ q1, .second, vJ q2, .second, vI p3, vI p4, vR cc, vI fr, vI ln, vI ng_, vI he_, vI ec_, vI sg_, vI hd_, vI ep_, vI dp_, vI sv_, vI sl_, vI xo_, vI en_, vI dk_, vI ie_, vR jn, vR tt] [iI 17, iI ln, iI fr, iR cc, iR tt]
    refine st20 _ ?_
    show SA T20 m 892 #[vJ q1, .second, vJ q2, .second, vI p3, vI p4, vR cc, vI fr, vI ln, vI ng_, vI he_, vI ec_, vI sg_, vI hd_, vI ep_, vI dp_, vI sv_, vI sl_, vI xo_, vI en_, vI dk_, vI ie_, vR jn, vR tt] [iI 1]
    refine XS.ifNo X20.here hx rfl (hb hby at_892) rfl ((if0 _ _).trans (feq (by decide : ¬ ((1 : Int32) = (0 : Int32)))).1) ?_
    show SA T20 m 895 #[vJ q1, .second, vJ q2, .second, vI p3, vI p4, vR cc, vI fr, vI ln, vI ng_, vI he_, vI ec_, vI sg_, vI hd_, vI ep_, vI dp_, vI sv_, vI sl_, vI xo_, vI en_, vI dk_, vI ie_, vR jn, vR tt] []
    refine XS.iconst X20.here hx rfl (hb hby at_895) ?_
    show SA T20 m 896 #[vJ q1, .second, vJ q2, .second, vI p3, vI p4, vR cc, vI fr, vI ln, vI ng_, vI he_, vI ec_, vI sg_, vI hd_, vI ep_, vI dp_, vI sv_, vI sl_, vI xo_, vI en_, vI dk_, vI ie_, vR jn, vR tt] [iI 1]
    refine XS.goto X20.here hx rfl (pc0 := 896) (pc' := 900) rfl (hb hby at_896) (by decide) (by decide) ?_
    show Steps _ _ _ (T20.setTop (mkF m 900 #[vJ q1, .second, vJ q2, .second, vI p3, vI p4, vR cc, vI fr, vI ln, vI ng_, vI he_, vI ec_, vI sg_, vI hd_, vI ep_, vI dp_, vI sv_, vI sl_, vI xo_, vI en_, vI dk_, vI ie_, vR jn, vR tt] [iI 1])) _
    exact retN X20 hx (t := .boolean) hret (by simp) (hb hby at_900) hr
  · show own_Q0 n0 _ T20.heap _
    rw [e20]
    exact ⟨rfl, N0⟩
theorem own_t585a {p : Program} {l : Launch} {e : Env} {s : State} {m : MethodId} {below : List Frame} {meth : Method} {c : Code} {T0 : State} {locs : List Loc} {Z : State} {a0 : Array Value} {h0 hT : Heap} {n0 : Nat} {vmT : Vm} {kT : Nat} {q1 : Int64} {q2 : Int64} {p3 : Int32} {p4 : Int32} {s_T : Addr} {cl : Cell} {cs : Int32} {fm : Value} {cc : Addr} {fr ln ng_ he_ ec_ sg_ hd_ ep_ dp_ sv_ sl_ xo_ en_ dk_ ie_ : Int32} {kc : ClassId} {CL : List Int32}
    (X0 : Stand p l e room_1 (s.setVm vmT) m #[(.long q1), (.long q2), (.int p3), (.int p4)] below meth c T0 locs 1 20) (hx : p.tables.exec = Jvm.exec) (hZ : Z.Warmed39 (s.setVm vmT).vm) (hw : ∀ d ∈ tables_1, d.before a0 Z = true) (hby : c.code = code) (hml : c.maxLocals = 24) (hown : (s.setVm vmT).vm.findClass "com/example/plainjson/plainjson/JsonNumberParsedPinLaw" = some m.cls) (hret : meth.sig.returnType = some .boolean) (hlocks : meth.locks = false) (e0 : T0.heap = hT) (Kt0 : Keep h0 hT []) (N0 : Fr n0 locs) (Z0 : n0 ≤ h0.size) (O0 : Old Z n0 h0) (hS0 : s.Since vmT kT) (hk0 : kT ≤ hT.size) (RT : CHr Z consts_1 s.vm h0 vmT hT) (hh : s.heap = h0) (V_c : Arv Z hT cc kc .char (20 : Int32) (own_bs CL) (.int (0 : Int32))) (g_cc : n0 ≤ cc) (sz_cc : h0.size ≤ cc) (S_cc : Safe Z consts_1 vmT hT cc) (hCL : CL.length = 20) (hok : ∀ x ∈ CL, x ∈ own_chars) (rf : 0 ≤ fr.toInt ∧ fr.toInt ≤ 2) (rl : 1 ≤ ln.toInt ∧ ln.toInt ≤ 18) (rs : 0 ≤ sv_.toInt ∧ sv_.toInt ≤ 17) (re : 0 ≤ ep_.toInt ∧ ep_.toInt ≤ 17) (rd : 0 ≤ dp_.toInt ∧ dp_.toInt ≤ 17) (rx : ¬ xo_ = (0 : Int32) → ep_.toInt + 2 ≤ ln.toInt) (rc : ec_ ∈ own_chars) (h16 : ¬ (16 : Int32) < ln) (S_T : Sta Z Z.heap "com/example/plainjson/plainjson/JsonNumber" "PACK_CODES" "[B" (.ref s_T)) (TB : Tab Z Z.heap s_T cl .byte (59 : Int32)) (hTt : ∀ x ∈ own_chars, atv cl (x - (43 : Int32)) = own_cd x) (S_CS : Sta Z Z.heap "java/lang/String" "COMPACT_STRINGS" "Z" (.int cs)) (h_cs : ¬ cs = (0 : Int32)) (S_F : Sta Z Z.heap "jdk/internal/util/Preconditions" "SIOOBE_FORMATTER" "Ljava/util/function/BiFunction;" fm) (h_fm : fm.isRef = true) :
    ∃ s₂ o, Steps p.tables e below (T0.setTop (mkF m 585 #[vJ q1, .second, vJ q2, .second, vI p3, vI p4, vR cc, vI fr, vI ln, vI ng_, vI he_, vI ec_, vI sg_, vI hd_, vI ep_, vI dp_, vI sv_, vI sl_, vI xo_, vI en_, vI dk_, vI ie_, .unset, .unset] [])) s₂ ∧ s₂.status = .running ∧ Ended s₂ below o ∧ ∃ v L, o = .returned v ∧ own_Q0 n0 v s₂.heap L ∧ ReturnedEndW s o s₂ L room_1.cells room_1.slots := by
  have Oh2 := O0.keep Kt0 all0
  obtain ⟨_, _, ⟨T1, L1, k1, n1⟩, -, X1, ⟨Lc1, hQ1, l1, y1, z1⟩, st1⟩ := Jvm.LawKit.callS X0 hx (y := mn_8) hown (mvT hZ (ww hw 7 rfl)) (mvT hZ (ww hw 8 rfl)) (mvT hZ (ww hw 9 rfl)) (mvT hZ (ww hw 10 rfl)) (by decide) (backOf (W := 0) (rm2_a l Z a0 hw [] cc fr ln kc CL s_T cl hT n0 (Nat.le_trans Z0 Kt0.1) Oh2 V_c hCL hok rf rl h16 S_T TB hTt) hZ (ww hw 10 rfl) (ww hw 9 rfl) (by decide) (by decide)) (g := (mkF m 591 #[vJ q1, .second, vJ q2, .second, vI p3, vI p4, vR cc, vI fr, vI ln, vI ng_, vI he_, vI ec_, vI sg_, vI hd_, vI ep_, vI dp_, vI sv_, vI sl_, vI xo_, vI en_, vI dk_, vI ie_, .unset, .unset] [iI ln, iI fr, iR cc])) rfl (by rw [hml]; rfl) (argsL := [(.ref cc), (.int fr), (.int ln)]) (rest := []) (lenOf pd_28 rfl) rfl (wz rfl) (hb hby at_591) (fun _ _ => ⟨rfl, e0, (by decide : 1 + 1 ≤ _), (by decide : 20 + 2 ≤ _)⟩)
  dsimp only [Pt.U, Pt.locs, Pt.cells, Pt.slots] at X1 l1 y1 z1 st1 hQ1
  subst l1 y1 z1
  obtain ⟨o1, rfl, N1q, K1q, E1q, P1q, F1q, z_o1⟩ := hQ1
  have ne_cc_o1 : cc ≠ o1 := Nat.ne_of_lt (Nat.lt_of_lt_of_le V_c.lt z_o1)
  have sz_o1 : h0.size ≤ o1 := Nat.le_trans Kt0.1 z_o1
  have g_o1 : n0 ≤ o1 := Nat.le_trans Z0 sz_o1
  have N1 := Fr.app N0 N1q
  have K1 : Keep h0 T1.heap [] := Keep.trans Kt0 K1q all0
  have Oh4 := O0.keep K1 all0
  have S5_cc := Safe.keep K1q sf0 RT.1 S_cc
  have S5_o1 := Safe.keep K1q sf0 RT.1 (Safe.new z_o1)
  have R5 := RT.trans (CHr.keep K1q sf0 RT.1)
  obtain ⟨cq3, kq3, q3a, q3b, q3c⟩ := isOf hZ rfl E1q
  obtain ⟨_, _, ⟨T3, L3, k3, n3⟩, -, X3, hS3q, gr3, ⟨Lc3, hQ3, l3, y3, z3, C3⟩, st3⟩ := virtualBackS (s := s.setVm vmT) X1 hx (y := mn_17) (z := mn_17) hown (mvT hZ (ww hw 33 rfl)) (mvT hZ (ww hw 34 rfl)) (notFace_of_selects (args := #[]) (mvT hZ (ww hw 36 rfl))) (mvT hZ (ww hw 36 rfl)) (mvT hZ (ww hw 35 rfl)) (by decide) (backOfSH (s := s) (vm0 := vmT) (W := 0) (rm7_p l Z a0 hw [] o1 (CL.getD fr.toNatClampNeg 0) ln ((own_sub CL fr ln).drop 1) ((own_sub CL fr ln).map own_by) cs fm T1.heap n0 (Nat.le_trans Z0 K1.1) Oh4 E1q F1q (by rw [← own_cons hCL rf rl]; exact P1q) (by rw [← own_cons hCL rf rl]; exact own_subok hok _ _) (by rw [← own_cons hCL rf rl, own_sublen hCL rf rl]; simp only [Int32.toNatClampNeg]; have e : (16 : Int32).toInt = 16 := rfl; rw [Int32.lt_iff_toInt_lt] at h16; omega) (by rw [← own_cons hCL rf rl]) (by rw [List.length_map, own_sublen hCL rf rl]; simp only [Int32.toNatClampNeg]; omega) S_CS h_cs S_F h_fm) hZ (ww hw 37 rfl) (ww hw 9 rfl) (by decide) (by decide) (own_EW hw) R5.1) q3a q3c (g := (mkF m 598 #[vJ q1, .second, vJ q2, .second, vI p3, vI p4, vR cc, vI fr, vI ln, vI ng_, vI he_, vI ec_, vI sg_, vI hd_, vI ep_, vI dp_, vI sv_, vI sl_, vI xo_, vI en_, vI dk_, vI ie_, vR o1, .unset] [iR o1])) rfl (by rw [hml]; rfl) (Steps.refl _) (argsL := []) (rest := []) (lenOf pd_27 rfl) rfl (wz rfl) (hb hby at_598) (fun _ _ => ⟨rfl, rfl, (by decide : 2 + 6 ≤ _), (by decide : 22 + 104 ≤ _)⟩)
  dsimp only [Pt.U, Pt.locs, Pt.cells, Pt.slots] at X3 hS3q gr3 l3 y3 z3 C3 st3 hQ3
  subst l3 y3 z3
  have hS3 := State.Since.trans hS0 hS3q (Nat.le_trans (Nat.le_trans hk0 K1q.1) gr3)
  have hZ : Z.Warmed39 (s.setVm T3.vm).vm := State.Warmed39.trans (t := s.setVm vmT) hZ hS3q.1
  have hown : (s.setVm T3.vm).vm.findClass "com/example/plainjson/plainjson/JsonNumberParsedPinLaw" = some m.cls := by rw [show (s.setVm T3.vm).vm = T3.vm from rfl, hS3q.1.alike.findClass]; exact hown
  have R3 := R5.trans C3
  obtain ⟨o3, d3, kd3, rfl, N3q, K3q, E3q, C3q, F3q, V3q⟩ := hQ3
  have N3 := Fr.app N1 N3q
  have K3 : Keep h0 T3.heap [] := Keep.trans K1 K3q all0
  have fk6 := ((V_c.keep K1q nin0).keep K3q nin0)
  have pre7 : ∀ t, Steps p.tables e below (T3.setTop (mkF m 603 #[vJ q1, .second, vJ q2, .second, vI p3, vI p4, vR cc, vI fr, vI ln, vI ng_, vI he_, vI ec_, vI sg_, vI hd_, vI ep_, vI dp_, vI sv_, vI sl_, vI xo_, vI en_, vI dk_, vI ie_, vR o1, vR o3] [])) t → Steps p.tables e below (T0.setTop (mkF m 585 #[vJ q1, .second, vJ q2, .second, vI p3, vI p4, vR cc, vI fr, vI ln, vI ng_, vI he_, vI ec_, vI sg_, vI hd_, vI ep_, vI dp_, vI sv_, vI sl_, vI xo_, vI en_, vI dk_, vI ie_, .unset, .unset] [])) t := by
    intro t kt
    show SA T0 m 585 #[vJ q1, .second, vJ q2, .second, vI p3, vI p4, vR cc, vI fr, vI ln, vI ng_, vI he_, vI ec_, vI sg_, vI hd_, vI ep_, vI dp_, vI sv_, vI sl_, vI xo_, vI en_, vI dk_, vI ie_, .unset, .unset] []
    refine XS.aload X0.here hx rfl (hb hby at_585) rfl rfl ?_
    show SA T0 m 587 #[vJ q1, .second, vJ q2, .second, vI p3, vI p4, vR cc, vI fr, vI ln, vI ng_, vI he_, vI ec_, vI sg_, vI hd_, vI ep_, vI dp_, vI sv_, vI sl_, vI xo_, vI en_, vI dk_, vI ie_, .unset, .unset] [iR cc]
    refine XS.iload X0.here hx rfl (hb hby at_587) rfl ?_
    show SA T0 m 589 #[vJ q1, .second, vJ q2, .second, vI p3, vI p4, vR cc, vI fr, vI ln, vI ng_, vI he_, vI ec_, vI sg_, vI hd_, vI ep_, vI dp_, vI sv_, vI sl_, vI xo_, vI en_, vI dk_, vI ie_, .unset, .unset] [iI fr, iR cc]
    refine XS.iload X0.here hx rfl (hb hby at_589) rfl ?_
    show SA T0 m 591 #[vJ q1, .second, vJ q2, .second, vI p3, vI p4, vR cc, vI fr, vI ln, vI ng_, vI he_, vI ec_, vI sg_, vI hd_, vI ep_, vI dp_, vI sv_, vI sl_, vI xo_, vI en_, vI dk_, vI ie_, .unset, .unset] [iI ln, iI fr, iR cc]
    refine st1 _ ?_
    show SA T1 m 594 #[vJ q1, .second, vJ q2, .second, vI p3, vI p4, vR cc, vI fr, vI ln, vI ng_, vI he_, vI ec_, vI sg_, vI hd_, vI ep_, vI dp_, vI sv_, vI sl_, vI xo_, vI en_, vI dk_, vI ie_, .unset, .unset] [iR o1]
    refine XS.astore X1.here hx rfl (hb hby at_594) rfl rfl (l' := #[vJ q1, .second, vJ q2, .second, vI p3, vI p4, vR cc, vI fr, vI ln, vI ng_, vI he_, vI ec_, vI sg_, vI hd_, vI ep_, vI dp_, vI sv_, vI sl_, vI xo_, vI en_, vI dk_, vI ie_, vR o1, .unset]) rfl ?_
    show SA T1 m 596 #[vJ q1, .second, vJ q2, .second, vI p3, vI p4, vR cc, vI fr, vI ln, vI ng_, vI he_, vI ec_, vI sg_, vI hd_, vI ep_, vI dp_, vI sv_, vI sl_, vI xo_, vI en_, vI dk_, vI ie_, vR o1, .unset] []
    refine XS.aload X1.here hx rfl (hb hby at_596) rfl rfl ?_
    show SA T1 m 598 #[vJ q1, .second, vJ q2, .second, vI p3, vI p4, vR cc, vI fr, vI ln, vI ng_, vI he_, vI ec_, vI sg_, vI hd_, vI ep_, vI dp_, vI sv_, vI sl_, vI xo_, vI en_, vI dk_, vI ie_, vR o1, .unset] [iR o1]
    refine st3.trans ?_
    show SA T3 m 601 #[vJ q1, .second, vJ q2, .second, vI p3, vI p4, vR cc, vI fr, vI ln, vI ng_, vI he_, vI ec_, vI sg_, vI hd_, vI ep_, vI dp_, vI sv_, vI sl_, vI xo_, vI en_, vI dk_, vI ie_, vR o1, .unset] [iR o3]
    refine XS.astore X3.here hx rfl (hb hby at_601) rfl rfl (l' := #[vJ q1, .second, vJ q2, .second, vI p3, vI p4, vR cc, vI fr, vI ln, vI ng_, vI he_, vI ec_, vI sg_, vI hd_, vI ep_, vI dp_, vI sv_, vI sl_, vI xo_, vI en_, vI dk_, vI ie_, vR o1, vR o3]) rfl ?_
    exact kt
  obtain ⟨s₂, o₂, hs₂, hr₂⟩ := own_t603 (cc := cc) (fr := fr) (ln := ln) (ng_ := ng_) (he_ := he_) (ec_ := ec_) (sg_ := sg_) (hd_ := hd_) (ep_ := ep_) (dp_ := dp_) (sv_ := sv_) (sl_ := sl_) (xo_ := xo_) (en_ := en_) (dk_ := dk_) (ie_ := ie_) (jn := o1) (tt := o3) (kc := kc) (CL := CL) (s := s) (vmT := T3.vm) (X3.more (by decide) (by decide)) hx hZ hw hby hml hown hret (by first | assumption | exact BodyLoose.notSynchronized (by assumption) | exact Body.notSynchronized (by assumption)) (rfl : T3.heap = _) K3 N3 Z0 O0 hS3 (Nat.le_refl _) R3 hh fk6 E3q C3q F3q V3q (own_nneg (by omega)) (by rw [List.length_map]; exact (own_sublen hCL rf rl).symm) (own_inA rf rl) (own_sm hCL hok rf rl rfl) S_T TB hTt S_CS h_cs S_F h_fm
  exact ⟨s₂, o₂, pre7 _ hs₂, hr₂⟩
theorem own_t585b {p : Program} {l : Launch} {e : Env} {s : State} {m : MethodId} {below : List Frame} {meth : Method} {c : Code} {T0 : State} {locs : List Loc} {Z : State} {a0 : Array Value} {h0 hT : Heap} {n0 : Nat} {vmT : Vm} {kT : Nat} {q1 : Int64} {q2 : Int64} {p3 : Int32} {p4 : Int32} {s_T : Addr} {cl : Cell} {cs : Int32} {fm : Value} {cc : Addr} {fr ln ng_ he_ ec_ sg_ hd_ ep_ dp_ sv_ sl_ xo_ en_ dk_ ie_ : Int32} {kc : ClassId} {CL : List Int32}
    (X0 : Stand p l e room_1 (s.setVm vmT) m #[(.long q1), (.long q2), (.int p3), (.int p4)] below meth c T0 locs 1 20) (hx : p.tables.exec = Jvm.exec) (hZ : Z.Warmed39 (s.setVm vmT).vm) (hw : ∀ d ∈ tables_1, d.before a0 Z = true) (hby : c.code = code) (hml : c.maxLocals = 24) (hown : (s.setVm vmT).vm.findClass "com/example/plainjson/plainjson/JsonNumberParsedPinLaw" = some m.cls) (hret : meth.sig.returnType = some .boolean) (hlocks : meth.locks = false) (e0 : T0.heap = hT) (Kt0 : Keep h0 hT []) (N0 : Fr n0 locs) (Z0 : n0 ≤ h0.size) (O0 : Old Z n0 h0) (hS0 : s.Since vmT kT) (hk0 : kT ≤ hT.size) (RT : CHr Z consts_1 s.vm h0 vmT hT) (hh : s.heap = h0) (V_c : Arv Z hT cc kc .char (20 : Int32) (own_bs CL) (.int (0 : Int32))) (g_cc : n0 ≤ cc) (sz_cc : h0.size ≤ cc) (S_cc : Safe Z consts_1 vmT hT cc) (hCL : CL.length = 20) (hok : ∀ x ∈ CL, x ∈ own_chars) (rf : 0 ≤ fr.toInt ∧ fr.toInt ≤ 2) (rl : 1 ≤ ln.toInt ∧ ln.toInt ≤ 18) (rs : 0 ≤ sv_.toInt ∧ sv_.toInt ≤ 17) (re : 0 ≤ ep_.toInt ∧ ep_.toInt ≤ 17) (rd : 0 ≤ dp_.toInt ∧ dp_.toInt ≤ 17) (rx : ¬ xo_ = (0 : Int32) → ep_.toInt + 2 ≤ ln.toInt) (rc : ec_ ∈ own_chars) (h16 : (16 : Int32) < ln) (S_T : Sta Z Z.heap "com/example/plainjson/plainjson/JsonNumber" "PACK_CODES" "[B" (.ref s_T)) (TB : Tab Z Z.heap s_T cl .byte (59 : Int32)) (hTt : ∀ x ∈ own_chars, atv cl (x - (43 : Int32)) = own_cd x) (S_CS : Sta Z Z.heap "java/lang/String" "COMPACT_STRINGS" "Z" (.int cs)) (h_cs : ¬ cs = (0 : Int32)) (S_F : Sta Z Z.heap "jdk/internal/util/Preconditions" "SIOOBE_FORMATTER" "Ljava/util/function/BiFunction;" fm) (h_fm : fm.isRef = true) :
    ∃ s₂ o, Steps p.tables e below (T0.setTop (mkF m 585 #[vJ q1, .second, vJ q2, .second, vI p3, vI p4, vR cc, vI fr, vI ln, vI ng_, vI he_, vI ec_, vI sg_, vI hd_, vI ep_, vI dp_, vI sv_, vI sl_, vI xo_, vI en_, vI dk_, vI ie_, .unset, .unset] [])) s₂ ∧ s₂.status = .running ∧ Ended s₂ below o ∧ ∃ v L, o = .returned v ∧ own_Q0 n0 v s₂.heap L ∧ ReturnedEndW s o s₂ L room_1.cells room_1.slots := by
  have Oh2 := O0.keep Kt0 all0
  obtain ⟨_, _, ⟨T1, L1, k1, n1⟩, -, X1, ⟨Lc1, hQ1, l1, y1, z1⟩, st1⟩ := Jvm.LawKit.callS X0 hx (y := mn_8) hown (mvT hZ (ww hw 7 rfl)) (mvT hZ (ww hw 8 rfl)) (mvT hZ (ww hw 9 rfl)) (mvT hZ (ww hw 10 rfl)) (by decide) (backOf (W := 0) (rm2_b l Z a0 hw [] cc fr ln kc CL cs fm hT n0 (Nat.le_trans Z0 Kt0.1) Oh2 V_c hCL hok rf rl h16 S_CS h_cs S_F h_fm) hZ (ww hw 10 rfl) (ww hw 9 rfl) (by decide) (by decide)) (g := (mkF m 591 #[vJ q1, .second, vJ q2, .second, vI p3, vI p4, vR cc, vI fr, vI ln, vI ng_, vI he_, vI ec_, vI sg_, vI hd_, vI ep_, vI dp_, vI sv_, vI sl_, vI xo_, vI en_, vI dk_, vI ie_, .unset, .unset] [iI ln, iI fr, iR cc])) rfl (by rw [hml]; rfl) (argsL := [(.ref cc), (.int fr), (.int ln)]) (rest := []) (lenOf pd_28 rfl) rfl (wz rfl) (hb hby at_591) (fun _ _ => ⟨rfl, e0, (by decide : 1 + 3 ≤ _), (by decide : 20 + 24 ≤ _)⟩)
  dsimp only [Pt.U, Pt.locs, Pt.cells, Pt.slots] at X1 l1 y1 z1 st1 hQ1
  subst l1 y1 z1
  obtain ⟨o1, t1, d1, kd1, rfl, N1q, K1q, E1q, F1q, G1q, C1q, U1q, V1q, z_o1, z_t1, z_d1⟩ := hQ1
  have ne_cc_o1 : cc ≠ o1 := Nat.ne_of_lt (Nat.lt_of_lt_of_le V_c.lt z_o1)
  have sz_o1 : h0.size ≤ o1 := Nat.le_trans Kt0.1 z_o1
  have g_o1 : n0 ≤ o1 := Nat.le_trans Z0 sz_o1
  have ne_cc_t1 : cc ≠ t1 := Nat.ne_of_lt (Nat.lt_of_lt_of_le V_c.lt z_t1)
  have sz_t1 : h0.size ≤ t1 := Nat.le_trans Kt0.1 z_t1
  have g_t1 : n0 ≤ t1 := Nat.le_trans Z0 sz_t1
  have ne_cc_d1 : cc ≠ d1 := Nat.ne_of_lt (Nat.lt_of_lt_of_le V_c.lt z_d1)
  have sz_d1 : h0.size ≤ d1 := Nat.le_trans Kt0.1 z_d1
  have g_d1 : n0 ≤ d1 := Nat.le_trans Z0 sz_d1
  have N1 := Fr.app N0 N1q
  have K1 : Keep h0 T1.heap [] := Keep.trans Kt0 K1q all0
  obtain ⟨cq3, kq3, q3a, q3b, q3c⟩ := isOf hZ rfl E1q
  obtain ⟨_, _, ⟨T3, L3, k3, n3⟩, -, X3, ⟨Lc3, hQ3, l3, y3, z3⟩, st3⟩ := X1.virtualBack hx (y := mn_17) (z := mn_17) hown (mvT hZ (ww hw 33 rfl)) (mvT hZ (ww hw 34 rfl)) (notFace_of_selects (args := #[]) (mvT hZ (ww hw 36 rfl))) (mvT hZ (ww hw 36 rfl)) (mvT hZ (ww hw 35 rfl)) (by decide) (backOf (W := 0) (rm7_s l Z a0 hw [] o1 t1 T1.heap F1q) hZ (ww hw 37 rfl) (ww hw 9 rfl) (by decide) (by decide)) q3a q3c (g := (mkF m 598 #[vJ q1, .second, vJ q2, .second, vI p3, vI p4, vR cc, vI fr, vI ln, vI ng_, vI he_, vI ec_, vI sg_, vI hd_, vI ep_, vI dp_, vI sv_, vI sl_, vI xo_, vI en_, vI dk_, vI ie_, vR o1, .unset] [iR o1])) rfl (by rw [hml]; rfl) (Steps.refl _) (argsL := []) (rest := []) (lenOf pd_27 rfl) rfl (wz rfl) (hb hby at_598) (fun _ _ => ⟨rfl, rfl, (by decide : 4 + 0 ≤ _), (by decide : 44 + 0 ≤ _)⟩)
  dsimp only [Pt.U, Pt.locs, Pt.cells, Pt.slots] at X3 l3 y3 z3 st3 hQ3
  subst l3 y3 z3
  obtain ⟨rfl, rfl, e3⟩ := hQ3
  try rw [List.append_nil] at X3
  have S4_cc := Safe.keep K1q sf0 RT.1 S_cc
  have S4_o1 := Safe.keep K1q sf0 RT.1 (Safe.new z_o1)
  have S4_t1 := Safe.keep K1q sf0 RT.1 (Safe.new z_t1)
  have S4_d1 := Safe.keep K1q sf0 RT.1 (Safe.new z_d1)
  have R4 := RT.trans (CHr.keep K1q sf0 RT.1)
  have fk5 := (V_c.keep K1q nin0)
  have pre6 : ∀ t, Steps p.tables e below (T3.setTop (mkF m 603 #[vJ q1, .second, vJ q2, .second, vI p3, vI p4, vR cc, vI fr, vI ln, vI ng_, vI he_, vI ec_, vI sg_, vI hd_, vI ep_, vI dp_, vI sv_, vI sl_, vI xo_, vI en_, vI dk_, vI ie_, vR o1, vR t1] [])) t → Steps p.tables e below (T0.setTop (mkF m 585 #[vJ q1, .second, vJ q2, .second, vI p3, vI p4, vR cc, vI fr, vI ln, vI ng_, vI he_, vI ec_, vI sg_, vI hd_, vI ep_, vI dp_, vI sv_, vI sl_, vI xo_, vI en_, vI dk_, vI ie_, .unset, .unset] [])) t := by
    intro t kt
    show SA T0 m 585 #[vJ q1, .second, vJ q2, .second, vI p3, vI p4, vR cc, vI fr, vI ln, vI ng_, vI he_, vI ec_, vI sg_, vI hd_, vI ep_, vI dp_, vI sv_, vI sl_, vI xo_, vI en_, vI dk_, vI ie_, .unset, .unset] []
    refine XS.aload X0.here hx rfl (hb hby at_585) rfl rfl ?_
    show SA T0 m 587 #[vJ q1, .second, vJ q2, .second, vI p3, vI p4, vR cc, vI fr, vI ln, vI ng_, vI he_, vI ec_, vI sg_, vI hd_, vI ep_, vI dp_, vI sv_, vI sl_, vI xo_, vI en_, vI dk_, vI ie_, .unset, .unset] [iR cc]
    refine XS.iload X0.here hx rfl (hb hby at_587) rfl ?_
    show SA T0 m 589 #[vJ q1, .second, vJ q2, .second, vI p3, vI p4, vR cc, vI fr, vI ln, vI ng_, vI he_, vI ec_, vI sg_, vI hd_, vI ep_, vI dp_, vI sv_, vI sl_, vI xo_, vI en_, vI dk_, vI ie_, .unset, .unset] [iI fr, iR cc]
    refine XS.iload X0.here hx rfl (hb hby at_589) rfl ?_
    show SA T0 m 591 #[vJ q1, .second, vJ q2, .second, vI p3, vI p4, vR cc, vI fr, vI ln, vI ng_, vI he_, vI ec_, vI sg_, vI hd_, vI ep_, vI dp_, vI sv_, vI sl_, vI xo_, vI en_, vI dk_, vI ie_, .unset, .unset] [iI ln, iI fr, iR cc]
    refine st1 _ ?_
    show SA T1 m 594 #[vJ q1, .second, vJ q2, .second, vI p3, vI p4, vR cc, vI fr, vI ln, vI ng_, vI he_, vI ec_, vI sg_, vI hd_, vI ep_, vI dp_, vI sv_, vI sl_, vI xo_, vI en_, vI dk_, vI ie_, .unset, .unset] [iR o1]
    refine XS.astore X1.here hx rfl (hb hby at_594) rfl rfl (l' := #[vJ q1, .second, vJ q2, .second, vI p3, vI p4, vR cc, vI fr, vI ln, vI ng_, vI he_, vI ec_, vI sg_, vI hd_, vI ep_, vI dp_, vI sv_, vI sl_, vI xo_, vI en_, vI dk_, vI ie_, vR o1, .unset]) rfl ?_
    show SA T1 m 596 #[vJ q1, .second, vJ q2, .second, vI p3, vI p4, vR cc, vI fr, vI ln, vI ng_, vI he_, vI ec_, vI sg_, vI hd_, vI ep_, vI dp_, vI sv_, vI sl_, vI xo_, vI en_, vI dk_, vI ie_, vR o1, .unset] []
    refine XS.aload X1.here hx rfl (hb hby at_596) rfl rfl ?_
    show SA T1 m 598 #[vJ q1, .second, vJ q2, .second, vI p3, vI p4, vR cc, vI fr, vI ln, vI ng_, vI he_, vI ec_, vI sg_, vI hd_, vI ep_, vI dp_, vI sv_, vI sl_, vI xo_, vI en_, vI dk_, vI ie_, vR o1, .unset] [iR o1]
    refine st3.trans ?_
    show SA T3 m 601 #[vJ q1, .second, vJ q2, .second, vI p3, vI p4, vR cc, vI fr, vI ln, vI ng_, vI he_, vI ec_, vI sg_, vI hd_, vI ep_, vI dp_, vI sv_, vI sl_, vI xo_, vI en_, vI dk_, vI ie_, vR o1, .unset] [iR t1]
    refine XS.astore X3.here hx rfl (hb hby at_601) rfl rfl (l' := #[vJ q1, .second, vJ q2, .second, vI p3, vI p4, vR cc, vI fr, vI ln, vI ng_, vI he_, vI ec_, vI sg_, vI hd_, vI ep_, vI dp_, vI sv_, vI sl_, vI xo_, vI en_, vI dk_, vI ie_, vR o1, vR t1]) rfl ?_
    exact kt
  obtain ⟨s₂, o₂, hs₂, hr₂⟩ := own_t603 (cc := cc) (fr := fr) (ln := ln) (ng_ := ng_) (he_ := he_) (ec_ := ec_) (sg_ := sg_) (hd_ := hd_) (ep_ := ep_) (dp_ := dp_) (sv_ := sv_) (sl_ := sl_) (xo_ := xo_) (en_ := en_) (dk_ := dk_) (ie_ := ie_) (jn := o1) (tt := t1) (kc := kc) (CL := CL) (s := s) (vmT := vmT) (X3.more (by decide) (by decide)) hx hZ hw hby hml hown hret (by first | assumption | exact BodyLoose.notSynchronized (by assumption) | exact Body.notSynchronized (by assumption)) e3 K1 N1 Z0 O0 hS0 (Nat.le_trans hk0 K1q.1) R4 hh fk5 G1q C1q U1q V1q (own_nneg (by omega)) (by rw [own_segsub]; rw [List.length_map]; exact (own_sublen hCL rf rl).symm) (own_inA rf rl) (own_sm hCL hok rf rl rfl) S_T TB hTt S_CS h_cs S_F h_fm
  exact ⟨s₂, o₂, pre6 _ hs₂, hr₂⟩
theorem own_t531 {p : Program} {l : Launch} {e : Env} {s : State} {m : MethodId} {below : List Frame} {meth : Method} {c : Code} {T0 : State} {locs : List Loc} {Z : State} {a0 : Array Value} {h0 hT : Heap} {n0 : Nat} {vmT : Vm} {kT : Nat} {q1 : Int64} {q2 : Int64} {p3 : Int32} {p4 : Int32} {s_T : Addr} {cl : Cell} {cs : Int32} {fm : Value} {cc : Addr} {fr ln ng_ he_ ec_ sg_ hd_ ep_ dp_ sv_ sl_ xo_ en_ dk_ ie_ : Int32} {kc : ClassId} {CL : List Int32}
    (X0 : Stand p l e room_1 (s.setVm vmT) m #[(.long q1), (.long q2), (.int p3), (.int p4)] below meth c T0 locs 1 20) (hx : p.tables.exec = Jvm.exec) (hZ : Z.Warmed39 (s.setVm vmT).vm) (hw : ∀ d ∈ tables_1, d.before a0 Z = true) (hby : c.code = code) (hml : c.maxLocals = 24) (hown : (s.setVm vmT).vm.findClass "com/example/plainjson/plainjson/JsonNumberParsedPinLaw" = some m.cls) (hret : meth.sig.returnType = some .boolean) (hlocks : meth.locks = false) (e0 : T0.heap = hT) (Kt0 : Keep h0 hT []) (N0 : Fr n0 locs) (Z0 : n0 ≤ h0.size) (O0 : Old Z n0 h0) (hS0 : s.Since vmT kT) (hk0 : kT ≤ hT.size) (RT : CHr Z consts_1 s.vm h0 vmT hT) (hh : s.heap = h0) (V_c : Arv Z hT cc kc .char (20 : Int32) (own_bs CL) (.int (0 : Int32))) (g_cc : n0 ≤ cc) (sz_cc : h0.size ≤ cc) (S_cc : Safe Z consts_1 vmT hT cc) (hCL : CL.length = 20) (hok : ∀ x ∈ CL, x ∈ own_chars) (rf : 0 ≤ fr.toInt ∧ fr.toInt ≤ 2) (rl : 1 ≤ ln.toInt ∧ ln.toInt ≤ 18) (rs : 0 ≤ sv_.toInt ∧ sv_.toInt ≤ 17) (re : 0 ≤ ep_.toInt ∧ ep_.toInt ≤ 17) (rd : 0 ≤ dp_.toInt ∧ dp_.toInt ≤ 17) (rx : ¬ xo_ = (0 : Int32) → ep_.toInt + 2 ≤ ln.toInt) (rc : ec_ ∈ own_chars) (S_T : Sta Z Z.heap "com/example/plainjson/plainjson/JsonNumber" "PACK_CODES" "[B" (.ref s_T)) (TB : Tab Z Z.heap s_T cl .byte (59 : Int32)) (hTt : ∀ x ∈ own_chars, atv cl (x - (43 : Int32)) = own_cd x) (S_CS : Sta Z Z.heap "java/lang/String" "COMPACT_STRINGS" "Z" (.int cs)) (h_cs : ¬ cs = (0 : Int32)) (S_F : Sta Z Z.heap "jdk/internal/util/Preconditions" "SIOOBE_FORMATTER" "Ljava/util/function/BiFunction;" fm) (h_fm : fm.isRef = true) :
    ∃ s₂ o, Steps p.tables e below (T0.setTop (mkF m 531 #[vJ q1, .second, vJ q2, .second, vI p3, vI p4, vR cc, vI fr, vI ln, vI ng_, vI he_, vI ec_, vI sg_, vI hd_, vI ep_, vI dp_, vI sv_, vI sl_, vI xo_, vI en_, vI dk_, vI ie_, .unset, .unset] [])) s₂ ∧ s₂.status = .running ∧ Ended s₂ below o ∧ ∃ v L, o = .returned v ∧ own_Q0 n0 v s₂.heap L ∧ ReturnedEndW s o s₂ L room_1.cells room_1.slots := by
  have pre2 : ∀ t, Steps p.tables e below (T0.setTop (mkF m 533 #[vJ q1, .second, vJ q2, .second, vI p3, vI p4, vR cc, vI fr, vI ln, vI ng_, vI he_, vI ec_, vI sg_, vI hd_, vI ep_, vI dp_, vI sv_, vI sl_, vI xo_, vI en_, vI dk_, vI ie_, .unset, .unset] [iI xo_])) t → Steps p.tables e below (T0.setTop (mkF m 531 #[vJ q1, .second, vJ q2, .second, vI p3, vI p4, vR cc, vI fr, vI ln, vI ng_, vI he_, vI ec_, vI sg_, vI hd_, vI ep_, vI dp_, vI sv_, vI sl_, vI xo_, vI en_, vI dk_, vI ie_, .unset, .unset] [])) t := by
    intro t kt
    show SA T0 m 531 #[vJ q1, .second, vJ q2, .second, vI p3, vI p4, vR cc, vI fr, vI ln, vI ng_, vI he_, vI ec_, vI sg_, vI hd_, vI ep_, vI dp_, vI sv_, vI sl_, vI xo_, vI en_, vI dk_, vI ie_, .unset, .unset] []
    refine XS.iload X0.here hx rfl (hb hby at_531) rfl ?_
    exact kt
  by_cases hc1 : xo_ = (0 : Int32)
  · have pre3 : ∀ t, Steps p.tables e below (T0.setTop (mkF m 585 #[vJ q1, .second, vJ q2, .second, vI p3, vI p4, vR cc, vI fr, vI ln, vI ng_, vI he_, vI ec_, vI sg_, vI hd_, vI ep_, vI dp_, vI sv_, vI sl_, vI xo_, vI en_, vI dk_, vI ie_, .unset, .unset] [])) t → Steps p.tables e below (T0.setTop (mkF m 531 #[vJ q1, .second, vJ q2, .second, vI p3, vI p4, vR cc, vI fr, vI ln, vI ng_, vI he_, vI ec_, vI sg_, vI hd_, vI ep_, vI dp_, vI sv_, vI sl_, vI xo_, vI en_, vI dk_, vI ie_, .unset, .unset] [])) t := by
      intro t kt
      refine pre2 t ?_
      show SA T0 m 533 #[vJ q1, .second, vJ q2, .second, vI p3, vI p4, vR cc, vI fr, vI ln, vI ng_, vI he_, vI ec_, vI sg_, vI hd_, vI ep_, vI dp_, vI sv_, vI sl_, vI xo_, vI en_, vI dk_, vI ie_, .unset, .unset] [iI xo_]
      refine XS.ifYes X0.here hx rfl (pc0 := 533) (pc' := 585) rfl (hb hby at_533) rfl ((if0 _ _).trans (teq hc1).1) (by decide) (by decide) ?_
      exact kt
    obtain ⟨s₂, o₂, hs₂, hr₂⟩ := (Classical.em ((16 : Int32) < ln)).elim (fun h16 => own_t585b (cc := cc) (fr := fr) (ln := ln) (ng_ := ng_) (he_ := he_) (ec_ := ec_) (sg_ := sg_) (hd_ := hd_) (ep_ := ep_) (dp_ := dp_) (sv_ := sv_) (sl_ := sl_) (xo_ := xo_) (en_ := en_) (dk_ := dk_) (ie_ := ie_) (kc := kc) (CL := CL) (s := s) (vmT := vmT) X0 hx hZ hw hby hml hown hret (by first | assumption | exact BodyLoose.notSynchronized (by assumption) | exact Body.notSynchronized (by assumption)) e0 Kt0 N0 Z0 O0 hS0 hk0 RT hh V_c g_cc sz_cc S_cc hCL hok rf rl rs re rd rx rc h16 S_T TB hTt S_CS h_cs S_F h_fm) (fun h16 => own_t585a (cc := cc) (fr := fr) (ln := ln) (ng_ := ng_) (he_ := he_) (ec_ := ec_) (sg_ := sg_) (hd_ := hd_) (ep_ := ep_) (dp_ := dp_) (sv_ := sv_) (sl_ := sl_) (xo_ := xo_) (en_ := en_) (dk_ := dk_) (ie_ := ie_) (kc := kc) (CL := CL) (s := s) (vmT := vmT) X0 hx hZ hw hby hml hown hret (by first | assumption | exact BodyLoose.notSynchronized (by assumption) | exact Body.notSynchronized (by assumption)) e0 Kt0 N0 Z0 O0 hS0 hk0 RT hh V_c g_cc sz_cc S_cc hCL hok rf rl rs re rd rx rc h16 S_T TB hTt S_CS h_cs S_F h_fm)
    exact ⟨s₂, o₂, pre3 _ hs₂, hr₂⟩
  · have rx' := rx hc1
    have re' : 0 ≤ ep_.toInt ∧ ep_.toInt ≤ 16 := ⟨re.1, by omega⟩
    have rc' : nar .char ec_ ∈ own_chars := by rw [(own_okc _ rc).2.2.2.2.2.2.2.2.1]; exact rc
    obtain ⟨cl4, Ar4, q4, S4, M4, H4, G4⟩ := id V_c
    have hin5 : ¬ ((fr + ep_) < 0 ∨ cl4.slots.size ≤ ((fr + ep_)).toNatClampNeg) := inb_of S4 (own_in1 rf re)
    obtain ⟨T6, h6, X6, e6, W6, st6⟩ := stC X0 hx hZ e0 Ar4 (j := (fr + ep_)) hin5 (g := (mkF m 545 #[vJ q1, .second, vJ q2, .second, vI p3, vI p4, vR cc, vI fr, vI ln, vI ng_, vI he_, vI ec_, vI sg_, vI hd_, vI ep_, vI dp_, vI sv_, vI sl_, vI xo_, vI en_, vI dk_, vI ie_, .unset, .unset] [iI ec_, iI (fr + ep_), iR cc])) rfl rfl (hb hby at_545)
    have V6r := Arv.set Ar4 q4 S4 M4 H4 G4 (fits_nar_char _) W6 _ rfl (by rw [List.length_map, hCL]; exact own_in20 (own_in1 rf re))
    have V6 : Arv Z h6 cc kc .char (20 : Int32) (own_bs (CL.set (fr + ep_).toNatClampNeg (nar .char ec_))) (.int (0 : Int32)) := by rw [← own_bsSet]; exact V6r
    have K6 : Keep h0 h6 [] := Kt0.wr W6 (Or.inr sz_cc)
    have N6 := Fr.snoc X6 N0 g_cc
    have pre8 : ∀ t, Steps p.tables e below (T6.setTop (mkF m 549 #[vJ q1, .second, vJ q2, .second, vI p3, vI p4, vR cc, vI fr, vI ln, vI ng_, vI he_, vI ec_, vI sg_, vI hd_, vI ep_, vI dp_, vI sv_, vI sl_, vI xo_, vI en_, vI dk_, vI ie_, .unset, .unset] [iI 1, iI sg_])) t → Steps p.tables e below (T0.setTop (mkF m 531 #[vJ q1, .second, vJ q2, .second, vI p3, vI p4, vR cc, vI fr, vI ln, vI ng_, vI he_, vI ec_, vI sg_, vI hd_, vI ep_, vI dp_, vI sv_, vI sl_, vI xo_, vI en_, vI dk_, vI ie_, .unset, .unset] [])) t := by
      intro t kt
      refine pre2 t ?_
      show SA T0 m 533 #[vJ q1, .second, vJ q2, .second, vI p3, vI p4, vR cc, vI fr, vI ln, vI ng_, vI he_, vI ec_, vI sg_, vI hd_, vI ep_, vI dp_, vI sv_, vI sl_, vI xo_, vI en_, vI dk_, vI ie_, .unset, .unset] [iI xo_]
      refine XS.ifNo X0.here hx rfl (hb hby at_533) rfl ((if0 _ _).trans (feq hc1).1) ?_
      show SA T0 m 536 #[vJ q1, .second, vJ q2, .second, vI p3, vI p4, vR cc, vI fr, vI ln, vI ng_, vI he_, vI ec_, vI sg_, vI hd_, vI ep_, vI dp_, vI sv_, vI sl_, vI xo_, vI en_, vI dk_, vI ie_, .unset, .unset] []
      refine XS.aload X0.here hx rfl (hb hby at_536) rfl rfl ?_
      show SA T0 m 538 #[vJ q1, .second, vJ q2, .second, vI p3, vI p4, vR cc, vI fr, vI ln, vI ng_, vI he_, vI ec_, vI sg_, vI hd_, vI ep_, vI dp_, vI sv_, vI sl_, vI xo_, vI en_, vI dk_, vI ie_, .unset, .unset] [iR cc]
      refine XS.iload X0.here hx rfl (hb hby at_538) rfl ?_
      show SA T0 m 540 #[vJ q1, .second, vJ q2, .second, vI p3, vI p4, vR cc, vI fr, vI ln, vI ng_, vI he_, vI ec_, vI sg_, vI hd_, vI ep_, vI dp_, vI sv_, vI sl_, vI xo_, vI en_, vI dk_, vI ie_, .unset, .unset] [iI fr, iR cc]
      refine XS.iload X0.here hx rfl (hb hby at_540) rfl ?_
      show SA T0 m 542 #[vJ q1, .second, vJ q2, .second, vI p3, vI p4, vR cc, vI fr, vI ln, vI ng_, vI he_, vI ec_, vI sg_, vI hd_, vI ep_, vI dp_, vI sv_, vI sl_, vI xo_, vI en_, vI dk_, vI ie_, .unset, .unset] [iI ep_, iI fr, iR cc]
      refine XS.iadd X0.here hx rfl (hb hby at_542) rfl ?_
      show SA T0 m 543 #[vJ q1, .second, vJ q2, .second, vI p3, vI p4, vR cc, vI fr, vI ln, vI ng_, vI he_, vI ec_, vI sg_, vI hd_, vI ep_, vI dp_, vI sv_, vI sl_, vI xo_, vI en_, vI dk_, vI ie_, .unset, .unset] [iI (fr + ep_), iR cc]
      refine XS.iload X0.here hx rfl (hb hby at_543) rfl ?_
      show SA T0 m 545 #[vJ q1, .second, vJ q2, .second, vI p3, vI p4, vR cc, vI fr, vI ln, vI ng_, vI he_, vI ec_, vI sg_, vI hd_, vI ep_, vI dp_, vI sv_, vI sl_, vI xo_, vI en_, vI dk_, vI ie_, .unset, .unset] [iI ec_, iI (fr + ep_), iR cc]
      refine st6 _ ?_
      show SA T6 m 546 #[vJ q1, .second, vJ q2, .second, vI p3, vI p4, vR cc, vI fr, vI ln, vI ng_, vI he_, vI ec_, vI sg_, vI hd_, vI ep_, vI dp_, vI sv_, vI sl_, vI xo_, vI en_, vI dk_, vI ie_, .unset, .unset] []
      refine XS.iload X6.here hx rfl (hb hby at_546) rfl ?_
      show SA T6 m 548 #[vJ q1, .second, vJ q2, .second, vI p3, vI p4, vR cc, vI fr, vI ln, vI ng_, vI he_, vI ec_, vI sg_, vI hd_, vI ep_, vI dp_, vI sv_, vI sl_, vI xo_, vI en_, vI dk_, vI ie_, .unset, .unset] [iI sg_]
      refine XS.iconst X6.here hx rfl (hb hby at_548) ?_
      exact kt
    by_cases hc7 : sg_ = (1 : Int32)
    · obtain ⟨cl9, Ar9, q9, S9, M9, H9, G9⟩ := id V6
      have hin10 : ¬ (((fr + ep_) + (1 : Int32)) < 0 ∨ cl9.slots.size ≤ (((fr + ep_) + (1 : Int32))).toNatClampNeg) := inb_of S9 (own_in2 rf re')
      obtain ⟨T11, h11, X11, e11, W11, st11⟩ := stC X6 hx hZ e6 Ar9 (j := ((fr + ep_) + (1 : Int32))) hin10 (g := (mkF m 563 #[vJ q1, .second, vJ q2, .second, vI p3, vI p4, vR cc, vI fr, vI ln, vI ng_, vI he_, vI ec_, vI sg_, vI hd_, vI ep_, vI dp_, vI sv_, vI sl_, vI xo_, vI en_, vI dk_, vI ie_, .unset, .unset] [iI 43, iI ((fr + ep_) + (1 : Int32)), iR cc])) rfl rfl (hb hby at_563)
      have V11r := Arv.set Ar9 q9 S9 M9 H9 G9 (by decide) W11 _ rfl (by rw [List.length_map, List.length_set, hCL]; exact own_in20 (own_in2 rf re'))
      have V11 : Arv Z h11 cc kc .char (20 : Int32) (own_bs ((CL.set (fr + ep_).toNatClampNeg (nar .char ec_)).set ((fr + ep_) + (1 : Int32)).toNatClampNeg (43 : Int32))) (.int (0 : Int32)) := by rw [← own_bsSet]; exact V11r
      have K11 : Keep h0 h11 [] := K6.wr W11 (Or.inr sz_cc)
      have N11 := Fr.snoc X11 N6 g_cc
      have S12_cc := Safe.wr W6 S_cc RT.1 S_cc
      have R12 := RT.trans (CHr.wr W6 S_cc RT.1)
      have S13_cc := Safe.wr W11 S12_cc R12.1 S12_cc
      have R13 := R12.trans (CHr.wr W11 S12_cc R12.1)
      have pre14 : ∀ t, Steps p.tables e below (T11.setTop (mkF m 585 #[vJ q1, .second, vJ q2, .second, vI p3, vI p4, vR cc, vI fr, vI ln, vI ng_, vI he_, vI ec_, vI sg_, vI hd_, vI ep_, vI dp_, vI sv_, vI sl_, vI xo_, vI en_, vI dk_, vI ie_, .unset, .unset] [])) t → Steps p.tables e below (T0.setTop (mkF m 531 #[vJ q1, .second, vJ q2, .second, vI p3, vI p4, vR cc, vI fr, vI ln, vI ng_, vI he_, vI ec_, vI sg_, vI hd_, vI ep_, vI dp_, vI sv_, vI sl_, vI xo_, vI en_, vI dk_, vI ie_, .unset, .unset] [])) t := by
        intro t kt
        refine pre8 t ?_
        show SA T6 m 549 #[vJ q1, .second, vJ q2, .second, vI p3, vI p4, vR cc, vI fr, vI ln, vI ng_, vI he_, vI ec_, vI sg_, vI hd_, vI ep_, vI dp_, vI sv_, vI sl_, vI xo_, vI en_, vI dk_, vI ie_, .unset, .unset] [iI 1, iI sg_]
        refine XS.icmpNo X6.here hx rfl (hb hby at_549) rfl (teq hc7).2 ?_
        show SA T6 m 552 #[vJ q1, .second, vJ q2, .second, vI p3, vI p4, vR cc, vI fr, vI ln, vI ng_, vI he_, vI ec_, vI sg_, vI hd_, vI ep_, vI dp_, vI sv_, vI sl_, vI xo_, vI en_, vI dk_, vI ie_, .unset, .unset] []
        refine XS.aload X6.here hx rfl (hb hby at_552) rfl rfl ?_
        show SA T6 m 554 #[vJ q1, .second, vJ q2, .second, vI p3, vI p4, vR cc, vI fr, vI ln, vI ng_, vI he_, vI ec_, vI sg_, vI hd_, vI ep_, vI dp_, vI sv_, vI sl_, vI xo_, vI en_, vI dk_, vI ie_, .unset, .unset] [iR cc]
        refine XS.iload X6.here hx rfl (hb hby at_554) rfl ?_
        show SA T6 m 556 #[vJ q1, .second, vJ q2, .second, vI p3, vI p4, vR cc, vI fr, vI ln, vI ng_, vI he_, vI ec_, vI sg_, vI hd_, vI ep_, vI dp_, vI sv_, vI sl_, vI xo_, vI en_, vI dk_, vI ie_, .unset, .unset] [iI fr, iR cc]
        refine XS.iload X6.here hx rfl (hb hby at_556) rfl ?_
        show SA T6 m 558 #[vJ q1, .second, vJ q2, .second, vI p3, vI p4, vR cc, vI fr, vI ln, vI ng_, vI he_, vI ec_, vI sg_, vI hd_, vI ep_, vI dp_, vI sv_, vI sl_, vI xo_, vI en_, vI dk_, vI ie_, .unset, .unset] [iI ep_, iI fr, iR cc]
        refine XS.iadd X6.here hx rfl (hb hby at_558) rfl ?_
        show SA T6 m 559 #[vJ q1, .second, vJ q2, .second, vI p3, vI p4, vR cc, vI fr, vI ln, vI ng_, vI he_, vI ec_, vI sg_, vI hd_, vI ep_, vI dp_, vI sv_, vI sl_, vI xo_, vI en_, vI dk_, vI ie_, .unset, .unset] [iI (fr + ep_), iR cc]
        refine XS.iconst X6.here hx rfl (hb hby at_559) ?_
        show SA T6 m 560 #[vJ q1, .second, vJ q2, .second, vI p3, vI p4, vR cc, vI fr, vI ln, vI ng_, vI he_, vI ec_, vI sg_, vI hd_, vI ep_, vI dp_, vI sv_, vI sl_, vI xo_, vI en_, vI dk_, vI ie_, .unset, .unset] [iI 1, iI (fr + ep_), iR cc]
        refine XS.iadd X6.here hx rfl (hb hby at_560) rfl ?_
        show SA T6 m 561 #[vJ q1, .second, vJ q2, .second, vI p3, vI p4, vR cc, vI fr, vI ln, vI ng_, vI he_, vI ec_, vI sg_, vI hd_, vI ep_, vI dp_, vI sv_, vI sl_, vI xo_, vI en_, vI dk_, vI ie_, .unset, .unset] [iI ((fr + ep_) + (1 : Int32)), iR cc]
        refine XS.bipush X6.here hx rfl (hb hby at_561) ?_
        show SA T6 m 563 #[vJ q1, .second, vJ q2, .second, vI p3, vI p4, vR cc, vI fr, vI ln, vI ng_, vI he_, vI ec_, vI sg_, vI hd_, vI ep_, vI dp_, vI sv_, vI sl_, vI xo_, vI en_, vI dk_, vI ie_, .unset, .unset] [iI 43, iI ((fr + ep_) + (1 : Int32)), iR cc]
        refine st11 _ ?_
        show SA T11 m 564 #[vJ q1, .second, vJ q2, .second, vI p3, vI p4, vR cc, vI fr, vI ln, vI ng_, vI he_, vI ec_, vI sg_, vI hd_, vI ep_, vI dp_, vI sv_, vI sl_, vI xo_, vI en_, vI dk_, vI ie_, .unset, .unset] []
        refine XS.goto X11.here hx rfl (pc0 := 564) (pc' := 585) rfl (hb hby at_564) (by decide) (by decide) ?_
        exact kt
      obtain ⟨s₂, o₂, hs₂, hr₂⟩ := (Classical.em ((16 : Int32) < ln)).elim (fun h16 => own_t585b (cc := cc) (fr := fr) (ln := ln) (ng_ := ng_) (he_ := he_) (ec_ := ec_) (sg_ := sg_) (hd_ := hd_) (ep_ := ep_) (dp_ := dp_) (sv_ := sv_) (sl_ := sl_) (xo_ := xo_) (en_ := en_) (dk_ := dk_) (ie_ := ie_) (kc := kc) (CL := ((CL.set (fr + ep_).toNatClampNeg (nar .char ec_)).set ((fr + ep_) + (1 : Int32)).toNatClampNeg (43 : Int32))) (s := s) (vmT := vmT) X11 hx hZ hw hby hml hown hret (by first | assumption | exact BodyLoose.notSynchronized (by assumption) | exact Body.notSynchronized (by assumption)) e11 K11 N11 Z0 O0 hS0 (Nat.le_trans (Nat.le_trans hk0 (Nat.le_of_eq W6.size.symm)) (Nat.le_of_eq W11.size.symm)) R13 hh V11 g_cc sz_cc S13_cc (by rw [List.length_set, List.length_set]; exact hCL) (own_okset (own_okset hok _ rc') _ (by decide)) rf rl rs re rd rx rc h16 S_T TB hTt S_CS h_cs S_F h_fm) (fun h16 => own_t585a (cc := cc) (fr := fr) (ln := ln) (ng_ := ng_) (he_ := he_) (ec_ := ec_) (sg_ := sg_) (hd_ := hd_) (ep_ := ep_) (dp_ := dp_) (sv_ := sv_) (sl_ := sl_) (xo_ := xo_) (en_ := en_) (dk_ := dk_) (ie_ := ie_) (kc := kc) (CL := ((CL.set (fr + ep_).toNatClampNeg (nar .char ec_)).set ((fr + ep_) + (1 : Int32)).toNatClampNeg (43 : Int32))) (s := s) (vmT := vmT) X11 hx hZ hw hby hml hown hret (by first | assumption | exact BodyLoose.notSynchronized (by assumption) | exact Body.notSynchronized (by assumption)) e11 K11 N11 Z0 O0 hS0 (Nat.le_trans (Nat.le_trans hk0 (Nat.le_of_eq W6.size.symm)) (Nat.le_of_eq W11.size.symm)) R13 hh V11 g_cc sz_cc S13_cc (by rw [List.length_set, List.length_set]; exact hCL) (own_okset (own_okset hok _ rc') _ (by decide)) rf rl rs re rd rx rc h16 S_T TB hTt S_CS h_cs S_F h_fm)
      exact ⟨s₂, o₂, pre14 _ hs₂, hr₂⟩
    · have pre16 : ∀ t, Steps p.tables e below (T6.setTop (mkF m 570 #[vJ q1, .second, vJ q2, .second, vI p3, vI p4, vR cc, vI fr, vI ln, vI ng_, vI he_, vI ec_, vI sg_, vI hd_, vI ep_, vI dp_, vI sv_, vI sl_, vI xo_, vI en_, vI dk_, vI ie_, .unset, .unset] [iI 2, iI sg_])) t → Steps p.tables e below (T0.setTop (mkF m 531 #[vJ q1, .second, vJ q2, .second, vI p3, vI p4, vR cc, vI fr, vI ln, vI ng_, vI he_, vI ec_, vI sg_, vI hd_, vI ep_, vI dp_, vI sv_, vI sl_, vI xo_, vI en_, vI dk_, vI ie_, .unset, .unset] [])) t := by
        intro t kt
        refine pre8 t ?_
        show SA T6 m 549 #[vJ q1, .second, vJ q2, .second, vI p3, vI p4, vR cc, vI fr, vI ln, vI ng_, vI he_, vI ec_, vI sg_, vI hd_, vI ep_, vI dp_, vI sv_, vI sl_, vI xo_, vI en_, vI dk_, vI ie_, .unset, .unset] [iI 1, iI sg_]
        refine XS.icmpYes X6.here hx rfl (pc0 := 549) (pc' := 567) rfl (hb hby at_549) rfl (feq hc7).2 (by decide) (by decide) ?_
        show SA T6 m 567 #[vJ q1, .second, vJ q2, .second, vI p3, vI p4, vR cc, vI fr, vI ln, vI ng_, vI he_, vI ec_, vI sg_, vI hd_, vI ep_, vI dp_, vI sv_, vI sl_, vI xo_, vI en_, vI dk_, vI ie_, .unset, .unset] []
        refine XS.iload X6.here hx rfl (hb hby at_567) rfl ?_
        show SA T6 m 569 #[vJ q1, .second, vJ q2, .second, vI p3, vI p4, vR cc, vI fr, vI ln, vI ng_, vI he_, vI ec_, vI sg_, vI hd_, vI ep_, vI dp_, vI sv_, vI sl_, vI xo_, vI en_, vI dk_, vI ie_, .unset, .unset] [iI sg_]
        refine XS.iconst X6.here hx rfl (hb hby at_569) ?_
        exact kt
      by_cases hc15 : sg_ = (2 : Int32)
      · obtain ⟨cl17, Ar17, q17, S17, M17, H17, G17⟩ := id V6
        have hin18 : ¬ (((fr + ep_) + (1 : Int32)) < 0 ∨ cl17.slots.size ≤ (((fr + ep_) + (1 : Int32))).toNatClampNeg) := inb_of S17 (own_in2 rf re')
        obtain ⟨T19, h19, X19, e19, W19, st19⟩ := stC X6 hx hZ e6 Ar17 (j := ((fr + ep_) + (1 : Int32))) hin18 (g := (mkF m 584 #[vJ q1, .second, vJ q2, .second, vI p3, vI p4, vR cc, vI fr, vI ln, vI ng_, vI he_, vI ec_, vI sg_, vI hd_, vI ep_, vI dp_, vI sv_, vI sl_, vI xo_, vI en_, vI dk_, vI ie_, .unset, .unset] [iI 45, iI ((fr + ep_) + (1 : Int32)), iR cc])) rfl rfl (hb hby at_584)
        have V19r := Arv.set Ar17 q17 S17 M17 H17 G17 (by decide) W19 _ rfl (by rw [List.length_map, List.length_set, hCL]; exact own_in20 (own_in2 rf re'))
        have V19 : Arv Z h19 cc kc .char (20 : Int32) (own_bs ((CL.set (fr + ep_).toNatClampNeg (nar .char ec_)).set ((fr + ep_) + (1 : Int32)).toNatClampNeg (45 : Int32))) (.int (0 : Int32)) := by rw [← own_bsSet]; exact V19r
        have K19 : Keep h0 h19 [] := K6.wr W19 (Or.inr sz_cc)
        have N19 := Fr.snoc X19 N6 g_cc
        have S20_cc := Safe.wr W6 S_cc RT.1 S_cc
        have R20 := RT.trans (CHr.wr W6 S_cc RT.1)
        have S21_cc := Safe.wr W19 S20_cc R20.1 S20_cc
        have R21 := R20.trans (CHr.wr W19 S20_cc R20.1)
        have pre22 : ∀ t, Steps p.tables e below (T19.setTop (mkF m 585 #[vJ q1, .second, vJ q2, .second, vI p3, vI p4, vR cc, vI fr, vI ln, vI ng_, vI he_, vI ec_, vI sg_, vI hd_, vI ep_, vI dp_, vI sv_, vI sl_, vI xo_, vI en_, vI dk_, vI ie_, .unset, .unset] [])) t → Steps p.tables e below (T0.setTop (mkF m 531 #[vJ q1, .second, vJ q2, .second, vI p3, vI p4, vR cc, vI fr, vI ln, vI ng_, vI he_, vI ec_, vI sg_, vI hd_, vI ep_, vI dp_, vI sv_, vI sl_, vI xo_, vI en_, vI dk_, vI ie_, .unset, .unset] [])) t := by
          intro t kt
          refine pre16 t ?_
          show SA T6 m 570 #[vJ q1, .second, vJ q2, .second, vI p3, vI p4, vR cc, vI fr, vI ln, vI ng_, vI he_, vI ec_, vI sg_, vI hd_, vI ep_, vI dp_, vI sv_, vI sl_, vI xo_, vI en_, vI dk_, vI ie_, .unset, .unset] [iI 2, iI sg_]
          refine XS.icmpNo X6.here hx rfl (hb hby at_570) rfl (teq hc15).2 ?_
          show SA T6 m 573 #[vJ q1, .second, vJ q2, .second, vI p3, vI p4, vR cc, vI fr, vI ln, vI ng_, vI he_, vI ec_, vI sg_, vI hd_, vI ep_, vI dp_, vI sv_, vI sl_, vI xo_, vI en_, vI dk_, vI ie_, .unset, .unset] []
          refine XS.aload X6.here hx rfl (hb hby at_573) rfl rfl ?_
          show SA T6 m 575 #[vJ q1, .second, vJ q2, .second, vI p3, vI p4, vR cc, vI fr, vI ln, vI ng_, vI he_, vI ec_, vI sg_, vI hd_, vI ep_, vI dp_, vI sv_, vI sl_, vI xo_, vI en_, vI dk_, vI ie_, .unset, .unset] [iR cc]
          refine XS.iload X6.here hx rfl (hb hby at_575) rfl ?_
          show SA T6 m 577 #[vJ q1, .second, vJ q2, .second, vI p3, vI p4, vR cc, vI fr, vI ln, vI ng_, vI he_, vI ec_, vI sg_, vI hd_, vI ep_, vI dp_, vI sv_, vI sl_, vI xo_, vI en_, vI dk_, vI ie_, .unset, .unset] [iI fr, iR cc]
          refine XS.iload X6.here hx rfl (hb hby at_577) rfl ?_
          show SA T6 m 579 #[vJ q1, .second, vJ q2, .second, vI p3, vI p4, vR cc, vI fr, vI ln, vI ng_, vI he_, vI ec_, vI sg_, vI hd_, vI ep_, vI dp_, vI sv_, vI sl_, vI xo_, vI en_, vI dk_, vI ie_, .unset, .unset] [iI ep_, iI fr, iR cc]
          refine XS.iadd X6.here hx rfl (hb hby at_579) rfl ?_
          show SA T6 m 580 #[vJ q1, .second, vJ q2, .second, vI p3, vI p4, vR cc, vI fr, vI ln, vI ng_, vI he_, vI ec_, vI sg_, vI hd_, vI ep_, vI dp_, vI sv_, vI sl_, vI xo_, vI en_, vI dk_, vI ie_, .unset, .unset] [iI (fr + ep_), iR cc]
          refine XS.iconst X6.here hx rfl (hb hby at_580) ?_
          show SA T6 m 581 #[vJ q1, .second, vJ q2, .second, vI p3, vI p4, vR cc, vI fr, vI ln, vI ng_, vI he_, vI ec_, vI sg_, vI hd_, vI ep_, vI dp_, vI sv_, vI sl_, vI xo_, vI en_, vI dk_, vI ie_, .unset, .unset] [iI 1, iI (fr + ep_), iR cc]
          refine XS.iadd X6.here hx rfl (hb hby at_581) rfl ?_
          show SA T6 m 582 #[vJ q1, .second, vJ q2, .second, vI p3, vI p4, vR cc, vI fr, vI ln, vI ng_, vI he_, vI ec_, vI sg_, vI hd_, vI ep_, vI dp_, vI sv_, vI sl_, vI xo_, vI en_, vI dk_, vI ie_, .unset, .unset] [iI ((fr + ep_) + (1 : Int32)), iR cc]
          refine XS.bipush X6.here hx rfl (hb hby at_582) ?_
          show SA T6 m 584 #[vJ q1, .second, vJ q2, .second, vI p3, vI p4, vR cc, vI fr, vI ln, vI ng_, vI he_, vI ec_, vI sg_, vI hd_, vI ep_, vI dp_, vI sv_, vI sl_, vI xo_, vI en_, vI dk_, vI ie_, .unset, .unset] [iI 45, iI ((fr + ep_) + (1 : Int32)), iR cc]
          refine st19 _ ?_
          exact kt
        obtain ⟨s₂, o₂, hs₂, hr₂⟩ := (Classical.em ((16 : Int32) < ln)).elim (fun h16 => own_t585b (cc := cc) (fr := fr) (ln := ln) (ng_ := ng_) (he_ := he_) (ec_ := ec_) (sg_ := sg_) (hd_ := hd_) (ep_ := ep_) (dp_ := dp_) (sv_ := sv_) (sl_ := sl_) (xo_ := xo_) (en_ := en_) (dk_ := dk_) (ie_ := ie_) (kc := kc) (CL := ((CL.set (fr + ep_).toNatClampNeg (nar .char ec_)).set ((fr + ep_) + (1 : Int32)).toNatClampNeg (45 : Int32))) (s := s) (vmT := vmT) X19 hx hZ hw hby hml hown hret (by first | assumption | exact BodyLoose.notSynchronized (by assumption) | exact Body.notSynchronized (by assumption)) e19 K19 N19 Z0 O0 hS0 (Nat.le_trans (Nat.le_trans hk0 (Nat.le_of_eq W6.size.symm)) (Nat.le_of_eq W19.size.symm)) R21 hh V19 g_cc sz_cc S21_cc (by rw [List.length_set, List.length_set]; exact hCL) (own_okset (own_okset hok _ rc') _ (by decide)) rf rl rs re rd rx rc h16 S_T TB hTt S_CS h_cs S_F h_fm) (fun h16 => own_t585a (cc := cc) (fr := fr) (ln := ln) (ng_ := ng_) (he_ := he_) (ec_ := ec_) (sg_ := sg_) (hd_ := hd_) (ep_ := ep_) (dp_ := dp_) (sv_ := sv_) (sl_ := sl_) (xo_ := xo_) (en_ := en_) (dk_ := dk_) (ie_ := ie_) (kc := kc) (CL := ((CL.set (fr + ep_).toNatClampNeg (nar .char ec_)).set ((fr + ep_) + (1 : Int32)).toNatClampNeg (45 : Int32))) (s := s) (vmT := vmT) X19 hx hZ hw hby hml hown hret (by first | assumption | exact BodyLoose.notSynchronized (by assumption) | exact Body.notSynchronized (by assumption)) e19 K19 N19 Z0 O0 hS0 (Nat.le_trans (Nat.le_trans hk0 (Nat.le_of_eq W6.size.symm)) (Nat.le_of_eq W19.size.symm)) R21 hh V19 g_cc sz_cc S21_cc (by rw [List.length_set, List.length_set]; exact hCL) (own_okset (own_okset hok _ rc') _ (by decide)) rf rl rs re rd rx rc h16 S_T TB hTt S_CS h_cs S_F h_fm)
        exact ⟨s₂, o₂, pre22 _ hs₂, hr₂⟩
      · have S23_cc := Safe.wr W6 S_cc RT.1 S_cc
        have R23 := RT.trans (CHr.wr W6 S_cc RT.1)
        have pre24 : ∀ t, Steps p.tables e below (T6.setTop (mkF m 585 #[vJ q1, .second, vJ q2, .second, vI p3, vI p4, vR cc, vI fr, vI ln, vI ng_, vI he_, vI ec_, vI sg_, vI hd_, vI ep_, vI dp_, vI sv_, vI sl_, vI xo_, vI en_, vI dk_, vI ie_, .unset, .unset] [])) t → Steps p.tables e below (T0.setTop (mkF m 531 #[vJ q1, .second, vJ q2, .second, vI p3, vI p4, vR cc, vI fr, vI ln, vI ng_, vI he_, vI ec_, vI sg_, vI hd_, vI ep_, vI dp_, vI sv_, vI sl_, vI xo_, vI en_, vI dk_, vI ie_, .unset, .unset] [])) t := by
          intro t kt
          refine pre16 t ?_
          show SA T6 m 570 #[vJ q1, .second, vJ q2, .second, vI p3, vI p4, vR cc, vI fr, vI ln, vI ng_, vI he_, vI ec_, vI sg_, vI hd_, vI ep_, vI dp_, vI sv_, vI sl_, vI xo_, vI en_, vI dk_, vI ie_, .unset, .unset] [iI 2, iI sg_]
          refine XS.icmpYes X6.here hx rfl (pc0 := 570) (pc' := 585) rfl (hb hby at_570) rfl (feq hc15).2 (by decide) (by decide) ?_
          exact kt
        obtain ⟨s₂, o₂, hs₂, hr₂⟩ := (Classical.em ((16 : Int32) < ln)).elim (fun h16 => own_t585b (cc := cc) (fr := fr) (ln := ln) (ng_ := ng_) (he_ := he_) (ec_ := ec_) (sg_ := sg_) (hd_ := hd_) (ep_ := ep_) (dp_ := dp_) (sv_ := sv_) (sl_ := sl_) (xo_ := xo_) (en_ := en_) (dk_ := dk_) (ie_ := ie_) (kc := kc) (CL := (CL.set (fr + ep_).toNatClampNeg (nar .char ec_))) (s := s) (vmT := vmT) X6 hx hZ hw hby hml hown hret (by first | assumption | exact BodyLoose.notSynchronized (by assumption) | exact Body.notSynchronized (by assumption)) e6 K6 N6 Z0 O0 hS0 (Nat.le_trans hk0 (Nat.le_of_eq W6.size.symm)) R23 hh V6 g_cc sz_cc S23_cc (by rw [List.length_set]; exact hCL) (own_okset hok _ rc') rf rl rs re rd rx rc h16 S_T TB hTt S_CS h_cs S_F h_fm) (fun h16 => own_t585a (cc := cc) (fr := fr) (ln := ln) (ng_ := ng_) (he_ := he_) (ec_ := ec_) (sg_ := sg_) (hd_ := hd_) (ep_ := ep_) (dp_ := dp_) (sv_ := sv_) (sl_ := sl_) (xo_ := xo_) (en_ := en_) (dk_ := dk_) (ie_ := ie_) (kc := kc) (CL := (CL.set (fr + ep_).toNatClampNeg (nar .char ec_))) (s := s) (vmT := vmT) X6 hx hZ hw hby hml hown hret (by first | assumption | exact BodyLoose.notSynchronized (by assumption) | exact Body.notSynchronized (by assumption)) e6 K6 N6 Z0 O0 hS0 (Nat.le_trans hk0 (Nat.le_of_eq W6.size.symm)) R23 hh V6 g_cc sz_cc S23_cc (by rw [List.length_set]; exact hCL) (own_okset hok _ rc') rf rl rs re rd rx rc h16 S_T TB hTt S_CS h_cs S_F h_fm)
        exact ⟨s₂, o₂, pre24 _ hs₂, hr₂⟩
theorem own_t516 {p : Program} {l : Launch} {e : Env} {s : State} {m : MethodId} {below : List Frame} {meth : Method} {c : Code} {T0 : State} {locs : List Loc} {Z : State} {a0 : Array Value} {h0 hT : Heap} {n0 : Nat} {vmT : Vm} {kT : Nat} {q1 : Int64} {q2 : Int64} {p3 : Int32} {p4 : Int32} {s_T : Addr} {cl : Cell} {cs : Int32} {fm : Value} {cc : Addr} {fr ln ng_ he_ ec_ sg_ hd_ ep_ dp_ sv_ sl_ xo_ en_ dk_ ie_ : Int32} {kc : ClassId} {CL : List Int32}
    (X0 : Stand p l e room_1 (s.setVm vmT) m #[(.long q1), (.long q2), (.int p3), (.int p4)] below meth c T0 locs 1 20) (hx : p.tables.exec = Jvm.exec) (hZ : Z.Warmed39 (s.setVm vmT).vm) (hw : ∀ d ∈ tables_1, d.before a0 Z = true) (hby : c.code = code) (hml : c.maxLocals = 24) (hown : (s.setVm vmT).vm.findClass "com/example/plainjson/plainjson/JsonNumberParsedPinLaw" = some m.cls) (hret : meth.sig.returnType = some .boolean) (hlocks : meth.locks = false) (e0 : T0.heap = hT) (Kt0 : Keep h0 hT []) (N0 : Fr n0 locs) (Z0 : n0 ≤ h0.size) (O0 : Old Z n0 h0) (hS0 : s.Since vmT kT) (hk0 : kT ≤ hT.size) (RT : CHr Z consts_1 s.vm h0 vmT hT) (hh : s.heap = h0) (V_c : Arv Z hT cc kc .char (20 : Int32) (own_bs CL) (.int (0 : Int32))) (g_cc : n0 ≤ cc) (sz_cc : h0.size ≤ cc) (S_cc : Safe Z consts_1 vmT hT cc) (hCL : CL.length = 20) (hok : ∀ x ∈ CL, x ∈ own_chars) (rf : 0 ≤ fr.toInt ∧ fr.toInt ≤ 2) (rl : 1 ≤ ln.toInt ∧ ln.toInt ≤ 18) (rs : 0 ≤ sv_.toInt ∧ sv_.toInt ≤ 17) (re : 0 ≤ ep_.toInt ∧ ep_.toInt ≤ 17) (rd : 0 ≤ dp_.toInt ∧ dp_.toInt ≤ 17) (rx : ¬ xo_ = (0 : Int32) → ep_.toInt + 2 ≤ ln.toInt) (rc : ec_ ∈ own_chars) (S_T : Sta Z Z.heap "com/example/plainjson/plainjson/JsonNumber" "PACK_CODES" "[B" (.ref s_T)) (TB : Tab Z Z.heap s_T cl .byte (59 : Int32)) (hTt : ∀ x ∈ own_chars, atv cl (x - (43 : Int32)) = own_cd x) (S_CS : Sta Z Z.heap "java/lang/String" "COMPACT_STRINGS" "Z" (.int cs)) (h_cs : ¬ cs = (0 : Int32)) (S_F : Sta Z Z.heap "jdk/internal/util/Preconditions" "SIOOBE_FORMATTER" "Ljava/util/function/BiFunction;" fm) (h_fm : fm.isRef = true) :
    ∃ s₂ o, Steps p.tables e below (T0.setTop (mkF m 516 #[vJ q1, .second, vJ q2, .second, vI p3, vI p4, vR cc, vI fr, vI ln, vI ng_, vI he_, vI ec_, vI sg_, vI hd_, vI ep_, vI dp_, vI sv_, vI sl_, vI xo_, vI en_, vI dk_, vI ie_, .unset, .unset] [])) s₂ ∧ s₂.status = .running ∧ Ended s₂ below o ∧ ∃ v L, o = .returned v ∧ own_Q0 n0 v s₂.heap L ∧ ReturnedEndW s o s₂ L room_1.cells room_1.slots := by
  have pre2 : ∀ t, Steps p.tables e below (T0.setTop (mkF m 518 #[vJ q1, .second, vJ q2, .second, vI p3, vI p4, vR cc, vI fr, vI ln, vI ng_, vI he_, vI ec_, vI sg_, vI hd_, vI ep_, vI dp_, vI sv_, vI sl_, vI xo_, vI en_, vI dk_, vI ie_, .unset, .unset] [iI dk_])) t → Steps p.tables e below (T0.setTop (mkF m 516 #[vJ q1, .second, vJ q2, .second, vI p3, vI p4, vR cc, vI fr, vI ln, vI ng_, vI he_, vI ec_, vI sg_, vI hd_, vI ep_, vI dp_, vI sv_, vI sl_, vI xo_, vI en_, vI dk_, vI ie_, .unset, .unset] [])) t := by
    intro t kt
    show SA T0 m 516 #[vJ q1, .second, vJ q2, .second, vI p3, vI p4, vR cc, vI fr, vI ln, vI ng_, vI he_, vI ec_, vI sg_, vI hd_, vI ep_, vI dp_, vI sv_, vI sl_, vI xo_, vI en_, vI dk_, vI ie_, .unset, .unset] []
    refine XS.iload X0.here hx rfl (hb hby at_516) rfl ?_
    exact kt
  by_cases hc1 : dk_ = (0 : Int32)
  · have pre3 : ∀ t, Steps p.tables e below (T0.setTop (mkF m 531 #[vJ q1, .second, vJ q2, .second, vI p3, vI p4, vR cc, vI fr, vI ln, vI ng_, vI he_, vI ec_, vI sg_, vI hd_, vI ep_, vI dp_, vI sv_, vI sl_, vI xo_, vI en_, vI dk_, vI ie_, .unset, .unset] [])) t → Steps p.tables e below (T0.setTop (mkF m 516 #[vJ q1, .second, vJ q2, .second, vI p3, vI p4, vR cc, vI fr, vI ln, vI ng_, vI he_, vI ec_, vI sg_, vI hd_, vI ep_, vI dp_, vI sv_, vI sl_, vI xo_, vI en_, vI dk_, vI ie_, .unset, .unset] [])) t := by
      intro t kt
      refine pre2 t ?_
      show SA T0 m 518 #[vJ q1, .second, vJ q2, .second, vI p3, vI p4, vR cc, vI fr, vI ln, vI ng_, vI he_, vI ec_, vI sg_, vI hd_, vI ep_, vI dp_, vI sv_, vI sl_, vI xo_, vI en_, vI dk_, vI ie_, .unset, .unset] [iI dk_]
      refine XS.ifYes X0.here hx rfl (pc0 := 518) (pc' := 531) rfl (hb hby at_518) rfl ((if0 _ _).trans (teq hc1).1) (by decide) (by decide) ?_
      exact kt
    obtain ⟨s₂, o₂, hs₂, hr₂⟩ := own_t531 (cc := cc) (fr := fr) (ln := ln) (ng_ := ng_) (he_ := he_) (ec_ := ec_) (sg_ := sg_) (hd_ := hd_) (ep_ := ep_) (dp_ := dp_) (sv_ := sv_) (sl_ := sl_) (xo_ := xo_) (en_ := en_) (dk_ := dk_) (ie_ := ie_) (kc := kc) (CL := CL) (s := s) (vmT := vmT) X0 hx hZ hw hby hml hown hret (by first | assumption | exact BodyLoose.notSynchronized (by assumption) | exact Body.notSynchronized (by assumption)) e0 Kt0 N0 Z0 O0 hS0 hk0 RT hh V_c g_cc sz_cc S_cc hCL hok rf rl rs re rd rx rc S_T TB hTt S_CS h_cs S_F h_fm
    exact ⟨s₂, o₂, pre3 _ hs₂, hr₂⟩
  · obtain ⟨cl4, Ar4, q4, S4, M4, H4, G4⟩ := id V_c
    have hin5 : ¬ ((fr + dp_) < 0 ∨ cl4.slots.size ≤ ((fr + dp_)).toNatClampNeg) := inb_of S4 (own_in1 rf rd)
    obtain ⟨T6, h6, X6, e6, W6, st6⟩ := stC X0 hx hZ e0 Ar4 (j := (fr + dp_)) hin5 (g := (mkF m 530 #[vJ q1, .second, vJ q2, .second, vI p3, vI p4, vR cc, vI fr, vI ln, vI ng_, vI he_, vI ec_, vI sg_, vI hd_, vI ep_, vI dp_, vI sv_, vI sl_, vI xo_, vI en_, vI dk_, vI ie_, .unset, .unset] [iI 46, iI (fr + dp_), iR cc])) rfl rfl (hb hby at_530)
    have V6r := Arv.set Ar4 q4 S4 M4 H4 G4 (by decide) W6 _ rfl (by rw [List.length_map, hCL]; exact own_in20 (own_in1 rf rd))
    have V6 : Arv Z h6 cc kc .char (20 : Int32) (own_bs (CL.set (fr + dp_).toNatClampNeg (46 : Int32))) (.int (0 : Int32)) := by rw [← own_bsSet]; exact V6r
    have K6 : Keep h0 h6 [] := Kt0.wr W6 (Or.inr sz_cc)
    have N6 := Fr.snoc X6 N0 g_cc
    have S7_cc := Safe.wr W6 S_cc RT.1 S_cc
    have R7 := RT.trans (CHr.wr W6 S_cc RT.1)
    have pre8 : ∀ t, Steps p.tables e below (T6.setTop (mkF m 531 #[vJ q1, .second, vJ q2, .second, vI p3, vI p4, vR cc, vI fr, vI ln, vI ng_, vI he_, vI ec_, vI sg_, vI hd_, vI ep_, vI dp_, vI sv_, vI sl_, vI xo_, vI en_, vI dk_, vI ie_, .unset, .unset] [])) t → Steps p.tables e below (T0.setTop (mkF m 516 #[vJ q1, .second, vJ q2, .second, vI p3, vI p4, vR cc, vI fr, vI ln, vI ng_, vI he_, vI ec_, vI sg_, vI hd_, vI ep_, vI dp_, vI sv_, vI sl_, vI xo_, vI en_, vI dk_, vI ie_, .unset, .unset] [])) t := by
      intro t kt
      refine pre2 t ?_
      show SA T0 m 518 #[vJ q1, .second, vJ q2, .second, vI p3, vI p4, vR cc, vI fr, vI ln, vI ng_, vI he_, vI ec_, vI sg_, vI hd_, vI ep_, vI dp_, vI sv_, vI sl_, vI xo_, vI en_, vI dk_, vI ie_, .unset, .unset] [iI dk_]
      refine XS.ifNo X0.here hx rfl (hb hby at_518) rfl ((if0 _ _).trans (feq hc1).1) ?_
      show SA T0 m 521 #[vJ q1, .second, vJ q2, .second, vI p3, vI p4, vR cc, vI fr, vI ln, vI ng_, vI he_, vI ec_, vI sg_, vI hd_, vI ep_, vI dp_, vI sv_, vI sl_, vI xo_, vI en_, vI dk_, vI ie_, .unset, .unset] []
      refine XS.aload X0.here hx rfl (hb hby at_521) rfl rfl ?_
      show SA T0 m 523 #[vJ q1, .second, vJ q2, .second, vI p3, vI p4, vR cc, vI fr, vI ln, vI ng_, vI he_, vI ec_, vI sg_, vI hd_, vI ep_, vI dp_, vI sv_, vI sl_, vI xo_, vI en_, vI dk_, vI ie_, .unset, .unset] [iR cc]
      refine XS.iload X0.here hx rfl (hb hby at_523) rfl ?_
      show SA T0 m 525 #[vJ q1, .second, vJ q2, .second, vI p3, vI p4, vR cc, vI fr, vI ln, vI ng_, vI he_, vI ec_, vI sg_, vI hd_, vI ep_, vI dp_, vI sv_, vI sl_, vI xo_, vI en_, vI dk_, vI ie_, .unset, .unset] [iI fr, iR cc]
      refine XS.iload X0.here hx rfl (hb hby at_525) rfl ?_
      show SA T0 m 527 #[vJ q1, .second, vJ q2, .second, vI p3, vI p4, vR cc, vI fr, vI ln, vI ng_, vI he_, vI ec_, vI sg_, vI hd_, vI ep_, vI dp_, vI sv_, vI sl_, vI xo_, vI en_, vI dk_, vI ie_, .unset, .unset] [iI dp_, iI fr, iR cc]
      refine XS.iadd X0.here hx rfl (hb hby at_527) rfl ?_
      show SA T0 m 528 #[vJ q1, .second, vJ q2, .second, vI p3, vI p4, vR cc, vI fr, vI ln, vI ng_, vI he_, vI ec_, vI sg_, vI hd_, vI ep_, vI dp_, vI sv_, vI sl_, vI xo_, vI en_, vI dk_, vI ie_, .unset, .unset] [iI (fr + dp_), iR cc]
      refine XS.bipush X0.here hx rfl (hb hby at_528) ?_
      show SA T0 m 530 #[vJ q1, .second, vJ q2, .second, vI p3, vI p4, vR cc, vI fr, vI ln, vI ng_, vI he_, vI ec_, vI sg_, vI hd_, vI ep_, vI dp_, vI sv_, vI sl_, vI xo_, vI en_, vI dk_, vI ie_, .unset, .unset] [iI 46, iI (fr + dp_), iR cc]
      refine st6 _ ?_
      exact kt
    obtain ⟨s₂, o₂, hs₂, hr₂⟩ := own_t531 (cc := cc) (fr := fr) (ln := ln) (ng_ := ng_) (he_ := he_) (ec_ := ec_) (sg_ := sg_) (hd_ := hd_) (ep_ := ep_) (dp_ := dp_) (sv_ := sv_) (sl_ := sl_) (xo_ := xo_) (en_ := en_) (dk_ := dk_) (ie_ := ie_) (kc := kc) (CL := (CL.set (fr + dp_).toNatClampNeg (46 : Int32))) (s := s) (vmT := vmT) X6 hx hZ hw hby hml hown hret (by first | assumption | exact BodyLoose.notSynchronized (by assumption) | exact Body.notSynchronized (by assumption)) e6 K6 N6 Z0 O0 hS0 (Nat.le_trans hk0 (Nat.le_of_eq W6.size.symm)) R7 hh V6 g_cc sz_cc S7_cc (by rw [List.length_set]; exact hCL) (own_okset hok _ (by decide)) rf rl rs re rd rx rc S_T TB hTt S_CS h_cs S_F h_fm
    exact ⟨s₂, o₂, pre8 _ hs₂, hr₂⟩
theorem own_t504 {p : Program} {l : Launch} {e : Env} {s : State} {m : MethodId} {below : List Frame} {meth : Method} {c : Code} {T0 : State} {locs : List Loc} {Z : State} {a0 : Array Value} {h0 hT : Heap} {n0 : Nat} {vmT : Vm} {kT : Nat} {q1 : Int64} {q2 : Int64} {p3 : Int32} {p4 : Int32} {s_T : Addr} {cl : Cell} {cs : Int32} {fm : Value} {cc : Addr} {fr ln ng_ he_ ec_ sg_ hd_ ep_ dp_ sv_ sl_ xo_ en_ dk_ ie_ : Int32} {kc : ClassId} {CL : List Int32}
    (X0 : Stand p l e room_1 (s.setVm vmT) m #[(.long q1), (.long q2), (.int p3), (.int p4)] below meth c T0 locs 1 20) (hx : p.tables.exec = Jvm.exec) (hZ : Z.Warmed39 (s.setVm vmT).vm) (hw : ∀ d ∈ tables_1, d.before a0 Z = true) (hby : c.code = code) (hml : c.maxLocals = 24) (hown : (s.setVm vmT).vm.findClass "com/example/plainjson/plainjson/JsonNumberParsedPinLaw" = some m.cls) (hret : meth.sig.returnType = some .boolean) (hlocks : meth.locks = false) (e0 : T0.heap = hT) (Kt0 : Keep h0 hT []) (N0 : Fr n0 locs) (Z0 : n0 ≤ h0.size) (O0 : Old Z n0 h0) (hS0 : s.Since vmT kT) (hk0 : kT ≤ hT.size) (RT : CHr Z consts_1 s.vm h0 vmT hT) (hh : s.heap = h0) (V_c : Arv Z hT cc kc .char (20 : Int32) (own_bs CL) (.int (0 : Int32))) (g_cc : n0 ≤ cc) (sz_cc : h0.size ≤ cc) (S_cc : Safe Z consts_1 vmT hT cc) (hCL : CL.length = 20) (hok : ∀ x ∈ CL, x ∈ own_chars) (rf : 0 ≤ fr.toInt ∧ fr.toInt ≤ 2) (rl : 1 ≤ ln.toInt ∧ ln.toInt ≤ 18) (rs : 0 ≤ sv_.toInt ∧ sv_.toInt ≤ 17) (re : 0 ≤ ep_.toInt ∧ ep_.toInt ≤ 17) (rd : 0 ≤ dp_.toInt ∧ dp_.toInt ≤ 17) (rx : ¬ xo_ = (0 : Int32) → ep_.toInt + 2 ≤ ln.toInt) (rc : ec_ ∈ own_chars) (S_T : Sta Z Z.heap "com/example/plainjson/plainjson/JsonNumber" "PACK_CODES" "[B" (.ref s_T)) (TB : Tab Z Z.heap s_T cl .byte (59 : Int32)) (hTt : ∀ x ∈ own_chars, atv cl (x - (43 : Int32)) = own_cd x) (S_CS : Sta Z Z.heap "java/lang/String" "COMPACT_STRINGS" "Z" (.int cs)) (h_cs : ¬ cs = (0 : Int32)) (S_F : Sta Z Z.heap "jdk/internal/util/Preconditions" "SIOOBE_FORMATTER" "Ljava/util/function/BiFunction;" fm) (h_fm : fm.isRef = true) :
    ∃ s₂ o, Steps p.tables e below (T0.setTop (mkF m 504 #[vJ q1, .second, vJ q2, .second, vI p3, vI p4, vR cc, vI fr, vI ln, vI ng_, vI he_, vI ec_, vI sg_, vI hd_, vI ep_, vI dp_, vI sv_, vI sl_, vI xo_, vI en_, vI dk_, vI ie_, .unset, .unset] [])) s₂ ∧ s₂.status = .running ∧ Ended s₂ below o ∧ ∃ v L, o = .returned v ∧ own_Q0 n0 v s₂.heap L ∧ ReturnedEndW s o s₂ L room_1.cells room_1.slots := by
  have pre2 : ∀ t, Steps p.tables e below (T0.setTop (mkF m 506 #[vJ q1, .second, vJ q2, .second, vI p3, vI p4, vR cc, vI fr, vI ln, vI ng_, vI he_, vI ec_, vI sg_, vI hd_, vI ep_, vI dp_, vI sv_, vI sl_, vI xo_, vI en_, vI dk_, vI ie_, .unset, .unset] [iI ng_])) t → Steps p.tables e below (T0.setTop (mkF m 504 #[vJ q1, .second, vJ q2, .second, vI p3, vI p4, vR cc, vI fr, vI ln, vI ng_, vI he_, vI ec_, vI sg_, vI hd_, vI ep_, vI dp_, vI sv_, vI sl_, vI xo_, vI en_, vI dk_, vI ie_, .unset, .unset] [])) t := by
    intro t kt
    show SA T0 m 504 #[vJ q1, .second, vJ q2, .second, vI p3, vI p4, vR cc, vI fr, vI ln, vI ng_, vI he_, vI ec_, vI sg_, vI hd_, vI ep_, vI dp_, vI sv_, vI sl_, vI xo_, vI en_, vI dk_, vI ie_, .unset, .unset] []
    refine XS.iload X0.here hx rfl (hb hby at_504) rfl ?_
    exact kt
  by_cases hc1 : ng_ = (0 : Int32)
  · have pre3 : ∀ t, Steps p.tables e below (T0.setTop (mkF m 516 #[vJ q1, .second, vJ q2, .second, vI p3, vI p4, vR cc, vI fr, vI ln, vI ng_, vI he_, vI ec_, vI sg_, vI hd_, vI ep_, vI dp_, vI sv_, vI sl_, vI xo_, vI en_, vI dk_, vI ie_, .unset, .unset] [])) t → Steps p.tables e below (T0.setTop (mkF m 504 #[vJ q1, .second, vJ q2, .second, vI p3, vI p4, vR cc, vI fr, vI ln, vI ng_, vI he_, vI ec_, vI sg_, vI hd_, vI ep_, vI dp_, vI sv_, vI sl_, vI xo_, vI en_, vI dk_, vI ie_, .unset, .unset] [])) t := by
      intro t kt
      refine pre2 t ?_
      show SA T0 m 506 #[vJ q1, .second, vJ q2, .second, vI p3, vI p4, vR cc, vI fr, vI ln, vI ng_, vI he_, vI ec_, vI sg_, vI hd_, vI ep_, vI dp_, vI sv_, vI sl_, vI xo_, vI en_, vI dk_, vI ie_, .unset, .unset] [iI ng_]
      refine XS.ifYes X0.here hx rfl (pc0 := 506) (pc' := 516) rfl (hb hby at_506) rfl ((if0 _ _).trans (teq hc1).1) (by decide) (by decide) ?_
      exact kt
    obtain ⟨s₂, o₂, hs₂, hr₂⟩ := own_t516 (cc := cc) (fr := fr) (ln := ln) (ng_ := ng_) (he_ := he_) (ec_ := ec_) (sg_ := sg_) (hd_ := hd_) (ep_ := ep_) (dp_ := dp_) (sv_ := sv_) (sl_ := sl_) (xo_ := xo_) (en_ := en_) (dk_ := dk_) (ie_ := ie_) (kc := kc) (CL := CL) (s := s) (vmT := vmT) X0 hx hZ hw hby hml hown hret (by first | assumption | exact BodyLoose.notSynchronized (by assumption) | exact Body.notSynchronized (by assumption)) e0 Kt0 N0 Z0 O0 hS0 hk0 RT hh V_c g_cc sz_cc S_cc hCL hok rf rl rs re rd rx rc S_T TB hTt S_CS h_cs S_F h_fm
    exact ⟨s₂, o₂, pre3 _ hs₂, hr₂⟩
  · obtain ⟨cl4, Ar4, q4, S4, M4, H4, G4⟩ := id V_c
    have hin5 : ¬ (fr < 0 ∨ cl4.slots.size ≤ (fr).toNatClampNeg) := inb_of S4 (own_in0 rf)
    obtain ⟨T6, h6, X6, e6, W6, st6⟩ := stC X0 hx hZ e0 Ar4 (j := fr) hin5 (g := (mkF m 515 #[vJ q1, .second, vJ q2, .second, vI p3, vI p4, vR cc, vI fr, vI ln, vI ng_, vI he_, vI ec_, vI sg_, vI hd_, vI ep_, vI dp_, vI sv_, vI sl_, vI xo_, vI en_, vI dk_, vI ie_, .unset, .unset] [iI 45, iI fr, iR cc])) rfl rfl (hb hby at_515)
    have V6r := Arv.set Ar4 q4 S4 M4 H4 G4 (by decide) W6 _ rfl (by rw [List.length_map, hCL]; exact own_in20 (own_in0 rf))
    have V6 : Arv Z h6 cc kc .char (20 : Int32) (own_bs (CL.set fr.toNatClampNeg (45 : Int32))) (.int (0 : Int32)) := by rw [← own_bsSet]; exact V6r
    have K6 : Keep h0 h6 [] := Kt0.wr W6 (Or.inr sz_cc)
    have N6 := Fr.snoc X6 N0 g_cc
    have S7_cc := Safe.wr W6 S_cc RT.1 S_cc
    have R7 := RT.trans (CHr.wr W6 S_cc RT.1)
    have pre8 : ∀ t, Steps p.tables e below (T6.setTop (mkF m 516 #[vJ q1, .second, vJ q2, .second, vI p3, vI p4, vR cc, vI fr, vI ln, vI ng_, vI he_, vI ec_, vI sg_, vI hd_, vI ep_, vI dp_, vI sv_, vI sl_, vI xo_, vI en_, vI dk_, vI ie_, .unset, .unset] [])) t → Steps p.tables e below (T0.setTop (mkF m 504 #[vJ q1, .second, vJ q2, .second, vI p3, vI p4, vR cc, vI fr, vI ln, vI ng_, vI he_, vI ec_, vI sg_, vI hd_, vI ep_, vI dp_, vI sv_, vI sl_, vI xo_, vI en_, vI dk_, vI ie_, .unset, .unset] [])) t := by
      intro t kt
      refine pre2 t ?_
      show SA T0 m 506 #[vJ q1, .second, vJ q2, .second, vI p3, vI p4, vR cc, vI fr, vI ln, vI ng_, vI he_, vI ec_, vI sg_, vI hd_, vI ep_, vI dp_, vI sv_, vI sl_, vI xo_, vI en_, vI dk_, vI ie_, .unset, .unset] [iI ng_]
      refine XS.ifNo X0.here hx rfl (hb hby at_506) rfl ((if0 _ _).trans (feq hc1).1) ?_
      show SA T0 m 509 #[vJ q1, .second, vJ q2, .second, vI p3, vI p4, vR cc, vI fr, vI ln, vI ng_, vI he_, vI ec_, vI sg_, vI hd_, vI ep_, vI dp_, vI sv_, vI sl_, vI xo_, vI en_, vI dk_, vI ie_, .unset, .unset] []
      refine XS.aload X0.here hx rfl (hb hby at_509) rfl rfl ?_
      show SA T0 m 511 #[vJ q1, .second, vJ q2, .second, vI p3, vI p4, vR cc, vI fr, vI ln, vI ng_, vI he_, vI ec_, vI sg_, vI hd_, vI ep_, vI dp_, vI sv_, vI sl_, vI xo_, vI en_, vI dk_, vI ie_, .unset, .unset] [iR cc]
      refine XS.iload X0.here hx rfl (hb hby at_511) rfl ?_
      show SA T0 m 513 #[vJ q1, .second, vJ q2, .second, vI p3, vI p4, vR cc, vI fr, vI ln, vI ng_, vI he_, vI ec_, vI sg_, vI hd_, vI ep_, vI dp_, vI sv_, vI sl_, vI xo_, vI en_, vI dk_, vI ie_, .unset, .unset] [iI fr, iR cc]
      refine XS.bipush X0.here hx rfl (hb hby at_513) ?_
      show SA T0 m 515 #[vJ q1, .second, vJ q2, .second, vI p3, vI p4, vR cc, vI fr, vI ln, vI ng_, vI he_, vI ec_, vI sg_, vI hd_, vI ep_, vI dp_, vI sv_, vI sl_, vI xo_, vI en_, vI dk_, vI ie_, .unset, .unset] [iI 45, iI fr, iR cc]
      refine st6 _ ?_
      exact kt
    obtain ⟨s₂, o₂, hs₂, hr₂⟩ := own_t516 (cc := cc) (fr := fr) (ln := ln) (ng_ := ng_) (he_ := he_) (ec_ := ec_) (sg_ := sg_) (hd_ := hd_) (ep_ := ep_) (dp_ := dp_) (sv_ := sv_) (sl_ := sl_) (xo_ := xo_) (en_ := en_) (dk_ := dk_) (ie_ := ie_) (kc := kc) (CL := (CL.set fr.toNatClampNeg (45 : Int32))) (s := s) (vmT := vmT) X6 hx hZ hw hby hml hown hret (by first | assumption | exact BodyLoose.notSynchronized (by assumption) | exact Body.notSynchronized (by assumption)) e6 K6 N6 Z0 O0 hS0 (Nat.le_trans hk0 (Nat.le_of_eq W6.size.symm)) R7 hh V6 g_cc sz_cc S7_cc (by rw [List.length_set]; exact hCL) (own_okset hok _ (by decide)) rf rl rs re rd rx rc S_T TB hTt S_CS h_cs S_F h_fm
    exact ⟨s₂, o₂, pre8 _ hs₂, hr₂⟩
theorem own_t461 {p : Program} {l : Launch} {e : Env} {s : State} {m : MethodId} {below : List Frame} {meth : Method} {c : Code} {T0 : State} {locs : List Loc} {Z : State} {a0 : Array Value} {h0 hT : Heap} {n0 : Nat} {vmT : Vm} {kT : Nat} {q1 : Int64} {q2 : Int64} {p3 : Int32} {p4 : Int32} {s_T : Addr} {cl : Cell} {cs : Int32} {fm : Value} {cc : Addr} {fr ln ng_ he_ ec_ sg_ hd_ ep_ dp_ sv_ sl_ xo_ en_ dk_ ie_ : Int32} {kc : ClassId} {CL : List Int32}
    (X0 : Stand p l e room_1 (s.setVm vmT) m #[(.long q1), (.long q2), (.int p3), (.int p4)] below meth c T0 locs 1 20) (hx : p.tables.exec = Jvm.exec) (hZ : Z.Warmed39 (s.setVm vmT).vm) (hw : ∀ d ∈ tables_1, d.before a0 Z = true) (hby : c.code = code) (hml : c.maxLocals = 24) (hown : (s.setVm vmT).vm.findClass "com/example/plainjson/plainjson/JsonNumberParsedPinLaw" = some m.cls) (hret : meth.sig.returnType = some .boolean) (hlocks : meth.locks = false) (e0 : T0.heap = hT) (Kt0 : Keep h0 hT []) (N0 : Fr n0 locs) (Z0 : n0 ≤ h0.size) (O0 : Old Z n0 h0) (hS0 : s.Since vmT kT) (hk0 : kT ≤ hT.size) (RT : CHr Z consts_1 s.vm h0 vmT hT) (hh : s.heap = h0) (V_c : Arv Z hT cc kc .char (20 : Int32) (own_bs CL) (.int (0 : Int32))) (g_cc : n0 ≤ cc) (sz_cc : h0.size ≤ cc) (S_cc : Safe Z consts_1 vmT hT cc) (hCL : CL.length = 20) (hok : ∀ x ∈ CL, x ∈ own_chars) (rf : 0 ≤ fr.toInt ∧ fr.toInt ≤ 2) (rl : 1 ≤ ln.toInt ∧ ln.toInt ≤ 18) (rs : 0 ≤ sv_.toInt ∧ sv_.toInt ≤ 17) (re : 0 ≤ ep_.toInt ∧ ep_.toInt ≤ 17) (rd : 0 ≤ dp_.toInt ∧ dp_.toInt ≤ 17) (rx : ¬ xo_ = (0 : Int32) → ep_.toInt + 2 ≤ ln.toInt) (rc : ec_ ∈ own_chars) (S_T : Sta Z Z.heap "com/example/plainjson/plainjson/JsonNumber" "PACK_CODES" "[B" (.ref s_T)) (TB : Tab Z Z.heap s_T cl .byte (59 : Int32)) (hTt : ∀ x ∈ own_chars, atv cl (x - (43 : Int32)) = own_cd x) (S_CS : Sta Z Z.heap "java/lang/String" "COMPACT_STRINGS" "Z" (.int cs)) (h_cs : ¬ cs = (0 : Int32)) (S_F : Sta Z Z.heap "jdk/internal/util/Preconditions" "SIOOBE_FORMATTER" "Ljava/util/function/BiFunction;" fm) (h_fm : fm.isRef = true) :
    ∃ s₂ o, Steps p.tables e below (T0.setTop (mkF m 461 #[vJ q1, .second, vJ q2, .second, vI p3, vI p4, vR cc, vI fr, vI ln, vI ng_, vI he_, vI ec_, vI sg_, vI hd_, vI ep_, vI dp_, vI sv_, vI sl_, vI xo_, vI en_, vI dk_, vI ie_, .unset, .unset] [])) s₂ ∧ s₂.status = .running ∧ Ended s₂ below o ∧ ∃ v L, o = .returned v ∧ own_Q0 n0 v s₂.heap L ∧ ReturnedEndW s o s₂ L room_1.cells room_1.slots := by
  have pre2 : ∀ t, Steps p.tables e below (T0.setTop (mkF m 467 #[vJ q1, .second, vJ q2, .second, vI p3, vI p4, vR cc, vI fr, vI ln, vI ng_, vI he_, vI ec_, vI sg_, vI hd_, vI ep_, vI dp_, vI sv_, vI sl_, vI xo_, vI en_, vI dk_, vI ie_, .unset, .unset] [iI 1, iI (ie_ - sv_)])) t → Steps p.tables e below (T0.setTop (mkF m 461 #[vJ q1, .second, vJ q2, .second, vI p3, vI p4, vR cc, vI fr, vI ln, vI ng_, vI he_, vI ec_, vI sg_, vI hd_, vI ep_, vI dp_, vI sv_, vI sl_, vI xo_, vI en_, vI dk_, vI ie_, .unset, .unset] [])) t := by
    intro t kt
    show SA T0 m 461 #[vJ q1, .second, vJ q2, .second, vI p3, vI p4, vR cc, vI fr, vI ln, vI ng_, vI he_, vI ec_, vI sg_, vI hd_, vI ep_, vI dp_, vI sv_, vI sl_, vI xo_, vI en_, vI dk_, vI ie_, .unset, .unset] []
    refine XS.iload X0.here hx rfl (hb hby at_461) rfl ?_
    show SA T0 m 463 #[vJ q1, .second, vJ q2, .second, vI p3, vI p4, vR cc, vI fr, vI ln, vI ng_, vI he_, vI ec_, vI sg_, vI hd_, vI ep_, vI dp_, vI sv_, vI sl_, vI xo_, vI en_, vI dk_, vI ie_, .unset, .unset] [iI ie_]
    refine XS.iload X0.here hx rfl (hb hby at_463) rfl ?_
    show SA T0 m 465 #[vJ q1, .second, vJ q2, .second, vI p3, vI p4, vR cc, vI fr, vI ln, vI ng_, vI he_, vI ec_, vI sg_, vI hd_, vI ep_, vI dp_, vI sv_, vI sl_, vI xo_, vI en_, vI dk_, vI ie_, .unset, .unset] [iI sv_, iI ie_]
    refine XS.isub X0.here hx rfl (hb hby at_465) rfl ?_
    show SA T0 m 466 #[vJ q1, .second, vJ q2, .second, vI p3, vI p4, vR cc, vI fr, vI ln, vI ng_, vI he_, vI ec_, vI sg_, vI hd_, vI ep_, vI dp_, vI sv_, vI sl_, vI xo_, vI en_, vI dk_, vI ie_, .unset, .unset] [iI (ie_ - sv_)]
    refine XS.iconst X0.here hx rfl (hb hby at_466) ?_
    exact kt
  by_cases hc1 : (1 : Int32) < (ie_ - sv_)
  · obtain ⟨cl3, Ar3, q3, S3, M3, H3, G3⟩ := id V_c
    have hin4 : ¬ ((fr + sv_) < 0 ∨ cl3.slots.size ≤ ((fr + sv_)).toNatClampNeg) := inb_of S3 (own_in1 rf rs)
    have hat5 : cl3.slots[((fr + sv_)).toNatClampNeg]? = some (.int (CL.getD (fr + sv_).toNatClampNeg 0)) := Has.at H3 hin4 (own_bsget CL _)
    have pre7 : ∀ t, Steps p.tables e below (T0.setTop (mkF m 480 #[vJ q1, .second, vJ q2, .second, vI p3, vI p4, vR cc, vI fr, vI ln, vI ng_, vI he_, vI ec_, vI sg_, vI hd_, vI ep_, vI dp_, vI sv_, vI sl_, vI xo_, vI en_, vI dk_, vI ie_, .unset, .unset] [iI 48, iI (CL.getD (fr + sv_).toNatClampNeg 0)])) t → Steps p.tables e below (T0.setTop (mkF m 461 #[vJ q1, .second, vJ q2, .second, vI p3, vI p4, vR cc, vI fr, vI ln, vI ng_, vI he_, vI ec_, vI sg_, vI hd_, vI ep_, vI dp_, vI sv_, vI sl_, vI xo_, vI en_, vI dk_, vI ie_, .unset, .unset] [])) t := by
      intro t kt
      refine pre2 t ?_
      show SA T0 m 467 #[vJ q1, .second, vJ q2, .second, vI p3, vI p4, vR cc, vI fr, vI ln, vI ng_, vI he_, vI ec_, vI sg_, vI hd_, vI ep_, vI dp_, vI sv_, vI sl_, vI xo_, vI en_, vI dk_, vI ie_, .unset, .unset] [iI 1, iI (ie_ - sv_)]
      refine XS.icmpNo X0.here hx rfl (hb hby at_467) rfl (tlt hc1).2.2.2 ?_
      show SA T0 m 470 #[vJ q1, .second, vJ q2, .second, vI p3, vI p4, vR cc, vI fr, vI ln, vI ng_, vI he_, vI ec_, vI sg_, vI hd_, vI ep_, vI dp_, vI sv_, vI sl_, vI xo_, vI en_, vI dk_, vI ie_, .unset, .unset] []
      refine XS.aload X0.here hx rfl (hb hby at_470) rfl rfl ?_
      show SA T0 m 472 #[vJ q1, .second, vJ q2, .second, vI p3, vI p4, vR cc, vI fr, vI ln, vI ng_, vI he_, vI ec_, vI sg_, vI hd_, vI ep_, vI dp_, vI sv_, vI sl_, vI xo_, vI en_, vI dk_, vI ie_, .unset, .unset] [iR cc]
      refine XS.iload X0.here hx rfl (hb hby at_472) rfl ?_
      show SA T0 m 474 #[vJ q1, .second, vJ q2, .second, vI p3, vI p4, vR cc, vI fr, vI ln, vI ng_, vI he_, vI ec_, vI sg_, vI hd_, vI ep_, vI dp_, vI sv_, vI sl_, vI xo_, vI en_, vI dk_, vI ie_, .unset, .unset] [iI fr, iR cc]
      refine XS.iload X0.here hx rfl (hb hby at_474) rfl ?_
      show SA T0 m 476 #[vJ q1, .second, vJ q2, .second, vI p3, vI p4, vR cc, vI fr, vI ln, vI ng_, vI he_, vI ec_, vI sg_, vI hd_, vI ep_, vI dp_, vI sv_, vI sl_, vI xo_, vI en_, vI dk_, vI ie_, .unset, .unset] [iI sv_, iI fr, iR cc]
      refine XS.iadd X0.here hx rfl (hb hby at_476) rfl ?_
      show SA T0 m 477 #[vJ q1, .second, vJ q2, .second, vI p3, vI p4, vR cc, vI fr, vI ln, vI ng_, vI he_, vI ec_, vI sg_, vI hd_, vI ep_, vI dp_, vI sv_, vI sl_, vI xo_, vI en_, vI dk_, vI ie_, .unset, .unset] [iI (fr + sv_), iR cc]
      refine X0.caload hx (j := (fr + sv_)) (v := (.int (CL.getD (fr + sv_).toNatClampNeg 0))) (by rw [e0]; exact Ar3.1) (State.isArrayOf_alike hZ.alike Ar3.2.1) Ar3.2.2 hin4 hat5 (g := (mkF m 477 #[vJ q1, .second, vJ q2, .second, vI p3, vI p4, vR cc, vI fr, vI ln, vI ng_, vI he_, vI ec_, vI sg_, vI hd_, vI ep_, vI dp_, vI sv_, vI sl_, vI xo_, vI en_, vI dk_, vI ie_, .unset, .unset] [iI (fr + sv_), iR cc])) rfl rfl (hb hby at_477) _ ?_
      show SA T0 m 478 #[vJ q1, .second, vJ q2, .second, vI p3, vI p4, vR cc, vI fr, vI ln, vI ng_, vI he_, vI ec_, vI sg_, vI hd_, vI ep_, vI dp_, vI sv_, vI sl_, vI xo_, vI en_, vI dk_, vI ie_, .unset, .unset] [iI (CL.getD (fr + sv_).toNatClampNeg 0)]
      refine XS.bipush X0.here hx rfl (hb hby at_478) ?_
      exact kt
    by_cases hc6 : (CL.getD (fr + sv_).toNatClampNeg 0) = (48 : Int32)
    · have hin8 : ¬ ((fr + sv_) < 0 ∨ cl3.slots.size ≤ ((fr + sv_)).toNatClampNeg) := inb_of S3 (own_in1 rf rs)
      obtain ⟨T9, h9, X9, e9, W9, st9⟩ := stC X0 hx hZ e0 Ar3 (j := (fr + sv_)) hin8 (g := (mkF m 503 #[vJ q1, .second, vJ q2, .second, vI p3, vI p4, vR cc, vI fr, vI ln, vI ng_, vI he_, vI ec_, vI sg_, vI hd_, vI ep_, vI dp_, vI sv_, vI sl_, vI xo_, vI en_, vI dk_, vI ie_, .unset, .unset] [iI ((49 : Int32) + (((q2.toUInt64 >>> ((16 : Int32) &&& 0x3f).toInt64.toUInt64).toInt64) &&& (7 : Int64)).toInt32).toUInt32.toUInt16.toUInt32.toInt32, iI (fr + sv_), iR cc])) rfl rfl (hb hby at_503)
      have V9r := Arv.set Ar3 q3 S3 M3 H3 G3 (fits_nar_char _) W9 _ rfl (by rw [List.length_map, hCL]; exact own_in20 (own_in1 rf rs))
      have V9 : Arv Z h9 cc kc .char (20 : Int32) (own_bs (CL.set (fr + sv_).toNatClampNeg (nar .char ((49 : Int32) + (((q2.toUInt64 >>> ((16 : Int32) &&& 0x3f).toInt64.toUInt64).toInt64) &&& (7 : Int64)).toInt32).toUInt32.toUInt16.toUInt32.toInt32))) (.int (0 : Int32)) := by rw [← own_bsSet]; exact V9r
      have K9 : Keep h0 h9 [] := Kt0.wr W9 (Or.inr sz_cc)
      have N9 := Fr.snoc X9 N0 g_cc
      have S10_cc := Safe.wr W9 S_cc RT.1 S_cc
      have R10 := RT.trans (CHr.wr W9 S_cc RT.1)
      have pre11 : ∀ t, Steps p.tables e below (T9.setTop (mkF m 504 #[vJ q1, .second, vJ q2, .second, vI p3, vI p4, vR cc, vI fr, vI ln, vI ng_, vI he_, vI ec_, vI sg_, vI hd_, vI ep_, vI dp_, vI sv_, vI sl_, vI xo_, vI en_, vI dk_, vI ie_, .unset, .unset] [])) t → Steps p.tables e below (T0.setTop (mkF m 461 #[vJ q1, .second, vJ q2, .second, vI p3, vI p4, vR cc, vI fr, vI ln, vI ng_, vI he_, vI ec_, vI sg_, vI hd_, vI ep_, vI dp_, vI sv_, vI sl_, vI xo_, vI en_, vI dk_, vI ie_, .unset, .unset] [])) t := by
        intro t kt
        refine pre7 t ?_
        show SA T0 m 480 #[vJ q1, .second, vJ q2, .second, vI p3, vI p4, vR cc, vI fr, vI ln, vI ng_, vI he_, vI ec_, vI sg_, vI hd_, vI ep_, vI dp_, vI sv_, vI sl_, vI xo_, vI en_, vI dk_, vI ie_, .unset, .unset] [iI 48, iI (CL.getD (fr + sv_).toNatClampNeg 0)]
        refine XS.icmpNo X0.here hx rfl (hb hby at_480) rfl (teq hc6).2 ?_
        show SA T0 m 483 #[vJ q1, .second, vJ q2, .second, vI p3, vI p4, vR cc, vI fr, vI ln, vI ng_, vI he_, vI ec_, vI sg_, vI hd_, vI ep_, vI dp_, vI sv_, vI sl_, vI xo_, vI en_, vI dk_, vI ie_, .unset, .unset] []
        refine XS.aload X0.here hx rfl (hb hby at_483) rfl rfl ?_
        show SA T0 m 485 #[vJ q1, .second, vJ q2, .second, vI p3, vI p4, vR cc, vI fr, vI ln, vI ng_, vI he_, vI ec_, vI sg_, vI hd_, vI ep_, vI dp_, vI sv_, vI sl_, vI xo_, vI en_, vI dk_, vI ie_, .unset, .unset] [iR cc]
        refine XS.iload X0.here hx rfl (hb hby at_485) rfl ?_
        show SA T0 m 487 #[vJ q1, .second, vJ q2, .second, vI p3, vI p4, vR cc, vI fr, vI ln, vI ng_, vI he_, vI ec_, vI sg_, vI hd_, vI ep_, vI dp_, vI sv_, vI sl_, vI xo_, vI en_, vI dk_, vI ie_, .unset, .unset] [iI fr, iR cc]
        refine XS.iload X0.here hx rfl (hb hby at_487) rfl ?_
        show SA T0 m 489 #[vJ q1, .second, vJ q2, .second, vI p3, vI p4, vR cc, vI fr, vI ln, vI ng_, vI he_, vI ec_, vI sg_, vI hd_, vI ep_, vI dp_, vI sv_, vI sl_, vI xo_, vI en_, vI dk_, vI ie_, .unset, .unset] [iI sv_, iI fr, iR cc]
        refine XS.iadd X0.here hx rfl (hb hby at_489) rfl ?_
        show SA T0 m 490 #[vJ q1, .second, vJ q2, .second, vI p3, vI p4, vR cc, vI fr, vI ln, vI ng_, vI he_, vI ec_, vI sg_, vI hd_, vI ep_, vI dp_, vI sv_, vI sl_, vI xo_, vI en_, vI dk_, vI ie_, .unset, .unset] [iI (fr + sv_), iR cc]
        refine XS.bipush X0.here hx rfl (hb hby at_490) ?_
        show SA T0 m 492 #[vJ q1, .second, vJ q2, .second, vI p3, vI p4, vR cc, vI fr, vI ln, vI ng_, vI he_, vI ec_, vI sg_, vI hd_, vI ep_, vI dp_, vI sv_, vI sl_, vI xo_, vI en_, vI dk_, vI ie_, .unset, .unset] [iI 49, iI (fr + sv_), iR cc]
        refine XS.lloadN X0.here hx rfl (hb hby at_492) rfl ?_
        show SA T0 m 493 #[vJ q1, .second, vJ q2, .second, vI p3, vI p4, vR cc, vI fr, vI ln, vI ng_, vI he_, vI ec_, vI sg_, vI hd_, vI ep_, vI dp_, vI sv_, vI sl_, vI xo_, vI en_, vI dk_, vI ie_, .unset, .unset] [iJ q2, iI 49, iI (fr + sv_), iR cc]
        refine XS.bipush X0.here hx rfl (hb hby at_493) ?_
        show SA T0 m 495 #[vJ q1, .second, vJ q2, .second, vI p3, vI p4, vR cc, vI fr, vI ln, vI ng_, vI he_, vI ec_, vI sg_, vI hd_, vI ep_, vI dp_, vI sv_, vI sl_, vI xo_, vI en_, vI dk_, vI ie_, .unset, .unset] [iI 16, iJ q2, iI 49, iI (fr + sv_), iR cc]
        refine XS.lushr X0.here hx rfl (hb hby at_495) rfl ?_
        show SA T0 m 496 #[vJ q1, .second, vJ q2, .second, vI p3, vI p4, vR cc, vI fr, vI ln, vI ng_, vI he_, vI ec_, vI sg_, vI hd_, vI ep_, vI dp_, vI sv_, vI sl_, vI xo_, vI en_, vI dk_, vI ie_, .unset, .unset] [iJ ((q2.toUInt64 >>> ((16 : Int32) &&& 0x3f).toInt64.toUInt64).toInt64), iI 49, iI (fr + sv_), iR cc]
        refine X0.ldc2Long hx hown (mvT hZ (ww hw 179 rfl)) (g := (mkF m 496 #[vJ q1, .second, vJ q2, .second, vI p3, vI p4, vR cc, vI fr, vI ln, vI ng_, vI he_, vI ec_, vI sg_, vI hd_, vI ep_, vI dp_, vI sv_, vI sl_, vI xo_, vI en_, vI dk_, vI ie_, .unset, .unset] [iJ ((q2.toUInt64 >>> ((16 : Int32) &&& 0x3f).toInt64.toUInt64).toInt64), iI 49, iI (fr + sv_), iR cc])) rfl (hb hby at_496) _ ?_
        show SA T0 m 499 #[vJ q1, .second, vJ q2, .second, vI p3, vI p4, vR cc, vI fr, vI ln, vI ng_, vI he_, vI ec_, vI sg_, vI hd_, vI ep_, vI dp_, vI sv_, vI sl_, vI xo_, vI en_, vI dk_, vI ie_, .unset, .unset] [iJ 7, iJ ((q2.toUInt64 >>> ((16 : Int32) &&& 0x3f).toInt64.toUInt64).toInt64), iI 49, iI (fr + sv_), iR cc]
        refine XS.land X0.here hx rfl (hb hby at_499) rfl ?_
        show SA T0 m 500 #[vJ q1, .second, vJ q2, .second, vI p3, vI p4, vR cc, vI fr, vI ln, vI ng_, vI he_, vI ec_, vI sg_, vI hd_, vI ep_, vI dp_, vI sv_, vI sl_, vI xo_, vI en_, vI dk_, vI ie_, .unset, .unset] [iJ (((q2.toUInt64 >>> ((16 : Int32) &&& 0x3f).toInt64.toUInt64).toInt64) &&& (7 : Int64)), iI 49, iI (fr + sv_), iR cc]
        refine XS.l2i X0.here hx rfl (hb hby at_500) rfl ?_
        show SA T0 m 501 #[vJ q1, .second, vJ q2, .second, vI p3, vI p4, vR cc, vI fr, vI ln, vI ng_, vI he_, vI ec_, vI sg_, vI hd_, vI ep_, vI dp_, vI sv_, vI sl_, vI xo_, vI en_, vI dk_, vI ie_, .unset, .unset] [iI (((q2.toUInt64 >>> ((16 : Int32) &&& 0x3f).toInt64.toUInt64).toInt64) &&& (7 : Int64)).toInt32, iI 49, iI (fr + sv_), iR cc]
        refine XS.iadd X0.here hx rfl (hb hby at_501) rfl ?_
        show SA T0 m 502 #[vJ q1, .second, vJ q2, .second, vI p3, vI p4, vR cc, vI fr, vI ln, vI ng_, vI he_, vI ec_, vI sg_, vI hd_, vI ep_, vI dp_, vI sv_, vI sl_, vI xo_, vI en_, vI dk_, vI ie_, .unset, .unset] [iI ((49 : Int32) + (((q2.toUInt64 >>> ((16 : Int32) &&& 0x3f).toInt64.toUInt64).toInt64) &&& (7 : Int64)).toInt32), iI (fr + sv_), iR cc]
        refine XS.i2c X0.here hx rfl (hb hby at_502) rfl ?_
        show SA T0 m 503 #[vJ q1, .second, vJ q2, .second, vI p3, vI p4, vR cc, vI fr, vI ln, vI ng_, vI he_, vI ec_, vI sg_, vI hd_, vI ep_, vI dp_, vI sv_, vI sl_, vI xo_, vI en_, vI dk_, vI ie_, .unset, .unset] [iI ((49 : Int32) + (((q2.toUInt64 >>> ((16 : Int32) &&& 0x3f).toInt64.toUInt64).toInt64) &&& (7 : Int64)).toInt32).toUInt32.toUInt16.toUInt32.toInt32, iI (fr + sv_), iR cc]
        refine st9 _ ?_
        exact kt
      obtain ⟨s₂, o₂, hs₂, hr₂⟩ := own_t504 (cc := cc) (fr := fr) (ln := ln) (ng_ := ng_) (he_ := he_) (ec_ := ec_) (sg_ := sg_) (hd_ := hd_) (ep_ := ep_) (dp_ := dp_) (sv_ := sv_) (sl_ := sl_) (xo_ := xo_) (en_ := en_) (dk_ := dk_) (ie_ := ie_) (kc := kc) (CL := (CL.set (fr + sv_).toNatClampNeg (nar .char ((49 : Int32) + (((q2.toUInt64 >>> ((16 : Int32) &&& 0x3f).toInt64.toUInt64).toInt64) &&& (7 : Int64)).toInt32).toUInt32.toUInt16.toUInt32.toInt32))) (s := s) (vmT := vmT) X9 hx hZ hw hby hml hown hret (by first | assumption | exact BodyLoose.notSynchronized (by assumption) | exact Body.notSynchronized (by assumption)) e9 K9 N9 Z0 O0 hS0 (Nat.le_trans hk0 (Nat.le_of_eq W9.size.symm)) R10 hh V9 g_cc sz_cc S10_cc (by rw [List.length_set]; exact hCL) (own_okset hok _ (own_ok1 _)) rf rl rs re rd rx rc S_T TB hTt S_CS h_cs S_F h_fm
      exact ⟨s₂, o₂, pre11 _ hs₂, hr₂⟩
    · have pre12 : ∀ t, Steps p.tables e below (T0.setTop (mkF m 504 #[vJ q1, .second, vJ q2, .second, vI p3, vI p4, vR cc, vI fr, vI ln, vI ng_, vI he_, vI ec_, vI sg_, vI hd_, vI ep_, vI dp_, vI sv_, vI sl_, vI xo_, vI en_, vI dk_, vI ie_, .unset, .unset] [])) t → Steps p.tables e below (T0.setTop (mkF m 461 #[vJ q1, .second, vJ q2, .second, vI p3, vI p4, vR cc, vI fr, vI ln, vI ng_, vI he_, vI ec_, vI sg_, vI hd_, vI ep_, vI dp_, vI sv_, vI sl_, vI xo_, vI en_, vI dk_, vI ie_, .unset, .unset] [])) t := by
        intro t kt
        refine pre7 t ?_
        show SA T0 m 480 #[vJ q1, .second, vJ q2, .second, vI p3, vI p4, vR cc, vI fr, vI ln, vI ng_, vI he_, vI ec_, vI sg_, vI hd_, vI ep_, vI dp_, vI sv_, vI sl_, vI xo_, vI en_, vI dk_, vI ie_, .unset, .unset] [iI 48, iI (CL.getD (fr + sv_).toNatClampNeg 0)]
        refine XS.icmpYes X0.here hx rfl (pc0 := 480) (pc' := 504) rfl (hb hby at_480) rfl (feq hc6).2 (by decide) (by decide) ?_
        exact kt
      obtain ⟨s₂, o₂, hs₂, hr₂⟩ := own_t504 (cc := cc) (fr := fr) (ln := ln) (ng_ := ng_) (he_ := he_) (ec_ := ec_) (sg_ := sg_) (hd_ := hd_) (ep_ := ep_) (dp_ := dp_) (sv_ := sv_) (sl_ := sl_) (xo_ := xo_) (en_ := en_) (dk_ := dk_) (ie_ := ie_) (kc := kc) (CL := CL) (s := s) (vmT := vmT) X0 hx hZ hw hby hml hown hret (by first | assumption | exact BodyLoose.notSynchronized (by assumption) | exact Body.notSynchronized (by assumption)) e0 Kt0 N0 Z0 O0 hS0 hk0 RT hh V_c g_cc sz_cc S_cc hCL hok rf rl rs re rd rx rc S_T TB hTt S_CS h_cs S_F h_fm
      exact ⟨s₂, o₂, pre12 _ hs₂, hr₂⟩
  · have pre13 : ∀ t, Steps p.tables e below (T0.setTop (mkF m 504 #[vJ q1, .second, vJ q2, .second, vI p3, vI p4, vR cc, vI fr, vI ln, vI ng_, vI he_, vI ec_, vI sg_, vI hd_, vI ep_, vI dp_, vI sv_, vI sl_, vI xo_, vI en_, vI dk_, vI ie_, .unset, .unset] [])) t → Steps p.tables e below (T0.setTop (mkF m 461 #[vJ q1, .second, vJ q2, .second, vI p3, vI p4, vR cc, vI fr, vI ln, vI ng_, vI he_, vI ec_, vI sg_, vI hd_, vI ep_, vI dp_, vI sv_, vI sl_, vI xo_, vI en_, vI dk_, vI ie_, .unset, .unset] [])) t := by
      intro t kt
      refine pre2 t ?_
      show SA T0 m 467 #[vJ q1, .second, vJ q2, .second, vI p3, vI p4, vR cc, vI fr, vI ln, vI ng_, vI he_, vI ec_, vI sg_, vI hd_, vI ep_, vI dp_, vI sv_, vI sl_, vI xo_, vI en_, vI dk_, vI ie_, .unset, .unset] [iI 1, iI (ie_ - sv_)]
      refine XS.icmpYes X0.here hx rfl (pc0 := 467) (pc' := 504) rfl (hb hby at_467) rfl (flt hc1).2.2.2 (by decide) (by decide) ?_
      exact kt
    obtain ⟨s₂, o₂, hs₂, hr₂⟩ := own_t504 (cc := cc) (fr := fr) (ln := ln) (ng_ := ng_) (he_ := he_) (ec_ := ec_) (sg_ := sg_) (hd_ := hd_) (ep_ := ep_) (dp_ := dp_) (sv_ := sv_) (sl_ := sl_) (xo_ := xo_) (en_ := en_) (dk_ := dk_) (ie_ := ie_) (kc := kc) (CL := CL) (s := s) (vmT := vmT) X0 hx hZ hw hby hml hown hret (by first | assumption | exact BodyLoose.notSynchronized (by assumption) | exact Body.notSynchronized (by assumption)) e0 Kt0 N0 Z0 O0 hS0 hk0 RT hh V_c g_cc sz_cc S_cc hCL hok rf rl rs re rd rx rc S_T TB hTt S_CS h_cs S_F h_fm
    exact ⟨s₂, o₂, pre13 _ hs₂, hr₂⟩
theorem ef_0 (m : MethodId) (x0 : Int64) (x1 : Int64) (x2 : Int32) (x3 : Int32) : entryFrame m #[(.long x0), (.long x1), (.int x2), (.int x3)] maxLocals = mkF m 0 #[.val (.long x0), .second, .val (.long x1), .second, .val (.int x2), .val (.int x3), .unset, .unset, .unset, .unset, .unset, .unset, .unset, .unset, .unset, .unset, .unset, .unset, .unset, .unset, .unset, .unset, .unset, .unset] [] := by first | (simp [entryFrame, mkF, argsToLocals, Value.category, maxLocals]; done) | rfl
def Q0 (Z : State) (q1 : Int64) (q2 : Int64) (p3 : Int32) (p4 : Int32) (s_T : Addr) (cl : Cell) (cs : Int32) (fm : Value) (h0 : Heap) (n0 : Nat) (v : Option Value) (h : Heap) (L : List Loc) : Prop := v = some (.int (1 : Int32)) ∧ Fr n0 L
theorem rm0 (l : Launch) (Z : State) (a0 : Array Value) (hw : ∀ d ∈ tables_1, d.before a0 Z = true) (ws : List Jvm.Cond) (q1 : Int64) (q2 : Int64) (p3 : Int32) (p4 : Int32) (s_T : Addr) (cl : Cell) (cs : Int32) (fm : Value) (h0 : Heap) (n0 : Nat) (Z0 : n0 ≤ h0.size) (O0 : Old Z n0 h0) (S_T : Sta Z Z.heap "com/example/plainjson/plainjson/JsonNumber" "PACK_CODES" "[B" (.ref s_T)) (TB : Tab Z Z.heap s_T cl .byte (59 : Int32)) (hTt : ∀ x ∈ own_chars, atv cl (x - (43 : Int32)) = own_cd x) (S_CS : Sta Z Z.heap "java/lang/String" "COMPACT_STRINGS" "Z" (.int cs)) (h_cs : ¬ cs = (0 : Int32)) (S_F : Sta Z Z.heap "jdk/internal/util/Preconditions" "SIOOBE_FORMATTER" "Ljava/util/function/BiFunction;" fm) (h_fm : fm.isRef = true) :
    MetFree l x (head1 (Jvm.Cond.code x code maxLocals ret :: ws) room_1) (fun a U => a = #[(.long q1), (.long q2), (.int p3), (.int p4)] ∧ Z.Warmed39 U.vm ∧ U.heap = h0 ∧ CHv Z consts_1 U.vm h0) (fun _ _ _ _ _ => True) (fun _ U o U' => ∃ v L, o = .returned v ∧ Q0 Z q1 q2 p3 p4 s_T cl cs fm h0 n0 v U'.heap L ∧ ReturnedEndW U o U' L room_1.cells room_1.slots) := by
  refine MetFree.of_bodySF (plainFor_of_name pn_9) hisR ?_
  intro p e s m args below meth c s₁ Bd hml0 hP hK
  obtain ⟨rfl, hZ, hh, hC0⟩ := hP
  have hx := Bd.exec
  have hby := Bd.bytes
  have hml : c.maxLocals = 24 := hml0
  have hown : s.vm.findClass "com/example/plainjson/plainjson/JsonNumberParsedPinLaw" = some m.cls := findClass_of_methodNamed Bd.named
  have hnm := (name_of_methodNamed Bd.named Bd.method).1
  have X0 : Stand p l e room_1 s m #[(.long q1), (.long q2), (.int p3), (.int p4)] below meth c s₁ [] 0 0 := Stand.of_body Bd
  have e0 : s₁.heap = h0 := by rw [← hh, Bd.state]; rfl
  have R0 := CHr.refl hC0
  have N0 := Fr.nil n0
  have K0 := Keep.refl h0 []
  have pre0 : ∀ t, Steps p.tables e below (s₁.setTop (mkF m 0 #[.val (.long q1), .second, .val (.long q2), .second, .val (.int p3), .val (.int p4), .unset, .unset, .unset, .unset, .unset, .unset, .unset, .unset, .unset, .unset, .unset, .unset, .unset, .unset, .unset, .unset, .unset, .unset] [])) t → Steps p.tables e below (s₁.setTop (entryFrame m #[(.long q1), (.long q2), (.int p3), (.int p4)] maxLocals)) t := fun t k => castTop (ef_0 m q1 q2 p3 p4) k
  obtain ⟨T1, h1, k1, X1, e1, E1, A1, st1⟩ := newP X0 hx hZ (ww hw 0 rfl) e0 (g := (mkF m 2 #[vJ q1, .second, vJ q2, .second, vI p3, vI p4, .unset, .unset, .unset, .unset, .unset, .unset, .unset, .unset, .unset, .unset, .unset, .unset, .unset, .unset, .unset, .unset, .unset, .unset] [iI 20])) rfl (hb hby at_2) rfl (by decide) (cap := 20) (by decide) (by decide) (by decide) (by decide)
  obtain ⟨b1, g1⟩ : ∃ z, z = h0.size := ⟨_, rfl⟩
  rw [← g1] at A1 st1
  have sz_b1 : h0.size ≤ b1 := Nat.le_trans K0.1 (Nat.le_of_eq g1.symm)
  have g_b1 : n0 ≤ b1 := Nat.le_trans Z0 sz_b1
  have K1 : Keep h0 h1 [] := K0.ext E1
  have V1 : Arv Z h1 b1 k1 .char (20 : Int32) [(.int (0 : Int32)), (.int (0 : Int32)), (.int (0 : Int32)), (.int (0 : Int32)), (.int (0 : Int32)), (.int (0 : Int32)), (.int (0 : Int32)), (.int (0 : Int32)), (.int (0 : Int32)), (.int (0 : Int32)), (.int (0 : Int32)), (.int (0 : Int32)), (.int (0 : Int32)), (.int (0 : Int32)), (.int (0 : Int32)), (.int (0 : Int32)), (.int (0 : Int32)), (.int (0 : Int32)), (.int (0 : Int32)), (.int (0 : Int32))] (.int (0 : Int32)) := (Arv.new A1 (by decide)).pad (pad_rep [] (.int (0 : Int32)) 20)
  obtain ⟨_, _, ⟨T2, L2, k2, n2⟩, -, X2, ⟨Lc2, hQ2, l2, y2, z2⟩, st2⟩ := Jvm.LawKit.callS X1 hx (y := mn_38) hown (mvT hZ (ww hw 1 rfl)) (mvT hZ (ww hw 2 rfl)) (mvT hZ (ww hw 3 rfl)) (mvT hZ (ww hw 4 rfl)) (by decide) (backOf (W := 2) (rm1 l Z a0 hw [] q1 (0 : Int32) h1 ) hZ (ww hw 4 rfl) (ww hw 3 rfl) (by decide) (by decide)) (g := (mkF m 11 #[vJ q1, .second, vJ q2, .second, vI p3, vI p4, vR b1, .unset, .unset, .unset, .unset, .unset, .unset, .unset, .unset, .unset, .unset, .unset, .unset, .unset, .unset, .unset, .unset, .unset] [iI 0, iJ q1, iI 0, iR b1])) rfl (by rw [hml]; rfl) (argsL := [(.long q1), (.int (0 : Int32))]) (rest := [(.int (0 : Int32)), (.ref b1)]) (lenOf pd_30 rfl) rfl (wz rfl) (hb hby at_11) (fun _ _ => ⟨rfl, e1, (by decide : 1 + 0 ≤ _), (by decide : 20 + 0 ≤ _)⟩)
  dsimp only [Pt.U, Pt.locs, Pt.cells, Pt.slots] at X2 l2 y2 z2 st2 hQ2
  subst l2 y2 z2
  obtain ⟨rfl, rfl, e2⟩ := hQ2
  try rw [List.append_nil] at X2
  obtain ⟨cl3, Ar3, q3, S3, M3, H3, G3⟩ := id V1
  have hin4 : ¬ ((0 : Int32) < 0 ∨ cl3.slots.size ≤ ((0 : Int32)).toNatClampNeg) := inb_of S3 ⟨by decide, by decide⟩
  obtain ⟨T5, h5, X5, e5, W5, st5⟩ := stC X2 hx hZ e2 Ar3 (j := (0 : Int32)) hin4 (g := (mkF m 14 #[vJ q1, .second, vJ q2, .second, vI p3, vI p4, vR b1, .unset, .unset, .unset, .unset, .unset, .unset, .unset, .unset, .unset, .unset, .unset, .unset, .unset, .unset, .unset, .unset, .unset] [iI (own_d q1 (0 : Int32)), iI 0, iR b1])) rfl rfl (hb hby at_14)
  have V5 : Arv Z h5 b1 k1 .char (20 : Int32) [(.int (nar .char (own_d q1 (0 : Int32)))), (.int (0 : Int32)), (.int (0 : Int32)), (.int (0 : Int32)), (.int (0 : Int32)), (.int (0 : Int32)), (.int (0 : Int32)), (.int (0 : Int32)), (.int (0 : Int32)), (.int (0 : Int32)), (.int (0 : Int32)), (.int (0 : Int32)), (.int (0 : Int32)), (.int (0 : Int32)), (.int (0 : Int32)), (.int (0 : Int32)), (.int (0 : Int32)), (.int (0 : Int32)), (.int (0 : Int32)), (.int (0 : Int32))] (.int (0 : Int32)) := Arv.set Ar3 q3 S3 M3 H3 G3 (fits_nar_char _) W5 0 rfl (Nat.le_of_ble_eq_true rfl)
  have K5 : Keep h0 h5 [] := K1.wr W5 (Or.inr sz_b1)
  have N5 := Fr.snoc X5 N0 g_b1
  obtain ⟨_, _, ⟨T6, L6, k6, n6⟩, -, X6, ⟨Lc6, hQ6, l6, y6, z6⟩, st6⟩ := Jvm.LawKit.callS X5 hx (y := mn_38) hown (mvT hZ (ww hw 1 rfl)) (mvT hZ (ww hw 2 rfl)) (mvT hZ (ww hw 3 rfl)) (mvT hZ (ww hw 4 rfl)) (by decide) (backOf (W := 2) (rm1 l Z a0 hw [] q1 (1 : Int32) h5 ) hZ (ww hw 4 rfl) (ww hw 3 rfl) (by decide) (by decide)) (g := (mkF m 20 #[vJ q1, .second, vJ q2, .second, vI p3, vI p4, vR b1, .unset, .unset, .unset, .unset, .unset, .unset, .unset, .unset, .unset, .unset, .unset, .unset, .unset, .unset, .unset, .unset, .unset] [iI 1, iJ q1, iI 1, iR b1])) rfl (by rw [hml]; rfl) (argsL := [(.long q1), (.int (1 : Int32))]) (rest := [(.int (1 : Int32)), (.ref b1)]) (lenOf pd_30 rfl) rfl (wz rfl) (hb hby at_20) (fun _ _ => ⟨rfl, e5, (by decide : 1 + 0 ≤ _), (by decide : 20 + 0 ≤ _)⟩)
  dsimp only [Pt.U, Pt.locs, Pt.cells, Pt.slots] at X6 l6 y6 z6 st6 hQ6
  subst l6 y6 z6
  obtain ⟨rfl, rfl, e6⟩ := hQ6
  try rw [List.append_nil] at X6
  obtain ⟨cl7, Ar7, q7, S7, M7, H7, G7⟩ := id V5
  have hin8 : ¬ ((1 : Int32) < 0 ∨ cl7.slots.size ≤ ((1 : Int32)).toNatClampNeg) := inb_of S7 ⟨by decide, by decide⟩
  obtain ⟨T9, h9, X9, e9, W9, st9⟩ := stC X6 hx hZ e6 Ar7 (j := (1 : Int32)) hin8 (g := (mkF m 23 #[vJ q1, .second, vJ q2, .second, vI p3, vI p4, vR b1, .unset, .unset, .unset, .unset, .unset, .unset, .unset, .unset, .unset, .unset, .unset, .unset, .unset, .unset, .unset, .unset, .unset] [iI (own_d q1 (1 : Int32)), iI 1, iR b1])) rfl rfl (hb hby at_23)
  have V9 : Arv Z h9 b1 k1 .char (20 : Int32) [(.int (nar .char (own_d q1 (0 : Int32)))), (.int (nar .char (own_d q1 (1 : Int32)))), (.int (0 : Int32)), (.int (0 : Int32)), (.int (0 : Int32)), (.int (0 : Int32)), (.int (0 : Int32)), (.int (0 : Int32)), (.int (0 : Int32)), (.int (0 : Int32)), (.int (0 : Int32)), (.int (0 : Int32)), (.int (0 : Int32)), (.int (0 : Int32)), (.int (0 : Int32)), (.int (0 : Int32)), (.int (0 : Int32)), (.int (0 : Int32)), (.int (0 : Int32)), (.int (0 : Int32))] (.int (0 : Int32)) := Arv.set Ar7 q7 S7 M7 H7 G7 (fits_nar_char _) W9 1 rfl (Nat.le_of_ble_eq_true rfl)
  have K9 : Keep h0 h9 [] := K5.wr W9 (Or.inr sz_b1)
  have N9 := Fr.snoc X9 N5 g_b1
  obtain ⟨_, _, ⟨T10, L10, k10, n10⟩, -, X10, ⟨Lc10, hQ10, l10, y10, z10⟩, st10⟩ := Jvm.LawKit.callS X9 hx (y := mn_38) hown (mvT hZ (ww hw 1 rfl)) (mvT hZ (ww hw 2 rfl)) (mvT hZ (ww hw 3 rfl)) (mvT hZ (ww hw 4 rfl)) (by decide) (backOf (W := 2) (rm1 l Z a0 hw [] q1 (2 : Int32) h9 ) hZ (ww hw 4 rfl) (ww hw 3 rfl) (by decide) (by decide)) (g := (mkF m 29 #[vJ q1, .second, vJ q2, .second, vI p3, vI p4, vR b1, .unset, .unset, .unset, .unset, .unset, .unset, .unset, .unset, .unset, .unset, .unset, .unset, .unset, .unset, .unset, .unset, .unset] [iI 2, iJ q1, iI 2, iR b1])) rfl (by rw [hml]; rfl) (argsL := [(.long q1), (.int (2 : Int32))]) (rest := [(.int (2 : Int32)), (.ref b1)]) (lenOf pd_30 rfl) rfl (wz rfl) (hb hby at_29) (fun _ _ => ⟨rfl, e9, (by decide : 1 + 0 ≤ _), (by decide : 20 + 0 ≤ _)⟩)
  dsimp only [Pt.U, Pt.locs, Pt.cells, Pt.slots] at X10 l10 y10 z10 st10 hQ10
  subst l10 y10 z10
  obtain ⟨rfl, rfl, e10⟩ := hQ10
  try rw [List.append_nil] at X10
  obtain ⟨cl11, Ar11, q11, S11, M11, H11, G11⟩ := id V9
  have hin12 : ¬ ((2 : Int32) < 0 ∨ cl11.slots.size ≤ ((2 : Int32)).toNatClampNeg) := inb_of S11 ⟨by decide, by decide⟩
  obtain ⟨T13, h13, X13, e13, W13, st13⟩ := stC X10 hx hZ e10 Ar11 (j := (2 : Int32)) hin12 (g := (mkF m 32 #[vJ q1, .second, vJ q2, .second, vI p3, vI p4, vR b1, .unset, .unset, .unset, .unset, .unset, .unset, .unset, .unset, .unset, .unset, .unset, .unset, .unset, .unset, .unset, .unset, .unset] [iI (own_d q1 (2 : Int32)), iI 2, iR b1])) rfl rfl (hb hby at_32)
  have V13 : Arv Z h13 b1 k1 .char (20 : Int32) [(.int (nar .char (own_d q1 (0 : Int32)))), (.int (nar .char (own_d q1 (1 : Int32)))), (.int (nar .char (own_d q1 (2 : Int32)))), (.int (0 : Int32)), (.int (0 : Int32)), (.int (0 : Int32)), (.int (0 : Int32)), (.int (0 : Int32)), (.int (0 : Int32)), (.int (0 : Int32)), (.int (0 : Int32)), (.int (0 : Int32)), (.int (0 : Int32)), (.int (0 : Int32)), (.int (0 : Int32)), (.int (0 : Int32)), (.int (0 : Int32)), (.int (0 : Int32)), (.int (0 : Int32)), (.int (0 : Int32))] (.int (0 : Int32)) := Arv.set Ar11 q11 S11 M11 H11 G11 (fits_nar_char _) W13 2 rfl (Nat.le_of_ble_eq_true rfl)
  have K13 : Keep h0 h13 [] := K9.wr W13 (Or.inr sz_b1)
  have N13 := Fr.snoc X13 N9 g_b1
  obtain ⟨_, _, ⟨T14, L14, k14, n14⟩, -, X14, ⟨Lc14, hQ14, l14, y14, z14⟩, st14⟩ := Jvm.LawKit.callS X13 hx (y := mn_38) hown (mvT hZ (ww hw 1 rfl)) (mvT hZ (ww hw 2 rfl)) (mvT hZ (ww hw 3 rfl)) (mvT hZ (ww hw 4 rfl)) (by decide) (backOf (W := 2) (rm1 l Z a0 hw [] q1 (3 : Int32) h13 ) hZ (ww hw 4 rfl) (ww hw 3 rfl) (by decide) (by decide)) (g := (mkF m 38 #[vJ q1, .second, vJ q2, .second, vI p3, vI p4, vR b1, .unset, .unset, .unset, .unset, .unset, .unset, .unset, .unset, .unset, .unset, .unset, .unset, .unset, .unset, .unset, .unset, .unset] [iI 3, iJ q1, iI 3, iR b1])) rfl (by rw [hml]; rfl) (argsL := [(.long q1), (.int (3 : Int32))]) (rest := [(.int (3 : Int32)), (.ref b1)]) (lenOf pd_30 rfl) rfl (wz rfl) (hb hby at_38) (fun _ _ => ⟨rfl, e13, (by decide : 1 + 0 ≤ _), (by decide : 20 + 0 ≤ _)⟩)
  dsimp only [Pt.U, Pt.locs, Pt.cells, Pt.slots] at X14 l14 y14 z14 st14 hQ14
  subst l14 y14 z14
  obtain ⟨rfl, rfl, e14⟩ := hQ14
  try rw [List.append_nil] at X14
  obtain ⟨cl15, Ar15, q15, S15, M15, H15, G15⟩ := id V13
  have hin16 : ¬ ((3 : Int32) < 0 ∨ cl15.slots.size ≤ ((3 : Int32)).toNatClampNeg) := inb_of S15 ⟨by decide, by decide⟩
  obtain ⟨T17, h17, X17, e17, W17, st17⟩ := stC X14 hx hZ e14 Ar15 (j := (3 : Int32)) hin16 (g := (mkF m 41 #[vJ q1, .second, vJ q2, .second, vI p3, vI p4, vR b1, .unset, .unset, .unset, .unset, .unset, .unset, .unset, .unset, .unset, .unset, .unset, .unset, .unset, .unset, .unset, .unset, .unset] [iI (own_d q1 (3 : Int32)), iI 3, iR b1])) rfl rfl (hb hby at_41)
  have V17 : Arv Z h17 b1 k1 .char (20 : Int32) [(.int (nar .char (own_d q1 (0 : Int32)))), (.int (nar .char (own_d q1 (1 : Int32)))), (.int (nar .char (own_d q1 (2 : Int32)))), (.int (nar .char (own_d q1 (3 : Int32)))), (.int (0 : Int32)), (.int (0 : Int32)), (.int (0 : Int32)), (.int (0 : Int32)), (.int (0 : Int32)), (.int (0 : Int32)), (.int (0 : Int32)), (.int (0 : Int32)), (.int (0 : Int32)), (.int (0 : Int32)), (.int (0 : Int32)), (.int (0 : Int32)), (.int (0 : Int32)), (.int (0 : Int32)), (.int (0 : Int32)), (.int (0 : Int32))] (.int (0 : Int32)) := Arv.set Ar15 q15 S15 M15 H15 G15 (fits_nar_char _) W17 3 rfl (Nat.le_of_ble_eq_true rfl)
  have K17 : Keep h0 h17 [] := K13.wr W17 (Or.inr sz_b1)
  have N17 := Fr.snoc X17 N13 g_b1
  obtain ⟨_, _, ⟨T18, L18, k18, n18⟩, -, X18, ⟨Lc18, hQ18, l18, y18, z18⟩, st18⟩ := Jvm.LawKit.callS X17 hx (y := mn_38) hown (mvT hZ (ww hw 1 rfl)) (mvT hZ (ww hw 2 rfl)) (mvT hZ (ww hw 3 rfl)) (mvT hZ (ww hw 4 rfl)) (by decide) (backOf (W := 2) (rm1 l Z a0 hw [] q1 (4 : Int32) h17 ) hZ (ww hw 4 rfl) (ww hw 3 rfl) (by decide) (by decide)) (g := (mkF m 47 #[vJ q1, .second, vJ q2, .second, vI p3, vI p4, vR b1, .unset, .unset, .unset, .unset, .unset, .unset, .unset, .unset, .unset, .unset, .unset, .unset, .unset, .unset, .unset, .unset, .unset] [iI 4, iJ q1, iI 4, iR b1])) rfl (by rw [hml]; rfl) (argsL := [(.long q1), (.int (4 : Int32))]) (rest := [(.int (4 : Int32)), (.ref b1)]) (lenOf pd_30 rfl) rfl (wz rfl) (hb hby at_47) (fun _ _ => ⟨rfl, e17, (by decide : 1 + 0 ≤ _), (by decide : 20 + 0 ≤ _)⟩)
  dsimp only [Pt.U, Pt.locs, Pt.cells, Pt.slots] at X18 l18 y18 z18 st18 hQ18
  subst l18 y18 z18
  obtain ⟨rfl, rfl, e18⟩ := hQ18
  try rw [List.append_nil] at X18
  obtain ⟨cl19, Ar19, q19, S19, M19, H19, G19⟩ := id V17
  have hin20 : ¬ ((4 : Int32) < 0 ∨ cl19.slots.size ≤ ((4 : Int32)).toNatClampNeg) := inb_of S19 ⟨by decide, by decide⟩
  obtain ⟨T21, h21, X21, e21, W21, st21⟩ := stC X18 hx hZ e18 Ar19 (j := (4 : Int32)) hin20 (g := (mkF m 50 #[vJ q1, .second, vJ q2, .second, vI p3, vI p4, vR b1, .unset, .unset, .unset, .unset, .unset, .unset, .unset, .unset, .unset, .unset, .unset, .unset, .unset, .unset, .unset, .unset, .unset] [iI (own_d q1 (4 : Int32)), iI 4, iR b1])) rfl rfl (hb hby at_50)
  have V21 : Arv Z h21 b1 k1 .char (20 : Int32) [(.int (nar .char (own_d q1 (0 : Int32)))), (.int (nar .char (own_d q1 (1 : Int32)))), (.int (nar .char (own_d q1 (2 : Int32)))), (.int (nar .char (own_d q1 (3 : Int32)))), (.int (nar .char (own_d q1 (4 : Int32)))), (.int (0 : Int32)), (.int (0 : Int32)), (.int (0 : Int32)), (.int (0 : Int32)), (.int (0 : Int32)), (.int (0 : Int32)), (.int (0 : Int32)), (.int (0 : Int32)), (.int (0 : Int32)), (.int (0 : Int32)), (.int (0 : Int32)), (.int (0 : Int32)), (.int (0 : Int32)), (.int (0 : Int32)), (.int (0 : Int32))] (.int (0 : Int32)) := Arv.set Ar19 q19 S19 M19 H19 G19 (fits_nar_char _) W21 4 rfl (Nat.le_of_ble_eq_true rfl)
  have K21 : Keep h0 h21 [] := K17.wr W21 (Or.inr sz_b1)
  have N21 := Fr.snoc X21 N17 g_b1
  obtain ⟨_, _, ⟨T22, L22, k22, n22⟩, -, X22, ⟨Lc22, hQ22, l22, y22, z22⟩, st22⟩ := Jvm.LawKit.callS X21 hx (y := mn_38) hown (mvT hZ (ww hw 1 rfl)) (mvT hZ (ww hw 2 rfl)) (mvT hZ (ww hw 3 rfl)) (mvT hZ (ww hw 4 rfl)) (by decide) (backOf (W := 2) (rm1 l Z a0 hw [] q1 (5 : Int32) h21 ) hZ (ww hw 4 rfl) (ww hw 3 rfl) (by decide) (by decide)) (g := (mkF m 56 #[vJ q1, .second, vJ q2, .second, vI p3, vI p4, vR b1, .unset, .unset, .unset, .unset, .unset, .unset, .unset, .unset, .unset, .unset, .unset, .unset, .unset, .unset, .unset, .unset, .unset] [iI 5, iJ q1, iI 5, iR b1])) rfl (by rw [hml]; rfl) (argsL := [(.long q1), (.int (5 : Int32))]) (rest := [(.int (5 : Int32)), (.ref b1)]) (lenOf pd_30 rfl) rfl (wz rfl) (hb hby at_56) (fun _ _ => ⟨rfl, e21, (by decide : 1 + 0 ≤ _), (by decide : 20 + 0 ≤ _)⟩)
  dsimp only [Pt.U, Pt.locs, Pt.cells, Pt.slots] at X22 l22 y22 z22 st22 hQ22
  subst l22 y22 z22
  obtain ⟨rfl, rfl, e22⟩ := hQ22
  try rw [List.append_nil] at X22
  obtain ⟨cl23, Ar23, q23, S23, M23, H23, G23⟩ := id V21
  have hin24 : ¬ ((5 : Int32) < 0 ∨ cl23.slots.size ≤ ((5 : Int32)).toNatClampNeg) := inb_of S23 ⟨by decide, by decide⟩
  obtain ⟨T25, h25, X25, e25, W25, st25⟩ := stC X22 hx hZ e22 Ar23 (j := (5 : Int32)) hin24 (g := (mkF m 59 #[vJ q1, .second, vJ q2, .second, vI p3, vI p4, vR b1, .unset, .unset, .unset, .unset, .unset, .unset, .unset, .unset, .unset, .unset, .unset, .unset, .unset, .unset, .unset, .unset, .unset] [iI (own_d q1 (5 : Int32)), iI 5, iR b1])) rfl rfl (hb hby at_59)
  have V25 : Arv Z h25 b1 k1 .char (20 : Int32) [(.int (nar .char (own_d q1 (0 : Int32)))), (.int (nar .char (own_d q1 (1 : Int32)))), (.int (nar .char (own_d q1 (2 : Int32)))), (.int (nar .char (own_d q1 (3 : Int32)))), (.int (nar .char (own_d q1 (4 : Int32)))), (.int (nar .char (own_d q1 (5 : Int32)))), (.int (0 : Int32)), (.int (0 : Int32)), (.int (0 : Int32)), (.int (0 : Int32)), (.int (0 : Int32)), (.int (0 : Int32)), (.int (0 : Int32)), (.int (0 : Int32)), (.int (0 : Int32)), (.int (0 : Int32)), (.int (0 : Int32)), (.int (0 : Int32)), (.int (0 : Int32)), (.int (0 : Int32))] (.int (0 : Int32)) := Arv.set Ar23 q23 S23 M23 H23 G23 (fits_nar_char _) W25 5 rfl (Nat.le_of_ble_eq_true rfl)
  have K25 : Keep h0 h25 [] := K21.wr W25 (Or.inr sz_b1)
  have N25 := Fr.snoc X25 N21 g_b1
  obtain ⟨_, _, ⟨T26, L26, k26, n26⟩, -, X26, ⟨Lc26, hQ26, l26, y26, z26⟩, st26⟩ := Jvm.LawKit.callS X25 hx (y := mn_38) hown (mvT hZ (ww hw 1 rfl)) (mvT hZ (ww hw 2 rfl)) (mvT hZ (ww hw 3 rfl)) (mvT hZ (ww hw 4 rfl)) (by decide) (backOf (W := 2) (rm1 l Z a0 hw [] q1 (6 : Int32) h25 ) hZ (ww hw 4 rfl) (ww hw 3 rfl) (by decide) (by decide)) (g := (mkF m 67 #[vJ q1, .second, vJ q2, .second, vI p3, vI p4, vR b1, .unset, .unset, .unset, .unset, .unset, .unset, .unset, .unset, .unset, .unset, .unset, .unset, .unset, .unset, .unset, .unset, .unset] [iI 6, iJ q1, iI 6, iR b1])) rfl (by rw [hml]; rfl) (argsL := [(.long q1), (.int (6 : Int32))]) (rest := [(.int (6 : Int32)), (.ref b1)]) (lenOf pd_30 rfl) rfl (wz rfl) (hb hby at_67) (fun _ _ => ⟨rfl, e25, (by decide : 1 + 0 ≤ _), (by decide : 20 + 0 ≤ _)⟩)
  dsimp only [Pt.U, Pt.locs, Pt.cells, Pt.slots] at X26 l26 y26 z26 st26 hQ26
  subst l26 y26 z26
  obtain ⟨rfl, rfl, e26⟩ := hQ26
  try rw [List.append_nil] at X26
  obtain ⟨cl27, Ar27, q27, S27, M27, H27, G27⟩ := id V25
  have hin28 : ¬ ((6 : Int32) < 0 ∨ cl27.slots.size ≤ ((6 : Int32)).toNatClampNeg) := inb_of S27 ⟨by decide, by decide⟩
  obtain ⟨T29, h29, X29, e29, W29, st29⟩ := stC X26 hx hZ e26 Ar27 (j := (6 : Int32)) hin28 (g := (mkF m 70 #[vJ q1, .second, vJ q2, .second, vI p3, vI p4, vR b1, .unset, .unset, .unset, .unset, .unset, .unset, .unset, .unset, .unset, .unset, .unset, .unset, .unset, .unset, .unset, .unset, .unset] [iI (own_d q1 (6 : Int32)), iI 6, iR b1])) rfl rfl (hb hby at_70)
  have V29 : Arv Z h29 b1 k1 .char (20 : Int32) [(.int (nar .char (own_d q1 (0 : Int32)))), (.int (nar .char (own_d q1 (1 : Int32)))), (.int (nar .char (own_d q1 (2 : Int32)))), (.int (nar .char (own_d q1 (3 : Int32)))), (.int (nar .char (own_d q1 (4 : Int32)))), (.int (nar .char (own_d q1 (5 : Int32)))), (.int (nar .char (own_d q1 (6 : Int32)))), (.int (0 : Int32)), (.int (0 : Int32)), (.int (0 : Int32)), (.int (0 : Int32)), (.int (0 : Int32)), (.int (0 : Int32)), (.int (0 : Int32)), (.int (0 : Int32)), (.int (0 : Int32)), (.int (0 : Int32)), (.int (0 : Int32)), (.int (0 : Int32)), (.int (0 : Int32))] (.int (0 : Int32)) := Arv.set Ar27 q27 S27 M27 H27 G27 (fits_nar_char _) W29 6 rfl (Nat.le_of_ble_eq_true rfl)
  have K29 : Keep h0 h29 [] := K25.wr W29 (Or.inr sz_b1)
  have N29 := Fr.snoc X29 N25 g_b1
  obtain ⟨_, _, ⟨T30, L30, k30, n30⟩, -, X30, ⟨Lc30, hQ30, l30, y30, z30⟩, st30⟩ := Jvm.LawKit.callS X29 hx (y := mn_38) hown (mvT hZ (ww hw 1 rfl)) (mvT hZ (ww hw 2 rfl)) (mvT hZ (ww hw 3 rfl)) (mvT hZ (ww hw 4 rfl)) (by decide) (backOf (W := 2) (rm1 l Z a0 hw [] q1 (7 : Int32) h29 ) hZ (ww hw 4 rfl) (ww hw 3 rfl) (by decide) (by decide)) (g := (mkF m 78 #[vJ q1, .second, vJ q2, .second, vI p3, vI p4, vR b1, .unset, .unset, .unset, .unset, .unset, .unset, .unset, .unset, .unset, .unset, .unset, .unset, .unset, .unset, .unset, .unset, .unset] [iI 7, iJ q1, iI 7, iR b1])) rfl (by rw [hml]; rfl) (argsL := [(.long q1), (.int (7 : Int32))]) (rest := [(.int (7 : Int32)), (.ref b1)]) (lenOf pd_30 rfl) rfl (wz rfl) (hb hby at_78) (fun _ _ => ⟨rfl, e29, (by decide : 1 + 0 ≤ _), (by decide : 20 + 0 ≤ _)⟩)
  dsimp only [Pt.U, Pt.locs, Pt.cells, Pt.slots] at X30 l30 y30 z30 st30 hQ30
  subst l30 y30 z30
  obtain ⟨rfl, rfl, e30⟩ := hQ30
  try rw [List.append_nil] at X30
  obtain ⟨cl31, Ar31, q31, S31, M31, H31, G31⟩ := id V29
  have hin32 : ¬ ((7 : Int32) < 0 ∨ cl31.slots.size ≤ ((7 : Int32)).toNatClampNeg) := inb_of S31 ⟨by decide, by decide⟩
  obtain ⟨T33, h33, X33, e33, W33, st33⟩ := stC X30 hx hZ e30 Ar31 (j := (7 : Int32)) hin32 (g := (mkF m 81 #[vJ q1, .second, vJ q2, .second, vI p3, vI p4, vR b1, .unset, .unset, .unset, .unset, .unset, .unset, .unset, .unset, .unset, .unset, .unset, .unset, .unset, .unset, .unset, .unset, .unset] [iI (own_d q1 (7 : Int32)), iI 7, iR b1])) rfl rfl (hb hby at_81)
  have V33 : Arv Z h33 b1 k1 .char (20 : Int32) [(.int (nar .char (own_d q1 (0 : Int32)))), (.int (nar .char (own_d q1 (1 : Int32)))), (.int (nar .char (own_d q1 (2 : Int32)))), (.int (nar .char (own_d q1 (3 : Int32)))), (.int (nar .char (own_d q1 (4 : Int32)))), (.int (nar .char (own_d q1 (5 : Int32)))), (.int (nar .char (own_d q1 (6 : Int32)))), (.int (nar .char (own_d q1 (7 : Int32)))), (.int (0 : Int32)), (.int (0 : Int32)), (.int (0 : Int32)), (.int (0 : Int32)), (.int (0 : Int32)), (.int (0 : Int32)), (.int (0 : Int32)), (.int (0 : Int32)), (.int (0 : Int32)), (.int (0 : Int32)), (.int (0 : Int32)), (.int (0 : Int32))] (.int (0 : Int32)) := Arv.set Ar31 q31 S31 M31 H31 G31 (fits_nar_char _) W33 7 rfl (Nat.le_of_ble_eq_true rfl)
  have K33 : Keep h0 h33 [] := K29.wr W33 (Or.inr sz_b1)
  have N33 := Fr.snoc X33 N29 g_b1
  obtain ⟨_, _, ⟨T34, L34, k34, n34⟩, -, X34, ⟨Lc34, hQ34, l34, y34, z34⟩, st34⟩ := Jvm.LawKit.callS X33 hx (y := mn_38) hown (mvT hZ (ww hw 1 rfl)) (mvT hZ (ww hw 2 rfl)) (mvT hZ (ww hw 3 rfl)) (mvT hZ (ww hw 4 rfl)) (by decide) (backOf (W := 2) (rm1 l Z a0 hw [] q1 (8 : Int32) h33 ) hZ (ww hw 4 rfl) (ww hw 3 rfl) (by decide) (by decide)) (g := (mkF m 89 #[vJ q1, .second, vJ q2, .second, vI p3, vI p4, vR b1, .unset, .unset, .unset, .unset, .unset, .unset, .unset, .unset, .unset, .unset, .unset, .unset, .unset, .unset, .unset, .unset, .unset] [iI 8, iJ q1, iI 8, iR b1])) rfl (by rw [hml]; rfl) (argsL := [(.long q1), (.int (8 : Int32))]) (rest := [(.int (8 : Int32)), (.ref b1)]) (lenOf pd_30 rfl) rfl (wz rfl) (hb hby at_89) (fun _ _ => ⟨rfl, e33, (by decide : 1 + 0 ≤ _), (by decide : 20 + 0 ≤ _)⟩)
  dsimp only [Pt.U, Pt.locs, Pt.cells, Pt.slots] at X34 l34 y34 z34 st34 hQ34
  subst l34 y34 z34
  obtain ⟨rfl, rfl, e34⟩ := hQ34
  try rw [List.append_nil] at X34
  obtain ⟨cl35, Ar35, q35, S35, M35, H35, G35⟩ := id V33
  have hin36 : ¬ ((8 : Int32) < 0 ∨ cl35.slots.size ≤ ((8 : Int32)).toNatClampNeg) := inb_of S35 ⟨by decide, by decide⟩
  obtain ⟨T37, h37, X37, e37, W37, st37⟩ := stC X34 hx hZ e34 Ar35 (j := (8 : Int32)) hin36 (g := (mkF m 92 #[vJ q1, .second, vJ q2, .second, vI p3, vI p4, vR b1, .unset, .unset, .unset, .unset, .unset, .unset, .unset, .unset, .unset, .unset, .unset, .unset, .unset, .unset, .unset, .unset, .unset] [iI (own_d q1 (8 : Int32)), iI 8, iR b1])) rfl rfl (hb hby at_92)
  have V37 : Arv Z h37 b1 k1 .char (20 : Int32) [(.int (nar .char (own_d q1 (0 : Int32)))), (.int (nar .char (own_d q1 (1 : Int32)))), (.int (nar .char (own_d q1 (2 : Int32)))), (.int (nar .char (own_d q1 (3 : Int32)))), (.int (nar .char (own_d q1 (4 : Int32)))), (.int (nar .char (own_d q1 (5 : Int32)))), (.int (nar .char (own_d q1 (6 : Int32)))), (.int (nar .char (own_d q1 (7 : Int32)))), (.int (nar .char (own_d q1 (8 : Int32)))), (.int (0 : Int32)), (.int (0 : Int32)), (.int (0 : Int32)), (.int (0 : Int32)), (.int (0 : Int32)), (.int (0 : Int32)), (.int (0 : Int32)), (.int (0 : Int32)), (.int (0 : Int32)), (.int (0 : Int32)), (.int (0 : Int32))] (.int (0 : Int32)) := Arv.set Ar35 q35 S35 M35 H35 G35 (fits_nar_char _) W37 8 rfl (Nat.le_of_ble_eq_true rfl)
  have K37 : Keep h0 h37 [] := K33.wr W37 (Or.inr sz_b1)
  have N37 := Fr.snoc X37 N33 g_b1
  obtain ⟨_, _, ⟨T38, L38, k38, n38⟩, -, X38, ⟨Lc38, hQ38, l38, y38, z38⟩, st38⟩ := Jvm.LawKit.callS X37 hx (y := mn_38) hown (mvT hZ (ww hw 1 rfl)) (mvT hZ (ww hw 2 rfl)) (mvT hZ (ww hw 3 rfl)) (mvT hZ (ww hw 4 rfl)) (by decide) (backOf (W := 2) (rm1 l Z a0 hw [] q1 (9 : Int32) h37 ) hZ (ww hw 4 rfl) (ww hw 3 rfl) (by decide) (by decide)) (g := (mkF m 100 #[vJ q1, .second, vJ q2, .second, vI p3, vI p4, vR b1, .unset, .unset, .unset, .unset, .unset, .unset, .unset, .unset, .unset, .unset, .unset, .unset, .unset, .unset, .unset, .unset, .unset] [iI 9, iJ q1, iI 9, iR b1])) rfl (by rw [hml]; rfl) (argsL := [(.long q1), (.int (9 : Int32))]) (rest := [(.int (9 : Int32)), (.ref b1)]) (lenOf pd_30 rfl) rfl (wz rfl) (hb hby at_100) (fun _ _ => ⟨rfl, e37, (by decide : 1 + 0 ≤ _), (by decide : 20 + 0 ≤ _)⟩)
  dsimp only [Pt.U, Pt.locs, Pt.cells, Pt.slots] at X38 l38 y38 z38 st38 hQ38
  subst l38 y38 z38
  obtain ⟨rfl, rfl, e38⟩ := hQ38
  try rw [List.append_nil] at X38
  obtain ⟨cl39, Ar39, q39, S39, M39, H39, G39⟩ := id V37
  have hin40 : ¬ ((9 : Int32) < 0 ∨ cl39.slots.size ≤ ((9 : Int32)).toNatClampNeg) := inb_of S39 ⟨by decide, by decide⟩
  obtain ⟨T41, h41, X41, e41, W41, st41⟩ := stC X38 hx hZ e38 Ar39 (j := (9 : Int32)) hin40 (g := (mkF m 103 #[vJ q1, .second, vJ q2, .second, vI p3, vI p4, vR b1, .unset, .unset, .unset, .unset, .unset, .unset, .unset, .unset, .unset, .unset, .unset, .unset, .unset, .unset, .unset, .unset, .unset] [iI (own_d q1 (9 : Int32)), iI 9, iR b1])) rfl rfl (hb hby at_103)
  have V41 : Arv Z h41 b1 k1 .char (20 : Int32) [(.int (nar .char (own_d q1 (0 : Int32)))), (.int (nar .char (own_d q1 (1 : Int32)))), (.int (nar .char (own_d q1 (2 : Int32)))), (.int (nar .char (own_d q1 (3 : Int32)))), (.int (nar .char (own_d q1 (4 : Int32)))), (.int (nar .char (own_d q1 (5 : Int32)))), (.int (nar .char (own_d q1 (6 : Int32)))), (.int (nar .char (own_d q1 (7 : Int32)))), (.int (nar .char (own_d q1 (8 : Int32)))), (.int (nar .char (own_d q1 (9 : Int32)))), (.int (0 : Int32)), (.int (0 : Int32)), (.int (0 : Int32)), (.int (0 : Int32)), (.int (0 : Int32)), (.int (0 : Int32)), (.int (0 : Int32)), (.int (0 : Int32)), (.int (0 : Int32)), (.int (0 : Int32))] (.int (0 : Int32)) := Arv.set Ar39 q39 S39 M39 H39 G39 (fits_nar_char _) W41 9 rfl (Nat.le_of_ble_eq_true rfl)
  have K41 : Keep h0 h41 [] := K37.wr W41 (Or.inr sz_b1)
  have N41 := Fr.snoc X41 N37 g_b1
  obtain ⟨_, _, ⟨T42, L42, k42, n42⟩, -, X42, ⟨Lc42, hQ42, l42, y42, z42⟩, st42⟩ := Jvm.LawKit.callS X41 hx (y := mn_38) hown (mvT hZ (ww hw 1 rfl)) (mvT hZ (ww hw 2 rfl)) (mvT hZ (ww hw 3 rfl)) (mvT hZ (ww hw 4 rfl)) (by decide) (backOf (W := 2) (rm1 l Z a0 hw [] q1 (10 : Int32) h41 ) hZ (ww hw 4 rfl) (ww hw 3 rfl) (by decide) (by decide)) (g := (mkF m 111 #[vJ q1, .second, vJ q2, .second, vI p3, vI p4, vR b1, .unset, .unset, .unset, .unset, .unset, .unset, .unset, .unset, .unset, .unset, .unset, .unset, .unset, .unset, .unset, .unset, .unset] [iI 10, iJ q1, iI 10, iR b1])) rfl (by rw [hml]; rfl) (argsL := [(.long q1), (.int (10 : Int32))]) (rest := [(.int (10 : Int32)), (.ref b1)]) (lenOf pd_30 rfl) rfl (wz rfl) (hb hby at_111) (fun _ _ => ⟨rfl, e41, (by decide : 1 + 0 ≤ _), (by decide : 20 + 0 ≤ _)⟩)
  dsimp only [Pt.U, Pt.locs, Pt.cells, Pt.slots] at X42 l42 y42 z42 st42 hQ42
  subst l42 y42 z42
  obtain ⟨rfl, rfl, e42⟩ := hQ42
  try rw [List.append_nil] at X42
  obtain ⟨cl43, Ar43, q43, S43, M43, H43, G43⟩ := id V41
  have hin44 : ¬ ((10 : Int32) < 0 ∨ cl43.slots.size ≤ ((10 : Int32)).toNatClampNeg) := inb_of S43 ⟨by decide, by decide⟩
  obtain ⟨T45, h45, X45, e45, W45, st45⟩ := stC X42 hx hZ e42 Ar43 (j := (10 : Int32)) hin44 (g := (mkF m 114 #[vJ q1, .second, vJ q2, .second, vI p3, vI p4, vR b1, .unset, .unset, .unset, .unset, .unset, .unset, .unset, .unset, .unset, .unset, .unset, .unset, .unset, .unset, .unset, .unset, .unset] [iI (own_d q1 (10 : Int32)), iI 10, iR b1])) rfl rfl (hb hby at_114)
  have V45 : Arv Z h45 b1 k1 .char (20 : Int32) [(.int (nar .char (own_d q1 (0 : Int32)))), (.int (nar .char (own_d q1 (1 : Int32)))), (.int (nar .char (own_d q1 (2 : Int32)))), (.int (nar .char (own_d q1 (3 : Int32)))), (.int (nar .char (own_d q1 (4 : Int32)))), (.int (nar .char (own_d q1 (5 : Int32)))), (.int (nar .char (own_d q1 (6 : Int32)))), (.int (nar .char (own_d q1 (7 : Int32)))), (.int (nar .char (own_d q1 (8 : Int32)))), (.int (nar .char (own_d q1 (9 : Int32)))), (.int (nar .char (own_d q1 (10 : Int32)))), (.int (0 : Int32)), (.int (0 : Int32)), (.int (0 : Int32)), (.int (0 : Int32)), (.int (0 : Int32)), (.int (0 : Int32)), (.int (0 : Int32)), (.int (0 : Int32)), (.int (0 : Int32))] (.int (0 : Int32)) := Arv.set Ar43 q43 S43 M43 H43 G43 (fits_nar_char _) W45 10 rfl (Nat.le_of_ble_eq_true rfl)
  have K45 : Keep h0 h45 [] := K41.wr W45 (Or.inr sz_b1)
  have N45 := Fr.snoc X45 N41 g_b1
  obtain ⟨_, _, ⟨T46, L46, k46, n46⟩, -, X46, ⟨Lc46, hQ46, l46, y46, z46⟩, st46⟩ := Jvm.LawKit.callS X45 hx (y := mn_38) hown (mvT hZ (ww hw 1 rfl)) (mvT hZ (ww hw 2 rfl)) (mvT hZ (ww hw 3 rfl)) (mvT hZ (ww hw 4 rfl)) (by decide) (backOf (W := 2) (rm1 l Z a0 hw [] q1 (11 : Int32) h45 ) hZ (ww hw 4 rfl) (ww hw 3 rfl) (by decide) (by decide)) (g := (mkF m 122 #[vJ q1, .second, vJ q2, .second, vI p3, vI p4, vR b1, .unset, .unset, .unset, .unset, .unset, .unset, .unset, .unset, .unset, .unset, .unset, .unset, .unset, .unset, .unset, .unset, .unset] [iI 11, iJ q1, iI 11, iR b1])) rfl (by rw [hml]; rfl) (argsL := [(.long q1), (.int (11 : Int32))]) (rest := [(.int (11 : Int32)), (.ref b1)]) (lenOf pd_30 rfl) rfl (wz rfl) (hb hby at_122) (fun _ _ => ⟨rfl, e45, (by decide : 1 + 0 ≤ _), (by decide : 20 + 0 ≤ _)⟩)
  dsimp only [Pt.U, Pt.locs, Pt.cells, Pt.slots] at X46 l46 y46 z46 st46 hQ46
  subst l46 y46 z46
  obtain ⟨rfl, rfl, e46⟩ := hQ46
  try rw [List.append_nil] at X46
  obtain ⟨cl47, Ar47, q47, S47, M47, H47, G47⟩ := id V45
  have hin48 : ¬ ((11 : Int32) < 0 ∨ cl47.slots.size ≤ ((11 : Int32)).toNatClampNeg) := inb_of S47 ⟨by decide, by decide⟩
  obtain ⟨T49, h49, X49, e49, W49, st49⟩ := stC X46 hx hZ e46 Ar47 (j := (11 : Int32)) hin48 (g := (mkF m 125 #[vJ q1, .second, vJ q2, .second, vI p3, vI p4, vR b1, .unset, .unset, .unset, .unset, .unset, .unset, .unset, .unset, .unset, .unset, .unset, .unset, .unset, .unset, .unset, .unset, .unset] [iI (own_d q1 (11 : Int32)), iI 11, iR b1])) rfl rfl (hb hby at_125)
  have V49 : Arv Z h49 b1 k1 .char (20 : Int32) [(.int (nar .char (own_d q1 (0 : Int32)))), (.int (nar .char (own_d q1 (1 : Int32)))), (.int (nar .char (own_d q1 (2 : Int32)))), (.int (nar .char (own_d q1 (3 : Int32)))), (.int (nar .char (own_d q1 (4 : Int32)))), (.int (nar .char (own_d q1 (5 : Int32)))), (.int (nar .char (own_d q1 (6 : Int32)))), (.int (nar .char (own_d q1 (7 : Int32)))), (.int (nar .char (own_d q1 (8 : Int32)))), (.int (nar .char (own_d q1 (9 : Int32)))), (.int (nar .char (own_d q1 (10 : Int32)))), (.int (nar .char (own_d q1 (11 : Int32)))), (.int (0 : Int32)), (.int (0 : Int32)), (.int (0 : Int32)), (.int (0 : Int32)), (.int (0 : Int32)), (.int (0 : Int32)), (.int (0 : Int32)), (.int (0 : Int32))] (.int (0 : Int32)) := Arv.set Ar47 q47 S47 M47 H47 G47 (fits_nar_char _) W49 11 rfl (Nat.le_of_ble_eq_true rfl)
  have K49 : Keep h0 h49 [] := K45.wr W49 (Or.inr sz_b1)
  have N49 := Fr.snoc X49 N45 g_b1
  obtain ⟨_, _, ⟨T50, L50, k50, n50⟩, -, X50, ⟨Lc50, hQ50, l50, y50, z50⟩, st50⟩ := Jvm.LawKit.callS X49 hx (y := mn_38) hown (mvT hZ (ww hw 1 rfl)) (mvT hZ (ww hw 2 rfl)) (mvT hZ (ww hw 3 rfl)) (mvT hZ (ww hw 4 rfl)) (by decide) (backOf (W := 2) (rm1 l Z a0 hw [] q1 (12 : Int32) h49 ) hZ (ww hw 4 rfl) (ww hw 3 rfl) (by decide) (by decide)) (g := (mkF m 133 #[vJ q1, .second, vJ q2, .second, vI p3, vI p4, vR b1, .unset, .unset, .unset, .unset, .unset, .unset, .unset, .unset, .unset, .unset, .unset, .unset, .unset, .unset, .unset, .unset, .unset] [iI 12, iJ q1, iI 12, iR b1])) rfl (by rw [hml]; rfl) (argsL := [(.long q1), (.int (12 : Int32))]) (rest := [(.int (12 : Int32)), (.ref b1)]) (lenOf pd_30 rfl) rfl (wz rfl) (hb hby at_133) (fun _ _ => ⟨rfl, e49, (by decide : 1 + 0 ≤ _), (by decide : 20 + 0 ≤ _)⟩)
  dsimp only [Pt.U, Pt.locs, Pt.cells, Pt.slots] at X50 l50 y50 z50 st50 hQ50
  subst l50 y50 z50
  obtain ⟨rfl, rfl, e50⟩ := hQ50
  try rw [List.append_nil] at X50
  obtain ⟨cl51, Ar51, q51, S51, M51, H51, G51⟩ := id V49
  have hin52 : ¬ ((12 : Int32) < 0 ∨ cl51.slots.size ≤ ((12 : Int32)).toNatClampNeg) := inb_of S51 ⟨by decide, by decide⟩
  obtain ⟨T53, h53, X53, e53, W53, st53⟩ := stC X50 hx hZ e50 Ar51 (j := (12 : Int32)) hin52 (g := (mkF m 136 #[vJ q1, .second, vJ q2, .second, vI p3, vI p4, vR b1, .unset, .unset, .unset, .unset, .unset, .unset, .unset, .unset, .unset, .unset, .unset, .unset, .unset, .unset, .unset, .unset, .unset] [iI (own_d q1 (12 : Int32)), iI 12, iR b1])) rfl rfl (hb hby at_136)
  have V53 : Arv Z h53 b1 k1 .char (20 : Int32) [(.int (nar .char (own_d q1 (0 : Int32)))), (.int (nar .char (own_d q1 (1 : Int32)))), (.int (nar .char (own_d q1 (2 : Int32)))), (.int (nar .char (own_d q1 (3 : Int32)))), (.int (nar .char (own_d q1 (4 : Int32)))), (.int (nar .char (own_d q1 (5 : Int32)))), (.int (nar .char (own_d q1 (6 : Int32)))), (.int (nar .char (own_d q1 (7 : Int32)))), (.int (nar .char (own_d q1 (8 : Int32)))), (.int (nar .char (own_d q1 (9 : Int32)))), (.int (nar .char (own_d q1 (10 : Int32)))), (.int (nar .char (own_d q1 (11 : Int32)))), (.int (nar .char (own_d q1 (12 : Int32)))), (.int (0 : Int32)), (.int (0 : Int32)), (.int (0 : Int32)), (.int (0 : Int32)), (.int (0 : Int32)), (.int (0 : Int32)), (.int (0 : Int32))] (.int (0 : Int32)) := Arv.set Ar51 q51 S51 M51 H51 G51 (fits_nar_char _) W53 12 rfl (Nat.le_of_ble_eq_true rfl)
  have K53 : Keep h0 h53 [] := K49.wr W53 (Or.inr sz_b1)
  have N53 := Fr.snoc X53 N49 g_b1
  obtain ⟨_, _, ⟨T54, L54, k54, n54⟩, -, X54, ⟨Lc54, hQ54, l54, y54, z54⟩, st54⟩ := Jvm.LawKit.callS X53 hx (y := mn_38) hown (mvT hZ (ww hw 1 rfl)) (mvT hZ (ww hw 2 rfl)) (mvT hZ (ww hw 3 rfl)) (mvT hZ (ww hw 4 rfl)) (by decide) (backOf (W := 2) (rm1 l Z a0 hw [] q1 (13 : Int32) h53 ) hZ (ww hw 4 rfl) (ww hw 3 rfl) (by decide) (by decide)) (g := (mkF m 144 #[vJ q1, .second, vJ q2, .second, vI p3, vI p4, vR b1, .unset, .unset, .unset, .unset, .unset, .unset, .unset, .unset, .unset, .unset, .unset, .unset, .unset, .unset, .unset, .unset, .unset] [iI 13, iJ q1, iI 13, iR b1])) rfl (by rw [hml]; rfl) (argsL := [(.long q1), (.int (13 : Int32))]) (rest := [(.int (13 : Int32)), (.ref b1)]) (lenOf pd_30 rfl) rfl (wz rfl) (hb hby at_144) (fun _ _ => ⟨rfl, e53, (by decide : 1 + 0 ≤ _), (by decide : 20 + 0 ≤ _)⟩)
  dsimp only [Pt.U, Pt.locs, Pt.cells, Pt.slots] at X54 l54 y54 z54 st54 hQ54
  subst l54 y54 z54
  obtain ⟨rfl, rfl, e54⟩ := hQ54
  try rw [List.append_nil] at X54
  obtain ⟨cl55, Ar55, q55, S55, M55, H55, G55⟩ := id V53
  have hin56 : ¬ ((13 : Int32) < 0 ∨ cl55.slots.size ≤ ((13 : Int32)).toNatClampNeg) := inb_of S55 ⟨by decide, by decide⟩
  obtain ⟨T57, h57, X57, e57, W57, st57⟩ := stC X54 hx hZ e54 Ar55 (j := (13 : Int32)) hin56 (g := (mkF m 147 #[vJ q1, .second, vJ q2, .second, vI p3, vI p4, vR b1, .unset, .unset, .unset, .unset, .unset, .unset, .unset, .unset, .unset, .unset, .unset, .unset, .unset, .unset, .unset, .unset, .unset] [iI (own_d q1 (13 : Int32)), iI 13, iR b1])) rfl rfl (hb hby at_147)
  have V57 : Arv Z h57 b1 k1 .char (20 : Int32) [(.int (nar .char (own_d q1 (0 : Int32)))), (.int (nar .char (own_d q1 (1 : Int32)))), (.int (nar .char (own_d q1 (2 : Int32)))), (.int (nar .char (own_d q1 (3 : Int32)))), (.int (nar .char (own_d q1 (4 : Int32)))), (.int (nar .char (own_d q1 (5 : Int32)))), (.int (nar .char (own_d q1 (6 : Int32)))), (.int (nar .char (own_d q1 (7 : Int32)))), (.int (nar .char (own_d q1 (8 : Int32)))), (.int (nar .char (own_d q1 (9 : Int32)))), (.int (nar .char (own_d q1 (10 : Int32)))), (.int (nar .char (own_d q1 (11 : Int32)))), (.int (nar .char (own_d q1 (12 : Int32)))), (.int (nar .char (own_d q1 (13 : Int32)))), (.int (0 : Int32)), (.int (0 : Int32)), (.int (0 : Int32)), (.int (0 : Int32)), (.int (0 : Int32)), (.int (0 : Int32))] (.int (0 : Int32)) := Arv.set Ar55 q55 S55 M55 H55 G55 (fits_nar_char _) W57 13 rfl (Nat.le_of_ble_eq_true rfl)
  have K57 : Keep h0 h57 [] := K53.wr W57 (Or.inr sz_b1)
  have N57 := Fr.snoc X57 N53 g_b1
  obtain ⟨_, _, ⟨T58, L58, k58, n58⟩, -, X58, ⟨Lc58, hQ58, l58, y58, z58⟩, st58⟩ := Jvm.LawKit.callS X57 hx (y := mn_38) hown (mvT hZ (ww hw 1 rfl)) (mvT hZ (ww hw 2 rfl)) (mvT hZ (ww hw 3 rfl)) (mvT hZ (ww hw 4 rfl)) (by decide) (backOf (W := 2) (rm1 l Z a0 hw [] q1 (14 : Int32) h57 ) hZ (ww hw 4 rfl) (ww hw 3 rfl) (by decide) (by decide)) (g := (mkF m 155 #[vJ q1, .second, vJ q2, .second, vI p3, vI p4, vR b1, .unset, .unset, .unset, .unset, .unset, .unset, .unset, .unset, .unset, .unset, .unset, .unset, .unset, .unset, .unset, .unset, .unset] [iI 14, iJ q1, iI 14, iR b1])) rfl (by rw [hml]; rfl) (argsL := [(.long q1), (.int (14 : Int32))]) (rest := [(.int (14 : Int32)), (.ref b1)]) (lenOf pd_30 rfl) rfl (wz rfl) (hb hby at_155) (fun _ _ => ⟨rfl, e57, (by decide : 1 + 0 ≤ _), (by decide : 20 + 0 ≤ _)⟩)
  dsimp only [Pt.U, Pt.locs, Pt.cells, Pt.slots] at X58 l58 y58 z58 st58 hQ58
  subst l58 y58 z58
  obtain ⟨rfl, rfl, e58⟩ := hQ58
  try rw [List.append_nil] at X58
  obtain ⟨cl59, Ar59, q59, S59, M59, H59, G59⟩ := id V57
  have hin60 : ¬ ((14 : Int32) < 0 ∨ cl59.slots.size ≤ ((14 : Int32)).toNatClampNeg) := inb_of S59 ⟨by decide, by decide⟩
  obtain ⟨T61, h61, X61, e61, W61, st61⟩ := stC X58 hx hZ e58 Ar59 (j := (14 : Int32)) hin60 (g := (mkF m 158 #[vJ q1, .second, vJ q2, .second, vI p3, vI p4, vR b1, .unset, .unset, .unset, .unset, .unset, .unset, .unset, .unset, .unset, .unset, .unset, .unset, .unset, .unset, .unset, .unset, .unset] [iI (own_d q1 (14 : Int32)), iI 14, iR b1])) rfl rfl (hb hby at_158)
  have V61 : Arv Z h61 b1 k1 .char (20 : Int32) [(.int (nar .char (own_d q1 (0 : Int32)))), (.int (nar .char (own_d q1 (1 : Int32)))), (.int (nar .char (own_d q1 (2 : Int32)))), (.int (nar .char (own_d q1 (3 : Int32)))), (.int (nar .char (own_d q1 (4 : Int32)))), (.int (nar .char (own_d q1 (5 : Int32)))), (.int (nar .char (own_d q1 (6 : Int32)))), (.int (nar .char (own_d q1 (7 : Int32)))), (.int (nar .char (own_d q1 (8 : Int32)))), (.int (nar .char (own_d q1 (9 : Int32)))), (.int (nar .char (own_d q1 (10 : Int32)))), (.int (nar .char (own_d q1 (11 : Int32)))), (.int (nar .char (own_d q1 (12 : Int32)))), (.int (nar .char (own_d q1 (13 : Int32)))), (.int (nar .char (own_d q1 (14 : Int32)))), (.int (0 : Int32)), (.int (0 : Int32)), (.int (0 : Int32)), (.int (0 : Int32)), (.int (0 : Int32))] (.int (0 : Int32)) := Arv.set Ar59 q59 S59 M59 H59 G59 (fits_nar_char _) W61 14 rfl (Nat.le_of_ble_eq_true rfl)
  have K61 : Keep h0 h61 [] := K57.wr W61 (Or.inr sz_b1)
  have N61 := Fr.snoc X61 N57 g_b1
  obtain ⟨_, _, ⟨T62, L62, k62, n62⟩, -, X62, ⟨Lc62, hQ62, l62, y62, z62⟩, st62⟩ := Jvm.LawKit.callS X61 hx (y := mn_38) hown (mvT hZ (ww hw 1 rfl)) (mvT hZ (ww hw 2 rfl)) (mvT hZ (ww hw 3 rfl)) (mvT hZ (ww hw 4 rfl)) (by decide) (backOf (W := 2) (rm1 l Z a0 hw [] q1 (15 : Int32) h61 ) hZ (ww hw 4 rfl) (ww hw 3 rfl) (by decide) (by decide)) (g := (mkF m 166 #[vJ q1, .second, vJ q2, .second, vI p3, vI p4, vR b1, .unset, .unset, .unset, .unset, .unset, .unset, .unset, .unset, .unset, .unset, .unset, .unset, .unset, .unset, .unset, .unset, .unset] [iI 15, iJ q1, iI 15, iR b1])) rfl (by rw [hml]; rfl) (argsL := [(.long q1), (.int (15 : Int32))]) (rest := [(.int (15 : Int32)), (.ref b1)]) (lenOf pd_30 rfl) rfl (wz rfl) (hb hby at_166) (fun _ _ => ⟨rfl, e61, (by decide : 1 + 0 ≤ _), (by decide : 20 + 0 ≤ _)⟩)
  dsimp only [Pt.U, Pt.locs, Pt.cells, Pt.slots] at X62 l62 y62 z62 st62 hQ62
  subst l62 y62 z62
  obtain ⟨rfl, rfl, e62⟩ := hQ62
  try rw [List.append_nil] at X62
  obtain ⟨cl63, Ar63, q63, S63, M63, H63, G63⟩ := id V61
  have hin64 : ¬ ((15 : Int32) < 0 ∨ cl63.slots.size ≤ ((15 : Int32)).toNatClampNeg) := inb_of S63 ⟨by decide, by decide⟩
  obtain ⟨T65, h65, X65, e65, W65, st65⟩ := stC X62 hx hZ e62 Ar63 (j := (15 : Int32)) hin64 (g := (mkF m 169 #[vJ q1, .second, vJ q2, .second, vI p3, vI p4, vR b1, .unset, .unset, .unset, .unset, .unset, .unset, .unset, .unset, .unset, .unset, .unset, .unset, .unset, .unset, .unset, .unset, .unset] [iI (own_d q1 (15 : Int32)), iI 15, iR b1])) rfl rfl (hb hby at_169)
  have V65 : Arv Z h65 b1 k1 .char (20 : Int32) [(.int (nar .char (own_d q1 (0 : Int32)))), (.int (nar .char (own_d q1 (1 : Int32)))), (.int (nar .char (own_d q1 (2 : Int32)))), (.int (nar .char (own_d q1 (3 : Int32)))), (.int (nar .char (own_d q1 (4 : Int32)))), (.int (nar .char (own_d q1 (5 : Int32)))), (.int (nar .char (own_d q1 (6 : Int32)))), (.int (nar .char (own_d q1 (7 : Int32)))), (.int (nar .char (own_d q1 (8 : Int32)))), (.int (nar .char (own_d q1 (9 : Int32)))), (.int (nar .char (own_d q1 (10 : Int32)))), (.int (nar .char (own_d q1 (11 : Int32)))), (.int (nar .char (own_d q1 (12 : Int32)))), (.int (nar .char (own_d q1 (13 : Int32)))), (.int (nar .char (own_d q1 (14 : Int32)))), (.int (nar .char (own_d q1 (15 : Int32)))), (.int (0 : Int32)), (.int (0 : Int32)), (.int (0 : Int32)), (.int (0 : Int32))] (.int (0 : Int32)) := Arv.set Ar63 q63 S63 M63 H63 G63 (fits_nar_char _) W65 15 rfl (Nat.le_of_ble_eq_true rfl)
  have K65 : Keep h0 h65 [] := K61.wr W65 (Or.inr sz_b1)
  have N65 := Fr.snoc X65 N61 g_b1
  obtain ⟨_, _, ⟨T66, L66, k66, n66⟩, -, X66, ⟨Lc66, hQ66, l66, y66, z66⟩, st66⟩ := Jvm.LawKit.callS X65 hx (y := mn_38) hown (mvT hZ (ww hw 1 rfl)) (mvT hZ (ww hw 2 rfl)) (mvT hZ (ww hw 3 rfl)) (mvT hZ (ww hw 4 rfl)) (by decide) (backOf (W := 2) (rm1 l Z a0 hw [] q2 (0 : Int32) h65 ) hZ (ww hw 4 rfl) (ww hw 3 rfl) (by decide) (by decide)) (g := (mkF m 176 #[vJ q1, .second, vJ q2, .second, vI p3, vI p4, vR b1, .unset, .unset, .unset, .unset, .unset, .unset, .unset, .unset, .unset, .unset, .unset, .unset, .unset, .unset, .unset, .unset, .unset] [iI 0, iJ q2, iI 16, iR b1])) rfl (by rw [hml]; rfl) (argsL := [(.long q2), (.int (0 : Int32))]) (rest := [(.int (16 : Int32)), (.ref b1)]) (lenOf pd_30 rfl) rfl (wz rfl) (hb hby at_176) (fun _ _ => ⟨rfl, e65, (by decide : 1 + 0 ≤ _), (by decide : 20 + 0 ≤ _)⟩)
  dsimp only [Pt.U, Pt.locs, Pt.cells, Pt.slots] at X66 l66 y66 z66 st66 hQ66
  subst l66 y66 z66
  obtain ⟨rfl, rfl, e66⟩ := hQ66
  try rw [List.append_nil] at X66
  obtain ⟨cl67, Ar67, q67, S67, M67, H67, G67⟩ := id V65
  have hin68 : ¬ ((16 : Int32) < 0 ∨ cl67.slots.size ≤ ((16 : Int32)).toNatClampNeg) := inb_of S67 ⟨by decide, by decide⟩
  obtain ⟨T69, h69, X69, e69, W69, st69⟩ := stC X66 hx hZ e66 Ar67 (j := (16 : Int32)) hin68 (g := (mkF m 179 #[vJ q1, .second, vJ q2, .second, vI p3, vI p4, vR b1, .unset, .unset, .unset, .unset, .unset, .unset, .unset, .unset, .unset, .unset, .unset, .unset, .unset, .unset, .unset, .unset, .unset] [iI (own_d q2 (0 : Int32)), iI 16, iR b1])) rfl rfl (hb hby at_179)
  have V69 : Arv Z h69 b1 k1 .char (20 : Int32) [(.int (nar .char (own_d q1 (0 : Int32)))), (.int (nar .char (own_d q1 (1 : Int32)))), (.int (nar .char (own_d q1 (2 : Int32)))), (.int (nar .char (own_d q1 (3 : Int32)))), (.int (nar .char (own_d q1 (4 : Int32)))), (.int (nar .char (own_d q1 (5 : Int32)))), (.int (nar .char (own_d q1 (6 : Int32)))), (.int (nar .char (own_d q1 (7 : Int32)))), (.int (nar .char (own_d q1 (8 : Int32)))), (.int (nar .char (own_d q1 (9 : Int32)))), (.int (nar .char (own_d q1 (10 : Int32)))), (.int (nar .char (own_d q1 (11 : Int32)))), (.int (nar .char (own_d q1 (12 : Int32)))), (.int (nar .char (own_d q1 (13 : Int32)))), (.int (nar .char (own_d q1 (14 : Int32)))), (.int (nar .char (own_d q1 (15 : Int32)))), (.int (nar .char (own_d q2 (0 : Int32)))), (.int (0 : Int32)), (.int (0 : Int32)), (.int (0 : Int32))] (.int (0 : Int32)) := Arv.set Ar67 q67 S67 M67 H67 G67 (fits_nar_char _) W69 16 rfl (Nat.le_of_ble_eq_true rfl)
  have K69 : Keep h0 h69 [] := K65.wr W69 (Or.inr sz_b1)
  have N69 := Fr.snoc X69 N65 g_b1
  obtain ⟨_, _, ⟨T70, L70, k70, n70⟩, -, X70, ⟨Lc70, hQ70, l70, y70, z70⟩, st70⟩ := Jvm.LawKit.callS X69 hx (y := mn_38) hown (mvT hZ (ww hw 1 rfl)) (mvT hZ (ww hw 2 rfl)) (mvT hZ (ww hw 3 rfl)) (mvT hZ (ww hw 4 rfl)) (by decide) (backOf (W := 2) (rm1 l Z a0 hw [] q2 (1 : Int32) h69 ) hZ (ww hw 4 rfl) (ww hw 3 rfl) (by decide) (by decide)) (g := (mkF m 186 #[vJ q1, .second, vJ q2, .second, vI p3, vI p4, vR b1, .unset, .unset, .unset, .unset, .unset, .unset, .unset, .unset, .unset, .unset, .unset, .unset, .unset, .unset, .unset, .unset, .unset] [iI 1, iJ q2, iI 17, iR b1])) rfl (by rw [hml]; rfl) (argsL := [(.long q2), (.int (1 : Int32))]) (rest := [(.int (17 : Int32)), (.ref b1)]) (lenOf pd_30 rfl) rfl (wz rfl) (hb hby at_186) (fun _ _ => ⟨rfl, e69, (by decide : 1 + 0 ≤ _), (by decide : 20 + 0 ≤ _)⟩)
  dsimp only [Pt.U, Pt.locs, Pt.cells, Pt.slots] at X70 l70 y70 z70 st70 hQ70
  subst l70 y70 z70
  obtain ⟨rfl, rfl, e70⟩ := hQ70
  try rw [List.append_nil] at X70
  obtain ⟨cl71, Ar71, q71, S71, M71, H71, G71⟩ := id V69
  have hin72 : ¬ ((17 : Int32) < 0 ∨ cl71.slots.size ≤ ((17 : Int32)).toNatClampNeg) := inb_of S71 ⟨by decide, by decide⟩
  obtain ⟨T73, h73, X73, e73, W73, st73⟩ := stC X70 hx hZ e70 Ar71 (j := (17 : Int32)) hin72 (g := (mkF m 189 #[vJ q1, .second, vJ q2, .second, vI p3, vI p4, vR b1, .unset, .unset, .unset, .unset, .unset, .unset, .unset, .unset, .unset, .unset, .unset, .unset, .unset, .unset, .unset, .unset, .unset] [iI (own_d q2 (1 : Int32)), iI 17, iR b1])) rfl rfl (hb hby at_189)
  have V73 : Arv Z h73 b1 k1 .char (20 : Int32) [(.int (nar .char (own_d q1 (0 : Int32)))), (.int (nar .char (own_d q1 (1 : Int32)))), (.int (nar .char (own_d q1 (2 : Int32)))), (.int (nar .char (own_d q1 (3 : Int32)))), (.int (nar .char (own_d q1 (4 : Int32)))), (.int (nar .char (own_d q1 (5 : Int32)))), (.int (nar .char (own_d q1 (6 : Int32)))), (.int (nar .char (own_d q1 (7 : Int32)))), (.int (nar .char (own_d q1 (8 : Int32)))), (.int (nar .char (own_d q1 (9 : Int32)))), (.int (nar .char (own_d q1 (10 : Int32)))), (.int (nar .char (own_d q1 (11 : Int32)))), (.int (nar .char (own_d q1 (12 : Int32)))), (.int (nar .char (own_d q1 (13 : Int32)))), (.int (nar .char (own_d q1 (14 : Int32)))), (.int (nar .char (own_d q1 (15 : Int32)))), (.int (nar .char (own_d q2 (0 : Int32)))), (.int (nar .char (own_d q2 (1 : Int32)))), (.int (0 : Int32)), (.int (0 : Int32))] (.int (0 : Int32)) := Arv.set Ar71 q71 S71 M71 H71 G71 (fits_nar_char _) W73 17 rfl (Nat.le_of_ble_eq_true rfl)
  have K73 : Keep h0 h73 [] := K69.wr W73 (Or.inr sz_b1)
  have N73 := Fr.snoc X73 N69 g_b1
  obtain ⟨_, _, ⟨T74, L74, k74, n74⟩, -, X74, ⟨Lc74, hQ74, l74, y74, z74⟩, st74⟩ := Jvm.LawKit.callS X73 hx (y := mn_38) hown (mvT hZ (ww hw 1 rfl)) (mvT hZ (ww hw 2 rfl)) (mvT hZ (ww hw 3 rfl)) (mvT hZ (ww hw 4 rfl)) (by decide) (backOf (W := 2) (rm1 l Z a0 hw [] q2 (2 : Int32) h73 ) hZ (ww hw 4 rfl) (ww hw 3 rfl) (by decide) (by decide)) (g := (mkF m 196 #[vJ q1, .second, vJ q2, .second, vI p3, vI p4, vR b1, .unset, .unset, .unset, .unset, .unset, .unset, .unset, .unset, .unset, .unset, .unset, .unset, .unset, .unset, .unset, .unset, .unset] [iI 2, iJ q2, iI 18, iR b1])) rfl (by rw [hml]; rfl) (argsL := [(.long q2), (.int (2 : Int32))]) (rest := [(.int (18 : Int32)), (.ref b1)]) (lenOf pd_30 rfl) rfl (wz rfl) (hb hby at_196) (fun _ _ => ⟨rfl, e73, (by decide : 1 + 0 ≤ _), (by decide : 20 + 0 ≤ _)⟩)
  dsimp only [Pt.U, Pt.locs, Pt.cells, Pt.slots] at X74 l74 y74 z74 st74 hQ74
  subst l74 y74 z74
  obtain ⟨rfl, rfl, e74⟩ := hQ74
  try rw [List.append_nil] at X74
  obtain ⟨cl75, Ar75, q75, S75, M75, H75, G75⟩ := id V73
  have hin76 : ¬ ((18 : Int32) < 0 ∨ cl75.slots.size ≤ ((18 : Int32)).toNatClampNeg) := inb_of S75 ⟨by decide, by decide⟩
  obtain ⟨T77, h77, X77, e77, W77, st77⟩ := stC X74 hx hZ e74 Ar75 (j := (18 : Int32)) hin76 (g := (mkF m 199 #[vJ q1, .second, vJ q2, .second, vI p3, vI p4, vR b1, .unset, .unset, .unset, .unset, .unset, .unset, .unset, .unset, .unset, .unset, .unset, .unset, .unset, .unset, .unset, .unset, .unset] [iI (own_d q2 (2 : Int32)), iI 18, iR b1])) rfl rfl (hb hby at_199)
  have V77 : Arv Z h77 b1 k1 .char (20 : Int32) [(.int (nar .char (own_d q1 (0 : Int32)))), (.int (nar .char (own_d q1 (1 : Int32)))), (.int (nar .char (own_d q1 (2 : Int32)))), (.int (nar .char (own_d q1 (3 : Int32)))), (.int (nar .char (own_d q1 (4 : Int32)))), (.int (nar .char (own_d q1 (5 : Int32)))), (.int (nar .char (own_d q1 (6 : Int32)))), (.int (nar .char (own_d q1 (7 : Int32)))), (.int (nar .char (own_d q1 (8 : Int32)))), (.int (nar .char (own_d q1 (9 : Int32)))), (.int (nar .char (own_d q1 (10 : Int32)))), (.int (nar .char (own_d q1 (11 : Int32)))), (.int (nar .char (own_d q1 (12 : Int32)))), (.int (nar .char (own_d q1 (13 : Int32)))), (.int (nar .char (own_d q1 (14 : Int32)))), (.int (nar .char (own_d q1 (15 : Int32)))), (.int (nar .char (own_d q2 (0 : Int32)))), (.int (nar .char (own_d q2 (1 : Int32)))), (.int (nar .char (own_d q2 (2 : Int32)))), (.int (0 : Int32))] (.int (0 : Int32)) := Arv.set Ar75 q75 S75 M75 H75 G75 (fits_nar_char _) W77 18 rfl (Nat.le_of_ble_eq_true rfl)
  have K77 : Keep h0 h77 [] := K73.wr W77 (Or.inr sz_b1)
  have N77 := Fr.snoc X77 N73 g_b1
  obtain ⟨_, _, ⟨T78, L78, k78, n78⟩, -, X78, ⟨Lc78, hQ78, l78, y78, z78⟩, st78⟩ := Jvm.LawKit.callS X77 hx (y := mn_38) hown (mvT hZ (ww hw 1 rfl)) (mvT hZ (ww hw 2 rfl)) (mvT hZ (ww hw 3 rfl)) (mvT hZ (ww hw 4 rfl)) (by decide) (backOf (W := 2) (rm1 l Z a0 hw [] q2 (3 : Int32) h77 ) hZ (ww hw 4 rfl) (ww hw 3 rfl) (by decide) (by decide)) (g := (mkF m 206 #[vJ q1, .second, vJ q2, .second, vI p3, vI p4, vR b1, .unset, .unset, .unset, .unset, .unset, .unset, .unset, .unset, .unset, .unset, .unset, .unset, .unset, .unset, .unset, .unset, .unset] [iI 3, iJ q2, iI 19, iR b1])) rfl (by rw [hml]; rfl) (argsL := [(.long q2), (.int (3 : Int32))]) (rest := [(.int (19 : Int32)), (.ref b1)]) (lenOf pd_30 rfl) rfl (wz rfl) (hb hby at_206) (fun _ _ => ⟨rfl, e77, (by decide : 1 + 0 ≤ _), (by decide : 20 + 0 ≤ _)⟩)
  dsimp only [Pt.U, Pt.locs, Pt.cells, Pt.slots] at X78 l78 y78 z78 st78 hQ78
  subst l78 y78 z78
  obtain ⟨rfl, rfl, e78⟩ := hQ78
  try rw [List.append_nil] at X78
  obtain ⟨cl79, Ar79, q79, S79, M79, H79, G79⟩ := id V77
  have hin80 : ¬ ((19 : Int32) < 0 ∨ cl79.slots.size ≤ ((19 : Int32)).toNatClampNeg) := inb_of S79 ⟨by decide, by decide⟩
  obtain ⟨T81, h81, X81, e81, W81, st81⟩ := stC X78 hx hZ e78 Ar79 (j := (19 : Int32)) hin80 (g := (mkF m 209 #[vJ q1, .second, vJ q2, .second, vI p3, vI p4, vR b1, .unset, .unset, .unset, .unset, .unset, .unset, .unset, .unset, .unset, .unset, .unset, .unset, .unset, .unset, .unset, .unset, .unset] [iI (own_d q2 (3 : Int32)), iI 19, iR b1])) rfl rfl (hb hby at_209)
  have V81 : Arv Z h81 b1 k1 .char (20 : Int32) [(.int (nar .char (own_d q1 (0 : Int32)))), (.int (nar .char (own_d q1 (1 : Int32)))), (.int (nar .char (own_d q1 (2 : Int32)))), (.int (nar .char (own_d q1 (3 : Int32)))), (.int (nar .char (own_d q1 (4 : Int32)))), (.int (nar .char (own_d q1 (5 : Int32)))), (.int (nar .char (own_d q1 (6 : Int32)))), (.int (nar .char (own_d q1 (7 : Int32)))), (.int (nar .char (own_d q1 (8 : Int32)))), (.int (nar .char (own_d q1 (9 : Int32)))), (.int (nar .char (own_d q1 (10 : Int32)))), (.int (nar .char (own_d q1 (11 : Int32)))), (.int (nar .char (own_d q1 (12 : Int32)))), (.int (nar .char (own_d q1 (13 : Int32)))), (.int (nar .char (own_d q1 (14 : Int32)))), (.int (nar .char (own_d q1 (15 : Int32)))), (.int (nar .char (own_d q2 (0 : Int32)))), (.int (nar .char (own_d q2 (1 : Int32)))), (.int (nar .char (own_d q2 (2 : Int32)))), (.int (nar .char (own_d q2 (3 : Int32))))] (.int (0 : Int32)) := Arv.set Ar79 q79 S79 M79 H79 G79 (fits_nar_char _) W81 19 rfl (Nat.le_of_ble_eq_true rfl)
  have K81 : Keep h0 h81 [] := K77.wr W81 (Or.inr sz_b1)
  have N81 := Fr.snoc X81 N77 g_b1
  obtain ⟨v82, hv82⟩ : ∃ z : Int32, z = ((1 : Int32) + ((((p3.toUInt32 >>> ((2 : Int32) &&& 31).toUInt32).toInt32) &&& (31 : Int32)) % (18 : Int32))) := ⟨_, rfl⟩
  obtain ⟨v83, hv83⟩ : ∃ z : Int32, z = (if (((p3.toUInt32 >>> ((7 : Int32) &&& 31).toUInt32).toInt32) &&& (1 : Int32)) = (0 : Int32) then (0 : Int32) else (if v82 < (2 : Int32) then (0 : Int32) else (1 : Int32))) := ⟨_, rfl⟩
  obtain ⟨T84, X84, e84, st84⟩ : own_Mid X81 h81 (mkF m 239 #[vJ q1, .second, vJ q2, .second, vI p3, vI p4, vR b1, vI ((p3 &&& (3 : Int32)) % (3 : Int32)), vI v82, .unset, .unset, .unset, .unset, .unset, .unset, .unset, .unset, .unset, .unset, .unset, .unset, .unset, .unset, .unset] [iI (((p3.toUInt32 >>> ((7 : Int32) &&& 31).toUInt32).toInt32) &&& (1 : Int32))]) (mkF m 253 #[vJ q1, .second, vJ q2, .second, vI p3, vI p4, vR b1, vI ((p3 &&& (3 : Int32)) % (3 : Int32)), vI v82, .unset, .unset, .unset, .unset, .unset, .unset, .unset, .unset, .unset, .unset, .unset, .unset, .unset, .unset, .unset] [iI v83]) := by
    by_cases hc85 : (((p3.toUInt32 >>> ((7 : Int32) &&& 31).toUInt32).toInt32) &&& (1 : Int32)) = (0 : Int32)
    · refine ⟨T81, X81, e81, fun t kt => ?_⟩
      subst hv83
      simp only [if_pos hc85] at kt
      show SA T81 m 239 #[vJ q1, .second, vJ q2, .second, vI p3, vI p4, vR b1, vI ((p3 &&& (3 : Int32)) % (3 : Int32)), vI v82, .unset, .unset, .unset, .unset, .unset, .unset, .unset, .unset, .unset, .unset, .unset, .unset, .unset, .unset, .unset] [iI (((p3.toUInt32 >>> ((7 : Int32) &&& 31).toUInt32).toInt32) &&& (1 : Int32))]
      refine XS.ifYes X81.here hx rfl (pc0 := 239) (pc' := 252) rfl (hb hby at_239) rfl ((if0 _ _).trans (teq hc85).1) (by decide) (by decide) ?_
      show SA T81 m 252 #[vJ q1, .second, vJ q2, .second, vI p3, vI p4, vR b1, vI ((p3 &&& (3 : Int32)) % (3 : Int32)), vI v82, .unset, .unset, .unset, .unset, .unset, .unset, .unset, .unset, .unset, .unset, .unset, .unset, .unset, .unset, .unset] []
      refine XS.iconst X81.here hx rfl (hb hby at_252) ?_
      exact kt
    · have pre87 : ∀ t, Steps p.tables e below (T81.setTop (mkF m 245 #[vJ q1, .second, vJ q2, .second, vI p3, vI p4, vR b1, vI ((p3 &&& (3 : Int32)) % (3 : Int32)), vI v82, .unset, .unset, .unset, .unset, .unset, .unset, .unset, .unset, .unset, .unset, .unset, .unset, .unset, .unset, .unset] [iI 2, iI v82])) t → Steps p.tables e below (T81.setTop (mkF m 239 #[vJ q1, .second, vJ q2, .second, vI p3, vI p4, vR b1, vI ((p3 &&& (3 : Int32)) % (3 : Int32)), vI v82, .unset, .unset, .unset, .unset, .unset, .unset, .unset, .unset, .unset, .unset, .unset, .unset, .unset, .unset, .unset] [iI (((p3.toUInt32 >>> ((7 : Int32) &&& 31).toUInt32).toInt32) &&& (1 : Int32))])) t := by
        intro t kt
        show SA T81 m 239 #[vJ q1, .second, vJ q2, .second, vI p3, vI p4, vR b1, vI ((p3 &&& (3 : Int32)) % (3 : Int32)), vI v82, .unset, .unset, .unset, .unset, .unset, .unset, .unset, .unset, .unset, .unset, .unset, .unset, .unset, .unset, .unset] [iI (((p3.toUInt32 >>> ((7 : Int32) &&& 31).toUInt32).toInt32) &&& (1 : Int32))]
        refine XS.ifNo X81.here hx rfl (hb hby at_239) rfl ((if0 _ _).trans (feq hc85).1) ?_
        show SA T81 m 242 #[vJ q1, .second, vJ q2, .second, vI p3, vI p4, vR b1, vI ((p3 &&& (3 : Int32)) % (3 : Int32)), vI v82, .unset, .unset, .unset, .unset, .unset, .unset, .unset, .unset, .unset, .unset, .unset, .unset, .unset, .unset, .unset] []
        refine XS.iload X81.here hx rfl (hb hby at_242) rfl ?_
        show SA T81 m 244 #[vJ q1, .second, vJ q2, .second, vI p3, vI p4, vR b1, vI ((p3 &&& (3 : Int32)) % (3 : Int32)), vI v82, .unset, .unset, .unset, .unset, .unset, .unset, .unset, .unset, .unset, .unset, .unset, .unset, .unset, .unset, .unset] [iI v82]
        refine XS.iconst X81.here hx rfl (hb hby at_244) ?_
        exact kt
      by_cases hc86 : v82 < (2 : Int32)
      · refine ⟨T81, X81, e81, fun t kt => ?_⟩
        subst hv83
        simp only [if_neg hc85, if_pos hc86] at kt
        refine pre87 t ?_
        show SA T81 m 245 #[vJ q1, .second, vJ q2, .second, vI p3, vI p4, vR b1, vI ((p3 &&& (3 : Int32)) % (3 : Int32)), vI v82, .unset, .unset, .unset, .unset, .unset, .unset, .unset, .unset, .unset, .unset, .unset, .unset, .unset, .unset, .unset] [iI 2, iI v82]
        refine XS.icmpYes X81.here hx rfl (pc0 := 245) (pc' := 252) rfl (hb hby at_245) rfl (tlt hc86).1 (by decide) (by decide) ?_
        show SA T81 m 252 #[vJ q1, .second, vJ q2, .second, vI p3, vI p4, vR b1, vI ((p3 &&& (3 : Int32)) % (3 : Int32)), vI v82, .unset, .unset, .unset, .unset, .unset, .unset, .unset, .unset, .unset, .unset, .unset, .unset, .unset, .unset, .unset] []
        refine XS.iconst X81.here hx rfl (hb hby at_252) ?_
        exact kt
      · refine ⟨T81, X81, e81, fun t kt => ?_⟩
        subst hv83
        simp only [if_neg hc85, if_neg hc86] at kt
        refine pre87 t ?_
        show SA T81 m 245 #[vJ q1, .second, vJ q2, .second, vI p3, vI p4, vR b1, vI ((p3 &&& (3 : Int32)) % (3 : Int32)), vI v82, .unset, .unset, .unset, .unset, .unset, .unset, .unset, .unset, .unset, .unset, .unset, .unset, .unset, .unset, .unset] [iI 2, iI v82]
        refine XS.icmpNo X81.here hx rfl (hb hby at_245) rfl (flt hc86).1 ?_
        show SA T81 m 248 #[vJ q1, .second, vJ q2, .second, vI p3, vI p4, vR b1, vI ((p3 &&& (3 : Int32)) % (3 : Int32)), vI v82, .unset, .unset, .unset, .unset, .unset, .unset, .unset, .unset, .unset, .unset, .unset, .unset, .unset, .unset, .unset] []
        refine XS.iconst X81.here hx rfl (hb hby at_248) ?_
        show SA T81 m 249 #[vJ q1, .second, vJ q2, .second, vI p3, vI p4, vR b1, vI ((p3 &&& (3 : Int32)) % (3 : Int32)), vI v82, .unset, .unset, .unset, .unset, .unset, .unset, .unset, .unset, .unset, .unset, .unset, .unset, .unset, .unset, .unset] [iI 1]
        refine XS.goto X81.here hx rfl (pc0 := 249) (pc' := 253) rfl (hb hby at_249) (by decide) (by decide) ?_
        exact kt
  obtain ⟨v88, hv88⟩ : ∃ z : Int32, z = (if (((p3.toUInt32 >>> ((8 : Int32) &&& 31).toUInt32).toInt32) &&& (1 : Int32)) = (0 : Int32) then (0 : Int32) else (1 : Int32)) := ⟨_, rfl⟩
  obtain ⟨T89, X89, e89, st89⟩ : own_Mid X84 h81 (mkF m 262 #[vJ q1, .second, vJ q2, .second, vI p3, vI p4, vR b1, vI ((p3 &&& (3 : Int32)) % (3 : Int32)), vI v82, vI v83, .unset, .unset, .unset, .unset, .unset, .unset, .unset, .unset, .unset, .unset, .unset, .unset, .unset, .unset] [iI (((p3.toUInt32 >>> ((8 : Int32) &&& 31).toUInt32).toInt32) &&& (1 : Int32))]) (mkF m 270 #[vJ q1, .second, vJ q2, .second, vI p3, vI p4, vR b1, vI ((p3 &&& (3 : Int32)) % (3 : Int32)), vI v82, vI v83, .unset, .unset, .unset, .unset, .unset, .unset, .unset, .unset, .unset, .unset, .unset, .unset, .unset, .unset] [iI v88]) := by
    by_cases hc90 : (((p3.toUInt32 >>> ((8 : Int32) &&& 31).toUInt32).toInt32) &&& (1 : Int32)) = (0 : Int32)
    · refine ⟨T84, X84, e84, fun t kt => ?_⟩
      subst hv88
      simp only [if_pos hc90] at kt
      show SA T84 m 262 #[vJ q1, .second, vJ q2, .second, vI p3, vI p4, vR b1, vI ((p3 &&& (3 : Int32)) % (3 : Int32)), vI v82, vI v83, .unset, .unset, .unset, .unset, .unset, .unset, .unset, .unset, .unset, .unset, .unset, .unset, .unset, .unset] [iI (((p3.toUInt32 >>> ((8 : Int32) &&& 31).toUInt32).toInt32) &&& (1 : Int32))]
      refine XS.ifYes X84.here hx rfl (pc0 := 262) (pc' := 269) rfl (hb hby at_262) rfl ((if0 _ _).trans (teq hc90).1) (by decide) (by decide) ?_
      show SA T84 m 269 #[vJ q1, .second, vJ q2, .second, vI p3, vI p4, vR b1, vI ((p3 &&& (3 : Int32)) % (3 : Int32)), vI v82, vI v83, .unset, .unset, .unset, .unset, .unset, .unset, .unset, .unset, .unset, .unset, .unset, .unset, .unset, .unset] []
      refine XS.iconst X84.here hx rfl (hb hby at_269) ?_
      exact kt
    · refine ⟨T84, X84, e84, fun t kt => ?_⟩
      subst hv88
      simp only [if_neg hc90] at kt
      show SA T84 m 262 #[vJ q1, .second, vJ q2, .second, vI p3, vI p4, vR b1, vI ((p3 &&& (3 : Int32)) % (3 : Int32)), vI v82, vI v83, .unset, .unset, .unset, .unset, .unset, .unset, .unset, .unset, .unset, .unset, .unset, .unset, .unset, .unset] [iI (((p3.toUInt32 >>> ((8 : Int32) &&& 31).toUInt32).toInt32) &&& (1 : Int32))]
      refine XS.ifNo X84.here hx rfl (hb hby at_262) rfl ((if0 _ _).trans (feq hc90).1) ?_
      show SA T84 m 265 #[vJ q1, .second, vJ q2, .second, vI p3, vI p4, vR b1, vI ((p3 &&& (3 : Int32)) % (3 : Int32)), vI v82, vI v83, .unset, .unset, .unset, .unset, .unset, .unset, .unset, .unset, .unset, .unset, .unset, .unset, .unset, .unset] []
      refine XS.iconst X84.here hx rfl (hb hby at_265) ?_
      show SA T84 m 266 #[vJ q1, .second, vJ q2, .second, vI p3, vI p4, vR b1, vI ((p3 &&& (3 : Int32)) % (3 : Int32)), vI v82, vI v83, .unset, .unset, .unset, .unset, .unset, .unset, .unset, .unset, .unset, .unset, .unset, .unset, .unset, .unset] [iI 1]
      refine XS.goto X84.here hx rfl (pc0 := 266) (pc' := 270) rfl (hb hby at_266) (by decide) (by decide) ?_
      exact kt
  obtain ⟨v91, hv91⟩ : ∃ z : Int32, z = (if (((p3.toUInt32 >>> ((9 : Int32) &&& 31).toUInt32).toInt32) &&& (1 : Int32)) = (0 : Int32) then (101 : Int32) else (69 : Int32)) := ⟨_, rfl⟩
  obtain ⟨T92, X92, e92, st92⟩ : own_Mid X89 h81 (mkF m 279 #[vJ q1, .second, vJ q2, .second, vI p3, vI p4, vR b1, vI ((p3 &&& (3 : Int32)) % (3 : Int32)), vI v82, vI v83, vI v88, .unset, .unset, .unset, .unset, .unset, .unset, .unset, .unset, .unset, .unset, .unset, .unset, .unset] [iI (((p3.toUInt32 >>> ((9 : Int32) &&& 31).toUInt32).toInt32) &&& (1 : Int32))]) (mkF m 289 #[vJ q1, .second, vJ q2, .second, vI p3, vI p4, vR b1, vI ((p3 &&& (3 : Int32)) % (3 : Int32)), vI v82, vI v83, vI v88, .unset, .unset, .unset, .unset, .unset, .unset, .unset, .unset, .unset, .unset, .unset, .unset, .unset] [iI v91]) := by
    by_cases hc93 : (((p3.toUInt32 >>> ((9 : Int32) &&& 31).toUInt32).toInt32) &&& (1 : Int32)) = (0 : Int32)
    · refine ⟨T89, X89, e89, fun t kt => ?_⟩
      subst hv91
      simp only [if_pos hc93] at kt
      show SA T89 m 279 #[vJ q1, .second, vJ q2, .second, vI p3, vI p4, vR b1, vI ((p3 &&& (3 : Int32)) % (3 : Int32)), vI v82, vI v83, vI v88, .unset, .unset, .unset, .unset, .unset, .unset, .unset, .unset, .unset, .unset, .unset, .unset, .unset] [iI (((p3.toUInt32 >>> ((9 : Int32) &&& 31).toUInt32).toInt32) &&& (1 : Int32))]
      refine XS.ifYes X89.here hx rfl (pc0 := 279) (pc' := 287) rfl (hb hby at_279) rfl ((if0 _ _).trans (teq hc93).1) (by decide) (by decide) ?_
      show SA T89 m 287 #[vJ q1, .second, vJ q2, .second, vI p3, vI p4, vR b1, vI ((p3 &&& (3 : Int32)) % (3 : Int32)), vI v82, vI v83, vI v88, .unset, .unset, .unset, .unset, .unset, .unset, .unset, .unset, .unset, .unset, .unset, .unset, .unset] []
      refine XS.bipush X89.here hx rfl (hb hby at_287) ?_
      exact kt
    · refine ⟨T89, X89, e89, fun t kt => ?_⟩
      subst hv91
      simp only [if_neg hc93] at kt
      show SA T89 m 279 #[vJ q1, .second, vJ q2, .second, vI p3, vI p4, vR b1, vI ((p3 &&& (3 : Int32)) % (3 : Int32)), vI v82, vI v83, vI v88, .unset, .unset, .unset, .unset, .unset, .unset, .unset, .unset, .unset, .unset, .unset, .unset, .unset] [iI (((p3.toUInt32 >>> ((9 : Int32) &&& 31).toUInt32).toInt32) &&& (1 : Int32))]
      refine XS.ifNo X89.here hx rfl (hb hby at_279) rfl ((if0 _ _).trans (feq hc93).1) ?_
      show SA T89 m 282 #[vJ q1, .second, vJ q2, .second, vI p3, vI p4, vR b1, vI ((p3 &&& (3 : Int32)) % (3 : Int32)), vI v82, vI v83, vI v88, .unset, .unset, .unset, .unset, .unset, .unset, .unset, .unset, .unset, .unset, .unset, .unset, .unset] []
      refine XS.bipush X89.here hx rfl (hb hby at_282) ?_
      show SA T89 m 284 #[vJ q1, .second, vJ q2, .second, vI p3, vI p4, vR b1, vI ((p3 &&& (3 : Int32)) % (3 : Int32)), vI v82, vI v83, vI v88, .unset, .unset, .unset, .unset, .unset, .unset, .unset, .unset, .unset, .unset, .unset, .unset, .unset] [iI 69]
      refine XS.goto X89.here hx rfl (pc0 := 284) (pc' := 289) rfl (hb hby at_284) (by decide) (by decide) ?_
      exact kt
  obtain ⟨v94, hv94⟩ : ∃ z : Int32, z = (((p3.toUInt32 >>> ((10 : Int32) &&& 31).toUInt32).toInt32) &&& (3 : Int32)) := ⟨_, rfl⟩
  obtain ⟨v95, hv95⟩ : ∃ z : Int32, z = (if (((p3.toUInt32 >>> ((12 : Int32) &&& 31).toUInt32).toInt32) &&& (1 : Int32)) = (0 : Int32) then (0 : Int32) else (1 : Int32)) := ⟨_, rfl⟩
  obtain ⟨T96, X96, e96, st96⟩ : own_Mid X92 h81 (mkF m 307 #[vJ q1, .second, vJ q2, .second, vI p3, vI p4, vR b1, vI ((p3 &&& (3 : Int32)) % (3 : Int32)), vI v82, vI v83, vI v88, vI v91, vI v94, .unset, .unset, .unset, .unset, .unset, .unset, .unset, .unset, .unset, .unset, .unset] [iI (((p3.toUInt32 >>> ((12 : Int32) &&& 31).toUInt32).toInt32) &&& (1 : Int32))]) (mkF m 315 #[vJ q1, .second, vJ q2, .second, vI p3, vI p4, vR b1, vI ((p3 &&& (3 : Int32)) % (3 : Int32)), vI v82, vI v83, vI v88, vI v91, vI v94, .unset, .unset, .unset, .unset, .unset, .unset, .unset, .unset, .unset, .unset, .unset] [iI v95]) := by
    by_cases hc97 : (((p3.toUInt32 >>> ((12 : Int32) &&& 31).toUInt32).toInt32) &&& (1 : Int32)) = (0 : Int32)
    · refine ⟨T92, X92, e92, fun t kt => ?_⟩
      subst hv95
      simp only [if_pos hc97] at kt
      show SA T92 m 307 #[vJ q1, .second, vJ q2, .second, vI p3, vI p4, vR b1, vI ((p3 &&& (3 : Int32)) % (3 : Int32)), vI v82, vI v83, vI v88, vI v91, vI v94, .unset, .unset, .unset, .unset, .unset, .unset, .unset, .unset, .unset, .unset, .unset] [iI (((p3.toUInt32 >>> ((12 : Int32) &&& 31).toUInt32).toInt32) &&& (1 : Int32))]
      refine XS.ifYes X92.here hx rfl (pc0 := 307) (pc' := 314) rfl (hb hby at_307) rfl ((if0 _ _).trans (teq hc97).1) (by decide) (by decide) ?_
      show SA T92 m 314 #[vJ q1, .second, vJ q2, .second, vI p3, vI p4, vR b1, vI ((p3 &&& (3 : Int32)) % (3 : Int32)), vI v82, vI v83, vI v88, vI v91, vI v94, .unset, .unset, .unset, .unset, .unset, .unset, .unset, .unset, .unset, .unset, .unset] []
      refine XS.iconst X92.here hx rfl (hb hby at_314) ?_
      exact kt
    · refine ⟨T92, X92, e92, fun t kt => ?_⟩
      subst hv95
      simp only [if_neg hc97] at kt
      show SA T92 m 307 #[vJ q1, .second, vJ q2, .second, vI p3, vI p4, vR b1, vI ((p3 &&& (3 : Int32)) % (3 : Int32)), vI v82, vI v83, vI v88, vI v91, vI v94, .unset, .unset, .unset, .unset, .unset, .unset, .unset, .unset, .unset, .unset, .unset] [iI (((p3.toUInt32 >>> ((12 : Int32) &&& 31).toUInt32).toInt32) &&& (1 : Int32))]
      refine XS.ifNo X92.here hx rfl (hb hby at_307) rfl ((if0 _ _).trans (feq hc97).1) ?_
      show SA T92 m 310 #[vJ q1, .second, vJ q2, .second, vI p3, vI p4, vR b1, vI ((p3 &&& (3 : Int32)) % (3 : Int32)), vI v82, vI v83, vI v88, vI v91, vI v94, .unset, .unset, .unset, .unset, .unset, .unset, .unset, .unset, .unset, .unset, .unset] []
      refine XS.iconst X92.here hx rfl (hb hby at_310) ?_
      show SA T92 m 311 #[vJ q1, .second, vJ q2, .second, vI p3, vI p4, vR b1, vI ((p3 &&& (3 : Int32)) % (3 : Int32)), vI v82, vI v83, vI v88, vI v91, vI v94, .unset, .unset, .unset, .unset, .unset, .unset, .unset, .unset, .unset, .unset, .unset] [iI 1]
      refine XS.goto X92.here hx rfl (pc0 := 311) (pc' := 315) rfl (hb hby at_311) (by decide) (by decide) ?_
      exact kt
  obtain ⟨v98, hv98⟩ : ∃ z : Int32, z = ((((p4.toUInt32 >>> ((5 : Int32) &&& 31).toUInt32).toInt32) &&& (31 : Int32)) % (18 : Int32)) := ⟨_, rfl⟩
  obtain ⟨v99, hv99⟩ : ∃ z : Int32, z = (if v83 = (0 : Int32) then (0 : Int32) else (1 : Int32)) := ⟨_, rfl⟩
  obtain ⟨T100, X100, e100, st100⟩ : own_Mid X96 h81 (mkF m 341 #[vJ q1, .second, vJ q2, .second, vI p3, vI p4, vR b1, vI ((p3 &&& (3 : Int32)) % (3 : Int32)), vI v82, vI v83, vI v88, vI v91, vI v94, vI v95, vI ((p4 &&& (31 : Int32)) % (18 : Int32)), vI v98, .unset, .unset, .unset, .unset, .unset, .unset, .unset, .unset] [iI v83]) (mkF m 349 #[vJ q1, .second, vJ q2, .second, vI p3, vI p4, vR b1, vI ((p3 &&& (3 : Int32)) % (3 : Int32)), vI v82, vI v83, vI v88, vI v91, vI v94, vI v95, vI ((p4 &&& (31 : Int32)) % (18 : Int32)), vI v98, .unset, .unset, .unset, .unset, .unset, .unset, .unset, .unset] [iI v99]) := by
    by_cases hc101 : v83 = (0 : Int32)
    · refine ⟨T96, X96, e96, fun t kt => ?_⟩
      subst hv99
      simp only [if_pos hc101] at kt
      show SA T96 m 341 #[vJ q1, .second, vJ q2, .second, vI p3, vI p4, vR b1, vI ((p3 &&& (3 : Int32)) % (3 : Int32)), vI v82, vI v83, vI v88, vI v91, vI v94, vI v95, vI ((p4 &&& (31 : Int32)) % (18 : Int32)), vI v98, .unset, .unset, .unset, .unset, .unset, .unset, .unset, .unset] [iI v83]
      refine XS.ifYes X96.here hx rfl (pc0 := 341) (pc' := 348) rfl (hb hby at_341) rfl ((if0 _ _).trans (teq hc101).1) (by decide) (by decide) ?_
      show SA T96 m 348 #[vJ q1, .second, vJ q2, .second, vI p3, vI p4, vR b1, vI ((p3 &&& (3 : Int32)) % (3 : Int32)), vI v82, vI v83, vI v88, vI v91, vI v94, vI v95, vI ((p4 &&& (31 : Int32)) % (18 : Int32)), vI v98, .unset, .unset, .unset, .unset, .unset, .unset, .unset, .unset] []
      refine XS.iconst X96.here hx rfl (hb hby at_348) ?_
      exact kt
    · refine ⟨T96, X96, e96, fun t kt => ?_⟩
      subst hv99
      simp only [if_neg hc101] at kt
      show SA T96 m 341 #[vJ q1, .second, vJ q2, .second, vI p3, vI p4, vR b1, vI ((p3 &&& (3 : Int32)) % (3 : Int32)), vI v82, vI v83, vI v88, vI v91, vI v94, vI v95, vI ((p4 &&& (31 : Int32)) % (18 : Int32)), vI v98, .unset, .unset, .unset, .unset, .unset, .unset, .unset, .unset] [iI v83]
      refine XS.ifNo X96.here hx rfl (hb hby at_341) rfl ((if0 _ _).trans (feq hc101).1) ?_
      show SA T96 m 344 #[vJ q1, .second, vJ q2, .second, vI p3, vI p4, vR b1, vI ((p3 &&& (3 : Int32)) % (3 : Int32)), vI v82, vI v83, vI v88, vI v91, vI v94, vI v95, vI ((p4 &&& (31 : Int32)) % (18 : Int32)), vI v98, .unset, .unset, .unset, .unset, .unset, .unset, .unset, .unset] []
      refine XS.iconst X96.here hx rfl (hb hby at_344) ?_
      show SA T96 m 345 #[vJ q1, .second, vJ q2, .second, vI p3, vI p4, vR b1, vI ((p3 &&& (3 : Int32)) % (3 : Int32)), vI v82, vI v83, vI v88, vI v91, vI v94, vI v95, vI ((p4 &&& (31 : Int32)) % (18 : Int32)), vI v98, .unset, .unset, .unset, .unset, .unset, .unset, .unset, .unset] [iI 1]
      refine XS.goto X96.here hx rfl (pc0 := 345) (pc' := 349) rfl (hb hby at_345) (by decide) (by decide) ?_
      exact kt
  obtain ⟨v102, hv102⟩ : ∃ z : Int32, z = (if v94 = (1 : Int32) then (1 : Int32) else (if v94 = (2 : Int32) then (1 : Int32) else (0 : Int32))) := ⟨_, rfl⟩
  obtain ⟨T103, X103, e103, st103⟩ : own_Mid X100 h81 (mkF m 354 #[vJ q1, .second, vJ q2, .second, vI p3, vI p4, vR b1, vI ((p3 &&& (3 : Int32)) % (3 : Int32)), vI v82, vI v83, vI v88, vI v91, vI v94, vI v95, vI ((p4 &&& (31 : Int32)) % (18 : Int32)), vI v98, vI v99, .unset, .unset, .unset, .unset, .unset, .unset, .unset] [iI 1, iI v94]) (mkF m 368 #[vJ q1, .second, vJ q2, .second, vI p3, vI p4, vR b1, vI ((p3 &&& (3 : Int32)) % (3 : Int32)), vI v82, vI v83, vI v88, vI v91, vI v94, vI v95, vI ((p4 &&& (31 : Int32)) % (18 : Int32)), vI v98, vI v99, .unset, .unset, .unset, .unset, .unset, .unset, .unset] [iI v102]) := by
    by_cases hc104 : v94 = (1 : Int32)
    · refine ⟨T100, X100, e100, fun t kt => ?_⟩
      subst hv102
      simp only [if_pos hc104] at kt
      show SA T100 m 354 #[vJ q1, .second, vJ q2, .second, vI p3, vI p4, vR b1, vI ((p3 &&& (3 : Int32)) % (3 : Int32)), vI v82, vI v83, vI v88, vI v91, vI v94, vI v95, vI ((p4 &&& (31 : Int32)) % (18 : Int32)), vI v98, vI v99, .unset, .unset, .unset, .unset, .unset, .unset, .unset] [iI 1, iI v94]
      refine XS.icmpYes X100.here hx rfl (pc0 := 354) (pc' := 363) rfl (hb hby at_354) rfl (teq hc104).1 (by decide) (by decide) ?_
      show SA T100 m 363 #[vJ q1, .second, vJ q2, .second, vI p3, vI p4, vR b1, vI ((p3 &&& (3 : Int32)) % (3 : Int32)), vI v82, vI v83, vI v88, vI v91, vI v94, vI v95, vI ((p4 &&& (31 : Int32)) % (18 : Int32)), vI v98, vI v99, .unset, .unset, .unset, .unset, .unset, .unset, .unset] []
      refine XS.iconst X100.here hx rfl (hb hby at_363) ?_
      show SA T100 m 364 #[vJ q1, .second, vJ q2, .second, vI p3, vI p4, vR b1, vI ((p3 &&& (3 : Int32)) % (3 : Int32)), vI v82, vI v83, vI v88, vI v91, vI v94, vI v95, vI ((p4 &&& (31 : Int32)) % (18 : Int32)), vI v98, vI v99, .unset, .unset, .unset, .unset, .unset, .unset, .unset] [iI 1]
      refine XS.goto X100.here hx rfl (pc0 := 364) (pc' := 368) rfl (hb hby at_364) (by decide) (by decide) ?_
      exact kt
    · have pre106 : ∀ t, Steps p.tables e below (T100.setTop (mkF m 360 #[vJ q1, .second, vJ q2, .second, vI p3, vI p4, vR b1, vI ((p3 &&& (3 : Int32)) % (3 : Int32)), vI v82, vI v83, vI v88, vI v91, vI v94, vI v95, vI ((p4 &&& (31 : Int32)) % (18 : Int32)), vI v98, vI v99, .unset, .unset, .unset, .unset, .unset, .unset, .unset] [iI 2, iI v94])) t → Steps p.tables e below (T100.setTop (mkF m 354 #[vJ q1, .second, vJ q2, .second, vI p3, vI p4, vR b1, vI ((p3 &&& (3 : Int32)) % (3 : Int32)), vI v82, vI v83, vI v88, vI v91, vI v94, vI v95, vI ((p4 &&& (31 : Int32)) % (18 : Int32)), vI v98, vI v99, .unset, .unset, .unset, .unset, .unset, .unset, .unset] [iI 1, iI v94])) t := by
        intro t kt
        show SA T100 m 354 #[vJ q1, .second, vJ q2, .second, vI p3, vI p4, vR b1, vI ((p3 &&& (3 : Int32)) % (3 : Int32)), vI v82, vI v83, vI v88, vI v91, vI v94, vI v95, vI ((p4 &&& (31 : Int32)) % (18 : Int32)), vI v98, vI v99, .unset, .unset, .unset, .unset, .unset, .unset, .unset] [iI 1, iI v94]
        refine XS.icmpNo X100.here hx rfl (hb hby at_354) rfl (feq hc104).1 ?_
        show SA T100 m 357 #[vJ q1, .second, vJ q2, .second, vI p3, vI p4, vR b1, vI ((p3 &&& (3 : Int32)) % (3 : Int32)), vI v82, vI v83, vI v88, vI v91, vI v94, vI v95, vI ((p4 &&& (31 : Int32)) % (18 : Int32)), vI v98, vI v99, .unset, .unset, .unset, .unset, .unset, .unset, .unset] []
        refine XS.iload X100.here hx rfl (hb hby at_357) rfl ?_
        show SA T100 m 359 #[vJ q1, .second, vJ q2, .second, vI p3, vI p4, vR b1, vI ((p3 &&& (3 : Int32)) % (3 : Int32)), vI v82, vI v83, vI v88, vI v91, vI v94, vI v95, vI ((p4 &&& (31 : Int32)) % (18 : Int32)), vI v98, vI v99, .unset, .unset, .unset, .unset, .unset, .unset, .unset] [iI v94]
        refine XS.iconst X100.here hx rfl (hb hby at_359) ?_
        exact kt
      by_cases hc105 : v94 = (2 : Int32)
      · refine ⟨T100, X100, e100, fun t kt => ?_⟩
        subst hv102
        simp only [if_neg hc104, if_pos hc105] at kt
        refine pre106 t ?_
        show SA T100 m 360 #[vJ q1, .second, vJ q2, .second, vI p3, vI p4, vR b1, vI ((p3 &&& (3 : Int32)) % (3 : Int32)), vI v82, vI v83, vI v88, vI v91, vI v94, vI v95, vI ((p4 &&& (31 : Int32)) % (18 : Int32)), vI v98, vI v99, .unset, .unset, .unset, .unset, .unset, .unset, .unset] [iI 2, iI v94]
        refine XS.icmpNo X100.here hx rfl (hb hby at_360) rfl (teq hc105).2 ?_
        show SA T100 m 363 #[vJ q1, .second, vJ q2, .second, vI p3, vI p4, vR b1, vI ((p3 &&& (3 : Int32)) % (3 : Int32)), vI v82, vI v83, vI v88, vI v91, vI v94, vI v95, vI ((p4 &&& (31 : Int32)) % (18 : Int32)), vI v98, vI v99, .unset, .unset, .unset, .unset, .unset, .unset, .unset] []
        refine XS.iconst X100.here hx rfl (hb hby at_363) ?_
        show SA T100 m 364 #[vJ q1, .second, vJ q2, .second, vI p3, vI p4, vR b1, vI ((p3 &&& (3 : Int32)) % (3 : Int32)), vI v82, vI v83, vI v88, vI v91, vI v94, vI v95, vI ((p4 &&& (31 : Int32)) % (18 : Int32)), vI v98, vI v99, .unset, .unset, .unset, .unset, .unset, .unset, .unset] [iI 1]
        refine XS.goto X100.here hx rfl (pc0 := 364) (pc' := 368) rfl (hb hby at_364) (by decide) (by decide) ?_
        exact kt
      · refine ⟨T100, X100, e100, fun t kt => ?_⟩
        subst hv102
        simp only [if_neg hc104, if_neg hc105] at kt
        refine pre106 t ?_
        show SA T100 m 360 #[vJ q1, .second, vJ q2, .second, vI p3, vI p4, vR b1, vI ((p3 &&& (3 : Int32)) % (3 : Int32)), vI v82, vI v83, vI v88, vI v91, vI v94, vI v95, vI ((p4 &&& (31 : Int32)) % (18 : Int32)), vI v98, vI v99, .unset, .unset, .unset, .unset, .unset, .unset, .unset] [iI 2, iI v94]
        refine XS.icmpYes X100.here hx rfl (pc0 := 360) (pc' := 367) rfl (hb hby at_360) rfl (feq hc105).2 (by decide) (by decide) ?_
        show SA T100 m 367 #[vJ q1, .second, vJ q2, .second, vI p3, vI p4, vR b1, vI ((p3 &&& (3 : Int32)) % (3 : Int32)), vI v82, vI v83, vI v88, vI v91, vI v94, vI v95, vI ((p4 &&& (31 : Int32)) % (18 : Int32)), vI v98, vI v99, .unset, .unset, .unset, .unset, .unset, .unset, .unset] []
        refine XS.iconst X100.here hx rfl (hb hby at_367) ?_
        exact kt
  obtain ⟨v107, hv107⟩ : ∃ z : Int32, z = (if v88 = (0 : Int32) then (0 : Int32) else (if ((p4 &&& (31 : Int32)) % (18 : Int32)) < (v99 + (1 : Int32)) then (0 : Int32) else (if v82 < ((((p4 &&& (31 : Int32)) % (18 : Int32)) + v102) + (2 : Int32)) then (0 : Int32) else (1 : Int32)))) := ⟨_, rfl⟩
  obtain ⟨T108, X108, e108, st108⟩ : own_Mid X103 h81 (mkF m 372 #[vJ q1, .second, vJ q2, .second, vI p3, vI p4, vR b1, vI ((p3 &&& (3 : Int32)) % (3 : Int32)), vI v82, vI v83, vI v88, vI v91, vI v94, vI v95, vI ((p4 &&& (31 : Int32)) % (18 : Int32)), vI v98, vI v99, vI v102, .unset, .unset, .unset, .unset, .unset, .unset] [iI v88]) (mkF m 401 #[vJ q1, .second, vJ q2, .second, vI p3, vI p4, vR b1, vI ((p3 &&& (3 : Int32)) % (3 : Int32)), vI v82, vI v83, vI v88, vI v91, vI v94, vI v95, vI ((p4 &&& (31 : Int32)) % (18 : Int32)), vI v98, vI v99, vI v102, .unset, .unset, .unset, .unset, .unset, .unset] [iI v107]) := by
    by_cases hc109 : v88 = (0 : Int32)
    · refine ⟨T103, X103, e103, fun t kt => ?_⟩
      subst hv107
      simp only [if_pos hc109] at kt
      show SA T103 m 372 #[vJ q1, .second, vJ q2, .second, vI p3, vI p4, vR b1, vI ((p3 &&& (3 : Int32)) % (3 : Int32)), vI v82, vI v83, vI v88, vI v91, vI v94, vI v95, vI ((p4 &&& (31 : Int32)) % (18 : Int32)), vI v98, vI v99, vI v102, .unset, .unset, .unset, .unset, .unset, .unset] [iI v88]
      refine XS.ifYes X103.here hx rfl (pc0 := 372) (pc' := 400) rfl (hb hby at_372) rfl ((if0 _ _).trans (teq hc109).1) (by decide) (by decide) ?_
      show SA T103 m 400 #[vJ q1, .second, vJ q2, .second, vI p3, vI p4, vR b1, vI ((p3 &&& (3 : Int32)) % (3 : Int32)), vI v82, vI v83, vI v88, vI v91, vI v94, vI v95, vI ((p4 &&& (31 : Int32)) % (18 : Int32)), vI v98, vI v99, vI v102, .unset, .unset, .unset, .unset, .unset, .unset] []
      refine XS.iconst X103.here hx rfl (hb hby at_400) ?_
      exact kt
    · have pre111 : ∀ t, Steps p.tables e below (T103.setTop (mkF m 381 #[vJ q1, .second, vJ q2, .second, vI p3, vI p4, vR b1, vI ((p3 &&& (3 : Int32)) % (3 : Int32)), vI v82, vI v83, vI v88, vI v91, vI v94, vI v95, vI ((p4 &&& (31 : Int32)) % (18 : Int32)), vI v98, vI v99, vI v102, .unset, .unset, .unset, .unset, .unset, .unset] [iI (v99 + (1 : Int32)), iI ((p4 &&& (31 : Int32)) % (18 : Int32))])) t → Steps p.tables e below (T103.setTop (mkF m 372 #[vJ q1, .second, vJ q2, .second, vI p3, vI p4, vR b1, vI ((p3 &&& (3 : Int32)) % (3 : Int32)), vI v82, vI v83, vI v88, vI v91, vI v94, vI v95, vI ((p4 &&& (31 : Int32)) % (18 : Int32)), vI v98, vI v99, vI v102, .unset, .unset, .unset, .unset, .unset, .unset] [iI v88])) t := by
        intro t kt
        show SA T103 m 372 #[vJ q1, .second, vJ q2, .second, vI p3, vI p4, vR b1, vI ((p3 &&& (3 : Int32)) % (3 : Int32)), vI v82, vI v83, vI v88, vI v91, vI v94, vI v95, vI ((p4 &&& (31 : Int32)) % (18 : Int32)), vI v98, vI v99, vI v102, .unset, .unset, .unset, .unset, .unset, .unset] [iI v88]
        refine XS.ifNo X103.here hx rfl (hb hby at_372) rfl ((if0 _ _).trans (feq hc109).1) ?_
        show SA T103 m 375 #[vJ q1, .second, vJ q2, .second, vI p3, vI p4, vR b1, vI ((p3 &&& (3 : Int32)) % (3 : Int32)), vI v82, vI v83, vI v88, vI v91, vI v94, vI v95, vI ((p4 &&& (31 : Int32)) % (18 : Int32)), vI v98, vI v99, vI v102, .unset, .unset, .unset, .unset, .unset, .unset] []
        refine XS.iload X103.here hx rfl (hb hby at_375) rfl ?_
        show SA T103 m 377 #[vJ q1, .second, vJ q2, .second, vI p3, vI p4, vR b1, vI ((p3 &&& (3 : Int32)) % (3 : Int32)), vI v82, vI v83, vI v88, vI v91, vI v94, vI v95, vI ((p4 &&& (31 : Int32)) % (18 : Int32)), vI v98, vI v99, vI v102, .unset, .unset, .unset, .unset, .unset, .unset] [iI ((p4 &&& (31 : Int32)) % (18 : Int32))]
        refine XS.iload X103.here hx rfl (hb hby at_377) rfl ?_
        show SA T103 m 379 #[vJ q1, .second, vJ q2, .second, vI p3, vI p4, vR b1, vI ((p3 &&& (3 : Int32)) % (3 : Int32)), vI v82, vI v83, vI v88, vI v91, vI v94, vI v95, vI ((p4 &&& (31 : Int32)) % (18 : Int32)), vI v98, vI v99, vI v102, .unset, .unset, .unset, .unset, .unset, .unset] [iI v99, iI ((p4 &&& (31 : Int32)) % (18 : Int32))]
        refine XS.iconst X103.here hx rfl (hb hby at_379) ?_
        show SA T103 m 380 #[vJ q1, .second, vJ q2, .second, vI p3, vI p4, vR b1, vI ((p3 &&& (3 : Int32)) % (3 : Int32)), vI v82, vI v83, vI v88, vI v91, vI v94, vI v95, vI ((p4 &&& (31 : Int32)) % (18 : Int32)), vI v98, vI v99, vI v102, .unset, .unset, .unset, .unset, .unset, .unset] [iI 1, iI v99, iI ((p4 &&& (31 : Int32)) % (18 : Int32))]
        refine XS.iadd X103.here hx rfl (hb hby at_380) rfl ?_
        exact kt
      by_cases hc110 : ((p4 &&& (31 : Int32)) % (18 : Int32)) < (v99 + (1 : Int32))
      · refine ⟨T103, X103, e103, fun t kt => ?_⟩
        subst hv107
        simp only [if_neg hc109, if_pos hc110] at kt
        refine pre111 t ?_
        show SA T103 m 381 #[vJ q1, .second, vJ q2, .second, vI p3, vI p4, vR b1, vI ((p3 &&& (3 : Int32)) % (3 : Int32)), vI v82, vI v83, vI v88, vI v91, vI v94, vI v95, vI ((p4 &&& (31 : Int32)) % (18 : Int32)), vI v98, vI v99, vI v102, .unset, .unset, .unset, .unset, .unset, .unset] [iI (v99 + (1 : Int32)), iI ((p4 &&& (31 : Int32)) % (18 : Int32))]
        refine XS.icmpYes X103.here hx rfl (pc0 := 381) (pc' := 400) rfl (hb hby at_381) rfl (tlt hc110).1 (by decide) (by decide) ?_
        show SA T103 m 400 #[vJ q1, .second, vJ q2, .second, vI p3, vI p4, vR b1, vI ((p3 &&& (3 : Int32)) % (3 : Int32)), vI v82, vI v83, vI v88, vI v91, vI v94, vI v95, vI ((p4 &&& (31 : Int32)) % (18 : Int32)), vI v98, vI v99, vI v102, .unset, .unset, .unset, .unset, .unset, .unset] []
        refine XS.iconst X103.here hx rfl (hb hby at_400) ?_
        exact kt
      · have pre113 : ∀ t, Steps p.tables e below (T103.setTop (mkF m 393 #[vJ q1, .second, vJ q2, .second, vI p3, vI p4, vR b1, vI ((p3 &&& (3 : Int32)) % (3 : Int32)), vI v82, vI v83, vI v88, vI v91, vI v94, vI v95, vI ((p4 &&& (31 : Int32)) % (18 : Int32)), vI v98, vI v99, vI v102, .unset, .unset, .unset, .unset, .unset, .unset] [iI v82, iI ((((p4 &&& (31 : Int32)) % (18 : Int32)) + v102) + (2 : Int32))])) t → Steps p.tables e below (T103.setTop (mkF m 372 #[vJ q1, .second, vJ q2, .second, vI p3, vI p4, vR b1, vI ((p3 &&& (3 : Int32)) % (3 : Int32)), vI v82, vI v83, vI v88, vI v91, vI v94, vI v95, vI ((p4 &&& (31 : Int32)) % (18 : Int32)), vI v98, vI v99, vI v102, .unset, .unset, .unset, .unset, .unset, .unset] [iI v88])) t := by
          intro t kt
          refine pre111 t ?_
          show SA T103 m 381 #[vJ q1, .second, vJ q2, .second, vI p3, vI p4, vR b1, vI ((p3 &&& (3 : Int32)) % (3 : Int32)), vI v82, vI v83, vI v88, vI v91, vI v94, vI v95, vI ((p4 &&& (31 : Int32)) % (18 : Int32)), vI v98, vI v99, vI v102, .unset, .unset, .unset, .unset, .unset, .unset] [iI (v99 + (1 : Int32)), iI ((p4 &&& (31 : Int32)) % (18 : Int32))]
          refine XS.icmpNo X103.here hx rfl (hb hby at_381) rfl (flt hc110).1 ?_
          show SA T103 m 384 #[vJ q1, .second, vJ q2, .second, vI p3, vI p4, vR b1, vI ((p3 &&& (3 : Int32)) % (3 : Int32)), vI v82, vI v83, vI v88, vI v91, vI v94, vI v95, vI ((p4 &&& (31 : Int32)) % (18 : Int32)), vI v98, vI v99, vI v102, .unset, .unset, .unset, .unset, .unset, .unset] []
          refine XS.iload X103.here hx rfl (hb hby at_384) rfl ?_
          show SA T103 m 386 #[vJ q1, .second, vJ q2, .second, vI p3, vI p4, vR b1, vI ((p3 &&& (3 : Int32)) % (3 : Int32)), vI v82, vI v83, vI v88, vI v91, vI v94, vI v95, vI ((p4 &&& (31 : Int32)) % (18 : Int32)), vI v98, vI v99, vI v102, .unset, .unset, .unset, .unset, .unset, .unset] [iI ((p4 &&& (31 : Int32)) % (18 : Int32))]
          refine XS.iload X103.here hx rfl (hb hby at_386) rfl ?_
          show SA T103 m 388 #[vJ q1, .second, vJ q2, .second, vI p3, vI p4, vR b1, vI ((p3 &&& (3 : Int32)) % (3 : Int32)), vI v82, vI v83, vI v88, vI v91, vI v94, vI v95, vI ((p4 &&& (31 : Int32)) % (18 : Int32)), vI v98, vI v99, vI v102, .unset, .unset, .unset, .unset, .unset, .unset] [iI v102, iI ((p4 &&& (31 : Int32)) % (18 : Int32))]
          refine XS.iadd X103.here hx rfl (hb hby at_388) rfl ?_
          show SA T103 m 389 #[vJ q1, .second, vJ q2, .second, vI p3, vI p4, vR b1, vI ((p3 &&& (3 : Int32)) % (3 : Int32)), vI v82, vI v83, vI v88, vI v91, vI v94, vI v95, vI ((p4 &&& (31 : Int32)) % (18 : Int32)), vI v98, vI v99, vI v102, .unset, .unset, .unset, .unset, .unset, .unset] [iI (((p4 &&& (31 : Int32)) % (18 : Int32)) + v102)]
          refine XS.iconst X103.here hx rfl (hb hby at_389) ?_
          show SA T103 m 390 #[vJ q1, .second, vJ q2, .second, vI p3, vI p4, vR b1, vI ((p3 &&& (3 : Int32)) % (3 : Int32)), vI v82, vI v83, vI v88, vI v91, vI v94, vI v95, vI ((p4 &&& (31 : Int32)) % (18 : Int32)), vI v98, vI v99, vI v102, .unset, .unset, .unset, .unset, .unset, .unset] [iI 2, iI (((p4 &&& (31 : Int32)) % (18 : Int32)) + v102)]
          refine XS.iadd X103.here hx rfl (hb hby at_390) rfl ?_
          show SA T103 m 391 #[vJ q1, .second, vJ q2, .second, vI p3, vI p4, vR b1, vI ((p3 &&& (3 : Int32)) % (3 : Int32)), vI v82, vI v83, vI v88, vI v91, vI v94, vI v95, vI ((p4 &&& (31 : Int32)) % (18 : Int32)), vI v98, vI v99, vI v102, .unset, .unset, .unset, .unset, .unset, .unset] [iI ((((p4 &&& (31 : Int32)) % (18 : Int32)) + v102) + (2 : Int32))]
          refine XS.iload X103.here hx rfl (hb hby at_391) rfl ?_
          exact kt
        by_cases hc112 : v82 < ((((p4 &&& (31 : Int32)) % (18 : Int32)) + v102) + (2 : Int32))
        · refine ⟨T103, X103, e103, fun t kt => ?_⟩
          subst hv107
          simp only [if_neg hc109, if_neg hc110, if_pos hc112] at kt
          refine pre113 t ?_
          show SA T103 m 393 #[vJ q1, .second, vJ q2, .second, vI p3, vI p4, vR b1, vI ((p3 &&& (3 : Int32)) % (3 : Int32)), vI v82, vI v83, vI v88, vI v91, vI v94, vI v95, vI ((p4 &&& (31 : Int32)) % (18 : Int32)), vI v98, vI v99, vI v102, .unset, .unset, .unset, .unset, .unset, .unset] [iI v82, iI ((((p4 &&& (31 : Int32)) % (18 : Int32)) + v102) + (2 : Int32))]
          refine XS.icmpYes X103.here hx rfl (pc0 := 393) (pc' := 400) rfl (hb hby at_393) rfl (tlt hc112).2.2.1 (by decide) (by decide) ?_
          show SA T103 m 400 #[vJ q1, .second, vJ q2, .second, vI p3, vI p4, vR b1, vI ((p3 &&& (3 : Int32)) % (3 : Int32)), vI v82, vI v83, vI v88, vI v91, vI v94, vI v95, vI ((p4 &&& (31 : Int32)) % (18 : Int32)), vI v98, vI v99, vI v102, .unset, .unset, .unset, .unset, .unset, .unset] []
          refine XS.iconst X103.here hx rfl (hb hby at_400) ?_
          exact kt
        · refine ⟨T103, X103, e103, fun t kt => ?_⟩
          subst hv107
          simp only [if_neg hc109, if_neg hc110, if_neg hc112] at kt
          refine pre113 t ?_
          show SA T103 m 393 #[vJ q1, .second, vJ q2, .second, vI p3, vI p4, vR b1, vI ((p3 &&& (3 : Int32)) % (3 : Int32)), vI v82, vI v83, vI v88, vI v91, vI v94, vI v95, vI ((p4 &&& (31 : Int32)) % (18 : Int32)), vI v98, vI v99, vI v102, .unset, .unset, .unset, .unset, .unset, .unset] [iI v82, iI ((((p4 &&& (31 : Int32)) % (18 : Int32)) + v102) + (2 : Int32))]
          refine XS.icmpNo X103.here hx rfl (hb hby at_393) rfl (flt hc112).2.2.1 ?_
          show SA T103 m 396 #[vJ q1, .second, vJ q2, .second, vI p3, vI p4, vR b1, vI ((p3 &&& (3 : Int32)) % (3 : Int32)), vI v82, vI v83, vI v88, vI v91, vI v94, vI v95, vI ((p4 &&& (31 : Int32)) % (18 : Int32)), vI v98, vI v99, vI v102, .unset, .unset, .unset, .unset, .unset, .unset] []
          refine XS.iconst X103.here hx rfl (hb hby at_396) ?_
          show SA T103 m 397 #[vJ q1, .second, vJ q2, .second, vI p3, vI p4, vR b1, vI ((p3 &&& (3 : Int32)) % (3 : Int32)), vI v82, vI v83, vI v88, vI v91, vI v94, vI v95, vI ((p4 &&& (31 : Int32)) % (18 : Int32)), vI v98, vI v99, vI v102, .unset, .unset, .unset, .unset, .unset, .unset] [iI 1]
          refine XS.goto X103.here hx rfl (pc0 := 397) (pc' := 401) rfl (hb hby at_397) (by decide) (by decide) ?_
          exact kt
  obtain ⟨v114, hv114⟩ : ∃ z : Int32, z = (if v107 = (0 : Int32) then v82 else ((p4 &&& (31 : Int32)) % (18 : Int32))) := ⟨_, rfl⟩
  obtain ⟨T115, X115, e115, st115⟩ : own_Mid X108 h81 (mkF m 405 #[vJ q1, .second, vJ q2, .second, vI p3, vI p4, vR b1, vI ((p3 &&& (3 : Int32)) % (3 : Int32)), vI v82, vI v83, vI v88, vI v91, vI v94, vI v95, vI ((p4 &&& (31 : Int32)) % (18 : Int32)), vI v98, vI v99, vI v102, vI v107, .unset, .unset, .unset, .unset, .unset] [iI v107]) (mkF m 415 #[vJ q1, .second, vJ q2, .second, vI p3, vI p4, vR b1, vI ((p3 &&& (3 : Int32)) % (3 : Int32)), vI v82, vI v83, vI v88, vI v91, vI v94, vI v95, vI ((p4 &&& (31 : Int32)) % (18 : Int32)), vI v98, vI v99, vI v102, vI v107, .unset, .unset, .unset, .unset, .unset] [iI v114]) := by
    by_cases hc116 : v107 = (0 : Int32)
    · refine ⟨T108, X108, e108, fun t kt => ?_⟩
      subst hv114
      simp only [if_pos hc116] at kt
      show SA T108 m 405 #[vJ q1, .second, vJ q2, .second, vI p3, vI p4, vR b1, vI ((p3 &&& (3 : Int32)) % (3 : Int32)), vI v82, vI v83, vI v88, vI v91, vI v94, vI v95, vI ((p4 &&& (31 : Int32)) % (18 : Int32)), vI v98, vI v99, vI v102, vI v107, .unset, .unset, .unset, .unset, .unset] [iI v107]
      refine XS.ifYes X108.here hx rfl (pc0 := 405) (pc' := 413) rfl (hb hby at_405) rfl ((if0 _ _).trans (teq hc116).1) (by decide) (by decide) ?_
      show SA T108 m 413 #[vJ q1, .second, vJ q2, .second, vI p3, vI p4, vR b1, vI ((p3 &&& (3 : Int32)) % (3 : Int32)), vI v82, vI v83, vI v88, vI v91, vI v94, vI v95, vI ((p4 &&& (31 : Int32)) % (18 : Int32)), vI v98, vI v99, vI v102, vI v107, .unset, .unset, .unset, .unset, .unset] []
      refine XS.iload X108.here hx rfl (hb hby at_413) rfl ?_
      exact kt
    · refine ⟨T108, X108, e108, fun t kt => ?_⟩
      subst hv114
      simp only [if_neg hc116] at kt
      show SA T108 m 405 #[vJ q1, .second, vJ q2, .second, vI p3, vI p4, vR b1, vI ((p3 &&& (3 : Int32)) % (3 : Int32)), vI v82, vI v83, vI v88, vI v91, vI v94, vI v95, vI ((p4 &&& (31 : Int32)) % (18 : Int32)), vI v98, vI v99, vI v102, vI v107, .unset, .unset, .unset, .unset, .unset] [iI v107]
      refine XS.ifNo X108.here hx rfl (hb hby at_405) rfl ((if0 _ _).trans (feq hc116).1) ?_
      show SA T108 m 408 #[vJ q1, .second, vJ q2, .second, vI p3, vI p4, vR b1, vI ((p3 &&& (3 : Int32)) % (3 : Int32)), vI v82, vI v83, vI v88, vI v91, vI v94, vI v95, vI ((p4 &&& (31 : Int32)) % (18 : Int32)), vI v98, vI v99, vI v102, vI v107, .unset, .unset, .unset, .unset, .unset] []
      refine XS.iload X108.here hx rfl (hb hby at_408) rfl ?_
      show SA T108 m 410 #[vJ q1, .second, vJ q2, .second, vI p3, vI p4, vR b1, vI ((p3 &&& (3 : Int32)) % (3 : Int32)), vI v82, vI v83, vI v88, vI v91, vI v94, vI v95, vI ((p4 &&& (31 : Int32)) % (18 : Int32)), vI v98, vI v99, vI v102, vI v107, .unset, .unset, .unset, .unset, .unset] [iI ((p4 &&& (31 : Int32)) % (18 : Int32))]
      refine XS.goto X108.here hx rfl (pc0 := 410) (pc' := 415) rfl (hb hby at_410) (by decide) (by decide) ?_
      exact kt
  obtain ⟨v117, hv117⟩ : ∃ z : Int32, z = (if v95 = (0 : Int32) then (0 : Int32) else (if v98 < (v99 + (1 : Int32)) then (0 : Int32) else (if v114 < (v98 + (2 : Int32)) then (0 : Int32) else (1 : Int32)))) := ⟨_, rfl⟩
  obtain ⟨T118, X118, e118, st118⟩ : own_Mid X115 h81 (mkF m 419 #[vJ q1, .second, vJ q2, .second, vI p3, vI p4, vR b1, vI ((p3 &&& (3 : Int32)) % (3 : Int32)), vI v82, vI v83, vI v88, vI v91, vI v94, vI v95, vI ((p4 &&& (31 : Int32)) % (18 : Int32)), vI v98, vI v99, vI v102, vI v107, vI v114, .unset, .unset, .unset, .unset] [iI v95]) (mkF m 445 #[vJ q1, .second, vJ q2, .second, vI p3, vI p4, vR b1, vI ((p3 &&& (3 : Int32)) % (3 : Int32)), vI v82, vI v83, vI v88, vI v91, vI v94, vI v95, vI ((p4 &&& (31 : Int32)) % (18 : Int32)), vI v98, vI v99, vI v102, vI v107, vI v114, .unset, .unset, .unset, .unset] [iI v117]) := by
    by_cases hc119 : v95 = (0 : Int32)
    · refine ⟨T115, X115, e115, fun t kt => ?_⟩
      subst hv117
      simp only [if_pos hc119] at kt
      show SA T115 m 419 #[vJ q1, .second, vJ q2, .second, vI p3, vI p4, vR b1, vI ((p3 &&& (3 : Int32)) % (3 : Int32)), vI v82, vI v83, vI v88, vI v91, vI v94, vI v95, vI ((p4 &&& (31 : Int32)) % (18 : Int32)), vI v98, vI v99, vI v102, vI v107, vI v114, .unset, .unset, .unset, .unset] [iI v95]
      refine XS.ifYes X115.here hx rfl (pc0 := 419) (pc' := 444) rfl (hb hby at_419) rfl ((if0 _ _).trans (teq hc119).1) (by decide) (by decide) ?_
      show SA T115 m 444 #[vJ q1, .second, vJ q2, .second, vI p3, vI p4, vR b1, vI ((p3 &&& (3 : Int32)) % (3 : Int32)), vI v82, vI v83, vI v88, vI v91, vI v94, vI v95, vI ((p4 &&& (31 : Int32)) % (18 : Int32)), vI v98, vI v99, vI v102, vI v107, vI v114, .unset, .unset, .unset, .unset] []
      refine XS.iconst X115.here hx rfl (hb hby at_444) ?_
      exact kt
    · have pre121 : ∀ t, Steps p.tables e below (T115.setTop (mkF m 428 #[vJ q1, .second, vJ q2, .second, vI p3, vI p4, vR b1, vI ((p3 &&& (3 : Int32)) % (3 : Int32)), vI v82, vI v83, vI v88, vI v91, vI v94, vI v95, vI ((p4 &&& (31 : Int32)) % (18 : Int32)), vI v98, vI v99, vI v102, vI v107, vI v114, .unset, .unset, .unset, .unset] [iI (v99 + (1 : Int32)), iI v98])) t → Steps p.tables e below (T115.setTop (mkF m 419 #[vJ q1, .second, vJ q2, .second, vI p3, vI p4, vR b1, vI ((p3 &&& (3 : Int32)) % (3 : Int32)), vI v82, vI v83, vI v88, vI v91, vI v94, vI v95, vI ((p4 &&& (31 : Int32)) % (18 : Int32)), vI v98, vI v99, vI v102, vI v107, vI v114, .unset, .unset, .unset, .unset] [iI v95])) t := by
        intro t kt
        show SA T115 m 419 #[vJ q1, .second, vJ q2, .second, vI p3, vI p4, vR b1, vI ((p3 &&& (3 : Int32)) % (3 : Int32)), vI v82, vI v83, vI v88, vI v91, vI v94, vI v95, vI ((p4 &&& (31 : Int32)) % (18 : Int32)), vI v98, vI v99, vI v102, vI v107, vI v114, .unset, .unset, .unset, .unset] [iI v95]
        refine XS.ifNo X115.here hx rfl (hb hby at_419) rfl ((if0 _ _).trans (feq hc119).1) ?_
        show SA T115 m 422 #[vJ q1, .second, vJ q2, .second, vI p3, vI p4, vR b1, vI ((p3 &&& (3 : Int32)) % (3 : Int32)), vI v82, vI v83, vI v88, vI v91, vI v94, vI v95, vI ((p4 &&& (31 : Int32)) % (18 : Int32)), vI v98, vI v99, vI v102, vI v107, vI v114, .unset, .unset, .unset, .unset] []
        refine XS.iload X115.here hx rfl (hb hby at_422) rfl ?_
        show SA T115 m 424 #[vJ q1, .second, vJ q2, .second, vI p3, vI p4, vR b1, vI ((p3 &&& (3 : Int32)) % (3 : Int32)), vI v82, vI v83, vI v88, vI v91, vI v94, vI v95, vI ((p4 &&& (31 : Int32)) % (18 : Int32)), vI v98, vI v99, vI v102, vI v107, vI v114, .unset, .unset, .unset, .unset] [iI v98]
        refine XS.iload X115.here hx rfl (hb hby at_424) rfl ?_
        show SA T115 m 426 #[vJ q1, .second, vJ q2, .second, vI p3, vI p4, vR b1, vI ((p3 &&& (3 : Int32)) % (3 : Int32)), vI v82, vI v83, vI v88, vI v91, vI v94, vI v95, vI ((p4 &&& (31 : Int32)) % (18 : Int32)), vI v98, vI v99, vI v102, vI v107, vI v114, .unset, .unset, .unset, .unset] [iI v99, iI v98]
        refine XS.iconst X115.here hx rfl (hb hby at_426) ?_
        show SA T115 m 427 #[vJ q1, .second, vJ q2, .second, vI p3, vI p4, vR b1, vI ((p3 &&& (3 : Int32)) % (3 : Int32)), vI v82, vI v83, vI v88, vI v91, vI v94, vI v95, vI ((p4 &&& (31 : Int32)) % (18 : Int32)), vI v98, vI v99, vI v102, vI v107, vI v114, .unset, .unset, .unset, .unset] [iI 1, iI v99, iI v98]
        refine XS.iadd X115.here hx rfl (hb hby at_427) rfl ?_
        exact kt
      by_cases hc120 : v98 < (v99 + (1 : Int32))
      · refine ⟨T115, X115, e115, fun t kt => ?_⟩
        subst hv117
        simp only [if_neg hc119, if_pos hc120] at kt
        refine pre121 t ?_
        show SA T115 m 428 #[vJ q1, .second, vJ q2, .second, vI p3, vI p4, vR b1, vI ((p3 &&& (3 : Int32)) % (3 : Int32)), vI v82, vI v83, vI v88, vI v91, vI v94, vI v95, vI ((p4 &&& (31 : Int32)) % (18 : Int32)), vI v98, vI v99, vI v102, vI v107, vI v114, .unset, .unset, .unset, .unset] [iI (v99 + (1 : Int32)), iI v98]
        refine XS.icmpYes X115.here hx rfl (pc0 := 428) (pc' := 444) rfl (hb hby at_428) rfl (tlt hc120).1 (by decide) (by decide) ?_
        show SA T115 m 444 #[vJ q1, .second, vJ q2, .second, vI p3, vI p4, vR b1, vI ((p3 &&& (3 : Int32)) % (3 : Int32)), vI v82, vI v83, vI v88, vI v91, vI v94, vI v95, vI ((p4 &&& (31 : Int32)) % (18 : Int32)), vI v98, vI v99, vI v102, vI v107, vI v114, .unset, .unset, .unset, .unset] []
        refine XS.iconst X115.here hx rfl (hb hby at_444) ?_
        exact kt
      · have pre123 : ∀ t, Steps p.tables e below (T115.setTop (mkF m 437 #[vJ q1, .second, vJ q2, .second, vI p3, vI p4, vR b1, vI ((p3 &&& (3 : Int32)) % (3 : Int32)), vI v82, vI v83, vI v88, vI v91, vI v94, vI v95, vI ((p4 &&& (31 : Int32)) % (18 : Int32)), vI v98, vI v99, vI v102, vI v107, vI v114, .unset, .unset, .unset, .unset] [iI v114, iI (v98 + (2 : Int32))])) t → Steps p.tables e below (T115.setTop (mkF m 419 #[vJ q1, .second, vJ q2, .second, vI p3, vI p4, vR b1, vI ((p3 &&& (3 : Int32)) % (3 : Int32)), vI v82, vI v83, vI v88, vI v91, vI v94, vI v95, vI ((p4 &&& (31 : Int32)) % (18 : Int32)), vI v98, vI v99, vI v102, vI v107, vI v114, .unset, .unset, .unset, .unset] [iI v95])) t := by
          intro t kt
          refine pre121 t ?_
          show SA T115 m 428 #[vJ q1, .second, vJ q2, .second, vI p3, vI p4, vR b1, vI ((p3 &&& (3 : Int32)) % (3 : Int32)), vI v82, vI v83, vI v88, vI v91, vI v94, vI v95, vI ((p4 &&& (31 : Int32)) % (18 : Int32)), vI v98, vI v99, vI v102, vI v107, vI v114, .unset, .unset, .unset, .unset] [iI (v99 + (1 : Int32)), iI v98]
          refine XS.icmpNo X115.here hx rfl (hb hby at_428) rfl (flt hc120).1 ?_
          show SA T115 m 431 #[vJ q1, .second, vJ q2, .second, vI p3, vI p4, vR b1, vI ((p3 &&& (3 : Int32)) % (3 : Int32)), vI v82, vI v83, vI v88, vI v91, vI v94, vI v95, vI ((p4 &&& (31 : Int32)) % (18 : Int32)), vI v98, vI v99, vI v102, vI v107, vI v114, .unset, .unset, .unset, .unset] []
          refine XS.iload X115.here hx rfl (hb hby at_431) rfl ?_
          show SA T115 m 433 #[vJ q1, .second, vJ q2, .second, vI p3, vI p4, vR b1, vI ((p3 &&& (3 : Int32)) % (3 : Int32)), vI v82, vI v83, vI v88, vI v91, vI v94, vI v95, vI ((p4 &&& (31 : Int32)) % (18 : Int32)), vI v98, vI v99, vI v102, vI v107, vI v114, .unset, .unset, .unset, .unset] [iI v98]
          refine XS.iconst X115.here hx rfl (hb hby at_433) ?_
          show SA T115 m 434 #[vJ q1, .second, vJ q2, .second, vI p3, vI p4, vR b1, vI ((p3 &&& (3 : Int32)) % (3 : Int32)), vI v82, vI v83, vI v88, vI v91, vI v94, vI v95, vI ((p4 &&& (31 : Int32)) % (18 : Int32)), vI v98, vI v99, vI v102, vI v107, vI v114, .unset, .unset, .unset, .unset] [iI 2, iI v98]
          refine XS.iadd X115.here hx rfl (hb hby at_434) rfl ?_
          show SA T115 m 435 #[vJ q1, .second, vJ q2, .second, vI p3, vI p4, vR b1, vI ((p3 &&& (3 : Int32)) % (3 : Int32)), vI v82, vI v83, vI v88, vI v91, vI v94, vI v95, vI ((p4 &&& (31 : Int32)) % (18 : Int32)), vI v98, vI v99, vI v102, vI v107, vI v114, .unset, .unset, .unset, .unset] [iI (v98 + (2 : Int32))]
          refine XS.iload X115.here hx rfl (hb hby at_435) rfl ?_
          exact kt
        by_cases hc122 : v114 < (v98 + (2 : Int32))
        · refine ⟨T115, X115, e115, fun t kt => ?_⟩
          subst hv117
          simp only [if_neg hc119, if_neg hc120, if_pos hc122] at kt
          refine pre123 t ?_
          show SA T115 m 437 #[vJ q1, .second, vJ q2, .second, vI p3, vI p4, vR b1, vI ((p3 &&& (3 : Int32)) % (3 : Int32)), vI v82, vI v83, vI v88, vI v91, vI v94, vI v95, vI ((p4 &&& (31 : Int32)) % (18 : Int32)), vI v98, vI v99, vI v102, vI v107, vI v114, .unset, .unset, .unset, .unset] [iI v114, iI (v98 + (2 : Int32))]
          refine XS.icmpYes X115.here hx rfl (pc0 := 437) (pc' := 444) rfl (hb hby at_437) rfl (tlt hc122).2.2.1 (by decide) (by decide) ?_
          show SA T115 m 444 #[vJ q1, .second, vJ q2, .second, vI p3, vI p4, vR b1, vI ((p3 &&& (3 : Int32)) % (3 : Int32)), vI v82, vI v83, vI v88, vI v91, vI v94, vI v95, vI ((p4 &&& (31 : Int32)) % (18 : Int32)), vI v98, vI v99, vI v102, vI v107, vI v114, .unset, .unset, .unset, .unset] []
          refine XS.iconst X115.here hx rfl (hb hby at_444) ?_
          exact kt
        · refine ⟨T115, X115, e115, fun t kt => ?_⟩
          subst hv117
          simp only [if_neg hc119, if_neg hc120, if_neg hc122] at kt
          refine pre123 t ?_
          show SA T115 m 437 #[vJ q1, .second, vJ q2, .second, vI p3, vI p4, vR b1, vI ((p3 &&& (3 : Int32)) % (3 : Int32)), vI v82, vI v83, vI v88, vI v91, vI v94, vI v95, vI ((p4 &&& (31 : Int32)) % (18 : Int32)), vI v98, vI v99, vI v102, vI v107, vI v114, .unset, .unset, .unset, .unset] [iI v114, iI (v98 + (2 : Int32))]
          refine XS.icmpNo X115.here hx rfl (hb hby at_437) rfl (flt hc122).2.2.1 ?_
          show SA T115 m 440 #[vJ q1, .second, vJ q2, .second, vI p3, vI p4, vR b1, vI ((p3 &&& (3 : Int32)) % (3 : Int32)), vI v82, vI v83, vI v88, vI v91, vI v94, vI v95, vI ((p4 &&& (31 : Int32)) % (18 : Int32)), vI v98, vI v99, vI v102, vI v107, vI v114, .unset, .unset, .unset, .unset] []
          refine XS.iconst X115.here hx rfl (hb hby at_440) ?_
          show SA T115 m 441 #[vJ q1, .second, vJ q2, .second, vI p3, vI p4, vR b1, vI ((p3 &&& (3 : Int32)) % (3 : Int32)), vI v82, vI v83, vI v88, vI v91, vI v94, vI v95, vI ((p4 &&& (31 : Int32)) % (18 : Int32)), vI v98, vI v99, vI v102, vI v107, vI v114, .unset, .unset, .unset, .unset] [iI 1]
          refine XS.goto X115.here hx rfl (pc0 := 441) (pc' := 445) rfl (hb hby at_441) (by decide) (by decide) ?_
          exact kt
  obtain ⟨v124, hv124⟩ : ∃ z : Int32, z = (if v117 = (0 : Int32) then v114 else v98) := ⟨_, rfl⟩
  obtain ⟨T125, X125, e125, st125⟩ : own_Mid X118 h81 (mkF m 449 #[vJ q1, .second, vJ q2, .second, vI p3, vI p4, vR b1, vI ((p3 &&& (3 : Int32)) % (3 : Int32)), vI v82, vI v83, vI v88, vI v91, vI v94, vI v95, vI ((p4 &&& (31 : Int32)) % (18 : Int32)), vI v98, vI v99, vI v102, vI v107, vI v114, vI v117, .unset, .unset, .unset] [iI v117]) (mkF m 459 #[vJ q1, .second, vJ q2, .second, vI p3, vI p4, vR b1, vI ((p3 &&& (3 : Int32)) % (3 : Int32)), vI v82, vI v83, vI v88, vI v91, vI v94, vI v95, vI ((p4 &&& (31 : Int32)) % (18 : Int32)), vI v98, vI v99, vI v102, vI v107, vI v114, vI v117, .unset, .unset, .unset] [iI v124]) := by
    by_cases hc126 : v117 = (0 : Int32)
    · refine ⟨T118, X118, e118, fun t kt => ?_⟩
      subst hv124
      simp only [if_pos hc126] at kt
      show SA T118 m 449 #[vJ q1, .second, vJ q2, .second, vI p3, vI p4, vR b1, vI ((p3 &&& (3 : Int32)) % (3 : Int32)), vI v82, vI v83, vI v88, vI v91, vI v94, vI v95, vI ((p4 &&& (31 : Int32)) % (18 : Int32)), vI v98, vI v99, vI v102, vI v107, vI v114, vI v117, .unset, .unset, .unset] [iI v117]
      refine XS.ifYes X118.here hx rfl (pc0 := 449) (pc' := 457) rfl (hb hby at_449) rfl ((if0 _ _).trans (teq hc126).1) (by decide) (by decide) ?_
      show SA T118 m 457 #[vJ q1, .second, vJ q2, .second, vI p3, vI p4, vR b1, vI ((p3 &&& (3 : Int32)) % (3 : Int32)), vI v82, vI v83, vI v88, vI v91, vI v94, vI v95, vI ((p4 &&& (31 : Int32)) % (18 : Int32)), vI v98, vI v99, vI v102, vI v107, vI v114, vI v117, .unset, .unset, .unset] []
      refine XS.iload X118.here hx rfl (hb hby at_457) rfl ?_
      exact kt
    · refine ⟨T118, X118, e118, fun t kt => ?_⟩
      subst hv124
      simp only [if_neg hc126] at kt
      show SA T118 m 449 #[vJ q1, .second, vJ q2, .second, vI p3, vI p4, vR b1, vI ((p3 &&& (3 : Int32)) % (3 : Int32)), vI v82, vI v83, vI v88, vI v91, vI v94, vI v95, vI ((p4 &&& (31 : Int32)) % (18 : Int32)), vI v98, vI v99, vI v102, vI v107, vI v114, vI v117, .unset, .unset, .unset] [iI v117]
      refine XS.ifNo X118.here hx rfl (hb hby at_449) rfl ((if0 _ _).trans (feq hc126).1) ?_
      show SA T118 m 452 #[vJ q1, .second, vJ q2, .second, vI p3, vI p4, vR b1, vI ((p3 &&& (3 : Int32)) % (3 : Int32)), vI v82, vI v83, vI v88, vI v91, vI v94, vI v95, vI ((p4 &&& (31 : Int32)) % (18 : Int32)), vI v98, vI v99, vI v102, vI v107, vI v114, vI v117, .unset, .unset, .unset] []
      refine XS.iload X118.here hx rfl (hb hby at_452) rfl ?_
      show SA T118 m 454 #[vJ q1, .second, vJ q2, .second, vI p3, vI p4, vR b1, vI ((p3 &&& (3 : Int32)) % (3 : Int32)), vI v82, vI v83, vI v88, vI v91, vI v94, vI v95, vI ((p4 &&& (31 : Int32)) % (18 : Int32)), vI v98, vI v99, vI v102, vI v107, vI v114, vI v117, .unset, .unset, .unset] [iI v98]
      refine XS.goto X118.here hx rfl (pc0 := 454) (pc' := 459) rfl (hb hby at_454) (by decide) (by decide) ?_
      exact kt
  have S127_b1 := Safe.ext E1 R0.1 (Safe.new (Nat.le_of_eq g1.symm))
  have R127 := R0.trans (CHr.ext E1 R0.1)
  have S128_b1 := Safe.wr W5 S127_b1 R127.1 S127_b1
  have R128 := R127.trans (CHr.wr W5 S127_b1 R127.1)
  have S129_b1 := Safe.wr W9 S128_b1 R128.1 S128_b1
  have R129 := R128.trans (CHr.wr W9 S128_b1 R128.1)
  have S130_b1 := Safe.wr W13 S129_b1 R129.1 S129_b1
  have R130 := R129.trans (CHr.wr W13 S129_b1 R129.1)
  have S131_b1 := Safe.wr W17 S130_b1 R130.1 S130_b1
  have R131 := R130.trans (CHr.wr W17 S130_b1 R130.1)
  have S132_b1 := Safe.wr W21 S131_b1 R131.1 S131_b1
  have R132 := R131.trans (CHr.wr W21 S131_b1 R131.1)
  have S133_b1 := Safe.wr W25 S132_b1 R132.1 S132_b1
  have R133 := R132.trans (CHr.wr W25 S132_b1 R132.1)
  have S134_b1 := Safe.wr W29 S133_b1 R133.1 S133_b1
  have R134 := R133.trans (CHr.wr W29 S133_b1 R133.1)
  have S135_b1 := Safe.wr W33 S134_b1 R134.1 S134_b1
  have R135 := R134.trans (CHr.wr W33 S134_b1 R134.1)
  have S136_b1 := Safe.wr W37 S135_b1 R135.1 S135_b1
  have R136 := R135.trans (CHr.wr W37 S135_b1 R135.1)
  have S137_b1 := Safe.wr W41 S136_b1 R136.1 S136_b1
  have R137 := R136.trans (CHr.wr W41 S136_b1 R136.1)
  have S138_b1 := Safe.wr W45 S137_b1 R137.1 S137_b1
  have R138 := R137.trans (CHr.wr W45 S137_b1 R137.1)
  have S139_b1 := Safe.wr W49 S138_b1 R138.1 S138_b1
  have R139 := R138.trans (CHr.wr W49 S138_b1 R138.1)
  have S140_b1 := Safe.wr W53 S139_b1 R139.1 S139_b1
  have R140 := R139.trans (CHr.wr W53 S139_b1 R139.1)
  have S141_b1 := Safe.wr W57 S140_b1 R140.1 S140_b1
  have R141 := R140.trans (CHr.wr W57 S140_b1 R140.1)
  have S142_b1 := Safe.wr W61 S141_b1 R141.1 S141_b1
  have R142 := R141.trans (CHr.wr W61 S141_b1 R141.1)
  have S143_b1 := Safe.wr W65 S142_b1 R142.1 S142_b1
  have R143 := R142.trans (CHr.wr W65 S142_b1 R142.1)
  have S144_b1 := Safe.wr W69 S143_b1 R143.1 S143_b1
  have R144 := R143.trans (CHr.wr W69 S143_b1 R143.1)
  have S145_b1 := Safe.wr W73 S144_b1 R144.1 S144_b1
  have R145 := R144.trans (CHr.wr W73 S144_b1 R144.1)
  have S146_b1 := Safe.wr W77 S145_b1 R145.1 S145_b1
  have R146 := R145.trans (CHr.wr W77 S145_b1 R145.1)
  have S147_b1 := Safe.wr W81 S146_b1 R146.1 S146_b1
  have R147 := R146.trans (CHr.wr W81 S146_b1 R146.1)
  have pre148 : ∀ t, Steps p.tables e below (T125.setTop (mkF m 461 #[vJ q1, .second, vJ q2, .second, vI p3, vI p4, vR b1, vI ((p3 &&& (3 : Int32)) % (3 : Int32)), vI v82, vI v83, vI v88, vI v91, vI v94, vI v95, vI ((p4 &&& (31 : Int32)) % (18 : Int32)), vI v98, vI v99, vI v102, vI v107, vI v114, vI v117, vI v124, .unset, .unset] [])) t → Steps p.tables e below (s₁.setTop (entryFrame m #[(.long q1), (.long q2), (.int p3), (.int p4)] maxLocals)) t := by
    intro t kt
    refine pre0 t ?_
    show SA s₁ m 0 #[vJ q1, .second, vJ q2, .second, vI p3, vI p4, .unset, .unset, .unset, .unset, .unset, .unset, .unset, .unset, .unset, .unset, .unset, .unset, .unset, .unset, .unset, .unset, .unset, .unset] []
    refine XS.bipush X0.here hx rfl (hb hby at_0) ?_
    show SA s₁ m 2 #[vJ q1, .second, vJ q2, .second, vI p3, vI p4, .unset, .unset, .unset, .unset, .unset, .unset, .unset, .unset, .unset, .unset, .unset, .unset, .unset, .unset, .unset, .unset, .unset, .unset] [iI 20]
    refine st1 _ ?_
    show SA T1 m 4 #[vJ q1, .second, vJ q2, .second, vI p3, vI p4, .unset, .unset, .unset, .unset, .unset, .unset, .unset, .unset, .unset, .unset, .unset, .unset, .unset, .unset, .unset, .unset, .unset, .unset] [iR b1]
    refine XS.astore X1.here hx rfl (hb hby at_4) rfl rfl (l' := #[vJ q1, .second, vJ q2, .second, vI p3, vI p4, vR b1, .unset, .unset, .unset, .unset, .unset, .unset, .unset, .unset, .unset, .unset, .unset, .unset, .unset, .unset, .unset, .unset, .unset]) rfl ?_
    show SA T1 m 6 #[vJ q1, .second, vJ q2, .second, vI p3, vI p4, vR b1, .unset, .unset, .unset, .unset, .unset, .unset, .unset, .unset, .unset, .unset, .unset, .unset, .unset, .unset, .unset, .unset, .unset] []
    refine XS.aload X1.here hx rfl (hb hby at_6) rfl rfl ?_
    show SA T1 m 8 #[vJ q1, .second, vJ q2, .second, vI p3, vI p4, vR b1, .unset, .unset, .unset, .unset, .unset, .unset, .unset, .unset, .unset, .unset, .unset, .unset, .unset, .unset, .unset, .unset, .unset] [iR b1]
    refine XS.iconst X1.here hx rfl (hb hby at_8) ?_
    show SA T1 m 9 #[vJ q1, .second, vJ q2, .second, vI p3, vI p4, vR b1, .unset, .unset, .unset, .unset, .unset, .unset, .unset, .unset, .unset, .unset, .unset, .unset, .unset, .unset, .unset, .unset, .unset] [iI 0, iR b1]
    refine XS.lloadN X1.here hx rfl (hb hby at_9) rfl ?_
    show SA T1 m 10 #[vJ q1, .second, vJ q2, .second, vI p3, vI p4, vR b1, .unset, .unset, .unset, .unset, .unset, .unset, .unset, .unset, .unset, .unset, .unset, .unset, .unset, .unset, .unset, .unset, .unset] [iJ q1, iI 0, iR b1]
    refine XS.iconst X1.here hx rfl (hb hby at_10) ?_
    show SA T1 m 11 #[vJ q1, .second, vJ q2, .second, vI p3, vI p4, vR b1, .unset, .unset, .unset, .unset, .unset, .unset, .unset, .unset, .unset, .unset, .unset, .unset, .unset, .unset, .unset, .unset, .unset] [iI 0, iJ q1, iI 0, iR b1]
    refine st2 _ ?_
    show SA T2 m 14 #[vJ q1, .second, vJ q2, .second, vI p3, vI p4, vR b1, .unset, .unset, .unset, .unset, .unset, .unset, .unset, .unset, .unset, .unset, .unset, .unset, .unset, .unset, .unset, .unset, .unset] [iI (own_d q1 (0 : Int32)), iI 0, iR b1]
    refine st5 _ ?_
    show SA T5 m 15 #[vJ q1, .second, vJ q2, .second, vI p3, vI p4, vR b1, .unset, .unset, .unset, .unset, .unset, .unset, .unset, .unset, .unset, .unset, .unset, .unset, .unset, .unset, .unset, .unset, .unset] []
    refine XS.aload X5.here hx rfl (hb hby at_15) rfl rfl ?_
    show SA T5 m 17 #[vJ q1, .second, vJ q2, .second, vI p3, vI p4, vR b1, .unset, .unset, .unset, .unset, .unset, .unset, .unset, .unset, .unset, .unset, .unset, .unset, .unset, .unset, .unset, .unset, .unset] [iR b1]
    refine XS.iconst X5.here hx rfl (hb hby at_17) ?_
    show SA T5 m 18 #[vJ q1, .second, vJ q2, .second, vI p3, vI p4, vR b1, .unset, .unset, .unset, .unset, .unset, .unset, .unset, .unset, .unset, .unset, .unset, .unset, .unset, .unset, .unset, .unset, .unset] [iI 1, iR b1]
    refine XS.lloadN X5.here hx rfl (hb hby at_18) rfl ?_
    show SA T5 m 19 #[vJ q1, .second, vJ q2, .second, vI p3, vI p4, vR b1, .unset, .unset, .unset, .unset, .unset, .unset, .unset, .unset, .unset, .unset, .unset, .unset, .unset, .unset, .unset, .unset, .unset] [iJ q1, iI 1, iR b1]
    refine XS.iconst X5.here hx rfl (hb hby at_19) ?_
    show SA T5 m 20 #[vJ q1, .second, vJ q2, .second, vI p3, vI p4, vR b1, .unset, .unset, .unset, .unset, .unset, .unset, .unset, .unset, .unset, .unset, .unset, .unset, .unset, .unset, .unset, .unset, .unset] [iI 1, iJ q1, iI 1, iR b1]
    refine st6 _ ?_
    show SA T6 m 23 #[vJ q1, .second, vJ q2, .second, vI p3, vI p4, vR b1, .unset, .unset, .unset, .unset, .unset, .unset, .unset, .unset, .unset, .unset, .unset, .unset, .unset, .unset, .unset, .unset, .unset] [iI (own_d q1 (1 : Int32)), iI 1, iR b1]
    refine st9 _ ?_
    show SA T9 m 24 #[vJ q1, .second, vJ q2, .second, vI p3, vI p4, vR b1, .unset, .unset, .unset, .unset, .unset, .unset, .unset, .unset, .unset, .unset, .unset, .unset, .unset, .unset, .unset, .unset, .unset] []
    refine XS.aload X9.here hx rfl (hb hby at_24) rfl rfl ?_
    show SA T9 m 26 #[vJ q1, .second, vJ q2, .second, vI p3, vI p4, vR b1, .unset, .unset, .unset, .unset, .unset, .unset, .unset, .unset, .unset, .unset, .unset, .unset, .unset, .unset, .unset, .unset, .unset] [iR b1]
    refine XS.iconst X9.here hx rfl (hb hby at_26) ?_
    show SA T9 m 27 #[vJ q1, .second, vJ q2, .second, vI p3, vI p4, vR b1, .unset, .unset, .unset, .unset, .unset, .unset, .unset, .unset, .unset, .unset, .unset, .unset, .unset, .unset, .unset, .unset, .unset] [iI 2, iR b1]
    refine XS.lloadN X9.here hx rfl (hb hby at_27) rfl ?_
    show SA T9 m 28 #[vJ q1, .second, vJ q2, .second, vI p3, vI p4, vR b1, .unset, .unset, .unset, .unset, .unset, .unset, .unset, .unset, .unset, .unset, .unset, .unset, .unset, .unset, .unset, .unset, .unset] [iJ q1, iI 2, iR b1]
    refine XS.iconst X9.here hx rfl (hb hby at_28) ?_
    show SA T9 m 29 #[vJ q1, .second, vJ q2, .second, vI p3, vI p4, vR b1, .unset, .unset, .unset, .unset, .unset, .unset, .unset, .unset, .unset, .unset, .unset, .unset, .unset, .unset, .unset, .unset, .unset] [iI 2, iJ q1, iI 2, iR b1]
    refine st10 _ ?_
    show SA T10 m 32 #[vJ q1, .second, vJ q2, .second, vI p3, vI p4, vR b1, .unset, .unset, .unset, .unset, .unset, .unset, .unset, .unset, .unset, .unset, .unset, .unset, .unset, .unset, .unset, .unset, .unset] [iI (own_d q1 (2 : Int32)), iI 2, iR b1]
    refine st13 _ ?_
    show SA T13 m 33 #[vJ q1, .second, vJ q2, .second, vI p3, vI p4, vR b1, .unset, .unset, .unset, .unset, .unset, .unset, .unset, .unset, .unset, .unset, .unset, .unset, .unset, .unset, .unset, .unset, .unset] []
    refine XS.aload X13.here hx rfl (hb hby at_33) rfl rfl ?_
    show SA T13 m 35 #[vJ q1, .second, vJ q2, .second, vI p3, vI p4, vR b1, .unset, .unset, .unset, .unset, .unset, .unset, .unset, .unset, .unset, .unset, .unset, .unset, .unset, .unset, .unset, .unset, .unset] [iR b1]
    refine XS.iconst X13.here hx rfl (hb hby at_35) ?_
    show SA T13 m 36 #[vJ q1, .second, vJ q2, .second, vI p3, vI p4, vR b1, .unset, .unset, .unset, .unset, .unset, .unset, .unset, .unset, .unset, .unset, .unset, .unset, .unset, .unset, .unset, .unset, .unset] [iI 3, iR b1]
    refine XS.lloadN X13.here hx rfl (hb hby at_36) rfl ?_
    show SA T13 m 37 #[vJ q1, .second, vJ q2, .second, vI p3, vI p4, vR b1, .unset, .unset, .unset, .unset, .unset, .unset, .unset, .unset, .unset, .unset, .unset, .unset, .unset, .unset, .unset, .unset, .unset] [iJ q1, iI 3, iR b1]
    refine XS.iconst X13.here hx rfl (hb hby at_37) ?_
    show SA T13 m 38 #[vJ q1, .second, vJ q2, .second, vI p3, vI p4, vR b1, .unset, .unset, .unset, .unset, .unset, .unset, .unset, .unset, .unset, .unset, .unset, .unset, .unset, .unset, .unset, .unset, .unset] [iI 3, iJ q1, iI 3, iR b1]
    refine st14 _ ?_
    show SA T14 m 41 #[vJ q1, .second, vJ q2, .second, vI p3, vI p4, vR b1, .unset, .unset, .unset, .unset, .unset, .unset, .unset, .unset, .unset, .unset, .unset, .unset, .unset, .unset, .unset, .unset, .unset] [iI (own_d q1 (3 : Int32)), iI 3, iR b1]
    refine st17 _ ?_
    show SA T17 m 42 #[vJ q1, .second, vJ q2, .second, vI p3, vI p4, vR b1, .unset, .unset, .unset, .unset, .unset, .unset, .unset, .unset, .unset, .unset, .unset, .unset, .unset, .unset, .unset, .unset, .unset] []
    refine XS.aload X17.here hx rfl (hb hby at_42) rfl rfl ?_
    show SA T17 m 44 #[vJ q1, .second, vJ q2, .second, vI p3, vI p4, vR b1, .unset, .unset, .unset, .unset, .unset, .unset, .unset, .unset, .unset, .unset, .unset, .unset, .unset, .unset, .unset, .unset, .unset] [iR b1]
    refine XS.iconst X17.here hx rfl (hb hby at_44) ?_
    show SA T17 m 45 #[vJ q1, .second, vJ q2, .second, vI p3, vI p4, vR b1, .unset, .unset, .unset, .unset, .unset, .unset, .unset, .unset, .unset, .unset, .unset, .unset, .unset, .unset, .unset, .unset, .unset] [iI 4, iR b1]
    refine XS.lloadN X17.here hx rfl (hb hby at_45) rfl ?_
    show SA T17 m 46 #[vJ q1, .second, vJ q2, .second, vI p3, vI p4, vR b1, .unset, .unset, .unset, .unset, .unset, .unset, .unset, .unset, .unset, .unset, .unset, .unset, .unset, .unset, .unset, .unset, .unset] [iJ q1, iI 4, iR b1]
    refine XS.iconst X17.here hx rfl (hb hby at_46) ?_
    show SA T17 m 47 #[vJ q1, .second, vJ q2, .second, vI p3, vI p4, vR b1, .unset, .unset, .unset, .unset, .unset, .unset, .unset, .unset, .unset, .unset, .unset, .unset, .unset, .unset, .unset, .unset, .unset] [iI 4, iJ q1, iI 4, iR b1]
    refine st18 _ ?_
    show SA T18 m 50 #[vJ q1, .second, vJ q2, .second, vI p3, vI p4, vR b1, .unset, .unset, .unset, .unset, .unset, .unset, .unset, .unset, .unset, .unset, .unset, .unset, .unset, .unset, .unset, .unset, .unset] [iI (own_d q1 (4 : Int32)), iI 4, iR b1]
    refine st21 _ ?_
    show SA T21 m 51 #[vJ q1, .second, vJ q2, .second, vI p3, vI p4, vR b1, .unset, .unset, .unset, .unset, .unset, .unset, .unset, .unset, .unset, .unset, .unset, .unset, .unset, .unset, .unset, .unset, .unset] []
    refine XS.aload X21.here hx rfl (hb hby at_51) rfl rfl ?_
    show SA T21 m 53 #[vJ q1, .second, vJ q2, .second, vI p3, vI p4, vR b1, .unset, .unset, .unset, .unset, .unset, .unset, .unset, .unset, .unset, .unset, .unset, .unset, .unset, .unset, .unset, .unset, .unset] [iR b1]
    refine XS.iconst X21.here hx rfl (hb hby at_53) ?_
    show SA T21 m 54 #[vJ q1, .second, vJ q2, .second, vI p3, vI p4, vR b1, .unset, .unset, .unset, .unset, .unset, .unset, .unset, .unset, .unset, .unset, .unset, .unset, .unset, .unset, .unset, .unset, .unset] [iI 5, iR b1]
    refine XS.lloadN X21.here hx rfl (hb hby at_54) rfl ?_
    show SA T21 m 55 #[vJ q1, .second, vJ q2, .second, vI p3, vI p4, vR b1, .unset, .unset, .unset, .unset, .unset, .unset, .unset, .unset, .unset, .unset, .unset, .unset, .unset, .unset, .unset, .unset, .unset] [iJ q1, iI 5, iR b1]
    refine XS.iconst X21.here hx rfl (hb hby at_55) ?_
    show SA T21 m 56 #[vJ q1, .second, vJ q2, .second, vI p3, vI p4, vR b1, .unset, .unset, .unset, .unset, .unset, .unset, .unset, .unset, .unset, .unset, .unset, .unset, .unset, .unset, .unset, .unset, .unset] [iI 5, iJ q1, iI 5, iR b1]
    refine st22 _ ?_
    show SA T22 m 59 #[vJ q1, .second, vJ q2, .second, vI p3, vI p4, vR b1, .unset, .unset, .unset, .unset, .unset, .unset, .unset, .unset, .unset, .unset, .unset, .unset, .unset, .unset, .unset, .unset, .unset] [iI (own_d q1 (5 : Int32)), iI 5, iR b1]
    refine st25 _ ?_
    show SA T25 m 60 #[vJ q1, .second, vJ q2, .second, vI p3, vI p4, vR b1, .unset, .unset, .unset, .unset, .unset, .unset, .unset, .unset, .unset, .unset, .unset, .unset, .unset, .unset, .unset, .unset, .unset] []
    refine XS.aload X25.here hx rfl (hb hby at_60) rfl rfl ?_
    show SA T25 m 62 #[vJ q1, .second, vJ q2, .second, vI p3, vI p4, vR b1, .unset, .unset, .unset, .unset, .unset, .unset, .unset, .unset, .unset, .unset, .unset, .unset, .unset, .unset, .unset, .unset, .unset] [iR b1]
    refine XS.bipush X25.here hx rfl (hb hby at_62) ?_
    show SA T25 m 64 #[vJ q1, .second, vJ q2, .second, vI p3, vI p4, vR b1, .unset, .unset, .unset, .unset, .unset, .unset, .unset, .unset, .unset, .unset, .unset, .unset, .unset, .unset, .unset, .unset, .unset] [iI 6, iR b1]
    refine XS.lloadN X25.here hx rfl (hb hby at_64) rfl ?_
    show SA T25 m 65 #[vJ q1, .second, vJ q2, .second, vI p3, vI p4, vR b1, .unset, .unset, .unset, .unset, .unset, .unset, .unset, .unset, .unset, .unset, .unset, .unset, .unset, .unset, .unset, .unset, .unset] [iJ q1, iI 6, iR b1]
    refine XS.bipush X25.here hx rfl (hb hby at_65) ?_
    show SA T25 m 67 #[vJ q1, .second, vJ q2, .second, vI p3, vI p4, vR b1, .unset, .unset, .unset, .unset, .unset, .unset, .unset, .unset, .unset, .unset, .unset, .unset, .unset, .unset, .unset, .unset, .unset] [iI 6, iJ q1, iI 6, iR b1]
    refine st26 _ ?_
    show SA T26 m 70 #[vJ q1, .second, vJ q2, .second, vI p3, vI p4, vR b1, .unset, .unset, .unset, .unset, .unset, .unset, .unset, .unset, .unset, .unset, .unset, .unset, .unset, .unset, .unset, .unset, .unset] [iI (own_d q1 (6 : Int32)), iI 6, iR b1]
    refine st29 _ ?_
    show SA T29 m 71 #[vJ q1, .second, vJ q2, .second, vI p3, vI p4, vR b1, .unset, .unset, .unset, .unset, .unset, .unset, .unset, .unset, .unset, .unset, .unset, .unset, .unset, .unset, .unset, .unset, .unset] []
    refine XS.aload X29.here hx rfl (hb hby at_71) rfl rfl ?_
    show SA T29 m 73 #[vJ q1, .second, vJ q2, .second, vI p3, vI p4, vR b1, .unset, .unset, .unset, .unset, .unset, .unset, .unset, .unset, .unset, .unset, .unset, .unset, .unset, .unset, .unset, .unset, .unset] [iR b1]
    refine XS.bipush X29.here hx rfl (hb hby at_73) ?_
    show SA T29 m 75 #[vJ q1, .second, vJ q2, .second, vI p3, vI p4, vR b1, .unset, .unset, .unset, .unset, .unset, .unset, .unset, .unset, .unset, .unset, .unset, .unset, .unset, .unset, .unset, .unset, .unset] [iI 7, iR b1]
    refine XS.lloadN X29.here hx rfl (hb hby at_75) rfl ?_
    show SA T29 m 76 #[vJ q1, .second, vJ q2, .second, vI p3, vI p4, vR b1, .unset, .unset, .unset, .unset, .unset, .unset, .unset, .unset, .unset, .unset, .unset, .unset, .unset, .unset, .unset, .unset, .unset] [iJ q1, iI 7, iR b1]
    refine XS.bipush X29.here hx rfl (hb hby at_76) ?_
    show SA T29 m 78 #[vJ q1, .second, vJ q2, .second, vI p3, vI p4, vR b1, .unset, .unset, .unset, .unset, .unset, .unset, .unset, .unset, .unset, .unset, .unset, .unset, .unset, .unset, .unset, .unset, .unset] [iI 7, iJ q1, iI 7, iR b1]
    refine st30 _ ?_
    show SA T30 m 81 #[vJ q1, .second, vJ q2, .second, vI p3, vI p4, vR b1, .unset, .unset, .unset, .unset, .unset, .unset, .unset, .unset, .unset, .unset, .unset, .unset, .unset, .unset, .unset, .unset, .unset] [iI (own_d q1 (7 : Int32)), iI 7, iR b1]
    refine st33 _ ?_
    show SA T33 m 82 #[vJ q1, .second, vJ q2, .second, vI p3, vI p4, vR b1, .unset, .unset, .unset, .unset, .unset, .unset, .unset, .unset, .unset, .unset, .unset, .unset, .unset, .unset, .unset, .unset, .unset] []
    refine XS.aload X33.here hx rfl (hb hby at_82) rfl rfl ?_
    show SA T33 m 84 #[vJ q1, .second, vJ q2, .second, vI p3, vI p4, vR b1, .unset, .unset, .unset, .unset, .unset, .unset, .unset, .unset, .unset, .unset, .unset, .unset, .unset, .unset, .unset, .unset, .unset] [iR b1]
    refine XS.bipush X33.here hx rfl (hb hby at_84) ?_
    show SA T33 m 86 #[vJ q1, .second, vJ q2, .second, vI p3, vI p4, vR b1, .unset, .unset, .unset, .unset, .unset, .unset, .unset, .unset, .unset, .unset, .unset, .unset, .unset, .unset, .unset, .unset, .unset] [iI 8, iR b1]
    refine XS.lloadN X33.here hx rfl (hb hby at_86) rfl ?_
    show SA T33 m 87 #[vJ q1, .second, vJ q2, .second, vI p3, vI p4, vR b1, .unset, .unset, .unset, .unset, .unset, .unset, .unset, .unset, .unset, .unset, .unset, .unset, .unset, .unset, .unset, .unset, .unset] [iJ q1, iI 8, iR b1]
    refine XS.bipush X33.here hx rfl (hb hby at_87) ?_
    show SA T33 m 89 #[vJ q1, .second, vJ q2, .second, vI p3, vI p4, vR b1, .unset, .unset, .unset, .unset, .unset, .unset, .unset, .unset, .unset, .unset, .unset, .unset, .unset, .unset, .unset, .unset, .unset] [iI 8, iJ q1, iI 8, iR b1]
    refine st34 _ ?_
    show SA T34 m 92 #[vJ q1, .second, vJ q2, .second, vI p3, vI p4, vR b1, .unset, .unset, .unset, .unset, .unset, .unset, .unset, .unset, .unset, .unset, .unset, .unset, .unset, .unset, .unset, .unset, .unset] [iI (own_d q1 (8 : Int32)), iI 8, iR b1]
    refine st37 _ ?_
    show SA T37 m 93 #[vJ q1, .second, vJ q2, .second, vI p3, vI p4, vR b1, .unset, .unset, .unset, .unset, .unset, .unset, .unset, .unset, .unset, .unset, .unset, .unset, .unset, .unset, .unset, .unset, .unset] []
    refine XS.aload X37.here hx rfl (hb hby at_93) rfl rfl ?_
    show SA T37 m 95 #[vJ q1, .second, vJ q2, .second, vI p3, vI p4, vR b1, .unset, .unset, .unset, .unset, .unset, .unset, .unset, .unset, .unset, .unset, .unset, .unset, .unset, .unset, .unset, .unset, .unset] [iR b1]
    refine XS.bipush X37.here hx rfl (hb hby at_95) ?_
    show SA T37 m 97 #[vJ q1, .second, vJ q2, .second, vI p3, vI p4, vR b1, .unset, .unset, .unset, .unset, .unset, .unset, .unset, .unset, .unset, .unset, .unset, .unset, .unset, .unset, .unset, .unset, .unset] [iI 9, iR b1]
    refine XS.lloadN X37.here hx rfl (hb hby at_97) rfl ?_
    show SA T37 m 98 #[vJ q1, .second, vJ q2, .second, vI p3, vI p4, vR b1, .unset, .unset, .unset, .unset, .unset, .unset, .unset, .unset, .unset, .unset, .unset, .unset, .unset, .unset, .unset, .unset, .unset] [iJ q1, iI 9, iR b1]
    refine XS.bipush X37.here hx rfl (hb hby at_98) ?_
    show SA T37 m 100 #[vJ q1, .second, vJ q2, .second, vI p3, vI p4, vR b1, .unset, .unset, .unset, .unset, .unset, .unset, .unset, .unset, .unset, .unset, .unset, .unset, .unset, .unset, .unset, .unset, .unset] [iI 9, iJ q1, iI 9, iR b1]
    refine st38 _ ?_
    show SA T38 m 103 #[vJ q1, .second, vJ q2, .second, vI p3, vI p4, vR b1, .unset, .unset, .unset, .unset, .unset, .unset, .unset, .unset, .unset, .unset, .unset, .unset, .unset, .unset, .unset, .unset, .unset] [iI (own_d q1 (9 : Int32)), iI 9, iR b1]
    refine st41 _ ?_
    show SA T41 m 104 #[vJ q1, .second, vJ q2, .second, vI p3, vI p4, vR b1, .unset, .unset, .unset, .unset, .unset, .unset, .unset, .unset, .unset, .unset, .unset, .unset, .unset, .unset, .unset, .unset, .unset] []
    refine XS.aload X41.here hx rfl (hb hby at_104) rfl rfl ?_
    show SA T41 m 106 #[vJ q1, .second, vJ q2, .second, vI p3, vI p4, vR b1, .unset, .unset, .unset, .unset, .unset, .unset, .unset, .unset, .unset, .unset, .unset, .unset, .unset, .unset, .unset, .unset, .unset] [iR b1]
    refine XS.bipush X41.here hx rfl (hb hby at_106) ?_
    show SA T41 m 108 #[vJ q1, .second, vJ q2, .second, vI p3, vI p4, vR b1, .unset, .unset, .unset, .unset, .unset, .unset, .unset, .unset, .unset, .unset, .unset, .unset, .unset, .unset, .unset, .unset, .unset] [iI 10, iR b1]
    refine XS.lloadN X41.here hx rfl (hb hby at_108) rfl ?_
    show SA T41 m 109 #[vJ q1, .second, vJ q2, .second, vI p3, vI p4, vR b1, .unset, .unset, .unset, .unset, .unset, .unset, .unset, .unset, .unset, .unset, .unset, .unset, .unset, .unset, .unset, .unset, .unset] [iJ q1, iI 10, iR b1]
    refine XS.bipush X41.here hx rfl (hb hby at_109) ?_
    show SA T41 m 111 #[vJ q1, .second, vJ q2, .second, vI p3, vI p4, vR b1, .unset, .unset, .unset, .unset, .unset, .unset, .unset, .unset, .unset, .unset, .unset, .unset, .unset, .unset, .unset, .unset, .unset] [iI 10, iJ q1, iI 10, iR b1]
    refine st42 _ ?_
    show SA T42 m 114 #[vJ q1, .second, vJ q2, .second, vI p3, vI p4, vR b1, .unset, .unset, .unset, .unset, .unset, .unset, .unset, .unset, .unset, .unset, .unset, .unset, .unset, .unset, .unset, .unset, .unset] [iI (own_d q1 (10 : Int32)), iI 10, iR b1]
    refine st45 _ ?_
    show SA T45 m 115 #[vJ q1, .second, vJ q2, .second, vI p3, vI p4, vR b1, .unset, .unset, .unset, .unset, .unset, .unset, .unset, .unset, .unset, .unset, .unset, .unset, .unset, .unset, .unset, .unset, .unset] []
    refine XS.aload X45.here hx rfl (hb hby at_115) rfl rfl ?_
    show SA T45 m 117 #[vJ q1, .second, vJ q2, .second, vI p3, vI p4, vR b1, .unset, .unset, .unset, .unset, .unset, .unset, .unset, .unset, .unset, .unset, .unset, .unset, .unset, .unset, .unset, .unset, .unset] [iR b1]
    refine XS.bipush X45.here hx rfl (hb hby at_117) ?_
    show SA T45 m 119 #[vJ q1, .second, vJ q2, .second, vI p3, vI p4, vR b1, .unset, .unset, .unset, .unset, .unset, .unset, .unset, .unset, .unset, .unset, .unset, .unset, .unset, .unset, .unset, .unset, .unset] [iI 11, iR b1]
    refine XS.lloadN X45.here hx rfl (hb hby at_119) rfl ?_
    show SA T45 m 120 #[vJ q1, .second, vJ q2, .second, vI p3, vI p4, vR b1, .unset, .unset, .unset, .unset, .unset, .unset, .unset, .unset, .unset, .unset, .unset, .unset, .unset, .unset, .unset, .unset, .unset] [iJ q1, iI 11, iR b1]
    refine XS.bipush X45.here hx rfl (hb hby at_120) ?_
    show SA T45 m 122 #[vJ q1, .second, vJ q2, .second, vI p3, vI p4, vR b1, .unset, .unset, .unset, .unset, .unset, .unset, .unset, .unset, .unset, .unset, .unset, .unset, .unset, .unset, .unset, .unset, .unset] [iI 11, iJ q1, iI 11, iR b1]
    refine st46 _ ?_
    show SA T46 m 125 #[vJ q1, .second, vJ q2, .second, vI p3, vI p4, vR b1, .unset, .unset, .unset, .unset, .unset, .unset, .unset, .unset, .unset, .unset, .unset, .unset, .unset, .unset, .unset, .unset, .unset] [iI (own_d q1 (11 : Int32)), iI 11, iR b1]
    refine st49 _ ?_
    show SA T49 m 126 #[vJ q1, .second, vJ q2, .second, vI p3, vI p4, vR b1, .unset, .unset, .unset, .unset, .unset, .unset, .unset, .unset, .unset, .unset, .unset, .unset, .unset, .unset, .unset, .unset, .unset] []
    refine XS.aload X49.here hx rfl (hb hby at_126) rfl rfl ?_
    show SA T49 m 128 #[vJ q1, .second, vJ q2, .second, vI p3, vI p4, vR b1, .unset, .unset, .unset, .unset, .unset, .unset, .unset, .unset, .unset, .unset, .unset, .unset, .unset, .unset, .unset, .unset, .unset] [iR b1]
    refine XS.bipush X49.here hx rfl (hb hby at_128) ?_
    show SA T49 m 130 #[vJ q1, .second, vJ q2, .second, vI p3, vI p4, vR b1, .unset, .unset, .unset, .unset, .unset, .unset, .unset, .unset, .unset, .unset, .unset, .unset, .unset, .unset, .unset, .unset, .unset] [iI 12, iR b1]
    refine XS.lloadN X49.here hx rfl (hb hby at_130) rfl ?_
    show SA T49 m 131 #[vJ q1, .second, vJ q2, .second, vI p3, vI p4, vR b1, .unset, .unset, .unset, .unset, .unset, .unset, .unset, .unset, .unset, .unset, .unset, .unset, .unset, .unset, .unset, .unset, .unset] [iJ q1, iI 12, iR b1]
    refine XS.bipush X49.here hx rfl (hb hby at_131) ?_
    show SA T49 m 133 #[vJ q1, .second, vJ q2, .second, vI p3, vI p4, vR b1, .unset, .unset, .unset, .unset, .unset, .unset, .unset, .unset, .unset, .unset, .unset, .unset, .unset, .unset, .unset, .unset, .unset] [iI 12, iJ q1, iI 12, iR b1]
    refine st50 _ ?_
    show SA T50 m 136 #[vJ q1, .second, vJ q2, .second, vI p3, vI p4, vR b1, .unset, .unset, .unset, .unset, .unset, .unset, .unset, .unset, .unset, .unset, .unset, .unset, .unset, .unset, .unset, .unset, .unset] [iI (own_d q1 (12 : Int32)), iI 12, iR b1]
    refine st53 _ ?_
    show SA T53 m 137 #[vJ q1, .second, vJ q2, .second, vI p3, vI p4, vR b1, .unset, .unset, .unset, .unset, .unset, .unset, .unset, .unset, .unset, .unset, .unset, .unset, .unset, .unset, .unset, .unset, .unset] []
    refine XS.aload X53.here hx rfl (hb hby at_137) rfl rfl ?_
    show SA T53 m 139 #[vJ q1, .second, vJ q2, .second, vI p3, vI p4, vR b1, .unset, .unset, .unset, .unset, .unset, .unset, .unset, .unset, .unset, .unset, .unset, .unset, .unset, .unset, .unset, .unset, .unset] [iR b1]
    refine XS.bipush X53.here hx rfl (hb hby at_139) ?_
    show SA T53 m 141 #[vJ q1, .second, vJ q2, .second, vI p3, vI p4, vR b1, .unset, .unset, .unset, .unset, .unset, .unset, .unset, .unset, .unset, .unset, .unset, .unset, .unset, .unset, .unset, .unset, .unset] [iI 13, iR b1]
    refine XS.lloadN X53.here hx rfl (hb hby at_141) rfl ?_
    show SA T53 m 142 #[vJ q1, .second, vJ q2, .second, vI p3, vI p4, vR b1, .unset, .unset, .unset, .unset, .unset, .unset, .unset, .unset, .unset, .unset, .unset, .unset, .unset, .unset, .unset, .unset, .unset] [iJ q1, iI 13, iR b1]
    refine XS.bipush X53.here hx rfl (hb hby at_142) ?_
    show SA T53 m 144 #[vJ q1, .second, vJ q2, .second, vI p3, vI p4, vR b1, .unset, .unset, .unset, .unset, .unset, .unset, .unset, .unset, .unset, .unset, .unset, .unset, .unset, .unset, .unset, .unset, .unset] [iI 13, iJ q1, iI 13, iR b1]
    refine st54 _ ?_
    show SA T54 m 147 #[vJ q1, .second, vJ q2, .second, vI p3, vI p4, vR b1, .unset, .unset, .unset, .unset, .unset, .unset, .unset, .unset, .unset, .unset, .unset, .unset, .unset, .unset, .unset, .unset, .unset] [iI (own_d q1 (13 : Int32)), iI 13, iR b1]
    refine st57 _ ?_
    show SA T57 m 148 #[vJ q1, .second, vJ q2, .second, vI p3, vI p4, vR b1, .unset, .unset, .unset, .unset, .unset, .unset, .unset, .unset, .unset, .unset, .unset, .unset, .unset, .unset, .unset, .unset, .unset] []
    refine XS.aload X57.here hx rfl (hb hby at_148) rfl rfl ?_
    show SA T57 m 150 #[vJ q1, .second, vJ q2, .second, vI p3, vI p4, vR b1, .unset, .unset, .unset, .unset, .unset, .unset, .unset, .unset, .unset, .unset, .unset, .unset, .unset, .unset, .unset, .unset, .unset] [iR b1]
    refine XS.bipush X57.here hx rfl (hb hby at_150) ?_
    show SA T57 m 152 #[vJ q1, .second, vJ q2, .second, vI p3, vI p4, vR b1, .unset, .unset, .unset, .unset, .unset, .unset, .unset, .unset, .unset, .unset, .unset, .unset, .unset, .unset, .unset, .unset, .unset] [iI 14, iR b1]
    refine XS.lloadN X57.here hx rfl (hb hby at_152) rfl ?_
    show SA T57 m 153 #[vJ q1, .second, vJ q2, .second, vI p3, vI p4, vR b1, .unset, .unset, .unset, .unset, .unset, .unset, .unset, .unset, .unset, .unset, .unset, .unset, .unset, .unset, .unset, .unset, .unset] [iJ q1, iI 14, iR b1]
    refine XS.bipush X57.here hx rfl (hb hby at_153) ?_
    show SA T57 m 155 #[vJ q1, .second, vJ q2, .second, vI p3, vI p4, vR b1, .unset, .unset, .unset, .unset, .unset, .unset, .unset, .unset, .unset, .unset, .unset, .unset, .unset, .unset, .unset, .unset, .unset] [iI 14, iJ q1, iI 14, iR b1]
    refine st58 _ ?_
    show SA T58 m 158 #[vJ q1, .second, vJ q2, .second, vI p3, vI p4, vR b1, .unset, .unset, .unset, .unset, .unset, .unset, .unset, .unset, .unset, .unset, .unset, .unset, .unset, .unset, .unset, .unset, .unset] [iI (own_d q1 (14 : Int32)), iI 14, iR b1]
    refine st61 _ ?_
    show SA T61 m 159 #[vJ q1, .second, vJ q2, .second, vI p3, vI p4, vR b1, .unset, .unset, .unset, .unset, .unset, .unset, .unset, .unset, .unset, .unset, .unset, .unset, .unset, .unset, .unset, .unset, .unset] []
    refine XS.aload X61.here hx rfl (hb hby at_159) rfl rfl ?_
    show SA T61 m 161 #[vJ q1, .second, vJ q2, .second, vI p3, vI p4, vR b1, .unset, .unset, .unset, .unset, .unset, .unset, .unset, .unset, .unset, .unset, .unset, .unset, .unset, .unset, .unset, .unset, .unset] [iR b1]
    refine XS.bipush X61.here hx rfl (hb hby at_161) ?_
    show SA T61 m 163 #[vJ q1, .second, vJ q2, .second, vI p3, vI p4, vR b1, .unset, .unset, .unset, .unset, .unset, .unset, .unset, .unset, .unset, .unset, .unset, .unset, .unset, .unset, .unset, .unset, .unset] [iI 15, iR b1]
    refine XS.lloadN X61.here hx rfl (hb hby at_163) rfl ?_
    show SA T61 m 164 #[vJ q1, .second, vJ q2, .second, vI p3, vI p4, vR b1, .unset, .unset, .unset, .unset, .unset, .unset, .unset, .unset, .unset, .unset, .unset, .unset, .unset, .unset, .unset, .unset, .unset] [iJ q1, iI 15, iR b1]
    refine XS.bipush X61.here hx rfl (hb hby at_164) ?_
    show SA T61 m 166 #[vJ q1, .second, vJ q2, .second, vI p3, vI p4, vR b1, .unset, .unset, .unset, .unset, .unset, .unset, .unset, .unset, .unset, .unset, .unset, .unset, .unset, .unset, .unset, .unset, .unset] [iI 15, iJ q1, iI 15, iR b1]
    refine st62 _ ?_
    show SA T62 m 169 #[vJ q1, .second, vJ q2, .second, vI p3, vI p4, vR b1, .unset, .unset, .unset, .unset, .unset, .unset, .unset, .unset, .unset, .unset, .unset, .unset, .unset, .unset, .unset, .unset, .unset] [iI (own_d q1 (15 : Int32)), iI 15, iR b1]
    refine st65 _ ?_
    show SA T65 m 170 #[vJ q1, .second, vJ q2, .second, vI p3, vI p4, vR b1, .unset, .unset, .unset, .unset, .unset, .unset, .unset, .unset, .unset, .unset, .unset, .unset, .unset, .unset, .unset, .unset, .unset] []
    refine XS.aload X65.here hx rfl (hb hby at_170) rfl rfl ?_
    show SA T65 m 172 #[vJ q1, .second, vJ q2, .second, vI p3, vI p4, vR b1, .unset, .unset, .unset, .unset, .unset, .unset, .unset, .unset, .unset, .unset, .unset, .unset, .unset, .unset, .unset, .unset, .unset] [iR b1]
    refine XS.bipush X65.here hx rfl (hb hby at_172) ?_
    show SA T65 m 174 #[vJ q1, .second, vJ q2, .second, vI p3, vI p4, vR b1, .unset, .unset, .unset, .unset, .unset, .unset, .unset, .unset, .unset, .unset, .unset, .unset, .unset, .unset, .unset, .unset, .unset] [iI 16, iR b1]
    refine XS.lloadN X65.here hx rfl (hb hby at_174) rfl ?_
    show SA T65 m 175 #[vJ q1, .second, vJ q2, .second, vI p3, vI p4, vR b1, .unset, .unset, .unset, .unset, .unset, .unset, .unset, .unset, .unset, .unset, .unset, .unset, .unset, .unset, .unset, .unset, .unset] [iJ q2, iI 16, iR b1]
    refine XS.iconst X65.here hx rfl (hb hby at_175) ?_
    show SA T65 m 176 #[vJ q1, .second, vJ q2, .second, vI p3, vI p4, vR b1, .unset, .unset, .unset, .unset, .unset, .unset, .unset, .unset, .unset, .unset, .unset, .unset, .unset, .unset, .unset, .unset, .unset] [iI 0, iJ q2, iI 16, iR b1]
    refine st66 _ ?_
    show SA T66 m 179 #[vJ q1, .second, vJ q2, .second, vI p3, vI p4, vR b1, .unset, .unset, .unset, .unset, .unset, .unset, .unset, .unset, .unset, .unset, .unset, .unset, .unset, .unset, .unset, .unset, .unset] [iI (own_d q2 (0 : Int32)), iI 16, iR b1]
    refine st69 _ ?_
    show SA T69 m 180 #[vJ q1, .second, vJ q2, .second, vI p3, vI p4, vR b1, .unset, .unset, .unset, .unset, .unset, .unset, .unset, .unset, .unset, .unset, .unset, .unset, .unset, .unset, .unset, .unset, .unset] []
    refine XS.aload X69.here hx rfl (hb hby at_180) rfl rfl ?_
    show SA T69 m 182 #[vJ q1, .second, vJ q2, .second, vI p3, vI p4, vR b1, .unset, .unset, .unset, .unset, .unset, .unset, .unset, .unset, .unset, .unset, .unset, .unset, .unset, .unset, .unset, .unset, .unset] [iR b1]
    refine XS.bipush X69.here hx rfl (hb hby at_182) ?_
    show SA T69 m 184 #[vJ q1, .second, vJ q2, .second, vI p3, vI p4, vR b1, .unset, .unset, .unset, .unset, .unset, .unset, .unset, .unset, .unset, .unset, .unset, .unset, .unset, .unset, .unset, .unset, .unset] [iI 17, iR b1]
    refine XS.lloadN X69.here hx rfl (hb hby at_184) rfl ?_
    show SA T69 m 185 #[vJ q1, .second, vJ q2, .second, vI p3, vI p4, vR b1, .unset, .unset, .unset, .unset, .unset, .unset, .unset, .unset, .unset, .unset, .unset, .unset, .unset, .unset, .unset, .unset, .unset] [iJ q2, iI 17, iR b1]
    refine XS.iconst X69.here hx rfl (hb hby at_185) ?_
    show SA T69 m 186 #[vJ q1, .second, vJ q2, .second, vI p3, vI p4, vR b1, .unset, .unset, .unset, .unset, .unset, .unset, .unset, .unset, .unset, .unset, .unset, .unset, .unset, .unset, .unset, .unset, .unset] [iI 1, iJ q2, iI 17, iR b1]
    refine st70 _ ?_
    show SA T70 m 189 #[vJ q1, .second, vJ q2, .second, vI p3, vI p4, vR b1, .unset, .unset, .unset, .unset, .unset, .unset, .unset, .unset, .unset, .unset, .unset, .unset, .unset, .unset, .unset, .unset, .unset] [iI (own_d q2 (1 : Int32)), iI 17, iR b1]
    refine st73 _ ?_
    show SA T73 m 190 #[vJ q1, .second, vJ q2, .second, vI p3, vI p4, vR b1, .unset, .unset, .unset, .unset, .unset, .unset, .unset, .unset, .unset, .unset, .unset, .unset, .unset, .unset, .unset, .unset, .unset] []
    refine XS.aload X73.here hx rfl (hb hby at_190) rfl rfl ?_
    show SA T73 m 192 #[vJ q1, .second, vJ q2, .second, vI p3, vI p4, vR b1, .unset, .unset, .unset, .unset, .unset, .unset, .unset, .unset, .unset, .unset, .unset, .unset, .unset, .unset, .unset, .unset, .unset] [iR b1]
    refine XS.bipush X73.here hx rfl (hb hby at_192) ?_
    show SA T73 m 194 #[vJ q1, .second, vJ q2, .second, vI p3, vI p4, vR b1, .unset, .unset, .unset, .unset, .unset, .unset, .unset, .unset, .unset, .unset, .unset, .unset, .unset, .unset, .unset, .unset, .unset] [iI 18, iR b1]
    refine XS.lloadN X73.here hx rfl (hb hby at_194) rfl ?_
    show SA T73 m 195 #[vJ q1, .second, vJ q2, .second, vI p3, vI p4, vR b1, .unset, .unset, .unset, .unset, .unset, .unset, .unset, .unset, .unset, .unset, .unset, .unset, .unset, .unset, .unset, .unset, .unset] [iJ q2, iI 18, iR b1]
    refine XS.iconst X73.here hx rfl (hb hby at_195) ?_
    show SA T73 m 196 #[vJ q1, .second, vJ q2, .second, vI p3, vI p4, vR b1, .unset, .unset, .unset, .unset, .unset, .unset, .unset, .unset, .unset, .unset, .unset, .unset, .unset, .unset, .unset, .unset, .unset] [iI 2, iJ q2, iI 18, iR b1]
    refine st74 _ ?_
    show SA T74 m 199 #[vJ q1, .second, vJ q2, .second, vI p3, vI p4, vR b1, .unset, .unset, .unset, .unset, .unset, .unset, .unset, .unset, .unset, .unset, .unset, .unset, .unset, .unset, .unset, .unset, .unset] [iI (own_d q2 (2 : Int32)), iI 18, iR b1]
    refine st77 _ ?_
    show SA T77 m 200 #[vJ q1, .second, vJ q2, .second, vI p3, vI p4, vR b1, .unset, .unset, .unset, .unset, .unset, .unset, .unset, .unset, .unset, .unset, .unset, .unset, .unset, .unset, .unset, .unset, .unset] []
    refine XS.aload X77.here hx rfl (hb hby at_200) rfl rfl ?_
    show SA T77 m 202 #[vJ q1, .second, vJ q2, .second, vI p3, vI p4, vR b1, .unset, .unset, .unset, .unset, .unset, .unset, .unset, .unset, .unset, .unset, .unset, .unset, .unset, .unset, .unset, .unset, .unset] [iR b1]
    refine XS.bipush X77.here hx rfl (hb hby at_202) ?_
    show SA T77 m 204 #[vJ q1, .second, vJ q2, .second, vI p3, vI p4, vR b1, .unset, .unset, .unset, .unset, .unset, .unset, .unset, .unset, .unset, .unset, .unset, .unset, .unset, .unset, .unset, .unset, .unset] [iI 19, iR b1]
    refine XS.lloadN X77.here hx rfl (hb hby at_204) rfl ?_
    show SA T77 m 205 #[vJ q1, .second, vJ q2, .second, vI p3, vI p4, vR b1, .unset, .unset, .unset, .unset, .unset, .unset, .unset, .unset, .unset, .unset, .unset, .unset, .unset, .unset, .unset, .unset, .unset] [iJ q2, iI 19, iR b1]
    refine XS.iconst X77.here hx rfl (hb hby at_205) ?_
    show SA T77 m 206 #[vJ q1, .second, vJ q2, .second, vI p3, vI p4, vR b1, .unset, .unset, .unset, .unset, .unset, .unset, .unset, .unset, .unset, .unset, .unset, .unset, .unset, .unset, .unset, .unset, .unset] [iI 3, iJ q2, iI 19, iR b1]
    refine st78 _ ?_
    show SA T78 m 209 #[vJ q1, .second, vJ q2, .second, vI p3, vI p4, vR b1, .unset, .unset, .unset, .unset, .unset, .unset, .unset, .unset, .unset, .unset, .unset, .unset, .unset, .unset, .unset, .unset, .unset] [iI (own_d q2 (3 : Int32)), iI 19, iR b1]
    refine st81 _ ?_
    show SA T81 m 210 #[vJ q1, .second, vJ q2, .second, vI p3, vI p4, vR b1, .unset, .unset, .unset, .unset, .unset, .unset, .unset, .unset, .unset, .unset, .unset, .unset, .unset, .unset, .unset, .unset, .unset] []
    refine XS.iload X81.here hx rfl (hb hby at_210) rfl ?_
    show SA T81 m 212 #[vJ q1, .second, vJ q2, .second, vI p3, vI p4, vR b1, .unset, .unset, .unset, .unset, .unset, .unset, .unset, .unset, .unset, .unset, .unset, .unset, .unset, .unset, .unset, .unset, .unset] [iI p3]
    refine XS.iconst X81.here hx rfl (hb hby at_212) ?_
    show SA T81 m 213 #[vJ q1, .second, vJ q2, .second, vI p3, vI p4, vR b1, .unset, .unset, .unset, .unset, .unset, .unset, .unset, .unset, .unset, .unset, .unset, .unset, .unset, .unset, .unset, .unset, .unset] [iI 3, iI p3]
    refine XS.iand X81.here hx rfl (hb hby at_213) rfl ?_
    show SA T81 m 214 #[vJ q1, .second, vJ q2, .second, vI p3, vI p4, vR b1, .unset, .unset, .unset, .unset, .unset, .unset, .unset, .unset, .unset, .unset, .unset, .unset, .unset, .unset, .unset, .unset, .unset] [iI (p3 &&& (3 : Int32))]
    refine XS.iconst X81.here hx rfl (hb hby at_214) ?_
    show SA T81 m 215 #[vJ q1, .second, vJ q2, .second, vI p3, vI p4, vR b1, .unset, .unset, .unset, .unset, .unset, .unset, .unset, .unset, .unset, .unset, .unset, .unset, .unset, .unset, .unset, .unset, .unset] [iI 3, iI (p3 &&& (3 : Int32))]
    refine iremM X81 hx rfl (hb hby at_215) rfl (by decide) ?_
    show SA T81 m 216 #[vJ q1, .second, vJ q2, .second, vI p3, vI p4, vR b1, .unset, .unset, .unset, .unset, .unset, .unset, .unset, .unset, .unset, .unset, .unset, .unset, .unset, .unset, .unset, .unset, .unset] [iI ((p3 &&& (3 : Int32)) % (3 : Int32))]
    refine XS.istore X81.here hx rfl (hb hby at_216) rfl (l' := #[vJ q1, .second, vJ q2, .second, vI p3, vI p4, vR b1, vI ((p3 &&& (3 : Int32)) % (3 : Int32)), .unset, .unset, .unset, .unset, .unset, .unset, .unset, .unset, .unset, .unset, .unset, .unset, .unset, .unset, .unset, .unset]) rfl ?_
    show SA T81 m 218 #[vJ q1, .second, vJ q2, .second, vI p3, vI p4, vR b1, vI ((p3 &&& (3 : Int32)) % (3 : Int32)), .unset, .unset, .unset, .unset, .unset, .unset, .unset, .unset, .unset, .unset, .unset, .unset, .unset, .unset, .unset, .unset] []
    refine XS.iconst X81.here hx rfl (hb hby at_218) ?_
    show SA T81 m 219 #[vJ q1, .second, vJ q2, .second, vI p3, vI p4, vR b1, vI ((p3 &&& (3 : Int32)) % (3 : Int32)), .unset, .unset, .unset, .unset, .unset, .unset, .unset, .unset, .unset, .unset, .unset, .unset, .unset, .unset, .unset, .unset] [iI 1]
    refine XS.iload X81.here hx rfl (hb hby at_219) rfl ?_
    show SA T81 m 221 #[vJ q1, .second, vJ q2, .second, vI p3, vI p4, vR b1, vI ((p3 &&& (3 : Int32)) % (3 : Int32)), .unset, .unset, .unset, .unset, .unset, .unset, .unset, .unset, .unset, .unset, .unset, .unset, .unset, .unset, .unset, .unset] [iI p3, iI 1]
    refine XS.iconst X81.here hx rfl (hb hby at_221) ?_
    show SA T81 m 222 #[vJ q1, .second, vJ q2, .second, vI p3, vI p4, vR b1, vI ((p3 &&& (3 : Int32)) % (3 : Int32)), .unset, .unset, .unset, .unset, .unset, .unset, .unset, .unset, .unset, .unset, .unset, .unset, .unset, .unset, .unset, .unset] [iI 2, iI p3, iI 1]
    refine XS.iushr X81.here hx rfl (hb hby at_222) rfl ?_
    show SA T81 m 223 #[vJ q1, .second, vJ q2, .second, vI p3, vI p4, vR b1, vI ((p3 &&& (3 : Int32)) % (3 : Int32)), .unset, .unset, .unset, .unset, .unset, .unset, .unset, .unset, .unset, .unset, .unset, .unset, .unset, .unset, .unset, .unset] [iI ((p3.toUInt32 >>> ((2 : Int32) &&& 31).toUInt32).toInt32), iI 1]
    refine XS.bipush X81.here hx rfl (hb hby at_223) ?_
    show SA T81 m 225 #[vJ q1, .second, vJ q2, .second, vI p3, vI p4, vR b1, vI ((p3 &&& (3 : Int32)) % (3 : Int32)), .unset, .unset, .unset, .unset, .unset, .unset, .unset, .unset, .unset, .unset, .unset, .unset, .unset, .unset, .unset, .unset] [iI 31, iI ((p3.toUInt32 >>> ((2 : Int32) &&& 31).toUInt32).toInt32), iI 1]
    refine XS.iand X81.here hx rfl (hb hby at_225) rfl ?_
    show SA T81 m 226 #[vJ q1, .second, vJ q2, .second, vI p3, vI p4, vR b1, vI ((p3 &&& (3 : Int32)) % (3 : Int32)), .unset, .unset, .unset, .unset, .unset, .unset, .unset, .unset, .unset, .unset, .unset, .unset, .unset, .unset, .unset, .unset] [iI (((p3.toUInt32 >>> ((2 : Int32) &&& 31).toUInt32).toInt32) &&& (31 : Int32)), iI 1]
    refine XS.bipush X81.here hx rfl (hb hby at_226) ?_
    show SA T81 m 228 #[vJ q1, .second, vJ q2, .second, vI p3, vI p4, vR b1, vI ((p3 &&& (3 : Int32)) % (3 : Int32)), .unset, .unset, .unset, .unset, .unset, .unset, .unset, .unset, .unset, .unset, .unset, .unset, .unset, .unset, .unset, .unset] [iI 18, iI (((p3.toUInt32 >>> ((2 : Int32) &&& 31).toUInt32).toInt32) &&& (31 : Int32)), iI 1]
    refine iremM X81 hx rfl (hb hby at_228) rfl (by decide) ?_
    show SA T81 m 229 #[vJ q1, .second, vJ q2, .second, vI p3, vI p4, vR b1, vI ((p3 &&& (3 : Int32)) % (3 : Int32)), .unset, .unset, .unset, .unset, .unset, .unset, .unset, .unset, .unset, .unset, .unset, .unset, .unset, .unset, .unset, .unset] [iI ((((p3.toUInt32 >>> ((2 : Int32) &&& 31).toUInt32).toInt32) &&& (31 : Int32)) % (18 : Int32)), iI 1]
    refine XS.iadd X81.here hx rfl (hb hby at_229) rfl ?_
    show SA T81 m 230 #[vJ q1, .second, vJ q2, .second, vI p3, vI p4, vR b1, vI ((p3 &&& (3 : Int32)) % (3 : Int32)), .unset, .unset, .unset, .unset, .unset, .unset, .unset, .unset, .unset, .unset, .unset, .unset, .unset, .unset, .unset, .unset] [iI ((1 : Int32) + ((((p3.toUInt32 >>> ((2 : Int32) &&& 31).toUInt32).toInt32) &&& (31 : Int32)) % (18 : Int32)))]
    refine XS.istore X81.here hx rfl (hb hby at_230) rfl (l' := #[vJ q1, .second, vJ q2, .second, vI p3, vI p4, vR b1, vI ((p3 &&& (3 : Int32)) % (3 : Int32)), vI ((1 : Int32) + ((((p3.toUInt32 >>> ((2 : Int32) &&& 31).toUInt32).toInt32) &&& (31 : Int32)) % (18 : Int32))), .unset, .unset, .unset, .unset, .unset, .unset, .unset, .unset, .unset, .unset, .unset, .unset, .unset, .unset, .unset]) rfl ?_
    rw [← hv82]
    show SA T81 m 232 #[vJ q1, .second, vJ q2, .second, vI p3, vI p4, vR b1, vI ((p3 &&& (3 : Int32)) % (3 : Int32)), vI v82, .unset, .unset, .unset, .unset, .unset, .unset, .unset, .unset, .unset, .unset, .unset, .unset, .unset, .unset, .unset] []
    refine XS.iload X81.here hx rfl (hb hby at_232) rfl ?_
    show SA T81 m 234 #[vJ q1, .second, vJ q2, .second, vI p3, vI p4, vR b1, vI ((p3 &&& (3 : Int32)) % (3 : Int32)), vI v82, .unset, .unset, .unset, .unset, .unset, .unset, .unset, .unset, .unset, .unset, .unset, .unset, .unset, .unset, .unset] [iI p3]
    refine XS.bipush X81.here hx rfl (hb hby at_234) ?_
    show SA T81 m 236 #[vJ q1, .second, vJ q2, .second, vI p3, vI p4, vR b1, vI ((p3 &&& (3 : Int32)) % (3 : Int32)), vI v82, .unset, .unset, .unset, .unset, .unset, .unset, .unset, .unset, .unset, .unset, .unset, .unset, .unset, .unset, .unset] [iI 7, iI p3]
    refine XS.iushr X81.here hx rfl (hb hby at_236) rfl ?_
    show SA T81 m 237 #[vJ q1, .second, vJ q2, .second, vI p3, vI p4, vR b1, vI ((p3 &&& (3 : Int32)) % (3 : Int32)), vI v82, .unset, .unset, .unset, .unset, .unset, .unset, .unset, .unset, .unset, .unset, .unset, .unset, .unset, .unset, .unset] [iI ((p3.toUInt32 >>> ((7 : Int32) &&& 31).toUInt32).toInt32)]
    refine XS.iconst X81.here hx rfl (hb hby at_237) ?_
    show SA T81 m 238 #[vJ q1, .second, vJ q2, .second, vI p3, vI p4, vR b1, vI ((p3 &&& (3 : Int32)) % (3 : Int32)), vI v82, .unset, .unset, .unset, .unset, .unset, .unset, .unset, .unset, .unset, .unset, .unset, .unset, .unset, .unset, .unset] [iI 1, iI ((p3.toUInt32 >>> ((7 : Int32) &&& 31).toUInt32).toInt32)]
    refine XS.iand X81.here hx rfl (hb hby at_238) rfl ?_
    show SA T81 m 239 #[vJ q1, .second, vJ q2, .second, vI p3, vI p4, vR b1, vI ((p3 &&& (3 : Int32)) % (3 : Int32)), vI v82, .unset, .unset, .unset, .unset, .unset, .unset, .unset, .unset, .unset, .unset, .unset, .unset, .unset, .unset, .unset] [iI (((p3.toUInt32 >>> ((7 : Int32) &&& 31).toUInt32).toInt32) &&& (1 : Int32))]
    refine st84 _ ?_
    show SA T84 m 253 #[vJ q1, .second, vJ q2, .second, vI p3, vI p4, vR b1, vI ((p3 &&& (3 : Int32)) % (3 : Int32)), vI v82, .unset, .unset, .unset, .unset, .unset, .unset, .unset, .unset, .unset, .unset, .unset, .unset, .unset, .unset, .unset] [iI v83]
    refine XS.istore X84.here hx rfl (hb hby at_253) rfl (l' := #[vJ q1, .second, vJ q2, .second, vI p3, vI p4, vR b1, vI ((p3 &&& (3 : Int32)) % (3 : Int32)), vI v82, vI v83, .unset, .unset, .unset, .unset, .unset, .unset, .unset, .unset, .unset, .unset, .unset, .unset, .unset, .unset]) rfl ?_
    show SA T84 m 255 #[vJ q1, .second, vJ q2, .second, vI p3, vI p4, vR b1, vI ((p3 &&& (3 : Int32)) % (3 : Int32)), vI v82, vI v83, .unset, .unset, .unset, .unset, .unset, .unset, .unset, .unset, .unset, .unset, .unset, .unset, .unset, .unset] []
    refine XS.iload X84.here hx rfl (hb hby at_255) rfl ?_
    show SA T84 m 257 #[vJ q1, .second, vJ q2, .second, vI p3, vI p4, vR b1, vI ((p3 &&& (3 : Int32)) % (3 : Int32)), vI v82, vI v83, .unset, .unset, .unset, .unset, .unset, .unset, .unset, .unset, .unset, .unset, .unset, .unset, .unset, .unset] [iI p3]
    refine XS.bipush X84.here hx rfl (hb hby at_257) ?_
    show SA T84 m 259 #[vJ q1, .second, vJ q2, .second, vI p3, vI p4, vR b1, vI ((p3 &&& (3 : Int32)) % (3 : Int32)), vI v82, vI v83, .unset, .unset, .unset, .unset, .unset, .unset, .unset, .unset, .unset, .unset, .unset, .unset, .unset, .unset] [iI 8, iI p3]
    refine XS.iushr X84.here hx rfl (hb hby at_259) rfl ?_
    show SA T84 m 260 #[vJ q1, .second, vJ q2, .second, vI p3, vI p4, vR b1, vI ((p3 &&& (3 : Int32)) % (3 : Int32)), vI v82, vI v83, .unset, .unset, .unset, .unset, .unset, .unset, .unset, .unset, .unset, .unset, .unset, .unset, .unset, .unset] [iI ((p3.toUInt32 >>> ((8 : Int32) &&& 31).toUInt32).toInt32)]
    refine XS.iconst X84.here hx rfl (hb hby at_260) ?_
    show SA T84 m 261 #[vJ q1, .second, vJ q2, .second, vI p3, vI p4, vR b1, vI ((p3 &&& (3 : Int32)) % (3 : Int32)), vI v82, vI v83, .unset, .unset, .unset, .unset, .unset, .unset, .unset, .unset, .unset, .unset, .unset, .unset, .unset, .unset] [iI 1, iI ((p3.toUInt32 >>> ((8 : Int32) &&& 31).toUInt32).toInt32)]
    refine XS.iand X84.here hx rfl (hb hby at_261) rfl ?_
    show SA T84 m 262 #[vJ q1, .second, vJ q2, .second, vI p3, vI p4, vR b1, vI ((p3 &&& (3 : Int32)) % (3 : Int32)), vI v82, vI v83, .unset, .unset, .unset, .unset, .unset, .unset, .unset, .unset, .unset, .unset, .unset, .unset, .unset, .unset] [iI (((p3.toUInt32 >>> ((8 : Int32) &&& 31).toUInt32).toInt32) &&& (1 : Int32))]
    refine st89 _ ?_
    show SA T89 m 270 #[vJ q1, .second, vJ q2, .second, vI p3, vI p4, vR b1, vI ((p3 &&& (3 : Int32)) % (3 : Int32)), vI v82, vI v83, .unset, .unset, .unset, .unset, .unset, .unset, .unset, .unset, .unset, .unset, .unset, .unset, .unset, .unset] [iI v88]
    refine XS.istore X89.here hx rfl (hb hby at_270) rfl (l' := #[vJ q1, .second, vJ q2, .second, vI p3, vI p4, vR b1, vI ((p3 &&& (3 : Int32)) % (3 : Int32)), vI v82, vI v83, vI v88, .unset, .unset, .unset, .unset, .unset, .unset, .unset, .unset, .unset, .unset, .unset, .unset, .unset]) rfl ?_
    show SA T89 m 272 #[vJ q1, .second, vJ q2, .second, vI p3, vI p4, vR b1, vI ((p3 &&& (3 : Int32)) % (3 : Int32)), vI v82, vI v83, vI v88, .unset, .unset, .unset, .unset, .unset, .unset, .unset, .unset, .unset, .unset, .unset, .unset, .unset] []
    refine XS.iload X89.here hx rfl (hb hby at_272) rfl ?_
    show SA T89 m 274 #[vJ q1, .second, vJ q2, .second, vI p3, vI p4, vR b1, vI ((p3 &&& (3 : Int32)) % (3 : Int32)), vI v82, vI v83, vI v88, .unset, .unset, .unset, .unset, .unset, .unset, .unset, .unset, .unset, .unset, .unset, .unset, .unset] [iI p3]
    refine XS.bipush X89.here hx rfl (hb hby at_274) ?_
    show SA T89 m 276 #[vJ q1, .second, vJ q2, .second, vI p3, vI p4, vR b1, vI ((p3 &&& (3 : Int32)) % (3 : Int32)), vI v82, vI v83, vI v88, .unset, .unset, .unset, .unset, .unset, .unset, .unset, .unset, .unset, .unset, .unset, .unset, .unset] [iI 9, iI p3]
    refine XS.iushr X89.here hx rfl (hb hby at_276) rfl ?_
    show SA T89 m 277 #[vJ q1, .second, vJ q2, .second, vI p3, vI p4, vR b1, vI ((p3 &&& (3 : Int32)) % (3 : Int32)), vI v82, vI v83, vI v88, .unset, .unset, .unset, .unset, .unset, .unset, .unset, .unset, .unset, .unset, .unset, .unset, .unset] [iI ((p3.toUInt32 >>> ((9 : Int32) &&& 31).toUInt32).toInt32)]
    refine XS.iconst X89.here hx rfl (hb hby at_277) ?_
    show SA T89 m 278 #[vJ q1, .second, vJ q2, .second, vI p3, vI p4, vR b1, vI ((p3 &&& (3 : Int32)) % (3 : Int32)), vI v82, vI v83, vI v88, .unset, .unset, .unset, .unset, .unset, .unset, .unset, .unset, .unset, .unset, .unset, .unset, .unset] [iI 1, iI ((p3.toUInt32 >>> ((9 : Int32) &&& 31).toUInt32).toInt32)]
    refine XS.iand X89.here hx rfl (hb hby at_278) rfl ?_
    show SA T89 m 279 #[vJ q1, .second, vJ q2, .second, vI p3, vI p4, vR b1, vI ((p3 &&& (3 : Int32)) % (3 : Int32)), vI v82, vI v83, vI v88, .unset, .unset, .unset, .unset, .unset, .unset, .unset, .unset, .unset, .unset, .unset, .unset, .unset] [iI (((p3.toUInt32 >>> ((9 : Int32) &&& 31).toUInt32).toInt32) &&& (1 : Int32))]
    refine st92 _ ?_
    show SA T92 m 289 #[vJ q1, .second, vJ q2, .second, vI p3, vI p4, vR b1, vI ((p3 &&& (3 : Int32)) % (3 : Int32)), vI v82, vI v83, vI v88, .unset, .unset, .unset, .unset, .unset, .unset, .unset, .unset, .unset, .unset, .unset, .unset, .unset] [iI v91]
    refine XS.istore X92.here hx rfl (hb hby at_289) rfl (l' := #[vJ q1, .second, vJ q2, .second, vI p3, vI p4, vR b1, vI ((p3 &&& (3 : Int32)) % (3 : Int32)), vI v82, vI v83, vI v88, vI v91, .unset, .unset, .unset, .unset, .unset, .unset, .unset, .unset, .unset, .unset, .unset, .unset]) rfl ?_
    show SA T92 m 291 #[vJ q1, .second, vJ q2, .second, vI p3, vI p4, vR b1, vI ((p3 &&& (3 : Int32)) % (3 : Int32)), vI v82, vI v83, vI v88, vI v91, .unset, .unset, .unset, .unset, .unset, .unset, .unset, .unset, .unset, .unset, .unset, .unset] []
    refine XS.iload X92.here hx rfl (hb hby at_291) rfl ?_
    show SA T92 m 293 #[vJ q1, .second, vJ q2, .second, vI p3, vI p4, vR b1, vI ((p3 &&& (3 : Int32)) % (3 : Int32)), vI v82, vI v83, vI v88, vI v91, .unset, .unset, .unset, .unset, .unset, .unset, .unset, .unset, .unset, .unset, .unset, .unset] [iI p3]
    refine XS.bipush X92.here hx rfl (hb hby at_293) ?_
    show SA T92 m 295 #[vJ q1, .second, vJ q2, .second, vI p3, vI p4, vR b1, vI ((p3 &&& (3 : Int32)) % (3 : Int32)), vI v82, vI v83, vI v88, vI v91, .unset, .unset, .unset, .unset, .unset, .unset, .unset, .unset, .unset, .unset, .unset, .unset] [iI 10, iI p3]
    refine XS.iushr X92.here hx rfl (hb hby at_295) rfl ?_
    show SA T92 m 296 #[vJ q1, .second, vJ q2, .second, vI p3, vI p4, vR b1, vI ((p3 &&& (3 : Int32)) % (3 : Int32)), vI v82, vI v83, vI v88, vI v91, .unset, .unset, .unset, .unset, .unset, .unset, .unset, .unset, .unset, .unset, .unset, .unset] [iI ((p3.toUInt32 >>> ((10 : Int32) &&& 31).toUInt32).toInt32)]
    refine XS.iconst X92.here hx rfl (hb hby at_296) ?_
    show SA T92 m 297 #[vJ q1, .second, vJ q2, .second, vI p3, vI p4, vR b1, vI ((p3 &&& (3 : Int32)) % (3 : Int32)), vI v82, vI v83, vI v88, vI v91, .unset, .unset, .unset, .unset, .unset, .unset, .unset, .unset, .unset, .unset, .unset, .unset] [iI 3, iI ((p3.toUInt32 >>> ((10 : Int32) &&& 31).toUInt32).toInt32)]
    refine XS.iand X92.here hx rfl (hb hby at_297) rfl ?_
    show SA T92 m 298 #[vJ q1, .second, vJ q2, .second, vI p3, vI p4, vR b1, vI ((p3 &&& (3 : Int32)) % (3 : Int32)), vI v82, vI v83, vI v88, vI v91, .unset, .unset, .unset, .unset, .unset, .unset, .unset, .unset, .unset, .unset, .unset, .unset] [iI (((p3.toUInt32 >>> ((10 : Int32) &&& 31).toUInt32).toInt32) &&& (3 : Int32))]
    refine XS.istore X92.here hx rfl (hb hby at_298) rfl (l' := #[vJ q1, .second, vJ q2, .second, vI p3, vI p4, vR b1, vI ((p3 &&& (3 : Int32)) % (3 : Int32)), vI v82, vI v83, vI v88, vI v91, vI (((p3.toUInt32 >>> ((10 : Int32) &&& 31).toUInt32).toInt32) &&& (3 : Int32)), .unset, .unset, .unset, .unset, .unset, .unset, .unset, .unset, .unset, .unset, .unset]) rfl ?_
    rw [← hv94]
    show SA T92 m 300 #[vJ q1, .second, vJ q2, .second, vI p3, vI p4, vR b1, vI ((p3 &&& (3 : Int32)) % (3 : Int32)), vI v82, vI v83, vI v88, vI v91, vI v94, .unset, .unset, .unset, .unset, .unset, .unset, .unset, .unset, .unset, .unset, .unset] []
    refine XS.iload X92.here hx rfl (hb hby at_300) rfl ?_
    show SA T92 m 302 #[vJ q1, .second, vJ q2, .second, vI p3, vI p4, vR b1, vI ((p3 &&& (3 : Int32)) % (3 : Int32)), vI v82, vI v83, vI v88, vI v91, vI v94, .unset, .unset, .unset, .unset, .unset, .unset, .unset, .unset, .unset, .unset, .unset] [iI p3]
    refine XS.bipush X92.here hx rfl (hb hby at_302) ?_
    show SA T92 m 304 #[vJ q1, .second, vJ q2, .second, vI p3, vI p4, vR b1, vI ((p3 &&& (3 : Int32)) % (3 : Int32)), vI v82, vI v83, vI v88, vI v91, vI v94, .unset, .unset, .unset, .unset, .unset, .unset, .unset, .unset, .unset, .unset, .unset] [iI 12, iI p3]
    refine XS.iushr X92.here hx rfl (hb hby at_304) rfl ?_
    show SA T92 m 305 #[vJ q1, .second, vJ q2, .second, vI p3, vI p4, vR b1, vI ((p3 &&& (3 : Int32)) % (3 : Int32)), vI v82, vI v83, vI v88, vI v91, vI v94, .unset, .unset, .unset, .unset, .unset, .unset, .unset, .unset, .unset, .unset, .unset] [iI ((p3.toUInt32 >>> ((12 : Int32) &&& 31).toUInt32).toInt32)]
    refine XS.iconst X92.here hx rfl (hb hby at_305) ?_
    show SA T92 m 306 #[vJ q1, .second, vJ q2, .second, vI p3, vI p4, vR b1, vI ((p3 &&& (3 : Int32)) % (3 : Int32)), vI v82, vI v83, vI v88, vI v91, vI v94, .unset, .unset, .unset, .unset, .unset, .unset, .unset, .unset, .unset, .unset, .unset] [iI 1, iI ((p3.toUInt32 >>> ((12 : Int32) &&& 31).toUInt32).toInt32)]
    refine XS.iand X92.here hx rfl (hb hby at_306) rfl ?_
    show SA T92 m 307 #[vJ q1, .second, vJ q2, .second, vI p3, vI p4, vR b1, vI ((p3 &&& (3 : Int32)) % (3 : Int32)), vI v82, vI v83, vI v88, vI v91, vI v94, .unset, .unset, .unset, .unset, .unset, .unset, .unset, .unset, .unset, .unset, .unset] [iI (((p3.toUInt32 >>> ((12 : Int32) &&& 31).toUInt32).toInt32) &&& (1 : Int32))]
    refine st96 _ ?_
    show SA T96 m 315 #[vJ q1, .second, vJ q2, .second, vI p3, vI p4, vR b1, vI ((p3 &&& (3 : Int32)) % (3 : Int32)), vI v82, vI v83, vI v88, vI v91, vI v94, .unset, .unset, .unset, .unset, .unset, .unset, .unset, .unset, .unset, .unset, .unset] [iI v95]
    refine XS.istore X96.here hx rfl (hb hby at_315) rfl (l' := #[vJ q1, .second, vJ q2, .second, vI p3, vI p4, vR b1, vI ((p3 &&& (3 : Int32)) % (3 : Int32)), vI v82, vI v83, vI v88, vI v91, vI v94, vI v95, .unset, .unset, .unset, .unset, .unset, .unset, .unset, .unset, .unset, .unset]) rfl ?_
    show SA T96 m 317 #[vJ q1, .second, vJ q2, .second, vI p3, vI p4, vR b1, vI ((p3 &&& (3 : Int32)) % (3 : Int32)), vI v82, vI v83, vI v88, vI v91, vI v94, vI v95, .unset, .unset, .unset, .unset, .unset, .unset, .unset, .unset, .unset, .unset] []
    refine XS.iload X96.here hx rfl (hb hby at_317) rfl ?_
    show SA T96 m 319 #[vJ q1, .second, vJ q2, .second, vI p3, vI p4, vR b1, vI ((p3 &&& (3 : Int32)) % (3 : Int32)), vI v82, vI v83, vI v88, vI v91, vI v94, vI v95, .unset, .unset, .unset, .unset, .unset, .unset, .unset, .unset, .unset, .unset] [iI p4]
    refine XS.bipush X96.here hx rfl (hb hby at_319) ?_
    show SA T96 m 321 #[vJ q1, .second, vJ q2, .second, vI p3, vI p4, vR b1, vI ((p3 &&& (3 : Int32)) % (3 : Int32)), vI v82, vI v83, vI v88, vI v91, vI v94, vI v95, .unset, .unset, .unset, .unset, .unset, .unset, .unset, .unset, .unset, .unset] [iI 31, iI p4]
    refine XS.iand X96.here hx rfl (hb hby at_321) rfl ?_
    show SA T96 m 322 #[vJ q1, .second, vJ q2, .second, vI p3, vI p4, vR b1, vI ((p3 &&& (3 : Int32)) % (3 : Int32)), vI v82, vI v83, vI v88, vI v91, vI v94, vI v95, .unset, .unset, .unset, .unset, .unset, .unset, .unset, .unset, .unset, .unset] [iI (p4 &&& (31 : Int32))]
    refine XS.bipush X96.here hx rfl (hb hby at_322) ?_
    show SA T96 m 324 #[vJ q1, .second, vJ q2, .second, vI p3, vI p4, vR b1, vI ((p3 &&& (3 : Int32)) % (3 : Int32)), vI v82, vI v83, vI v88, vI v91, vI v94, vI v95, .unset, .unset, .unset, .unset, .unset, .unset, .unset, .unset, .unset, .unset] [iI 18, iI (p4 &&& (31 : Int32))]
    refine iremM X96 hx rfl (hb hby at_324) rfl (by decide) ?_
    show SA T96 m 325 #[vJ q1, .second, vJ q2, .second, vI p3, vI p4, vR b1, vI ((p3 &&& (3 : Int32)) % (3 : Int32)), vI v82, vI v83, vI v88, vI v91, vI v94, vI v95, .unset, .unset, .unset, .unset, .unset, .unset, .unset, .unset, .unset, .unset] [iI ((p4 &&& (31 : Int32)) % (18 : Int32))]
    refine XS.istore X96.here hx rfl (hb hby at_325) rfl (l' := #[vJ q1, .second, vJ q2, .second, vI p3, vI p4, vR b1, vI ((p3 &&& (3 : Int32)) % (3 : Int32)), vI v82, vI v83, vI v88, vI v91, vI v94, vI v95, vI ((p4 &&& (31 : Int32)) % (18 : Int32)), .unset, .unset, .unset, .unset, .unset, .unset, .unset, .unset, .unset]) rfl ?_
    show SA T96 m 327 #[vJ q1, .second, vJ q2, .second, vI p3, vI p4, vR b1, vI ((p3 &&& (3 : Int32)) % (3 : Int32)), vI v82, vI v83, vI v88, vI v91, vI v94, vI v95, vI ((p4 &&& (31 : Int32)) % (18 : Int32)), .unset, .unset, .unset, .unset, .unset, .unset, .unset, .unset, .unset] []
    refine XS.iload X96.here hx rfl (hb hby at_327) rfl ?_
    show SA T96 m 329 #[vJ q1, .second, vJ q2, .second, vI p3, vI p4, vR b1, vI ((p3 &&& (3 : Int32)) % (3 : Int32)), vI v82, vI v83, vI v88, vI v91, vI v94, vI v95, vI ((p4 &&& (31 : Int32)) % (18 : Int32)), .unset, .unset, .unset, .unset, .unset, .unset, .unset, .unset, .unset] [iI p4]
    refine XS.iconst X96.here hx rfl (hb hby at_329) ?_
    show SA T96 m 330 #[vJ q1, .second, vJ q2, .second, vI p3, vI p4, vR b1, vI ((p3 &&& (3 : Int32)) % (3 : Int32)), vI v82, vI v83, vI v88, vI v91, vI v94, vI v95, vI ((p4 &&& (31 : Int32)) % (18 : Int32)), .unset, .unset, .unset, .unset, .unset, .unset, .unset, .unset, .unset] [iI 5, iI p4]
    refine XS.iushr X96.here hx rfl (hb hby at_330) rfl ?_
    show SA T96 m 331 #[vJ q1, .second, vJ q2, .second, vI p3, vI p4, vR b1, vI ((p3 &&& (3 : Int32)) % (3 : Int32)), vI v82, vI v83, vI v88, vI v91, vI v94, vI v95, vI ((p4 &&& (31 : Int32)) % (18 : Int32)), .unset, .unset, .unset, .unset, .unset, .unset, .unset, .unset, .unset] [iI ((p4.toUInt32 >>> ((5 : Int32) &&& 31).toUInt32).toInt32)]
    refine XS.bipush X96.here hx rfl (hb hby at_331) ?_
    show SA T96 m 333 #[vJ q1, .second, vJ q2, .second, vI p3, vI p4, vR b1, vI ((p3 &&& (3 : Int32)) % (3 : Int32)), vI v82, vI v83, vI v88, vI v91, vI v94, vI v95, vI ((p4 &&& (31 : Int32)) % (18 : Int32)), .unset, .unset, .unset, .unset, .unset, .unset, .unset, .unset, .unset] [iI 31, iI ((p4.toUInt32 >>> ((5 : Int32) &&& 31).toUInt32).toInt32)]
    refine XS.iand X96.here hx rfl (hb hby at_333) rfl ?_
    show SA T96 m 334 #[vJ q1, .second, vJ q2, .second, vI p3, vI p4, vR b1, vI ((p3 &&& (3 : Int32)) % (3 : Int32)), vI v82, vI v83, vI v88, vI v91, vI v94, vI v95, vI ((p4 &&& (31 : Int32)) % (18 : Int32)), .unset, .unset, .unset, .unset, .unset, .unset, .unset, .unset, .unset] [iI (((p4.toUInt32 >>> ((5 : Int32) &&& 31).toUInt32).toInt32) &&& (31 : Int32))]
    refine XS.bipush X96.here hx rfl (hb hby at_334) ?_
    show SA T96 m 336 #[vJ q1, .second, vJ q2, .second, vI p3, vI p4, vR b1, vI ((p3 &&& (3 : Int32)) % (3 : Int32)), vI v82, vI v83, vI v88, vI v91, vI v94, vI v95, vI ((p4 &&& (31 : Int32)) % (18 : Int32)), .unset, .unset, .unset, .unset, .unset, .unset, .unset, .unset, .unset] [iI 18, iI (((p4.toUInt32 >>> ((5 : Int32) &&& 31).toUInt32).toInt32) &&& (31 : Int32))]
    refine iremM X96 hx rfl (hb hby at_336) rfl (by decide) ?_
    show SA T96 m 337 #[vJ q1, .second, vJ q2, .second, vI p3, vI p4, vR b1, vI ((p3 &&& (3 : Int32)) % (3 : Int32)), vI v82, vI v83, vI v88, vI v91, vI v94, vI v95, vI ((p4 &&& (31 : Int32)) % (18 : Int32)), .unset, .unset, .unset, .unset, .unset, .unset, .unset, .unset, .unset] [iI ((((p4.toUInt32 >>> ((5 : Int32) &&& 31).toUInt32).toInt32) &&& (31 : Int32)) % (18 : Int32))]
    refine XS.istore X96.here hx rfl (hb hby at_337) rfl (l' := #[vJ q1, .second, vJ q2, .second, vI p3, vI p4, vR b1, vI ((p3 &&& (3 : Int32)) % (3 : Int32)), vI v82, vI v83, vI v88, vI v91, vI v94, vI v95, vI ((p4 &&& (31 : Int32)) % (18 : Int32)), vI ((((p4.toUInt32 >>> ((5 : Int32) &&& 31).toUInt32).toInt32) &&& (31 : Int32)) % (18 : Int32)), .unset, .unset, .unset, .unset, .unset, .unset, .unset, .unset]) rfl ?_
    rw [← hv98]
    show SA T96 m 339 #[vJ q1, .second, vJ q2, .second, vI p3, vI p4, vR b1, vI ((p3 &&& (3 : Int32)) % (3 : Int32)), vI v82, vI v83, vI v88, vI v91, vI v94, vI v95, vI ((p4 &&& (31 : Int32)) % (18 : Int32)), vI v98, .unset, .unset, .unset, .unset, .unset, .unset, .unset, .unset] []
    refine XS.iload X96.here hx rfl (hb hby at_339) rfl ?_
    show SA T96 m 341 #[vJ q1, .second, vJ q2, .second, vI p3, vI p4, vR b1, vI ((p3 &&& (3 : Int32)) % (3 : Int32)), vI v82, vI v83, vI v88, vI v91, vI v94, vI v95, vI ((p4 &&& (31 : Int32)) % (18 : Int32)), vI v98, .unset, .unset, .unset, .unset, .unset, .unset, .unset, .unset] [iI v83]
    refine st100 _ ?_
    show SA T100 m 349 #[vJ q1, .second, vJ q2, .second, vI p3, vI p4, vR b1, vI ((p3 &&& (3 : Int32)) % (3 : Int32)), vI v82, vI v83, vI v88, vI v91, vI v94, vI v95, vI ((p4 &&& (31 : Int32)) % (18 : Int32)), vI v98, .unset, .unset, .unset, .unset, .unset, .unset, .unset, .unset] [iI v99]
    refine XS.istore X100.here hx rfl (hb hby at_349) rfl (l' := #[vJ q1, .second, vJ q2, .second, vI p3, vI p4, vR b1, vI ((p3 &&& (3 : Int32)) % (3 : Int32)), vI v82, vI v83, vI v88, vI v91, vI v94, vI v95, vI ((p4 &&& (31 : Int32)) % (18 : Int32)), vI v98, vI v99, .unset, .unset, .unset, .unset, .unset, .unset, .unset]) rfl ?_
    show SA T100 m 351 #[vJ q1, .second, vJ q2, .second, vI p3, vI p4, vR b1, vI ((p3 &&& (3 : Int32)) % (3 : Int32)), vI v82, vI v83, vI v88, vI v91, vI v94, vI v95, vI ((p4 &&& (31 : Int32)) % (18 : Int32)), vI v98, vI v99, .unset, .unset, .unset, .unset, .unset, .unset, .unset] []
    refine XS.iload X100.here hx rfl (hb hby at_351) rfl ?_
    show SA T100 m 353 #[vJ q1, .second, vJ q2, .second, vI p3, vI p4, vR b1, vI ((p3 &&& (3 : Int32)) % (3 : Int32)), vI v82, vI v83, vI v88, vI v91, vI v94, vI v95, vI ((p4 &&& (31 : Int32)) % (18 : Int32)), vI v98, vI v99, .unset, .unset, .unset, .unset, .unset, .unset, .unset] [iI v94]
    refine XS.iconst X100.here hx rfl (hb hby at_353) ?_
    show SA T100 m 354 #[vJ q1, .second, vJ q2, .second, vI p3, vI p4, vR b1, vI ((p3 &&& (3 : Int32)) % (3 : Int32)), vI v82, vI v83, vI v88, vI v91, vI v94, vI v95, vI ((p4 &&& (31 : Int32)) % (18 : Int32)), vI v98, vI v99, .unset, .unset, .unset, .unset, .unset, .unset, .unset] [iI 1, iI v94]
    refine st103 _ ?_
    show SA T103 m 368 #[vJ q1, .second, vJ q2, .second, vI p3, vI p4, vR b1, vI ((p3 &&& (3 : Int32)) % (3 : Int32)), vI v82, vI v83, vI v88, vI v91, vI v94, vI v95, vI ((p4 &&& (31 : Int32)) % (18 : Int32)), vI v98, vI v99, .unset, .unset, .unset, .unset, .unset, .unset, .unset] [iI v102]
    refine XS.istore X103.here hx rfl (hb hby at_368) rfl (l' := #[vJ q1, .second, vJ q2, .second, vI p3, vI p4, vR b1, vI ((p3 &&& (3 : Int32)) % (3 : Int32)), vI v82, vI v83, vI v88, vI v91, vI v94, vI v95, vI ((p4 &&& (31 : Int32)) % (18 : Int32)), vI v98, vI v99, vI v102, .unset, .unset, .unset, .unset, .unset, .unset]) rfl ?_
    show SA T103 m 370 #[vJ q1, .second, vJ q2, .second, vI p3, vI p4, vR b1, vI ((p3 &&& (3 : Int32)) % (3 : Int32)), vI v82, vI v83, vI v88, vI v91, vI v94, vI v95, vI ((p4 &&& (31 : Int32)) % (18 : Int32)), vI v98, vI v99, vI v102, .unset, .unset, .unset, .unset, .unset, .unset] []
    refine XS.iload X103.here hx rfl (hb hby at_370) rfl ?_
    show SA T103 m 372 #[vJ q1, .second, vJ q2, .second, vI p3, vI p4, vR b1, vI ((p3 &&& (3 : Int32)) % (3 : Int32)), vI v82, vI v83, vI v88, vI v91, vI v94, vI v95, vI ((p4 &&& (31 : Int32)) % (18 : Int32)), vI v98, vI v99, vI v102, .unset, .unset, .unset, .unset, .unset, .unset] [iI v88]
    refine st108 _ ?_
    show SA T108 m 401 #[vJ q1, .second, vJ q2, .second, vI p3, vI p4, vR b1, vI ((p3 &&& (3 : Int32)) % (3 : Int32)), vI v82, vI v83, vI v88, vI v91, vI v94, vI v95, vI ((p4 &&& (31 : Int32)) % (18 : Int32)), vI v98, vI v99, vI v102, .unset, .unset, .unset, .unset, .unset, .unset] [iI v107]
    refine XS.istore X108.here hx rfl (hb hby at_401) rfl (l' := #[vJ q1, .second, vJ q2, .second, vI p3, vI p4, vR b1, vI ((p3 &&& (3 : Int32)) % (3 : Int32)), vI v82, vI v83, vI v88, vI v91, vI v94, vI v95, vI ((p4 &&& (31 : Int32)) % (18 : Int32)), vI v98, vI v99, vI v102, vI v107, .unset, .unset, .unset, .unset, .unset]) rfl ?_
    show SA T108 m 403 #[vJ q1, .second, vJ q2, .second, vI p3, vI p4, vR b1, vI ((p3 &&& (3 : Int32)) % (3 : Int32)), vI v82, vI v83, vI v88, vI v91, vI v94, vI v95, vI ((p4 &&& (31 : Int32)) % (18 : Int32)), vI v98, vI v99, vI v102, vI v107, .unset, .unset, .unset, .unset, .unset] []
    refine XS.iload X108.here hx rfl (hb hby at_403) rfl ?_
    show SA T108 m 405 #[vJ q1, .second, vJ q2, .second, vI p3, vI p4, vR b1, vI ((p3 &&& (3 : Int32)) % (3 : Int32)), vI v82, vI v83, vI v88, vI v91, vI v94, vI v95, vI ((p4 &&& (31 : Int32)) % (18 : Int32)), vI v98, vI v99, vI v102, vI v107, .unset, .unset, .unset, .unset, .unset] [iI v107]
    refine st115 _ ?_
    show SA T115 m 415 #[vJ q1, .second, vJ q2, .second, vI p3, vI p4, vR b1, vI ((p3 &&& (3 : Int32)) % (3 : Int32)), vI v82, vI v83, vI v88, vI v91, vI v94, vI v95, vI ((p4 &&& (31 : Int32)) % (18 : Int32)), vI v98, vI v99, vI v102, vI v107, .unset, .unset, .unset, .unset, .unset] [iI v114]
    refine XS.istore X115.here hx rfl (hb hby at_415) rfl (l' := #[vJ q1, .second, vJ q2, .second, vI p3, vI p4, vR b1, vI ((p3 &&& (3 : Int32)) % (3 : Int32)), vI v82, vI v83, vI v88, vI v91, vI v94, vI v95, vI ((p4 &&& (31 : Int32)) % (18 : Int32)), vI v98, vI v99, vI v102, vI v107, vI v114, .unset, .unset, .unset, .unset]) rfl ?_
    show SA T115 m 417 #[vJ q1, .second, vJ q2, .second, vI p3, vI p4, vR b1, vI ((p3 &&& (3 : Int32)) % (3 : Int32)), vI v82, vI v83, vI v88, vI v91, vI v94, vI v95, vI ((p4 &&& (31 : Int32)) % (18 : Int32)), vI v98, vI v99, vI v102, vI v107, vI v114, .unset, .unset, .unset, .unset] []
    refine XS.iload X115.here hx rfl (hb hby at_417) rfl ?_
    show SA T115 m 419 #[vJ q1, .second, vJ q2, .second, vI p3, vI p4, vR b1, vI ((p3 &&& (3 : Int32)) % (3 : Int32)), vI v82, vI v83, vI v88, vI v91, vI v94, vI v95, vI ((p4 &&& (31 : Int32)) % (18 : Int32)), vI v98, vI v99, vI v102, vI v107, vI v114, .unset, .unset, .unset, .unset] [iI v95]
    refine st118 _ ?_
    show SA T118 m 445 #[vJ q1, .second, vJ q2, .second, vI p3, vI p4, vR b1, vI ((p3 &&& (3 : Int32)) % (3 : Int32)), vI v82, vI v83, vI v88, vI v91, vI v94, vI v95, vI ((p4 &&& (31 : Int32)) % (18 : Int32)), vI v98, vI v99, vI v102, vI v107, vI v114, .unset, .unset, .unset, .unset] [iI v117]
    refine XS.istore X118.here hx rfl (hb hby at_445) rfl (l' := #[vJ q1, .second, vJ q2, .second, vI p3, vI p4, vR b1, vI ((p3 &&& (3 : Int32)) % (3 : Int32)), vI v82, vI v83, vI v88, vI v91, vI v94, vI v95, vI ((p4 &&& (31 : Int32)) % (18 : Int32)), vI v98, vI v99, vI v102, vI v107, vI v114, vI v117, .unset, .unset, .unset]) rfl ?_
    show SA T118 m 447 #[vJ q1, .second, vJ q2, .second, vI p3, vI p4, vR b1, vI ((p3 &&& (3 : Int32)) % (3 : Int32)), vI v82, vI v83, vI v88, vI v91, vI v94, vI v95, vI ((p4 &&& (31 : Int32)) % (18 : Int32)), vI v98, vI v99, vI v102, vI v107, vI v114, vI v117, .unset, .unset, .unset] []
    refine XS.iload X118.here hx rfl (hb hby at_447) rfl ?_
    show SA T118 m 449 #[vJ q1, .second, vJ q2, .second, vI p3, vI p4, vR b1, vI ((p3 &&& (3 : Int32)) % (3 : Int32)), vI v82, vI v83, vI v88, vI v91, vI v94, vI v95, vI ((p4 &&& (31 : Int32)) % (18 : Int32)), vI v98, vI v99, vI v102, vI v107, vI v114, vI v117, .unset, .unset, .unset] [iI v117]
    refine st125 _ ?_
    show SA T125 m 459 #[vJ q1, .second, vJ q2, .second, vI p3, vI p4, vR b1, vI ((p3 &&& (3 : Int32)) % (3 : Int32)), vI v82, vI v83, vI v88, vI v91, vI v94, vI v95, vI ((p4 &&& (31 : Int32)) % (18 : Int32)), vI v98, vI v99, vI v102, vI v107, vI v114, vI v117, .unset, .unset, .unset] [iI v124]
    refine XS.istore X125.here hx rfl (hb hby at_459) rfl (l' := #[vJ q1, .second, vJ q2, .second, vI p3, vI p4, vR b1, vI ((p3 &&& (3 : Int32)) % (3 : Int32)), vI v82, vI v83, vI v88, vI v91, vI v94, vI v95, vI ((p4 &&& (31 : Int32)) % (18 : Int32)), vI v98, vI v99, vI v102, vI v107, vI v114, vI v117, vI v124, .unset, .unset]) rfl ?_
    exact kt
  obtain ⟨s₂, o₂, hs₂, hr₂⟩ := own_t461 (cc := b1) (fr := ((p3 &&& (3 : Int32)) % (3 : Int32))) (ln := v82) (ng_ := v83) (he_ := v88) (ec_ := v91) (sg_ := v94) (hd_ := v95) (ep_ := ((p4 &&& (31 : Int32)) % (18 : Int32))) (dp_ := v98) (sv_ := v99) (sl_ := v102) (xo_ := v107) (en_ := v114) (dk_ := v117) (ie_ := v124) (kc := k1) (CL := [(nar .char (own_d q1 (0 : Int32))), (nar .char (own_d q1 (1 : Int32))), (nar .char (own_d q1 (2 : Int32))), (nar .char (own_d q1 (3 : Int32))), (nar .char (own_d q1 (4 : Int32))), (nar .char (own_d q1 (5 : Int32))), (nar .char (own_d q1 (6 : Int32))), (nar .char (own_d q1 (7 : Int32))), (nar .char (own_d q1 (8 : Int32))), (nar .char (own_d q1 (9 : Int32))), (nar .char (own_d q1 (10 : Int32))), (nar .char (own_d q1 (11 : Int32))), (nar .char (own_d q1 (12 : Int32))), (nar .char (own_d q1 (13 : Int32))), (nar .char (own_d q1 (14 : Int32))), (nar .char (own_d q1 (15 : Int32))), (nar .char (own_d q2 (0 : Int32))), (nar .char (own_d q2 (1 : Int32))), (nar .char (own_d q2 (2 : Int32))), (nar .char (own_d q2 (3 : Int32)))]) (s := s) (vmT := s.vm) X125 hx hZ hw hby hml hown Bd.returns (by first | assumption | exact BodyLoose.notSynchronized (by assumption) | exact Body.notSynchronized (by assumption)) e125 K81 N81 Z0 O0 ((State.WarmedH.refl s).since 0) (Nat.zero_le _) R147 hh V81 g_b1 sz_b1 S147_b1 rfl (by intro x hx; simp only [List.mem_cons, List.not_mem_nil, or_false] at hx; rcases hx with rfl | rfl | rfl | rfl | rfl | rfl | rfl | rfl | rfl | rfl | rfl | rfl | rfl | rfl | rfl | rfl | rfl | rfl | rfl | rfl <;> exact own_okd _ _) (own_rem3 _) (by rw [hv82]; exact own_len18 _) ⟨(own_01 hv99).1, Int.le_trans (own_01 hv99).2 (by decide)⟩ (own_rem18 _) (by rw [hv98]; exact own_rem18 _) (own_rx (own_rem18 _) (own_01b hv102) hv107) (own_ec hv91) S_T TB hTt S_CS h_cs S_F h_fm
  exact ⟨s₂, o₂, pre148 _ hs₂, hr₂⟩
theorem own_eqInt {args : Array Value} {s : State} {idx : List Nat} {t : Term} {k : Int32} {x : Value} (e1 : t.eval args s none idx s = some x) (h : (Jvm.Cond.eq t (Term.int k)).value args s none s idx = some true) : x = .int k := by
  have e2 : (Term.int k).eval args s none idx s = some (.int k) := Term.int_eval k
  simp only [Cond.value, e1, e2] at h
  cases x <;> simp at h
  rw [h]
theorem own_len {args : Array Value} {s : State} {t : Term} {a : Addr} {cl : Cell} {ty : FieldType} {n : Int32} (ht : t.eval args s none [] s = some (.ref a)) (A : Arr s s.heap a cl ty) (h : (Jvm.Cond.eq (Term.length t) (Term.int n)).value args s none s [] = some true) : cl.slots.size < 2 ^ 31 ∧ cl.slots.size.toInt32 = n := by
  obtain ⟨x, y, e1, e2, -, -⟩ := cmp_v (Or.inl h)
  have hx := own_eqInt e1 h
  have ha : s.arrayAt? a = some cl := A.fin (Vm.Alike.refl _)
  by_cases hl : cl.slots.size < 2 ^ 31
  · have e3 := len_f (first := s) (o := none) (idx := []) ht ha hl
    have e4 := Option.some.inj (e3.symm.trans e1)
    rw [hx] at e4
    exact ⟨hl, Value.int.inj e4⟩
  · simp [Term.eval, ht, ha, hl] at e1
theorem own_elem {args : Array Value} {s : State} {idx : List Nat} {t k : Term} {a : Addr} {cl : Cell} {j b : Int32} (ht : t.eval args s none idx s = some (.ref a)) (hj : k.eval args s none idx s = some (.int j)) (hc : s.heap[a]? = some cl) (h : (Jvm.Cond.eq (Term.elem t k) (Term.int b)).value args s none s idx = some true) : cl.slots[j.toNatClampNeg]? = some (.int b) := by
  obtain ⟨x, y, e1, e2, -, -⟩ := cmp_v (Or.inl h)
  have hx := own_eqInt e1 h
  rw [← hx]
  exact (elem_in e1 ht hj hc).2
theorem own_or {args : Array Value} {s : State} {idx : List Nat} {c d : Jvm.Cond} (h : (Jvm.Cond.or c d).value args s none s idx = some true) : c.value args s none s idx = some true ∨ d.value args s none s idx = some true := by
  cases hc : c.value args s none s idx with
  | none => simp [Cond.value, hc] at h
  | some b =>
    cases b
    · rw [Cond.or_of_right hc] at h; exact Or.inr h
    · exact Or.inl rfl

theorem comes_1 {Post : Tables → Env → Array Value → State → Outcome → State → Prop} (hpost : ∀ tb e args s v u, (limb_1_1.after args s (.returned v) u = true ∧ limb_1_2.after args s (.returned v) u = true ∧ True) → ReturnedEndW s (.returned v) u (Jvm.fieldLocs frame_1_writes args s ++ Jvm.arrayLocs frame_1_arrays args s ++ Jvm.staticLocs frame_1_statics s) 24 1216 → Post tb e args s (.returned v) u) :
    ArmFor flags0 classFile x code maxLocals ret World_1 tables_1 room_1 Calls_1 rest_1 Pre_1 Post := by
  intro l hfl _ _ p e ha hc hk s m args below hf hA hF happ hP
  obtain ⟨hcalls, hrest, hpre⟩ := hP
  obtain ⟨-, -, -, hnamed, -, -, -, hat⟩ := (Spec.applies_iff hf).mp happ
  obtain ⟨hg, hn⟩ := and_e (Cond.before_iff.mp (show (Jvm.Cond.and given_1 narrow_1).before args s = true from hpre))
  obtain ⟨gc, gr0⟩ := and_e hg
  obtain ⟨ga0, gr1⟩ := and_e gr0
  obtain ⟨ga1, gr2⟩ := and_e gr1
  obtain ⟨ga2, gr3⟩ := and_e gr2
  obtain ⟨w0, w1, w2, w3, rfl⟩ : ∃ w0 w1 w2 w3 : Value, args = #[w0, w1, w2, w3] := by
    have hs : args.size = 4 := by simpa [Cond.value, given_1] using gc
    obtain ⟨L⟩ := args
    match L, hs with
    | [w0, w1, w2, w3], _ => exact ⟨w0, w1, w2, w3, rfl⟩
  have hw := fun d (hd : d ∈ tables_1) => atoms_spec (ws := Jvm.Cond.code x code maxLocals ret :: tables_1) hat d (List.mem_cons_of_mem _ hd)
  have hfit : Fit s := fun {y c} hc i hi => by
    obtain ⟨ha, rfl⟩ := Array.getElem?_eq_some_iff.mp hc
    have q := List.all_eq_true.mp ((Array.all_eq_true_iff_forall_mem.mp hF) _ (Array.getElem_mem ha)) i (List.mem_range.mpr hi)
    simpa [Array.getElem?_eq_getElem hi] using q
  obtain ⟨hsets, hown0⟩ := atoms_of _ (rest_1_c_eq ▸ (show rest_1_c.before _ s = true from hrest))
  have hr0 := Cond.before_iff.mp hown0
  obtain ⟨i0, ei0⟩ := isL_v ga0
  obtain rfl : w0 = (.long i0) := Option.some.inj ei0
  obtain ⟨i1, ei1⟩ := isL_v ga1
  obtain rfl : w1 = (.long i1) := Option.some.inj ei1
  obtain ⟨i2, ei2⟩ := is_v ga2
  obtain rfl : w2 = (.int i2) := Option.some.inj ei2
  obtain ⟨i3, ei3⟩ := is_v gr3
  obtain rfl : w3 = (.int i3) := Option.some.inj ei3
  obtain ⟨u0, t0⟩ := and_e hn
  obtain ⟨u1, t1⟩ := and_e t0
  obtain ⟨u2, t2⟩ := and_e t1
  obtain ⟨u3, t3⟩ := and_e t2
  obtain ⟨u4, t4⟩ := and_e t3
  obtain ⟨u5, t5⟩ := and_e t4
  obtain ⟨u6, t6⟩ := and_e t5
  obtain ⟨u7, t7⟩ := and_e t6
  obtain ⟨u8, t8⟩ := and_e t7
  obtain ⟨u9, t9⟩ := and_e t8
  have u10 := t9
  obtain ⟨s_T, evT⟩ := arr_v u0
  obtain ⟨cl, Ar⟩ := Arr.start evT u0
  obtain ⟨hl1, hl2⟩ := own_len evT Ar u1
  have S_T : Sta s s.heap "com/example/plainjson/plainjson/JsonNumber" "PACK_CODES" "[B" (.ref s_T) := Sta.start evT (Or.inr ⟨(ww hw 9 rfl), (ww hw 17 rfl)⟩)
  have TB : Tab s s.heap s_T cl .byte (59 : Int32) := Tab.start hfit Ar (by simp) hl1 hl2 (by decide)
  have a0 : atv cl 0 = 15 := atv_of (own_elem evT (Term.int_eval _) Ar.1 u2)
  have a1 : atv cl 1 = 0 := atv_of (own_elem evT (Term.int_eval _) Ar.1 u3)
  have a2 : atv cl 2 = 12 := atv_of (own_elem evT (Term.int_eval _) Ar.1 u4)
  have a3 : atv cl 3 = 11 := atv_of (own_elem evT (Term.int_eval _) Ar.1 u5)
  have a26 : atv cl 26 = 14 := atv_of (own_elem evT (Term.int_eval _) Ar.1 u8)
  have a58 : atv cl 58 = 13 := atv_of (own_elem evT (Term.int_eval _) Ar.1 u10)
  have aS : ∀ j : Int32, ¬ j < (0 : Int32) → j < (59 : Int32) → (4 : Int32) ≤ j → j < (15 : Int32) → atv cl j = j - 4 := by
    intro j h0 h1 h4 h15
    have hi : j.toNatClampNeg < cl.slots.size := Nat.lt_of_not_le fun q => (inb_of TB.2.1 ⟨h0, h1⟩) (Or.inr q)
    rcases own_or (Cond.all_elim evT (Ar.fin (Vm.Alike.refl _)) u6 _ hi) with q | q
    · exact absurd (gotT (Cond.lt_ints (idx_at h0) (Term.int_eval _)) q) (by rw [Int32.lt_iff_toInt_lt]; rw [Int32.le_iff_toInt_le] at h4; omega)
    rcases own_or q with q | q
    · exact absurd (gotT (Cond.le_ints (Term.int_eval _) (idx_at h0)) q) (by rw [Int32.le_iff_toInt_le]; rw [Int32.lt_iff_toInt_lt] at h15; omega)
    obtain ⟨x, y, e1, e2, -, -⟩ := cmp_v (Or.inl q)
    have hy : y = .int (j - 4) := Option.some.inj (e2.symm.trans (Term.sub_int (idx_at h0) (Term.int_eval _)))
    have hx : x = .int (j - 4) := by
      simp only [Cond.value, e1, e2, hy] at q
      cases x <;> simp at q
      rw [q]
    have h5 := (elem_in e1 evT (idx_at h0) Ar.1).2
    rw [hx] at h5
    exact atv_of h5
  have hTt : ∀ x ∈ own_chars, atv cl (x - (43 : Int32)) = own_cd x := by
    intro x hx
    simp only [own_chars, List.mem_cons, List.not_mem_nil, or_false] at hx
    rcases hx with rfl | rfl | rfl | rfl | rfl | rfl | rfl | rfl | rfl | rfl | rfl | rfl | rfl | rfl | rfl
    · rw [(by decide : (48 : Int32) - (43 : Int32) = 5), (by decide : own_cd 48 = 1)]; exact (aS 5 (by decide) (by decide) (by decide) (by decide)).trans (by decide)
    · rw [(by decide : (49 : Int32) - (43 : Int32) = 6), (by decide : own_cd 49 = 2)]; exact (aS 6 (by decide) (by decide) (by decide) (by decide)).trans (by decide)
    · rw [(by decide : (50 : Int32) - (43 : Int32) = 7), (by decide : own_cd 50 = 3)]; exact (aS 7 (by decide) (by decide) (by decide) (by decide)).trans (by decide)
    · rw [(by decide : (51 : Int32) - (43 : Int32) = 8), (by decide : own_cd 51 = 4)]; exact (aS 8 (by decide) (by decide) (by decide) (by decide)).trans (by decide)
    · rw [(by decide : (52 : Int32) - (43 : Int32) = 9), (by decide : own_cd 52 = 5)]; exact (aS 9 (by decide) (by decide) (by decide) (by decide)).trans (by decide)
    · rw [(by decide : (53 : Int32) - (43 : Int32) = 10), (by decide : own_cd 53 = 6)]; exact (aS 10 (by decide) (by decide) (by decide) (by decide)).trans (by decide)
    · rw [(by decide : (54 : Int32) - (43 : Int32) = 11), (by decide : own_cd 54 = 7)]; exact (aS 11 (by decide) (by decide) (by decide) (by decide)).trans (by decide)
    · rw [(by decide : (55 : Int32) - (43 : Int32) = 12), (by decide : own_cd 55 = 8)]; exact (aS 12 (by decide) (by decide) (by decide) (by decide)).trans (by decide)
    · rw [(by decide : (56 : Int32) - (43 : Int32) = 13), (by decide : own_cd 56 = 9)]; exact (aS 13 (by decide) (by decide) (by decide) (by decide)).trans (by decide)
    · rw [(by decide : (57 : Int32) - (43 : Int32) = 14), (by decide : own_cd 57 = 10)]; exact (aS 14 (by decide) (by decide) (by decide) (by decide)).trans (by decide)
    · rw [(by decide : (46 : Int32) - (43 : Int32) = 3), (by decide : own_cd 46 = 11)]; exact a3
    · rw [(by decide : (45 : Int32) - (43 : Int32) = 2), (by decide : own_cd 45 = 12)]; exact a2
    · rw [(by decide : (101 : Int32) - (43 : Int32) = 58), (by decide : own_cd 101 = 13)]; exact a58
    · rw [(by decide : (69 : Int32) - (43 : Int32) = 26), (by decide : own_cd 69 = 14)]; exact a26
    · rw [(by decide : (43 : Int32) - (43 : Int32) = 0), (by decide : own_cd 43 = 15)]; exact a0
  obtain ⟨cs, evCS⟩ := is_v (Cond.before_iff.mp (hsets _ (List.mem_of_getElem? (i := 1) rfl)))
  have S_CS : Sta s s.heap "java/lang/String" "COMPACT_STRINGS" "Z" (.int cs) := Sta.start evCS (Or.inl (hsets _ (List.mem_of_getElem? (i := 0) rfl)))
  have h_cs : ¬ cs = (0 : Int32) := fun q => by
    have q1 := not_v (Cond.before_iff.mp (hsets _ (List.mem_of_getElem? (i := 2) rfl)))
    rw [Cond.eq_ints evCS (Term.int_eval 0), q] at q1; exact absurd q1 (by simp)
  obtain ⟨fm, evF, h_fm⟩ := isR_v (Cond.before_iff.mp (hsets _ (List.mem_of_getElem? (i := 8) rfl)))
  have S_F : Sta s s.heap "jdk/internal/util/Preconditions" "SIOOBE_FORMATTER" "Ljava/util/function/BiFunction;" fm := Sta.start evF (Or.inl (hsets _ (List.mem_of_getElem? (i := 7) rfl)))
  have hC0 : CHv s consts_1 s.vm s.heap := CHv.start (own_EW hw) hcalls.1 (hsets _ (List.mem_of_getElem? (i := 2) rfl)) (ww hw 53 rfl) (ww hw 64 rfl)
  obtain ⟨n, o, h1, h2, h3, _, L, rfl, Qv, hq⟩ := rm0 l s _ hw tables_1 i0 i1 i2 i3 s_T cl cs fm s.heap s.heap.size (Nat.le_refl _) (Old.start s) S_T TB hTt S_CS h_cs S_F h_fm p e ha hc hk s m _ below hf ((Spec.applies_iff_loose hf).mp happ).1 ⟨rfl, State.Warmed39.refl s, rfl, hC0⟩ trivial
  obtain ⟨rfl, N⟩ := Qv
  refine ⟨n, _, h1, h2, h3, hpost _ _ _ _ _ _ ⟨Cond.after_iff.mpr rfl, Cond.after_iff.mpr (eq_i res_at (Term.int_eval (1)) rfl), trivial⟩ ⟨hq.1, hq.2.1, hq.2.2.1, (hq.2.2.2.sift fun y hy => Or.inr (N y hy)).mono (by decide) (by decide)⟩⟩
theorem main_1_1 : Claimed_1_1 := comes_1 fun _ _ _ _ _ _ h hF => ⟨h.1, hF⟩
theorem main_1_2 : Claimed_1_2 := comes_1 fun _ _ _ _ _ _ h hF => ⟨h.2.1, hF⟩
end Jvm.Pilot.@@N@@
namespace Jvm.Pilot.@@N@@
open Jvm Jvm.ClassFile Sem Op Lib Jvm.Free Jvm.Stand Jvm.Pilot.@@N@@.Jvm.D
/-! MADE BY PROGRAM (witnessworld.py) out of the Statement's table words and the real class files: 27 classes; the members and pool entries that the words name. The judged class is class 1, her method 3. -/
namespace start1
open Jvm.ClassFile
def u (s : String) : CpInfo := .utf8 (stringToUtf16 s)
/-- a pool by its gaps: so many unusable entries, then the entry; so many at the end -/
def gap : Nat → List CpInfo → List CpInfo
  | 0, r => r
  | n + 1, r => .unusable :: gap n r
def poolList (es : List (Nat × CpInfo)) (last : Nat) : List CpInfo := es.foldr (fun e r => gap e.1 (e.2 :: r)) (gap last [])
def pool (es : List (Nat × CpInfo)) (last : Nat) : Array CpInfo := ⟨poolList es last⟩
def fileOf (pool : Array CpInfo) (this : Nat) (attrs : Array Attribute := #[]) (ms : Array MethodInfo := #[]) (fl : Nat := 33) (sup : Nat := 0) (ifs : Array Nat := #[]) (fds : Array FieldInfo := #[]) : ClassFile where
  minorVersion := 0
  majorVersion := 65
  constantPool := pool
  accessFlags := fl
  thisClass := this
  superClass := sup
  interfaces := ifs
  fields := fds
  methods := ms
  attributes := attrs
def plain (name : String) (sup : Option ClassId) : Class where
  name := name
  kind := .ordinary
  loader := none
  accessFlags := 33
  super := sup
  interfaces := #[]
  cf := none
  fields := #[]
  methods := #[]
  instanceTypes := #[]
  staticTypes := #[]
  resolved := #[]
  callSites := []
  init := .initialized
  statics := none
  mirror := none

def pool0 : Array CpInfo := pool [(5, u "<init>"), (0, u "()V"), (1, .class_ 10), (1, u "java/lang/Object"), (85, u "clone"), (0, u "()Ljava/lang/Object;")] 26

def k0c0 : Code := { maxStack := 0, maxLocals := 1, code := object_method_1_code, exceptionTable := #[], attributes := #[] }
def k0m0 : Method := { name := "<init>", desc := "()V", sig := { parameters := [], returnType := none }, accessFlags := 1, code := some k0c0 }
def k0m1 : Method := { name := "clone", desc := "()Ljava/lang/Object;", sig := { parameters := [], returnType := some (.object "java/lang/Object") }, accessFlags := 260, code := none }
/-- java/lang/Object -/
def k0 : Class := { plain "java/lang/Object" none with
  accessFlags := 33
  interfaces := #[]
  cf := some (fileOf pool0 8 #[] #[{ accessFlags := 1, nameIndex := 5, descriptorIndex := 6, attributes := #[] }, { accessFlags := 260, nameIndex := 96, descriptorIndex := 97, attributes := #[] }] 33 0 #[] #[])
  fields := #[]
  methods := #[k0m0, k0m1]
  instanceTypes := #[]
  staticTypes := #[]
  resolved := Array.replicate 124 none
  statics := none }

def pool1 : Array CpInfo := pool [(2, .class_ 4), (1, u "java/lang/Object"), (0, u "<init>"), (0, u "()V"), (0, .long 15), (1, .long 10), (1, .methodref 12 13), (0, .class_ 14), (0, .nameAndType 15 16), (0, u "java/lang/String"), (0, u "charAt"), (0, u "(I)C"), (0, .methodref 18 19), (0, .class_ 20), (0, .nameAndType 21 22), (0, u "com/example/plainjson/plainjson/JsonNumberParsedPinLaw"), (0, u "d"), (0, u "(JI)C"), (0, .long 7), (1, .methodref 26 27), (0, .class_ 28), (0, .nameAndType 29 30), (0, u "com/example/plainjson/plainjson/JsonNumber"), (0, u "parsed"), (0, u "([CII)Lcom/example/plainjson/plainjson/JsonNumber;"), (0, .methodref 26 32), (0, .nameAndType 33 34), (0, u "toString"), (0, u "()Ljava/lang/String;"), (0, .methodref 12 36), (0, .nameAndType 37 38), (0, u "length"), (0, u "()I"), (0, .methodref 18 40), (0, .nameAndType 41 42), (0, u "same"), (0, u "(Ljava/lang/String;[CIII)Z"), (3, u "law"), (0, u "(JJII)Z")] 4

def k1m0 : Method := { name := "<init>", desc := "()V", sig := { parameters := [], returnType := none }, accessFlags := 2, code := none }
def k1c1 : Code := { maxStack := 5, maxLocals := 3, code := method_2_code, exceptionTable := #[], attributes := #[] }
def k1m1 : Method := { name := "d", desc := "(JI)C", sig := { parameters := [.long, .int], returnType := some .char }, accessFlags := 10, code := some k1c1 }
def k1c2 : Code := { maxStack := 4, maxLocals := 5, code := method_3_code, exceptionTable := #[], attributes := #[] }
def k1m2 : Method := { name := "same", desc := "(Ljava/lang/String;[CIII)Z", sig := { parameters := [(.object "java/lang/String"), (.array .char), .int, .int, .int], returnType := some .boolean }, accessFlags := 10, code := some k1c2 }
def k1c3 : Code := { maxStack := 7, maxLocals := 24, code := code, exceptionTable := #[], attributes := #[] }
def k1m3 : Method := { name := "law", desc := "(JJII)Z", sig := { parameters := [.long, .long, .int, .int], returnType := some .boolean }, accessFlags := 9, code := some k1c3 }
/-- com/example/plainjson/plainjson/JsonNumberParsedPinLaw -/
def k1 : Class := { plain "com/example/plainjson/plainjson/JsonNumberParsedPinLaw" (some 0) with
  accessFlags := 49
  interfaces := #[]
  cf := some (fileOf pool1 18 #[] #[{ accessFlags := 2, nameIndex := 5, descriptorIndex := 6, attributes := #[] }, { accessFlags := 10, nameIndex := 21, descriptorIndex := 22, attributes := #[] }, { accessFlags := 10, nameIndex := 41, descriptorIndex := 42, attributes := #[] }, { accessFlags := 9, nameIndex := 46, descriptorIndex := 47, attributes := #[] }] 49 2 #[] #[])
  fields := #[]
  methods := #[k1m0, k1m1, k1m2, k1m3]
  instanceTypes := #[]
  staticTypes := #[]
  resolved := Array.replicate 52 none
  statics := none }

def pool2 : Array CpInfo := pool [(1, .class_ 2), (0, u "java/io/Serializable"), (0, .class_ 4), (0, u "java/lang/Object")] 2

/-- java/io/Serializable -/
def k2 : Class := { plain "java/io/Serializable" (some 0) with
  accessFlags := 1537
  interfaces := #[]
  cf := some (fileOf pool2 1 #[] #[] 1537 3 #[] #[])
  fields := #[]
  methods := #[]
  instanceTypes := #[]
  staticTypes := #[]
  resolved := Array.replicate 7 none
  statics := none }

def pool3 : Array CpInfo := pool [(1, .methodref 2 3), (0, .class_ 4), (0, .nameAndType 5 6), (0, u "java/lang/Object"), (0, u "<init>"), (0, u "()V"), (1, .class_ 10), (1, u "java/lang/Number"), (2, .class_ 14), (0, u "java/io/Serializable"), (0, u "serialVersionUID"), (0, u "J")] 20

def k3c0 : Code := { maxStack := 1, maxLocals := 1, code := jdk_18_method_1_code, exceptionTable := #[], attributes := #[] }
def k3m0 : Method := { name := "<init>", desc := "()V", sig := { parameters := [], returnType := none }, accessFlags := 1, code := some k3c0 }
/-- java/lang/Number -/
def k3 : Class := { plain "java/lang/Number" (some 0) with
  accessFlags := 1057
  interfaces := #[2]
  cf := some (fileOf pool3 8 #[] #[{ accessFlags := 1, nameIndex := 5, descriptorIndex := 6, attributes := #[] }] 1057 2 #[13] #[{ accessFlags := 26, nameIndex := 15, descriptorIndex := 16, attributes := #[] }])
  fields := #[{ name := "serialVersionUID", type := .long, accessFlags := 26, slot := 0, constantValue := 0 }]
  methods := #[k3m0]
  instanceTypes := #[]
  staticTypes := #[.long]
  resolved := Array.replicate 37 none
  statics := none }

def pool4 : Array CpInfo := pool [(1, .class_ 2), (0, u "com/example/plainjson/plainjson/JsonNumber"), (0, .methodref 4 5), (0, .class_ 6), (0, .nameAndType 7 8), (0, u "java/lang/Number"), (0, u "<init>"), (0, u "()V"), (0, .fieldref 1 10), (0, .nameAndType 11 12), (0, u "packed"), (0, u "J"), (0, .fieldref 1 14), (0, .nameAndType 15 16), (0, u "text"), (0, u "Ljava/lang/String;"), (1, .class_ 20), (1, u "java/lang/String"), (8, u "parsed"), (0, u "([CII)Lcom/example/plainjson/plainjson/JsonNumber;"), (0, .methodref 1 32), (0, .nameAndType 7 33), (0, u "(JLjava/lang/String;)V"), (0, .methodref 1 35), (0, .nameAndType 36 37), (0, u "pack"), (0, u "([CII)J"), (0, .methodref 18 39), (0, .nameAndType 7 40), (0, u "([CII)V"), (0, .fieldref 1 42), (0, .nameAndType 43 44), (0, u "PACK_CODES"), (0, u "[B"), (35, u "toString"), (6, .nameAndType 80 89), (1, u "()Ljava/lang/String;"), (40, .methodref 18 131), (0, .nameAndType 132 133), (0, u "charAt"), (0, u "(I)C"), (93, .class_ 228), (0, u "java/lang/StringBuilder"), (0, .methodref 227 230), (0, .nameAndType 7 231), (0, u "(I)V"), (0, .methodref 1 233), (0, .nameAndType 234 235), (0, u "appendTo"), (0, u "(Ljava/lang/StringBuilder;)V"), (0, .methodref 227 87), (2, u "append"), (1, .string 242), (0, u "0123456789.-eE+"), (0, .methodref 227 244), (0, .nameAndType 239 245), (0, u "(C)Ljava/lang/StringBuilder;"), (0, .class_ 247), (0, u "com/example/plainjson/plainjson/JsonNumber$Serialized"), (96, .class_ 345), (0, u "com/example/plainjson/plainjson/JsonNumber$Scale"), (34, u "serialVersionUID"), (3, u "LOG10_2"), (0, u "LOG10_3"), (0, u "MOST_DIGITS"), (0, u "I"), (0, u "LONG_DIGITS"), (1, u "HUGE_EXPONENT"), (0, u "MOST_ZEROS"), (1, u "TOO_MANY_ZEROS"), (2, u "PACKED_LENGTH"), (1, u "PACKED_CHARS"), (0, u "LEAST_PACKED"), (0, u "C")] 66

def k4c0 : Code := { maxStack := 3, maxLocals := 4, code := prog_12_method_1_code, exceptionTable := #[], attributes := #[] }
def k4m0 : Method := { name := "<init>", desc := "(JLjava/lang/String;)V", sig := { parameters := [.long, (.object "java/lang/String")], returnType := none }, accessFlags := 2, code := some k4c0 }
def k4c1 : Code := { maxStack := 9, maxLocals := 3, code := prog_12_method_3_code, exceptionTable := #[], attributes := #[] }
def k4m1 : Method := { name := "parsed", desc := "([CII)Lcom/example/plainjson/plainjson/JsonNumber;", sig := { parameters := [(.array .char), .int, .int], returnType := some (.object "com/example/plainjson/plainjson/JsonNumber") }, accessFlags := 8, code := some k4c1 }
def k4c2 : Code := { maxStack := 6, maxLocals := 6, code := prog_12_method_4_code, exceptionTable := #[], attributes := #[] }
def k4m2 : Method := { name := "pack", desc := "([CII)J", sig := { parameters := [(.array .char), .int, .int], returnType := some .long }, accessFlags := 10, code := some k4c2 }
def k4c3 : Code := { maxStack := 3, maxLocals := 2, code := prog_12_method_18_code, exceptionTable := #[], attributes := #[] }
def k4m3 : Method := { name := "toString", desc := "()Ljava/lang/String;", sig := { parameters := [], returnType := some (.object "java/lang/String") }, accessFlags := 1, code := some k4c3 }
def k4c4 : Code := { maxStack := 4, maxLocals := 5, code := prog_12_method_19_code, exceptionTable := #[], attributes := #[] }
def k4m4 : Method := { name := "appendTo", desc := "(Ljava/lang/StringBuilder;)V", sig := { parameters := [(.object "java/lang/StringBuilder")], returnType := none }, accessFlags := 0, code := some k4c4 }
/-- com/example/plainjson/plainjson/JsonNumber -/
def k4 : Class := { plain "com/example/plainjson/plainjson/JsonNumber" (some 3) with
  accessFlags := 49
  interfaces := #[]
  cf := some (fileOf pool4 1 #[.nestMembers #[344, 246]] #[{ accessFlags := 2, nameIndex := 7, descriptorIndex := 33, attributes := #[] }, { accessFlags := 8, nameIndex := 29, descriptorIndex := 30, attributes := #[] }, { accessFlags := 10, nameIndex := 36, descriptorIndex := 37, attributes := #[] }, { accessFlags := 1, nameIndex := 80, descriptorIndex := 89, attributes := #[] }, { accessFlags := 0, nameIndex := 234, descriptorIndex := 235, attributes := #[] }] 49 4 #[] #[{ accessFlags := 26, nameIndex := 380, descriptorIndex := 12, attributes := #[] }, { accessFlags := 26, nameIndex := 384, descriptorIndex := 12, attributes := #[] }, { accessFlags := 26, nameIndex := 385, descriptorIndex := 12, attributes := #[] }, { accessFlags := 26, nameIndex := 386, descriptorIndex := 387, attributes := #[] }, { accessFlags := 26, nameIndex := 388, descriptorIndex := 387, attributes := #[] }, { accessFlags := 26, nameIndex := 390, descriptorIndex := 12, attributes := #[] }, { accessFlags := 26, nameIndex := 391, descriptorIndex := 387, attributes := #[] }, { accessFlags := 26, nameIndex := 393, descriptorIndex := 16, attributes := #[] }, { accessFlags := 26, nameIndex := 396, descriptorIndex := 387, attributes := #[] }, { accessFlags := 26, nameIndex := 398, descriptorIndex := 16, attributes := #[] }, { accessFlags := 26, nameIndex := 399, descriptorIndex := 400, attributes := #[] }, { accessFlags := 26, nameIndex := 43, descriptorIndex := 44, attributes := #[] }, { accessFlags := 18, nameIndex := 11, descriptorIndex := 12, attributes := #[] }, { accessFlags := 18, nameIndex := 15, descriptorIndex := 16, attributes := #[] }])
  fields := #[{ name := "serialVersionUID", type := .long, accessFlags := 26, slot := 0, constantValue := 0 }, { name := "LOG10_2", type := .long, accessFlags := 26, slot := 1, constantValue := 0 }, { name := "LOG10_3", type := .long, accessFlags := 26, slot := 2, constantValue := 0 }, { name := "MOST_DIGITS", type := .int, accessFlags := 26, slot := 3, constantValue := 0 }, { name := "LONG_DIGITS", type := .int, accessFlags := 26, slot := 4, constantValue := 0 }, { name := "HUGE_EXPONENT", type := .long, accessFlags := 26, slot := 5, constantValue := 0 }, { name := "MOST_ZEROS", type := .int, accessFlags := 26, slot := 6, constantValue := 0 }, { name := "TOO_MANY_ZEROS", type := (.object "java/lang/String"), accessFlags := 26, slot := 7, constantValue := 0 }, { name := "PACKED_LENGTH", type := .int, accessFlags := 26, slot := 8, constantValue := 0 }, { name := "PACKED_CHARS", type := (.object "java/lang/String"), accessFlags := 26, slot := 9, constantValue := 0 }, { name := "LEAST_PACKED", type := .char, accessFlags := 26, slot := 10, constantValue := 0 }, { name := "PACK_CODES", type := (.array .byte), accessFlags := 26, slot := 11, constantValue := 0 }, { name := "packed", type := .long, accessFlags := 18, slot := 0, constantValue := 0 }, { name := "text", type := (.object "java/lang/String"), accessFlags := 18, slot := 1, constantValue := 0 }]
  methods := #[k4m0, k4m1, k4m2, k4m3, k4m4]
  instanceTypes := #[.long, (.object "java/lang/String")]
  staticTypes := #[.long, .long, .long, .int, .int, .long, .int, (.object "java/lang/String"), .int, (.object "java/lang/String"), .char, (.array .byte)]
  resolved := Array.replicate 467 none
  statics := some 0 }

def pool5 : Array CpInfo := pool [(1, .class_ 2), (0, u "java/lang/Appendable"), (0, .class_ 4), (0, u "java/lang/Object")] 9

/-- java/lang/Appendable -/
def k5 : Class := { plain "java/lang/Appendable" (some 0) with
  accessFlags := 1537
  interfaces := #[]
  cf := some (fileOf pool5 1 #[] #[] 1537 3 #[] #[])
  fields := #[]
  methods := #[]
  instanceTypes := #[]
  staticTypes := #[]
  resolved := Array.replicate 14 none
  statics := none }

def pool6 : Array CpInfo := pool [(2, .class_ 4), (1, u "java/lang/CharSequence"), (42, .class_ 48), (0, u "java/lang/CharSequence$1CodePointIterator"), (10, .class_ 60), (0, u "java/lang/CharSequence$1CharIterator"), (5, .class_ 67), (0, u "java/lang/Object")] 63

/-- java/lang/CharSequence -/
def k6 : Class := { plain "java/lang/CharSequence" (some 0) with
  accessFlags := 1537
  interfaces := #[]
  cf := some (fileOf pool6 2 #[.nestMembers #[47, 59]] #[] 1537 66 #[] #[])
  fields := #[]
  methods := #[]
  instanceTypes := #[]
  staticTypes := #[]
  resolved := Array.replicate 131 none
  statics := none }

def pool7 : Array CpInfo := pool [(1, .class_ 2), (0, u "java/lang/String"), (0, .methodref 4 5), (0, .class_ 6), (0, .nameAndType 7 8), (0, u "java/lang/Object"), (0, u "<init>"), (0, u "()V"), (1, .class_ 12), (1, u "java/lang/AbstractStringBuilder"), (0, u "EMPTYVALUE"), (0, u "[B"), (0, .fieldref 10 16), (0, .nameAndType 17 14), (0, u "value"), (0, .fieldref 1 19), (0, .nameAndType 20 21), (0, u "COMPACT_STRINGS"), (0, u "Z"), (0, .fieldref 10 23), (0, .nameAndType 24 25), (0, u "coder"), (0, u "B"), (8, u "length"), (0, u "()I"), (9, u "append"), (2, .class_ 49), (0, u "java/lang/CharSequence"), (25, u "maybeLatin1"), (3, .fieldref 10 80), (0, .nameAndType 81 82), (0, u "count"), (0, u "I"), (0, .methodref 10 84), (0, .nameAndType 85 86), (0, u "isLatin1"), (0, u "()Z"), (1, .class_ 90), (1, u "java/lang/StringLatin1"), (9, .methodref 10 101), (0, .nameAndType 102 103), (0, u "ensureCapacityInternal"), (0, u "(I)V"), (87, .methodref 88 192), (0, .nameAndType 193 194), (0, u "canEncode"), (0, u "(C)Z"), (97, u "(C)Ljava/lang/AbstractStringBuilder;"), (110, u "()[B"), (40, .class_ 445), (0, u "java/lang/Appendable"), (106, u "getValue")] 56

def k7m0 : Method := { name := "<init>", desc := "()V", sig := { parameters := [], returnType := none }, accessFlags := 0, code := none }
def k7c1 : Code := { maxStack := 2, maxLocals := 2, code := jdk_68_method_2_code, exceptionTable := #[], attributes := #[] }
def k7m1 : Method := { name := "<init>", desc := "(I)V", sig := { parameters := [.int], returnType := none }, accessFlags := 0, code := some k7c1 }
def k7c2 : Code := { maxStack := 1, maxLocals := 1, code := jdk_68_method_6_code, exceptionTable := #[], attributes := #[] }
def k7m2 : Method := { name := "length", desc := "()I", sig := { parameters := [], returnType := some .int }, accessFlags := 1, code := some k7c2 }
def k7c3 : Code := { maxStack := 4, maxLocals := 3, code := jdk_68_method_9_code, exceptionTable := #[], attributes := #[] }
def k7m3 : Method := { name := "ensureCapacityInternal", desc := "(I)V", sig := { parameters := [.int], returnType := none }, accessFlags := 2, code := some k7c3 }
def k7c4 : Code := { maxStack := 5, maxLocals := 2, code := jdk_68_method_31_code, exceptionTable := #[], attributes := #[] }
def k7m4 : Method := { name := "append", desc := "(C)Ljava/lang/AbstractStringBuilder;", sig := { parameters := [.char], returnType := some (.object "java/lang/AbstractStringBuilder") }, accessFlags := 1, code := some k7c4 }
def k7c5 : Code := { maxStack := 1, maxLocals := 1, code := jdk_68_method_64_code, exceptionTable := #[], attributes := #[] }
def k7m5 : Method := { name := "getValue", desc := "()[B", sig := { parameters := [], returnType := some (.array .byte) }, accessFlags := 16, code := some k7c5 }
def k7c6 : Code := { maxStack := 1, maxLocals := 1, code := jdk_68_method_68_code, exceptionTable := #[], attributes := #[] }
def k7m6 : Method := { name := "isLatin1", desc := "()Z", sig := { parameters := [], returnType := some .boolean }, accessFlags := 16, code := some k7c6 }
/-- java/lang/AbstractStringBuilder -/
def k7 : Class := { plain "java/lang/AbstractStringBuilder" (some 0) with
  accessFlags := 1056
  interfaces := #[5, 6]
  cf := some (fileOf pool7 10 #[] #[{ accessFlags := 0, nameIndex := 7, descriptorIndex := 8, attributes := #[] }, { accessFlags := 0, nameIndex := 7, descriptorIndex := 103, attributes := #[] }, { accessFlags := 1, nameIndex := 34, descriptorIndex := 35, attributes := #[] }, { accessFlags := 2, nameIndex := 102, descriptorIndex := 103, attributes := #[] }, { accessFlags := 1, nameIndex := 45, descriptorIndex := 292, attributes := #[] }, { accessFlags := 16, nameIndex := 552, descriptorIndex := 403, attributes := #[] }, { accessFlags := 16, nameIndex := 85, descriptorIndex := 86, attributes := #[] }] 1056 4 #[444, 48] #[{ accessFlags := 0, nameIndex := 17, descriptorIndex := 14, attributes := #[] }, { accessFlags := 0, nameIndex := 24, descriptorIndex := 25, attributes := #[] }, { accessFlags := 0, nameIndex := 75, descriptorIndex := 21, attributes := #[] }, { accessFlags := 0, nameIndex := 81, descriptorIndex := 82, attributes := #[] }, { accessFlags := 26, nameIndex := 13, descriptorIndex := 14, attributes := #[] }])
  fields := #[{ name := "value", type := (.array .byte), accessFlags := 0, slot := 0, constantValue := 0 }, { name := "coder", type := .byte, accessFlags := 0, slot := 1, constantValue := 0 }, { name := "maybeLatin1", type := .boolean, accessFlags := 0, slot := 2, constantValue := 0 }, { name := "count", type := .int, accessFlags := 0, slot := 3, constantValue := 0 }, { name := "EMPTYVALUE", type := (.array .byte), accessFlags := 26, slot := 0, constantValue := 0 }]
  methods := #[k7m0, k7m1, k7m2, k7m3, k7m4, k7m5, k7m6]
  instanceTypes := #[(.array .byte), .byte, .boolean, .int]
  staticTypes := #[(.array .byte)]
  resolved := Array.replicate 609 none
  statics := none }

def pool8 : Array CpInfo := pool [(1, .class_ 2), (0, u "java/lang/Comparable"), (0, .class_ 4), (0, u "java/lang/Object")] 7

/-- java/lang/Comparable -/
def k8 : Class := { plain "java/lang/Comparable" (some 0) with
  accessFlags := 1537
  interfaces := #[]
  cf := some (fileOf pool8 1 #[] #[] 1537 3 #[] #[])
  fields := #[]
  methods := #[]
  instanceTypes := #[]
  staticTypes := #[]
  resolved := Array.replicate 12 none
  statics := none }

def pool9 : Array CpInfo := pool [(1, .methodref 2 3), (0, .class_ 4), (0, .nameAndType 5 6), (0, u "java/lang/AbstractStringBuilder"), (0, u "<init>"), (0, u "(I)V"), (11, .class_ 20), (1, u "java/lang/String"), (3, .class_ 26), (1, u "java/lang/StringBuilder"), (0, u "append"), (22, .methodref 2 51), (0, .nameAndType 27 52), (0, u "(C)Ljava/lang/AbstractStringBuilder;"), (84, .methodref 18 138), (0, .nameAndType 5 139), (0, u "(Ljava/lang/StringBuilder;)V"), (5, u "()V"), (10, u "()I"), (129, u "(C)Ljava/lang/StringBuilder;"), (56, .methodref 2 344), (0, .nameAndType 345 156), (0, u "length"), (3, .class_ 350), (0, u "java/lang/Appendable"), (0, .class_ 352), (0, u "java/io/Serializable"), (0, .class_ 354), (0, u "java/lang/Comparable"), (0, .class_ 356), (0, u "java/lang/CharSequence"), (0, u "serialVersionUID"), (0, u "J"), (40, u "toString"), (0, u "()Ljava/lang/String;")] 21

def k9m0 : Method := { name := "<init>", desc := "()V", sig := { parameters := [], returnType := none }, accessFlags := 1, code := none }
def k9c1 : Code := { maxStack := 2, maxLocals := 2, code := jdk_67_method_2_code, exceptionTable := #[], attributes := #[] }
def k9m1 : Method := { name := "<init>", desc := "(I)V", sig := { parameters := [.int], returnType := none }, accessFlags := 1, code := some k9c1 }
def k9c2 : Code := { maxStack := 2, maxLocals := 2, code := jdk_67_method_14_code, exceptionTable := #[], attributes := #[] }
def k9m2 : Method := { name := "append", desc := "(C)Ljava/lang/StringBuilder;", sig := { parameters := [.char], returnType := some (.object "java/lang/StringBuilder") }, accessFlags := 1, code := some k9c2 }
def k9c3 : Code := { maxStack := 3, maxLocals := 1, code := jdk_67_method_42_code, exceptionTable := #[], attributes := #[] }
def k9m3 : Method := { name := "toString", desc := "()Ljava/lang/String;", sig := { parameters := [], returnType := some (.object "java/lang/String") }, accessFlags := 1, code := some k9c3 }
def k9c4 : Code := { maxStack := 1, maxLocals := 1, code := jdk_67_method_93_code, exceptionTable := #[], attributes := #[] }
def k9m4 : Method := { name := "length", desc := "()I", sig := { parameters := [], returnType := some .int }, accessFlags := 4161, code := some k9c4 }
/-- java/lang/StringBuilder -/
def k9 : Class := { plain "java/lang/StringBuilder" (some 7) with
  accessFlags := 49
  interfaces := #[5, 2, 8, 6]
  cf := some (fileOf pool9 24 #[] #[{ accessFlags := 1, nameIndex := 5, descriptorIndex := 145, attributes := #[] }, { accessFlags := 1, nameIndex := 5, descriptorIndex := 6, attributes := #[] }, { accessFlags := 1, nameIndex := 27, descriptorIndex := 286, attributes := #[] }, { accessFlags := 1, nameIndex := 399, descriptorIndex := 400, attributes := #[] }, { accessFlags := 4161, nameIndex := 345, descriptorIndex := 156, attributes := #[] }] 49 2 #[349, 351, 353, 355] #[{ accessFlags := 24, nameIndex := 357, descriptorIndex := 358, attributes := #[] }])
  fields := #[{ name := "serialVersionUID", type := .long, accessFlags := 24, slot := 0, constantValue := 0 }]
  methods := #[k9m0, k9m1, k9m2, k9m3, k9m4]
  instanceTypes := #[(.array .byte), .byte, .boolean, .int]
  staticTypes := #[.long]
  resolved := Array.replicate 422 none
  statics := none }

def pool10 : Array CpInfo := pool [(1, .class_ 2), (0, u "java/lang/constant/Constable"), (0, .class_ 4), (0, u "java/lang/Object")] 6

/-- java/lang/constant/Constable -/
def k10 : Class := { plain "java/lang/constant/Constable" (some 0) with
  accessFlags := 1537
  interfaces := #[]
  cf := some (fileOf pool10 1 #[] #[] 1537 3 #[] #[])
  fields := #[]
  methods := #[]
  instanceTypes := #[]
  staticTypes := #[]
  resolved := Array.replicate 11 none
  statics := none }

def pool11 : Array CpInfo := pool [(1, .class_ 2), (0, u "java/lang/constant/ConstantDesc"), (0, .class_ 4), (0, u "java/lang/Object")] 32

/-- java/lang/constant/ConstantDesc -/
def k11 : Class := { plain "java/lang/constant/ConstantDesc" (some 0) with
  accessFlags := 1537
  interfaces := #[]
  cf := some (fileOf pool11 1 #[] #[] 1537 3 #[] #[])
  fields := #[]
  methods := #[]
  instanceTypes := #[]
  staticTypes := #[]
  resolved := Array.replicate 37 none
  statics := none }

def pool12 : Array CpInfo := pool [(1, .methodref 2 3), (0, .class_ 4), (0, .nameAndType 5 6), (0, u "java/lang/Object"), (0, u "<init>"), (0, u "()V"), (2, .fieldref 10 11), (0, .class_ 12), (0, .nameAndType 13 14), (0, u "java/lang/String"), (0, u "value"), (0, u "[B"), (0, .fieldref 10 16), (0, .nameAndType 17 18), (0, u "coder"), (0, u "B"), (2, u "hash"), (0, u "I"), (2, u "hashIsZero"), (0, u "Z"), (0, .methodref 10 28), (0, .nameAndType 5 29), (0, u "([CIILjava/lang/Void;)V"), (0, .methodref 10 31), (0, .nameAndType 32 33), (0, u "rangeCheck"), (0, u "([CII)Ljava/lang/Void;"), (0, .methodref 10 35), (0, .nameAndType 36 37), (0, u "checkBoundsOffCount"), (0, u "(III)I"), (0, .fieldref 10 39), (0, .nameAndType 40 26), (0, u "COMPACT_STRINGS"), (1, .class_ 44), (1, u "java/lang/StringUTF16"), (0, u "compress"), (1, .methodref 42 48), (0, .nameAndType 49 50), (0, u "coderFromArrayLen"), (0, u "([BI)B"), (3, .methodref 55 56), (0, .class_ 57), (0, .nameAndType 58 59), (0, u "java/util/Arrays"), (0, u "copyOfRange"), (0, u "([BII)[B"), (47, .class_ 109), (1, u "java/lang/StringLatin1"), (32, u "()Z"), (34, .methodref 42 178), (0, .nameAndType 45 179), (0, u "([CII)[B"), (154, u "()I"), (0, .methodref 10 336), (0, .nameAndType 17 337), (0, u "()B"), (2, u "()[B"), (22, u "([BI)C"), (27, u "(II)V"), (35, u "(I)C"), (61, .methodref 10 490), (0, .nameAndType 5 491), (0, u "(Ljava/lang/AbstractStringBuilder;Ljava/lang/Void;)V"), (0, .methodref 10 493), (0, .nameAndType 494 142), (0, u "isLatin1"), (0, .methodref 107 496), (0, .nameAndType 497 363), (0, u "charAt"), (3, u "checkIndex"), (4, .nameAndType 507 334), (0, u "length"), (41, .methodref 550 506), (0, .class_ 551), (0, u "java/lang/AbstractStringBuilder"), (0, .methodref 550 553), (0, .nameAndType 554 340), (0, u "getValue"), (20, .class_ 576), (0, u "java/lang/CharSequence"), (22, u "CASE_INSENSITIVE_ORDER"), (0, u "Ljava/util/Comparator;"), (371, u "([CII)V"), (74, .methodref 550 493), (5, .fieldref 1054 1055), (0, .class_ 1056), (0, .nameAndType 1057 1058), (0, u "jdk/internal/util/Preconditions"), (0, u "SIOOBE_FORMATTER"), (0, u "Ljava/util/function/BiFunction;"), (0, .methodref 1054 1060), (0, .nameAndType 501 1061), (0, u "(IILjava/util/function/BiFunction;)I"), (2, u "(IIILjava/util/function/BiFunction;)I"), (0, .methodref 1054 1066), (0, .nameAndType 1067 1064), (0, u "checkFromIndexSize"), (33, u "serialPersistentFields"), (0, u "[Ljava/io/ObjectStreamField;"), (0, .class_ 1104), (0, u "java/lang/String$CaseInsensitiveComparator"), (1, .class_ 1107), (0, u "java/io/Serializable"), (0, .class_ 1109), (0, u "java/lang/Comparable"), (0, .class_ 1111), (0, u "java/lang/constant/Constable"), (0, .class_ 1113), (0, u "java/lang/constant/ConstantDesc"), (2, u "serialVersionUID"), (0, u "J"), (3, u "REPL"), (0, u "C"), (2, u "LATIN1"), (1, u "UTF16"), (105, u "(Ljava/lang/StringBuilder;)V")] 217

def k12m0 : Method := { name := "<init>", desc := "()V", sig := { parameters := [], returnType := none }, accessFlags := 1, code := none }
def k12c1 : Code := { maxStack := 7, maxLocals := 4, code := jdk_42_method_4_code, exceptionTable := #[], attributes := #[] }
def k12m1 : Method := { name := "<init>", desc := "([CII)V", sig := { parameters := [(.array .char), .int, .int], returnType := none }, accessFlags := 1, code := some k12c1 }
def k12c2 : Code := { maxStack := 3, maxLocals := 3, code := jdk_42_method_5_code, exceptionTable := #[], attributes := #[] }
def k12m2 : Method := { name := "rangeCheck", desc := "([CII)Ljava/lang/Void;", sig := { parameters := [(.array .char), .int, .int], returnType := some (.object "java/lang/Void") }, accessFlags := 10, code := some k12c2 }
def k12c3 : Code := { maxStack := 3, maxLocals := 2, code := jdk_42_method_53_code, exceptionTable := #[], attributes := #[] }
def k12m3 : Method := { name := "<init>", desc := "(Ljava/lang/StringBuilder;)V", sig := { parameters := [(.object "java/lang/StringBuilder")], returnType := none }, accessFlags := 1, code := some k12c3 }
def k12c4 : Code := { maxStack := 2, maxLocals := 1, code := jdk_42_method_54_code, exceptionTable := #[], attributes := #[] }
def k12m4 : Method := { name := "length", desc := "()I", sig := { parameters := [], returnType := some .int }, accessFlags := 1, code := some k12c4 }
def k12c5 : Code := { maxStack := 2, maxLocals := 2, code := jdk_42_method_56_code, exceptionTable := #[], attributes := #[] }
def k12m5 : Method := { name := "charAt", desc := "(I)C", sig := { parameters := [.int], returnType := some .char }, accessFlags := 1, code := some k12c5 }
def k12c6 : Code := { maxStack := 4, maxLocals := 6, code := jdk_42_method_149_code, exceptionTable := #[], attributes := #[] }
def k12m6 : Method := { name := "<init>", desc := "([CIILjava/lang/Void;)V", sig := { parameters := [(.array .char), .int, .int, (.object "java/lang/Void")], returnType := none }, accessFlags := 2, code := some k12c6 }
def k12c7 : Code := { maxStack := 5, maxLocals := 5, code := jdk_42_method_150_code, exceptionTable := #[], attributes := #[] }
def k12m7 : Method := { name := "<init>", desc := "(Ljava/lang/AbstractStringBuilder;Ljava/lang/Void;)V", sig := { parameters := [(.object "java/lang/AbstractStringBuilder"), (.object "java/lang/Void")], returnType := none }, accessFlags := 0, code := some k12c7 }
def k12c8 : Code := { maxStack := 1, maxLocals := 1, code := jdk_42_method_152_code, exceptionTable := #[], attributes := #[] }
def k12m8 : Method := { name := "coder", desc := "()B", sig := { parameters := [], returnType := some .byte }, accessFlags := 0, code := some k12c8 }
def k12c9 : Code := { maxStack := 1, maxLocals := 1, code := jdk_42_method_154_code, exceptionTable := #[], attributes := #[] }
def k12m9 : Method := { name := "isLatin1", desc := "()Z", sig := { parameters := [], returnType := some .boolean }, accessFlags := 0, code := some k12c9 }
def k12c10 : Code := { maxStack := 3, maxLocals := 2, code := jdk_42_method_155_code, exceptionTable := #[], attributes := #[] }
def k12m10 : Method := { name := "checkIndex", desc := "(II)V", sig := { parameters := [.int, .int], returnType := none }, accessFlags := 8, code := some k12c10 }
def k12c11 : Code := { maxStack := 4, maxLocals := 3, code := jdk_42_method_157_code, exceptionTable := #[], attributes := #[] }
def k12m11 : Method := { name := "checkBoundsOffCount", desc := "(III)I", sig := { parameters := [.int, .int, .int], returnType := some .int }, accessFlags := 8, code := some k12c11 }
/-- java/lang/String -/
def k12 : Class := { plain "java/lang/String" (some 0) with
  accessFlags := 49
  interfaces := #[2, 8, 6, 10, 11]
  cf := some (fileOf pool12 10 #[.nestMembers #[1103]] #[{ accessFlags := 1, nameIndex := 5, descriptorIndex := 6, attributes := #[] }, { accessFlags := 1, nameIndex := 5, descriptorIndex := 972, attributes := #[] }, { accessFlags := 10, nameIndex := 32, descriptorIndex := 33, attributes := #[] }, { accessFlags := 1, nameIndex := 5, descriptorIndex := 1233, attributes := #[] }, { accessFlags := 1, nameIndex := 507, descriptorIndex := 334, attributes := #[] }, { accessFlags := 1, nameIndex := 497, descriptorIndex := 427, attributes := #[] }, { accessFlags := 2, nameIndex := 5, descriptorIndex := 29, attributes := #[] }, { accessFlags := 0, nameIndex := 5, descriptorIndex := 491, attributes := #[] }, { accessFlags := 0, nameIndex := 17, descriptorIndex := 337, attributes := #[] }, { accessFlags := 0, nameIndex := 494, descriptorIndex := 142, attributes := #[] }, { accessFlags := 8, nameIndex := 501, descriptorIndex := 391, attributes := #[] }, { accessFlags := 8, nameIndex := 36, descriptorIndex := 37, attributes := #[] }] 49 2 #[1106, 1108, 575, 1110, 1112] #[{ accessFlags := 18, nameIndex := 13, descriptorIndex := 14, attributes := #[] }, { accessFlags := 18, nameIndex := 17, descriptorIndex := 18, attributes := #[] }, { accessFlags := 2, nameIndex := 21, descriptorIndex := 22, attributes := #[] }, { accessFlags := 2, nameIndex := 25, descriptorIndex := 26, attributes := #[] }, { accessFlags := 26, nameIndex := 1116, descriptorIndex := 1117, attributes := #[] }, { accessFlags := 24, nameIndex := 40, descriptorIndex := 26, attributes := #[] }, { accessFlags := 26, nameIndex := 1101, descriptorIndex := 1102, attributes := #[] }, { accessFlags := 26, nameIndex := 1121, descriptorIndex := 1122, attributes := #[] }, { accessFlags := 25, nameIndex := 599, descriptorIndex := 600, attributes := #[] }, { accessFlags := 24, nameIndex := 1125, descriptorIndex := 18, attributes := #[] }, { accessFlags := 24, nameIndex := 1127, descriptorIndex := 18, attributes := #[] }])
  fields := #[{ name := "value", type := (.array .byte), accessFlags := 18, slot := 0, constantValue := 0 }, { name := "coder", type := .byte, accessFlags := 18, slot := 1, constantValue := 0 }, { name := "hash", type := .int, accessFlags := 2, slot := 2, constantValue := 0 }, { name := "hashIsZero", type := .boolean, accessFlags := 2, slot := 3, constantValue := 0 }, { name := "serialVersionUID", type := .long, accessFlags := 26, slot := 0, constantValue := 0 }, { name := "COMPACT_STRINGS", type := .boolean, accessFlags := 24, slot := 1, constantValue := 0 }, { name := "serialPersistentFields", type := (.array (.object "java/io/ObjectStreamField")), accessFlags := 26, slot := 2, constantValue := 0 }, { name := "REPL", type := .char, accessFlags := 26, slot := 3, constantValue := 0 }, { name := "CASE_INSENSITIVE_ORDER", type := (.object "java/util/Comparator"), accessFlags := 25, slot := 4, constantValue := 0 }, { name := "LATIN1", type := .byte, accessFlags := 24, slot := 5, constantValue := 0 }, { name := "UTF16", type := .byte, accessFlags := 24, slot := 6, constantValue := 0 }]
  methods := #[k12m0, k12m1, k12m2, k12m3, k12m4, k12m5, k12m6, k12m7, k12m8, k12m9, k12m10, k12m11]
  instanceTypes := #[(.array .byte), .byte, .int, .boolean]
  staticTypes := #[.long, .boolean, (.array (.object "java/io/ObjectStreamField")), .char, (.object "java/util/Comparator"), .byte, .byte]
  resolved := Array.replicate 1451 none
  statics := some 1 }

def pool13 : Array CpInfo := pool [(1, .class_ 2), (0, u "java/lang/String"), (1, .class_ 6), (1, u "java/lang/Object"), (0, u "<init>"), (0, u "()V"), (0, .methodref 1 10), (0, .nameAndType 11 12), (0, u "checkIndex"), (0, u "(II)V"), (1, .class_ 16), (1, u "java/lang/StringLatin1"), (36, u "([BI)C"), (36, u "canEncode"), (14, u "(C)Z"), (15, u "$assertionsDisabled"), (0, u "Z"), (98, .class_ 223), (1, u "java/lang/StringLatin1$LinesSpliterator"), (28, u "charAt"), (137, .class_ 391), (0, u "java/lang/StringLatin1$CharsSpliterator")] 3

def k13m0 : Method := { name := "<init>", desc := "()V", sig := { parameters := [], returnType := none }, accessFlags := 0, code := none }
def k13c1 : Code := { maxStack := 2, maxLocals := 2, code := jdk_43_method_2_code, exceptionTable := #[], attributes := #[] }
def k13m1 : Method := { name := "charAt", desc := "([BI)C", sig := { parameters := [(.array .byte), .int], returnType := some .char }, accessFlags := 9, code := some k13c1 }
def k13c2 : Code := { maxStack := 2, maxLocals := 1, code := jdk_43_method_3_code, exceptionTable := #[], attributes := #[] }
def k13m2 : Method := { name := "canEncode", desc := "(C)Z", sig := { parameters := [.char], returnType := some .boolean }, accessFlags := 9, code := some k13c2 }
/-- java/lang/StringLatin1 -/
def k13 : Class := { plain "java/lang/StringLatin1" (some 0) with
  accessFlags := 48
  interfaces := #[]
  cf := some (fileOf pool13 14 #[.nestMembers #[390, 221]] #[{ accessFlags := 0, nameIndex := 7, descriptorIndex := 8, attributes := #[] }, { accessFlags := 9, nameIndex := 252, descriptorIndex := 53, attributes := #[] }, { accessFlags := 9, nameIndex := 90, descriptorIndex := 105, attributes := #[] }] 48 4 #[] #[{ accessFlags := 4120, nameIndex := 121, descriptorIndex := 122, attributes := #[] }])
  fields := #[{ name := "$assertionsDisabled", type := .boolean, accessFlags := 4120, slot := 0, constantValue := 0 }]
  methods := #[k13m0, k13m1, k13m2]
  instanceTypes := #[]
  staticTypes := #[.boolean]
  resolved := Array.replicate 395 none
  statics := none }

def pool14 : Array CpInfo := pool [(2, .class_ 4), (1, u "java/lang/Object"), (0, u "<init>"), (0, u "()V"), (17, .class_ 26), (1, u "jdk/internal/util/Preconditions"), (6, u "checkIndex"), (15, u "checkFromIndexSize"), (5, .class_ 56), (0, u "jdk/internal/util/Preconditions$4"), (57, .class_ 115), (0, u "jdk/internal/util/Preconditions$1"), (7, u "SIOOBE_FORMATTER"), (0, u "Ljava/util/function/BiFunction;"), (0, .class_ 126), (0, u "jdk/internal/util/Preconditions$2"), (3, u "AIOOBE_FORMATTER"), (0, .class_ 132), (0, u "jdk/internal/util/Preconditions$3"), (3, u "IOOBE_FORMATTER"), (41, u "(IILjava/util/function/BiFunction;)I"), (4, u "(IIILjava/util/function/BiFunction;)I")] 10

def k14m0 : Method := { name := "<init>", desc := "()V", sig := { parameters := [], returnType := none }, accessFlags := 1, code := none }
def k14c1 : Code := { maxStack := 3, maxLocals := 3, code := jdk_41_method_11_code, exceptionTable := #[], attributes := #[] }
def k14m1 : Method := { name := "checkIndex", desc := "(IILjava/util/function/BiFunction;)I", sig := { parameters := [.int, .int, (.object "java/util/function/BiFunction")], returnType := some .int }, accessFlags := 9, code := some k14c1 }
def k14c2 : Code := { maxStack := 4, maxLocals := 4, code := jdk_41_method_13_code, exceptionTable := #[], attributes := #[] }
def k14m2 : Method := { name := "checkFromIndexSize", desc := "(IIILjava/util/function/BiFunction;)I", sig := { parameters := [.int, .int, .int, (.object "java/util/function/BiFunction")], returnType := some .int }, accessFlags := 9, code := some k14c2 }
/-- jdk/internal/util/Preconditions -/
def k14 : Class := { plain "jdk/internal/util/Preconditions" (some 0) with
  accessFlags := 33
  interfaces := #[]
  cf := some (fileOf pool14 24 #[.nestMembers #[55, 131, 125, 114]] #[{ accessFlags := 1, nameIndex := 5, descriptorIndex := 6, attributes := #[] }, { accessFlags := 9, nameIndex := 33, descriptorIndex := 178, attributes := #[] }, { accessFlags := 9, nameIndex := 49, descriptorIndex := 183, attributes := #[] }] 33 2 #[] #[{ accessFlags := 25, nameIndex := 123, descriptorIndex := 124, attributes := #[] }, { accessFlags := 25, nameIndex := 130, descriptorIndex := 124, attributes := #[] }, { accessFlags := 25, nameIndex := 136, descriptorIndex := 124, attributes := #[] }])
  fields := #[{ name := "SIOOBE_FORMATTER", type := (.object "java/util/function/BiFunction"), accessFlags := 25, slot := 0, constantValue := 0 }, { name := "AIOOBE_FORMATTER", type := (.object "java/util/function/BiFunction"), accessFlags := 25, slot := 1, constantValue := 0 }, { name := "IOOBE_FORMATTER", type := (.object "java/util/function/BiFunction"), accessFlags := 25, slot := 2, constantValue := 0 }]
  methods := #[k14m0, k14m1, k14m2]
  instanceTypes := #[]
  staticTypes := #[(.object "java/util/function/BiFunction"), (.object "java/util/function/BiFunction"), (.object "java/util/function/BiFunction")]
  resolved := Array.replicate 194 none
  statics := some 2 }

def pool15 : Array CpInfo := pool [(2, .class_ 4), (1, u "java/lang/Object"), (0, u "<init>"), (0, u "()V"), (7, .class_ 16), (1, u "java/util/Arrays"), (57, .class_ 76), (1, u "java/util/Arrays$NaturalOrder"), (32, u "()Ljava/lang/Object;"), (3, .class_ 115), (1, u "java/util/Arrays$LegacyMergeSort"), (1, u "Z"), (10, .nameAndType 129 109), (0, u "clone"), (9, u "copyOfRange"), (10, .methodref 151 152), (0, .class_ 153), (0, .nameAndType 154 155), (0, u "java/lang/System"), (0, u "arraycopy"), (0, u "(Ljava/lang/Object;ILjava/lang/Object;II)V"), (148, .methodref 305 306), (0, .class_ 307), (0, .nameAndType 308 309), (0, u "java/lang/Math"), (0, u "min"), (0, u "(II)I"), (0, .methodref 311 128), (0, .class_ 312), (0, u "[B"), (26, .methodref 14 340), (0, .nameAndType 341 342), (0, u "copyOfRangeByte"), (0, u "([BII)[B"), (0, .methodref 14 344), (0, .nameAndType 345 346), (0, u "checkLength"), (0, u "(II)V"), (28, .class_ 376), (0, u "java/util/Arrays$ArrayList"), (68, u "$assertionsDisabled"), (269, u "MIN_ARRAY_SORT_GRAN"), (0, u "I"), (2, u "INSERTIONSORT_THRESHOLD"), (255, .class_ 976), (0, u "java/util/Arrays$ArrayItr")] 52

def k15m0 : Method := { name := "<init>", desc := "()V", sig := { parameters := [], returnType := none }, accessFlags := 2, code := none }
def k15c1 : Code := { maxStack := 4, maxLocals := 2, code := jdk_65_method_131_code, exceptionTable := #[], attributes := #[] }
def k15m1 : Method := { name := "checkLength", desc := "(II)V", sig := { parameters := [.int, .int], returnType := none }, accessFlags := 10, code := some k15c1 }
def k15c2 : Code := { maxStack := 3, maxLocals := 3, code := jdk_65_method_132_code, exceptionTable := #[], attributes := #[] }
def k15m2 : Method := { name := "copyOfRange", desc := "([BII)[B", sig := { parameters := [(.array .byte), .int, .int], returnType := some (.array .byte) }, accessFlags := 9, code := some k15c2 }
def k15c3 : Code := { maxStack := 6, maxLocals := 5, code := jdk_65_method_133_code, exceptionTable := #[], attributes := #[] }
def k15m3 : Method := { name := "copyOfRangeByte", desc := "([BII)[B", sig := { parameters := [(.array .byte), .int, .int], returnType := some (.array .byte) }, accessFlags := 10, code := some k15c3 }
/-- java/util/Arrays -/
def k15 : Class := { plain "java/util/Arrays" (some 0) with
  accessFlags := 49
  interfaces := #[]
  cf := some (fileOf pool15 14 #[.nestMembers #[975, 375, 113, 74]] #[{ accessFlags := 2, nameIndex := 5, descriptorIndex := 6, attributes := #[] }, { accessFlags := 10, nameIndex := 345, descriptorIndex := 346, attributes := #[] }, { accessFlags := 9, nameIndex := 139, descriptorIndex := 342, attributes := #[] }, { accessFlags := 10, nameIndex := 341, descriptorIndex := 342, attributes := #[] }] 49 2 #[] #[{ accessFlags := 26, nameIndex := 715, descriptorIndex := 716, attributes := #[] }, { accessFlags := 26, nameIndex := 719, descriptorIndex := 716, attributes := #[] }, { accessFlags := 4120, nameIndex := 445, descriptorIndex := 117, attributes := #[] }])
  fields := #[{ name := "MIN_ARRAY_SORT_GRAN", type := .int, accessFlags := 26, slot := 0, constantValue := 0 }, { name := "INSERTIONSORT_THRESHOLD", type := .int, accessFlags := 26, slot := 1, constantValue := 0 }, { name := "$assertionsDisabled", type := .boolean, accessFlags := 4120, slot := 2, constantValue := 0 }]
  methods := #[k15m0, k15m1, k15m2, k15m3]
  instanceTypes := #[]
  staticTypes := #[.int, .int, .boolean]
  resolved := Array.replicate 1029 none
  statics := none }

def pool16 : Array CpInfo := pool [(1, .class_ 2), (0, u "java/lang/Math"), (1, .class_ 6), (1, u "java/lang/Object"), (0, u "<init>"), (0, u "()V"), (89, .class_ 100), (1, u "java/lang/Math$RandomNumberGeneratorHolder"), (71, u "negativeZeroFloatBits"), (0, u "J"), (2, u "negativeZeroDoubleBits"), (24, u "min"), (43, u "$assertionsDisabled"), (0, u "Z"), (88, u "(II)I"), (2, u "twoToTheDoubleScaleDown"), (0, u "D"), (4, u "twoToTheDoubleScaleUp"), (9, u "E"), (3, u "PI"), (2, u "TAU"), (2, u "DEGREES_TO_RADIANS"), (0, u "RADIANS_TO_DEGREES")] 94

def k16m0 : Method := { name := "<init>", desc := "()V", sig := { parameters := [], returnType := none }, accessFlags := 2, code := none }
def k16c1 : Code := { maxStack := 2, maxLocals := 2, code := jdk_29_method_69_code, exceptionTable := #[], attributes := #[] }
def k16m1 : Method := { name := "min", desc := "(II)I", sig := { parameters := [.int, .int], returnType := some .int }, accessFlags := 9, code := some k16c1 }
/-- java/lang/Math -/
def k16 : Class := { plain "java/lang/Math" (some 0) with
  accessFlags := 49
  interfaces := #[]
  cf := some (fileOf pool16 1 #[.nestMembers #[98]] #[{ accessFlags := 2, nameIndex := 7, descriptorIndex := 8, attributes := #[] }, { accessFlags := 9, nameIndex := 201, descriptorIndex := 335, attributes := #[] }] 49 4 #[] #[{ accessFlags := 25, nameIndex := 354, descriptorIndex := 339, attributes := #[] }, { accessFlags := 25, nameIndex := 358, descriptorIndex := 339, attributes := #[] }, { accessFlags := 25, nameIndex := 361, descriptorIndex := 339, attributes := #[] }, { accessFlags := 26, nameIndex := 364, descriptorIndex := 339, attributes := #[] }, { accessFlags := 26, nameIndex := 365, descriptorIndex := 339, attributes := #[] }, { accessFlags := 26, nameIndex := 172, descriptorIndex := 173, attributes := #[] }, { accessFlags := 26, nameIndex := 176, descriptorIndex := 173, attributes := #[] }, { accessFlags := 8, nameIndex := 344, descriptorIndex := 339, attributes := #[] }, { accessFlags := 8, nameIndex := 338, descriptorIndex := 339, attributes := #[] }, { accessFlags := 4120, nameIndex := 245, descriptorIndex := 246, attributes := #[] }])
  fields := #[{ name := "E", type := .double, accessFlags := 25, slot := 0, constantValue := 0 }, { name := "PI", type := .double, accessFlags := 25, slot := 1, constantValue := 0 }, { name := "TAU", type := .double, accessFlags := 25, slot := 2, constantValue := 0 }, { name := "DEGREES_TO_RADIANS", type := .double, accessFlags := 26, slot := 3, constantValue := 0 }, { name := "RADIANS_TO_DEGREES", type := .double, accessFlags := 26, slot := 4, constantValue := 0 }, { name := "negativeZeroFloatBits", type := .long, accessFlags := 26, slot := 5, constantValue := 0 }, { name := "negativeZeroDoubleBits", type := .long, accessFlags := 26, slot := 6, constantValue := 0 }, { name := "twoToTheDoubleScaleUp", type := .double, accessFlags := 8, slot := 7, constantValue := 0 }, { name := "twoToTheDoubleScaleDown", type := .double, accessFlags := 8, slot := 8, constantValue := 0 }, { name := "$assertionsDisabled", type := .boolean, accessFlags := 4120, slot := 9, constantValue := 0 }]
  methods := #[k16m0, k16m1]
  instanceTypes := #[]
  staticTypes := #[.double, .double, .double, .double, .double, .long, .long, .double, .double, .boolean]
  resolved := Array.replicate 460 none
  statics := none }

def pool17 : Array CpInfo := pool [(2, .class_ 4), (1, u "java/lang/Object"), (0, u "<init>"), (0, u "()V"), (1, .class_ 10), (1, u "java/lang/System"), (0, u "allowSecurityManager"), (0, u "I"), (16, u "cons"), (0, u "Ljava/io/Console;"), (77, .class_ 110), (1, u "java/lang/System$CallersHolder"), (43, u "initialErrStream"), (0, u "Ljava/io/PrintStream;"), (19, u "security"), (0, u "Ljava/lang/SecurityManager;"), (31, .class_ 209), (0, u "java/lang/System$1"), (7, u "props"), (0, u "Ljava/util/Properties;"), (2, u "lineSeparator"), (0, u "Ljava/lang/String;"), (96, .class_ 321), (1, u "java/lang/System$LoggerFinder"), (5, .class_ 328), (0, u "java/lang/System$Logger"), (67, u "err"), (2, u "out"), (91, u "notSupportedJnuEncoding"), (15, u "in"), (17, u "initialIn"), (0, u "Ljava/io/InputStream;"), (35, u "bootLayer"), (0, u "Ljava/lang/ModuleLayer;"), (99, .class_ 664), (0, u "java/lang/System$2"), (9, u "NEVER"), (2, u "MAYBE"), (49, u "arraycopy"), (0, u "(Ljava/lang/Object;ILjava/lang/Object;II)V"), (72, .class_ 802), (0, u "java/lang/System$Logger$Level")] 31

def k17m0 : Method := { name := "<init>", desc := "()V", sig := { parameters := [], returnType := none }, accessFlags := 2, code := none }
def k17m1 : Method := { name := "arraycopy", desc := "(Ljava/lang/Object;ILjava/lang/Object;II)V", sig := { parameters := [(.object "java/lang/Object"), .int, (.object "java/lang/Object"), .int, .int], returnType := none }, accessFlags := 265, code := none }
/-- java/lang/System -/
def k17 : Class := { plain "java/lang/System" (some 0) with
  accessFlags := 49
  interfaces := #[]
  cf := some (fileOf pool17 8 #[.nestMembers #[319, 327, 801, 108, 663, 208]] #[{ accessFlags := 2, nameIndex := 5, descriptorIndex := 6, attributes := #[] }, { accessFlags := 265, nameIndex := 727, descriptorIndex := 728, attributes := #[] }] 49 2 #[] #[{ accessFlags := 25, nameIndex := 507, descriptorIndex := 526, attributes := #[] }, { accessFlags := 25, nameIndex := 399, descriptorIndex := 155, attributes := #[] }, { accessFlags := 25, nameIndex := 396, descriptorIndex := 155, attributes := #[] }, { accessFlags := 10, nameIndex := 525, descriptorIndex := 526, attributes := #[] }, { accessFlags := 26, nameIndex := 674, descriptorIndex := 12, attributes := #[] }, { accessFlags := 26, nameIndex := 677, descriptorIndex := 12, attributes := #[] }, { accessFlags := 10, nameIndex := 11, descriptorIndex := 12, attributes := #[] }, { accessFlags := 74, nameIndex := 175, descriptorIndex := 176, attributes := #[] }, { accessFlags := 10, nameIndex := 491, descriptorIndex := 222, attributes := #[] }, { accessFlags := 74, nameIndex := 29, descriptorIndex := 30, attributes := #[] }, { accessFlags := 74, nameIndex := 154, descriptorIndex := 155, attributes := #[] }, { accessFlags := 10, nameIndex := 217, descriptorIndex := 218, attributes := #[] }, { accessFlags := 10, nameIndex := 221, descriptorIndex := 222, attributes := #[] }, { accessFlags := 8, nameIndex := 562, descriptorIndex := 563, attributes := #[] }])
  fields := #[{ name := "in", type := (.object "java/io/InputStream"), accessFlags := 25, slot := 0, constantValue := 0 }, { name := "out", type := (.object "java/io/PrintStream"), accessFlags := 25, slot := 1, constantValue := 0 }, { name := "err", type := (.object "java/io/PrintStream"), accessFlags := 25, slot := 2, constantValue := 0 }, { name := "initialIn", type := (.object "java/io/InputStream"), accessFlags := 10, slot := 3, constantValue := 0 }, { name := "NEVER", type := .int, accessFlags := 26, slot := 4, constantValue := 0 }, { name := "MAYBE", type := .int, accessFlags := 26, slot := 5, constantValue := 0 }, { name := "allowSecurityManager", type := .int, accessFlags := 10, slot := 6, constantValue := 0 }, { name := "security", type := (.object "java/lang/SecurityManager"), accessFlags := 74, slot := 7, constantValue := 0 }, { name := "notSupportedJnuEncoding", type := (.object "java/lang/String"), accessFlags := 10, slot := 8, constantValue := 0 }, { name := "cons", type := (.object "java/io/Console"), accessFlags := 74, slot := 9, constantValue := 0 }, { name := "initialErrStream", type := (.object "java/io/PrintStream"), accessFlags := 74, slot := 10, constantValue := 0 }, { name := "props", type := (.object "java/util/Properties"), accessFlags := 10, slot := 11, constantValue := 0 }, { name := "lineSeparator", type := (.object "java/lang/String"), accessFlags := 10, slot := 12, constantValue := 0 }, { name := "bootLayer", type := (.object "java/lang/ModuleLayer"), accessFlags := 8, slot := 13, constantValue := 0 }]
  methods := #[k17m0, k17m1]
  instanceTypes := #[]
  staticTypes := #[(.object "java/io/InputStream"), (.object "java/io/PrintStream"), (.object "java/io/PrintStream"), (.object "java/io/InputStream"), .int, .int, .int, (.object "java/lang/SecurityManager"), (.object "java/lang/String"), (.object "java/io/Console"), (.object "java/io/PrintStream"), (.object "java/util/Properties"), (.object "java/lang/String"), (.object "java/lang/ModuleLayer")]
  resolved := Array.replicate 834 none
  statics := none }

def pool18 : Array CpInfo := pool [(1, .class_ 2), (0, u "java/lang/Cloneable"), (0, .class_ 4), (0, u "java/lang/Object")] 2

/-- java/lang/Cloneable -/
def k18 : Class := { plain "java/lang/Cloneable" (some 0) with
  accessFlags := 1537
  interfaces := #[]
  cf := some (fileOf pool18 1 #[] #[] 1537 3 #[] #[])
  fields := #[]
  methods := #[]
  instanceTypes := #[]
  staticTypes := #[]
  resolved := Array.replicate 7 none
  statics := none }

def pool19 : Array CpInfo := pool [(6, .class_ 8), (1, u "java/lang/Object"), (0, u "<init>"), (0, u "()V"), (1, .class_ 14), (1, u "java/lang/StringUTF16"), (31, u "$assertionsDisabled"), (0, u "Z"), (13, u "HI_BYTE_SHIFT"), (0, u "I"), (2, u "LO_BYTE_SHIFT"), (49, .methodref 12 116), (0, .nameAndType 117 118), (0, u "compress"), (0, u "([CI[BII)I"), (3, u "([CII)[B"), (138, u "coderFromArrayLen"), (0, u "([BI)B"), (106, .class_ 371), (1, u "java/lang/StringUTF16$LinesSpliterator"), (58, u "MAX_LENGTH"), (196, .class_ 628), (0, u "java/lang/StringUTF16$CodePointsSpliterator"), (0, .class_ 630), (0, u "java/lang/StringUTF16$CharsSpliterator")] 4

def k19m0 : Method := { name := "<init>", desc := "()V", sig := { parameters := [], returnType := none }, accessFlags := 0, code := none }
def k19c1 : Code := { maxStack := 2, maxLocals := 2, code := jdk_52_method_15_code, exceptionTable := #[], attributes := #[] }
def k19m1 : Method := { name := "coderFromArrayLen", desc := "([BI)B", sig := { parameters := [(.array .byte), .int], returnType := some .byte }, accessFlags := 8, code := some k19c1 }
def k19c2 : Code := { maxStack := 5, maxLocals := 6, code := jdk_52_method_16_code, exceptionTable := #[], attributes := #[] }
def k19m2 : Method := { name := "compress", desc := "([CII)[B", sig := { parameters := [(.array .char), .int, .int], returnType := some (.array .byte) }, accessFlags := 9, code := some k19c2 }
def k19c3 : Code := { maxStack := 3, maxLocals := 7, code := jdk_52_method_21_code, exceptionTable := #[], attributes := #[] }
def k19m3 : Method := { name := "compress", desc := "([CI[BII)I", sig := { parameters := [(.array .char), .int, (.array .byte), .int, .int], returnType := some .int }, accessFlags := 9, code := some k19c3 }
/-- java/lang/StringUTF16 -/
def k19 : Class := { plain "java/lang/StringUTF16" (some 0) with
  accessFlags := 48
  interfaces := #[]
  cf := some (fileOf pool19 12 #[.nestMembers #[627, 629, 369]] #[{ accessFlags := 0, nameIndex := 9, descriptorIndex := 10, attributes := #[] }, { accessFlags := 8, nameIndex := 261, descriptorIndex := 262, attributes := #[] }, { accessFlags := 9, nameIndex := 117, descriptorIndex := 122, attributes := #[] }, { accessFlags := 9, nameIndex := 117, descriptorIndex := 118, attributes := #[] }] 48 6 #[] #[{ accessFlags := 26, nameIndex := 61, descriptorIndex := 62, attributes := #[] }, { accessFlags := 26, nameIndex := 65, descriptorIndex := 62, attributes := #[] }, { accessFlags := 24, nameIndex := 430, descriptorIndex := 62, attributes := #[] }, { accessFlags := 4120, nameIndex := 46, descriptorIndex := 47, attributes := #[] }])
  fields := #[{ name := "HI_BYTE_SHIFT", type := .int, accessFlags := 26, slot := 0, constantValue := 0 }, { name := "LO_BYTE_SHIFT", type := .int, accessFlags := 26, slot := 1, constantValue := 0 }, { name := "MAX_LENGTH", type := .int, accessFlags := 24, slot := 2, constantValue := 0 }, { name := "$assertionsDisabled", type := .boolean, accessFlags := 4120, slot := 3, constantValue := 0 }]
  methods := #[k19m0, k19m1, k19m2, k19m3]
  instanceTypes := #[]
  staticTypes := #[.int, .int, .int, .boolean]
  resolved := Array.replicate 635 none
  statics := none }

def pool20 : Array CpInfo := pool [(9, u "<init>"), (6, .class_ 18), (1, u "java/lang/Object"), (0, u "()V"), (1, .class_ 23), (1, u "jdk/internal/util/ArraysSupport"), (0, u "LOG2_ARRAY_LONG_INDEX_SCALE"), (0, u "I"), (2, u "U"), (0, u "Ljdk/internal/misc/Unsafe;"), (8, u "BIG_ENDIAN"), (0, u "Z"), (8, u "LOG2_BYTE_BIT_SIZE"), (4, u "LOG2_ARRAY_INT_INDEX_SCALE"), (54, u "JLA"), (0, u "Ljdk/internal/access/JavaLangAccess;"), (11, u "LOG2_ARRAY_BOOLEAN_INDEX_SCALE"), (9, u "LOG2_ARRAY_BYTE_INDEX_SCALE"), (5, u "LOG2_ARRAY_CHAR_INDEX_SCALE"), (5, u "LOG2_ARRAY_SHORT_INDEX_SCALE"), (18, u "LOG2_ARRAY_FLOAT_INDEX_SCALE"), (24, u "LOG2_ARRAY_DOUBLE_INDEX_SCALE"), (89, u "T_BOOLEAN"), (2, u "T_CHAR"), (1, u "T_FLOAT"), (1, u "T_DOUBLE"), (1, u "T_BYTE"), (1, u "T_SHORT"), (1, u "T_INT"), (1, u "T_LONG"), (1, u "SOFT_MAX_ARRAY_LENGTH")] 83

def k20m0 : Method := { name := "<init>", desc := "()V", sig := { parameters := [], returnType := none }, accessFlags := 2, code := none }
/-- jdk/internal/util/ArraysSupport -/
def k20 : Class := { plain "jdk/internal/util/ArraysSupport" (some 0) with
  accessFlags := 33
  interfaces := #[]
  cf := some (fileOf pool20 21 #[] #[{ accessFlags := 2, nameIndex := 9, descriptorIndex := 19, attributes := #[] }] 33 16 #[] #[{ accessFlags := 24, nameIndex := 28, descriptorIndex := 29, attributes := #[] }, { accessFlags := 26, nameIndex := 38, descriptorIndex := 39, attributes := #[] }, { accessFlags := 25, nameIndex := 121, descriptorIndex := 25, attributes := #[] }, { accessFlags := 25, nameIndex := 131, descriptorIndex := 25, attributes := #[] }, { accessFlags := 25, nameIndex := 137, descriptorIndex := 25, attributes := #[] }, { accessFlags := 25, nameIndex := 143, descriptorIndex := 25, attributes := #[] }, { accessFlags := 25, nameIndex := 53, descriptorIndex := 25, attributes := #[] }, { accessFlags := 25, nameIndex := 24, descriptorIndex := 25, attributes := #[] }, { accessFlags := 25, nameIndex := 162, descriptorIndex := 25, attributes := #[] }, { accessFlags := 25, nameIndex := 187, descriptorIndex := 25, attributes := #[] }, { accessFlags := 26, nameIndex := 48, descriptorIndex := 25, attributes := #[] }, { accessFlags := 25, nameIndex := 277, descriptorIndex := 25, attributes := #[] }, { accessFlags := 25, nameIndex := 280, descriptorIndex := 25, attributes := #[] }, { accessFlags := 25, nameIndex := 282, descriptorIndex := 25, attributes := #[] }, { accessFlags := 25, nameIndex := 284, descriptorIndex := 25, attributes := #[] }, { accessFlags := 25, nameIndex := 286, descriptorIndex := 25, attributes := #[] }, { accessFlags := 25, nameIndex := 288, descriptorIndex := 25, attributes := #[] }, { accessFlags := 25, nameIndex := 290, descriptorIndex := 25, attributes := #[] }, { accessFlags := 25, nameIndex := 292, descriptorIndex := 25, attributes := #[] }, { accessFlags := 26, nameIndex := 108, descriptorIndex := 109, attributes := #[] }, { accessFlags := 25, nameIndex := 294, descriptorIndex := 25, attributes := #[] }])
  fields := #[{ name := "U", type := (.object "jdk/internal/misc/Unsafe"), accessFlags := 24, slot := 0, constantValue := 0 }, { name := "BIG_ENDIAN", type := .boolean, accessFlags := 26, slot := 1, constantValue := 0 }, { name := "LOG2_ARRAY_BOOLEAN_INDEX_SCALE", type := .int, accessFlags := 25, slot := 2, constantValue := 0 }, { name := "LOG2_ARRAY_BYTE_INDEX_SCALE", type := .int, accessFlags := 25, slot := 3, constantValue := 0 }, { name := "LOG2_ARRAY_CHAR_INDEX_SCALE", type := .int, accessFlags := 25, slot := 4, constantValue := 0 }, { name := "LOG2_ARRAY_SHORT_INDEX_SCALE", type := .int, accessFlags := 25, slot := 5, constantValue := 0 }, { name := "LOG2_ARRAY_INT_INDEX_SCALE", type := .int, accessFlags := 25, slot := 6, constantValue := 0 }, { name := "LOG2_ARRAY_LONG_INDEX_SCALE", type := .int, accessFlags := 25, slot := 7, constantValue := 0 }, { name := "LOG2_ARRAY_FLOAT_INDEX_SCALE", type := .int, accessFlags := 25, slot := 8, constantValue := 0 }, { name := "LOG2_ARRAY_DOUBLE_INDEX_SCALE", type := .int, accessFlags := 25, slot := 9, constantValue := 0 }, { name := "LOG2_BYTE_BIT_SIZE", type := .int, accessFlags := 26, slot := 10, constantValue := 0 }, { name := "T_BOOLEAN", type := .int, accessFlags := 25, slot := 11, constantValue := 0 }, { name := "T_CHAR", type := .int, accessFlags := 25, slot := 12, constantValue := 0 }, { name := "T_FLOAT", type := .int, accessFlags := 25, slot := 13, constantValue := 0 }, { name := "T_DOUBLE", type := .int, accessFlags := 25, slot := 14, constantValue := 0 }, { name := "T_BYTE", type := .int, accessFlags := 25, slot := 15, constantValue := 0 }, { name := "T_SHORT", type := .int, accessFlags := 25, slot := 16, constantValue := 0 }, { name := "T_INT", type := .int, accessFlags := 25, slot := 17, constantValue := 0 }, { name := "T_LONG", type := .int, accessFlags := 25, slot := 18, constantValue := 0 }, { name := "JLA", type := (.object "jdk/internal/access/JavaLangAccess"), accessFlags := 26, slot := 19, constantValue := 0 }, { name := "SOFT_MAX_ARRAY_LENGTH", type := .int, accessFlags := 25, slot := 20, constantValue := 0 }]
  methods := #[k20m0]
  instanceTypes := #[]
  staticTypes := #[(.object "jdk/internal/misc/Unsafe"), .boolean, .int, .int, .int, .int, .int, .int, .int, .int, .int, .int, .int, .int, .int, .int, .int, .int, .int, (.object "jdk/internal/access/JavaLangAccess"), .int]
  resolved := Array.replicate 378 none
  statics := none }

/-- the primitive byte -/
def k21 : Class := { plain "byte" none with kind := .primitive 'B', accessFlags := 0x411 }
/-- [B -/
def k22 : Class := { plain "[B" (some 0) with kind := .array 21 .byte, interfaces := #[18, 2], accessFlags := 1041 }

/-- the primitive char -/
def k23 : Class := { plain "char" none with kind := .primitive 'C', accessFlags := 0x411 }
/-- [C -/
def k24 : Class := { plain "[C" (some 0) with kind := .array 23 .char, interfaces := #[18, 2], accessFlags := 1041 }

/-- the primitive int -/
def k25 : Class := { plain "int" none with kind := .primitive 'I', accessFlags := 0x411 }
/-- [I -/
def k26 : Class := { plain "[I" (some 0) with kind := .array 25 .int, interfaces := #[18, 2], accessFlags := 1041 }

def heap : Heap := #[{ cls := 4, slots := #[.long 0, .long 0, .long 0, .int 0, .int 0, .long 0, .int 0, .null, .int 0, .null, .int 0, .ref 3], vm := .statics 4 },
  { cls := 12, slots := #[.long 0, .int 1, .null, .int 0, .null, .int 0, .int 0], vm := .statics 12 },
  { cls := 14, slots := #[.null, .null, .null], vm := .statics 14 },
  { cls := 22, slots := #[.int 15, .int 0, .int 12, .int 11, .int 0, .int 1, .int 2, .int 3, .int 4, .int 5, .int 6, .int 7, .int 8, .int 9, .int 10, .int 0, .int 0, .int 0, .int 0, .int 0, .int 0, .int 0, .int 0, .int 0, .int 0, .int 0, .int 14, .int 0, .int 0, .int 0, .int 0, .int 0, .int 0, .int 0, .int 0, .int 0, .int 0, .int 0, .int 0, .int 0, .int 0, .int 0, .int 0, .int 0, .int 0, .int 0, .int 0, .int 0, .int 0, .int 0, .int 0, .int 0, .int 0, .int 0, .int 0, .int 0, .int 0, .int 0, .int 13], vm := .none }]
def classes : Array Class := #[k0, k1, k2, k3, k4, k5, k6, k7, k8, k9, k10, k11, k12, k13, k14, k15, k16, k17, k18, k19, k20, k21, k22, k23, k24, k25, k26]
def interned : List (Array UInt16 × Addr) := []
def slotsUsed : Nat := 81
def theMethod : MethodId := ⟨1, 3⟩
def args0 : Array Value := #[.long 5, .long 7, .int 70, .int 9]
def aboutOver (below : List Frame) : State where
  vm := { classes := classes, interned := interned.toArray }
  heap := heap
  slotsUsed := slotsUsed
  threads := #[{ frames := .invoking theMethod args0 :: below }]
def below0 : List Frame := [.native { method := ⟨0, 0⟩, args := #[] }]
def about1 : State := aboutOver below0
def p0 : Program := .bare "" "" ""
def e0 : Env := launch0.env 0 0 0
theorem w_frames : about1.frames = Frame.invoking theMethod args0 :: below0 := rfl
set_option maxRecDepth 65536 in
theorem w_args : argsFit about1.vm theMethod args0 = true := by decide +kernel
set_option maxRecDepth 65536 in
theorem w_heap : heapFits about1 = true := by decide +kernel
set_option maxRecDepth 65536 in
theorem w_runnable : about1.curStatus? = some .runnable := by decide +kernel
set_option maxRecDepth 65536 in
theorem w_alone : about1.alone = true := by decide +kernel
set_option maxRecDepth 65536 in
theorem w_named : about1.methodNamed? x = some theMethod := by decide +kernel
set_option maxRecDepth 65536 in
theorem w_hears : about1.hears theMethod below0 = true := by decide +kernel
set_option maxRecDepth 65536 in
theorem w_ripe : about1.ripe theMethod args0 below0 = true := by decide +kernel
theorem w_running : about1.status = .running := rfl
set_option maxRecDepth 65536 in
theorem w_room : about1.hasRoom e0.platform room_1 = true :=
  launch0.hasRoom_least _ room_1 (by decide +kernel) (by decide +kernel) (by decide +kernel) (by decide +kernel) (by decide +kernel) (by decide +kernel)
theorem allAtoms_all (ts : List Jvm.Cond) (a : Array Jvm.Value) (st : Jvm.State) : (allAtoms ts).before a st = ts.all (fun c => c.before a st) := by
  induction ts with
  | nil => rfl
  | cons c t ih =>
    show (Jvm.Cond.and c (allAtoms t)).before a st = _
    rw [Jvm.Cond.before_and, ih, List.all_cons]
def words1 : List Jvm.Cond := Jvm.Cond.code x code maxLocals ret :: tables_1
/-- a 'code' word, met by the world's own term for the bytes: nothing is compared byte by byte -/
theorem code_word {y : MethodName} {bytes : ByteArray} {mx : Nat} {rt : Option FieldType} {a : Array Value} {s : State} {m : MethodId} {meth : Method} {c : Code} (h1 : s.methodNamed? y = some m) (h2 : s.vm.method? m = some meth) (h3 : meth.code = some c) (h4 : c.code = bytes)
    (h5 : (c.maxLocals == mx && c.exceptionTable.isEmpty && decide (c.maxStack ≤ mostOperands) && decide (meth.sig.returnType = rt) && !meth.locks && decide (parseMethodDescriptor y.desc = some meth.sig)) = true) : (Jvm.Cond.code y bytes mx rt).before a s = true := by
  simp only [Bool.and_eq_true, beq_iff_eq, Bool.not_eq_true', decide_eq_true_eq] at h5
  obtain ⟨⟨⟨⟨⟨g1, g2⟩, g3⟩, g4⟩, g5⟩, g6⟩ := h5
  simp [Cond.before, Cond.holds, Cond.value, h1, h2, h3, h4, g1, g2, g3, g4, g5, g6]
def isCode : Jvm.Cond → Bool
  | .code _ _ _ _ => true
  | _ => false
theorem all_split {L : List Jvm.Cond} {P : Jvm.Cond → Bool} (h1 : L.all (fun c => isCode c || P c) = true) (h2 : ∀ c ∈ L.filter isCode, P c = true) : L.all P = true := by
  refine List.all_eq_true.mpr fun c hc => ?_
  have h := List.all_eq_true.mp h1 c hc
  rcases Bool.eq_false_or_eq_true (isCode c) with hi | hi
  · exact h2 c (List.mem_filter.mpr ⟨hc, hi⟩)
  · simpa [hi] using h
set_option maxRecDepth 65536 in
theorem w_c0 : (Jvm.Cond.code x code maxLocals ret).before args0 about1 = true := code_word (m := ⟨1, 3⟩) (meth := k1m3) (c := k1c3) (by decide +kernel) rfl rfl rfl (by decide +kernel)
set_option maxRecDepth 65536 in
theorem w_c1 : (Jvm.Cond.code ({ cls := "com/example/plainjson/plainjson/JsonNumberParsedPinLaw", name := "d", desc := "(JI)C" } : Jvm.MethodName) method_2_code (3 : Nat) (Option.some Jvm.ClassFile.FieldType.char)).before args0 about1 = true := code_word (m := ⟨1, 1⟩) (meth := k1m1) (c := k1c1) (by decide +kernel) rfl rfl rfl (by decide +kernel)
set_option maxRecDepth 65536 in
theorem w_c2 : (Jvm.Cond.code ({ cls := "com/example/plainjson/plainjson/JsonNumber", name := "parsed", desc := "([CII)Lcom/example/plainjson/plainjson/JsonNumber;" } : Jvm.MethodName) prog_12_method_3_code (3 : Nat) (Option.some (Jvm.ClassFile.FieldType.object "com/example/plainjson/plainjson/JsonNumber"))).before args0 about1 = true := code_word (m := ⟨4, 1⟩) (meth := k4m1) (c := k4c1) (by decide +kernel) rfl rfl rfl (by decide +kernel)
set_option maxRecDepth 65536 in
theorem w_c3 : (Jvm.Cond.code ({ cls := "com/example/plainjson/plainjson/JsonNumber", name := "pack", desc := "([CII)J" } : Jvm.MethodName) prog_12_method_4_code (6 : Nat) (Option.some Jvm.ClassFile.FieldType.long)).before args0 about1 = true := code_word (m := ⟨4, 2⟩) (meth := k4m2) (c := k4c2) (by decide +kernel) rfl rfl rfl (by decide +kernel)
set_option maxRecDepth 65536 in
theorem w_c4 : (Jvm.Cond.code ({ cls := "com/example/plainjson/plainjson/JsonNumber", name := "<init>", desc := "(JLjava/lang/String;)V" } : Jvm.MethodName) prog_12_method_1_code (4 : Nat) (Option.none : Option Jvm.ClassFile.FieldType)).before args0 about1 = true := code_word (m := ⟨4, 0⟩) (meth := k4m0) (c := k4c0) (by decide +kernel) rfl rfl rfl (by decide +kernel)
set_option maxRecDepth 65536 in
theorem w_c5 : (Jvm.Cond.code ({ cls := "java/lang/Number", name := "<init>", desc := "()V" } : Jvm.MethodName) jdk_18_method_1_code (1 : Nat) (Option.none : Option Jvm.ClassFile.FieldType)).before args0 about1 = true := code_word (m := ⟨3, 0⟩) (meth := k3m0) (c := k3c0) (by decide +kernel) rfl rfl rfl (by decide +kernel)
set_option maxRecDepth 65536 in
theorem w_c6 : (Jvm.Cond.code ({ cls := "java/lang/Object", name := "<init>", desc := "()V" } : Jvm.MethodName) object_method_1_code (1 : Nat) (Option.none : Option Jvm.ClassFile.FieldType)).before args0 about1 = true := code_word (m := ⟨0, 0⟩) (meth := k0m0) (c := k0c0) (by decide +kernel) rfl rfl rfl (by decide +kernel)
set_option maxRecDepth 65536 in
theorem w_c7 : (Jvm.Cond.code ({ cls := "com/example/plainjson/plainjson/JsonNumber", name := "toString", desc := "()Ljava/lang/String;" } : Jvm.MethodName) prog_12_method_18_code (2 : Nat) (Option.some (Jvm.ClassFile.FieldType.object "java/lang/String"))).before args0 about1 = true := code_word (m := ⟨4, 3⟩) (meth := k4m3) (c := k4c3) (by decide +kernel) rfl rfl rfl (by decide +kernel)
set_option maxRecDepth 65536 in
theorem w_c8 : (Jvm.Cond.code ({ cls := "java/lang/StringBuilder", name := "<init>", desc := "(I)V" } : Jvm.MethodName) jdk_67_method_2_code (2 : Nat) (Option.none : Option Jvm.ClassFile.FieldType)).before args0 about1 = true := code_word (m := ⟨9, 1⟩) (meth := k9m1) (c := k9c1) (by decide +kernel) rfl rfl rfl (by decide +kernel)
set_option maxRecDepth 65536 in
theorem w_c9 : (Jvm.Cond.code ({ cls := "java/lang/AbstractStringBuilder", name := "<init>", desc := "(I)V" } : Jvm.MethodName) jdk_68_method_2_code (2 : Nat) (Option.none : Option Jvm.ClassFile.FieldType)).before args0 about1 = true := code_word (m := ⟨7, 1⟩) (meth := k7m1) (c := k7c1) (by decide +kernel) rfl rfl rfl (by decide +kernel)
set_option maxRecDepth 65536 in
theorem w_c10 : (Jvm.Cond.code ({ cls := "com/example/plainjson/plainjson/JsonNumber", name := "appendTo", desc := "(Ljava/lang/StringBuilder;)V" } : Jvm.MethodName) prog_12_method_19_code (5 : Nat) (Option.none : Option Jvm.ClassFile.FieldType)).before args0 about1 = true := code_word (m := ⟨4, 4⟩) (meth := k4m4) (c := k4c4) (by decide +kernel) rfl rfl rfl (by decide +kernel)
set_option maxRecDepth 65536 in
theorem w_c11 : (Jvm.Cond.code ({ cls := "java/lang/String", name := "charAt", desc := "(I)C" } : Jvm.MethodName) jdk_42_method_56_code (2 : Nat) (Option.some Jvm.ClassFile.FieldType.char)).before args0 about1 = true := code_word (m := ⟨12, 5⟩) (meth := k12m5) (c := k12c5) (by decide +kernel) rfl rfl rfl (by decide +kernel)
set_option maxRecDepth 65536 in
theorem w_c12 : (Jvm.Cond.code ({ cls := "java/lang/String", name := "isLatin1", desc := "()Z" } : Jvm.MethodName) jdk_42_method_154_code (1 : Nat) (Option.some Jvm.ClassFile.FieldType.boolean)).before args0 about1 = true := code_word (m := ⟨12, 9⟩) (meth := k12m9) (c := k12c9) (by decide +kernel) rfl rfl rfl (by decide +kernel)
set_option maxRecDepth 65536 in
theorem w_c13 : (Jvm.Cond.code ({ cls := "java/lang/StringLatin1", name := "charAt", desc := "([BI)C" } : Jvm.MethodName) jdk_43_method_2_code (2 : Nat) (Option.some Jvm.ClassFile.FieldType.char)).before args0 about1 = true := code_word (m := ⟨13, 1⟩) (meth := k13m1) (c := k13c1) (by decide +kernel) rfl rfl rfl (by decide +kernel)
set_option maxRecDepth 65536 in
theorem w_c14 : (Jvm.Cond.code ({ cls := "java/lang/String", name := "checkIndex", desc := "(II)V" } : Jvm.MethodName) jdk_42_method_155_code (2 : Nat) (Option.none : Option Jvm.ClassFile.FieldType)).before args0 about1 = true := code_word (m := ⟨12, 10⟩) (meth := k12m10) (c := k12c10) (by decide +kernel) rfl rfl rfl (by decide +kernel)
set_option maxRecDepth 65536 in
theorem w_c15 : (Jvm.Cond.code ({ cls := "jdk/internal/util/Preconditions", name := "checkIndex", desc := "(IILjava/util/function/BiFunction;)I" } : Jvm.MethodName) jdk_41_method_11_code (3 : Nat) (Option.some Jvm.ClassFile.FieldType.int)).before args0 about1 = true := code_word (m := ⟨14, 1⟩) (meth := k14m1) (c := k14c1) (by decide +kernel) rfl rfl rfl (by decide +kernel)
set_option maxRecDepth 65536 in
theorem w_c16 : (Jvm.Cond.code ({ cls := "java/lang/StringBuilder", name := "append", desc := "(C)Ljava/lang/StringBuilder;" } : Jvm.MethodName) jdk_67_method_14_code (2 : Nat) (Option.some (Jvm.ClassFile.FieldType.object "java/lang/StringBuilder"))).before args0 about1 = true := code_word (m := ⟨9, 2⟩) (meth := k9m2) (c := k9c2) (by decide +kernel) rfl rfl rfl (by decide +kernel)
set_option maxRecDepth 65536 in
theorem w_c17 : (Jvm.Cond.code ({ cls := "java/lang/AbstractStringBuilder", name := "append", desc := "(C)Ljava/lang/AbstractStringBuilder;" } : Jvm.MethodName) jdk_68_method_31_code (2 : Nat) (Option.some (Jvm.ClassFile.FieldType.object "java/lang/AbstractStringBuilder"))).before args0 about1 = true := code_word (m := ⟨7, 4⟩) (meth := k7m4) (c := k7c4) (by decide +kernel) rfl rfl rfl (by decide +kernel)
set_option maxRecDepth 65536 in
theorem w_c18 : (Jvm.Cond.code ({ cls := "java/lang/AbstractStringBuilder", name := "ensureCapacityInternal", desc := "(I)V" } : Jvm.MethodName) jdk_68_method_9_code (3 : Nat) (Option.none : Option Jvm.ClassFile.FieldType)).before args0 about1 = true := code_word (m := ⟨7, 3⟩) (meth := k7m3) (c := k7c3) (by decide +kernel) rfl rfl rfl (by decide +kernel)
set_option maxRecDepth 65536 in
theorem w_c19 : (Jvm.Cond.code ({ cls := "java/lang/AbstractStringBuilder", name := "isLatin1", desc := "()Z" } : Jvm.MethodName) jdk_68_method_68_code (1 : Nat) (Option.some Jvm.ClassFile.FieldType.boolean)).before args0 about1 = true := code_word (m := ⟨7, 6⟩) (meth := k7m6) (c := k7c6) (by decide +kernel) rfl rfl rfl (by decide +kernel)
set_option maxRecDepth 65536 in
theorem w_c20 : (Jvm.Cond.code ({ cls := "java/lang/StringLatin1", name := "canEncode", desc := "(C)Z" } : Jvm.MethodName) jdk_43_method_3_code (1 : Nat) (Option.some Jvm.ClassFile.FieldType.boolean)).before args0 about1 = true := code_word (m := ⟨13, 2⟩) (meth := k13m2) (c := k13c2) (by decide +kernel) rfl rfl rfl (by decide +kernel)
set_option maxRecDepth 65536 in
theorem w_c21 : (Jvm.Cond.code ({ cls := "java/lang/StringBuilder", name := "toString", desc := "()Ljava/lang/String;" } : Jvm.MethodName) jdk_67_method_42_code (1 : Nat) (Option.some (Jvm.ClassFile.FieldType.object "java/lang/String"))).before args0 about1 = true := code_word (m := ⟨9, 3⟩) (meth := k9m3) (c := k9c3) (by decide +kernel) rfl rfl rfl (by decide +kernel)
set_option maxRecDepth 65536 in
theorem w_c22 : (Jvm.Cond.code ({ cls := "java/lang/String", name := "<init>", desc := "(Ljava/lang/StringBuilder;)V" } : Jvm.MethodName) jdk_42_method_53_code (2 : Nat) (Option.none : Option Jvm.ClassFile.FieldType)).before args0 about1 = true := code_word (m := ⟨12, 3⟩) (meth := k12m3) (c := k12c3) (by decide +kernel) rfl rfl rfl (by decide +kernel)
set_option maxRecDepth 65536 in
theorem w_c23 : (Jvm.Cond.code ({ cls := "java/lang/String", name := "<init>", desc := "(Ljava/lang/AbstractStringBuilder;Ljava/lang/Void;)V" } : Jvm.MethodName) jdk_42_method_150_code (5 : Nat) (Option.none : Option Jvm.ClassFile.FieldType)).before args0 about1 = true := code_word (m := ⟨12, 7⟩) (meth := k12m7) (c := k12c7) (by decide +kernel) rfl rfl rfl (by decide +kernel)
set_option maxRecDepth 65536 in
theorem w_c24 : (Jvm.Cond.code ({ cls := "java/lang/AbstractStringBuilder", name := "getValue", desc := "()[B" } : Jvm.MethodName) jdk_68_method_64_code (1 : Nat) (Option.some (Jvm.ClassFile.FieldType.array Jvm.ClassFile.FieldType.byte))).before args0 about1 = true := code_word (m := ⟨7, 5⟩) (meth := k7m5) (c := k7c5) (by decide +kernel) rfl rfl rfl (by decide +kernel)
set_option maxRecDepth 65536 in
theorem w_c25 : (Jvm.Cond.code ({ cls := "java/lang/StringBuilder", name := "length", desc := "()I" } : Jvm.MethodName) jdk_67_method_93_code (1 : Nat) (Option.some Jvm.ClassFile.FieldType.int)).before args0 about1 = true := code_word (m := ⟨9, 4⟩) (meth := k9m4) (c := k9c4) (by decide +kernel) rfl rfl rfl (by decide +kernel)
set_option maxRecDepth 65536 in
theorem w_c26 : (Jvm.Cond.code ({ cls := "java/lang/AbstractStringBuilder", name := "length", desc := "()I" } : Jvm.MethodName) jdk_68_method_6_code (1 : Nat) (Option.some Jvm.ClassFile.FieldType.int)).before args0 about1 = true := code_word (m := ⟨7, 2⟩) (meth := k7m2) (c := k7c2) (by decide +kernel) rfl rfl rfl (by decide +kernel)
set_option maxRecDepth 65536 in
theorem w_c27 : (Jvm.Cond.code ({ cls := "java/util/Arrays", name := "copyOfRange", desc := "([BII)[B" } : Jvm.MethodName) jdk_65_method_132_code (3 : Nat) (Option.some (Jvm.ClassFile.FieldType.array Jvm.ClassFile.FieldType.byte))).before args0 about1 = true := code_word (m := ⟨15, 2⟩) (meth := k15m2) (c := k15c2) (by decide +kernel) rfl rfl rfl (by decide +kernel)
set_option maxRecDepth 65536 in
theorem w_c28 : (Jvm.Cond.code ({ cls := "java/util/Arrays", name := "copyOfRangeByte", desc := "([BII)[B" } : Jvm.MethodName) jdk_65_method_133_code (5 : Nat) (Option.some (Jvm.ClassFile.FieldType.array Jvm.ClassFile.FieldType.byte))).before args0 about1 = true := code_word (m := ⟨15, 3⟩) (meth := k15m3) (c := k15c3) (by decide +kernel) rfl rfl rfl (by decide +kernel)
set_option maxRecDepth 65536 in
theorem w_c29 : (Jvm.Cond.code ({ cls := "java/util/Arrays", name := "checkLength", desc := "(II)V" } : Jvm.MethodName) jdk_65_method_131_code (2 : Nat) (Option.none : Option Jvm.ClassFile.FieldType)).before args0 about1 = true := code_word (m := ⟨15, 1⟩) (meth := k15m1) (c := k15c1) (by decide +kernel) rfl rfl rfl (by decide +kernel)
set_option maxRecDepth 65536 in
theorem w_c30 : (Jvm.Cond.code ({ cls := "java/lang/Math", name := "min", desc := "(II)I" } : Jvm.MethodName) jdk_29_method_69_code (2 : Nat) (Option.some Jvm.ClassFile.FieldType.int)).before args0 about1 = true := code_word (m := ⟨16, 1⟩) (meth := k16m1) (c := k16c1) (by decide +kernel) rfl rfl rfl (by decide +kernel)
set_option maxRecDepth 65536 in
theorem w_c31 : (Jvm.Cond.code ({ cls := "java/lang/String", name := "length", desc := "()I" } : Jvm.MethodName) jdk_42_method_54_code (1 : Nat) (Option.some Jvm.ClassFile.FieldType.int)).before args0 about1 = true := code_word (m := ⟨12, 4⟩) (meth := k12m4) (c := k12c4) (by decide +kernel) rfl rfl rfl (by decide +kernel)
set_option maxRecDepth 65536 in
theorem w_c32 : (Jvm.Cond.code ({ cls := "java/lang/String", name := "coder", desc := "()B" } : Jvm.MethodName) jdk_42_method_152_code (1 : Nat) (Option.some Jvm.ClassFile.FieldType.byte)).before args0 about1 = true := code_word (m := ⟨12, 8⟩) (meth := k12m8) (c := k12c8) (by decide +kernel) rfl rfl rfl (by decide +kernel)
set_option maxRecDepth 65536 in
theorem w_c33 : (Jvm.Cond.code ({ cls := "com/example/plainjson/plainjson/JsonNumberParsedPinLaw", name := "same", desc := "(Ljava/lang/String;[CIII)Z" } : Jvm.MethodName) method_3_code (5 : Nat) (Option.some Jvm.ClassFile.FieldType.boolean)).before args0 about1 = true := code_word (m := ⟨1, 2⟩) (meth := k1m2) (c := k1c2) (by decide +kernel) rfl rfl rfl (by decide +kernel)
set_option maxRecDepth 65536 in
theorem w_c34 : (Jvm.Cond.code ({ cls := "java/lang/String", name := "<init>", desc := "([CII)V" } : Jvm.MethodName) jdk_42_method_4_code (4 : Nat) (Option.none : Option Jvm.ClassFile.FieldType)).before args0 about1 = true := code_word (m := ⟨12, 1⟩) (meth := k12m1) (c := k12c1) (by decide +kernel) rfl rfl rfl (by decide +kernel)
set_option maxRecDepth 65536 in
theorem w_c35 : (Jvm.Cond.code ({ cls := "java/lang/String", name := "rangeCheck", desc := "([CII)Ljava/lang/Void;" } : Jvm.MethodName) jdk_42_method_5_code (3 : Nat) (Option.some (Jvm.ClassFile.FieldType.object "java/lang/Void"))).before args0 about1 = true := code_word (m := ⟨12, 2⟩) (meth := k12m2) (c := k12c2) (by decide +kernel) rfl rfl rfl (by decide +kernel)
set_option maxRecDepth 65536 in
theorem w_c36 : (Jvm.Cond.code ({ cls := "java/lang/String", name := "checkBoundsOffCount", desc := "(III)I" } : Jvm.MethodName) jdk_42_method_157_code (3 : Nat) (Option.some Jvm.ClassFile.FieldType.int)).before args0 about1 = true := code_word (m := ⟨12, 11⟩) (meth := k12m11) (c := k12c11) (by decide +kernel) rfl rfl rfl (by decide +kernel)
set_option maxRecDepth 65536 in
theorem w_c37 : (Jvm.Cond.code ({ cls := "jdk/internal/util/Preconditions", name := "checkFromIndexSize", desc := "(IIILjava/util/function/BiFunction;)I" } : Jvm.MethodName) jdk_41_method_13_code (4 : Nat) (Option.some Jvm.ClassFile.FieldType.int)).before args0 about1 = true := code_word (m := ⟨14, 2⟩) (meth := k14m2) (c := k14c2) (by decide +kernel) rfl rfl rfl (by decide +kernel)
set_option maxRecDepth 65536 in
theorem w_c38 : (Jvm.Cond.code ({ cls := "java/lang/String", name := "<init>", desc := "([CIILjava/lang/Void;)V" } : Jvm.MethodName) jdk_42_method_149_code (6 : Nat) (Option.none : Option Jvm.ClassFile.FieldType)).before args0 about1 = true := code_word (m := ⟨12, 6⟩) (meth := k12m6) (c := k12c6) (by decide +kernel) rfl rfl rfl (by decide +kernel)
set_option maxRecDepth 65536 in
theorem w_c39 : (Jvm.Cond.code ({ cls := "java/lang/StringUTF16", name := "compress", desc := "([CII)[B" } : Jvm.MethodName) jdk_52_method_16_code (6 : Nat) (Option.some (Jvm.ClassFile.FieldType.array Jvm.ClassFile.FieldType.byte))).before args0 about1 = true := code_word (m := ⟨19, 2⟩) (meth := k19m2) (c := k19c2) (by decide +kernel) rfl rfl rfl (by decide +kernel)
set_option maxRecDepth 65536 in
theorem w_c40 : (Jvm.Cond.code ({ cls := "java/lang/StringUTF16", name := "compress", desc := "([CI[BII)I" } : Jvm.MethodName) jdk_52_method_21_code (7 : Nat) (Option.some Jvm.ClassFile.FieldType.int)).before args0 about1 = true := code_word (m := ⟨19, 3⟩) (meth := k19m3) (c := k19c3) (by decide +kernel) rfl rfl rfl (by decide +kernel)
set_option maxRecDepth 65536 in
theorem w_c41 : (Jvm.Cond.code ({ cls := "java/lang/StringUTF16", name := "coderFromArrayLen", desc := "([BI)B" } : Jvm.MethodName) jdk_52_method_15_code (2 : Nat) (Option.some Jvm.ClassFile.FieldType.byte)).before args0 about1 = true := code_word (m := ⟨19, 1⟩) (meth := k19m1) (c := k19c1) (by decide +kernel) rfl rfl rfl (by decide +kernel)
def codes1 : List Jvm.Cond := [Jvm.Cond.code x code maxLocals ret, Jvm.Cond.code ({ cls := "com/example/plainjson/plainjson/JsonNumberParsedPinLaw", name := "d", desc := "(JI)C" } : Jvm.MethodName) method_2_code (3 : Nat) (Option.some Jvm.ClassFile.FieldType.char), Jvm.Cond.code ({ cls := "com/example/plainjson/plainjson/JsonNumber", name := "parsed", desc := "([CII)Lcom/example/plainjson/plainjson/JsonNumber;" } : Jvm.MethodName) prog_12_method_3_code (3 : Nat) (Option.some (Jvm.ClassFile.FieldType.object "com/example/plainjson/plainjson/JsonNumber")), Jvm.Cond.code ({ cls := "com/example/plainjson/plainjson/JsonNumber", name := "pack", desc := "([CII)J" } : Jvm.MethodName) prog_12_method_4_code (6 : Nat) (Option.some Jvm.ClassFile.FieldType.long), Jvm.Cond.code ({ cls := "com/example/plainjson/plainjson/JsonNumber", name := "<init>", desc := "(JLjava/lang/String;)V" } : Jvm.MethodName) prog_12_method_1_code (4 : Nat) (Option.none : Option Jvm.ClassFile.FieldType), Jvm.Cond.code ({ cls := "java/lang/Number", name := "<init>", desc := "()V" } : Jvm.MethodName) jdk_18_method_1_code (1 : Nat) (Option.none : Option Jvm.ClassFile.FieldType), Jvm.Cond.code ({ cls := "java/lang/Object", name := "<init>", desc := "()V" } : Jvm.MethodName) object_method_1_code (1 : Nat) (Option.none : Option Jvm.ClassFile.FieldType), Jvm.Cond.code ({ cls := "com/example/plainjson/plainjson/JsonNumber", name := "toString", desc := "()Ljava/lang/String;" } : Jvm.MethodName) prog_12_method_18_code (2 : Nat) (Option.some (Jvm.ClassFile.FieldType.object "java/lang/String")), Jvm.Cond.code ({ cls := "java/lang/StringBuilder", name := "<init>", desc := "(I)V" } : Jvm.MethodName) jdk_67_method_2_code (2 : Nat) (Option.none : Option Jvm.ClassFile.FieldType), Jvm.Cond.code ({ cls := "java/lang/AbstractStringBuilder", name := "<init>", desc := "(I)V" } : Jvm.MethodName) jdk_68_method_2_code (2 : Nat) (Option.none : Option Jvm.ClassFile.FieldType), Jvm.Cond.code ({ cls := "com/example/plainjson/plainjson/JsonNumber", name := "appendTo", desc := "(Ljava/lang/StringBuilder;)V" } : Jvm.MethodName) prog_12_method_19_code (5 : Nat) (Option.none : Option Jvm.ClassFile.FieldType), Jvm.Cond.code ({ cls := "java/lang/String", name := "charAt", desc := "(I)C" } : Jvm.MethodName) jdk_42_method_56_code (2 : Nat) (Option.some Jvm.ClassFile.FieldType.char), Jvm.Cond.code ({ cls := "java/lang/String", name := "isLatin1", desc := "()Z" } : Jvm.MethodName) jdk_42_method_154_code (1 : Nat) (Option.some Jvm.ClassFile.FieldType.boolean), Jvm.Cond.code ({ cls := "java/lang/StringLatin1", name := "charAt", desc := "([BI)C" } : Jvm.MethodName) jdk_43_method_2_code (2 : Nat) (Option.some Jvm.ClassFile.FieldType.char), Jvm.Cond.code ({ cls := "java/lang/String", name := "checkIndex", desc := "(II)V" } : Jvm.MethodName) jdk_42_method_155_code (2 : Nat) (Option.none : Option Jvm.ClassFile.FieldType), Jvm.Cond.code ({ cls := "jdk/internal/util/Preconditions", name := "checkIndex", desc := "(IILjava/util/function/BiFunction;)I" } : Jvm.MethodName) jdk_41_method_11_code (3 : Nat) (Option.some Jvm.ClassFile.FieldType.int), Jvm.Cond.code ({ cls := "java/lang/StringBuilder", name := "append", desc := "(C)Ljava/lang/StringBuilder;" } : Jvm.MethodName) jdk_67_method_14_code (2 : Nat) (Option.some (Jvm.ClassFile.FieldType.object "java/lang/StringBuilder")), Jvm.Cond.code ({ cls := "java/lang/AbstractStringBuilder", name := "append", desc := "(C)Ljava/lang/AbstractStringBuilder;" } : Jvm.MethodName) jdk_68_method_31_code (2 : Nat) (Option.some (Jvm.ClassFile.FieldType.object "java/lang/AbstractStringBuilder")), Jvm.Cond.code ({ cls := "java/lang/AbstractStringBuilder", name := "ensureCapacityInternal", desc := "(I)V" } : Jvm.MethodName) jdk_68_method_9_code (3 : Nat) (Option.none : Option Jvm.ClassFile.FieldType), Jvm.Cond.code ({ cls := "java/lang/AbstractStringBuilder", name := "isLatin1", desc := "()Z" } : Jvm.MethodName) jdk_68_method_68_code (1 : Nat) (Option.some Jvm.ClassFile.FieldType.boolean), Jvm.Cond.code ({ cls := "java/lang/StringLatin1", name := "canEncode", desc := "(C)Z" } : Jvm.MethodName) jdk_43_method_3_code (1 : Nat) (Option.some Jvm.ClassFile.FieldType.boolean), Jvm.Cond.code ({ cls := "java/lang/StringBuilder", name := "toString", desc := "()Ljava/lang/String;" } : Jvm.MethodName) jdk_67_method_42_code (1 : Nat) (Option.some (Jvm.ClassFile.FieldType.object "java/lang/String")), Jvm.Cond.code ({ cls := "java/lang/String", name := "<init>", desc := "(Ljava/lang/StringBuilder;)V" } : Jvm.MethodName) jdk_42_method_53_code (2 : Nat) (Option.none : Option Jvm.ClassFile.FieldType), Jvm.Cond.code ({ cls := "java/lang/String", name := "<init>", desc := "(Ljava/lang/AbstractStringBuilder;Ljava/lang/Void;)V" } : Jvm.MethodName) jdk_42_method_150_code (5 : Nat) (Option.none : Option Jvm.ClassFile.FieldType), Jvm.Cond.code ({ cls := "java/lang/AbstractStringBuilder", name := "getValue", desc := "()[B" } : Jvm.MethodName) jdk_68_method_64_code (1 : Nat) (Option.some (Jvm.ClassFile.FieldType.array Jvm.ClassFile.FieldType.byte)), Jvm.Cond.code ({ cls := "java/lang/StringBuilder", name := "length", desc := "()I" } : Jvm.MethodName) jdk_67_method_93_code (1 : Nat) (Option.some Jvm.ClassFile.FieldType.int), Jvm.Cond.code ({ cls := "java/lang/AbstractStringBuilder", name := "length", desc := "()I" } : Jvm.MethodName) jdk_68_method_6_code (1 : Nat) (Option.some Jvm.ClassFile.FieldType.int), Jvm.Cond.code ({ cls := "java/util/Arrays", name := "copyOfRange", desc := "([BII)[B" } : Jvm.MethodName) jdk_65_method_132_code (3 : Nat) (Option.some (Jvm.ClassFile.FieldType.array Jvm.ClassFile.FieldType.byte)), Jvm.Cond.code ({ cls := "java/util/Arrays", name := "copyOfRangeByte", desc := "([BII)[B" } : Jvm.MethodName) jdk_65_method_133_code (5 : Nat) (Option.some (Jvm.ClassFile.FieldType.array Jvm.ClassFile.FieldType.byte)), Jvm.Cond.code ({ cls := "java/util/Arrays", name := "checkLength", desc := "(II)V" } : Jvm.MethodName) jdk_65_method_131_code (2 : Nat) (Option.none : Option Jvm.ClassFile.FieldType), Jvm.Cond.code ({ cls := "java/lang/Math", name := "min", desc := "(II)I" } : Jvm.MethodName) jdk_29_method_69_code (2 : Nat) (Option.some Jvm.ClassFile.FieldType.int), Jvm.Cond.code ({ cls := "java/lang/String", name := "length", desc := "()I" } : Jvm.MethodName) jdk_42_method_54_code (1 : Nat) (Option.some Jvm.ClassFile.FieldType.int), Jvm.Cond.code ({ cls := "java/lang/String", name := "coder", desc := "()B" } : Jvm.MethodName) jdk_42_method_152_code (1 : Nat) (Option.some Jvm.ClassFile.FieldType.byte), Jvm.Cond.code ({ cls := "com/example/plainjson/plainjson/JsonNumberParsedPinLaw", name := "same", desc := "(Ljava/lang/String;[CIII)Z" } : Jvm.MethodName) method_3_code (5 : Nat) (Option.some Jvm.ClassFile.FieldType.boolean), Jvm.Cond.code ({ cls := "java/lang/String", name := "<init>", desc := "([CII)V" } : Jvm.MethodName) jdk_42_method_4_code (4 : Nat) (Option.none : Option Jvm.ClassFile.FieldType), Jvm.Cond.code ({ cls := "java/lang/String", name := "rangeCheck", desc := "([CII)Ljava/lang/Void;" } : Jvm.MethodName) jdk_42_method_5_code (3 : Nat) (Option.some (Jvm.ClassFile.FieldType.object "java/lang/Void")), Jvm.Cond.code ({ cls := "java/lang/String", name := "checkBoundsOffCount", desc := "(III)I" } : Jvm.MethodName) jdk_42_method_157_code (3 : Nat) (Option.some Jvm.ClassFile.FieldType.int), Jvm.Cond.code ({ cls := "jdk/internal/util/Preconditions", name := "checkFromIndexSize", desc := "(IIILjava/util/function/BiFunction;)I" } : Jvm.MethodName) jdk_41_method_13_code (4 : Nat) (Option.some Jvm.ClassFile.FieldType.int), Jvm.Cond.code ({ cls := "java/lang/String", name := "<init>", desc := "([CIILjava/lang/Void;)V" } : Jvm.MethodName) jdk_42_method_149_code (6 : Nat) (Option.none : Option Jvm.ClassFile.FieldType), Jvm.Cond.code ({ cls := "java/lang/StringUTF16", name := "compress", desc := "([CII)[B" } : Jvm.MethodName) jdk_52_method_16_code (6 : Nat) (Option.some (Jvm.ClassFile.FieldType.array Jvm.ClassFile.FieldType.byte)), Jvm.Cond.code ({ cls := "java/lang/StringUTF16", name := "compress", desc := "([CI[BII)I" } : Jvm.MethodName) jdk_52_method_21_code (7 : Nat) (Option.some Jvm.ClassFile.FieldType.int), Jvm.Cond.code ({ cls := "java/lang/StringUTF16", name := "coderFromArrayLen", desc := "([BI)B" } : Jvm.MethodName) jdk_52_method_15_code (2 : Nat) (Option.some Jvm.ClassFile.FieldType.byte)]
set_option maxRecDepth 65536 in
theorem codes_eq : words1.filter isCode = codes1 := rfl
theorem w_codes : ∀ c ∈ words1.filter isCode, c.before args0 about1 = true := by
  rw [codes_eq]
  intro c hc
  simp only [codes1, List.mem_cons, List.not_mem_nil, or_false] at hc
  rcases hc with rfl | rfl | rfl | rfl | rfl | rfl | rfl | rfl | rfl | rfl | rfl | rfl | rfl | rfl | rfl | rfl | rfl | rfl | rfl | rfl | rfl | rfl | rfl | rfl | rfl | rfl | rfl | rfl | rfl | rfl | rfl | rfl | rfl | rfl | rfl | rfl | rfl | rfl | rfl | rfl | rfl | rfl
  · exact w_c0
  · exact w_c1
  · exact w_c2
  · exact w_c3
  · exact w_c4
  · exact w_c5
  · exact w_c6
  · exact w_c7
  · exact w_c8
  · exact w_c9
  · exact w_c10
  · exact w_c11
  · exact w_c12
  · exact w_c13
  · exact w_c14
  · exact w_c15
  · exact w_c16
  · exact w_c17
  · exact w_c18
  · exact w_c19
  · exact w_c20
  · exact w_c21
  · exact w_c22
  · exact w_c23
  · exact w_c24
  · exact w_c25
  · exact w_c26
  · exact w_c27
  · exact w_c28
  · exact w_c29
  · exact w_c30
  · exact w_c31
  · exact w_c32
  · exact w_c33
  · exact w_c34
  · exact w_c35
  · exact w_c36
  · exact w_c37
  · exact w_c38
  · exact w_c39
  · exact w_c40
  · exact w_c41
set_option maxRecDepth 65536 in
theorem w_t1 : (words1.take 24).all (fun c => isCode c || c.before args0 about1) = true := by decide +kernel
set_option maxRecDepth 65536 in
theorem w_t2 : ((words1.drop 24).take 24).all (fun c => isCode c || c.before args0 about1) = true := by decide +kernel
set_option maxRecDepth 65536 in
theorem w_t3 : (((words1.drop 24).drop 24).take 24).all (fun c => isCode c || c.before args0 about1) = true := by decide +kernel
set_option maxRecDepth 65536 in
theorem w_t4 : ((((words1.drop 24).drop 24).drop 24).take 24).all (fun c => isCode c || c.before args0 about1) = true := by decide +kernel
set_option maxRecDepth 65536 in
theorem w_t5 : (((((words1.drop 24).drop 24).drop 24).drop 24).take 24).all (fun c => isCode c || c.before args0 about1) = true := by decide +kernel
set_option maxRecDepth 65536 in
theorem w_t6 : ((((((words1.drop 24).drop 24).drop 24).drop 24).drop 24).take 24).all (fun c => isCode c || c.before args0 about1) = true := by decide +kernel
set_option maxRecDepth 65536 in
theorem w_t7 : (((((((words1.drop 24).drop 24).drop 24).drop 24).drop 24).drop 24).take 24).all (fun c => isCode c || c.before args0 about1) = true := by decide +kernel
set_option maxRecDepth 65536 in
theorem w_t8 : ((((((((words1.drop 24).drop 24).drop 24).drop 24).drop 24).drop 24).drop 24).take 24).all (fun c => isCode c || c.before args0 about1) = true := by decide +kernel
set_option maxRecDepth 65536 in
theorem w_t9 : ((((((((words1.drop 24).drop 24).drop 24).drop 24).drop 24).drop 24).drop 24).drop 24).all (fun c => isCode c || c.before args0 about1) = true := by decide +kernel
theorem w_tables : (allAtoms (Jvm.Cond.code x code maxLocals ret :: tables_1)).before args0 about1 = true := by
  rw [allAtoms_all]
  show words1.all (fun c => c.before args0 about1) = true
  refine all_split ?_ w_codes
  rw [← List.take_append_drop 24 words1, List.all_append, w_t1, ← List.take_append_drop 24 (words1.drop 24), List.all_append, w_t2, ← List.take_append_drop 24 ((words1.drop 24).drop 24), List.all_append, w_t3, ← List.take_append_drop 24 (((words1.drop 24).drop 24).drop 24), List.all_append, w_t4, ← List.take_append_drop 24 ((((words1.drop 24).drop 24).drop 24).drop 24), List.all_append, w_t5, ← List.take_append_drop 24 (((((words1.drop 24).drop 24).drop 24).drop 24).drop 24), List.all_append, w_t6, ← List.take_append_drop 24 ((((((words1.drop 24).drop 24).drop 24).drop 24).drop 24).drop 24), List.all_append, w_t7, ← List.take_append_drop 24 (((((((words1.drop 24).drop 24).drop 24).drop 24).drop 24).drop 24).drop 24), List.all_append, w_t8, w_t9]
  rfl
set_option maxRecDepth 65536 in
theorem w_rest : rest_1_c.before args0 about1 = true := by decide +kernel
set_option maxRecDepth 65536 in
theorem w_case : (Jvm.Cond.and given_1 narrow_1).before args0 about1 = true := by decide +kernel
set_option maxRecDepth 65536 in
theorem w_consts : constsHeld consts_1 about1 := Jvm.Lit.constsHeldB_iff.mp (by decide +kernel)
theorem w_applies : (headSpec (Jvm.Cond.code x code maxLocals ret :: tables_1) room_1).applies x e0.platform about1 = true :=
  (Spec.applies_iff w_frames).mpr ⟨w_running, w_runnable, w_alone, w_named, w_hears, w_ripe, w_room, w_tables⟩
theorem atStart : AtStart classFile x code maxLocals ret World_1 tables_1 room_1 Calls_1 rest_1 Pre_1 launch0 p0 e0 about1 theMethod args0 below0 :=
  ⟨lists_1, trivial, launch0.admits_env _ _ _, launch0.least_env, fairChoices_fair.cas, fairChoices_fair.clock, w_frames, w_args, w_heap, w_applies, ⟨w_consts, trivial⟩, w_rest, w_case⟩
end start1
theorem witness_1 : WitnessClaimed_1 := ⟨start1.p0, start1.e0, start1.about1, start1.theMethod, start1.args0, start1.below0, start1.atStart⟩
end Jvm.Pilot.@@N@@
