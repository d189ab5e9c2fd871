import JvmDerived
import JvmDerived.Pilot.@@N@@Statement
import JvmDerived.Pilot.@@N@@Code
set_option linter.unusedVariables false
set_option linter.unusedSimpArgs false
set_option maxRecDepth 65536
set_option maxHeartbeats 40000000
namespace Jvm.RoadKit
open Sem ClassFile Op Lib Jvm.Stand Jvm.Free Jvm.LawKit
section New
variable {p : Program} {l : Launch} {e : Env} {R : Room} {s : State} {m : MethodId} {args : Array Value} {below : List Frame} {meth : Method} {c : Code} {T : State} {locs : List Loc} {cells slots : Nat}
theorem retI (X : Stand p l e R s m args below meth c T locs cells slots) (hx : p.tables.exec = Jvm.exec) {pc : Nat} {Ls : Array Slot} {z : Int32} {rest : List Value} (hret : meth.sig.returnType = some .int) (hd : decode c.code pc = .ok (.ireturn, 1)) {fs : List Frame}
    (hl : ∀ (f : JFrame) (acts : List Action), f.method = m → f.locked = none → f.entered = [] → (doReturn e (T.setTop f) acts (some (.int z))).1 = T.setFrames fs) : Steps p.tables e below (T.setTop (mkF m pc Ls (.int z :: rest))) (T.setFrames fs) := by
  have hm' : T.vm.method? m = some meth := X.method'
  have hn : narrow .int (.int z) = .int z := rfl
  show Steps p.tables e below (T.setTop { method := m, pc := pc, locals := Ls, stack := _ :: rest, locked := none }) _
  jvm_step X.here [X.here.top, hx, hd, hm', hret, hn]
  first | (intro acts; rw [hl _ acts rfl rfl rfl]) | rw [hl _ _ rfl rfl rfl]
  exact Steps.refl _
abbrev vI (x : Int32) : Slot := .val (.int x)
abbrev vJ (x : Int64) : Slot := .val (.long x)
abbrev vR (x : Addr) : Slot := .val (.ref x)
abbrev iI (x : Int32) : Value := .int x
abbrev iJ (x : Int64) : Value := .long x
abbrev iR (x : Addr) : Value := .ref x
abbrev SA {tb : Tables} {e : Env} {b : List Frame} {t : State} (T : State) (m : MethodId) (pc : Nat) (L : Array Slot) (S : List Value) : Prop := Steps tb e b (T.setTop (mkF m pc L S)) t
theorem gF {Z : State} {a0 : Array Value} {h : Heap} (X : Stand p l e R s m args below meth c T locs cells slots) (hx : p.tables.exec = Jvm.exec) (hZ : Z.Warmed39 s.vm) {own R0 n d : String} {index : Nat} (hown : s.vm.findClass own = some m.cls) (w : (Cond.fieldLink own index R0 n d).before a0 Z = true)
    (eT : T.heap = h) {a : Addr} {v : Value} (F : Fld Z h a R0 n d v) {g : JFrame} (hg : g.method = m) {rest : List Value} (hs : g.stack = .ref a :: rest) (hd : decode c.code g.pc = .ok (.getfield index, 3)) : ∃ T', Stand p l e R s m args below meth c T' locs cells slots ∧ T'.heap = h ∧ ∀ target, Steps p.tables e below (T'.setTop { g with pc := g.pc + 3, stack := v :: rest }) target → Steps p.tables e below (T.setTop g) target := getF X hx hZ hown (host := "") (Or.inl w) Via.refl eT F hg hs hd
theorem wz {g : JFrame} {rest : List Value} {W : Nat} (h : 2 * g.monitorRoom + (rest.map fun v => v.category).sum = W) : 2 * g.monitorRoom + (rest.map fun v => v.category).sum ≤ W := Nat.le_of_eq h
/-- from one frame to another over the same heap -/
def own_Mid (X : Stand p l e R s m args below meth c T locs cells slots) (h : Heap) (F F' : JFrame) : Prop :=
  ∃ T', Stand p l e R s m args below meth c T' locs cells slots ∧ T'.heap = h ∧ ∀ t, Steps p.tables e below (T'.setTop F') t → Steps p.tables e below (T.setTop F) t
/-- no interface: known of one method of the class, said of another -/
theorem own_nf {s : State} {y z : MethodName} {args : Array Value} (hc : z.cls = y.cls) (h : NotFace s z) (hz : (Cond.instanceMethod z).before args s = true) : NotFace s y := fun r0 h0 => by
  obtain ⟨r1, -, h1, -, -, -⟩ := Cond.instanceMethod_spec hz
  have e1 := findClass_of_methodNamed h0
  have e2 := findClass_of_methodNamed h1
  rw [hc, e1] at e2
  obtain ⟨k, k1, k2⟩ := h r1 h1
  exact ⟨k, by rw [Option.some.inj e2]; exact k1, k2⟩
theorem own_same {s : State} {args : Array Value} {y : MethodName} (hi : (Cond.instanceMethod y).before args s = true) (hnf : NotFace s y) (hy : y.cls ≠ "java/lang/invoke/MethodHandle" ∧ y.cls ≠ "java/lang/invoke/VarHandle") : (Cond.sameMethod y.cls y.cls y.name y.desc).before args s = true := by
  obtain ⟨mk, methM, hnamed, hmethM, -, -⟩ := Cond.instanceMethod_spec hi
  have hfound := State.methodFound?_of_named hnamed hy
  have hc := findClass_of_methodNamed hnamed
  obtain ⟨k, hk, hni⟩ := hnf _ hnamed
  simp [Cond.before, Cond.holds, Cond.value, hc, hk, hni, hfound, hnamed]
/-- a private method is its own choice: its class is made by 'new' -/
theorem own_selPriv {s : State} {args : Array Value} {y : MethodName} {n : Nat} (hi : (Cond.instantiable y.cls n).before args s = true) (hpriv : s.PrivateAt y) (hinst : (Cond.instanceMethod y).before args s = true) (hy : y.cls ≠ "java/lang/invoke/MethodHandle" ∧ y.cls ≠ "java/lang/invoke/VarHandle") : (Cond.selects y.cls y y).before args s = true := by
  obtain ⟨c, k, h1, h2, -, h4, -, -⟩ := Cond.instantiable_spec hi
  exact Stand.selects_self_of_private h1 h2 (Bool.or_eq_false_iff.mp h4).1 hpriv hinst hy
theorem own_selPriv2 {s : State} {args : Array Value} {y : MethodName} (hnf : NotFace s y) (hpriv : s.PrivateAt y) (hinst : (Cond.instanceMethod y).before args s = true) (hy : y.cls ≠ "java/lang/invoke/MethodHandle" ∧ y.cls ≠ "java/lang/invoke/VarHandle") : (Cond.selects y.cls y y).before args s = true := by
  obtain ⟨mk, methM, hnamed, -, -, -⟩ := Cond.instanceMethod_spec hinst
  obtain ⟨k, hk, hni⟩ := hnf _ hnamed
  exact Stand.selects_self_of_private (findClass_of_methodNamed hnamed) hk hni hpriv hinst hy
end New
end Jvm.RoadKit
namespace Jvm.Pilot.@@N@@
open Jvm Jvm.ClassFile Sem Op Lib Jvm.Free Jvm.Stand Jvm.LawKit Jvm.RoadKit Bundle Jvm.Pilot.@@N@@.Jvm.D
abbrev own_bs (A : List Int32) : List Value := A.map Value.int
abbrev dk (c : ByteArray) (p : Nat) (i : Jvm.ClassFile.Instr) (n : Nat) : Prop := Jvm.ClassFile.decode c p = .ok (i, n)
abbrev c1 := method_9_code
abbrev c10 := jdk_42_method_152_code
abbrev c11 := jdk_42_method_74_code
abbrev c12 := jdk_43_method_30_code
abbrev c13 := jdk_42_method_91_code
abbrev c14 := jdk_42_method_92_code
abbrev c15 := jdk_42_method_158_code
abbrev c16 := jdk_41_method_12_code
abbrev c17 := jdk_42_method_76_code
abbrev c18 := jdk_42_method_75_code
abbrev c19 := jdk_48_method_14_code
abbrev c2 := jdk_42_method_3_code
abbrev c20 := jdk_42_method_114_code
abbrev c21 := jdk_42_method_154_code
abbrev c22 := jdk_43_method_39_code
abbrev c23 := jdk_43_method_37_code
abbrev c24 := jdk_43_method_44_code
abbrev c25 := jdk_116_method_26_code
abbrev c26 := jdk_116_method_1_code
abbrev c27 := jdk_43_method_38_code
abbrev c28 := jdk_43_method_47_code
abbrev c29 := jdk_65_method_132_code
abbrev c3 := jdk_42_method_149_code
abbrev c30 := jdk_65_method_133_code
abbrev c31 := jdk_65_method_131_code
abbrev c32 := jdk_29_method_69_code
abbrev c33 := jdk_42_method_151_code
abbrev c34 := method_5_code
abbrev c35 := method_4_code
abbrev c36 := method_6_code
abbrev c37 := method_3_code
abbrev c38 := jdk_42_method_56_code
abbrev c39 := jdk_43_method_2_code
abbrev c40 := jdk_42_method_155_code
abbrev c41 := jdk_41_method_11_code
abbrev c42 := method_8_code
abbrev c43 := jdk_116_method_22_code
abbrev c44 := method_7_code
abbrev c5 := jdk_52_method_16_code
abbrev c6 := jdk_52_method_21_code
abbrev c7 := jdk_52_method_15_code
abbrev c8 := prog_1_method_2_code
abbrev c9 := jdk_42_method_54_code
abbrev Rm (a b c d : Nat) : Room := { frames := a, cells := b, slots := c, locals := d }
abbrev MFn (l : Launch) (y : MethodName) (cd : ByteArray) (ml : Nat) (rt : Option Jvm.ClassFile.FieldType) (ws : List Jvm.Cond) (rm : Room) (ar : Array Value) (Z : State) (h0 : Heap) (Q : Option Value → Heap → List Loc → Prop) : Prop := MetFree l y (head1 (Jvm.Cond.code y cd ml rt :: ws) rm) (fun a U => a = ar ∧ Z.Warmed39 U.vm ∧ U.heap = h0) (fun _ _ _ _ _ => True) (fun _ U o U' => ∃ v L, o = .returned v ∧ Q v U'.heap L ∧ FrameEnd U o U' L rm.cells rm.slots)
abbrev MFh (l : Launch) (y : MethodName) (cd : ByteArray) (ml : Nat) (rt : Option Jvm.ClassFile.FieldType) (ws : List Jvm.Cond) (rm : Room) (ar : Array Value) (Z : State) (h0 : Heap) (Q : Option Value → Heap → List Loc → Prop) : Prop := MetFree l y (head1 (Jvm.Cond.code y cd ml rt :: ws) rm) (fun a U => a = ar ∧ Z.Warmed39 U.vm ∧ U.heap = h0 ∧ CHv Z consts_1 U.vm h0) (fun _ _ _ _ _ => True) (fun _ U o U' => ∃ v L, o = .returned v ∧ Q v U'.heap L ∧ CHr Z consts_1 U.vm U.heap U'.vm U'.heap ∧ ReturnedEndW U o U' L rm.cells rm.slots)
abbrev AB (Z : State) (h : Heap) (d : Addr) (k : ClassId) (z : Int32) (B : List Int32) : Prop := Arv Z h d k .byte z (own_bs B) (.int (0 : Int32))
abbrev AC (Z : State) (h : Heap) (d : Addr) (k : ClassId) (z : Int32) (B : List Int32) : Prop := Arv Z h d k .char z (own_bs B) (.int (0 : Int32))
abbrev ES (Z : State) (h : Heap) (a : Addr) : Prop := Exa Z h a "java/lang/String"
abbrev FC (Z : State) (h : Heap) (a : Addr) : Prop := Fld Z h a "java/lang/String" "coder" "B" (.int (0 : Int32))
abbrev FV (Z : State) (h : Heap) (a d : Addr) : Prop := Fld Z h a "java/lang/String" "value" "[B" (.ref d)
abbrev SC (Z : State) (cs : Int32) : Prop := Sta Z Z.heap "java/lang/String" "COMPACT_STRINGS" "Z" (.int cs)
abbrev SM (Z : State) (fm : Value) : Prop := Sta Z Z.heap "jdk/internal/util/Preconditions" "SIOOBE_FORMATTER" "Ljava/util/function/BiFunction;" fm
abbrev ST (Z : State) (a : Addr) : Prop := Sta Z Z.heap "java/lang/CharacterDataLatin1" "A" "[I" (.ref a)
abbrev SI (Z : State) (a : Addr) : Prop := Sta Z Z.heap "java/lang/CharacterDataLatin1" "instance" "Ljava/lang/CharacterDataLatin1;" (.ref a)
abbrev HW (a0 : Array Value) (Z : State) : Prop := ∀ d ∈ tables_1, d.before a0 Z = true
abbrev PP (p : Program) (e : Env) (below : List Frame) (A B : State) : Prop := ∀ t, Steps p.tables e below A t → Steps p.tables e below B t
theorem mw {a0 args : Array Value} {Z s : State} {d : Jvm.Cond} (hZ : Z.Warmed39 s.vm) (hw : HW a0 Z) (i : Nat) (h : tables_1[i]? = some d) (hd : (d.onTables && d.keepsFace) = true := by first | rfl | simp [Cond.onTables, Cond.keepsFace, Cond.keeps, Cond.steady]) : d.before args s = true := mvT hZ (hw _ (List.mem_of_getElem? h)) hd
theorem cast0 {p : Program} {e : Env} {below : List Frame} {T : State} {f g : JFrame} (h : f = g) : PP p e below (T.setTop g) (T.setTop f) := fun t k => castTop h k
theorem neB {a b n : Addr} (h : a < n) (g : b = n) : a ≠ b := Nat.ne_of_lt (Nat.lt_of_lt_of_le h (Nat.le_of_eq g.symm))
theorem neC {a b n : Addr} (h : a < n) (g : n ≤ b) : a ≠ b := Nat.ne_of_lt (Nat.lt_of_lt_of_le h g)
theorem szB {a b n : Addr} (h : a ≤ n) (g : b = n) : a ≤ b := Nat.le_trans h (Nat.le_of_eq g.symm)
def QP (h0 : Heap) (r v : Option Value) (h : Heap) (L : List Loc) : Prop := v = r ∧ L = [] ∧ h = h0
theorem ww {a0 : Array Value} {Z : State} (hw : HW a0 Z) (i : Nat) {d : Jvm.Cond} (e : tables_1[i]? = some d) : d.before a0 Z = true := hw _ (List.mem_of_getElem? e)
abbrev mn_0 : MethodName := (⟨"java/lang/String", "isLatin1", "()Z"⟩ : MethodName)
abbrev mn_1 : MethodName := (⟨"jdk/internal/util/Preconditions", "checkIndex", "(IILjava/util/function/BiFunction;)I"⟩ : MethodName)
abbrev mn_2 : MethodName := (⟨"java/lang/String", "checkIndex", "(II)V"⟩ : MethodName)
abbrev mn_3 : MethodName := (⟨"java/lang/StringLatin1", "charAt", "([BI)C"⟩ : MethodName)
abbrev mn_4 : MethodName := (⟨"java/lang/String", "charAt", "(I)C"⟩ : MethodName)
abbrev mn_5 : MethodName := (⟨"java/lang/StringUTF16", "compress", "([CI[BII)I"⟩ : MethodName)
abbrev mn_6 : MethodName := (⟨"java/lang/StringUTF16", "compress", "([CII)[B"⟩ : MethodName)
abbrev mn_7 : MethodName := (⟨"java/lang/StringUTF16", "coderFromArrayLen", "([BI)B"⟩ : MethodName)
abbrev mn_8 : MethodName := (⟨"java/lang/String", "<init>", "([CIILjava/lang/Void;)V"⟩ : MethodName)
abbrev mn_9 : MethodName := (⟨"java/lang/String", "<init>", "([C)V"⟩ : MethodName)
abbrev mn_10 : MethodName := (⟨"java/lang/String", "coder", "()B"⟩ : MethodName)
abbrev mn_11 : MethodName := (⟨"java/lang/String", "length", "()I"⟩ : MethodName)
abbrev mn_12 : MethodName := (⟨"java/lang/CharacterDataLatin1", "equalsIgnoreCase", "(BB)Z"⟩ : MethodName)
abbrev mn_13 : MethodName := (⟨"java/lang/StringLatin1", "regionMatchesCI", "([BI[BII)Z"⟩ : MethodName)
abbrev mn_14 : MethodName := (⟨"java/lang/String", "regionMatches", "(ZILjava/lang/String;II)Z"⟩ : MethodName)
abbrev mn_15 : MethodName := (⟨"java/lang/Math", "min", "(II)I"⟩ : MethodName)
abbrev mn_16 : MethodName := (⟨"java/util/Arrays", "checkLength", "(II)V"⟩ : MethodName)
abbrev mn_17 : MethodName := (⟨"java/util/Arrays", "copyOfRangeByte", "([BII)[B"⟩ : MethodName)
abbrev mn_18 : MethodName := (⟨"java/util/Arrays", "copyOfRange", "([BII)[B"⟩ : MethodName)
abbrev mn_19 : MethodName := (⟨"java/lang/String", "<init>", "([BB)V"⟩ : MethodName)
abbrev mn_20 : MethodName := (⟨"java/lang/StringLatin1", "newString", "([BII)Ljava/lang/String;"⟩ : MethodName)
abbrev mn_21 : MethodName := (⟨"jdk/internal/util/Preconditions", "checkFromToIndex", "(IIILjava/util/function/BiFunction;)I"⟩ : MethodName)
abbrev mn_22 : MethodName := (⟨"java/lang/String", "checkBoundsBeginEnd", "(III)V"⟩ : MethodName)
abbrev mn_23 : MethodName := (⟨"java/lang/String", "substring", "(II)Ljava/lang/String;"⟩ : MethodName)
abbrev mn_24 : MethodName := (⟨"java/lang/String", "substring", "(I)Ljava/lang/String;"⟩ : MethodName)
abbrev mn_25 : MethodName := (⟨"jdk/internal/util/ArraysSupport", "mismatch", "([BI[BII)I"⟩ : MethodName)
abbrev mn_26 : MethodName := (⟨"java/lang/String", "startsWith", "(Ljava/lang/String;I)Z"⟩ : MethodName)
abbrev mn_27 : MethodName := (⟨"java/lang/String", "startsWith", "(Ljava/lang/String;)Z"⟩ : MethodName)
abbrev mn_28 : MethodName := (⟨"java/lang/StringLatin1", "getChar", "([BI)C"⟩ : MethodName)
abbrev mn_29 : MethodName := (⟨"java/lang/CharacterDataLatin1", "getProperties", "(I)I"⟩ : MethodName)
abbrev mn_30 : MethodName := (⟨"java/lang/CharacterDataLatin1", "isWhitespace", "(I)Z"⟩ : MethodName)
abbrev mn_31 : MethodName := (⟨"java/lang/StringLatin1", "indexOfNonWhitespace", "([B)I"⟩ : MethodName)
abbrev mn_32 : MethodName := (⟨"java/lang/StringLatin1", "lastIndexOfNonWhitespace", "([B)I"⟩ : MethodName)
abbrev mn_33 : MethodName := (⟨"java/lang/StringLatin1", "strip", "([B)Ljava/lang/String;"⟩ : MethodName)
abbrev mn_34 : MethodName := (⟨"java/lang/String", "strip", "()Ljava/lang/String;"⟩ : MethodName)
abbrev mn_35 : MethodName := (⟨"com/example/cloud_to_core/cloudtocore/auth/HttpAuthorization", "credentials", "(Ljava/lang/String;Ljava/lang/String;)Ljava/lang/String;"⟩ : MethodName)
abbrev mn_36 : MethodName := (⟨"com/example/cloud_to_core/cloudtocore/auth/HttpAuthorizationCredentialsPinLaw", "ws", "(C)Z"⟩ : MethodName)
abbrev mn_37 : MethodName := (⟨"com/example/cloud_to_core/cloudtocore/auth/HttpAuthorizationCredentialsPinLaw", "swap", "(C)C"⟩ : MethodName)
abbrev mn_38 : MethodName := (⟨"com/example/cloud_to_core/cloudtocore/auth/HttpAuthorizationCredentialsPinLaw", "fold", "(C)I"⟩ : MethodName)
abbrev mn_39 : MethodName := (⟨"com/example/cloud_to_core/cloudtocore/auth/HttpAuthorizationCredentialsPinLaw", "lo", "([CII)I"⟩ : MethodName)
abbrev mn_40 : MethodName := (⟨"com/example/cloud_to_core/cloudtocore/auth/HttpAuthorizationCredentialsPinLaw", "hi", "([CII)I"⟩ : MethodName)
abbrev mn_41 : MethodName := (⟨"com/example/cloud_to_core/cloudtocore/auth/HttpAuthorizationCredentialsPinLaw", "at", "(Ljava/lang/String;[CII)Z"⟩ : MethodName)
abbrev mn_42 : MethodName := (⟨"com/example/cloud_to_core/cloudtocore/auth/HttpAuthorizationCredentialsPinLaw", "str", "([CI)Ljava/lang/String;"⟩ : MethodName)
theorem pd_0 : parseMethodDescriptor "(IILjava/util/function/BiFunction;)I" = some ⟨[.int, .int, (.object "java/util/function/BiFunction")], some .int⟩ := by decide +kernel
theorem pd_1 : parseMethodDescriptor "(II)V" = some ⟨[.int, .int], none⟩ := by decide +kernel
theorem pd_2 : parseMethodDescriptor "()Z" = some ⟨[], some .boolean⟩ := by decide +kernel
theorem pd_3 : parseMethodDescriptor "([BI)C" = some ⟨[(.array .byte), .int], some .char⟩ := by decide +kernel
theorem pd_4 : parseMethodDescriptor "([CI[BII)I" = some ⟨[(.array .char), .int, (.array .byte), .int, .int], some .int⟩ := by decide +kernel
theorem pd_5 : parseMethodDescriptor "([CII)[B" = some ⟨[(.array .char), .int, .int], some (.array .byte)⟩ := by decide +kernel
theorem pd_6 : parseMethodDescriptor "([BI)B" = some ⟨[(.array .byte), .int], some .byte⟩ := by decide +kernel
theorem pd_7 : parseMethodDescriptor "([CIILjava/lang/Void;)V" = some ⟨[(.array .char), .int, .int, (.object "java/lang/Void")], none⟩ := by decide +kernel
theorem pd_8 : parseMethodDescriptor "()B" = some ⟨[], some .byte⟩ := by decide +kernel
theorem pd_9 : parseMethodDescriptor "(BB)Z" = some ⟨[.byte, .byte], some .boolean⟩ := by decide +kernel
theorem pd_10 : parseMethodDescriptor "()I" = some ⟨[], some .int⟩ := by decide +kernel
theorem pd_11 : parseMethodDescriptor "([BI[BII)Z" = some ⟨[(.array .byte), .int, (.array .byte), .int, .int], some .boolean⟩ := by decide +kernel
theorem pd_12 : parseMethodDescriptor "(II)I" = some ⟨[.int, .int], some .int⟩ := by decide +kernel
theorem pd_13 : parseMethodDescriptor "([BII)[B" = some ⟨[(.array .byte), .int, .int], some (.array .byte)⟩ := by decide +kernel
theorem pd_14 : parseMethodDescriptor "([BB)V" = some ⟨[(.array .byte), .byte], none⟩ := by decide +kernel
theorem pd_15 : parseMethodDescriptor "(IIILjava/util/function/BiFunction;)I" = some ⟨[.int, .int, .int, (.object "java/util/function/BiFunction")], some .int⟩ := by decide +kernel
theorem pd_16 : parseMethodDescriptor "(III)V" = some ⟨[.int, .int, .int], none⟩ := by decide +kernel
theorem pd_17 : parseMethodDescriptor "(II)Ljava/lang/String;" = some ⟨[.int, .int], some (.object "java/lang/String")⟩ := by decide +kernel
theorem pd_18 : parseMethodDescriptor "([BII)Ljava/lang/String;" = some ⟨[(.array .byte), .int, .int], some (.object "java/lang/String")⟩ := by decide +kernel
theorem pd_19 : parseMethodDescriptor "(Ljava/lang/String;I)Z" = some ⟨[(.object "java/lang/String"), .int], some .boolean⟩ := by decide +kernel
theorem pd_20 : parseMethodDescriptor "([BI[BII)I" = some ⟨[(.array .byte), .int, (.array .byte), .int, .int], some .int⟩ := by decide +kernel
theorem pd_21 : parseMethodDescriptor "(I)I" = some ⟨[.int], some .int⟩ := by decide +kernel
theorem pd_22 : parseMethodDescriptor "(I)Z" = some ⟨[.int], some .boolean⟩ := by decide +kernel
theorem pd_23 : parseMethodDescriptor "([B)I" = some ⟨[(.array .byte)], some .int⟩ := by decide +kernel
theorem pd_24 : parseMethodDescriptor "([B)Ljava/lang/String;" = some ⟨[(.array .byte)], some (.object "java/lang/String")⟩ := by decide +kernel
theorem pd_25 : parseMethodDescriptor "(Ljava/lang/String;)Z" = some ⟨[(.object "java/lang/String")], some .boolean⟩ := by decide +kernel
theorem pd_26 : parseMethodDescriptor "()Ljava/lang/String;" = some ⟨[], some (.object "java/lang/String")⟩ := by decide +kernel
theorem pd_27 : parseMethodDescriptor "(ZILjava/lang/String;II)Z" = some ⟨[.boolean, .int, (.object "java/lang/String"), .int, .int], some .boolean⟩ := by decide +kernel
theorem pd_28 : parseMethodDescriptor "(I)Ljava/lang/String;" = some ⟨[.int], some (.object "java/lang/String")⟩ := by decide +kernel
theorem pd_29 : parseMethodDescriptor "(C)Z" = some ⟨[.char], some .boolean⟩ := by decide +kernel
theorem pd_30 : parseMethodDescriptor "(I)C" = some ⟨[.int], some .char⟩ := by decide +kernel
theorem pd_31 : parseMethodDescriptor "([C)V" = some ⟨[(.array .char)], none⟩ := by decide +kernel
theorem pd_32 : parseMethodDescriptor "(Ljava/lang/String;[CII)Z" = some ⟨[(.object "java/lang/String"), (.array .char), .int, .int], some .boolean⟩ := by decide +kernel
theorem pd_33 : parseMethodDescriptor "([CII)I" = some ⟨[(.array .char), .int, .int], some .int⟩ := by decide +kernel
theorem pd_34 : parseMethodDescriptor "(C)I" = some ⟨[.char], some .int⟩ := by decide +kernel
theorem pd_35 : parseMethodDescriptor "(Ljava/lang/String;Ljava/lang/String;)Ljava/lang/String;" = some ⟨[(.object "java/lang/String"), (.object "java/lang/String")], some (.object "java/lang/String")⟩ := by decide +kernel
theorem pd_36 : parseMethodDescriptor "([CI)Ljava/lang/String;" = some ⟨[(.array .char), .int], some (.object "java/lang/String")⟩ := by decide +kernel
theorem pd_37 : parseMethodDescriptor "(C)C" = some ⟨[.char], some .char⟩ := by decide +kernel

theorem own_shl0 (x : Int32) : x <<< ((0 : Int32) &&& 31) = x := by
  have h := c_ishl x 0 0 (by decide)
  have r1 := rng32 x
  have r2 := rng32 (x <<< ((0 : Int32) &&& 31))
  apply Int32.toInt_inj.mp
  omega
theorem own_z0 : (0 : Int32).toNatClampNeg = 0 := rfl
theorem own_shr0 (x : Int32) : x >>> ((0 : Int32) &&& 31) = x := by
  apply Int32.toInt_inj.mp
  rw [c_ishr x 0 0 (by decide)]; simp
theorem own_bsApp (A B : List Int32) : own_bs (A ++ B) = own_bs A ++ own_bs B := List.map_append
theorem own_rangeB (B : List Int32) (d : Value) : ((List.range B.length).map fun i => (own_bs B).getD (0 + i) d) = own_bs B := by
  apply List.ext_getElem
  · simp
  · intro i h1 h2
    have h3 : i < B.length := by simpa using h1
    simp [List.getD_eq_getElem?_getD, h3]
theorem own_cpy {Z : State} {h : Heap} {b : Addr} {k : ClassId} {cap : Int32} {A B : List Int32} {n sp z : Int32} {m : Nat} (hA : n.toNatClampNeg = A.length) (hs : sp.toNatClampNeg = 0) (hB : z.toNatClampNeg = B.length)
    (F : Arv Z h b k .byte cap ((own_bs A ++ List.replicate m (Value.int (0 : Int32))).take n.toNatClampNeg ++ ((List.range z.toNatClampNeg).map fun i => (own_bs B).getD (sp.toNatClampNeg + i) (.int (0 : Int32))) ++ (own_bs A ++ List.replicate m (Value.int (0 : Int32))).drop (n.toNatClampNeg + z.toNatClampNeg)) (.int (0 : Int32))) : AB Z h b k cap (A ++ B) := by
  rw [hA, hs, hB, own_rangeB, List.take_left' (by simp), List.drop_append, List.drop_eq_nil_of_le (by simp), List.nil_append, List.drop_replicate, ← own_bsApp] at F
  exact F.pad fun i => (pad_rep _ _ _ i).symm
theorem own_cpN {Z : State} {h : Heap} {b : Addr} {k : ClassId} {cap nc : Int32} {A : List Int32} {m : Nat} (hA : A.length ≤ cap.toNatClampNeg)
    (F : Arv Z h b k .byte nc (([] ++ List.replicate m (Value.int (0 : Int32))).take (0 : Int32).toNatClampNeg ++ ((List.range cap.toNatClampNeg).map fun i => (own_bs A).getD ((0 : Int32).toNatClampNeg + i) (.int (0 : Int32))) ++ ([] ++ List.replicate m (Value.int (0 : Int32))).drop ((0 : Int32).toNatClampNeg + cap.toNatClampNeg)) (.int (0 : Int32))) : AB Z h b k nc A := by
  refine F.pad fun i => ?_
  rw [own_z0]
  simp only [List.take_zero, List.nil_append, List.drop_replicate, Nat.zero_add]
  rw [pad_rep]
  simp only [List.getD_eq_getElem?_getD, List.getElem?_map]
  by_cases q : i < cap.toNatClampNeg
  · rw [List.getElem?_range q]; simp
  · rw [List.getElem?_eq_none (l := List.range _) (by simpa using q), List.getElem?_eq_none (l := A) (by omega)]; rfl
theorem own_ncne {nc : Int32} (h : ¬ (2147483639 : Int32) < nc) : ¬ nc = (2147483647 : Int32) := fun e => h (by rw [e]; decide)

def own_c8 (x : Int32) : Prop := 0 ≤ x.toInt ∧ x.toInt ≤ 255
theorem own_c8n {x : Int32} (h : own_c8 x) : ¬ (255 : Int32) < x := by
  rw [Int32.lt_iff_toInt_lt]
  have e : (255 : Int32).toInt = 255 := rfl
  have := h.2
  omega
abbrev own_by (v : Int32) : Int32 := nar .byte v.toInt8.toInt32
def own_tk (CL : List Int32) (i : Nat) : List Int32 := (CL.take i).map own_by
theorem own_tkS {CL : List Int32} {i : Nat} (h : i < CL.length) : own_tk CL i ++ [own_by (CL.getD i 0)] = own_tk CL (i + 1) := by
  simp only [own_tk]
  rw [List.take_add_one, List.map_append]
  congr 1
  rw [List.getElem?_eq_getElem h, List.getD_eq_getElem?_getD, List.getElem?_eq_getElem h]
  rfl
theorem own_tkL {CL : List Int32} {i : Nat} (h : i ≤ CL.length) : (own_tk CL i).length = i := by
  simp only [own_tk, List.length_map, List.length_take]; omega
theorem own_tkA (CL : List Int32) : own_tk CL CL.length = CL.map own_by := by simp [own_tk]
theorem own_neg {i : Int32} (h : i.toInt < 0) : i < (0 : Int32) := by rw [Int32.lt_iff_toInt_lt]; exact h
theorem own_nneg {i : Int32} (h : 0 ≤ i.toInt) : ¬ i < (0 : Int32) := by rw [Int32.lt_iff_toInt_lt]; have e : (0 : Int32).toInt = 0 := rfl; omega
theorem own_tn {i : Int32} {n : Nat} (h : i.toInt = (n : Int)) : i.toNatClampNeg = n := by simp only [Int32.toNatClampNeg]; omega
theorem own_inc {i : Int32} {n : Nat} (h : i.toInt = (n : Int)) (hn : n < 1000) : (i + (1 : Int32)).toInt = ((n + 1 : Nat) : Int) := by
  have q := c_iadd i 1
  have r := rng32 (i + (1 : Int32))
  have e : (1 : Int32).toInt = 1 := rfl
  omega
theorem own_lt {a b : Int32} (h : a.toInt < b.toInt) : a < b := by rw [Int32.lt_iff_toInt_lt]; exact h
theorem own_nlt {a b : Int32} (h : b.toInt ≤ a.toInt) : ¬ a < b := by rw [Int32.lt_iff_toInt_lt]; omega
theorem own_subz (x : Int32) : x - x = 0 := by
  apply Int32.toInt_inj.mp
  have q := c_isub x x
  have r := rng32 (x - x)
  have e : (0 : Int32).toInt = 0 := rfl
  omega
theorem own_get8 {CL : List Int32} (hok : ∀ x ∈ CL, own_c8 x) {i : Nat} (hi : i < CL.length) : own_c8 (CL.getD i 0) := by
  rw [List.getD_eq_getElem?_getD, List.getElem?_eq_getElem hi]
  exact hok _ (List.getElem_mem _)
theorem own_setL (A : List Int32) (x : Int32) (d : Value) : (own_bs A ++ List.replicate 1 d).set A.length (.int x) = own_bs (A ++ [x]) := by
  rw [List.set_append_right _ _ (by simp), own_bsApp]
  simp [own_bs]

def own_chr (x : Int32) : Int32 := nar .char ((x &&& (255 : Int32)).toUInt32.toUInt16.toUInt32.toInt32)
theorem own_bsget (B : List Int32) (i : Nat) : (own_bs B).getD i (.int (0 : Int32)) = .int (B.getD i 0) := by
  simp only [List.getD_eq_getElem?_getD, List.getElem?_map]
  cases B[i]? <;> rfl
theorem own_chr2 (x : Int32) : nar .char (own_chr x) = own_chr x := by
  have h1 := c_i2c (x &&& (255 : Int32))
  have h2 := c_i2c ((x &&& (255 : Int32)).toUInt32.toUInt16.toUInt32.toInt32)
  have h3 := c_i2c (own_chr x)
  have e2 : own_chr x = ((x &&& (255 : Int32)).toUInt32.toUInt16.toUInt32.toInt32).toUInt32.toUInt16.toUInt32.toInt32 := rfl
  rw [← e2] at h2
  show (own_chr x).toUInt32.toUInt16.toUInt32.toInt32 = own_chr x
  apply Int32.toInt_inj.mp
  omega
theorem d21_0 : dk c21 0 (.getstatic 38) 3 := by decide +kernel
theorem d21_3 : dk c21 3 (.ifCond .eq 14) 3 := by decide +kernel
theorem d21_6 : dk c21 6 (.aload_n 0) 1 := by decide +kernel
theorem d21_7 : dk c21 7 (.getfield 15) 3 := by decide +kernel
theorem d21_10 : dk c21 10 (.ifCond .ne 7) 3 := by decide +kernel
theorem d21_13 : dk c21 13 (.iconst 1) 1 := by decide +kernel
theorem d21_14 : dk c21 14 (.goto 4) 3 := by decide +kernel
theorem d21_18 : dk c21 18 .ireturn 1 := by decide +kernel
theorem pn_0 : plainName "java/lang/String" = true := by first | (simp [plainName, overriddenIn]; done) | decide +kernel
theorem ef_21 (m : MethodId) (x0 : Addr) : entryFrame m #[(.ref x0)] 1 = mkF m 0 #[.val (.ref x0)] [] := by first | (simp [entryFrame, mkF, argsToLocals, Value.category]; done) | rfl
theorem rm21 (l : Launch) (Z : State) (a0 : Array Value) (hw : HW a0 Z) (ws : List Jvm.Cond) (a1 : Addr) (cs : Int32) (h0 : Heap) (n0 : Nat) (O0 : Old Z n0 h0) (Fc_a1 : FC Z h0 a1) (S_CS : SC Z cs) (h_cs : ¬ cs = (0 : Int32)) :
    MFn l mn_0 jdk_42_method_154_code 1 (some .boolean) ws (Rm 0 0 0 0) #[(.ref a1)] Z h0 (QP h0 (some (.int (1 : Int32)))) := by
  refine MetFree.of_bodySF (plainFor_of_name pn_0) hisR ?_
  intro p e s m args below meth c s₁ Bd hml0 hP hK
  obtain ⟨rfl, hZ, hh⟩ := hP
  have hx := Bd.exec
  have hby := Bd.bytes
  have hml : c.maxLocals = 1 := hml0
  have hown := findClass_of_methodNamed Bd.named
  have X0 : Stand p l e (Rm 0 0 0 0) s m _ below meth c _ [] 0 0 := Stand.of_body Bd
  have e0 : s₁.heap = h0 := by rw [← hh, Bd.state]; rfl
  have pre0 := cast0 (p := p) (e := e) (below := below) (T := s₁) (ef_21 m a1)
  obtain ⟨T1, X1, e1, st1⟩ := getS2 X0 hx hZ hown (host := "") (Or.inl (ww hw 18 rfl)) Via.refl e0 (S_CS.ext O0.2) (g := (mkF m 0 #[vR a1] [])) rfl (hb hby d21_0)
  obtain ⟨T2, X2, e2, st2⟩ := gF X1 hx hZ hown (ww hw 30 rfl) e1 Fc_a1 (g := (mkF m 7 #[vR a1] [iR a1])) rfl rfl (hb hby d21_7)
  obtain ⟨fs, hr, hrun, hended, hW, hsame⟩ := X2.leave (v := some (.int (1 : Int32))) (fun h => by rw [Bd.returns] at h; cases h)
  refine ⟨_, _, pre0 _ ?_, hrun, hended, _, _, rfl, ?_, ⟨_, rfl⟩, hW, hsame.mono (by decide) (by decide)⟩
  · refine st1 _ ?_
    refine XS.ifNo X1.here hx rfl (hb hby d21_3) rfl ((if0 _ _).trans (feq h_cs).1) ?_
    refine XS.aloadN X1.here hx rfl (hb hby d21_6) rfl rfl ?_
    refine st2 _ ?_
    refine XS.ifNo X2.here hx rfl (hb hby d21_10) rfl ((if0 _ _).trans (teq (by decide : (0 : Int32) = (0 : Int32))).2) ?_
    refine XS.iconst X2.here hx rfl (hb hby d21_13) ?_
    refine XS.goto X2.here hx rfl (pc0 := 14) (pc' := 18) rfl (hb hby d21_14) (by decide) (by decide) ?_
    show Steps _ _ _ (T2.setTop (mkF m 18 #[vR a1] [iI 1])) _
    exact retN X2 hx (t := .boolean) Bd.returns (by simp) (hb hby d21_18) hr
  · show QP _ _ _ T2.heap _
    rw [e2]
    exact ⟨rfl, rfl, rfl⟩
theorem d41_0 : dk c41 0 (.iload_n 0) 1 := by decide +kernel
theorem d41_1 : dk c41 1 (.ifCond .lt 8) 3 := by decide +kernel
theorem d41_4 : dk c41 4 (.iload_n 0) 1 := by decide +kernel
theorem d41_5 : dk c41 5 (.iload_n 1) 1 := by decide +kernel
theorem d41_6 : dk c41 6 (.if_icmp .lt 10) 3 := by decide +kernel
theorem d41_16 : dk c41 16 (.iload_n 0) 1 := by decide +kernel
theorem d41_17 : dk c41 17 .ireturn 1 := by decide +kernel
theorem pn_1 : plainName "jdk/internal/util/Preconditions" = true := by first | (simp [plainName, overriddenIn]; done) | decide +kernel
theorem ef_41_n (m : MethodId) (x0 : Int32) (x1 : Int32) : entryFrame m #[(.int x0), (.int x1), .null] 3 = mkF m 0 #[.val (.int x0), .val (.int x1), .val .null] [] := by first | (simp [entryFrame, mkF, argsToLocals, Value.category]; done) | rfl
theorem rm41_n (l : Launch) (Z : State) (a0 : Array Value) (hw : HW a0 Z) (ws : List Jvm.Cond) (p1 : Int32) (p2 : Int32) (h0 : Heap) (hj0 : ¬ p1 < (0 : Int32)) (hj1 : p1 < p2) :
    MFn l mn_1 jdk_41_method_11_code 3 (some .int) ws (Rm 0 0 0 0) #[(.int p1), (.int p2), .null] Z h0 (QP h0 (some (.int p1))) := by
  refine MetFree.of_bodySF (plainFor_of_name pn_1) hisR ?_
  intro p e s m args below meth c s₁ Bd hml0 hP hK
  obtain ⟨rfl, hZ, hh⟩ := hP
  have hx := Bd.exec
  have hby := Bd.bytes
  have hml : c.maxLocals = 3 := hml0
  have hown := findClass_of_methodNamed Bd.named
  have X0 : Stand p l e (Rm 0 0 0 0) s m _ below meth c _ [] 0 0 := Stand.of_body Bd
  have e0 : s₁.heap = h0 := by rw [← hh, Bd.state]; rfl
  have pre0 := cast0 (p := p) (e := e) (below := below) (T := s₁) (ef_41_n m p1 p2)
  obtain ⟨fs, hr, hrun, hended, hW, hsame⟩ := X0.leave (v := some (.int p1)) (fun h => by rw [Bd.returns] at h; cases h)
  refine ⟨_, _, pre0 _ ?_, hrun, hended, _, _, rfl, ?_, ⟨_, rfl⟩, hW, hsame.mono (by decide) (by decide)⟩
  · refine XS.iloadN X0.here hx rfl (hb hby d41_0) rfl ?_
    refine XS.ifNo X0.here hx rfl (hb hby d41_1) rfl ((if0 _ _).trans (flt hj0).1) ?_
    refine XS.iloadN X0.here hx rfl (hb hby d41_4) rfl ?_
    refine XS.iloadN X0.here hx rfl (hb hby d41_5) rfl ?_
    refine XS.icmpYes X0.here hx rfl (pc0 := 6) (pc' := 16) rfl (hb hby d41_6) rfl (tlt hj1).1 (by decide) (by decide) ?_
    refine XS.iloadN X0.here hx rfl (hb hby d41_16) rfl ?_
    show Steps _ _ _ (s₁.setTop (mkF m 17 #[vI p1, vI p2, .val .null] [iI p1])) _
    exact retI X0 hx Bd.returns (hb hby d41_17) hr
  · show QP _ _ _ s₁.heap _
    rw [e0]
    exact ⟨rfl, rfl, rfl⟩
theorem d40_0 : dk c40 0 (.iload_n 0) 1 := by decide +kernel
theorem d40_1 : dk c40 1 (.iload_n 1) 1 := by decide +kernel
theorem d40_2 : dk c40 2 (.getstatic 1053) 3 := by decide +kernel
theorem d40_5 : dk c40 5 (.invokestatic 1059) 3 := by decide +kernel
theorem d40_8 : dk c40 8 .pop 1 := by decide +kernel
theorem d40_9 : dk c40 9 .return_ 1 := by decide +kernel
theorem ef_40_n (m : MethodId) (x0 : Int32) (x1 : Int32) : entryFrame m #[(.int x0), (.int x1)] 2 = mkF m 0 #[.val (.int x0), .val (.int x1)] [] := by first | (simp [entryFrame, mkF, argsToLocals, Value.category]; done) | rfl
theorem rm40_n (l : Launch) (Z : State) (a0 : Array Value) (hw : HW a0 Z) (ws : List Jvm.Cond) (p1 : Int32) (p2 : Int32) (h0 : Heap) (n0 : Nat) (O0 : Old Z n0 h0) (S_F : Sta Z Z.heap "jdk/internal/util/Preconditions" "SIOOBE_FORMATTER" "Ljava/util/function/BiFunction;" .null) (hj0 : ¬ p1 < (0 : Int32)) (hj1 : p1 < p2) :
    MFn l mn_2 jdk_42_method_155_code 2 none ws (Rm 1 0 0 14) #[(.int p1), (.int p2)] Z h0 (QP h0 none) := by
  refine MetFree.of_bodySF (plainFor_of_name pn_0) hisR ?_
  intro p e s m args below meth c s₁ Bd hml0 hP hK
  obtain ⟨rfl, hZ, hh⟩ := hP
  have hx := Bd.exec
  have hby := Bd.bytes
  have hml : c.maxLocals = 2 := hml0
  have hown := findClass_of_methodNamed Bd.named
  have X0 : Stand p l e (Rm 1 0 0 14) s m _ below meth c _ [] 0 0 := Stand.of_body Bd
  have e0 : s₁.heap = h0 := by rw [← hh, Bd.state]; rfl
  have pre0 := cast0 (p := p) (e := e) (below := below) (T := s₁) (ef_40_n m p1 p2)
  obtain ⟨T1, X1, e1, st1⟩ := getS2 X0 hx hZ hown (host := "") (Or.inl (ww hw 74 rfl)) Via.refl e0 (S_F.ext O0.2) (g := (mkF m 2 #[vI p1, vI p2] [iI p2, iI p1])) rfl (hb hby d40_2)
  obtain ⟨_, _, ⟨T2, L2, k2, n2⟩, -, X2, ⟨Lc2, hQ2, l2, y2, z2⟩, st2⟩ := Jvm.LawKit.callS X1 hx (y := mn_1) hown (mw hZ hw 178 rfl) (mw hZ hw 179 rfl) (mw hZ hw 75 rfl) (mw hZ hw 180 rfl) (by decide) (backOf (W := 0) (rm41_n l Z a0 hw [] p1 p2  h0 hj0 hj1) hZ (ww hw 180 rfl) (ww hw 75 rfl) (by decide) (by decide)) (g := (mkF m 5 #[vI p1, vI p2] [.null, iI p2, iI p1])) rfl (by rw [hml]; rfl) (argsL := [(.int p1), (.int p2), .null]) (rest := []) (lenOf pd_0 rfl) rfl (wz rfl) (hb hby d40_5) (fun _ _ => ⟨rfl, e1, (by decide : 0 + 0 ≤ _), (by decide : 0 + 0 ≤ _)⟩)
  dsimp only [Pt.U, Pt.locs, Pt.cells, Pt.slots] at X2 l2 y2 z2 st2 hQ2
  subst l2 y2 z2
  obtain ⟨rfl, rfl, e2⟩ := hQ2
  try rw [List.append_nil] at X2
  obtain ⟨fs, hr, hrun, hended, hW, hsame⟩ := X2.leave (v := none) (fun _ => rfl)
  refine ⟨_, _, pre0 _ ?_, hrun, hended, _, _, rfl, ?_, ⟨_, rfl⟩, hW, hsame.mono (by decide) (by decide)⟩
  · refine XS.iloadN X0.here hx rfl (hb hby d40_0) rfl ?_
    refine XS.iloadN X0.here hx rfl (hb hby d40_1) rfl ?_
    refine st1 _ ?_
    refine st2 _ ?_
    refine XS.pop X2.here hx rfl (hb hby d40_8) rfl rfl ?_
    show Steps _ _ _ (T2.setTop (mkF m 9 #[vI p1, vI p2] [])) _
    exact X2.returnOut hx Bd.returns (hb hby d40_9) hr
  · show QP _ _ _ T2.heap _
    rw [e2]
    exact ⟨rfl, rfl, rfl⟩
theorem ef_41_r (m : MethodId) (x0 : Int32) (x1 : Int32) (x2 : Addr) : entryFrame m #[(.int x0), (.int x1), (.ref x2)] 3 = mkF m 0 #[.val (.int x0), .val (.int x1), .val (.ref x2)] [] := by first | (simp [entryFrame, mkF, argsToLocals, Value.category]; done) | rfl
theorem rm41_r (l : Launch) (Z : State) (a0 : Array Value) (hw : HW a0 Z) (ws : List Jvm.Cond) (p1 : Int32) (p2 : Int32) (fa : Addr) (h0 : Heap) (hj0 : ¬ p1 < (0 : Int32)) (hj1 : p1 < p2) :
    MFn l mn_1 jdk_41_method_11_code 3 (some .int) ws (Rm 0 0 0 0) #[(.int p1), (.int p2), (.ref fa)] Z h0 (QP h0 (some (.int p1))) := by
  refine MetFree.of_bodySF (plainFor_of_name pn_1) hisR ?_
  intro p e s m args below meth c s₁ Bd hml0 hP hK
  obtain ⟨rfl, hZ, hh⟩ := hP
  have hx := Bd.exec
  have hby := Bd.bytes
  have hml : c.maxLocals = 3 := hml0
  have hown := findClass_of_methodNamed Bd.named
  have X0 : Stand p l e (Rm 0 0 0 0) s m _ below meth c _ [] 0 0 := Stand.of_body Bd
  have e0 : s₁.heap = h0 := by rw [← hh, Bd.state]; rfl
  have pre0 := cast0 (p := p) (e := e) (below := below) (T := s₁) (ef_41_r m p1 p2 fa)
  obtain ⟨fs, hr, hrun, hended, hW, hsame⟩ := X0.leave (v := some (.int p1)) (fun h => by rw [Bd.returns] at h; cases h)
  refine ⟨_, _, pre0 _ ?_, hrun, hended, _, _, rfl, ?_, ⟨_, rfl⟩, hW, hsame.mono (by decide) (by decide)⟩
  · refine XS.iloadN X0.here hx rfl (hb hby d41_0) rfl ?_
    refine XS.ifNo X0.here hx rfl (hb hby d41_1) rfl ((if0 _ _).trans (flt hj0).1) ?_
    refine XS.iloadN X0.here hx rfl (hb hby d41_4) rfl ?_
    refine XS.iloadN X0.here hx rfl (hb hby d41_5) rfl ?_
    refine XS.icmpYes X0.here hx rfl (pc0 := 6) (pc' := 16) rfl (hb hby d41_6) rfl (tlt hj1).1 (by decide) (by decide) ?_
    refine XS.iloadN X0.here hx rfl (hb hby d41_16) rfl ?_
    show Steps _ _ _ (s₁.setTop (mkF m 17 #[vI p1, vI p2, vR fa] [iI p1])) _
    exact retI X0 hx Bd.returns (hb hby d41_17) hr
  · show QP _ _ _ s₁.heap _
    rw [e0]
    exact ⟨rfl, rfl, rfl⟩
theorem ef_40_r (m : MethodId) (x0 : Int32) (x1 : Int32) : entryFrame m #[(.int x0), (.int x1)] 2 = mkF m 0 #[.val (.int x0), .val (.int x1)] [] := by first | (simp [entryFrame, mkF, argsToLocals, Value.category]; done) | rfl
theorem rm40_r (l : Launch) (Z : State) (a0 : Array Value) (hw : HW a0 Z) (ws : List Jvm.Cond) (p1 : Int32) (p2 : Int32) (fa : Addr) (h0 : Heap) (n0 : Nat) (O0 : Old Z n0 h0) (S_F : Sta Z Z.heap "jdk/internal/util/Preconditions" "SIOOBE_FORMATTER" "Ljava/util/function/BiFunction;" (.ref fa)) (hj0 : ¬ p1 < (0 : Int32)) (hj1 : p1 < p2) :
    MFn l mn_2 jdk_42_method_155_code 2 none ws (Rm 1 0 0 14) #[(.int p1), (.int p2)] Z h0 (QP h0 none) := by
  refine MetFree.of_bodySF (plainFor_of_name pn_0) hisR ?_
  intro p e s m args below meth c s₁ Bd hml0 hP hK
  obtain ⟨rfl, hZ, hh⟩ := hP
  have hx := Bd.exec
  have hby := Bd.bytes
  have hml : c.maxLocals = 2 := hml0
  have hown := findClass_of_methodNamed Bd.named
  have X0 : Stand p l e (Rm 1 0 0 14) s m _ below meth c _ [] 0 0 := Stand.of_body Bd
  have e0 : s₁.heap = h0 := by rw [← hh, Bd.state]; rfl
  have pre0 := cast0 (p := p) (e := e) (below := below) (T := s₁) (ef_40_r m p1 p2)
  obtain ⟨T1, X1, e1, st1⟩ := getS2 X0 hx hZ hown (host := "") (Or.inl (ww hw 74 rfl)) Via.refl e0 (S_F.ext O0.2) (g := (mkF m 2 #[vI p1, vI p2] [iI p2, iI p1])) rfl (hb hby d40_2)
  obtain ⟨_, _, ⟨T2, L2, k2, n2⟩, -, X2, ⟨Lc2, hQ2, l2, y2, z2⟩, st2⟩ := Jvm.LawKit.callS X1 hx (y := mn_1) hown (mw hZ hw 178 rfl) (mw hZ hw 179 rfl) (mw hZ hw 75 rfl) (mw hZ hw 180 rfl) (by decide) (backOf (W := 0) (rm41_r l Z a0 hw [] p1 p2 fa h0 hj0 hj1) hZ (ww hw 180 rfl) (ww hw 75 rfl) (by decide) (by decide)) (g := (mkF m 5 #[vI p1, vI p2] [iR fa, iI p2, iI p1])) rfl (by rw [hml]; rfl) (argsL := [(.int p1), (.int p2), (.ref fa)]) (rest := []) (lenOf pd_0 rfl) rfl (wz rfl) (hb hby d40_5) (fun _ _ => ⟨rfl, e1, (by decide : 0 + 0 ≤ _), (by decide : 0 + 0 ≤ _)⟩)
  dsimp only [Pt.U, Pt.locs, Pt.cells, Pt.slots] at X2 l2 y2 z2 st2 hQ2
  subst l2 y2 z2
  obtain ⟨rfl, rfl, e2⟩ := hQ2
  try rw [List.append_nil] at X2
  obtain ⟨fs, hr, hrun, hended, hW, hsame⟩ := X2.leave (v := none) (fun _ => rfl)
  refine ⟨_, _, pre0 _ ?_, hrun, hended, _, _, rfl, ?_, ⟨_, rfl⟩, hW, hsame.mono (by decide) (by decide)⟩
  · refine XS.iloadN X0.here hx rfl (hb hby d40_0) rfl ?_
    refine XS.iloadN X0.here hx rfl (hb hby d40_1) rfl ?_
    refine st1 _ ?_
    refine st2 _ ?_
    refine XS.pop X2.here hx rfl (hb hby d40_8) rfl rfl ?_
    show Steps _ _ _ (T2.setTop (mkF m 9 #[vI p1, vI p2] [])) _
    exact X2.returnOut hx Bd.returns (hb hby d40_9) hr
  · show QP _ _ _ T2.heap _
    rw [e2]
    exact ⟨rfl, rfl, rfl⟩
theorem rm40 (l : Launch) (Z : State) (a0 : Array Value) (hw : HW a0 Z) (ws : List Jvm.Cond) (p1 : Int32) (p2 : Int32) (fm : Value) (h0 : Heap) (n0 : Nat) (O0 : Old Z n0 h0) (S_F : SM Z fm) (h_fm : fm.isRef = true) (hj0 : ¬ p1 < (0 : Int32)) (hj1 : p1 < p2) :
    MFn l mn_2 jdk_42_method_155_code 2 none ws (Rm 1 0 0 14) #[(.int p1), (.int p2)] Z h0 (QP h0 none) := by
  rcases ref_cases h_fm with rfl | ⟨fa, rfl⟩
  · exact rm40_n l Z a0 hw ws p1 p2 h0 n0 O0 S_F hj0 hj1
  · exact rm40_r l Z a0 hw ws p1 p2 fa h0 n0 O0 S_F hj0 hj1
theorem d39_0 : dk c39 0 (.iload_n 1) 1 := by decide +kernel
theorem d39_1 : dk c39 1 (.aload_n 0) 1 := by decide +kernel
theorem d39_2 : dk c39 2 .arraylength 1 := by decide +kernel
theorem d39_3 : dk c39 3 (.invokestatic 9) 3 := by decide +kernel
theorem d39_6 : dk c39 6 (.aload_n 0) 1 := by decide +kernel
theorem d39_7 : dk c39 7 (.iload_n 1) 1 := by decide +kernel
theorem d39_8 : dk c39 8 .baload 1 := by decide +kernel
theorem d39_9 : dk c39 9 (.sipush 255) 3 := by decide +kernel
theorem d39_12 : dk c39 12 .iand 1 := by decide +kernel
theorem d39_13 : dk c39 13 .i2c 1 := by decide +kernel
theorem d39_14 : dk c39 14 .ireturn 1 := by decide +kernel
theorem pn_2 : plainName "java/lang/StringLatin1" = true := by first | (simp [plainName, overriddenIn]; done) | decide +kernel
theorem ef_39 (m : MethodId) (x0 : Addr) (x1 : Int32) : entryFrame m #[(.ref x0), (.int x1)] 2 = mkF m 0 #[.val (.ref x0), .val (.int x1)] [] := by first | (simp [entryFrame, mkF, argsToLocals, Value.category]; done) | rfl
theorem rm39 (l : Launch) (Z : State) (a0 : Array Value) (hw : HW a0 Z) (ws : List Jvm.Cond) (a1 : Addr) (p2 : Int32) (kd : ClassId) (z : Int32) (B : List Int32) (fm : Value) (h0 : Heap) (n0 : Nat) (O0 : Old Z n0 h0) (V_b : AB Z h0 a1 kd z B) (hj0 : ¬ p2 < (0 : Int32)) (hj1 : p2 < z) (S_F : SM Z fm) (h_fm : fm.isRef = true) :
    MFn l mn_3 jdk_43_method_2_code 2 (some .char) ws (Rm 2 0 0 27) #[(.ref a1), (.int p2)] Z h0 (QP h0 (some (.int (own_chr (B.getD p2.toNatClampNeg 0))))) := by
  refine MetFree.of_bodySF (plainFor_of_name pn_2) hisR ?_
  intro p e s m args below meth c s₁ Bd hml0 hP hK
  obtain ⟨rfl, hZ, hh⟩ := hP
  have hx := Bd.exec
  have hby := Bd.bytes
  have hml : c.maxLocals = 2 := hml0
  have hown := findClass_of_methodNamed Bd.named
  have X0 : Stand p l e (Rm 2 0 0 27) s m _ below meth c _ [] 0 0 := Stand.of_body Bd
  have e0 : s₁.heap = h0 := by rw [← hh, Bd.state]; rfl
  have pre0 := cast0 (p := p) (e := e) (below := below) (T := s₁) (ef_39 m a1 p2)
  obtain ⟨cl1, Ar1, q1, S1, M1, H1, G1⟩ := id V_b
  obtain ⟨_, _, ⟨T2, L2, k2, n2⟩, -, X2, ⟨Lc2, hQ2, l2, y2, z2⟩, st2⟩ := Jvm.LawKit.callS X0 hx (y := mn_2) hown (mw hZ hw 175 rfl) (mw hZ hw 176 rfl) (mw hZ hw 7 rfl) (mw hZ hw 177 rfl) (by decide) (backOf (W := 0) (rm40 l Z a0 hw [] p2 z fm h0 n0 O0 S_F h_fm hj0 hj1) hZ (ww hw 177 rfl) (ww hw 7 rfl) (by decide) (by decide)) (g := (mkF m 3 #[vR a1, vI p2] [iI z, iI p2])) rfl (by rw [hml]; rfl) (argsL := [(.int p2), (.int z)]) (rest := []) (lenOf pd_1 rfl) rfl (wz rfl) (hb hby d39_3) (fun _ _ => ⟨rfl, e0, (by decide : 0 + 0 ≤ _), (by decide : 0 + 0 ≤ _)⟩)
  dsimp only [Pt.U, Pt.locs, Pt.cells, Pt.slots] at X2 l2 y2 z2 st2 hQ2
  subst l2 y2 z2
  obtain ⟨rfl, rfl, e2⟩ := hQ2
  try rw [List.append_nil] at X2
  have hin3 := inb_of (j := p2) S1 ⟨hj0, hj1⟩
  have hat4 : cl1.slots[(p2).toNatClampNeg]? = some (.int (B.getD p2.toNatClampNeg 0)) := Has.at H1 hin3 (own_bsget B _)
  obtain ⟨fs, hr, hrun, hended, hW, hsame⟩ := X2.leave (v := some (.int (nar .char ((B.getD p2.toNatClampNeg 0) &&& (255 : Int32)).toUInt32.toUInt16.toUInt32.toInt32))) (fun h => by rw [Bd.returns] at h; cases h)
  refine ⟨_, _, pre0 _ ?_, hrun, hended, _, _, rfl, ?_, ⟨_, rfl⟩, hW, hsame.mono (by decide) (by decide)⟩
  · refine XS.iloadN X0.here hx rfl (hb hby d39_0) rfl ?_
    refine XS.aloadN X0.here hx rfl (hb hby d39_1) rfl rfl ?_
    refine X0.arraylength hx (by rw [e0]; exact Ar1.1) (State.isArrayOf_alike hZ.alike Ar1.2.1) (g := (mkF m 2 #[vR a1, vI p2] [iR a1, iI p2])) rfl rfl (hb hby d39_2) _ ?_
    rw [len_of S1 M1]
    refine st2 _ ?_
    refine XS.aloadN X2.here hx rfl (hb hby d39_6) rfl rfl ?_
    refine XS.iloadN X2.here hx rfl (hb hby d39_7) rfl ?_
    refine X2.baloadBytes hx (j := p2) (v := (.int (B.getD p2.toNatClampNeg 0))) (by rw [e2]; exact Ar1.1) (State.isArrayOf_alike hZ.alike Ar1.2.1) Ar1.2.2 hin3 hat4 (g := (mkF m 8 #[vR a1, vI p2] [iI p2, iR a1])) rfl rfl (hb hby d39_8) _ ?_
    refine XS.sipush X2.here hx rfl (hb hby d39_9) ?_
    refine XS.iand X2.here hx rfl (hb hby d39_12) rfl ?_
    refine XS.i2c X2.here hx rfl (hb hby d39_13) rfl ?_
    show Steps _ _ _ (T2.setTop (mkF m 14 #[vR a1, vI p2] [iI ((B.getD p2.toNatClampNeg 0) &&& (255 : Int32)).toUInt32.toUInt16.toUInt32.toInt32])) _
    exact retN X2 hx (t := .char) Bd.returns (by simp) (hb hby d39_14) hr
  · show QP _ _ _ T2.heap _
    rw [e2]
    exact ⟨rfl, rfl, rfl⟩
theorem d38_0 : dk c38 0 (.aload_n 0) 1 := by decide +kernel
theorem d38_1 : dk c38 1 (.invokevirtual 492) 3 := by decide +kernel
theorem d38_4 : dk c38 4 (.ifCond .eq 12) 3 := by decide +kernel
theorem d38_7 : dk c38 7 (.aload_n 0) 1 := by decide +kernel
theorem d38_8 : dk c38 8 (.getfield 9) 3 := by decide +kernel
theorem d38_11 : dk c38 11 (.iload_n 1) 1 := by decide +kernel
theorem d38_12 : dk c38 12 (.invokestatic 495) 3 := by decide +kernel
theorem d38_15 : dk c38 15 .ireturn 1 := by decide +kernel
theorem ef_38 (m : MethodId) (x0 : Addr) (x1 : Int32) : entryFrame m #[(.ref x0), (.int x1)] 2 = mkF m 0 #[.val (.ref x0), .val (.int x1)] [] := by first | (simp [entryFrame, mkF, argsToLocals, Value.category]; done) | rfl
theorem rm38 (l : Launch) (Z : State) (a0 : Array Value) (hw : HW a0 Z) (ws : List Jvm.Cond) (a1 : Addr) (p2 : Int32) (d : Addr) (kd : ClassId) (z : Int32) (B : List Int32) (cs : Int32) (fm : Value) (h0 : Heap) (n0 : Nat) (O0 : Old Z n0 h0) (E_a1 : ES Z h0 a1) (Fc_a1 : FC Z h0 a1) (Fv_a1 : FV Z h0 a1 d) (V_d : AB Z h0 d kd z B) (hz : ¬ z < 0) (hB : z.toNatClampNeg = B.length) (hj0 : ¬ p2 < (0 : Int32)) (hj1 : p2 < z) (S_CS : SC Z cs) (h_cs : ¬ cs = (0 : Int32)) (S_F : SM Z fm) (h_fm : fm.isRef = true) :
    MFn l mn_4 jdk_42_method_56_code 2 (some .char) ws (Rm 3 0 0 40) #[(.ref a1), (.int p2)] Z h0 (QP h0 (some (.int (own_chr (B.getD p2.toNatClampNeg 0))))) := by
  refine MetFree.of_bodySF (plainFor_of_name pn_0) hisR ?_
  intro p e s m args below meth c s₁ Bd hml0 hP hK
  obtain ⟨rfl, hZ, hh⟩ := hP
  have hx := Bd.exec
  have hby := Bd.bytes
  have hml : c.maxLocals = 2 := hml0
  have hown := findClass_of_methodNamed Bd.named
  have X0 : Stand p l e (Rm 3 0 0 40) s m _ below meth c _ [] 0 0 := Stand.of_body Bd
  have e0 : s₁.heap = h0 := by rw [← hh, Bd.state]; rfl
  have pre0 := cast0 (p := p) (e := e) (below := below) (T := s₁) (ef_38 m a1 p2)
  obtain ⟨cq1, kq1, q1a, q1b, q1c⟩ := isOf hZ e0 E_a1
  obtain ⟨_, _, ⟨T1, L1, k1, n1⟩, -, X1, ⟨Lc1, hQ1, l1, y1, z1⟩, st1⟩ := X0.virtualBack hx (y := mn_0) (z := mn_0) hown (mw hZ hw 99 rfl) (mw hZ hw 100 rfl) (notFace_of_selects (args := #[]) (mw hZ hw 102 rfl)) (mw hZ hw 102 rfl) (mw hZ hw 101 rfl) (by decide) (backOf (W := 0) (rm21 l Z a0 hw [] a1 cs h0 n0 O0 Fc_a1 S_CS h_cs) hZ (ww hw 103 rfl) (ww hw 7 rfl) (by decide) (by decide)) q1a q1c (g := (mkF m 1 #[vR a1, vI p2] [iR a1])) rfl (by rw [hml]; rfl) (Steps.refl _) (argsL := []) (rest := []) (lenOf pd_2 rfl) rfl (wz rfl) (hb hby d38_1) (fun _ _ => ⟨rfl, e0, (by decide : 0 + 0 ≤ _), (by decide : 0 + 0 ≤ _)⟩)
  dsimp only [Pt.U, Pt.locs, Pt.cells, Pt.slots] at X1 l1 y1 z1 st1 hQ1
  subst l1 y1 z1
  obtain ⟨rfl, rfl, e1⟩ := hQ1
  try rw [List.append_nil] at X1
  obtain ⟨T2, X2, e2, st2⟩ := gF X1 hx hZ hown (ww hw 32 rfl) e1 Fv_a1 (g := (mkF m 8 #[vR a1, vI p2] [iR a1])) rfl rfl (hb hby d38_8)
  obtain ⟨_, _, ⟨T3, L3, k3, n3⟩, -, X3, ⟨Lc3, hQ3, l3, y3, z3⟩, st3⟩ := Jvm.LawKit.callS X2 hx (y := mn_3) hown (mw hZ hw 172 rfl) (mw hZ hw 173 rfl) (mw hZ hw 59 rfl) (mw hZ hw 174 rfl) (by decide) (backOf (W := 0) (rm39 l Z a0 hw [] d p2 kd z B fm h0 n0 O0 V_d hj0 hj1 S_F h_fm) hZ (ww hw 174 rfl) (ww hw 59 rfl) (by decide) (by decide)) (g := (mkF m 12 #[vR a1, vI p2] [iI p2, iR d])) rfl (by rw [hml]; rfl) (argsL := [(.ref d), (.int p2)]) (rest := []) (lenOf pd_3 rfl) rfl (wz rfl) (hb hby d38_12) (fun _ _ => ⟨rfl, e2, (by decide : 0 + 0 ≤ _), (by decide : 0 + 0 ≤ _)⟩)
  dsimp only [Pt.U, Pt.locs, Pt.cells, Pt.slots] at X3 l3 y3 z3 st3 hQ3
  subst l3 y3 z3
  obtain ⟨rfl, rfl, e3⟩ := hQ3
  try rw [List.append_nil] at X3
  obtain ⟨fs, hr, hrun, hended, hW, hsame⟩ := X3.leave (v := some (.int (nar .char (own_chr (B.getD p2.toNatClampNeg 0))))) (fun h => by rw [Bd.returns] at h; cases h)
  refine ⟨_, _, pre0 _ ?_, hrun, hended, _, _, rfl, ?_, ⟨_, rfl⟩, hW, hsame.mono (by decide) (by decide)⟩
  · refine XS.aloadN X0.here hx rfl (hb hby d38_0) rfl rfl ?_
    refine st1.trans ?_
    refine XS.ifNo X1.here hx rfl (hb hby d38_4) rfl ((if0 _ _).trans (feq (by decide : ¬ ((1 : Int32) = (0 : Int32)))).1) ?_
    refine XS.aloadN X1.here hx rfl (hb hby d38_7) rfl rfl ?_
    refine st2 _ ?_
    refine XS.iloadN X2.here hx rfl (hb hby d38_11) rfl ?_
    refine st3 _ ?_
    show Steps _ _ _ (T3.setTop (mkF m 15 #[vR a1, vI p2] [iI (own_chr (B.getD p2.toNatClampNeg 0))])) _
    exact retN X3 hx (t := .char) Bd.returns (by simp) (hb hby d38_15) hr
  · show QP _ _ _ T3.heap _
    rw [e3]
    exact ⟨by rw [own_chr2], rfl, rfl⟩
theorem rm38_v (l : Launch) (Z : State) (a0 : Array Value) (hw : HW a0 Z) (ws : List Jvm.Cond) (a1 : Addr) (p2 : Int32) (d : Addr) (kd : ClassId) (z : Int32) (B : List Int32) (r : Int32) (cs : Int32) (fm : Value) (h0 : Heap) (n0 : Nat) (O0 : Old Z n0 h0) (E_a1 : ES Z h0 a1) (Fc_a1 : FC Z h0 a1) (Fv_a1 : FV Z h0 a1 d) (V_d : AB Z h0 d kd z B) (hz : ¬ z < 0) (hB : z.toNatClampNeg = B.length) (hj0 : ¬ p2 < (0 : Int32)) (hj1 : p2 < z) (hr : own_chr (B.getD p2.toNatClampNeg 0) = r) (S_CS : SC Z cs) (h_cs : ¬ cs = (0 : Int32)) (S_F : SM Z fm) (h_fm : fm.isRef = true) :
    MFn l mn_4 jdk_42_method_56_code 2 (some .char) ws (Rm 3 0 0 40) #[(.ref a1), (.int p2)] Z h0 (QP h0 (some (.int r))) := by
  subst hr
  exact rm38 l Z a0 hw ws a1 p2 d kd z B cs fm h0 n0 O0 E_a1 Fc_a1 Fv_a1 V_d hz hB hj0 hj1 S_CS h_cs S_F h_fm
theorem own_gd {B : List Int32} {k r c : Int32} {i : Nat} (hk : k.toNatClampNeg = i) (hb : B.getD i 0 = c) (hc : own_chr c = r) : own_chr (B.getD k.toNatClampNeg 0) = r := by rw [hk, hb]; exact hc
theorem own_strAtoms {a0 : Array Value} {Z : State} (hw : HW a0 Z) : ∀ a ∈ Bundle.stringAtoms, a.before a0 Z = true := by
  intro a ha
  simp only [Bundle.stringAtoms, List.mem_cons, List.not_mem_nil, or_false] at ha
  rcases ha with rfl | rfl | rfl | rfl | rfl | rfl | rfl
  · exact (ww hw 7 rfl)
  · exact (ww hw 6 rfl)
  · exact (ww hw 23 rfl)
  · exact (ww hw 33 rfl)
  · exact (ww hw 31 rfl)
  · exact (ww hw 39 rfl)
  · exact (ww hw 40 rfl)
theorem own_ct0 : (∀ c ∈ (" " : String).toList, c.toNat < 256) ∧ (" " : String).toList.map (fun c => Value.int (Jvm.Lit.byteI c.toNat.toUInt16)) = own_bs [(32 : Int32)] := by
  first | exact ⟨by decide, rfl⟩ | exact ⟨by decide, by decide⟩ | (constructor <;> decide +kernel)
theorem own_ct1 : (∀ c ∈ ("" : String).toList, c.toNat < 256) ∧ ("" : String).toList.map (fun c => Value.int (Jvm.Lit.byteI c.toNat.toUInt16)) = own_bs [] := by
  first | exact ⟨by decide, rfl⟩ | exact ⟨by decide, by decide⟩ | (constructor <;> decide +kernel)
theorem own_ct2 : (∀ c ∈ ("" : String).toList, c.toNat < 256) ∧ ("" : String).toList.map (fun c => Value.int (Jvm.Lit.byteI c.toNat.toUInt16)) = own_bs [] := by
  first | exact ⟨by decide, rfl⟩ | exact ⟨by decide, by decide⟩ | (constructor <;> decide +kernel)
theorem own_EW {a0 : Array Value} {Z : State} (hw : HW a0 Z) : EW Z a0 consts_1 := (EW.cons (ww hw 79 rfl) own_ct0.1 (EW.cons (ww hw 38 rfl) own_ct1.1 (EW.cons (ww hw 191 rfl) own_ct2.1 EW.nil)))
theorem own_backS {p : Program} {l : Launch} {e : Env} {R : Room} {s : State} {args : Array Value} {below : List Frame} {Z : State} {a0 : Array Value} {EL : List (String × Nat)} {h : Heap} {vm0 : Vm} {y : MethodName} {bytes : ByteArray} {maxL : Nat} {ret : Option FieldType} {rm : Room} {len W : Nat} {as' : Array Value} {ws : List Addr} {Q : Option Value → Heap → List Loc → Prop}
    (hM : MetFree l y (head1 [Cond.code y bytes maxL ret] rm) (fun a U => a = as' ∧ Z.Warmed39 U.vm ∧ U.heap = h ∧ CHv Z EL U.vm h ∧ ∀ x ∈ ws, Safe Z EL U.vm h x) (fun _ _ _ _ _ => True) (fun _ U o U' => ∃ v L, o = .returned v ∧ Q v U'.heap L ∧ CHr Z EL U.vm U.heap U'.vm U'.heap ∧ ReturnedEndW U o U' L rm.cells rm.slots))
    (hZ : Z.Warmed39 vm0) (wc : (Cond.code y bytes maxL ret).before a0 Z = true) (wz : (Cond.initialized y.cls).before a0 Z = true) (hf : rm.frames + 1 ≤ R.frames) (hl : W + (maxL + 11) + rm.locals ≤ R.locals) (hEL : EW Z a0 EL) (H : CHv Z EL vm0 h) (hs : ∀ x ∈ ws, x < h.size ∧ Safe Z EL vm0 h x) :
    BackS l R p e below (s.setVm vm0) args y len W (fun A a => a = as' ∧ A.U.heap = h ∧ A.cells + rm.cells ≤ R.cells ∧ A.slots + rm.slots ≤ R.slots)
      (fun A _ v B => ∃ L, Q v B.U.heap L ∧ B.locs = A.locs ++ L ∧ B.cells = A.cells + rm.cells ∧ B.slots = A.slots + rm.slots ∧ CHr Z EL vm0 h B.U.vm B.U.heap) := by
  refine BackS.of_freeW (bytes := bytes) (maxL := maxL) (ret := ret) (E := fun _ u o t L k n => (k = rm.cells ∧ n = rm.slots) ∧ (∃ v, o = .returned v ∧ Q v t.heap L) ∧ CHr Z EL u.vm u.heap t.vm t.heap) hM hf hl ?_ ?_ (fun _ _ _ _ _ _ _ _ _ => trivial) ?_ ?_
  · intro m meth c A a Y hp
    have hU : Z.Warmed39 A.U.vm := wtrans (s := s.setVm vm0) hZ Y.warmed
    refine ⟨?_, mv hU wc, mv hU wz, hp.2.2.1, hp.2.2.2⟩
    show (Cond.and _ .tt).before a A.U = true
    rw [Cond.before_and, mv hU wc]; rfl
  · intro m meth c A a g mk Y hp
    have q := CHv.at Y hZ hEL H
    exact ⟨hp.1, wtrans (s := s.setVm vm0) hZ Y.warmed, hp.2.1, q.1, fun x hx => q.safe (hs x hx).1 (hs x hx).2⟩
  · intro a u o t ⟨v, L, h1, h2, h3, h4⟩
    exact ⟨L, _, _, h4, ⟨rfl, rfl⟩, ⟨v, h1, h2⟩, h3⟩
  · intro m meth c A a g mk v t L k n Y hp _ _ ⟨⟨e1, e2⟩, ⟨v', e3, e4⟩, e5⟩
    cases e3
    subst e1 e2
    have q := CHv.at Y hZ hEL H
    refine ⟨L, e4, rfl, rfl, rfl, q.trans ?_⟩
    rw [← hp.2.1]
    exact e5
def own_QY (Z : State) (a3 : Addr) (kb : ClassId) (CL : List Int32) (p5 : Int32) (h0 : Heap) (n0 : Nat) (v : Option Value) (h : Heap) (L : List Loc) : Prop := v = some (.int p5) ∧ Fr n0 L ∧ Keep h0 h [a3] ∧ AB Z h a3 kb p5 (CL.map own_by)
theorem d6_3 : dk c6 3 (.iload 5) 2 := by decide +kernel
theorem d6_5 : dk c6 5 (.iload 4) 2 := by decide +kernel
theorem d6_7 : dk c6 7 (.if_icmp .ge 37) 3 := by decide +kernel
theorem d6_10 : dk c6 10 (.aload_n 0) 1 := by decide +kernel
theorem d6_11 : dk c6 11 (.iload_n 1) 1 := by decide +kernel
theorem d6_12 : dk c6 12 .caload 1 := by decide +kernel
theorem d6_13 : dk c6 13 (.istore 6) 2 := by decide +kernel
theorem d6_15 : dk c6 15 (.iload 6) 2 := by decide +kernel
theorem d6_17 : dk c6 17 (.sipush 255) 3 := by decide +kernel
theorem d6_20 : dk c6 20 (.if_icmp .le 6) 3 := by decide +kernel
theorem d6_26 : dk c6 26 (.aload_n 2) 1 := by decide +kernel
theorem d6_27 : dk c6 27 (.iload_n 3) 1 := by decide +kernel
theorem d6_28 : dk c6 28 (.iload 6) 2 := by decide +kernel
theorem d6_30 : dk c6 30 .i2b 1 := by decide +kernel
theorem d6_31 : dk c6 31 .bastore 1 := by decide +kernel
theorem d6_32 : dk c6 32 (.iinc 1 1) 3 := by decide +kernel
theorem d6_35 : dk c6 35 (.iinc 3 1) 3 := by decide +kernel
theorem d6_38 : dk c6 38 (.iinc 5 1) 3 := by decide +kernel
theorem d6_41 : dk c6 41 (.goto (-38)) 3 := by decide +kernel
theorem d6_44 : dk c6 44 (.iload 4) 2 := by decide +kernel
theorem d6_46 : dk c6 46 .ireturn 1 := by decide +kernel
theorem own_cploop (j : Nat) : ∀ {p : Program} {l : Launch} {e : Env} {s : State} {m : MethodId} {below : List Frame} {meth : Method} {c : Code} {T0 : State} {locs : List Loc} {Z : State} {a0 : Array Value} {h0 hT : Heap} {n0 : Nat} {a1 : Addr} {a3 : Addr} {p5 : Int32} {kc : ClassId} {CL : List Int32} {kb : ClassId} {i : Nat} {vo dd i5 c6 : Int32} (X0 : Stand p l e (Rm 0 0 0 0) s m #[(.ref a1), (.int (0 : Int32)), (.ref a3), (.int (0 : Int32)), (.int p5)] below meth c T0 locs 0 0) (hx : p.tables.exec = Jvm.exec) (hZ : Z.Warmed39 s.vm) (hw : HW a0 Z) (hby : c.code = jdk_52_method_21_code) (hml : c.maxLocals = 7) (hown : s.vm.findClass "java/lang/StringUTF16" = some m.cls) (hret : meth.sig.returnType = some .int) (hlocks : meth.locks = false) (e0 : T0.heap = hT) (Kt0 : Keep h0 hT [a3]) (N0 : Fr n0 locs) (Z0 : n0 ≤ h0.size) (V_c : AC Z hT a1 kc p5 CL) (V_b : AB Z hT a3 kb p5 (own_tk CL i)) (hCL : p5.toNatClampNeg = CL.length) (hok : ∀ x ∈ CL, own_c8 x) (hz : 1 ≤ p5.toInt ∧ p5.toInt ≤ 6) (ne_a1_a3 : a1 ≠ a3) (g_a3 : n0 ≤ a3) (hi : i5.toInt = (i : Int)) (hv : vo.toInt = (i : Int)) (hd : dd.toInt = (i : Int)) (hij : i + j = CL.length) (hlM : CL.length ≤ 6), ∃ s₂ o, Steps p.tables e below (T0.setTop (mkF m 3 #[vR a1, vI vo, vR a3, vI dd, vI p5, vI i5, vI c6] [])) s₂ ∧ s₂.status = .running ∧ Ended s₂ below o ∧ ∃ v L, o = .returned v ∧ own_QY Z a3 kb CL p5 h0 n0 v s₂.heap L ∧ FrameEnd s o s₂ L (Rm 0 0 0 0).cells (Rm 0 0 0 0).slots := by
  induction j with
  | zero =>
    intro p l e s m below meth c T0 locs Z a0 h0 hT n0 a1 a3 p5 kc CL kb i vo dd i5 c6 X0 hx hZ hw hby hml hown hret hlocks e0 Kt0 N0 Z0 V_c V_b hCL hok hz ne_a1_a3 g_a3 hi hv hd hij hlM
    have hh1 : ¬ (i5 < p5) := (own_nlt (by simp only [Int32.toNatClampNeg] at *; omega))
    obtain ⟨fs, hr, hrun, hended, hW, hsame⟩ := X0.leave (hlocks := hlocks) (v := some (.int p5)) (fun h => by rw [hret] at h; cases h)
    refine ⟨_, _, ?_, hrun, hended, _, _, rfl, ?_, ⟨_, rfl⟩, hW, hsame.mono (by decide) (by decide)⟩
    · refine XS.iload X0.here hx rfl (hb hby d6_3) rfl ?_
      refine XS.iload X0.here hx rfl (hb hby d6_5) rfl ?_
      refine XS.icmpYes X0.here hx rfl (pc0 := 7) (pc' := 44) rfl (hb hby d6_7) rfl (flt hh1).2.1 (by decide) (by decide) ?_
      refine XS.iload X0.here hx rfl (hb hby d6_44) rfl ?_
      show Steps _ _ _ (T0.setTop (mkF m 46 #[vR a1, vI vo, vR a3, vI dd, vI p5, vI i5, vI c6] [iI p5])) _
      exact retI X0 hx hret (hb hby d6_46) hr
    · show own_QY Z a3 kb CL p5 h0 n0 _ T0.heap _
      rw [e0]
      exact ⟨rfl, N0, Kt0, (by have e : i = CL.length := (by omega); rw [← own_tkA, ← e]; exact V_b)⟩
  | succ j ih =>
    intro p l e s m below meth c T0 locs Z a0 h0 hT n0 a1 a3 p5 kc CL kb i vo dd i5 c6 X0 hx hZ hw hby hml hown hret hlocks e0 Kt0 N0 Z0 V_c V_b hCL hok hz ne_a1_a3 g_a3 hi hv hd hij hlM
    have hh1 : i5 < p5 := (own_lt (by have e0 : (0 : Int32).toInt = 0 := rfl; simp only [Int32.toNatClampNeg] at *; omega))
    obtain ⟨cl2, Ar2, q2, S2, M2, H2, G2⟩ := id V_c
    have hin3 := inb_of (j := vo) S2 ⟨own_nneg (by have e0 : (0 : Int32).toInt = 0 := rfl; omega), own_lt (by have e0 : (0 : Int32).toInt = 0 := rfl; simp only [Int32.toNatClampNeg] at *; omega)⟩
    have hat4 : cl2.slots[(vo).toNatClampNeg]? = some (.int (CL.getD vo.toNatClampNeg 0)) := Has.at H2 hin3 (own_bsget CL _)
    obtain ⟨xc, hxc⟩ : ∃ z_ : Int32, z_ = (CL.getD vo.toNatClampNeg 0) := ⟨_, rfl⟩
    have hxc' : xc = CL.getD i 0 := by rw [hxc, own_tn hv]
    have hx_xc : own_c8 xc := by rw [hxc']; exact own_get8 hok (by omega)
    have hh6 : ¬ ((255 : Int32) < xc) := (own_c8n hx_xc)
    have VP7 : Arv Z hT a3 kb .byte p5 (own_bs (own_tk CL i) ++ List.replicate 1 (.int (0 : Int32))) (.int (0 : Int32)) := V_b.pad (pad_rep _ _ 1)
    obtain ⟨cl8, Ar8, q8, S8, M8, H8, G8⟩ := id VP7
    have hin9 := inb_of (j := dd) S8 ⟨own_nneg (by have e0 : (0 : Int32).toInt = 0 := rfl; omega), own_lt (by have e0 : (0 : Int32).toInt = 0 := rfl; simp only [Int32.toNatClampNeg] at *; omega)⟩
    obtain ⟨T10, h10, X10, e10, W10, st10⟩ := stB X0 hx hZ e0 Ar8 (j := dd) hin9 (g := (mkF m 31 #[vR a1, vI vo, vR a3, vI dd, vI p5, vI i5, vI xc] [iI xc.toInt8.toInt32, iI dd, iR a3])) rfl rfl (hb hby d6_31)
    have hsl : (own_tk CL i).length = i := own_tkL (by omega)
    have V10r := Arv.set Ar8 q8 S8 M8 H8 G8 (fits_nar_byte _) W10 (own_tk CL i).length (by rw [hsl]; exact own_tn hd) (by simp)
    have V10 : Arv Z h10 a3 kb .byte p5 (own_bs (own_tk CL (i + 1))) (.int (0 : Int32)) := by rw [← own_tkS (by omega), ← hxc', ← own_setL _ _ (.int (0 : Int32))]; exact V10r
    have K10 : Keep h0 h10 [a3] := Kt0.wr W10 (Or.inl (List.mem_of_getElem? (i := 0) rfl))
    have N10 := Fr.snoc X10 N0 g_a3
    have fk11 := (V_c.other W10 ne_a1_a3)
    have pre12 : PP p e below (T10.setTop (mkF m 3 #[vR a1, vI (vo + (1 : Int32)), vR a3, vI (dd + (1 : Int32)), vI p5, vI (i5 + (1 : Int32)), vI xc] [])) (T0.setTop (mkF m 3 #[vR a1, vI vo, vR a3, vI dd, vI p5, vI i5, vI c6] [])) := by
      intro t kt
      refine XS.iload X0.here hx rfl (hb hby d6_3) rfl ?_
      refine XS.iload X0.here hx rfl (hb hby d6_5) rfl ?_
      refine XS.icmpNo X0.here hx rfl (hb hby d6_7) rfl (tlt hh1).2.1 ?_
      refine XS.aloadN X0.here hx rfl (hb hby d6_10) rfl rfl ?_
      refine XS.iloadN X0.here hx rfl (hb hby d6_11) rfl ?_
      refine X0.caload hx (j := vo) (v := (.int (CL.getD vo.toNatClampNeg 0))) (by rw [e0]; exact Ar2.1) (State.isArrayOf_alike hZ.alike Ar2.2.1) Ar2.2.2 hin3 hat4 (g := (mkF m 12 #[vR a1, vI vo, vR a3, vI dd, vI p5, vI i5, vI c6] [iI vo, iR a1])) rfl rfl (hb hby d6_12) _ ?_
      rw [← hxc]
      refine XS.istore X0.here hx rfl (hb hby d6_13) rfl (l' := #[vR a1, vI vo, vR a3, vI dd, vI p5, vI i5, vI xc]) rfl ?_
      refine XS.iload X0.here hx rfl (hb hby d6_15) rfl ?_
      refine XS.sipush X0.here hx rfl (hb hby d6_17) ?_
      refine XS.icmpYes X0.here hx rfl (pc0 := 20) (pc' := 26) rfl (hb hby d6_20) rfl (flt hh6).2.2.2 (by decide) (by decide) ?_
      refine XS.aloadN X0.here hx rfl (hb hby d6_26) rfl rfl ?_
      refine XS.iloadN X0.here hx rfl (hb hby d6_27) rfl ?_
      refine XS.iload X0.here hx rfl (hb hby d6_28) rfl ?_
      refine XS.i2b X0.here hx rfl (hb hby d6_30) rfl ?_
      show SA T0 m 31 #[vR a1, vI vo, vR a3, vI dd, vI p5, vI i5, vI xc] [iI xc.toInt8.toInt32, iI dd, iR a3]
      refine st10 _ ?_
      refine XS.iinc X10.here hx rfl (hb hby d6_32) rfl (l' := #[vR a1, vI (vo + (1 : Int32)), vR a3, vI dd, vI p5, vI i5, vI xc]) rfl ?_
      refine XS.iinc X10.here hx rfl (hb hby d6_35) rfl (l' := #[vR a1, vI (vo + (1 : Int32)), vR a3, vI (dd + (1 : Int32)), vI p5, vI i5, vI xc]) rfl ?_
      refine XS.iinc X10.here hx rfl (hb hby d6_38) rfl (l' := #[vR a1, vI (vo + (1 : Int32)), vR a3, vI (dd + (1 : Int32)), vI p5, vI (i5 + (1 : Int32)), vI xc]) rfl ?_
      refine XS.goto X10.here hx rfl (pc0 := 41) (pc' := 3) rfl (hb hby d6_41) (by decide) (by decide) ?_
      exact kt
    obtain ⟨s₂, o₂, hs₂, hr₂⟩ := ih (i := i + 1) (vo := (vo + (1 : Int32))) (dd := (dd + (1 : Int32))) (i5 := (i5 + (1 : Int32))) (c6 := xc) X10 hx hZ hw hby hml hown hret hlocks e10 K10 N10 Z0 fk11 V10 hCL hok hz ne_a1_a3 g_a3 (own_inc (n := i) hi (by omega)) (own_inc (n := i) hv (by omega)) (own_inc (n := i) hd (by omega)) (by omega) hlM
    exact ⟨s₂, o₂, pre12 _ hs₂, hr₂⟩
theorem d6_0 : dk c6 0 (.iconst 0) 1 := by decide +kernel
theorem d6_1 : dk c6 1 (.istore 5) 2 := by decide +kernel
theorem pn_3 : plainName "java/lang/StringUTF16" = true := by first | (simp [plainName, overriddenIn]; done) | decide +kernel
theorem ef_6 (m : MethodId) (x0 : Addr) (x2 : Addr) (x4 : Int32) : entryFrame m #[(.ref x0), (.int (0 : Int32)), (.ref x2), (.int (0 : Int32)), (.int x4)] 7 = mkF m 0 #[.val (.ref x0), .val (.int (0 : Int32)), .val (.ref x2), .val (.int (0 : Int32)), .val (.int x4), .unset, .unset] [] := by first | (simp [entryFrame, mkF, argsToLocals, Value.category]; done) | rfl
def Q6 (Z : State) (a1 : Addr) (a3 : Addr) (p5 : Int32) (kc : ClassId) (CL : List Int32) (kb : ClassId) (h0 : Heap) (n0 : Nat) (v : Option Value) (h : Heap) (L : List Loc) : Prop := v = some (.int p5) ∧ Fr n0 L ∧ Keep h0 h [a3] ∧ AB Z h a3 kb p5 (CL.map own_by)
theorem rm6 (l : Launch) (Z : State) (a0 : Array Value) (hw : HW a0 Z) (ws : List Jvm.Cond) (a1 : Addr) (a3 : Addr) (p5 : Int32) (kc : ClassId) (CL : List Int32) (kb : ClassId) (h0 : Heap) (n0 : Nat) (Z0 : n0 ≤ h0.size) (V_c : AC Z h0 a1 kc p5 CL) (V_b : AB Z h0 a3 kb p5 []) (hCL : p5.toNatClampNeg = CL.length) (hok : ∀ x ∈ CL, own_c8 x) (hz : 1 ≤ p5.toInt ∧ p5.toInt ≤ 6) (ne_a1_a3 : a1 ≠ a3) (g_a3 : n0 ≤ a3) :
    MFn l mn_5 jdk_52_method_21_code 7 (some .int) ws (Rm 0 0 0 0) #[(.ref a1), (.int (0 : Int32)), (.ref a3), (.int (0 : Int32)), (.int p5)] Z h0 (Q6 Z a1 a3 p5 kc CL kb h0 n0) := by
  refine MetFree.of_bodySF (plainFor_of_name pn_3) hisR ?_
  intro p e s m args below meth c s₁ Bd hml0 hP hK
  obtain ⟨rfl, hZ, hh⟩ := hP
  have hx := Bd.exec
  have hby := Bd.bytes
  have hml : c.maxLocals = 7 := hml0
  have hown := findClass_of_methodNamed Bd.named
  have X0 : Stand p l e (Rm 0 0 0 0) s m _ below meth c _ [] 0 0 := Stand.of_body Bd
  have e0 : s₁.heap = h0 := by rw [← hh, Bd.state]; rfl
  have N0 := Fr.nil n0
  have K0 := Keep.refl h0 [a3]
  have pre0 := cast0 (p := p) (e := e) (below := below) (T := s₁) (ef_6 m a1 a3 p5)
  have hlM : CL.length ≤ 6 := by simp only [Int32.toNatClampNeg] at hCL; omega
  have hl1 : 1 ≤ CL.length := by simp only [Int32.toNatClampNeg] at hCL; omega
  obtain ⟨cl1, Ar1, q1, S1, M1, H1, G1⟩ := id V_c
  have hin2 := inb_of (j := 0) S1 ⟨own_nneg (by have e0 : (0 : Int32).toInt = 0 := rfl; omega), own_lt (by have e0 : (0 : Int32).toInt = 0 := rfl; simp only [Int32.toNatClampNeg] at *; omega)⟩
  have hat3 : cl1.slots[((0 : Int32)).toNatClampNeg]? = some (.int (CL.getD (0 : Int32).toNatClampNeg 0)) := Has.at H1 hin2 (own_bsget CL _)
  obtain ⟨xc, hxc⟩ : ∃ z_ : Int32, z_ = (CL.getD (0 : Int32).toNatClampNeg 0) := ⟨_, rfl⟩
  have hxc' : xc = CL.getD 0 0 := by rw [hxc]; rfl
  have hx_xc : own_c8 xc := by rw [hxc']; exact own_get8 hok (by omega)
  have hh5 : ¬ ((255 : Int32) < xc) := (own_c8n hx_xc)
  have VP6 : Arv Z h0 a3 kb .byte p5 (own_bs (own_tk CL 0) ++ List.replicate 1 (.int (0 : Int32))) (.int (0 : Int32)) := V_b.pad (pad_rep _ _ 1)
  obtain ⟨cl7, Ar7, q7, S7, M7, H7, G7⟩ := id VP6
  have hin8 := inb_of (j := 0) S7 ⟨own_nneg (by have e0 : (0 : Int32).toInt = 0 := rfl; omega), own_lt (by have e0 : (0 : Int32).toInt = 0 := rfl; simp only [Int32.toNatClampNeg] at *; omega)⟩
  obtain ⟨T9, h9, X9, e9, W9, st9⟩ := stB X0 hx hZ e0 Ar7 (j := 0) hin8 (g := (mkF m 31 #[vR a1, vI 0, vR a3, vI 0, vI p5, vI 0, vI xc] [iI xc.toInt8.toInt32, iI 0, iR a3])) rfl rfl (hb hby d6_31)
  have hsl : (own_tk CL 0).length = 0 := own_tkL (by omega)
  have V9r := Arv.set Ar7 q7 S7 M7 H7 G7 (fits_nar_byte _) W9 (own_tk CL 0).length (by rw [hsl]; exact own_tn (rfl : (0 : Int32).toInt = ((0 : Nat) : Int))) (by simp)
  have V9 : Arv Z h9 a3 kb .byte p5 (own_bs (own_tk CL (0 + 1))) (.int (0 : Int32)) := by rw [← own_tkS (by omega), ← hxc', ← own_setL _ _ (.int (0 : Int32))]; exact V9r
  have K9 : Keep h0 h9 [a3] := K0.wr W9 (Or.inl (List.mem_of_getElem? (i := 0) rfl))
  have N9 := Fr.snoc X9 N0 g_a3
  have fk10 := (V_c.other W9 ne_a1_a3)
  have pre11 : PP p e below (T9.setTop (mkF m 3 #[vR a1, vI 1, vR a3, vI 1, vI p5, vI 1, vI xc] [])) (s₁.setTop (entryFrame m #[(.ref a1), (.int (0 : Int32)), (.ref a3), (.int (0 : Int32)), (.int p5)] 7)) := by
    intro t kt
    refine pre0 t ?_
    refine XS.iconst X0.here hx rfl (hb hby d6_0) ?_
    refine XS.istore X0.here hx rfl (hb hby d6_1) rfl (l' := #[vR a1, vI 0, vR a3, vI 0, vI p5, vI 0, .unset]) rfl ?_
    refine XS.iload X0.here hx rfl (hb hby d6_3) rfl ?_
    refine XS.iload X0.here hx rfl (hb hby d6_5) rfl ?_
    refine XS.icmpNo X0.here hx rfl (hb hby d6_7) rfl (tlt (own_lt (by have e0 : (0 : Int32).toInt = 0 := rfl; omega))).2.1 ?_
    refine XS.aloadN X0.here hx rfl (hb hby d6_10) rfl rfl ?_
    show SA s₁ m 11 #[vR a1, vI 0, vR a3, vI 0, vI p5, vI 0, .unset] [iR a1]
    refine XS.iloadN X0.here hx rfl (hb hby d6_11) rfl ?_
    refine X0.caload hx (j := 0) (v := (.int (CL.getD (0 : Int32).toNatClampNeg 0))) (by rw [e0]; exact Ar1.1) (State.isArrayOf_alike hZ.alike Ar1.2.1) Ar1.2.2 hin2 hat3 (g := (mkF m 12 #[vR a1, vI 0, vR a3, vI 0, vI p5, vI 0, .unset] [iI 0, iR a1])) rfl rfl (hb hby d6_12) _ ?_
    rw [← hxc]
    refine XS.istore X0.here hx rfl (hb hby d6_13) rfl (l' := #[vR a1, vI 0, vR a3, vI 0, vI p5, vI 0, vI xc]) rfl ?_
    refine XS.iload X0.here hx rfl (hb hby d6_15) rfl ?_
    refine XS.sipush X0.here hx rfl (hb hby d6_17) ?_
    refine XS.icmpYes X0.here hx rfl (pc0 := 20) (pc' := 26) rfl (hb hby d6_20) rfl (flt hh5).2.2.2 (by decide) (by decide) ?_
    refine XS.aloadN X0.here hx rfl (hb hby d6_26) rfl rfl ?_
    refine XS.iloadN X0.here hx rfl (hb hby d6_27) rfl ?_
    refine XS.iload X0.here hx rfl (hb hby d6_28) rfl ?_
    refine XS.i2b X0.here hx rfl (hb hby d6_30) rfl ?_
    show SA s₁ m 31 #[vR a1, vI 0, vR a3, vI 0, vI p5, vI 0, vI xc] [iI xc.toInt8.toInt32, iI 0, iR a3]
    refine st9 _ ?_
    refine XS.iinc X9.here hx rfl (hb hby d6_32) rfl (l' := #[vR a1, vI ((0 : Int32) + (1 : Int32)), vR a3, vI 0, vI p5, vI 0, vI xc]) rfl ?_
    rw [(by decide : ((0 : Int32) + (1 : Int32)) = (1 : Int32))]
    refine XS.iinc X9.here hx rfl (hb hby d6_35) rfl (l' := #[vR a1, vI 1, vR a3, vI ((0 : Int32) + (1 : Int32)), vI p5, vI 0, vI xc]) rfl ?_
    rw [(by decide : ((0 : Int32) + (1 : Int32)) = (1 : Int32))]
    refine XS.iinc X9.here hx rfl (hb hby d6_38) rfl (l' := #[vR a1, vI 1, vR a3, vI 1, vI p5, vI ((0 : Int32) + (1 : Int32)), vI xc]) rfl ?_
    rw [(by decide : ((0 : Int32) + (1 : Int32)) = (1 : Int32))]
    refine XS.goto X9.here hx rfl (pc0 := 41) (pc' := 3) rfl (hb hby d6_41) (by decide) (by decide) ?_
    exact kt
  obtain ⟨s₂, o₂, hs₂, hr₂⟩ := own_cploop (CL.length - 1) (i := 1) (vo := (1 : Int32)) (dd := (1 : Int32)) (i5 := (1 : Int32)) (c6 := xc) X9 hx hZ hw hby hml hown Bd.returns (by first | assumption | exact BodyLoose.notSynchronized (by assumption) | exact Body.notSynchronized (by assumption)) e9 K9 N9 Z0 fk10 V9 hCL hok hz ne_a1_a3 g_a3 rfl rfl rfl (by omega) hlM
  exact ⟨s₂, o₂, pre11 _ hs₂, hr₂⟩
theorem d5_0 : dk c5 0 (.iload_n 2) 1 := by decide +kernel
theorem d5_1 : dk c5 1 (.newarray .byte) 2 := by decide +kernel
theorem d5_3 : dk c5 3 (.astore_n 3) 1 := by decide +kernel
theorem d5_4 : dk c5 4 (.aload_n 0) 1 := by decide +kernel
theorem d5_5 : dk c5 5 (.iload_n 1) 1 := by decide +kernel
theorem d5_6 : dk c5 6 (.aload_n 3) 1 := by decide +kernel
theorem d5_7 : dk c5 7 (.iconst 0) 1 := by decide +kernel
theorem d5_8 : dk c5 8 (.iload_n 2) 1 := by decide +kernel
theorem d5_9 : dk c5 9 (.invokestatic 115) 3 := by decide +kernel
theorem d5_12 : dk c5 12 (.istore 4) 2 := by decide +kernel
theorem d5_14 : dk c5 14 (.iload 4) 2 := by decide +kernel
theorem d5_16 : dk c5 16 (.iload_n 2) 1 := by decide +kernel
theorem d5_17 : dk c5 17 (.if_icmp .eq 40) 3 := by decide +kernel
theorem d5_57 : dk c5 57 (.aload_n 3) 1 := by decide +kernel
theorem d5_58 : dk c5 58 .areturn 1 := by decide +kernel
theorem ef_5 (m : MethodId) (x0 : Addr) (x2 : Int32) : entryFrame m #[(.ref x0), (.int (0 : Int32)), (.int x2)] 6 = mkF m 0 #[.val (.ref x0), .val (.int (0 : Int32)), .val (.int x2), .unset, .unset, .unset] [] := by first | (simp [entryFrame, mkF, argsToLocals, Value.category]; done) | rfl
def Q5 (Z : State) (a1 : Addr) (p3 : Int32) (kc : ClassId) (CL : List Int32) (h0 : Heap) (n0 : Nat) (v : Option Value) (h : Heap) (L : List Loc) : Prop := ∃ (b : Addr) (kb : ClassId), v = some (.ref b) ∧ Fr n0 L ∧ Keep h0 h [] ∧ AB Z h b kb p3 (CL.map own_by) ∧ h0.size ≤ b
theorem rm5 (l : Launch) (Z : State) (a0 : Array Value) (hw : HW a0 Z) (ws : List Jvm.Cond) (a1 : Addr) (p3 : Int32) (kc : ClassId) (CL : List Int32) (h0 : Heap) (n0 : Nat) (Z0 : n0 ≤ h0.size) (V_c : AC Z h0 a1 kc p3 CL) (hCL : p3.toNatClampNeg = CL.length) (hok : ∀ x ∈ CL, own_c8 x) (hz : 1 ≤ p3.toInt ∧ p3.toInt ≤ 6) :
    MFn l mn_6 jdk_52_method_16_code 6 (some (.array .byte)) ws (Rm 1 1 6 18) #[(.ref a1), (.int (0 : Int32)), (.int p3)] Z h0 (Q5 Z a1 p3 kc CL h0 n0) := by
  refine MetFree.of_bodySF (plainFor_of_name pn_3) hisR ?_
  intro p e s m args below meth c s₁ Bd hml0 hP hK
  obtain ⟨rfl, hZ, hh⟩ := hP
  have hx := Bd.exec
  have hby := Bd.bytes
  have hml : c.maxLocals = 6 := hml0
  have hown := findClass_of_methodNamed Bd.named
  have X0 : Stand p l e (Rm 1 1 6 18) s m _ below meth c _ [] 0 0 := Stand.of_body Bd
  have e0 : s₁.heap = h0 := by rw [← hh, Bd.state]; rfl
  have N0 := Fr.nil n0
  have K0 := Keep.refl h0 []
  have pre0 := cast0 (p := p) (e := e) (below := below) (T := s₁) (ef_5 m a1 p3)
  obtain ⟨T1, h1, k1, X1, e1, E1, A1, st1⟩ := newP X0 hx hZ (ww hw 23 rfl) e0 (g := (mkF m 1 #[vR a1, vI 0, vI p3, .unset, .unset, .unset] [iI p3])) rfl (hb hby d5_1) rfl (own_nneg (by omega)) (cap := 6) (by simp only [Int32.toNatClampNeg]; omega) (by decide) (by decide) (by decide)
  obtain ⟨b1, g1⟩ : ∃ z, z = h0.size := ⟨_, rfl⟩
  rw [← g1] at A1 st1
  have ne_a1_b1 := neB V_c.lt g1
  have sz_b1 := szB K0.1 g1
  have g_b1 := Nat.le_trans Z0 sz_b1
  have K1 := K0.ext E1
  have V1 : Arv Z h1 b1 k1 .byte p3 [] (.int (0 : Int32)) := (Arv.new A1 (own_nneg (by omega))).pad (pad_rep [] (.int (0 : Int32)) 0)
  have fk3 := (V_c.ext E1)
  obtain ⟨_, _, ⟨T2, L2, k2, n2⟩, -, X2, ⟨Lc2, hQ2, l2, y2, z2⟩, st2⟩ := Jvm.LawKit.callS X1 hx (y := mn_5) hown (mw hZ hw 24 rfl) (mw hZ hw 25 rfl) (mw hZ hw 21 rfl) (mw hZ hw 26 rfl) (by decide) (backOf (W := 0) (rm6 l Z a0 hw [] a1 b1 p3 kc CL k1 h1 n0 (Nat.le_trans Z0 K1.1) fk3 V1 hCL hok hz ne_a1_b1 g_b1) hZ (ww hw 26 rfl) (ww hw 21 rfl) (by decide) (by decide)) (g := (mkF m 9 #[vR a1, vI 0, vI p3, vR b1, .unset, .unset] [iI p3, iI 0, iR b1, iI 0, iR a1])) rfl (by rw [hml]; rfl) (argsL := [(.ref a1), (.int (0 : Int32)), (.ref b1), (.int (0 : Int32)), (.int p3)]) (rest := []) (lenOf pd_4 rfl) rfl (wz rfl) (hb hby d5_9) (fun _ _ => ⟨rfl, e1, (by decide : 1 + 0 ≤ _), (by decide : 6 + 0 ≤ _)⟩)
  dsimp only [Pt.U, Pt.locs, Pt.cells, Pt.slots] at X2 l2 y2 z2 st2 hQ2
  subst l2 y2 z2
  obtain ⟨rfl, N2q, K2q, V2q⟩ := hQ2
  have N2 := Fr.app N0 N2q
  have K2 : Keep h0 T2.heap [] := Keep.trans K1 K2q (allS (Or.inr sz_b1) all0)
  obtain ⟨fs, hr, hrun, hended, hW, hsame⟩ := X2.leave (v := some (.ref b1)) (fun h => by rw [Bd.returns] at h; cases h)
  refine ⟨_, _, pre0 _ ?_, hrun, hended, _, _, rfl, ?_, ⟨_, rfl⟩, hW, hsame.mono (by decide) (by decide)⟩
  · refine XS.iloadN X0.here hx rfl (hb hby d5_0) rfl ?_
    refine st1 _ ?_
    refine XS.astoreN X1.here hx rfl (hb hby d5_3) rfl rfl (l' := #[vR a1, vI 0, vI p3, vR b1, .unset, .unset]) rfl ?_
    refine XS.aloadN X1.here hx rfl (hb hby d5_4) rfl rfl ?_
    refine XS.iloadN X1.here hx rfl (hb hby d5_5) rfl ?_
    refine XS.aloadN X1.here hx rfl (hb hby d5_6) rfl rfl ?_
    refine XS.iconst X1.here hx rfl (hb hby d5_7) ?_
    refine XS.iloadN X1.here hx rfl (hb hby d5_8) rfl ?_
    refine st2 _ ?_
    refine XS.istore X2.here hx rfl (hb hby d5_12) rfl (l' := #[vR a1, vI 0, vI p3, vR b1, vI p3, .unset]) rfl ?_
    refine XS.iload X2.here hx rfl (hb hby d5_14) rfl ?_
    refine XS.iloadN X2.here hx rfl (hb hby d5_16) rfl ?_
    refine XS.icmpYes X2.here hx rfl (pc0 := 17) (pc' := 57) rfl (hb hby d5_17) rfl (teq (rfl : p3 = p3)).1 (by decide) (by decide) ?_
    refine XS.aloadN X2.here hx rfl (hb hby d5_57) rfl rfl ?_
    show Steps _ _ _ (T2.setTop (mkF m 58 #[vR a1, vI 0, vI p3, vR b1, vI p3, .unset] [iR b1])) _
    jvm_step X2.here [X2.here.top, hx, (hb hby d5_58), X2.method', Bd.returns, Value.isRef, FieldType.isReference]
    first | (intro acts; rw [hr _ acts rfl rfl rfl]) | rw [hr _ _ rfl rfl rfl]
    exact Steps.refl _
  · show Q5 Z a1 p3 kc CL h0 n0 _ T2.heap _
    exact ⟨_, _, rfl, N2, K2, V2q, sz_b1⟩
theorem d7_0 : dk c7 0 (.iload_n 1) 1 := by decide +kernel
theorem d7_1 : dk c7 1 (.aload_n 0) 1 := by decide +kernel
theorem d7_2 : dk c7 2 .arraylength 1 := by decide +kernel
theorem d7_3 : dk c7 3 .isub 1 := by decide +kernel
theorem d7_4 : dk c7 4 (.bipush 31) 2 := by decide +kernel
theorem d7_6 : dk c7 6 .iushr 1 := by decide +kernel
theorem d7_7 : dk c7 7 .i2b 1 := by decide +kernel
theorem d7_8 : dk c7 8 .ireturn 1 := by decide +kernel
theorem ef_7 (m : MethodId) (x0 : Addr) (x1 : Int32) : entryFrame m #[(.ref x0), (.int x1)] 2 = mkF m 0 #[.val (.ref x0), .val (.int x1)] [] := by first | (simp [entryFrame, mkF, argsToLocals, Value.category]; done) | rfl
theorem rm7 (l : Launch) (Z : State) (a0 : Array Value) (hw : HW a0 Z) (ws : List Jvm.Cond) (a1 : Addr) (p2 : Int32) (kb : ClassId) (A : List Int32) (h0 : Heap) (V_b : AB Z h0 a1 kb p2 A) :
    MFn l mn_7 jdk_52_method_15_code 2 (some .byte) ws (Rm 0 0 0 0) #[(.ref a1), (.int p2)] Z h0 (QP h0 (some (.int (0 : Int32)))) := by
  refine MetFree.of_bodySF (plainFor_of_name pn_3) hisR ?_
  intro p e s m args below meth c s₁ Bd hml0 hP hK
  obtain ⟨rfl, hZ, hh⟩ := hP
  have hx := Bd.exec
  have hby := Bd.bytes
  have hml : c.maxLocals = 2 := hml0
  have hown := findClass_of_methodNamed Bd.named
  have X0 : Stand p l e (Rm 0 0 0 0) s m _ below meth c _ [] 0 0 := Stand.of_body Bd
  have e0 : s₁.heap = h0 := by rw [← hh, Bd.state]; rfl
  have pre0 := cast0 (p := p) (e := e) (below := below) (T := s₁) (ef_7 m a1 p2)
  obtain ⟨cl1, Ar1, q1, S1, M1, H1, G1⟩ := id V_b
  obtain ⟨fs, hr, hrun, hended, hW, hsame⟩ := X0.leave (v := some (.int (0 : Int32))) (fun h => by rw [Bd.returns] at h; cases h)
  refine ⟨_, _, pre0 _ ?_, hrun, hended, _, _, rfl, ?_, ⟨_, rfl⟩, hW, hsame.mono (by decide) (by decide)⟩
  · refine XS.iloadN X0.here hx rfl (hb hby d7_0) rfl ?_
    refine XS.aloadN X0.here hx rfl (hb hby d7_1) rfl rfl ?_
    refine X0.arraylength hx (by rw [e0]; exact Ar1.1) (State.isArrayOf_alike hZ.alike Ar1.2.1) (g := (mkF m 2 #[vR a1, vI p2] [iR a1, iI p2])) rfl rfl (hb hby d7_2) _ ?_
    rw [len_of S1 M1]
    refine XS.isub X0.here hx rfl (hb hby d7_3) rfl ?_
    rw [own_subz]
    refine XS.bipush X0.here hx rfl (hb hby d7_4) ?_
    refine XS.iushr X0.here hx rfl (hb hby d7_6) rfl ?_
    show SA s₁ m 7 #[vR a1, vI p2] [iI (((0 : Int32).toUInt32 >>> ((31 : Int32) &&& 31).toUInt32).toInt32)]
    rw [(by decide : (((0 : Int32).toUInt32 >>> ((31 : Int32) &&& 31).toUInt32).toInt32) = (0 : Int32))]
    refine XS.i2b X0.here hx rfl (hb hby d7_7) rfl ?_
    show SA s₁ m 8 #[vR a1, vI p2] [iI (0 : Int32).toInt8.toInt32]
    rw [(by decide : (0 : Int32).toInt8.toInt32 = (0 : Int32))]
    show Steps _ _ _ (s₁.setTop (mkF m 8 #[vR a1, vI p2] [iI 0])) _
    exact retN X0 hx (t := .byte) Bd.returns (by simp) (hb hby d7_8) hr
  · show QP _ _ _ s₁.heap _
    rw [e0]
    exact ⟨rfl, rfl, rfl⟩
theorem d3_0 : dk c3 0 (.aload_n 0) 1 := by decide +kernel
theorem d3_1 : dk c3 1 (.invokespecial 1) 3 := by decide +kernel
theorem d3_4 : dk c3 4 (.iload_n 3) 1 := by decide +kernel
theorem d3_5 : dk c3 5 (.ifCond .ne 22) 3 := by decide +kernel
theorem d3_27 : dk c3 27 (.getstatic 38) 3 := by decide +kernel
theorem d3_30 : dk c3 30 (.ifCond .eq 28) 3 := by decide +kernel
theorem d3_33 : dk c3 33 (.aload_n 1) 1 := by decide +kernel
theorem d3_34 : dk c3 34 (.iload_n 2) 1 := by decide +kernel
theorem d3_35 : dk c3 35 (.iload_n 3) 1 := by decide +kernel
theorem d3_36 : dk c3 36 (.invokestatic 177) 3 := by decide +kernel
theorem d3_39 : dk c3 39 (.astore 5) 2 := by decide +kernel
theorem d3_41 : dk c3 41 (.aload_n 0) 1 := by decide +kernel
theorem d3_42 : dk c3 42 (.aload 5) 2 := by decide +kernel
theorem d3_44 : dk c3 44 (.iload_n 3) 1 := by decide +kernel
theorem d3_45 : dk c3 45 (.invokestatic 47) 3 := by decide +kernel
theorem d3_48 : dk c3 48 (.putfield 15) 3 := by decide +kernel
theorem d3_51 : dk c3 51 (.aload_n 0) 1 := by decide +kernel
theorem d3_52 : dk c3 52 (.aload 5) 2 := by decide +kernel
theorem d3_54 : dk c3 54 (.putfield 9) 3 := by decide +kernel
theorem d3_57 : dk c3 57 .return_ 1 := by decide +kernel
theorem ef_3 (m : MethodId) (x0 : Addr) (x1 : Addr) (x3 : Int32) : entryFrame m #[(.ref x0), (.ref x1), (.int (0 : Int32)), (.int x3), .null] 6 = mkF m 0 #[.val (.ref x0), .val (.ref x1), .val (.int (0 : Int32)), .val (.int x3), .val .null, .unset] [] := by first | (simp [entryFrame, mkF, argsToLocals, Value.category]; done) | rfl
def Q3 (Z : State) (a1 : Addr) (a2 : Addr) (p4 : Int32) (kc : ClassId) (CL : List Int32) (cs : Int32) (h0 : Heap) (n0 : Nat) (v : Option Value) (h : Heap) (L : List Loc) : Prop := ∃ (b : Addr) (kb : ClassId), v = none ∧ Fr n0 L ∧ Keep h0 h [a1] ∧ ES Z h a1 ∧ FC Z h a1 ∧ FV Z h a1 b ∧ AB Z h b kb p4 (CL.map own_by) ∧ h0.size ≤ b
theorem rm3 (l : Launch) (Z : State) (a0 : Array Value) (hw : HW a0 Z) (ws : List Jvm.Cond) (a1 : Addr) (a2 : Addr) (p4 : Int32) (kc : ClassId) (CL : List Int32) (cs : Int32) (h0 : Heap) (n0 : Nat) (Z0 : n0 ≤ h0.size) (O0 : Old Z n0 h0) (E_a1 : ES Z h0 a1) (g_a1 : n0 ≤ a1) (F_v : Fld Z h0 a1 "java/lang/String" "value" "[B" .null) (F_c : FC Z h0 a1) (V_c : AC Z h0 a2 kc p4 CL) (ne_a1_a2 : a1 ≠ a2) (hCL : p4.toNatClampNeg = CL.length) (hok : ∀ x ∈ CL, own_c8 x) (hz : 1 ≤ p4.toInt ∧ p4.toInt ≤ 6) (S_CS : SC Z cs) (h_cs : ¬ cs = (0 : Int32)) :
    MFn l mn_8 jdk_42_method_149_code 6 none ws (Rm 2 1 6 35) #[(.ref a1), (.ref a2), (.int (0 : Int32)), (.int p4), .null] Z h0 (Q3 Z a1 a2 p4 kc CL cs h0 n0) := by
  refine MetFree.of_bodySF (plainFor_of_name pn_0) hisR ?_
  intro p e s m args below meth c s₁ Bd hml0 hP hK
  obtain ⟨rfl, hZ, hh⟩ := hP
  have hx := Bd.exec
  have hby := Bd.bytes
  have hml : c.maxLocals = 6 := hml0
  have hown := findClass_of_methodNamed Bd.named
  have hnm := (name_of_methodNamed Bd.named Bd.method).1
  have X0 : Stand p l e (Rm 2 1 6 35) s m _ below meth c _ [] 0 0 := Stand.of_body Bd
  have e0 : s₁.heap = h0 := by rw [← hh, Bd.state]; rfl
  have N0 := Fr.nil n0
  have K0 := Keep.refl h0 [a1]
  have pre0 := cast0 (p := p) (e := e) (below := below) (T := s₁) (ef_3 m a1 a2 p4)
  obtain ⟨T1, X1, e1, st1⟩ := initO X0 hx hZ hown (ww hw 15 rfl) (ww hw 16 rfl) (ww hw 17 rfl) e0 (g := (mkF m 1 #[vR a1, vR a2, vI 0, vI p4, .val .null, .unset] [iR a1])) rfl (by rw [hml]; rfl) rfl (hb hby d3_1) (by decide) (W := 0) (wz rfl) (by decide)
  obtain ⟨T2, X2, e2, st2⟩ := getS2 X1 hx hZ hown (host := "") (Or.inl (ww hw 18 rfl)) Via.refl e1 (S_CS.ext O0.2) (g := (mkF m 27 #[vR a1, vR a2, vI 0, vI p4, .val .null, .unset] [])) rfl (hb hby d3_27)
  obtain ⟨_, _, ⟨T3, L3, k3, n3⟩, -, X3, ⟨Lc3, hQ3, l3, y3, z3⟩, st3⟩ := Jvm.LawKit.callS X2 hx (y := mn_6) hown (mw hZ hw 19 rfl) (mw hZ hw 20 rfl) (mw hZ hw 21 rfl) (mw hZ hw 22 rfl) (by decide) (backOf (W := 0) (rm5 l Z a0 hw [] a2 p4 kc CL h0 n0 (Nat.le_trans Z0 K0.1) V_c hCL hok hz) hZ (ww hw 22 rfl) (ww hw 21 rfl) (by decide) (by decide)) (g := (mkF m 36 #[vR a1, vR a2, vI 0, vI p4, .val .null, .unset] [iI p4, iI 0, iR a2])) rfl (by rw [hml]; rfl) (argsL := [(.ref a2), (.int (0 : Int32)), (.int p4)]) (rest := []) (lenOf pd_5 rfl) rfl (wz rfl) (hb hby d3_36) (fun _ _ => ⟨rfl, e2, (by decide : 0 + 1 ≤ _), (by decide : 0 + 6 ≤ _)⟩)
  dsimp only [Pt.U, Pt.locs, Pt.cells, Pt.slots] at X3 l3 y3 z3 st3 hQ3
  subst l3 y3 z3
  obtain ⟨d3, kd3, rfl, N3q, K3q, V3q, z_d3⟩ := hQ3
  have ne_a1_d3 := neC E_a1.lt z_d3
  have ne_a2_d3 := neC V_c.lt z_d3
  have sz_d3 := Nat.le_trans K0.1 z_d3
  have g_d3 := Nat.le_trans Z0 sz_d3
  have N3 := Fr.app N0 N3q
  have K3 : Keep h0 T3.heap [a1] := Keep.trans K0 K3q all0
  obtain ⟨_, _, ⟨T4, L4, k4, n4⟩, -, X4, ⟨Lc4, hQ4, l4, y4, z4⟩, st4⟩ := Jvm.LawKit.callS X3 hx (y := mn_7) hown (mw hZ hw 27 rfl) (mw hZ hw 28 rfl) (mw hZ hw 21 rfl) (mw hZ hw 29 rfl) (by decide) (backOf (W := 1) (rm7 l Z a0 hw [] d3 p4 kd3 (CL.map own_by) T3.heap V3q) hZ (ww hw 29 rfl) (ww hw 21 rfl) (by decide) (by decide)) (g := (mkF m 45 #[vR a1, vR a2, vI 0, vI p4, .val .null, vR d3] [iI p4, iR d3, iR a1])) rfl (by rw [hml]; rfl) (argsL := [(.ref d3), (.int p4)]) (rest := [(.ref a1)]) (lenOf pd_6 rfl) rfl (wz rfl) (hb hby d3_45) (fun _ _ => ⟨rfl, rfl, (by decide : 1 + 0 ≤ _), (by decide : 6 + 0 ≤ _)⟩)
  dsimp only [Pt.U, Pt.locs, Pt.cells, Pt.slots] at X4 l4 y4 z4 st4 hQ4
  subst l4 y4 z4
  obtain ⟨rfl, rfl, e4⟩ := hQ4
  try rw [List.append_nil] at X4
  have fk5 := (F_c.keep K3q nin0)
  have fk6 := (E_a1.keep K3q)
  obtain ⟨T7, h7, X7, e7, W7, st7⟩ := putFN X4 hx hZ hown (ww hw 30 rfl) Via.refl e4 fk5 fk6 (Or.inr ⟨(ww hw 31 rfl), rfl, hnm⟩) (ww hw 6 rfl) (ty := .byte) (v' := (.int (0 : Int32))) (by decide) rfl (by decide) (g := (mkF m 48 #[vR a1, vR a2, vI 0, vI p4, .val .null, vR d3] [iI 0, iR a1])) rfl rfl (hb hby d3_48)
  have Fw7 := fk5.same W7
  have K7 : Keep h0 h7 [a1] := K3.wr W7 (Or.inl (List.mem_of_getElem? (i := 0) rfl))
  have N7 := Fr.snoc X7 N3 g_a1
  have fk8 := ((F_v.keep K3q nin0).other W7 (Or.inr (slot_ne (Or.inr (ww hw 33 rfl)) (Or.inr (ww hw 31 rfl)) (by decide) (t := (.array .byte)) (t' := .byte) (by decide) (by decide))))
  have fk9 := (fk6.wr W7)
  obtain ⟨T10, h10, X10, e10, W10, st10⟩ := putF X7 hx hZ hown (host := "") (Or.inl (ww hw 32 rfl)) Via.refl e7 fk8 fk9 (Or.inr ⟨(ww hw 33 rfl), rfl, hnm⟩) (ww hw 6 rfl) (ty := (.array .byte)) (by decide) rfl rfl (g := (mkF m 54 #[vR a1, vR a2, vI 0, vI p4, .val .null, vR d3] [iR d3, iR a1])) rfl rfl (hb hby d3_54)
  have Fw10 := fk8.same W10
  have K10 : Keep h0 h10 [a1] := K7.wr W10 (Or.inl (List.mem_of_getElem? (i := 0) rfl))
  have N10 := Fr.snoc X10 N7 g_a1
  obtain ⟨fs, hr, hrun, hended, hW, hsame⟩ := X10.leave (v := none) (fun _ => rfl)
  have fk11 := (fk9.wr W10)
  have fk12 := (Fw7.other W10 (Or.inr (slot_ne (Or.inr (ww hw 31 rfl)) (Or.inr (ww hw 33 rfl)) (by decide) (t := .byte) (t' := (.array .byte)) (by decide) (by decide))))
  have fk13 := ((V3q.other W7 (Ne.symm ne_a1_d3)).other W10 (Ne.symm ne_a1_d3))
  refine ⟨_, _, pre0 _ ?_, hrun, hended, _, _, rfl, ?_, ⟨_, rfl⟩, hW, hsame.mono (by decide) (by decide)⟩
  · refine XS.aloadN X0.here hx rfl (hb hby d3_0) rfl rfl ?_
    refine st1 _ ?_
    refine XS.iloadN X1.here hx rfl (hb hby d3_4) rfl ?_
    refine XS.ifYes X1.here hx rfl (pc0 := 5) (pc' := 27) rfl (hb hby d3_5) rfl ((if0 _ _).trans (feq (fun e => absurd hz.1 (by rw [e]; decide))).2) (by decide) (by decide) ?_
    refine st2 _ ?_
    refine XS.ifNo X2.here hx rfl (hb hby d3_30) rfl ((if0 _ _).trans (feq h_cs).1) ?_
    refine XS.aloadN X2.here hx rfl (hb hby d3_33) rfl rfl ?_
    refine XS.iloadN X2.here hx rfl (hb hby d3_34) rfl ?_
    refine XS.iloadN X2.here hx rfl (hb hby d3_35) rfl ?_
    refine st3 _ ?_
    refine XS.astore X3.here hx rfl (hb hby d3_39) rfl rfl (l' := #[vR a1, vR a2, vI 0, vI p4, .val .null, vR d3]) rfl ?_
    refine XS.aloadN X3.here hx rfl (hb hby d3_41) rfl rfl ?_
    refine XS.aload X3.here hx rfl (hb hby d3_42) rfl rfl ?_
    refine XS.iloadN X3.here hx rfl (hb hby d3_44) rfl ?_
    refine st4 _ ?_
    refine st7 _ ?_
    refine XS.aloadN X7.here hx rfl (hb hby d3_51) rfl rfl ?_
    refine XS.aload X7.here hx rfl (hb hby d3_52) rfl rfl ?_
    refine st10 _ ?_
    show Steps _ _ _ (T10.setTop (mkF m 57 #[vR a1, vR a2, vI 0, vI p4, .val .null, vR d3] [])) _
    exact X10.returnOut hx Bd.returns (hb hby d3_57) hr
  · show Q3 Z a1 a2 p4 kc CL cs h0 n0 _ T10.heap _
    rw [e10]
    exact ⟨_, _, rfl, N10, K10, fk11, fk12, Fw10, fk13, sz_d3⟩
theorem d2_0 : dk c2 0 (.aload_n 0) 1 := by decide +kernel
theorem d2_1 : dk c2 1 (.aload_n 1) 1 := by decide +kernel
theorem d2_2 : dk c2 2 (.iconst 0) 1 := by decide +kernel
theorem d2_3 : dk c2 3 (.aload_n 1) 1 := by decide +kernel
theorem d2_4 : dk c2 4 .arraylength 1 := by decide +kernel
theorem d2_5 : dk c2 5 .aconst_null 1 := by decide +kernel
theorem d2_6 : dk c2 6 (.invokespecial 27) 3 := by decide +kernel
theorem d2_9 : dk c2 9 .return_ 1 := by decide +kernel
theorem ef_2 (m : MethodId) (x0 : Addr) (x1 : Addr) : entryFrame m #[(.ref x0), (.ref x1)] 2 = mkF m 0 #[.val (.ref x0), .val (.ref x1)] [] := by first | (simp [entryFrame, mkF, argsToLocals, Value.category]; done) | rfl
def Q2 (Z : State) (a1 : Addr) (a2 : Addr) (z : Int32) (kc : ClassId) (CL : List Int32) (cs : Int32) (h0 : Heap) (n0 : Nat) (v : Option Value) (h : Heap) (L : List Loc) : Prop := ∃ (b : Addr) (kb : ClassId), v = none ∧ Fr n0 L ∧ Keep h0 h [a1] ∧ ES Z h a1 ∧ FC Z h a1 ∧ FV Z h a1 b ∧ AB Z h b kb z (CL.map own_by) ∧ h0.size ≤ b
theorem rm2 (l : Launch) (Z : State) (a0 : Array Value) (hw : HW a0 Z) (ws : List Jvm.Cond) (a1 : Addr) (a2 : Addr) (z : Int32) (kc : ClassId) (CL : List Int32) (cs : Int32) (h0 : Heap) (n0 : Nat) (Z0 : n0 ≤ h0.size) (O0 : Old Z n0 h0) (E_a1 : ES Z h0 a1) (g_a1 : n0 ≤ a1) (F_v : Fld Z h0 a1 "java/lang/String" "value" "[B" .null) (F_c : FC Z h0 a1) (V_c : AC Z h0 a2 kc z CL) (ne_a1_a2 : a1 ≠ a2) (hCL : z.toNatClampNeg = CL.length) (hok : ∀ x ∈ CL, own_c8 x) (hz : 1 ≤ z.toInt ∧ z.toInt ≤ 6) (S_CS : SC Z cs) (h_cs : ¬ cs = (0 : Int32)) :
    MFn l mn_9 jdk_42_method_3_code 2 none ws (Rm 3 1 6 52) #[(.ref a1), (.ref a2)] Z h0 (Q2 Z a1 a2 z kc CL cs h0 n0) := by
  refine MetFree.of_bodySF (plainFor_of_name pn_0) hisR ?_
  intro p e s m args below meth c s₁ Bd hml0 hP hK
  obtain ⟨rfl, hZ, hh⟩ := hP
  have hx := Bd.exec
  have hby := Bd.bytes
  have hml : c.maxLocals = 2 := hml0
  have hown := findClass_of_methodNamed Bd.named
  have X0 : Stand p l e (Rm 3 1 6 52) s m _ below meth c _ [] 0 0 := Stand.of_body Bd
  have e0 : s₁.heap = h0 := by rw [← hh, Bd.state]; rfl
  have N0 := Fr.nil n0
  have K0 := Keep.refl h0 [a1]
  have pre0 := cast0 (p := p) (e := e) (below := below) (T := s₁) (ef_2 m a1 a2)
  obtain ⟨cl1, Ar1, q1, S1, M1, H1, G1⟩ := id V_c
  obtain ⟨_, _, ⟨T2, L2, k2, n2⟩, -, X2, ⟨Lc2, hQ2, l2, y2, z2⟩, st2⟩ := X0.specialBack hx (y := mn_8) rfl hown (mw hZ hw 11 rfl) (mw hZ hw 12 rfl) (mw hZ hw 14 rfl) (by decide) (backOf (W := 0) (rm3 l Z a0 hw [] a1 a2 z kc CL cs h0 n0 (Nat.le_trans Z0 K0.1) O0 E_a1 g_a1 F_v F_c V_c ne_a1_a2 hCL hok hz S_CS h_cs) hZ (ww hw 14 rfl) (ww hw 7 rfl) (by decide) (by decide)) (g := (mkF m 6 #[vR a1, vR a2] [.null, iI z, iI 0, iR a2, iR a1])) rfl (by rw [hml]; rfl) (Steps.refl _) (a := a1) (argsL := [(.ref a2), (.int (0 : Int32)), (.int z), .null]) (rest := []) (lenOf pd_7 rfl) rfl (wz rfl) (hb hby d2_6) (fun _ _ => ⟨rfl, e0, (by decide : 0 + 1 ≤ _), (by decide : 0 + 6 ≤ _)⟩)
  dsimp only [Pt.U, Pt.locs, Pt.cells, Pt.slots] at X2 l2 y2 z2 st2 hQ2
  subst l2 y2 z2
  obtain ⟨d2, kd2, rfl, N2q, K2q, E2q, C2q, F2q, V2q, z_d2⟩ := hQ2
  have ne_a1_d2 := neC E_a1.lt z_d2
  have ne_a2_d2 := neC V_c.lt z_d2
  have sz_d2 := Nat.le_trans K0.1 z_d2
  have g_d2 := Nat.le_trans Z0 sz_d2
  have N2 := Fr.app N0 N2q
  have K2 : Keep h0 T2.heap [a1] := Keep.trans K0 K2q (allS (Or.inl (List.mem_of_getElem? (i := 0) rfl)) all0)
  obtain ⟨fs, hr, hrun, hended, hW, hsame⟩ := X2.leave (v := none) (fun _ => rfl)
  refine ⟨_, _, pre0 _ ?_, hrun, hended, _, _, rfl, ?_, ⟨_, rfl⟩, hW, hsame.mono (by decide) (by decide)⟩
  · refine XS.aloadN X0.here hx rfl (hb hby d2_0) rfl rfl ?_
    refine XS.aloadN X0.here hx rfl (hb hby d2_1) rfl rfl ?_
    refine XS.iconst X0.here hx rfl (hb hby d2_2) ?_
    refine XS.aloadN X0.here hx rfl (hb hby d2_3) rfl rfl ?_
    refine X0.arraylength hx (by rw [e0]; exact Ar1.1) (State.isArrayOf_alike hZ.alike Ar1.2.1) (g := (mkF m 4 #[vR a1, vR a2] [iR a2, iI 0, iR a2, iR a1])) rfl rfl (hb hby d2_4) _ ?_
    rw [len_of S1 M1]
    refine XS.aconstNull X0.here hx rfl (hb hby d2_5) ?_
    refine st2.trans ?_
    show Steps _ _ _ (T2.setTop (mkF m 9 #[vR a1, vR a2] [])) _
    exact X2.returnOut hx Bd.returns (hb hby d2_9) hr
  · show Q2 Z a1 a2 z kc CL cs h0 n0 _ T2.heap _
    exact ⟨_, _, rfl, N2, K2, E2q, C2q, F2q, V2q, sz_d2⟩
theorem d3_8 : dk c3 8 (.aload_n 0) 1 := by decide +kernel
theorem d3_9 : dk c3 9 (.ldc 7) 2 := by decide +kernel
theorem d3_11 : dk c3 11 (.getfield 9) 3 := by decide +kernel
theorem d3_14 : dk c3 14 (.putfield 9) 3 := by decide +kernel
theorem d3_17 : dk c3 17 (.aload_n 0) 1 := by decide +kernel
theorem d3_18 : dk c3 18 (.ldc 7) 2 := by decide +kernel
theorem d3_20 : dk c3 20 (.getfield 15) 3 := by decide +kernel
theorem d3_23 : dk c3 23 (.putfield 15) 3 := by decide +kernel
theorem d3_26 : dk c3 26 .return_ 1 := by decide +kernel
theorem ef_3_0 (m : MethodId) (x0 : Addr) (x1 : Addr) : entryFrame m #[(.ref x0), (.ref x1), (.int (0 : Int32)), (.int (0 : Int32)), .null] 6 = mkF m 0 #[.val (.ref x0), .val (.ref x1), .val (.int (0 : Int32)), .val (.int (0 : Int32)), .val .null, .unset] [] := by first | (simp [entryFrame, mkF, argsToLocals, Value.category]; done) | rfl
def Q3_0 (Z : State) (a1 : Addr) (a2 : Addr) (cs : Int32) (h0 : Heap) (n0 : Nat) (v : Option Value) (h : Heap) (L : List Loc) : Prop := ∃ (b : Addr) (kb : ClassId), v = none ∧ Fr n0 L ∧ Keep h0 h [a1] ∧ ES Z h a1 ∧ FC Z h a1 ∧ FV Z h a1 b ∧ AB Z h b kb (0 : Int32) []
theorem rm3_0 (l : Launch) (Z : State) (a0 : Array Value) (hw : HW a0 Z) (ws : List Jvm.Cond) (a1 : Addr) (a2 : Addr) (cs : Int32) (h0 : Heap) (n0 : Nat) (Z0 : n0 ≤ h0.size) (O0 : Old Z n0 h0) (E_a1 : ES Z h0 a1) (g_a1 : n0 ≤ a1) (F_v : Fld Z h0 a1 "java/lang/String" "value" "[B" .null) (F_c : FC Z h0 a1) (S_CS : SC Z cs) (h_cs : ¬ cs = (0 : Int32)) :
    MetFree l mn_8 (head1 (Jvm.Cond.code mn_8 jdk_42_method_149_code 6 none :: ws) (Rm 1 4 8 12)) (fun a U => a = #[(.ref a1), (.ref a2), (.int (0 : Int32)), (.int (0 : Int32)), .null] ∧ Z.Warmed39 U.vm ∧ U.heap = h0 ∧ CHv Z consts_1 U.vm h0 ∧ ∀ x ∈ [a1], Safe Z consts_1 U.vm h0 x) (fun _ _ _ _ _ => True) (fun _ U o U' => ∃ v L, o = .returned v ∧ Q3_0 Z a1 a2 cs h0 n0 v U'.heap L ∧ CHr Z consts_1 U.vm U.heap U'.vm U'.heap ∧ ReturnedEndW U o U' L (Rm 1 4 8 12).cells (Rm 1 4 8 12).slots) := by
  refine MetFree.of_bodySF (plainFor_of_name pn_0) hisR ?_
  intro p e s m args below meth c s₁ Bd hml0 hP hK
  obtain ⟨rfl, hZ, hh, hC0, hSf⟩ := hP
  have hx := Bd.exec
  have hby := Bd.bytes
  have hml : c.maxLocals = 6 := hml0
  have hown := findClass_of_methodNamed Bd.named
  have hnm := (name_of_methodNamed Bd.named Bd.method).1
  have X0 : Stand p l e (Rm 1 4 8 12) s m _ below meth c _ [] 0 0 := Stand.of_body Bd
  have e0 : s₁.heap = h0 := by rw [← hh, Bd.state]; rfl
  have R0 := CHr.refl hC0
  have N0 := Fr.nil n0
  have K0 := Keep.refl h0 [a1]
  have pre0 := cast0 (p := p) (e := e) (below := below) (T := s₁) (ef_3_0 m a1 a2)
  obtain ⟨T1, X1, e1, st1⟩ := initO X0 hx hZ hown (ww hw 15 rfl) (ww hw 16 rfl) (ww hw 17 rfl) e0 (g := (mkF m 1 #[vR a1, vR a2, vI 0, vI 0, .val .null, .unset] [iR a1])) rfl (by rw [hml]; rfl) rfl (hb hby d3_1) (by decide) (W := 0) (wz rfl) (by decide)
  have pre2 : PP p e below (T1.setTop (mkF m 9 #[vR a1, vR a2, vI 0, vI 0, .val .null, .unset] [iR a1])) (s₁.setTop (entryFrame m #[(.ref a1), (.ref a2), (.int (0 : Int32)), (.int (0 : Int32)), .null] 6)) := by
    intro t kt
    refine pre0 t ?_
    refine XS.aloadN X0.here hx rfl (hb hby d3_0) rfl rfl ?_
    refine st1 _ ?_
    refine XS.iloadN X1.here hx rfl (hb hby d3_4) rfl ?_
    refine XS.ifNo X1.here hx rfl (hb hby d3_5) rfl ((if0 _ _).trans (teq (by decide : (0 : Int32) = (0 : Int32))).2) ?_
    refine XS.aloadN X1.here hx rfl (hb hby d3_8) rfl rfl ?_
    exact kt
  obtain ⟨la3, T3, h3, kk3, lb3, kl3, X3, e3, E3, hS3, hk3, hZ, hown, EE3, FC3, FV3, VV3, -, -, C3, li3, ne3, st3⟩ := ldcCH (s := s) (vm0 := s.vm) X1 hx hZ hown (ww hw 38 rfl) (own_strAtoms hw) e1 ((State.WarmedH.refl s).since 0) (Nat.zero_le _) (own_EW hw) (List.mem_of_getElem? (i := 1) rfl) R0.1 (vs := own_bs []) (z := (0 : Int32)) own_ct1 (by decide) (by decide) (g := (mkF m 9 #[vR a1, vR a2, vI 0, vI 0, .val .null, .unset] [iR a1])) rfl (hb hby d3_9) (n := 0) (by decide) (by decide) (by decide) (by decide)
  have K3 : Keep h0 h3 [a1] := K0.ext E3
  have S3_a1 := C3.safe E_a1.lt (hSf _ (List.mem_of_getElem? (i := 0) rfl))
  have R3 := R0.trans C3
  obtain ⟨T4, X4, e4, st4⟩ := gF X3 hx hZ hown (ww hw 32 rfl) e3 FV3 (g := (mkF m 11 #[vR a1, vR a2, vI 0, vI 0, .val .null, .unset] [iR la3, iR a1])) rfl rfl (hb hby d3_11)
  have fk5 := (F_v.ext E3)
  have fk6 := (E_a1.ext E3)
  obtain ⟨T7, h7, X7, e7, W7, st7⟩ := putF X4 hx hZ hown (host := "") (Or.inl (ww hw 32 rfl)) Via.refl e4 fk5 fk6 (Or.inr ⟨(ww hw 33 rfl), rfl, hnm⟩) (ww hw 6 rfl) (ty := (.array .byte)) (by decide) rfl rfl (g := (mkF m 14 #[vR a1, vR a2, vI 0, vI 0, .val .null, .unset] [iR lb3, iR a1])) rfl rfl (hb hby d3_14)
  have Fw7 := fk5.same W7
  have K7 : Keep h0 h7 [a1] := K3.wr W7 (Or.inl (List.mem_of_getElem? (i := 0) rfl))
  have N7 := Fr.snoc X7 N0 g_a1
  have S8_a1 := Safe.wr W7 S3_a1 R3.1 S3_a1
  have R8 := R3.trans (CHr.wr W7 S3_a1 R3.1)
  have pre9 : PP p e below (T7.setTop (mkF m 18 #[vR a1, vR a2, vI 0, vI 0, .val .null, .unset] [iR a1])) (s₁.setTop (entryFrame m #[(.ref a1), (.ref a2), (.int (0 : Int32)), (.int (0 : Int32)), .null] 6)) := by
    intro t kt
    refine pre2 t ?_
    refine st3 _ ?_
    refine st4 _ ?_
    refine st7 _ ?_
    refine XS.aloadN X7.here hx rfl (hb hby d3_17) rfl rfl ?_
    exact kt
  have fk10 := (fk6.wr W7)
  obtain ⟨la11, T11, h11, kk11, lb11, kl11, X11, e11, E11, hS11, hk11, hZ, hown, EE11, FC11, FV11, VV11, -, -, C11, li11, ne11, st11⟩ := ldcCH (s := s) (vm0 := T3.vm) X7 hx hZ hown (ww hw 38 rfl) (own_strAtoms hw) e7 hS3 (Nat.le_trans hk3 (Nat.le_of_eq W7.size.symm)) (own_EW hw) (List.mem_of_getElem? (i := 1) rfl) R8.1 (vs := own_bs []) (z := (0 : Int32)) own_ct1 (by decide) (by decide) (g := (mkF m 18 #[vR a1, vR a2, vI 0, vI 0, .val .null, .unset] [iR a1])) rfl (hb hby d3_18) (n := 0) (by decide) (by decide) (by decide) (by decide)
  have K11 : Keep h0 h11 [a1] := K7.ext E11
  have S11_a1 := C11.safe fk10.lt S8_a1
  have R11 := R8.trans C11
  obtain ⟨T12, X12, e12, st12⟩ := gF X11 hx hZ hown (ww hw 30 rfl) e11 FC11 (g := (mkF m 20 #[vR a1, vR a2, vI 0, vI 0, .val .null, .unset] [iR la11, iR a1])) rfl rfl (hb hby d3_20)
  have fk13 := (((F_c.ext E3).other W7 (Or.inr (slot_ne (Or.inr (ww hw 31 rfl)) (Or.inr (ww hw 33 rfl)) (by decide) (t := .byte) (t' := (.array .byte)) (by decide) (by decide)))).ext E11)
  have fk14 := (fk10.ext E11)
  obtain ⟨T15, h15, X15, e15, W15, st15⟩ := putFN X12 hx hZ hown (ww hw 30 rfl) Via.refl e12 fk13 fk14 (Or.inr ⟨(ww hw 31 rfl), rfl, hnm⟩) (ww hw 6 rfl) (ty := .byte) (v' := (.int (0 : Int32))) (by decide) rfl (by decide) (g := (mkF m 23 #[vR a1, vR a2, vI 0, vI 0, .val .null, .unset] [iI 0, iR a1])) rfl rfl (hb hby d3_23)
  have Fw15 := fk13.same W15
  have K15 : Keep h0 h15 [a1] := K11.wr W15 (Or.inl (List.mem_of_getElem? (i := 0) rfl))
  have N15 := Fr.snoc X15 N7 g_a1
  have S16_a1 := Safe.wr W15 S11_a1 R11.1 S11_a1
  have R16 := R11.trans (CHr.wr W15 S11_a1 R11.1)
  have hfin := R16.trans (CHv.at (s := s) (vm0 := T11.vm) X15 hZ (own_EW hw) R16.1)
  obtain ⟨fs, hr, hrun, hended, hEnd⟩ := X15.leaveW (s := s) hS11 (by rw [e15]; exact (Nat.le_trans hk11 (Nat.le_of_eq W15.size.symm))) (v := none) (fun _ => rfl)
  have fk17 := (fk14.wr W15)
  have fk18 := ((Fw7.ext E11).other W15 (Or.inr (slot_ne (Or.inr (ww hw 33 rfl)) (Or.inr (ww hw 31 rfl)) (by decide) (t := (.array .byte)) (t' := .byte) (by decide) (by decide))))
  have fk19 := (((VV3.other W7 (Ne.symm (ne3 _ S3_a1).2)).ext E11).other W15 (Ne.symm (ne3 _ S3_a1).2))
  refine ⟨_, _, pre9 _ ?_, hrun, hended, _, _, rfl, ?_, (by rw [hh]; show CHr Z consts_1 s.vm h0 T15.vm T15.heap; rw [e15]; exact hfin), ⟨hEnd.1, hEnd.2.1, hEnd.2.2.1, hEnd.2.2.2.mono (by decide) (by decide)⟩⟩
  · refine st11 _ ?_
    refine st12 _ ?_
    refine st15 _ ?_
    show Steps _ _ _ (T15.setTop (mkF m 26 #[vR a1, vR a2, vI 0, vI 0, .val .null, .unset] [])) _
    exact X15.returnOut hx Bd.returns (hb hby d3_26) hr
  · show Q3_0 Z a1 a2 cs h0 n0 _ T15.heap _
    rw [e15]
    exact ⟨_, _, rfl, N15, K15, fk17, Fw15, fk18, fk19⟩
theorem ef_2_0 (m : MethodId) (x0 : Addr) (x1 : Addr) : entryFrame m #[(.ref x0), (.ref x1)] 2 = mkF m 0 #[.val (.ref x0), .val (.ref x1)] [] := by first | (simp [entryFrame, mkF, argsToLocals, Value.category]; done) | rfl
def Q2_0 (Z : State) (a1 : Addr) (a2 : Addr) (kc : ClassId) (cs : Int32) (h0 : Heap) (n0 : Nat) (v : Option Value) (h : Heap) (L : List Loc) : Prop := ∃ (b : Addr) (kb : ClassId), v = none ∧ Fr n0 L ∧ Keep h0 h [a1] ∧ ES Z h a1 ∧ FC Z h a1 ∧ FV Z h a1 b ∧ AB Z h b kb (0 : Int32) []
theorem rm2_0 (l : Launch) (Z : State) (a0 : Array Value) (hw : HW a0 Z) (ws : List Jvm.Cond) (a1 : Addr) (a2 : Addr) (kc : ClassId) (cs : Int32) (h0 : Heap) (n0 : Nat) (Z0 : n0 ≤ h0.size) (O0 : Old Z n0 h0) (E_a1 : ES Z h0 a1) (g_a1 : n0 ≤ a1) (F_v : Fld Z h0 a1 "java/lang/String" "value" "[B" .null) (F_c : FC Z h0 a1) (V_c : Arv Z h0 a2 kc .char (0 : Int32) [] (.int (0 : Int32))) (S_CS : SC Z cs) (h_cs : ¬ cs = (0 : Int32)) :
    MetFree l mn_9 (head1 (Jvm.Cond.code mn_9 jdk_42_method_3_code 2 none :: ws) (Rm 2 4 8 29)) (fun a U => a = #[(.ref a1), (.ref a2)] ∧ Z.Warmed39 U.vm ∧ U.heap = h0 ∧ CHv Z consts_1 U.vm h0 ∧ ∀ x ∈ [a1], Safe Z consts_1 U.vm h0 x) (fun _ _ _ _ _ => True) (fun _ U o U' => ∃ v L, o = .returned v ∧ Q2_0 Z a1 a2 kc cs h0 n0 v U'.heap L ∧ CHr Z consts_1 U.vm U.heap U'.vm U'.heap ∧ ReturnedEndW U o U' L (Rm 2 4 8 29).cells (Rm 2 4 8 29).slots) := by
  refine MetFree.of_bodySF (plainFor_of_name pn_0) hisR ?_
  intro p e s m args below meth c s₁ Bd hml0 hP hK
  obtain ⟨rfl, hZ, hh, hC0, hSf⟩ := hP
  have hx := Bd.exec
  have hby := Bd.bytes
  have hml : c.maxLocals = 2 := hml0
  have hown := findClass_of_methodNamed Bd.named
  have X0 : Stand p l e (Rm 2 4 8 29) s m _ below meth c _ [] 0 0 := Stand.of_body Bd
  have e0 : s₁.heap = h0 := by rw [← hh, Bd.state]; rfl
  have R0 := CHr.refl hC0
  have N0 := Fr.nil n0
  have K0 := Keep.refl h0 [a1]
  have pre0 := cast0 (p := p) (e := e) (below := below) (T := s₁) (ef_2_0 m a1 a2)
  obtain ⟨cl1, Ar1, q1, S1, M1, H1, G1⟩ := id V_c
  have pre3 : PP p e below (s₁.setTop (mkF m 6 #[vR a1, vR a2] [.null, iI 0, iI 0, iR a2, iR a1])) (s₁.setTop (entryFrame m #[(.ref a1), (.ref a2)] 2)) := by
    intro t kt
    refine pre0 t ?_
    refine XS.aloadN X0.here hx rfl (hb hby d2_0) rfl rfl ?_
    refine XS.aloadN X0.here hx rfl (hb hby d2_1) rfl rfl ?_
    refine XS.iconst X0.here hx rfl (hb hby d2_2) ?_
    refine XS.aloadN X0.here hx rfl (hb hby d2_3) rfl rfl ?_
    refine X0.arraylength hx (by rw [e0]; exact Ar1.1) (State.isArrayOf_alike hZ.alike Ar1.2.1) (g := (mkF m 4 #[vR a1, vR a2] [iR a2, iI 0, iR a2, iR a1])) rfl rfl (hb hby d2_4) _ ?_
    rw [len_of S1 M1]
    refine XS.aconstNull X0.here hx rfl (hb hby d2_5) ?_
    exact kt
  obtain ⟨_, _, ⟨T2, L2, k2, n2⟩, -, X2, hS2q, gr2, ⟨Lc2, hQ2, l2, y2, z2, C2⟩, st2⟩ := specialBackS (s := s.setVm s.vm) X0 hx (y := mn_8) rfl hown (mw hZ hw 11 rfl) (mw hZ hw 12 rfl) (mw hZ hw 14 rfl) (by decide) (own_backS (s := s) (vm0 := s.vm) (W := 0) (rm3_0 l Z a0 hw [] a1 a2 cs h0 n0 (Nat.le_trans Z0 K0.1) O0 E_a1 g_a1 F_v F_c S_CS h_cs) hZ (ww hw 14 rfl) (ww hw 7 rfl) (by decide) (by decide) (own_EW hw) R0.1 (allS ⟨E_a1.lt, (hSf _ (List.mem_of_getElem? (i := 0) rfl))⟩ all0)) (g := (mkF m 6 #[vR a1, vR a2] [.null, iI 0, iI 0, iR a2, iR a1])) rfl (by rw [hml]; rfl) (Steps.refl _) (a := a1) (argsL := [(.ref a2), (.int (0 : Int32)), (.int (0 : Int32)), .null]) (rest := []) (lenOf pd_7 rfl) rfl (wz rfl) (hb hby d2_6) (fun _ _ => ⟨rfl, e0, (by decide : 0 + 4 ≤ _), (by decide : 0 + 8 ≤ _)⟩)
  dsimp only [Pt.U, Pt.locs, Pt.cells, Pt.slots] at X2 hS2q gr2 l2 y2 z2 C2 st2 hQ2
  subst l2 y2 z2
  have hS2 := State.Since.trans ((State.WarmedH.refl s).since 0) hS2q (Nat.zero_le _)
  have hZ : Z.Warmed39 (s.setVm T2.vm).vm := State.Warmed39.trans (t := s.setVm s.vm) hZ hS2q.1
  have hown : (s.setVm T2.vm).vm.findClass "java/lang/String" = some m.cls := by rw [show (s.setVm T2.vm).vm = T2.vm from rfl, hS2q.1.alike.findClass]; exact hown
  have R2 := R0.trans C2
  obtain ⟨d2, kd2, rfl, N2q, K2q, E2q, C2q, F2q, V2q⟩ := hQ2
  have N2 := Fr.app N0 N2q
  have K2 : Keep h0 T2.heap [a1] := Keep.trans K0 K2q (allS (Or.inl (List.mem_of_getElem? (i := 0) rfl)) all0)
  have hfin := R2.trans (CHv.at (s := s) (vm0 := T2.vm) X2 hZ (own_EW hw) R2.1)
  obtain ⟨fs, hr, hrun, hended, hEnd⟩ := X2.leaveW (s := s) hS2 (Nat.le_refl T2.heap.size) (v := none) (fun _ => rfl)
  refine ⟨_, _, pre3 _ ?_, hrun, hended, _, _, rfl, ?_, (by rw [hh]; show CHr Z consts_1 s.vm h0 T2.vm T2.heap; exact hfin), ⟨hEnd.1, hEnd.2.1, hEnd.2.2.1, hEnd.2.2.2.mono (by decide) (by decide)⟩⟩
  · refine st2.trans ?_
    show Steps _ _ _ (T2.setTop (mkF m 9 #[vR a1, vR a2] [])) _
    exact X2.returnOut hx Bd.returns (hb hby d2_9) hr
  · show Q2_0 Z a1 a2 kc cs h0 n0 _ T2.heap _
    exact ⟨_, _, rfl, N2, K2, E2q, C2q, F2q, V2q⟩
theorem d10_0 : dk c10 0 (.getstatic 38) 3 := by decide +kernel
theorem d10_3 : dk c10 3 (.ifCond .eq 10) 3 := by decide +kernel
theorem d10_6 : dk c10 6 (.aload_n 0) 1 := by decide +kernel
theorem d10_7 : dk c10 7 (.getfield 15) 3 := by decide +kernel
theorem d10_10 : dk c10 10 (.goto 4) 3 := by decide +kernel
theorem d10_14 : dk c10 14 .ireturn 1 := by decide +kernel
theorem ef_10 (m : MethodId) (x0 : Addr) : entryFrame m #[(.ref x0)] 1 = mkF m 0 #[.val (.ref x0)] [] := by first | (simp [entryFrame, mkF, argsToLocals, Value.category]; done) | rfl
theorem rm10 (l : Launch) (Z : State) (a0 : Array Value) (hw : HW a0 Z) (ws : List Jvm.Cond) (a1 : Addr) (cs : Int32) (h0 : Heap) (n0 : Nat) (O0 : Old Z n0 h0) (Fc_a1 : FC Z h0 a1) (S_CS : SC Z cs) (h_cs : ¬ cs = (0 : Int32)) :
    MFn l mn_10 jdk_42_method_152_code 1 (some .byte) ws (Rm 0 0 0 0) #[(.ref a1)] Z h0 (QP h0 (some (.int (0 : Int32)))) := by
  refine MetFree.of_bodySF (plainFor_of_name pn_0) hisR ?_
  intro p e s m args below meth c s₁ Bd hml0 hP hK
  obtain ⟨rfl, hZ, hh⟩ := hP
  have hx := Bd.exec
  have hby := Bd.bytes
  have hml : c.maxLocals = 1 := hml0
  have hown := findClass_of_methodNamed Bd.named
  have X0 : Stand p l e (Rm 0 0 0 0) s m _ below meth c _ [] 0 0 := Stand.of_body Bd
  have e0 : s₁.heap = h0 := by rw [← hh, Bd.state]; rfl
  have pre0 := cast0 (p := p) (e := e) (below := below) (T := s₁) (ef_10 m a1)
  obtain ⟨T1, X1, e1, st1⟩ := getS2 X0 hx hZ hown (host := "") (Or.inl (ww hw 18 rfl)) Via.refl e0 (S_CS.ext O0.2) (g := (mkF m 0 #[vR a1] [])) rfl (hb hby d10_0)
  obtain ⟨T2, X2, e2, st2⟩ := gF X1 hx hZ hown (ww hw 30 rfl) e1 Fc_a1 (g := (mkF m 7 #[vR a1] [iR a1])) rfl rfl (hb hby d10_7)
  obtain ⟨fs, hr, hrun, hended, hW, hsame⟩ := X2.leave (v := some (.int (0 : Int32))) (fun h => by rw [Bd.returns] at h; cases h)
  refine ⟨_, _, pre0 _ ?_, hrun, hended, _, _, rfl, ?_, ⟨_, rfl⟩, hW, hsame.mono (by decide) (by decide)⟩
  · refine st1 _ ?_
    refine XS.ifNo X1.here hx rfl (hb hby d10_3) rfl ((if0 _ _).trans (feq h_cs).1) ?_
    refine XS.aloadN X1.here hx rfl (hb hby d10_6) rfl rfl ?_
    refine st2 _ ?_
    refine XS.goto X2.here hx rfl (pc0 := 10) (pc' := 14) rfl (hb hby d10_10) (by decide) (by decide) ?_
    show Steps _ _ _ (T2.setTop (mkF m 14 #[vR a1] [iI 0])) _
    exact retN X2 hx (t := .byte) Bd.returns (by simp) (hb hby d10_14) hr
  · show QP _ _ _ T2.heap _
    rw [e2]
    exact ⟨rfl, rfl, rfl⟩
theorem d9_0 : dk c9 0 (.aload_n 0) 1 := by decide +kernel
theorem d9_1 : dk c9 1 (.getfield 9) 3 := by decide +kernel
theorem d9_4 : dk c9 4 .arraylength 1 := by decide +kernel
theorem d9_5 : dk c9 5 (.aload_n 0) 1 := by decide +kernel
theorem d9_6 : dk c9 6 (.invokevirtual 335) 3 := by decide +kernel
theorem d9_9 : dk c9 9 .ishr 1 := by decide +kernel
theorem d9_10 : dk c9 10 .ireturn 1 := by decide +kernel
theorem ef_9 (m : MethodId) (x0 : Addr) : entryFrame m #[(.ref x0)] 1 = mkF m 0 #[.val (.ref x0)] [] := by first | (simp [entryFrame, mkF, argsToLocals, Value.category]; done) | rfl
theorem rm9 (l : Launch) (Z : State) (a0 : Array Value) (hw : HW a0 Z) (ws : List Jvm.Cond) (a1 : Addr) (d : Addr) (kd : ClassId) (z : Int32) (B : List Int32) (cs : Int32) (h0 : Heap) (n0 : Nat) (O0 : Old Z n0 h0) (E_a1 : ES Z h0 a1) (Fc_a1 : FC Z h0 a1) (Fv_a1 : FV Z h0 a1 d) (V_d : AB Z h0 d kd z B) (hz : ¬ z < 0) (hB : z.toNatClampNeg = B.length) (S_CS : SC Z cs) (h_cs : ¬ cs = (0 : Int32)) :
    MFn l mn_11 jdk_42_method_54_code 1 (some .int) ws (Rm 1 0 0 13) #[(.ref a1)] Z h0 (QP h0 (some (.int z))) := by
  refine MetFree.of_bodySF (plainFor_of_name pn_0) hisR ?_
  intro p e s m args below meth c s₁ Bd hml0 hP hK
  obtain ⟨rfl, hZ, hh⟩ := hP
  have hx := Bd.exec
  have hby := Bd.bytes
  have hml : c.maxLocals = 1 := hml0
  have hown := findClass_of_methodNamed Bd.named
  have X0 : Stand p l e (Rm 1 0 0 13) s m _ below meth c _ [] 0 0 := Stand.of_body Bd
  have e0 : s₁.heap = h0 := by rw [← hh, Bd.state]; rfl
  have pre0 := cast0 (p := p) (e := e) (below := below) (T := s₁) (ef_9 m a1)
  obtain ⟨T1, X1, e1, st1⟩ := gF X0 hx hZ hown (ww hw 32 rfl) e0 Fv_a1 (g := (mkF m 1 #[vR a1] [iR a1])) rfl rfl (hb hby d9_1)
  obtain ⟨cl2, Ar2, q2, S2, M2, H2, G2⟩ := id V_d
  obtain ⟨cq3, kq3, q3a, q3b, q3c⟩ := isOf hZ e1 E_a1
  obtain ⟨_, _, ⟨T3, L3, k3, n3⟩, -, X3, ⟨Lc3, hQ3, l3, y3, z3⟩, st3⟩ := X1.virtualBack hx (y := mn_10) (z := mn_10) hown (mw hZ hw 46 rfl) (mw hZ hw 47 rfl) (notFace_of_selects (args := #[]) (mw hZ hw 49 rfl)) (mw hZ hw 49 rfl) (mw hZ hw 48 rfl) (by decide) (backOf (W := 1) (rm10 l Z a0 hw [] a1 cs h0 n0 O0 Fc_a1 S_CS h_cs) hZ (ww hw 50 rfl) (ww hw 7 rfl) (by decide) (by decide)) q3a q3c (g := (mkF m 6 #[vR a1] [iR a1, iI z])) rfl (by rw [hml]; rfl) (Steps.refl _) (argsL := []) (rest := [(.int z)]) (lenOf pd_8 rfl) rfl (wz rfl) (hb hby d9_6) (fun _ _ => ⟨rfl, e1, (by decide : 0 + 0 ≤ _), (by decide : 0 + 0 ≤ _)⟩)
  dsimp only [Pt.U, Pt.locs, Pt.cells, Pt.slots] at X3 l3 y3 z3 st3 hQ3
  subst l3 y3 z3
  obtain ⟨rfl, rfl, e3⟩ := hQ3
  try rw [List.append_nil] at X3
  obtain ⟨fs, hr, hrun, hended, hW, hsame⟩ := X3.leave (v := some (.int (z >>> ((0 : Int32) &&& 31)))) (fun h => by rw [Bd.returns] at h; cases h)
  refine ⟨_, _, pre0 _ ?_, hrun, hended, _, _, rfl, ?_, ⟨_, rfl⟩, hW, hsame.mono (by decide) (by decide)⟩
  · refine XS.aloadN X0.here hx rfl (hb hby d9_0) rfl rfl ?_
    refine st1 _ ?_
    refine X1.arraylength hx (by rw [e1]; exact Ar2.1) (State.isArrayOf_alike hZ.alike Ar2.2.1) (g := (mkF m 4 #[vR a1] [iR d])) rfl rfl (hb hby d9_4) _ ?_
    rw [len_of S2 M2]
    refine XS.aloadN X1.here hx rfl (hb hby d9_5) rfl rfl ?_
    refine st3.trans ?_
    refine XS.ishr X3.here hx rfl (hb hby d9_9) rfl ?_
    show Steps _ _ _ (T3.setTop (mkF m 10 #[vR a1] [iI (z >>> ((0 : Int32) &&& 31))])) _
    exact retI X3 hx Bd.returns (hb hby d9_10) hr
  · show QP _ _ _ T3.heap _
    rw [e3]
    exact ⟨by rw [own_shr0], rfl, rfl⟩
def own_eic (p1 : Int32) (p2 : Int32) : Int32 := (if p1 = p2 then (1 : Int32) else (if (p1 &&& (223 : Int32)) < (65 : Int32) then (0 : Int32) else (nar .boolean (if (90 : Int32) < (p1 &&& (223 : Int32)) then (if (p1 &&& (223 : Int32)) < (192 : Int32) then (0 : Int32) else (if (222 : Int32) < (p1 &&& (223 : Int32)) then (0 : Int32) else (if (p1 &&& (223 : Int32)) = (215 : Int32) then (0 : Int32) else (if (p1 &&& (223 : Int32)) = (p2 &&& (223 : Int32)) then (1 : Int32) else (0 : Int32))))) else (if (p1 &&& (223 : Int32)) = (p2 &&& (223 : Int32)) then (1 : Int32) else (0 : Int32))))))
theorem d43_0 : dk c43 0 (.iload_n 0) 1 := by decide +kernel
theorem d43_1 : dk c43 1 (.iload_n 1) 1 := by decide +kernel
theorem d43_2 : dk c43 2 (.if_icmp .ne 5) 3 := by decide +kernel
theorem d43_5 : dk c43 5 (.iconst 1) 1 := by decide +kernel
theorem d43_6 : dk c43 6 .ireturn 1 := by decide +kernel
theorem d43_7 : dk c43 7 (.iload_n 0) 1 := by decide +kernel
theorem d43_8 : dk c43 8 (.sipush 223) 3 := by decide +kernel
theorem d43_11 : dk c43 11 .iand 1 := by decide +kernel
theorem d43_12 : dk c43 12 (.istore_n 2) 1 := by decide +kernel
theorem d43_13 : dk c43 13 (.iload_n 2) 1 := by decide +kernel
theorem d43_14 : dk c43 14 (.bipush 65) 2 := by decide +kernel
theorem d43_16 : dk c43 16 (.if_icmp .ge 5) 3 := by decide +kernel
theorem d43_19 : dk c43 19 (.iconst 0) 1 := by decide +kernel
theorem d43_20 : dk c43 20 .ireturn 1 := by decide +kernel
theorem d43_21 : dk c43 21 (.iload_n 2) 1 := by decide +kernel
theorem d43_22 : dk c43 22 (.bipush 90) 2 := by decide +kernel
theorem d43_24 : dk c43 24 (.if_icmp .le 24) 3 := by decide +kernel
theorem d43_27 : dk c43 27 (.iload_n 2) 1 := by decide +kernel
theorem d43_28 : dk c43 28 (.sipush 192) 3 := by decide +kernel
theorem d43_31 : dk c43 31 (.if_icmp .lt 30) 3 := by decide +kernel
theorem d43_34 : dk c43 34 (.iload_n 2) 1 := by decide +kernel
theorem d43_35 : dk c43 35 (.sipush 222) 3 := by decide +kernel
theorem d43_38 : dk c43 38 (.if_icmp .gt 23) 3 := by decide +kernel
theorem d43_41 : dk c43 41 (.iload_n 2) 1 := by decide +kernel
theorem d43_42 : dk c43 42 (.sipush 215) 3 := by decide +kernel
theorem d43_45 : dk c43 45 (.if_icmp .eq 16) 3 := by decide +kernel
theorem d43_48 : dk c43 48 (.iload_n 2) 1 := by decide +kernel
theorem d43_49 : dk c43 49 (.iload_n 1) 1 := by decide +kernel
theorem d43_50 : dk c43 50 (.sipush 223) 3 := by decide +kernel
theorem d43_53 : dk c43 53 .iand 1 := by decide +kernel
theorem d43_54 : dk c43 54 (.if_icmp .ne 7) 3 := by decide +kernel
theorem d43_57 : dk c43 57 (.iconst 1) 1 := by decide +kernel
theorem d43_58 : dk c43 58 (.goto 4) 3 := by decide +kernel
theorem d43_61 : dk c43 61 (.iconst 0) 1 := by decide +kernel
theorem d43_62 : dk c43 62 .ireturn 1 := by decide +kernel
theorem pn_4 : plainName "java/lang/CharacterDataLatin1" = true := by first | (simp [plainName, overriddenIn]; done) | decide +kernel
theorem ef_43 (m : MethodId) (x0 : Int32) (x1 : Int32) : entryFrame m #[(.int x0), (.int x1)] 3 = mkF m 0 #[.val (.int x0), .val (.int x1), .unset] [] := by first | (simp [entryFrame, mkF, argsToLocals, Value.category]; done) | rfl
theorem rm43 (l : Launch) (Z : State) (a0 : Array Value) (hw : HW a0 Z) (ws : List Jvm.Cond) (p1 : Int32) (p2 : Int32) (h0 : Heap) :
    MFn l mn_12 jdk_116_method_22_code 3 (some .boolean) ws (Rm 0 0 0 0) #[(.int p1), (.int p2)] Z h0 (QP h0 (some (.int (own_eic p1 p2)))) := by
  refine MetFree.of_bodySF (plainFor_of_name pn_4) hisR ?_
  intro p e s m args below meth c s₁ Bd hml0 hP hK
  obtain ⟨rfl, hZ, hh⟩ := hP
  have hx := Bd.exec
  have hby := Bd.bytes
  have hml : c.maxLocals = 3 := hml0
  have hown := findClass_of_methodNamed Bd.named
  have X0 : Stand p l e (Rm 0 0 0 0) s m _ below meth c _ [] 0 0 := Stand.of_body Bd
  have e0 : s₁.heap = h0 := by rw [← hh, Bd.state]; rfl
  have pre0 := cast0 (p := p) (e := e) (below := below) (T := s₁) (ef_43 m p1 p2)
  have pre2 : PP p e below (s₁.setTop (mkF m 2 #[vI p1, vI p2, .unset] [iI p2, iI p1])) (s₁.setTop (entryFrame m #[(.int p1), (.int p2)] 3)) := by
    intro t kt
    refine pre0 t ?_
    refine XS.iloadN X0.here hx rfl (hb hby d43_0) rfl ?_
    refine XS.iloadN X0.here hx rfl (hb hby d43_1) rfl ?_
    exact kt
  by_cases hc1 : p1 = p2
  · obtain ⟨fs, hr, hrun, hended, hW, hsame⟩ := X0.leave (v := some (.int (1 : Int32))) (fun h => by rw [Bd.returns] at h; cases h)
    refine ⟨_, _, pre2 _ ?_, hrun, hended, _, _, rfl, ?_, ⟨_, rfl⟩, hW, hsame.mono (by decide) (by decide)⟩
    · refine XS.icmpNo X0.here hx rfl (hb hby d43_2) rfl (teq hc1).2 ?_
      refine XS.iconst X0.here hx rfl (hb hby d43_5) ?_
      show Steps _ _ _ (s₁.setTop (mkF m 6 #[vI p1, vI p2, .unset] [iI 1])) _
      exact retN X0 hx (t := .boolean) Bd.returns (by simp) (hb hby d43_6) hr
    · show QP _ _ _ s₁.heap _
      rw [e0]
      exact ⟨by first | rfl | (simp only [own_eic, if_pos hc1]; done) | (simp only [own_eic, if_pos hc1]; rfl) | (simp only [own_eic, if_pos hc1, nar] ; first | rfl | (simp; done) | decide), rfl, rfl⟩
  · have pre4 : PP p e below (s₁.setTop (mkF m 16 #[vI p1, vI p2, vI (p1 &&& (223 : Int32))] [iI 65, iI (p1 &&& (223 : Int32))])) (s₁.setTop (entryFrame m #[(.int p1), (.int p2)] 3)) := by
      intro t kt
      refine pre2 t ?_
      refine XS.icmpYes X0.here hx rfl (pc0 := 2) (pc' := 7) rfl (hb hby d43_2) rfl (feq hc1).2 (by decide) (by decide) ?_
      refine XS.iloadN X0.here hx rfl (hb hby d43_7) rfl ?_
      refine XS.sipush X0.here hx rfl (hb hby d43_8) ?_
      refine XS.iand X0.here hx rfl (hb hby d43_11) rfl ?_
      refine XS.istoreN X0.here hx rfl (hb hby d43_12) rfl (l' := #[vI p1, vI p2, vI (p1 &&& (223 : Int32))]) rfl ?_
      refine XS.iloadN X0.here hx rfl (hb hby d43_13) rfl ?_
      show SA s₁ m 14 #[vI p1, vI p2, vI (p1 &&& (223 : Int32))] [iI (p1 &&& (223 : Int32))]
      refine XS.bipush X0.here hx rfl (hb hby d43_14) ?_
      exact kt
    by_cases hc3 : (p1 &&& (223 : Int32)) < (65 : Int32)
    · obtain ⟨fs, hr, hrun, hended, hW, hsame⟩ := X0.leave (v := some (.int (0 : Int32))) (fun h => by rw [Bd.returns] at h; cases h)
      refine ⟨_, _, pre4 _ ?_, hrun, hended, _, _, rfl, ?_, ⟨_, rfl⟩, hW, hsame.mono (by decide) (by decide)⟩
      · refine XS.icmpNo X0.here hx rfl (hb hby d43_16) rfl (tlt hc3).2.1 ?_
        refine XS.iconst X0.here hx rfl (hb hby d43_19) ?_
        show Steps _ _ _ (s₁.setTop (mkF m 20 #[vI p1, vI p2, vI (p1 &&& (223 : Int32))] [iI 0])) _
        exact retN X0 hx (t := .boolean) Bd.returns (by simp) (hb hby d43_20) hr
      · show QP _ _ _ s₁.heap _
        rw [e0]
        exact ⟨by first | rfl | (simp only [own_eic, if_neg hc1, if_pos hc3]; done) | (simp only [own_eic, if_neg hc1, if_pos hc3]; rfl) | (simp only [own_eic, if_neg hc1, if_pos hc3, nar] ; first | rfl | (simp; done) | decide), rfl, rfl⟩
    · obtain ⟨v5, hv5⟩ : ∃ z : Int32, z = (if (90 : Int32) < (p1 &&& (223 : Int32)) then (if (p1 &&& (223 : Int32)) < (192 : Int32) then (0 : Int32) else (if (222 : Int32) < (p1 &&& (223 : Int32)) then (0 : Int32) else (if (p1 &&& (223 : Int32)) = (215 : Int32) then (0 : Int32) else (if (p1 &&& (223 : Int32)) = (p2 &&& (223 : Int32)) then (1 : Int32) else (0 : Int32))))) else (if (p1 &&& (223 : Int32)) = (p2 &&& (223 : Int32)) then (1 : Int32) else (0 : Int32))) := ⟨_, rfl⟩
      obtain ⟨T6, X6, e6, st6⟩ : own_Mid X0 h0 (mkF m 24 #[vI p1, vI p2, vI (p1 &&& (223 : Int32))] [iI 90, iI (p1 &&& (223 : Int32))]) (mkF m 62 #[vI p1, vI p2, vI (p1 &&& (223 : Int32))] [iI v5]) := by
        by_cases hc7 : (90 : Int32) < (p1 &&& (223 : Int32))
        · have pre9 : PP p e below (s₁.setTop (mkF m 31 #[vI p1, vI p2, vI (p1 &&& (223 : Int32))] [iI 192, iI (p1 &&& (223 : Int32))])) (s₁.setTop (mkF m 24 #[vI p1, vI p2, vI (p1 &&& (223 : Int32))] [iI 90, iI (p1 &&& (223 : Int32))])) := by
            intro t kt
            refine XS.icmpNo X0.here hx rfl (hb hby d43_24) rfl (tlt hc7).2.2.2 ?_
            refine XS.iloadN X0.here hx rfl (hb hby d43_27) rfl ?_
            refine XS.sipush X0.here hx rfl (hb hby d43_28) ?_
            exact kt
          by_cases hc8 : (p1 &&& (223 : Int32)) < (192 : Int32)
          · refine ⟨s₁, X0, e0, fun t kt => ?_⟩
            subst hv5
            simp only [if_pos hc7, if_pos hc8] at kt
            refine pre9 t ?_
            refine XS.icmpYes X0.here hx rfl (pc0 := 31) (pc' := 61) rfl (hb hby d43_31) rfl (tlt hc8).1 (by decide) (by decide) ?_
            refine XS.iconst X0.here hx rfl (hb hby d43_61) ?_
            exact kt
          · have pre11 : PP p e below (s₁.setTop (mkF m 38 #[vI p1, vI p2, vI (p1 &&& (223 : Int32))] [iI 222, iI (p1 &&& (223 : Int32))])) (s₁.setTop (mkF m 24 #[vI p1, vI p2, vI (p1 &&& (223 : Int32))] [iI 90, iI (p1 &&& (223 : Int32))])) := by
              intro t kt
              refine pre9 t ?_
              refine XS.icmpNo X0.here hx rfl (hb hby d43_31) rfl (flt hc8).1 ?_
              refine XS.iloadN X0.here hx rfl (hb hby d43_34) rfl ?_
              refine XS.sipush X0.here hx rfl (hb hby d43_35) ?_
              exact kt
            by_cases hc10 : (222 : Int32) < (p1 &&& (223 : Int32))
            · refine ⟨s₁, X0, e0, fun t kt => ?_⟩
              subst hv5
              simp only [if_pos hc7, if_neg hc8, if_pos hc10] at kt
              refine pre11 t ?_
              refine XS.icmpYes X0.here hx rfl (pc0 := 38) (pc' := 61) rfl (hb hby d43_38) rfl (tlt hc10).2.2.1 (by decide) (by decide) ?_
              refine XS.iconst X0.here hx rfl (hb hby d43_61) ?_
              exact kt
            · have pre13 : PP p e below (s₁.setTop (mkF m 45 #[vI p1, vI p2, vI (p1 &&& (223 : Int32))] [iI 215, iI (p1 &&& (223 : Int32))])) (s₁.setTop (mkF m 24 #[vI p1, vI p2, vI (p1 &&& (223 : Int32))] [iI 90, iI (p1 &&& (223 : Int32))])) := by
                intro t kt
                refine pre11 t ?_
                refine XS.icmpNo X0.here hx rfl (hb hby d43_38) rfl (flt hc10).2.2.1 ?_
                refine XS.iloadN X0.here hx rfl (hb hby d43_41) rfl ?_
                refine XS.sipush X0.here hx rfl (hb hby d43_42) ?_
                exact kt
              by_cases hc12 : (p1 &&& (223 : Int32)) = (215 : Int32)
              · refine ⟨s₁, X0, e0, fun t kt => ?_⟩
                subst hv5
                simp only [if_pos hc7, if_neg hc8, if_neg hc10, if_pos hc12] at kt
                refine pre13 t ?_
                refine XS.icmpYes X0.here hx rfl (pc0 := 45) (pc' := 61) rfl (hb hby d43_45) rfl (teq hc12).1 (by decide) (by decide) ?_
                refine XS.iconst X0.here hx rfl (hb hby d43_61) ?_
                exact kt
              · have pre15 : PP p e below (s₁.setTop (mkF m 54 #[vI p1, vI p2, vI (p1 &&& (223 : Int32))] [iI (p2 &&& (223 : Int32)), iI (p1 &&& (223 : Int32))])) (s₁.setTop (mkF m 24 #[vI p1, vI p2, vI (p1 &&& (223 : Int32))] [iI 90, iI (p1 &&& (223 : Int32))])) := by
                  intro t kt
                  refine pre13 t ?_
                  refine XS.icmpNo X0.here hx rfl (hb hby d43_45) rfl (feq hc12).1 ?_
                  refine XS.iloadN X0.here hx rfl (hb hby d43_48) rfl ?_
                  refine XS.iloadN X0.here hx rfl (hb hby d43_49) rfl ?_
                  refine XS.sipush X0.here hx rfl (hb hby d43_50) ?_
                  refine XS.iand X0.here hx rfl (hb hby d43_53) rfl ?_
                  exact kt
                by_cases hc14 : (p1 &&& (223 : Int32)) = (p2 &&& (223 : Int32))
                · refine ⟨s₁, X0, e0, fun t kt => ?_⟩
                  subst hv5
                  simp only [if_pos hc7, if_neg hc8, if_neg hc10, if_neg hc12, if_pos hc14] at kt
                  refine pre15 t ?_
                  refine XS.icmpNo X0.here hx rfl (hb hby d43_54) rfl (teq hc14).2 ?_
                  refine XS.iconst X0.here hx rfl (hb hby d43_57) ?_
                  refine XS.goto X0.here hx rfl (pc0 := 58) (pc' := 62) rfl (hb hby d43_58) (by decide) (by decide) ?_
                  exact kt
                · refine ⟨s₁, X0, e0, fun t kt => ?_⟩
                  subst hv5
                  simp only [if_pos hc7, if_neg hc8, if_neg hc10, if_neg hc12, if_neg hc14] at kt
                  refine pre15 t ?_
                  refine XS.icmpYes X0.here hx rfl (pc0 := 54) (pc' := 61) rfl (hb hby d43_54) rfl (feq hc14).2 (by decide) (by decide) ?_
                  refine XS.iconst X0.here hx rfl (hb hby d43_61) ?_
                  exact kt
        · have pre17 : PP p e below (s₁.setTop (mkF m 54 #[vI p1, vI p2, vI (p1 &&& (223 : Int32))] [iI (p2 &&& (223 : Int32)), iI (p1 &&& (223 : Int32))])) (s₁.setTop (mkF m 24 #[vI p1, vI p2, vI (p1 &&& (223 : Int32))] [iI 90, iI (p1 &&& (223 : Int32))])) := by
            intro t kt
            refine XS.icmpYes X0.here hx rfl (pc0 := 24) (pc' := 48) rfl (hb hby d43_24) rfl (flt hc7).2.2.2 (by decide) (by decide) ?_
            refine XS.iloadN X0.here hx rfl (hb hby d43_48) rfl ?_
            refine XS.iloadN X0.here hx rfl (hb hby d43_49) rfl ?_
            refine XS.sipush X0.here hx rfl (hb hby d43_50) ?_
            refine XS.iand X0.here hx rfl (hb hby d43_53) rfl ?_
            exact kt
          by_cases hc16 : (p1 &&& (223 : Int32)) = (p2 &&& (223 : Int32))
          · refine ⟨s₁, X0, e0, fun t kt => ?_⟩
            subst hv5
            simp only [if_neg hc7, if_pos hc16] at kt
            refine pre17 t ?_
            refine XS.icmpNo X0.here hx rfl (hb hby d43_54) rfl (teq hc16).2 ?_
            refine XS.iconst X0.here hx rfl (hb hby d43_57) ?_
            refine XS.goto X0.here hx rfl (pc0 := 58) (pc' := 62) rfl (hb hby d43_58) (by decide) (by decide) ?_
            exact kt
          · refine ⟨s₁, X0, e0, fun t kt => ?_⟩
            subst hv5
            simp only [if_neg hc7, if_neg hc16] at kt
            refine pre17 t ?_
            refine XS.icmpYes X0.here hx rfl (pc0 := 54) (pc' := 61) rfl (hb hby d43_54) rfl (feq hc16).2 (by decide) (by decide) ?_
            refine XS.iconst X0.here hx rfl (hb hby d43_61) ?_
            exact kt
      obtain ⟨fs, hr, hrun, hended, hW, hsame⟩ := X6.leave (v := some (.int (nar .boolean v5))) (fun h => by rw [Bd.returns] at h; cases h)
      refine ⟨_, _, pre4 _ ?_, hrun, hended, _, _, rfl, ?_, ⟨_, rfl⟩, hW, hsame.mono (by decide) (by decide)⟩
      · refine XS.icmpYes X0.here hx rfl (pc0 := 16) (pc' := 21) rfl (hb hby d43_16) rfl (flt hc3).2.1 (by decide) (by decide) ?_
        refine XS.iloadN X0.here hx rfl (hb hby d43_21) rfl ?_
        refine XS.bipush X0.here hx rfl (hb hby d43_22) ?_
        refine st6 _ ?_
        show Steps _ _ _ (T6.setTop (mkF m 62 #[vI p1, vI p2, vI (p1 &&& (223 : Int32))] [iI v5])) _
        exact retN X6 hx (t := .boolean) Bd.returns (by simp) (hb hby d43_62) hr
      · show QP _ _ _ T6.heap _
        rw [e6]
        exact ⟨by subst hv5; first | rfl | (simp only [own_eic, if_neg hc1, if_neg hc3]; done) | (simp only [own_eic, if_neg hc1, if_neg hc3]; rfl) | (simp only [own_eic, if_neg hc1, if_neg hc3, nar] ; first | rfl | (simp; done) | decide), rfl, rfl⟩
theorem own_lgt {a b : Int32} (h : a.toInt < b.toInt) : (a.toInt64 - b.toInt64) < (0 : Int64) := by
  rw [Int64.lt_iff_toInt_lt]
  have q := c_lsub a.toInt64 b.toInt64
  rw [c_i2l, c_i2l] at q
  have r1 := rng32 a
  have r2 := rng32 b
  have r3 := rng64 (a.toInt64 - b.toInt64)
  have e : (0 : Int64).toInt = 0 := rfl
  omega
theorem own_lge {a b : Int32} (h : b.toInt ≤ a.toInt) : ¬ (a.toInt64 - b.toInt64) < (0 : Int64) := by
  rw [Int64.lt_iff_toInt_lt]
  have q := c_lsub a.toInt64 b.toInt64
  rw [c_i2l, c_i2l] at q
  have r1 := rng32 a
  have r2 := rng32 b
  have r3 := rng64 (a.toInt64 - b.toInt64)
  have e : (0 : Int64).toInt = 0 := rfl
  omega
def own_rc0 (A : List Int32) : Int32 := (1 : Int32)
theorem d12_0 : dk c12 0 (.iload_n 1) 1 := by decide +kernel
theorem d12_1 : dk c12 1 (.iload 4) 2 := by decide +kernel
theorem d12_3 : dk c12 3 .iadd 1 := by decide +kernel
theorem d12_4 : dk c12 4 (.istore 5) 2 := by decide +kernel
theorem d12_6 : dk c12 6 (.iload_n 1) 1 := by decide +kernel
theorem d12_7 : dk c12 7 (.iload 5) 2 := by decide +kernel
theorem d12_9 : dk c12 9 (.if_icmp .ge 34) 3 := by decide +kernel
theorem d12_43 : dk c12 43 (.iconst 1) 1 := by decide +kernel
theorem d12_44 : dk c12 44 .ireturn 1 := by decide +kernel
theorem ef_12_0 (m : MethodId) (x0 : Addr) (x2 : Addr) : entryFrame m #[(.ref x0), (.int (0 : Int32)), (.ref x2), (.int (0 : Int32)), (.int (0 : Int32))] 8 = mkF m 0 #[.val (.ref x0), .val (.int (0 : Int32)), .val (.ref x2), .val (.int (0 : Int32)), .val (.int (0 : Int32)), .unset, .unset, .unset] [] := by first | (simp [entryFrame, mkF, argsToLocals, Value.category]; done) | rfl
theorem rm12_0 (l : Launch) (Z : State) (a0 : Array Value) (hw : HW a0 Z) (ws : List Jvm.Cond) (a1 : Addr) (a3 : Addr) (ka ks : ClassId) (za : Int32) (A : List Int32) (h0 : Heap) (V_a : AB Z h0 a1 ka za A) (V_s : Arv Z h0 a3 ks .byte (0 : Int32) [] (.int (0 : Int32))) (hge : 0 ≤ za.toInt) :
    MFn l mn_13 jdk_43_method_30_code 8 (some .boolean) ws (Rm 1 0 0 14) #[(.ref a1), (.int (0 : Int32)), (.ref a3), (.int (0 : Int32)), (.int (0 : Int32))] Z h0 (QP h0 (some (.int (own_rc0 A)))) := by
  refine MetFree.of_bodySF (plainFor_of_name pn_2) hisR ?_
  intro p e s m args below meth c s₁ Bd hml0 hP hK
  obtain ⟨rfl, hZ, hh⟩ := hP
  have hx := Bd.exec
  have hby := Bd.bytes
  have hml : c.maxLocals = 8 := hml0
  have hown := findClass_of_methodNamed Bd.named
  have X0 : Stand p l e (Rm 1 0 0 14) s m _ below meth c _ [] 0 0 := Stand.of_body Bd
  have e0 : s₁.heap = h0 := by rw [← hh, Bd.state]; rfl
  have pre0 := cast0 (p := p) (e := e) (below := below) (T := s₁) (ef_12_0 m a1 a3)
  obtain ⟨fs, hr, hrun, hended, hW, hsame⟩ := X0.leave (v := some (.int (1 : Int32))) (fun h => by rw [Bd.returns] at h; cases h)
  refine ⟨_, _, pre0 _ ?_, hrun, hended, _, _, rfl, ?_, ⟨_, rfl⟩, hW, hsame.mono (by decide) (by decide)⟩
  · refine XS.iloadN X0.here hx rfl (hb hby d12_0) rfl ?_
    refine XS.iload X0.here hx rfl (hb hby d12_1) rfl ?_
    refine XS.iadd X0.here hx rfl (hb hby d12_3) rfl ?_
    show SA s₁ m 4 #[vR a1, vI 0, vR a3, vI 0, vI 0, .unset, .unset, .unset] [iI ((0 : Int32) + (0 : Int32))]
    rw [(by decide : ((0 : Int32) + (0 : Int32)) = (0 : Int32))]
    refine XS.istore X0.here hx rfl (hb hby d12_4) rfl (l' := #[vR a1, vI 0, vR a3, vI 0, vI 0, vI 0, .unset, .unset]) rfl ?_
    refine XS.iloadN X0.here hx rfl (hb hby d12_6) rfl ?_
    refine XS.iload X0.here hx rfl (hb hby d12_7) rfl ?_
    refine XS.icmpYes X0.here hx rfl (pc0 := 9) (pc' := 43) rfl (hb hby d12_9) rfl (flt (by decide : ¬ ((0 : Int32) < (0 : Int32)))).2.1 (by decide) (by decide) ?_
    refine XS.iconst X0.here hx rfl (hb hby d12_43) ?_
    show Steps _ _ _ (s₁.setTop (mkF m 44 #[vR a1, vI 0, vR a3, vI 0, vI 0, vI 0, .unset, .unset] [iI 1])) _
    exact retN X0 hx (t := .boolean) Bd.returns (by simp) (hb hby d12_44) hr
  · show QP _ _ _ s₁.heap _
    rw [e0]
    exact ⟨by first | rfl | (simp only [own_rc0]; done) | (simp only [own_rc0]; rfl) | (simp only [own_rc0, nar] ; first | rfl | (simp; done) | decide), rfl, rfl⟩
def own_rc1 (A : List Int32) (s0_ : Int32) : Int32 := (if (own_eic (A.getD 0 0) s0_) = (0 : Int32) then (0 : Int32) else (1 : Int32))
theorem d12_12 : dk c12 12 (.aload_n 0) 1 := by decide +kernel
theorem d12_13 : dk c12 13 (.iload_n 1) 1 := by decide +kernel
theorem d12_14 : dk c12 14 (.iinc 1 1) 3 := by decide +kernel
theorem d12_17 : dk c12 17 .baload 1 := by decide +kernel
theorem d12_18 : dk c12 18 (.istore 6) 2 := by decide +kernel
theorem d12_20 : dk c12 20 (.aload_n 2) 1 := by decide +kernel
theorem d12_21 : dk c12 21 (.iload_n 3) 1 := by decide +kernel
theorem d12_22 : dk c12 22 (.iinc 3 1) 3 := by decide +kernel
theorem d12_25 : dk c12 25 .baload 1 := by decide +kernel
theorem d12_26 : dk c12 26 (.istore 7) 2 := by decide +kernel
theorem d12_28 : dk c12 28 (.iload 6) 2 := by decide +kernel
theorem d12_30 : dk c12 30 (.iload 7) 2 := by decide +kernel
theorem d12_32 : dk c12 32 (.invokestatic 153) 3 := by decide +kernel
theorem d12_35 : dk c12 35 (.ifCond .eq 6) 3 := by decide +kernel
theorem d12_38 : dk c12 38 (.goto (-32)) 3 := by decide +kernel
theorem d12_41 : dk c12 41 (.iconst 0) 1 := by decide +kernel
theorem d12_42 : dk c12 42 .ireturn 1 := by decide +kernel
theorem ef_12_1 (m : MethodId) (x0 : Addr) (x2 : Addr) : entryFrame m #[(.ref x0), (.int (0 : Int32)), (.ref x2), (.int (0 : Int32)), (.int (1 : Int32))] 8 = mkF m 0 #[.val (.ref x0), .val (.int (0 : Int32)), .val (.ref x2), .val (.int (0 : Int32)), .val (.int (1 : Int32)), .unset, .unset, .unset] [] := by first | (simp [entryFrame, mkF, argsToLocals, Value.category]; done) | rfl
theorem rm12_1 (l : Launch) (Z : State) (a0 : Array Value) (hw : HW a0 Z) (ws : List Jvm.Cond) (a1 : Addr) (a3 : Addr) (ka ks : ClassId) (za : Int32) (A : List Int32) (s0_ : Int32) (h0 : Heap) (V_a : AB Z h0 a1 ka za A) (V_s : AB Z h0 a3 ks (1 : Int32) [s0_]) (hge : 1 ≤ za.toInt) :
    MFn l mn_13 jdk_43_method_30_code 8 (some .boolean) ws (Rm 1 0 0 14) #[(.ref a1), (.int (0 : Int32)), (.ref a3), (.int (0 : Int32)), (.int (1 : Int32))] Z h0 (QP h0 (some (.int (own_rc1 A s0_)))) := by
  refine MetFree.of_bodySF (plainFor_of_name pn_2) hisR ?_
  intro p e s m args below meth c s₁ Bd hml0 hP hK
  obtain ⟨rfl, hZ, hh⟩ := hP
  have hx := Bd.exec
  have hby := Bd.bytes
  have hml : c.maxLocals = 8 := hml0
  have hown := findClass_of_methodNamed Bd.named
  have X0 : Stand p l e (Rm 1 0 0 14) s m _ below meth c _ [] 0 0 := Stand.of_body Bd
  have e0 : s₁.heap = h0 := by rw [← hh, Bd.state]; rfl
  have pre0 := cast0 (p := p) (e := e) (below := below) (T := s₁) (ef_12_1 m a1 a3)
  obtain ⟨cl1, Ar1, q1, S1, M1, H1, G1⟩ := id V_a
  have hin2 := inb_of (j := 0) S1 ⟨by decide, own_lt (by have e : (0 : Int32).toInt = 0 := rfl; omega)⟩
  have hat3 : cl1.slots[((0 : Int32)).toNatClampNeg]? = some (.int (A.getD 0 0)) := Has.at H1 hin2 (own_bsget A _)
  obtain ⟨cl4, Ar4, q4, S4, M4, H4, G4⟩ := id V_s
  have hin5 := inb_of (j := 0) S4 ⟨by decide, by decide⟩
  obtain ⟨_, _, ⟨T7, L7, k7, n7⟩, -, X7, ⟨Lc7, hQ7, l7, y7, z7⟩, st7⟩ := Jvm.LawKit.callS X0 hx (y := mn_12) hown (mw hZ hw 184 rfl) (mw hZ hw 185 rfl) (mw hZ hw 114 rfl) (mw hZ hw 186 rfl) (by decide) (backOf (W := 0) (rm43 l Z a0 hw [] (A.getD 0 0) s0_ h0 ) hZ (ww hw 186 rfl) (ww hw 114 rfl) (by decide) (by decide)) (g := (mkF m 32 #[vR a1, vI 1, vR a3, vI 1, vI 1, vI 1, vI (A.getD 0 0), vI s0_] [iI s0_, iI (A.getD 0 0)])) rfl (by rw [hml]; rfl) (argsL := [(.int (A.getD 0 0)), (.int s0_)]) (rest := []) (lenOf pd_9 rfl) rfl (wz rfl) (hb hby d12_32) (fun _ _ => ⟨rfl, e0, (by decide : 0 + 0 ≤ _), (by decide : 0 + 0 ≤ _)⟩)
  dsimp only [Pt.U, Pt.locs, Pt.cells, Pt.slots] at X7 l7 y7 z7 st7 hQ7
  subst l7 y7 z7
  obtain ⟨rfl, rfl, e7⟩ := hQ7
  try rw [List.append_nil] at X7
  have pre9 : PP p e below (T7.setTop (mkF m 35 #[vR a1, vI 1, vR a3, vI 1, vI 1, vI 1, vI (A.getD 0 0), vI s0_] [iI (own_eic (A.getD 0 0) s0_)])) (s₁.setTop (entryFrame m #[(.ref a1), (.int (0 : Int32)), (.ref a3), (.int (0 : Int32)), (.int (1 : Int32))] 8)) := by
    intro t kt
    refine pre0 t ?_
    refine XS.iloadN X0.here hx rfl (hb hby d12_0) rfl ?_
    refine XS.iload X0.here hx rfl (hb hby d12_1) rfl ?_
    refine XS.iadd X0.here hx rfl (hb hby d12_3) rfl ?_
    show SA s₁ m 4 #[vR a1, vI 0, vR a3, vI 0, vI 1, .unset, .unset, .unset] [iI ((0 : Int32) + (1 : Int32))]
    rw [(by decide : ((0 : Int32) + (1 : Int32)) = (1 : Int32))]
    refine XS.istore X0.here hx rfl (hb hby d12_4) rfl (l' := #[vR a1, vI 0, vR a3, vI 0, vI 1, vI 1, .unset, .unset]) rfl ?_
    refine XS.iloadN X0.here hx rfl (hb hby d12_6) rfl ?_
    refine XS.iload X0.here hx rfl (hb hby d12_7) rfl ?_
    refine XS.icmpNo X0.here hx rfl (hb hby d12_9) rfl (tlt (by decide : (0 : Int32) < (1 : Int32))).2.1 ?_
    refine XS.aloadN X0.here hx rfl (hb hby d12_12) rfl rfl ?_
    refine XS.iloadN X0.here hx rfl (hb hby d12_13) rfl ?_
    refine XS.iinc X0.here hx rfl (hb hby d12_14) rfl (l' := #[vR a1, vI ((0 : Int32) + (1 : Int32)), vR a3, vI 0, vI 1, vI 1, .unset, .unset]) rfl ?_
    rw [(by decide : ((0 : Int32) + (1 : Int32)) = (1 : Int32))]
    refine X0.baloadBytes hx (j := 0) (v := (.int (A.getD 0 0))) (by rw [e0]; exact Ar1.1) (State.isArrayOf_alike hZ.alike Ar1.2.1) Ar1.2.2 hin2 hat3 (g := (mkF m 17 #[vR a1, vI 1, vR a3, vI 0, vI 1, vI 1, .unset, .unset] [iI 0, iR a1])) rfl rfl (hb hby d12_17) _ ?_
    refine XS.istore X0.here hx rfl (hb hby d12_18) rfl (l' := #[vR a1, vI 1, vR a3, vI 0, vI 1, vI 1, vI (A.getD 0 0), .unset]) rfl ?_
    refine XS.aloadN X0.here hx rfl (hb hby d12_20) rfl rfl ?_
    refine XS.iloadN X0.here hx rfl (hb hby d12_21) rfl ?_
    refine XS.iinc X0.here hx rfl (hb hby d12_22) rfl (l' := #[vR a1, vI 1, vR a3, vI ((0 : Int32) + (1 : Int32)), vI 1, vI 1, vI (A.getD 0 0), .unset]) rfl ?_
    rw [(by decide : ((0 : Int32) + (1 : Int32)) = (1 : Int32))]
    refine X0.baloadBytes hx (j := 0) (v := (.int s0_)) (by rw [e0]; exact Ar4.1) (State.isArrayOf_alike hZ.alike Ar4.2.1) Ar4.2.2 hin5 (Has.at H4 hin5 rfl) (g := (mkF m 25 #[vR a1, vI 1, vR a3, vI 1, vI 1, vI 1, vI (A.getD 0 0), .unset] [iI 0, iR a3])) rfl rfl (hb hby d12_25) _ ?_
    refine XS.istore X0.here hx rfl (hb hby d12_26) rfl (l' := #[vR a1, vI 1, vR a3, vI 1, vI 1, vI 1, vI (A.getD 0 0), vI s0_]) rfl ?_
    refine XS.iload X0.here hx rfl (hb hby d12_28) rfl ?_
    refine XS.iload X0.here hx rfl (hb hby d12_30) rfl ?_
    refine st7 _ ?_
    exact kt
  by_cases hc8 : (own_eic (A.getD 0 0) s0_) = (0 : Int32)
  · obtain ⟨fs, hr, hrun, hended, hW, hsame⟩ := X7.leave (v := some (.int (0 : Int32))) (fun h => by rw [Bd.returns] at h; cases h)
    refine ⟨_, _, pre9 _ ?_, hrun, hended, _, _, rfl, ?_, ⟨_, rfl⟩, hW, hsame.mono (by decide) (by decide)⟩
    · refine XS.ifYes X7.here hx rfl (pc0 := 35) (pc' := 41) rfl (hb hby d12_35) rfl ((if0 _ _).trans (teq hc8).1) (by decide) (by decide) ?_
      refine XS.iconst X7.here hx rfl (hb hby d12_41) ?_
      show Steps _ _ _ (T7.setTop (mkF m 42 #[vR a1, vI 1, vR a3, vI 1, vI 1, vI 1, vI (A.getD 0 0), vI s0_] [iI 0])) _
      exact retN X7 hx (t := .boolean) Bd.returns (by simp) (hb hby d12_42) hr
    · show QP _ _ _ T7.heap _
      rw [e7]
      exact ⟨by first | rfl | (simp only [own_rc1, if_pos hc8]; done) | (simp only [own_rc1, if_pos hc8]; rfl) | (simp only [own_rc1, if_pos hc8, nar] ; first | rfl | (simp; done) | decide), rfl, rfl⟩
  · obtain ⟨fs, hr, hrun, hended, hW, hsame⟩ := X7.leave (v := some (.int (1 : Int32))) (fun h => by rw [Bd.returns] at h; cases h)
    refine ⟨_, _, pre9 _ ?_, hrun, hended, _, _, rfl, ?_, ⟨_, rfl⟩, hW, hsame.mono (by decide) (by decide)⟩
    · refine XS.ifNo X7.here hx rfl (hb hby d12_35) rfl ((if0 _ _).trans (feq hc8).1) ?_
      refine XS.goto X7.here hx rfl (pc0 := 38) (pc' := 6) rfl (hb hby d12_38) (by decide) (by decide) ?_
      refine XS.iloadN X7.here hx rfl (hb hby d12_6) rfl ?_
      refine XS.iload X7.here hx rfl (hb hby d12_7) rfl ?_
      refine XS.icmpYes X7.here hx rfl (pc0 := 9) (pc' := 43) rfl (hb hby d12_9) rfl (flt (by decide : ¬ ((1 : Int32) < (1 : Int32)))).2.1 (by decide) (by decide) ?_
      refine XS.iconst X7.here hx rfl (hb hby d12_43) ?_
      show Steps _ _ _ (T7.setTop (mkF m 44 #[vR a1, vI 1, vR a3, vI 1, vI 1, vI 1, vI (A.getD 0 0), vI s0_] [iI 1])) _
      exact retN X7 hx (t := .boolean) Bd.returns (by simp) (hb hby d12_44) hr
    · show QP _ _ _ T7.heap _
      rw [e7]
      exact ⟨by first | rfl | (simp only [own_rc1, if_neg hc8]; done) | (simp only [own_rc1, if_neg hc8]; rfl) | (simp only [own_rc1, if_neg hc8, nar] ; first | rfl | (simp; done) | decide), rfl, rfl⟩
def own_rc2 (A : List Int32) (s0_ s1_ : Int32) : Int32 := (if (own_eic (A.getD 0 0) s0_) = (0 : Int32) then (0 : Int32) else (if (own_eic (A.getD 1 0) s1_) = (0 : Int32) then (0 : Int32) else (1 : Int32)))
theorem ef_12_2 (m : MethodId) (x0 : Addr) (x2 : Addr) : entryFrame m #[(.ref x0), (.int (0 : Int32)), (.ref x2), (.int (0 : Int32)), (.int (2 : Int32))] 8 = mkF m 0 #[.val (.ref x0), .val (.int (0 : Int32)), .val (.ref x2), .val (.int (0 : Int32)), .val (.int (2 : Int32)), .unset, .unset, .unset] [] := by first | (simp [entryFrame, mkF, argsToLocals, Value.category]; done) | rfl
theorem rm12_2 (l : Launch) (Z : State) (a0 : Array Value) (hw : HW a0 Z) (ws : List Jvm.Cond) (a1 : Addr) (a3 : Addr) (ka ks : ClassId) (za : Int32) (A : List Int32) (s0_ s1_ : Int32) (h0 : Heap) (V_a : AB Z h0 a1 ka za A) (V_s : AB Z h0 a3 ks (2 : Int32) [s0_, s1_]) (hge : 2 ≤ za.toInt) :
    MFn l mn_13 jdk_43_method_30_code 8 (some .boolean) ws (Rm 1 0 0 14) #[(.ref a1), (.int (0 : Int32)), (.ref a3), (.int (0 : Int32)), (.int (2 : Int32))] Z h0 (QP h0 (some (.int (own_rc2 A s0_ s1_)))) := by
  refine MetFree.of_bodySF (plainFor_of_name pn_2) hisR ?_
  intro p e s m args below meth c s₁ Bd hml0 hP hK
  obtain ⟨rfl, hZ, hh⟩ := hP
  have hx := Bd.exec
  have hby := Bd.bytes
  have hml : c.maxLocals = 8 := hml0
  have hown := findClass_of_methodNamed Bd.named
  have X0 : Stand p l e (Rm 1 0 0 14) s m _ below meth c _ [] 0 0 := Stand.of_body Bd
  have e0 : s₁.heap = h0 := by rw [← hh, Bd.state]; rfl
  have pre0 := cast0 (p := p) (e := e) (below := below) (T := s₁) (ef_12_2 m a1 a3)
  obtain ⟨cl1, Ar1, q1, S1, M1, H1, G1⟩ := id V_a
  have hin2 := inb_of (j := 0) S1 ⟨by decide, own_lt (by have e : (0 : Int32).toInt = 0 := rfl; omega)⟩
  have hat3 : cl1.slots[((0 : Int32)).toNatClampNeg]? = some (.int (A.getD 0 0)) := Has.at H1 hin2 (own_bsget A _)
  obtain ⟨cl4, Ar4, q4, S4, M4, H4, G4⟩ := id V_s
  have hin5 := inb_of (j := 0) S4 ⟨by decide, by decide⟩
  obtain ⟨_, _, ⟨T7, L7, k7, n7⟩, -, X7, ⟨Lc7, hQ7, l7, y7, z7⟩, st7⟩ := Jvm.LawKit.callS X0 hx (y := mn_12) hown (mw hZ hw 184 rfl) (mw hZ hw 185 rfl) (mw hZ hw 114 rfl) (mw hZ hw 186 rfl) (by decide) (backOf (W := 0) (rm43 l Z a0 hw [] (A.getD 0 0) s0_ h0 ) hZ (ww hw 186 rfl) (ww hw 114 rfl) (by decide) (by decide)) (g := (mkF m 32 #[vR a1, vI 1, vR a3, vI 1, vI 2, vI 2, vI (A.getD 0 0), vI s0_] [iI s0_, iI (A.getD 0 0)])) rfl (by rw [hml]; rfl) (argsL := [(.int (A.getD 0 0)), (.int s0_)]) (rest := []) (lenOf pd_9 rfl) rfl (wz rfl) (hb hby d12_32) (fun _ _ => ⟨rfl, e0, (by decide : 0 + 0 ≤ _), (by decide : 0 + 0 ≤ _)⟩)
  dsimp only [Pt.U, Pt.locs, Pt.cells, Pt.slots] at X7 l7 y7 z7 st7 hQ7
  subst l7 y7 z7
  obtain ⟨rfl, rfl, e7⟩ := hQ7
  try rw [List.append_nil] at X7
  have pre9 : PP p e below (T7.setTop (mkF m 35 #[vR a1, vI 1, vR a3, vI 1, vI 2, vI 2, vI (A.getD 0 0), vI s0_] [iI (own_eic (A.getD 0 0) s0_)])) (s₁.setTop (entryFrame m #[(.ref a1), (.int (0 : Int32)), (.ref a3), (.int (0 : Int32)), (.int (2 : Int32))] 8)) := by
    intro t kt
    refine pre0 t ?_
    refine XS.iloadN X0.here hx rfl (hb hby d12_0) rfl ?_
    refine XS.iload X0.here hx rfl (hb hby d12_1) rfl ?_
    refine XS.iadd X0.here hx rfl (hb hby d12_3) rfl ?_
    show SA s₁ m 4 #[vR a1, vI 0, vR a3, vI 0, vI 2, .unset, .unset, .unset] [iI ((0 : Int32) + (2 : Int32))]
    rw [(by decide : ((0 : Int32) + (2 : Int32)) = (2 : Int32))]
    refine XS.istore X0.here hx rfl (hb hby d12_4) rfl (l' := #[vR a1, vI 0, vR a3, vI 0, vI 2, vI 2, .unset, .unset]) rfl ?_
    refine XS.iloadN X0.here hx rfl (hb hby d12_6) rfl ?_
    refine XS.iload X0.here hx rfl (hb hby d12_7) rfl ?_
    refine XS.icmpNo X0.here hx rfl (hb hby d12_9) rfl (tlt (by decide : (0 : Int32) < (2 : Int32))).2.1 ?_
    refine XS.aloadN X0.here hx rfl (hb hby d12_12) rfl rfl ?_
    refine XS.iloadN X0.here hx rfl (hb hby d12_13) rfl ?_
    refine XS.iinc X0.here hx rfl (hb hby d12_14) rfl (l' := #[vR a1, vI ((0 : Int32) + (1 : Int32)), vR a3, vI 0, vI 2, vI 2, .unset, .unset]) rfl ?_
    rw [(by decide : ((0 : Int32) + (1 : Int32)) = (1 : Int32))]
    refine X0.baloadBytes hx (j := 0) (v := (.int (A.getD 0 0))) (by rw [e0]; exact Ar1.1) (State.isArrayOf_alike hZ.alike Ar1.2.1) Ar1.2.2 hin2 hat3 (g := (mkF m 17 #[vR a1, vI 1, vR a3, vI 0, vI 2, vI 2, .unset, .unset] [iI 0, iR a1])) rfl rfl (hb hby d12_17) _ ?_
    refine XS.istore X0.here hx rfl (hb hby d12_18) rfl (l' := #[vR a1, vI 1, vR a3, vI 0, vI 2, vI 2, vI (A.getD 0 0), .unset]) rfl ?_
    refine XS.aloadN X0.here hx rfl (hb hby d12_20) rfl rfl ?_
    refine XS.iloadN X0.here hx rfl (hb hby d12_21) rfl ?_
    refine XS.iinc X0.here hx rfl (hb hby d12_22) rfl (l' := #[vR a1, vI 1, vR a3, vI ((0 : Int32) + (1 : Int32)), vI 2, vI 2, vI (A.getD 0 0), .unset]) rfl ?_
    rw [(by decide : ((0 : Int32) + (1 : Int32)) = (1 : Int32))]
    refine X0.baloadBytes hx (j := 0) (v := (.int s0_)) (by rw [e0]; exact Ar4.1) (State.isArrayOf_alike hZ.alike Ar4.2.1) Ar4.2.2 hin5 (Has.at H4 hin5 rfl) (g := (mkF m 25 #[vR a1, vI 1, vR a3, vI 1, vI 2, vI 2, vI (A.getD 0 0), .unset] [iI 0, iR a3])) rfl rfl (hb hby d12_25) _ ?_
    refine XS.istore X0.here hx rfl (hb hby d12_26) rfl (l' := #[vR a1, vI 1, vR a3, vI 1, vI 2, vI 2, vI (A.getD 0 0), vI s0_]) rfl ?_
    refine XS.iload X0.here hx rfl (hb hby d12_28) rfl ?_
    refine XS.iload X0.here hx rfl (hb hby d12_30) rfl ?_
    refine st7 _ ?_
    exact kt
  by_cases hc8 : (own_eic (A.getD 0 0) s0_) = (0 : Int32)
  · obtain ⟨fs, hr, hrun, hended, hW, hsame⟩ := X7.leave (v := some (.int (0 : Int32))) (fun h => by rw [Bd.returns] at h; cases h)
    refine ⟨_, _, pre9 _ ?_, hrun, hended, _, _, rfl, ?_, ⟨_, rfl⟩, hW, hsame.mono (by decide) (by decide)⟩
    · refine XS.ifYes X7.here hx rfl (pc0 := 35) (pc' := 41) rfl (hb hby d12_35) rfl ((if0 _ _).trans (teq hc8).1) (by decide) (by decide) ?_
      refine XS.iconst X7.here hx rfl (hb hby d12_41) ?_
      show Steps _ _ _ (T7.setTop (mkF m 42 #[vR a1, vI 1, vR a3, vI 1, vI 2, vI 2, vI (A.getD 0 0), vI s0_] [iI 0])) _
      exact retN X7 hx (t := .boolean) Bd.returns (by simp) (hb hby d12_42) hr
    · show QP _ _ _ T7.heap _
      rw [e7]
      exact ⟨by first | rfl | (simp only [own_rc2, if_pos hc8]; done) | (simp only [own_rc2, if_pos hc8]; rfl) | (simp only [own_rc2, if_pos hc8, nar] ; first | rfl | (simp; done) | decide), rfl, rfl⟩
  · have hin10 := inb_of (j := 1) S1 ⟨by decide, own_lt (by have e : (1 : Int32).toInt = 1 := rfl; omega)⟩
    have hat11 : cl1.slots[((1 : Int32)).toNatClampNeg]? = some (.int (A.getD 1 0)) := Has.at H1 hin10 (own_bsget A _)
    have hin12 := inb_of (j := 1) S4 ⟨by decide, by decide⟩
    obtain ⟨_, _, ⟨T14, L14, k14, n14⟩, -, X14, ⟨Lc14, hQ14, l14, y14, z14⟩, st14⟩ := Jvm.LawKit.callS X7 hx (y := mn_12) hown (mw hZ hw 184 rfl) (mw hZ hw 185 rfl) (mw hZ hw 114 rfl) (mw hZ hw 186 rfl) (by decide) (backOf (W := 0) (rm43 l Z a0 hw [] (A.getD 1 0) s1_ h0 ) hZ (ww hw 186 rfl) (ww hw 114 rfl) (by decide) (by decide)) (g := (mkF m 32 #[vR a1, vI 2, vR a3, vI 2, vI 2, vI 2, vI (A.getD 1 0), vI s1_] [iI s1_, iI (A.getD 1 0)])) rfl (by rw [hml]; rfl) (argsL := [(.int (A.getD 1 0)), (.int s1_)]) (rest := []) (lenOf pd_9 rfl) rfl (wz rfl) (hb hby d12_32) (fun _ _ => ⟨rfl, e7, (by decide : 0 + 0 ≤ _), (by decide : 0 + 0 ≤ _)⟩)
    dsimp only [Pt.U, Pt.locs, Pt.cells, Pt.slots] at X14 l14 y14 z14 st14 hQ14
    subst l14 y14 z14
    obtain ⟨rfl, rfl, e14⟩ := hQ14
    try rw [List.append_nil] at X14
    have pre16 : PP p e below (T14.setTop (mkF m 35 #[vR a1, vI 2, vR a3, vI 2, vI 2, vI 2, vI (A.getD 1 0), vI s1_] [iI (own_eic (A.getD 1 0) s1_)])) (s₁.setTop (entryFrame m #[(.ref a1), (.int (0 : Int32)), (.ref a3), (.int (0 : Int32)), (.int (2 : Int32))] 8)) := by
      intro t kt
      refine pre9 t ?_
      refine XS.ifNo X7.here hx rfl (hb hby d12_35) rfl ((if0 _ _).trans (feq hc8).1) ?_
      refine XS.goto X7.here hx rfl (pc0 := 38) (pc' := 6) rfl (hb hby d12_38) (by decide) (by decide) ?_
      refine XS.iloadN X7.here hx rfl (hb hby d12_6) rfl ?_
      refine XS.iload X7.here hx rfl (hb hby d12_7) rfl ?_
      refine XS.icmpNo X7.here hx rfl (hb hby d12_9) rfl (tlt (by decide : (1 : Int32) < (2 : Int32))).2.1 ?_
      refine XS.aloadN X7.here hx rfl (hb hby d12_12) rfl rfl ?_
      show SA T7 m 13 #[vR a1, vI 1, vR a3, vI 1, vI 2, vI 2, vI (A.getD 0 0), vI s0_] [iR a1]
      refine XS.iloadN X7.here hx rfl (hb hby d12_13) rfl ?_
      refine XS.iinc X7.here hx rfl (hb hby d12_14) rfl (l' := #[vR a1, vI ((1 : Int32) + (1 : Int32)), vR a3, vI 1, vI 2, vI 2, vI (A.getD 0 0), vI s0_]) rfl ?_
      rw [(by decide : ((1 : Int32) + (1 : Int32)) = (2 : Int32))]
      refine X7.baloadBytes hx (j := 1) (v := (.int (A.getD 1 0))) (by rw [e7]; exact Ar1.1) (State.isArrayOf_alike hZ.alike Ar1.2.1) Ar1.2.2 hin10 hat11 (g := (mkF m 17 #[vR a1, vI 2, vR a3, vI 1, vI 2, vI 2, vI (A.getD 0 0), vI s0_] [iI 1, iR a1])) rfl rfl (hb hby d12_17) _ ?_
      refine XS.istore X7.here hx rfl (hb hby d12_18) rfl (l' := #[vR a1, vI 2, vR a3, vI 1, vI 2, vI 2, vI (A.getD 1 0), vI s0_]) rfl ?_
      refine XS.aloadN X7.here hx rfl (hb hby d12_20) rfl rfl ?_
      refine XS.iloadN X7.here hx rfl (hb hby d12_21) rfl ?_
      refine XS.iinc X7.here hx rfl (hb hby d12_22) rfl (l' := #[vR a1, vI 2, vR a3, vI ((1 : Int32) + (1 : Int32)), vI 2, vI 2, vI (A.getD 1 0), vI s0_]) rfl ?_
      rw [(by decide : ((1 : Int32) + (1 : Int32)) = (2 : Int32))]
      refine X7.baloadBytes hx (j := 1) (v := (.int s1_)) (by rw [e7]; exact Ar4.1) (State.isArrayOf_alike hZ.alike Ar4.2.1) Ar4.2.2 hin12 (Has.at H4 hin12 rfl) (g := (mkF m 25 #[vR a1, vI 2, vR a3, vI 2, vI 2, vI 2, vI (A.getD 1 0), vI s0_] [iI 1, iR a3])) rfl rfl (hb hby d12_25) _ ?_
      refine XS.istore X7.here hx rfl (hb hby d12_26) rfl (l' := #[vR a1, vI 2, vR a3, vI 2, vI 2, vI 2, vI (A.getD 1 0), vI s1_]) rfl ?_
      refine XS.iload X7.here hx rfl (hb hby d12_28) rfl ?_
      refine XS.iload X7.here hx rfl (hb hby d12_30) rfl ?_
      refine st14 _ ?_
      exact kt
    by_cases hc15 : (own_eic (A.getD 1 0) s1_) = (0 : Int32)
    · obtain ⟨fs, hr, hrun, hended, hW, hsame⟩ := X14.leave (v := some (.int (0 : Int32))) (fun h => by rw [Bd.returns] at h; cases h)
      refine ⟨_, _, pre16 _ ?_, hrun, hended, _, _, rfl, ?_, ⟨_, rfl⟩, hW, hsame.mono (by decide) (by decide)⟩
      · refine XS.ifYes X14.here hx rfl (pc0 := 35) (pc' := 41) rfl (hb hby d12_35) rfl ((if0 _ _).trans (teq hc15).1) (by decide) (by decide) ?_
        refine XS.iconst X14.here hx rfl (hb hby d12_41) ?_
        show Steps _ _ _ (T14.setTop (mkF m 42 #[vR a1, vI 2, vR a3, vI 2, vI 2, vI 2, vI (A.getD 1 0), vI s1_] [iI 0])) _
        exact retN X14 hx (t := .boolean) Bd.returns (by simp) (hb hby d12_42) hr
      · show QP _ _ _ T14.heap _
        rw [e14]
        exact ⟨by first | rfl | (simp only [own_rc2, if_neg hc8, if_pos hc15]; done) | (simp only [own_rc2, if_neg hc8, if_pos hc15]; rfl) | (simp only [own_rc2, if_neg hc8, if_pos hc15, nar] ; first | rfl | (simp; done) | decide), rfl, rfl⟩
    · obtain ⟨fs, hr, hrun, hended, hW, hsame⟩ := X14.leave (v := some (.int (1 : Int32))) (fun h => by rw [Bd.returns] at h; cases h)
      refine ⟨_, _, pre16 _ ?_, hrun, hended, _, _, rfl, ?_, ⟨_, rfl⟩, hW, hsame.mono (by decide) (by decide)⟩
      · refine XS.ifNo X14.here hx rfl (hb hby d12_35) rfl ((if0 _ _).trans (feq hc15).1) ?_
        refine XS.goto X14.here hx rfl (pc0 := 38) (pc' := 6) rfl (hb hby d12_38) (by decide) (by decide) ?_
        refine XS.iloadN X14.here hx rfl (hb hby d12_6) rfl ?_
        refine XS.iload X14.here hx rfl (hb hby d12_7) rfl ?_
        refine XS.icmpYes X14.here hx rfl (pc0 := 9) (pc' := 43) rfl (hb hby d12_9) rfl (flt (by decide : ¬ ((2 : Int32) < (2 : Int32)))).2.1 (by decide) (by decide) ?_
        refine XS.iconst X14.here hx rfl (hb hby d12_43) ?_
        show Steps _ _ _ (T14.setTop (mkF m 44 #[vR a1, vI 2, vR a3, vI 2, vI 2, vI 2, vI (A.getD 1 0), vI s1_] [iI 1])) _
        exact retN X14 hx (t := .boolean) Bd.returns (by simp) (hb hby d12_44) hr
      · show QP _ _ _ T14.heap _
        rw [e14]
        exact ⟨by first | rfl | (simp only [own_rc2, if_neg hc8, if_neg hc15]; done) | (simp only [own_rc2, if_neg hc8, if_neg hc15]; rfl) | (simp only [own_rc2, if_neg hc8, if_neg hc15, nar] ; first | rfl | (simp; done) | decide), rfl, rfl⟩
def own_rc3 (A : List Int32) (s0_ s1_ s2_ : Int32) : Int32 := (if (own_eic (A.getD 0 0) s0_) = (0 : Int32) then (0 : Int32) else (if (own_eic (A.getD 1 0) s1_) = (0 : Int32) then (0 : Int32) else (if (own_eic (A.getD 2 0) s2_) = (0 : Int32) then (0 : Int32) else (1 : Int32))))
theorem ef_12_3 (m : MethodId) (x0 : Addr) (x2 : Addr) : entryFrame m #[(.ref x0), (.int (0 : Int32)), (.ref x2), (.int (0 : Int32)), (.int (3 : Int32))] 8 = mkF m 0 #[.val (.ref x0), .val (.int (0 : Int32)), .val (.ref x2), .val (.int (0 : Int32)), .val (.int (3 : Int32)), .unset, .unset, .unset] [] := by first | (simp [entryFrame, mkF, argsToLocals, Value.category]; done) | rfl
theorem rm12_3 (l : Launch) (Z : State) (a0 : Array Value) (hw : HW a0 Z) (ws : List Jvm.Cond) (a1 : Addr) (a3 : Addr) (ka ks : ClassId) (za : Int32) (A : List Int32) (s0_ s1_ s2_ : Int32) (h0 : Heap) (V_a : AB Z h0 a1 ka za A) (V_s : AB Z h0 a3 ks (3 : Int32) [s0_, s1_, s2_]) (hge : 3 ≤ za.toInt) :
    MFn l mn_13 jdk_43_method_30_code 8 (some .boolean) ws (Rm 1 0 0 14) #[(.ref a1), (.int (0 : Int32)), (.ref a3), (.int (0 : Int32)), (.int (3 : Int32))] Z h0 (QP h0 (some (.int (own_rc3 A s0_ s1_ s2_)))) := by
  refine MetFree.of_bodySF (plainFor_of_name pn_2) hisR ?_
  intro p e s m args below meth c s₁ Bd hml0 hP hK
  obtain ⟨rfl, hZ, hh⟩ := hP
  have hx := Bd.exec
  have hby := Bd.bytes
  have hml : c.maxLocals = 8 := hml0
  have hown := findClass_of_methodNamed Bd.named
  have X0 : Stand p l e (Rm 1 0 0 14) s m _ below meth c _ [] 0 0 := Stand.of_body Bd
  have e0 : s₁.heap = h0 := by rw [← hh, Bd.state]; rfl
  have pre0 := cast0 (p := p) (e := e) (below := below) (T := s₁) (ef_12_3 m a1 a3)
  obtain ⟨cl1, Ar1, q1, S1, M1, H1, G1⟩ := id V_a
  have hin2 := inb_of (j := 0) S1 ⟨by decide, own_lt (by have e : (0 : Int32).toInt = 0 := rfl; omega)⟩
  have hat3 : cl1.slots[((0 : Int32)).toNatClampNeg]? = some (.int (A.getD 0 0)) := Has.at H1 hin2 (own_bsget A _)
  obtain ⟨cl4, Ar4, q4, S4, M4, H4, G4⟩ := id V_s
  have hin5 := inb_of (j := 0) S4 ⟨by decide, by decide⟩
  obtain ⟨_, _, ⟨T7, L7, k7, n7⟩, -, X7, ⟨Lc7, hQ7, l7, y7, z7⟩, st7⟩ := Jvm.LawKit.callS X0 hx (y := mn_12) hown (mw hZ hw 184 rfl) (mw hZ hw 185 rfl) (mw hZ hw 114 rfl) (mw hZ hw 186 rfl) (by decide) (backOf (W := 0) (rm43 l Z a0 hw [] (A.getD 0 0) s0_ h0 ) hZ (ww hw 186 rfl) (ww hw 114 rfl) (by decide) (by decide)) (g := (mkF m 32 #[vR a1, vI 1, vR a3, vI 1, vI 3, vI 3, vI (A.getD 0 0), vI s0_] [iI s0_, iI (A.getD 0 0)])) rfl (by rw [hml]; rfl) (argsL := [(.int (A.getD 0 0)), (.int s0_)]) (rest := []) (lenOf pd_9 rfl) rfl (wz rfl) (hb hby d12_32) (fun _ _ => ⟨rfl, e0, (by decide : 0 + 0 ≤ _), (by decide : 0 + 0 ≤ _)⟩)
  dsimp only [Pt.U, Pt.locs, Pt.cells, Pt.slots] at X7 l7 y7 z7 st7 hQ7
  subst l7 y7 z7
  obtain ⟨rfl, rfl, e7⟩ := hQ7
  try rw [List.append_nil] at X7
  have pre9 : PP p e below (T7.setTop (mkF m 35 #[vR a1, vI 1, vR a3, vI 1, vI 3, vI 3, vI (A.getD 0 0), vI s0_] [iI (own_eic (A.getD 0 0) s0_)])) (s₁.setTop (entryFrame m #[(.ref a1), (.int (0 : Int32)), (.ref a3), (.int (0 : Int32)), (.int (3 : Int32))] 8)) := by
    intro t kt
    refine pre0 t ?_
    refine XS.iloadN X0.here hx rfl (hb hby d12_0) rfl ?_
    refine XS.iload X0.here hx rfl (hb hby d12_1) rfl ?_
    refine XS.iadd X0.here hx rfl (hb hby d12_3) rfl ?_
    show SA s₁ m 4 #[vR a1, vI 0, vR a3, vI 0, vI 3, .unset, .unset, .unset] [iI ((0 : Int32) + (3 : Int32))]
    rw [(by decide : ((0 : Int32) + (3 : Int32)) = (3 : Int32))]
    refine XS.istore X0.here hx rfl (hb hby d12_4) rfl (l' := #[vR a1, vI 0, vR a3, vI 0, vI 3, vI 3, .unset, .unset]) rfl ?_
    refine XS.iloadN X0.here hx rfl (hb hby d12_6) rfl ?_
    refine XS.iload X0.here hx rfl (hb hby d12_7) rfl ?_
    refine XS.icmpNo X0.here hx rfl (hb hby d12_9) rfl (tlt (by decide : (0 : Int32) < (3 : Int32))).2.1 ?_
    refine XS.aloadN X0.here hx rfl (hb hby d12_12) rfl rfl ?_
    refine XS.iloadN X0.here hx rfl (hb hby d12_13) rfl ?_
    refine XS.iinc X0.here hx rfl (hb hby d12_14) rfl (l' := #[vR a1, vI ((0 : Int32) + (1 : Int32)), vR a3, vI 0, vI 3, vI 3, .unset, .unset]) rfl ?_
    rw [(by decide : ((0 : Int32) + (1 : Int32)) = (1 : Int32))]
    refine X0.baloadBytes hx (j := 0) (v := (.int (A.getD 0 0))) (by rw [e0]; exact Ar1.1) (State.isArrayOf_alike hZ.alike Ar1.2.1) Ar1.2.2 hin2 hat3 (g := (mkF m 17 #[vR a1, vI 1, vR a3, vI 0, vI 3, vI 3, .unset, .unset] [iI 0, iR a1])) rfl rfl (hb hby d12_17) _ ?_
    refine XS.istore X0.here hx rfl (hb hby d12_18) rfl (l' := #[vR a1, vI 1, vR a3, vI 0, vI 3, vI 3, vI (A.getD 0 0), .unset]) rfl ?_
    refine XS.aloadN X0.here hx rfl (hb hby d12_20) rfl rfl ?_
    refine XS.iloadN X0.here hx rfl (hb hby d12_21) rfl ?_
    refine XS.iinc X0.here hx rfl (hb hby d12_22) rfl (l' := #[vR a1, vI 1, vR a3, vI ((0 : Int32) + (1 : Int32)), vI 3, vI 3, vI (A.getD 0 0), .unset]) rfl ?_
    rw [(by decide : ((0 : Int32) + (1 : Int32)) = (1 : Int32))]
    refine X0.baloadBytes hx (j := 0) (v := (.int s0_)) (by rw [e0]; exact Ar4.1) (State.isArrayOf_alike hZ.alike Ar4.2.1) Ar4.2.2 hin5 (Has.at H4 hin5 rfl) (g := (mkF m 25 #[vR a1, vI 1, vR a3, vI 1, vI 3, vI 3, vI (A.getD 0 0), .unset] [iI 0, iR a3])) rfl rfl (hb hby d12_25) _ ?_
    refine XS.istore X0.here hx rfl (hb hby d12_26) rfl (l' := #[vR a1, vI 1, vR a3, vI 1, vI 3, vI 3, vI (A.getD 0 0), vI s0_]) rfl ?_
    refine XS.iload X0.here hx rfl (hb hby d12_28) rfl ?_
    refine XS.iload X0.here hx rfl (hb hby d12_30) rfl ?_
    refine st7 _ ?_
    exact kt
  by_cases hc8 : (own_eic (A.getD 0 0) s0_) = (0 : Int32)
  · obtain ⟨fs, hr, hrun, hended, hW, hsame⟩ := X7.leave (v := some (.int (0 : Int32))) (fun h => by rw [Bd.returns] at h; cases h)
    refine ⟨_, _, pre9 _ ?_, hrun, hended, _, _, rfl, ?_, ⟨_, rfl⟩, hW, hsame.mono (by decide) (by decide)⟩
    · refine XS.ifYes X7.here hx rfl (pc0 := 35) (pc' := 41) rfl (hb hby d12_35) rfl ((if0 _ _).trans (teq hc8).1) (by decide) (by decide) ?_
      refine XS.iconst X7.here hx rfl (hb hby d12_41) ?_
      show Steps _ _ _ (T7.setTop (mkF m 42 #[vR a1, vI 1, vR a3, vI 1, vI 3, vI 3, vI (A.getD 0 0), vI s0_] [iI 0])) _
      exact retN X7 hx (t := .boolean) Bd.returns (by simp) (hb hby d12_42) hr
    · show QP _ _ _ T7.heap _
      rw [e7]
      exact ⟨by first | rfl | (simp only [own_rc3, if_pos hc8]; done) | (simp only [own_rc3, if_pos hc8]; rfl) | (simp only [own_rc3, if_pos hc8, nar] ; first | rfl | (simp; done) | decide), rfl, rfl⟩
  · have hin10 := inb_of (j := 1) S1 ⟨by decide, own_lt (by have e : (1 : Int32).toInt = 1 := rfl; omega)⟩
    have hat11 : cl1.slots[((1 : Int32)).toNatClampNeg]? = some (.int (A.getD 1 0)) := Has.at H1 hin10 (own_bsget A _)
    have hin12 := inb_of (j := 1) S4 ⟨by decide, by decide⟩
    obtain ⟨_, _, ⟨T14, L14, k14, n14⟩, -, X14, ⟨Lc14, hQ14, l14, y14, z14⟩, st14⟩ := Jvm.LawKit.callS X7 hx (y := mn_12) hown (mw hZ hw 184 rfl) (mw hZ hw 185 rfl) (mw hZ hw 114 rfl) (mw hZ hw 186 rfl) (by decide) (backOf (W := 0) (rm43 l Z a0 hw [] (A.getD 1 0) s1_ h0 ) hZ (ww hw 186 rfl) (ww hw 114 rfl) (by decide) (by decide)) (g := (mkF m 32 #[vR a1, vI 2, vR a3, vI 2, vI 3, vI 3, vI (A.getD 1 0), vI s1_] [iI s1_, iI (A.getD 1 0)])) rfl (by rw [hml]; rfl) (argsL := [(.int (A.getD 1 0)), (.int s1_)]) (rest := []) (lenOf pd_9 rfl) rfl (wz rfl) (hb hby d12_32) (fun _ _ => ⟨rfl, e7, (by decide : 0 + 0 ≤ _), (by decide : 0 + 0 ≤ _)⟩)
    dsimp only [Pt.U, Pt.locs, Pt.cells, Pt.slots] at X14 l14 y14 z14 st14 hQ14
    subst l14 y14 z14
    obtain ⟨rfl, rfl, e14⟩ := hQ14
    try rw [List.append_nil] at X14
    have pre16 : PP p e below (T14.setTop (mkF m 35 #[vR a1, vI 2, vR a3, vI 2, vI 3, vI 3, vI (A.getD 1 0), vI s1_] [iI (own_eic (A.getD 1 0) s1_)])) (s₁.setTop (entryFrame m #[(.ref a1), (.int (0 : Int32)), (.ref a3), (.int (0 : Int32)), (.int (3 : Int32))] 8)) := by
      intro t kt
      refine pre9 t ?_
      refine XS.ifNo X7.here hx rfl (hb hby d12_35) rfl ((if0 _ _).trans (feq hc8).1) ?_
      refine XS.goto X7.here hx rfl (pc0 := 38) (pc' := 6) rfl (hb hby d12_38) (by decide) (by decide) ?_
      refine XS.iloadN X7.here hx rfl (hb hby d12_6) rfl ?_
      refine XS.iload X7.here hx rfl (hb hby d12_7) rfl ?_
      refine XS.icmpNo X7.here hx rfl (hb hby d12_9) rfl (tlt (by decide : (1 : Int32) < (3 : Int32))).2.1 ?_
      refine XS.aloadN X7.here hx rfl (hb hby d12_12) rfl rfl ?_
      show SA T7 m 13 #[vR a1, vI 1, vR a3, vI 1, vI 3, vI 3, vI (A.getD 0 0), vI s0_] [iR a1]
      refine XS.iloadN X7.here hx rfl (hb hby d12_13) rfl ?_
      refine XS.iinc X7.here hx rfl (hb hby d12_14) rfl (l' := #[vR a1, vI ((1 : Int32) + (1 : Int32)), vR a3, vI 1, vI 3, vI 3, vI (A.getD 0 0), vI s0_]) rfl ?_
      rw [(by decide : ((1 : Int32) + (1 : Int32)) = (2 : Int32))]
      refine X7.baloadBytes hx (j := 1) (v := (.int (A.getD 1 0))) (by rw [e7]; exact Ar1.1) (State.isArrayOf_alike hZ.alike Ar1.2.1) Ar1.2.2 hin10 hat11 (g := (mkF m 17 #[vR a1, vI 2, vR a3, vI 1, vI 3, vI 3, vI (A.getD 0 0), vI s0_] [iI 1, iR a1])) rfl rfl (hb hby d12_17) _ ?_
      refine XS.istore X7.here hx rfl (hb hby d12_18) rfl (l' := #[vR a1, vI 2, vR a3, vI 1, vI 3, vI 3, vI (A.getD 1 0), vI s0_]) rfl ?_
      refine XS.aloadN X7.here hx rfl (hb hby d12_20) rfl rfl ?_
      refine XS.iloadN X7.here hx rfl (hb hby d12_21) rfl ?_
      refine XS.iinc X7.here hx rfl (hb hby d12_22) rfl (l' := #[vR a1, vI 2, vR a3, vI ((1 : Int32) + (1 : Int32)), vI 3, vI 3, vI (A.getD 1 0), vI s0_]) rfl ?_
      rw [(by decide : ((1 : Int32) + (1 : Int32)) = (2 : Int32))]
      refine X7.baloadBytes hx (j := 1) (v := (.int s1_)) (by rw [e7]; exact Ar4.1) (State.isArrayOf_alike hZ.alike Ar4.2.1) Ar4.2.2 hin12 (Has.at H4 hin12 rfl) (g := (mkF m 25 #[vR a1, vI 2, vR a3, vI 2, vI 3, vI 3, vI (A.getD 1 0), vI s0_] [iI 1, iR a3])) rfl rfl (hb hby d12_25) _ ?_
      refine XS.istore X7.here hx rfl (hb hby d12_26) rfl (l' := #[vR a1, vI 2, vR a3, vI 2, vI 3, vI 3, vI (A.getD 1 0), vI s1_]) rfl ?_
      refine XS.iload X7.here hx rfl (hb hby d12_28) rfl ?_
      refine XS.iload X7.here hx rfl (hb hby d12_30) rfl ?_
      refine st14 _ ?_
      exact kt
    by_cases hc15 : (own_eic (A.getD 1 0) s1_) = (0 : Int32)
    · obtain ⟨fs, hr, hrun, hended, hW, hsame⟩ := X14.leave (v := some (.int (0 : Int32))) (fun h => by rw [Bd.returns] at h; cases h)
      refine ⟨_, _, pre16 _ ?_, hrun, hended, _, _, rfl, ?_, ⟨_, rfl⟩, hW, hsame.mono (by decide) (by decide)⟩
      · refine XS.ifYes X14.here hx rfl (pc0 := 35) (pc' := 41) rfl (hb hby d12_35) rfl ((if0 _ _).trans (teq hc15).1) (by decide) (by decide) ?_
        refine XS.iconst X14.here hx rfl (hb hby d12_41) ?_
        show Steps _ _ _ (T14.setTop (mkF m 42 #[vR a1, vI 2, vR a3, vI 2, vI 3, vI 3, vI (A.getD 1 0), vI s1_] [iI 0])) _
        exact retN X14 hx (t := .boolean) Bd.returns (by simp) (hb hby d12_42) hr
      · show QP _ _ _ T14.heap _
        rw [e14]
        exact ⟨by first | rfl | (simp only [own_rc3, if_neg hc8, if_pos hc15]; done) | (simp only [own_rc3, if_neg hc8, if_pos hc15]; rfl) | (simp only [own_rc3, if_neg hc8, if_pos hc15, nar] ; first | rfl | (simp; done) | decide), rfl, rfl⟩
    · have hin17 := inb_of (j := 2) S1 ⟨by decide, own_lt (by have e : (2 : Int32).toInt = 2 := rfl; omega)⟩
      have hat18 : cl1.slots[((2 : Int32)).toNatClampNeg]? = some (.int (A.getD 2 0)) := Has.at H1 hin17 (own_bsget A _)
      have hin19 := inb_of (j := 2) S4 ⟨by decide, by decide⟩
      obtain ⟨_, _, ⟨T21, L21, k21, n21⟩, -, X21, ⟨Lc21, hQ21, l21, y21, z21⟩, st21⟩ := Jvm.LawKit.callS X14 hx (y := mn_12) hown (mw hZ hw 184 rfl) (mw hZ hw 185 rfl) (mw hZ hw 114 rfl) (mw hZ hw 186 rfl) (by decide) (backOf (W := 0) (rm43 l Z a0 hw [] (A.getD 2 0) s2_ h0 ) hZ (ww hw 186 rfl) (ww hw 114 rfl) (by decide) (by decide)) (g := (mkF m 32 #[vR a1, vI 3, vR a3, vI 3, vI 3, vI 3, vI (A.getD 2 0), vI s2_] [iI s2_, iI (A.getD 2 0)])) rfl (by rw [hml]; rfl) (argsL := [(.int (A.getD 2 0)), (.int s2_)]) (rest := []) (lenOf pd_9 rfl) rfl (wz rfl) (hb hby d12_32) (fun _ _ => ⟨rfl, e14, (by decide : 0 + 0 ≤ _), (by decide : 0 + 0 ≤ _)⟩)
      dsimp only [Pt.U, Pt.locs, Pt.cells, Pt.slots] at X21 l21 y21 z21 st21 hQ21
      subst l21 y21 z21
      obtain ⟨rfl, rfl, e21⟩ := hQ21
      try rw [List.append_nil] at X21
      have pre23 : PP p e below (T21.setTop (mkF m 35 #[vR a1, vI 3, vR a3, vI 3, vI 3, vI 3, vI (A.getD 2 0), vI s2_] [iI (own_eic (A.getD 2 0) s2_)])) (s₁.setTop (entryFrame m #[(.ref a1), (.int (0 : Int32)), (.ref a3), (.int (0 : Int32)), (.int (3 : Int32))] 8)) := by
        intro t kt
        refine pre16 t ?_
        refine XS.ifNo X14.here hx rfl (hb hby d12_35) rfl ((if0 _ _).trans (feq hc15).1) ?_
        refine XS.goto X14.here hx rfl (pc0 := 38) (pc' := 6) rfl (hb hby d12_38) (by decide) (by decide) ?_
        refine XS.iloadN X14.here hx rfl (hb hby d12_6) rfl ?_
        refine XS.iload X14.here hx rfl (hb hby d12_7) rfl ?_
        refine XS.icmpNo X14.here hx rfl (hb hby d12_9) rfl (tlt (by decide : (2 : Int32) < (3 : Int32))).2.1 ?_
        refine XS.aloadN X14.here hx rfl (hb hby d12_12) rfl rfl ?_
        show SA T14 m 13 #[vR a1, vI 2, vR a3, vI 2, vI 3, vI 3, vI (A.getD 1 0), vI s1_] [iR a1]
        refine XS.iloadN X14.here hx rfl (hb hby d12_13) rfl ?_
        refine XS.iinc X14.here hx rfl (hb hby d12_14) rfl (l' := #[vR a1, vI ((2 : Int32) + (1 : Int32)), vR a3, vI 2, vI 3, vI 3, vI (A.getD 1 0), vI s1_]) rfl ?_
        rw [(by decide : ((2 : Int32) + (1 : Int32)) = (3 : Int32))]
        refine X14.baloadBytes hx (j := 2) (v := (.int (A.getD 2 0))) (by rw [e14]; exact Ar1.1) (State.isArrayOf_alike hZ.alike Ar1.2.1) Ar1.2.2 hin17 hat18 (g := (mkF m 17 #[vR a1, vI 3, vR a3, vI 2, vI 3, vI 3, vI (A.getD 1 0), vI s1_] [iI 2, iR a1])) rfl rfl (hb hby d12_17) _ ?_
        refine XS.istore X14.here hx rfl (hb hby d12_18) rfl (l' := #[vR a1, vI 3, vR a3, vI 2, vI 3, vI 3, vI (A.getD 2 0), vI s1_]) rfl ?_
        refine XS.aloadN X14.here hx rfl (hb hby d12_20) rfl rfl ?_
        refine XS.iloadN X14.here hx rfl (hb hby d12_21) rfl ?_
        refine XS.iinc X14.here hx rfl (hb hby d12_22) rfl (l' := #[vR a1, vI 3, vR a3, vI ((2 : Int32) + (1 : Int32)), vI 3, vI 3, vI (A.getD 2 0), vI s1_]) rfl ?_
        rw [(by decide : ((2 : Int32) + (1 : Int32)) = (3 : Int32))]
        refine X14.baloadBytes hx (j := 2) (v := (.int s2_)) (by rw [e14]; exact Ar4.1) (State.isArrayOf_alike hZ.alike Ar4.2.1) Ar4.2.2 hin19 (Has.at H4 hin19 rfl) (g := (mkF m 25 #[vR a1, vI 3, vR a3, vI 3, vI 3, vI 3, vI (A.getD 2 0), vI s1_] [iI 2, iR a3])) rfl rfl (hb hby d12_25) _ ?_
        refine XS.istore X14.here hx rfl (hb hby d12_26) rfl (l' := #[vR a1, vI 3, vR a3, vI 3, vI 3, vI 3, vI (A.getD 2 0), vI s2_]) rfl ?_
        refine XS.iload X14.here hx rfl (hb hby d12_28) rfl ?_
        refine XS.iload X14.here hx rfl (hb hby d12_30) rfl ?_
        refine st21 _ ?_
        exact kt
      by_cases hc22 : (own_eic (A.getD 2 0) s2_) = (0 : Int32)
      · obtain ⟨fs, hr, hrun, hended, hW, hsame⟩ := X21.leave (v := some (.int (0 : Int32))) (fun h => by rw [Bd.returns] at h; cases h)
        refine ⟨_, _, pre23 _ ?_, hrun, hended, _, _, rfl, ?_, ⟨_, rfl⟩, hW, hsame.mono (by decide) (by decide)⟩
        · refine XS.ifYes X21.here hx rfl (pc0 := 35) (pc' := 41) rfl (hb hby d12_35) rfl ((if0 _ _).trans (teq hc22).1) (by decide) (by decide) ?_
          refine XS.iconst X21.here hx rfl (hb hby d12_41) ?_
          show Steps _ _ _ (T21.setTop (mkF m 42 #[vR a1, vI 3, vR a3, vI 3, vI 3, vI 3, vI (A.getD 2 0), vI s2_] [iI 0])) _
          exact retN X21 hx (t := .boolean) Bd.returns (by simp) (hb hby d12_42) hr
        · show QP _ _ _ T21.heap _
          rw [e21]
          exact ⟨by first | rfl | (simp only [own_rc3, if_neg hc8, if_neg hc15, if_pos hc22]; done) | (simp only [own_rc3, if_neg hc8, if_neg hc15, if_pos hc22]; rfl) | (simp only [own_rc3, if_neg hc8, if_neg hc15, if_pos hc22, nar] ; first | rfl | (simp; done) | decide), rfl, rfl⟩
      · obtain ⟨fs, hr, hrun, hended, hW, hsame⟩ := X21.leave (v := some (.int (1 : Int32))) (fun h => by rw [Bd.returns] at h; cases h)
        refine ⟨_, _, pre23 _ ?_, hrun, hended, _, _, rfl, ?_, ⟨_, rfl⟩, hW, hsame.mono (by decide) (by decide)⟩
        · refine XS.ifNo X21.here hx rfl (hb hby d12_35) rfl ((if0 _ _).trans (feq hc22).1) ?_
          refine XS.goto X21.here hx rfl (pc0 := 38) (pc' := 6) rfl (hb hby d12_38) (by decide) (by decide) ?_
          refine XS.iloadN X21.here hx rfl (hb hby d12_6) rfl ?_
          refine XS.iload X21.here hx rfl (hb hby d12_7) rfl ?_
          refine XS.icmpYes X21.here hx rfl (pc0 := 9) (pc' := 43) rfl (hb hby d12_9) rfl (flt (by decide : ¬ ((3 : Int32) < (3 : Int32)))).2.1 (by decide) (by decide) ?_
          refine XS.iconst X21.here hx rfl (hb hby d12_43) ?_
          show Steps _ _ _ (T21.setTop (mkF m 44 #[vR a1, vI 3, vR a3, vI 3, vI 3, vI 3, vI (A.getD 2 0), vI s2_] [iI 1])) _
          exact retN X21 hx (t := .boolean) Bd.returns (by simp) (hb hby d12_44) hr
        · show QP _ _ _ T21.heap _
          rw [e21]
          exact ⟨by first | rfl | (simp only [own_rc3, if_neg hc8, if_neg hc15, if_neg hc22]; done) | (simp only [own_rc3, if_neg hc8, if_neg hc15, if_neg hc22]; rfl) | (simp only [own_rc3, if_neg hc8, if_neg hc15, if_neg hc22, nar] ; first | rfl | (simp; done) | decide), rfl, rfl⟩
def own_rcS (B : List Int32) : List Int32 → Int32
  | [] => own_rc0 B
  | [a] => own_rc1 B a
  | [a, b] => own_rc2 B a b
  | [a, b, c] => own_rc3 B a b c
  | _ => 0
theorem own_oN {n : Nat} (h : n < 1000) : (Int32.ofNat n).toInt = (n : Int) := Int32.toInt_ofNat_of_lt (by omega)
theorem own_oC {n : Nat} (h : n < 1000) : (Int32.ofNat n).toNatClampNeg = n := own_tn (own_oN h)
theorem own_z0E {z : Int32} {B : List Int32} (hz : ¬ z < 0) (hB : z.toNatClampNeg = B.length) (n : Nat) (h : B.length = n) (hn : n < 1000) : z = Int32.ofNat n := by
  rw [Int32.lt_iff_toInt_lt] at hz
  have e : (0 : Int32).toInt = 0 := rfl
  apply Int32.toInt_inj.mp
  rw [own_oN hn]
  simp only [Int32.toNatClampNeg] at hB
  omega
theorem rm12 (l : Launch) (Z : State) (a0 : Array Value) (hw : HW a0 Z) (ws : List Jvm.Cond) (a1 : Addr) (a3 : Addr) (p5 : Int32) (ka ks : ClassId) (za : Int32) (A Bs : List Int32) (h0 : Heap) (V_a : AB Z h0 a1 ka za A) (V_s : AB Z h0 a3 ks p5 Bs) (hzs : ¬ p5 < 0) (hBs : p5.toNatClampNeg = Bs.length) (hs3 : Bs.length ≤ 3) (hge : p5.toInt ≤ za.toInt) :
    MFn l mn_13 jdk_43_method_30_code 8 (some .boolean) ws (Rm 1 0 0 14) #[(.ref a1), (.int (0 : Int32)), (.ref a3), (.int (0 : Int32)), (.int p5)] Z h0 (QP h0 (some (.int (own_rcS A Bs)))) := by
  rcases Bs with _ | ⟨s0_, _ | ⟨s1_, _ | ⟨s2_, _ | ⟨s3_, ts⟩⟩⟩⟩
  · obtain rfl : p5 = 0 := own_z0E hzs hBs 0 rfl (by decide)
    exact rm12_0 l Z a0 hw ws a1 a3 ka ks za A  h0 V_a V_s hge
  · obtain rfl : p5 = 1 := own_z0E hzs hBs 1 rfl (by decide)
    exact rm12_1 l Z a0 hw ws a1 a3 ka ks za A s0_ h0 V_a V_s hge
  · obtain rfl : p5 = 2 := own_z0E hzs hBs 2 rfl (by decide)
    exact rm12_2 l Z a0 hw ws a1 a3 ka ks za A s0_ s1_ h0 V_a V_s hge
  · obtain rfl : p5 = 3 := own_z0E hzs hBs 3 rfl (by decide)
    exact rm12_3 l Z a0 hw ws a1 a3 ka ks za A s0_ s1_ s2_ h0 V_a V_s hge
  · exact absurd hs3 (by simp only [List.length_cons]; omega)
theorem d11_0 : dk c11 0 (.iload_n 1) 1 := by decide +kernel
theorem d11_1 : dk c11 1 (.ifCond .ne 14) 3 := by decide +kernel
theorem d11_15 : dk c11 15 (.iload 4) 2 := by decide +kernel
theorem d11_17 : dk c11 17 (.ifCond .lt 38) 3 := by decide +kernel
theorem d11_20 : dk c11 20 (.iload_n 2) 1 := by decide +kernel
theorem d11_21 : dk c11 21 (.ifCond .lt 34) 3 := by decide +kernel
theorem d11_24 : dk c11 24 (.iload_n 2) 1 := by decide +kernel
theorem d11_25 : dk c11 25 .i2l 1 := by decide +kernel
theorem d11_26 : dk c11 26 (.aload_n 0) 1 := by decide +kernel
theorem d11_27 : dk c11 27 (.invokevirtual 505) 3 := by decide +kernel
theorem d11_30 : dk c11 30 .i2l 1 := by decide +kernel
theorem d11_31 : dk c11 31 (.iload 5) 2 := by decide +kernel
theorem d11_33 : dk c11 33 .i2l 1 := by decide +kernel
theorem d11_34 : dk c11 34 .lsub 1 := by decide +kernel
theorem d11_35 : dk c11 35 .lcmp 1 := by decide +kernel
theorem d11_36 : dk c11 36 (.ifCond .gt 19) 3 := by decide +kernel
theorem d11_55 : dk c11 55 (.iconst 0) 1 := by decide +kernel
theorem d11_56 : dk c11 56 .ireturn 1 := by decide +kernel
theorem ef_11_l (m : MethodId) (x0 : Addr) (x3 : Addr) (x5 : Int32) : entryFrame m #[(.ref x0), (.int (1 : Int32)), (.int (0 : Int32)), (.ref x3), (.int (0 : Int32)), (.int x5)] 9 = mkF m 0 #[.val (.ref x0), .val (.int (1 : Int32)), .val (.int (0 : Int32)), .val (.ref x3), .val (.int (0 : Int32)), .val (.int x5), .unset, .unset, .unset] [] := by first | (simp [entryFrame, mkF, argsToLocals, Value.category]; done) | rfl
theorem rm11_l (l : Launch) (Z : State) (a0 : Array Value) (hw : HW a0 Z) (ws : List Jvm.Cond) (a1 : Addr) (a4 : Addr) (d : Addr) (kd : ClassId) (z : Int32) (B : List Int32) (ds : Addr) (kds : ClassId) (zs : Int32) (Bs : List Int32) (cs : Int32) (h0 : Heap) (n0 : Nat) (O0 : Old Z n0 h0) (E_a1 : ES Z h0 a1) (Fc_a1 : FC Z h0 a1) (Fv_a1 : FV Z h0 a1 d) (V_d : AB Z h0 d kd z B) (hz : ¬ z < 0) (hB : z.toNatClampNeg = B.length) (E_a4 : ES Z h0 a4) (Fc_a4 : FC Z h0 a4) (Fv_a4 : FV Z h0 a4 ds) (V_ds : AB Z h0 ds kds zs Bs) (hzs : ¬ zs < 0) (hBs : zs.toNatClampNeg = Bs.length) (hs3 : Bs.length ≤ 3) (hlt : z.toInt < zs.toInt) (S_CS : SC Z cs) (h_cs : ¬ cs = (0 : Int32)) :
    MFn l mn_14 jdk_42_method_74_code 9 (some .boolean) ws (Rm 2 0 0 27) #[(.ref a1), (.int (1 : Int32)), (.int (0 : Int32)), (.ref a4), (.int (0 : Int32)), (.int zs)] Z h0 (QP h0 (some (.int (0 : Int32)))) := by
  refine MetFree.of_bodySF (plainFor_of_name pn_0) hisR ?_
  intro p e s m args below meth c s₁ Bd hml0 hP hK
  obtain ⟨rfl, hZ, hh⟩ := hP
  have hx := Bd.exec
  have hby := Bd.bytes
  have hml : c.maxLocals = 9 := hml0
  have hown := findClass_of_methodNamed Bd.named
  have X0 : Stand p l e (Rm 2 0 0 27) s m _ below meth c _ [] 0 0 := Stand.of_body Bd
  have e0 : s₁.heap = h0 := by rw [← hh, Bd.state]; rfl
  have pre0 := cast0 (p := p) (e := e) (below := below) (T := s₁) (ef_11_l m a1 a4 zs)
  obtain ⟨cq1, kq1, q1a, q1b, q1c⟩ := isOf hZ e0 E_a1
  obtain ⟨_, _, ⟨T1, L1, k1, n1⟩, -, X1, ⟨Lc1, hQ1, l1, y1, z1⟩, st1⟩ := X0.virtualBack hx (y := mn_11) (z := mn_11) hown (mw hZ hw 56 rfl) (mw hZ hw 42 rfl) (notFace_of_selects (args := #[]) (mw hZ hw 44 rfl)) (mw hZ hw 44 rfl) (mw hZ hw 43 rfl) (by decide) (backOf (W := 2) (rm9 l Z a0 hw [] a1 d kd z B cs h0 n0 O0 E_a1 Fc_a1 Fv_a1 V_d hz hB S_CS h_cs) hZ (ww hw 45 rfl) (ww hw 7 rfl) (by decide) (by decide)) q1a q1c (g := (mkF m 27 #[vR a1, vI 1, vI 0, vR a4, vI 0, vI zs, .unset, .unset, .unset] [iR a1, iJ 0])) rfl (by rw [hml]; rfl) (Steps.refl _) (argsL := []) (rest := [(.long (0 : Int64))]) (lenOf pd_10 rfl) rfl (wz rfl) (hb hby d11_27) (fun _ _ => ⟨rfl, e0, (by decide : 0 + 0 ≤ _), (by decide : 0 + 0 ≤ _)⟩)
  dsimp only [Pt.U, Pt.locs, Pt.cells, Pt.slots] at X1 l1 y1 z1 st1 hQ1
  subst l1 y1 z1
  obtain ⟨rfl, rfl, e1⟩ := hQ1
  try rw [List.append_nil] at X1
  have hh2 : (z.toInt64 - zs.toInt64) < (0 : Int64) := (own_lgt (a := z) (b := zs) (by omega))
  obtain ⟨fs, hr, hrun, hended, hW, hsame⟩ := X1.leave (v := some (.int (0 : Int32))) (fun h => by rw [Bd.returns] at h; cases h)
  refine ⟨_, _, pre0 _ ?_, hrun, hended, _, _, rfl, ?_, ⟨_, rfl⟩, hW, hsame.mono (by decide) (by decide)⟩
  · refine XS.iloadN X0.here hx rfl (hb hby d11_0) rfl ?_
    refine XS.ifYes X0.here hx rfl (pc0 := 1) (pc' := 15) rfl (hb hby d11_1) rfl ((if0 _ _).trans (feq (by decide : ¬ ((1 : Int32) = (0 : Int32)))).2) (by decide) (by decide) ?_
    refine XS.iload X0.here hx rfl (hb hby d11_15) rfl ?_
    refine XS.ifNo X0.here hx rfl (hb hby d11_17) rfl ((if0 _ _).trans (flt (by decide : ¬ ((0 : Int32) < (0 : Int32)))).1) ?_
    refine XS.iloadN X0.here hx rfl (hb hby d11_20) rfl ?_
    refine XS.ifNo X0.here hx rfl (hb hby d11_21) rfl ((if0 _ _).trans (flt (by decide : ¬ ((0 : Int32) < (0 : Int32)))).1) ?_
    show SA s₁ m 24 #[vR a1, vI 1, vI 0, vR a4, vI 0, vI zs, .unset, .unset, .unset] []
    refine XS.iloadN X0.here hx rfl (hb hby d11_24) rfl ?_
    refine XS.i2l X0.here hx rfl (hb hby d11_25) rfl ?_
    show SA s₁ m 26 #[vR a1, vI 1, vI 0, vR a4, vI 0, vI zs, .unset, .unset, .unset] [iJ (0 : Int32).toInt64]
    rw [(by decide : (0 : Int32).toInt64 = (0 : Int64))]
    refine XS.aloadN X0.here hx rfl (hb hby d11_26) rfl rfl ?_
    refine st1.trans ?_
    refine XS.i2l X1.here hx rfl (hb hby d11_30) rfl ?_
    refine XS.iload X1.here hx rfl (hb hby d11_31) rfl ?_
    refine XS.i2l X1.here hx rfl (hb hby d11_33) rfl ?_
    refine XS.lsub X1.here hx rfl (hb hby d11_34) rfl ?_
    refine XS.lcmp X1.here hx rfl (hb hby d11_35) rfl ?_
    refine XS.ifYes X1.here hx rfl (pc0 := 36) (pc' := 55) rfl (hb hby d11_36) rfl ((if0 _ _).trans (tlt ((lw_gt _ _).mpr hh2)).2.2.1) (by decide) (by decide) ?_
    refine XS.iconst X1.here hx rfl (hb hby d11_55) ?_
    show Steps _ _ _ (T1.setTop (mkF m 56 #[vR a1, vI 1, vI 0, vR a4, vI 0, vI zs, .unset, .unset, .unset] [iI 0])) _
    exact retN X1 hx (t := .boolean) Bd.returns (by simp) (hb hby d11_56) hr
  · show QP _ _ _ T1.heap _
    rw [e1]
    exact ⟨rfl, rfl, rfl⟩
theorem d11_39 : dk c11 39 (.iload 4) 2 := by decide +kernel
theorem d11_41 : dk c11 41 .i2l 1 := by decide +kernel
theorem d11_42 : dk c11 42 (.aload_n 3) 1 := by decide +kernel
theorem d11_43 : dk c11 43 (.invokevirtual 505) 3 := by decide +kernel
theorem d11_46 : dk c11 46 .i2l 1 := by decide +kernel
theorem d11_47 : dk c11 47 (.iload 5) 2 := by decide +kernel
theorem d11_49 : dk c11 49 .i2l 1 := by decide +kernel
theorem d11_50 : dk c11 50 .lsub 1 := by decide +kernel
theorem d11_51 : dk c11 51 .lcmp 1 := by decide +kernel
theorem d11_52 : dk c11 52 (.ifCond .le 5) 3 := by decide +kernel
theorem d11_57 : dk c11 57 (.aload_n 0) 1 := by decide +kernel
theorem d11_58 : dk c11 58 (.getfield 9) 3 := by decide +kernel
theorem d11_61 : dk c11 61 (.astore 6) 2 := by decide +kernel
theorem d11_63 : dk c11 63 (.aload_n 3) 1 := by decide +kernel
theorem d11_64 : dk c11 64 (.getfield 9) 3 := by decide +kernel
theorem d11_67 : dk c11 67 (.astore 7) 2 := by decide +kernel
theorem d11_69 : dk c11 69 (.aload_n 0) 1 := by decide +kernel
theorem d11_70 : dk c11 70 (.invokevirtual 335) 3 := by decide +kernel
theorem d11_73 : dk c11 73 (.istore 8) 2 := by decide +kernel
theorem d11_75 : dk c11 75 (.iload 8) 2 := by decide +kernel
theorem d11_77 : dk c11 77 (.aload_n 3) 1 := by decide +kernel
theorem d11_78 : dk c11 78 (.invokevirtual 335) 3 := by decide +kernel
theorem d11_81 : dk c11 81 (.if_icmp .ne 36) 3 := by decide +kernel
theorem d11_84 : dk c11 84 (.iload 8) 2 := by decide +kernel
theorem d11_86 : dk c11 86 (.ifCond .ne 18) 3 := by decide +kernel
theorem d11_89 : dk c11 89 (.aload 6) 2 := by decide +kernel
theorem d11_91 : dk c11 91 (.iload_n 2) 1 := by decide +kernel
theorem d11_92 : dk c11 92 (.aload 7) 2 := by decide +kernel
theorem d11_94 : dk c11 94 (.iload 4) 2 := by decide +kernel
theorem d11_96 : dk c11 96 (.iload 5) 2 := by decide +kernel
theorem d11_98 : dk c11 98 (.invokestatic 613) 3 := by decide +kernel
theorem d11_101 : dk c11 101 (.goto 15) 3 := by decide +kernel
theorem d11_116 : dk c11 116 .ireturn 1 := by decide +kernel
theorem ef_11_g (m : MethodId) (x0 : Addr) (x3 : Addr) (x5 : Int32) : entryFrame m #[(.ref x0), (.int (1 : Int32)), (.int (0 : Int32)), (.ref x3), (.int (0 : Int32)), (.int x5)] 9 = mkF m 0 #[.val (.ref x0), .val (.int (1 : Int32)), .val (.int (0 : Int32)), .val (.ref x3), .val (.int (0 : Int32)), .val (.int x5), .unset, .unset, .unset] [] := by first | (simp [entryFrame, mkF, argsToLocals, Value.category]; done) | rfl
theorem rm11_g (l : Launch) (Z : State) (a0 : Array Value) (hw : HW a0 Z) (ws : List Jvm.Cond) (a1 : Addr) (a4 : Addr) (d : Addr) (kd : ClassId) (z : Int32) (B : List Int32) (ds : Addr) (kds : ClassId) (zs : Int32) (Bs : List Int32) (cs : Int32) (h0 : Heap) (n0 : Nat) (O0 : Old Z n0 h0) (E_a1 : ES Z h0 a1) (Fc_a1 : FC Z h0 a1) (Fv_a1 : FV Z h0 a1 d) (V_d : AB Z h0 d kd z B) (hz : ¬ z < 0) (hB : z.toNatClampNeg = B.length) (E_a4 : ES Z h0 a4) (Fc_a4 : FC Z h0 a4) (Fv_a4 : FV Z h0 a4 ds) (V_ds : AB Z h0 ds kds zs Bs) (hzs : ¬ zs < 0) (hBs : zs.toNatClampNeg = Bs.length) (hs3 : Bs.length ≤ 3) (hge : zs.toInt ≤ z.toInt) (S_CS : SC Z cs) (h_cs : ¬ cs = (0 : Int32)) :
    MFn l mn_14 jdk_42_method_74_code 9 (some .boolean) ws (Rm 2 0 0 33) #[(.ref a1), (.int (1 : Int32)), (.int (0 : Int32)), (.ref a4), (.int (0 : Int32)), (.int zs)] Z h0 (QP h0 (some (.int (nar .boolean (own_rcS B Bs))))) := by
  refine MetFree.of_bodySF (plainFor_of_name pn_0) hisR ?_
  intro p e s m args below meth c s₁ Bd hml0 hP hK
  obtain ⟨rfl, hZ, hh⟩ := hP
  have hx := Bd.exec
  have hby := Bd.bytes
  have hml : c.maxLocals = 9 := hml0
  have hown := findClass_of_methodNamed Bd.named
  have X0 : Stand p l e (Rm 2 0 0 33) s m _ below meth c _ [] 0 0 := Stand.of_body Bd
  have e0 : s₁.heap = h0 := by rw [← hh, Bd.state]; rfl
  have pre0 := cast0 (p := p) (e := e) (below := below) (T := s₁) (ef_11_g m a1 a4 zs)
  obtain ⟨cq1, kq1, q1a, q1b, q1c⟩ := isOf hZ e0 E_a1
  obtain ⟨_, _, ⟨T1, L1, k1, n1⟩, -, X1, ⟨Lc1, hQ1, l1, y1, z1⟩, st1⟩ := X0.virtualBack hx (y := mn_11) (z := mn_11) hown (mw hZ hw 56 rfl) (mw hZ hw 42 rfl) (notFace_of_selects (args := #[]) (mw hZ hw 44 rfl)) (mw hZ hw 44 rfl) (mw hZ hw 43 rfl) (by decide) (backOf (W := 2) (rm9 l Z a0 hw [] a1 d kd z B cs h0 n0 O0 E_a1 Fc_a1 Fv_a1 V_d hz hB S_CS h_cs) hZ (ww hw 45 rfl) (ww hw 7 rfl) (by decide) (by decide)) q1a q1c (g := (mkF m 27 #[vR a1, vI 1, vI 0, vR a4, vI 0, vI zs, .unset, .unset, .unset] [iR a1, iJ 0])) rfl (by rw [hml]; rfl) (Steps.refl _) (argsL := []) (rest := [(.long (0 : Int64))]) (lenOf pd_10 rfl) rfl (wz rfl) (hb hby d11_27) (fun _ _ => ⟨rfl, e0, (by decide : 0 + 0 ≤ _), (by decide : 0 + 0 ≤ _)⟩)
  dsimp only [Pt.U, Pt.locs, Pt.cells, Pt.slots] at X1 l1 y1 z1 st1 hQ1
  subst l1 y1 z1
  obtain ⟨rfl, rfl, e1⟩ := hQ1
  try rw [List.append_nil] at X1
  have hh2 : ¬ ((z.toInt64 - zs.toInt64) < (0 : Int64)) := (own_lge (a := z) (b := zs) (by omega))
  obtain ⟨cq3, kq3, q3a, q3b, q3c⟩ := isOf hZ e1 E_a4
  obtain ⟨_, _, ⟨T3, L3, k3, n3⟩, -, X3, ⟨Lc3, hQ3, l3, y3, z3⟩, st3⟩ := X1.virtualBack hx (y := mn_11) (z := mn_11) hown (mw hZ hw 56 rfl) (mw hZ hw 42 rfl) (notFace_of_selects (args := #[]) (mw hZ hw 44 rfl)) (mw hZ hw 44 rfl) (mw hZ hw 43 rfl) (by decide) (backOf (W := 2) (rm9 l Z a0 hw [] a4 ds kds zs Bs cs h0 n0 O0 E_a4 Fc_a4 Fv_a4 V_ds hzs hBs S_CS h_cs) hZ (ww hw 45 rfl) (ww hw 7 rfl) (by decide) (by decide)) q3a q3c (g := (mkF m 43 #[vR a1, vI 1, vI 0, vR a4, vI 0, vI zs, .unset, .unset, .unset] [iR a4, iJ 0])) rfl (by rw [hml]; rfl) (Steps.refl _) (argsL := []) (rest := [(.long (0 : Int64))]) (lenOf pd_10 rfl) rfl (wz rfl) (hb hby d11_43) (fun _ _ => ⟨rfl, e1, (by decide : 0 + 0 ≤ _), (by decide : 0 + 0 ≤ _)⟩)
  dsimp only [Pt.U, Pt.locs, Pt.cells, Pt.slots] at X3 l3 y3 z3 st3 hQ3
  subst l3 y3 z3
  obtain ⟨rfl, rfl, e3⟩ := hQ3
  try rw [List.append_nil] at X3
  have hh4 : ¬ ((zs.toInt64 - zs.toInt64) < (0 : Int64)) := (own_lge (a := zs) (b := zs) (Int.le_refl _))
  obtain ⟨T5, X5, e5, st5⟩ := gF X3 hx hZ hown (ww hw 32 rfl) e3 Fv_a1 (g := (mkF m 58 #[vR a1, vI 1, vI 0, vR a4, vI 0, vI zs, .unset, .unset, .unset] [iR a1])) rfl rfl (hb hby d11_58)
  obtain ⟨T6, X6, e6, st6⟩ := gF X5 hx hZ hown (ww hw 32 rfl) e5 Fv_a4 (g := (mkF m 64 #[vR a1, vI 1, vI 0, vR a4, vI 0, vI zs, vR d, .unset, .unset] [iR a4])) rfl rfl (hb hby d11_64)
  obtain ⟨cq7, kq7, q7a, q7b, q7c⟩ := isOf hZ e6 E_a1
  obtain ⟨_, _, ⟨T7, L7, k7, n7⟩, -, X7, ⟨Lc7, hQ7, l7, y7, z7⟩, st7⟩ := X6.virtualBack hx (y := mn_10) (z := mn_10) hown (mw hZ hw 46 rfl) (mw hZ hw 47 rfl) (notFace_of_selects (args := #[]) (mw hZ hw 49 rfl)) (mw hZ hw 49 rfl) (mw hZ hw 48 rfl) (by decide) (backOf (W := 0) (rm10 l Z a0 hw [] a1 cs h0 n0 O0 Fc_a1 S_CS h_cs) hZ (ww hw 50 rfl) (ww hw 7 rfl) (by decide) (by decide)) q7a q7c (g := (mkF m 70 #[vR a1, vI 1, vI 0, vR a4, vI 0, vI zs, vR d, vR ds, .unset] [iR a1])) rfl (by rw [hml]; rfl) (Steps.refl _) (argsL := []) (rest := []) (lenOf pd_8 rfl) rfl (wz rfl) (hb hby d11_70) (fun _ _ => ⟨rfl, e6, (by decide : 0 + 0 ≤ _), (by decide : 0 + 0 ≤ _)⟩)
  dsimp only [Pt.U, Pt.locs, Pt.cells, Pt.slots] at X7 l7 y7 z7 st7 hQ7
  subst l7 y7 z7
  obtain ⟨rfl, rfl, e7⟩ := hQ7
  try rw [List.append_nil] at X7
  obtain ⟨cq8, kq8, q8a, q8b, q8c⟩ := isOf hZ e7 E_a4
  obtain ⟨_, _, ⟨T8, L8, k8, n8⟩, -, X8, ⟨Lc8, hQ8, l8, y8, z8⟩, st8⟩ := X7.virtualBack hx (y := mn_10) (z := mn_10) hown (mw hZ hw 46 rfl) (mw hZ hw 47 rfl) (notFace_of_selects (args := #[]) (mw hZ hw 49 rfl)) (mw hZ hw 49 rfl) (mw hZ hw 48 rfl) (by decide) (backOf (W := 1) (rm10 l Z a0 hw [] a4 cs h0 n0 O0 Fc_a4 S_CS h_cs) hZ (ww hw 50 rfl) (ww hw 7 rfl) (by decide) (by decide)) q8a q8c (g := (mkF m 78 #[vR a1, vI 1, vI 0, vR a4, vI 0, vI zs, vR d, vR ds, vI 0] [iR a4, iI 0])) rfl (by rw [hml]; rfl) (Steps.refl _) (argsL := []) (rest := [(.int (0 : Int32))]) (lenOf pd_8 rfl) rfl (wz rfl) (hb hby d11_78) (fun _ _ => ⟨rfl, e7, (by decide : 0 + 0 ≤ _), (by decide : 0 + 0 ≤ _)⟩)
  dsimp only [Pt.U, Pt.locs, Pt.cells, Pt.slots] at X8 l8 y8 z8 st8 hQ8
  subst l8 y8 z8
  obtain ⟨rfl, rfl, e8⟩ := hQ8
  try rw [List.append_nil] at X8
  obtain ⟨_, _, ⟨T9, L9, k9, n9⟩, -, X9, ⟨Lc9, hQ9, l9, y9, z9⟩, st9⟩ := Jvm.LawKit.callS X8 hx (y := mn_13) hown (mw hZ hw 57 rfl) (mw hZ hw 58 rfl) (mw hZ hw 59 rfl) (mw hZ hw 60 rfl) (by decide) (backOf (W := 0) (rm12 l Z a0 hw [] d ds zs kd kds z B Bs h0 V_d V_ds hzs hBs hs3 hge) hZ (ww hw 60 rfl) (ww hw 59 rfl) (by decide) (by decide)) (g := (mkF m 98 #[vR a1, vI 1, vI 0, vR a4, vI 0, vI zs, vR d, vR ds, vI 0] [iI zs, iI 0, iR ds, iI 0, iR d])) rfl (by rw [hml]; rfl) (argsL := [(.ref d), (.int (0 : Int32)), (.ref ds), (.int (0 : Int32)), (.int zs)]) (rest := []) (lenOf pd_11 rfl) rfl (wz rfl) (hb hby d11_98) (fun _ _ => ⟨rfl, e8, (by decide : 0 + 0 ≤ _), (by decide : 0 + 0 ≤ _)⟩)
  dsimp only [Pt.U, Pt.locs, Pt.cells, Pt.slots] at X9 l9 y9 z9 st9 hQ9
  subst l9 y9 z9
  obtain ⟨rfl, rfl, e9⟩ := hQ9
  try rw [List.append_nil] at X9
  obtain ⟨fs, hr, hrun, hended, hW, hsame⟩ := X9.leave (v := some (.int (nar .boolean (own_rcS B Bs)))) (fun h => by rw [Bd.returns] at h; cases h)
  refine ⟨_, _, pre0 _ ?_, hrun, hended, _, _, rfl, ?_, ⟨_, rfl⟩, hW, hsame.mono (by decide) (by decide)⟩
  · refine XS.iloadN X0.here hx rfl (hb hby d11_0) rfl ?_
    refine XS.ifYes X0.here hx rfl (pc0 := 1) (pc' := 15) rfl (hb hby d11_1) rfl ((if0 _ _).trans (feq (by decide : ¬ ((1 : Int32) = (0 : Int32)))).2) (by decide) (by decide) ?_
    refine XS.iload X0.here hx rfl (hb hby d11_15) rfl ?_
    refine XS.ifNo X0.here hx rfl (hb hby d11_17) rfl ((if0 _ _).trans (flt (by decide : ¬ ((0 : Int32) < (0 : Int32)))).1) ?_
    refine XS.iloadN X0.here hx rfl (hb hby d11_20) rfl ?_
    refine XS.ifNo X0.here hx rfl (hb hby d11_21) rfl ((if0 _ _).trans (flt (by decide : ¬ ((0 : Int32) < (0 : Int32)))).1) ?_
    show SA s₁ m 24 #[vR a1, vI 1, vI 0, vR a4, vI 0, vI zs, .unset, .unset, .unset] []
    refine XS.iloadN X0.here hx rfl (hb hby d11_24) rfl ?_
    refine XS.i2l X0.here hx rfl (hb hby d11_25) rfl ?_
    show SA s₁ m 26 #[vR a1, vI 1, vI 0, vR a4, vI 0, vI zs, .unset, .unset, .unset] [iJ (0 : Int32).toInt64]
    rw [(by decide : (0 : Int32).toInt64 = (0 : Int64))]
    refine XS.aloadN X0.here hx rfl (hb hby d11_26) rfl rfl ?_
    refine st1.trans ?_
    refine XS.i2l X1.here hx rfl (hb hby d11_30) rfl ?_
    refine XS.iload X1.here hx rfl (hb hby d11_31) rfl ?_
    refine XS.i2l X1.here hx rfl (hb hby d11_33) rfl ?_
    refine XS.lsub X1.here hx rfl (hb hby d11_34) rfl ?_
    refine XS.lcmp X1.here hx rfl (hb hby d11_35) rfl ?_
    refine XS.ifNo X1.here hx rfl (hb hby d11_36) rfl ((if0 _ _).trans (flt (mt (lw_gt _ _).mp hh2)).2.2.1) ?_
    refine XS.iload X1.here hx rfl (hb hby d11_39) rfl ?_
    refine XS.i2l X1.here hx rfl (hb hby d11_41) rfl ?_
    show SA T1 m 42 #[vR a1, vI 1, vI 0, vR a4, vI 0, vI zs, .unset, .unset, .unset] [iJ (0 : Int32).toInt64]
    rw [(by decide : (0 : Int32).toInt64 = (0 : Int64))]
    refine XS.aloadN X1.here hx rfl (hb hby d11_42) rfl rfl ?_
    refine st3.trans ?_
    refine XS.i2l X3.here hx rfl (hb hby d11_46) rfl ?_
    refine XS.iload X3.here hx rfl (hb hby d11_47) rfl ?_
    refine XS.i2l X3.here hx rfl (hb hby d11_49) rfl ?_
    refine XS.lsub X3.here hx rfl (hb hby d11_50) rfl ?_
    refine XS.lcmp X3.here hx rfl (hb hby d11_51) rfl ?_
    refine XS.ifYes X3.here hx rfl (pc0 := 52) (pc' := 57) rfl (hb hby d11_52) rfl ((if0 _ _).trans (flt (mt (lw_gt _ _).mp hh4)).2.2.2) (by decide) (by decide) ?_
    refine XS.aloadN X3.here hx rfl (hb hby d11_57) rfl rfl ?_
    refine st5 _ ?_
    refine XS.astore X5.here hx rfl (hb hby d11_61) rfl rfl (l' := #[vR a1, vI 1, vI 0, vR a4, vI 0, vI zs, vR d, .unset, .unset]) rfl ?_
    refine XS.aloadN X5.here hx rfl (hb hby d11_63) rfl rfl ?_
    refine st6 _ ?_
    refine XS.astore X6.here hx rfl (hb hby d11_67) rfl rfl (l' := #[vR a1, vI 1, vI 0, vR a4, vI 0, vI zs, vR d, vR ds, .unset]) rfl ?_
    refine XS.aloadN X6.here hx rfl (hb hby d11_69) rfl rfl ?_
    refine st7.trans ?_
    refine XS.istore X7.here hx rfl (hb hby d11_73) rfl (l' := #[vR a1, vI 1, vI 0, vR a4, vI 0, vI zs, vR d, vR ds, vI 0]) rfl ?_
    refine XS.iload X7.here hx rfl (hb hby d11_75) rfl ?_
    refine XS.aloadN X7.here hx rfl (hb hby d11_77) rfl rfl ?_
    refine st8.trans ?_
    refine XS.icmpNo X8.here hx rfl (hb hby d11_81) rfl (teq (by decide : (0 : Int32) = (0 : Int32))).2 ?_
    refine XS.iload X8.here hx rfl (hb hby d11_84) rfl ?_
    refine XS.ifNo X8.here hx rfl (hb hby d11_86) rfl ((if0 _ _).trans (teq (by decide : (0 : Int32) = (0 : Int32))).2) ?_
    refine XS.aload X8.here hx rfl (hb hby d11_89) rfl rfl ?_
    refine XS.iloadN X8.here hx rfl (hb hby d11_91) rfl ?_
    refine XS.aload X8.here hx rfl (hb hby d11_92) rfl rfl ?_
    refine XS.iload X8.here hx rfl (hb hby d11_94) rfl ?_
    refine XS.iload X8.here hx rfl (hb hby d11_96) rfl ?_
    show SA T8 m 98 #[vR a1, vI 1, vI 0, vR a4, vI 0, vI zs, vR d, vR ds, vI 0] [iI zs, iI 0, iR ds, iI 0, iR d]
    refine st9 _ ?_
    refine XS.goto X9.here hx rfl (pc0 := 101) (pc' := 116) rfl (hb hby d11_101) (by decide) (by decide) ?_
    show Steps _ _ _ (T9.setTop (mkF m 116 #[vR a1, vI 1, vI 0, vR a4, vI 0, vI zs, vR d, vR ds, vI 0] [iI (own_rcS B Bs)])) _
    exact retN X9 hx (t := .boolean) Bd.returns (by simp) (hb hby d11_116) hr
  · show QP _ _ _ T9.heap _
    rw [e9]
    exact ⟨rfl, rfl, rfl⟩
def own_min (p1 : Int32) (p2 : Int32) : Int32 := (if p2 < p1 then p2 else p1)
theorem d32_0 : dk c32 0 (.iload_n 0) 1 := by decide +kernel
theorem d32_1 : dk c32 1 (.iload_n 1) 1 := by decide +kernel
theorem d32_2 : dk c32 2 (.if_icmp .gt 7) 3 := by decide +kernel
theorem d32_5 : dk c32 5 (.iload_n 0) 1 := by decide +kernel
theorem d32_6 : dk c32 6 (.goto 4) 3 := by decide +kernel
theorem d32_9 : dk c32 9 (.iload_n 1) 1 := by decide +kernel
theorem d32_10 : dk c32 10 .ireturn 1 := by decide +kernel
theorem ef_32 (m : MethodId) (x0 : Int32) (x1 : Int32) : entryFrame m #[(.int x0), (.int x1)] 2 = mkF m 0 #[.val (.int x0), .val (.int x1)] [] := by first | (simp [entryFrame, mkF, argsToLocals, Value.category]; done) | rfl
theorem rm32 (l : Launch) (Z : State) (a0 : Array Value) (hw : HW a0 Z) (ws : List Jvm.Cond) (p1 : Int32) (p2 : Int32) (h0 : Heap) :
    MFn l mn_15 jdk_29_method_69_code 2 (some .int) ws (Rm 0 0 0 0) #[(.int p1), (.int p2)] Z h0 (QP h0 (some (.int (own_min p1 p2)))) := by
  refine MetFree.of_bodySF (Jvm.Free.JP.mathPlain rfl (by decide +kernel)) hisR ?_
  intro p e s m args below meth c s₁ Bd hml0 hP hK
  obtain ⟨rfl, hZ, hh⟩ := hP
  have hx := Bd.exec
  have hby := Bd.bytes
  have hml : c.maxLocals = 2 := hml0
  have hown := findClass_of_methodNamed Bd.named
  have X0 : Stand p l e (Rm 0 0 0 0) s m _ below meth c _ [] 0 0 := Stand.of_body Bd
  have e0 : s₁.heap = h0 := by rw [← hh, Bd.state]; rfl
  have pre0 := cast0 (p := p) (e := e) (below := below) (T := s₁) (ef_32 m p1 p2)
  obtain ⟨v1, hv1⟩ : ∃ z : Int32, z = (if p2 < p1 then p2 else p1) := ⟨_, rfl⟩
  obtain ⟨T2, X2, e2, st2⟩ : own_Mid X0 h0 (mkF m 2 #[vI p1, vI p2] [iI p2, iI p1]) (mkF m 10 #[vI p1, vI p2] [iI v1]) := by
    by_cases hc3 : p2 < p1
    · refine ⟨s₁, X0, e0, fun t kt => ?_⟩
      subst hv1
      simp only [if_pos hc3] at kt
      refine XS.icmpYes X0.here hx rfl (pc0 := 2) (pc' := 9) rfl (hb hby d32_2) rfl (tlt hc3).2.2.1 (by decide) (by decide) ?_
      refine XS.iloadN X0.here hx rfl (hb hby d32_9) rfl ?_
      exact kt
    · refine ⟨s₁, X0, e0, fun t kt => ?_⟩
      subst hv1
      simp only [if_neg hc3] at kt
      refine XS.icmpNo X0.here hx rfl (hb hby d32_2) rfl (flt hc3).2.2.1 ?_
      refine XS.iloadN X0.here hx rfl (hb hby d32_5) rfl ?_
      refine XS.goto X0.here hx rfl (pc0 := 6) (pc' := 10) rfl (hb hby d32_6) (by decide) (by decide) ?_
      exact kt
  obtain ⟨fs, hr, hrun, hended, hW, hsame⟩ := X2.leave (v := some (.int v1)) (fun h => by rw [Bd.returns] at h; cases h)
  refine ⟨_, _, pre0 _ ?_, hrun, hended, _, _, rfl, ?_, ⟨_, rfl⟩, hW, hsame.mono (by decide) (by decide)⟩
  · refine XS.iloadN X0.here hx rfl (hb hby d32_0) rfl ?_
    refine XS.iloadN X0.here hx rfl (hb hby d32_1) rfl ?_
    refine st2 _ ?_
    show Steps _ _ _ (T2.setTop (mkF m 10 #[vI p1, vI p2] [iI v1])) _
    exact retI X2 hx Bd.returns (hb hby d32_10) hr
  · show QP _ _ _ T2.heap _
    rw [e2]
    exact ⟨by subst hv1; first | rfl | (simp only [own_min]; done) | (simp only [own_min]; rfl) | (simp only [own_min, nar] ; first | rfl | (simp; done) | decide), rfl, rfl⟩
theorem rm32_e (l : Launch) (Z : State) (a0 : Array Value) (hw : HW a0 Z) (ws : List Jvm.Cond) (p1 : Int32) (p2 : Int32) (r : Int32) (h0 : Heap) (hr : own_min p1 p2 = r) :
    MFn l mn_15 jdk_29_method_69_code 2 (some .int) ws (Rm 0 0 0 0) #[(.int p1), (.int p2)] Z h0 (QP h0 (some (.int r))) := by
  subst hr
  exact rm32 l Z a0 hw ws p1 p2 h0
theorem own_minL {a b : Int32} (h : a < b) : own_min a b = a := by
  unfold own_min
  rw [Int32.lt_iff_toInt_lt] at h
  split
  · next q => rw [Int32.lt_iff_toInt_lt] at q; omega
  · rfl
theorem own_ltN {a b : Int32} (h0 : ¬ a < 0) (h : a < b) : a.toNatClampNeg ≤ b.toNatClampNeg ∧ ¬ b = a ∧ ¬ b < 0 := by
  have e0 : (0 : Int32).toInt = 0 := rfl
  refine ⟨?_, fun e => ?_, ?_⟩
  · rw [Int32.lt_iff_toInt_lt] at *; simp only [Int32.toNatClampNeg]; omega
  · rw [e, Int32.lt_iff_toInt_lt] at h; omega
  · rw [Int32.lt_iff_toInt_lt] at *; omega
theorem own_subE {a b c : Int32} (h : a.toInt = b.toInt + c.toInt) : a - b = c := by
  apply Int32.toInt_inj.mp
  have q := c_isub a b
  have r := rng32 (a - b)
  have r2 := rng32 c
  omega
theorem own_addI {a b : Int32} (h1 : 0 ≤ a.toInt ∧ a.toInt ≤ 1000) (h2 : 0 ≤ b.toInt ∧ b.toInt ≤ 1000) : (a + b).toInt = a.toInt + b.toInt := by
  have q := c_iadd a b
  have r := rng32 (a + b)
  omega
theorem own_cpR {Z : State} {h : Heap} {b : Addr} {k : ClassId} {nc sp : Int32} {A : List Int32} {m : Nat} (hA : sp.toNatClampNeg + nc.toNatClampNeg ≤ A.length)
    (F : Arv Z h b k .byte nc (([] ++ List.replicate m (Value.int (0 : Int32))).take (0 : Int32).toNatClampNeg ++ ((List.range nc.toNatClampNeg).map fun i => (own_bs A).getD (sp.toNatClampNeg + i) (.int (0 : Int32))) ++ ([] ++ List.replicate m (Value.int (0 : Int32))).drop ((0 : Int32).toNatClampNeg + nc.toNatClampNeg)) (.int (0 : Int32))) : AB Z h b k nc ((A.drop sp.toNatClampNeg).take nc.toNatClampNeg) := by
  refine F.pad fun i => ?_
  rw [own_z0]
  simp only [List.take_zero, List.nil_append, List.drop_replicate, Nat.zero_add]
  rw [pad_rep]
  simp only [List.getD_eq_getElem?_getD, List.getElem?_map, List.getElem?_take, List.getElem?_drop]
  by_cases q : i < nc.toNatClampNeg
  · rw [if_pos q, List.getElem?_range q]; simp
  · rw [if_neg q, List.getElem?_eq_none (l := List.range _) (by simpa using q)]; rfl

theorem own_minE {a b : Int32} (h : b.toInt ≤ a.toInt) : own_min a b = b := by
  unfold own_min
  split
  · rfl
  · next q => rw [Int32.lt_iff_toInt_lt] at q; exact Int32.toInt_inj.mp (by omega)
theorem d31_0 : dk c31 0 (.iload_n 1) 1 := by decide +kernel
theorem d31_1 : dk c31 1 (.iload_n 0) 1 := by decide +kernel
theorem d31_2 : dk c31 2 (.if_icmp .ge 35) 3 := by decide +kernel
theorem d31_37 : dk c31 37 .return_ 1 := by decide +kernel
theorem pn_5 : plainName "java/util/Arrays" = true := by first | (simp [plainName, overriddenIn]; done) | decide +kernel
theorem ef_31 (m : MethodId) (x0 : Int32) (x1 : Int32) : entryFrame m #[(.int x0), (.int x1)] 2 = mkF m 0 #[.val (.int x0), .val (.int x1)] [] := by first | (simp [entryFrame, mkF, argsToLocals, Value.category]; done) | rfl
theorem rm31 (l : Launch) (Z : State) (a0 : Array Value) (hw : HW a0 Z) (ws : List Jvm.Cond) (p1 : Int32) (p2 : Int32) (h0 : Heap) (hk : ¬ p2 < p1) :
    MFn l mn_16 jdk_65_method_131_code 2 none ws (Rm 0 0 0 0) #[(.int p1), (.int p2)] Z h0 (QP h0 none) := by
  refine MetFree.of_bodySF (plainFor_of_name pn_5) hisR ?_
  intro p e s m args below meth c s₁ Bd hml0 hP hK
  obtain ⟨rfl, hZ, hh⟩ := hP
  have hx := Bd.exec
  have hby := Bd.bytes
  have hml : c.maxLocals = 2 := hml0
  have hown := findClass_of_methodNamed Bd.named
  have X0 : Stand p l e (Rm 0 0 0 0) s m _ below meth c _ [] 0 0 := Stand.of_body Bd
  have e0 : s₁.heap = h0 := by rw [← hh, Bd.state]; rfl
  have pre0 := cast0 (p := p) (e := e) (below := below) (T := s₁) (ef_31 m p1 p2)
  obtain ⟨fs, hr, hrun, hended, hW, hsame⟩ := X0.leave (v := none) (fun _ => rfl)
  refine ⟨_, _, pre0 _ ?_, hrun, hended, _, _, rfl, ?_, ⟨_, rfl⟩, hW, hsame.mono (by decide) (by decide)⟩
  · refine XS.iloadN X0.here hx rfl (hb hby d31_0) rfl ?_
    refine XS.iloadN X0.here hx rfl (hb hby d31_1) rfl ?_
    refine XS.icmpYes X0.here hx rfl (pc0 := 2) (pc' := 37) rfl (hb hby d31_2) rfl (flt hk).2.1 (by decide) (by decide) ?_
    show Steps _ _ _ (s₁.setTop (mkF m 37 #[vI p1, vI p2] [])) _
    exact X0.returnOut hx Bd.returns (hb hby d31_37) hr
  · show QP _ _ _ s₁.heap _
    rw [e0]
    exact ⟨rfl, rfl, rfl⟩
theorem d30_0 : dk c30 0 (.iload_n 1) 1 := by decide +kernel
theorem d30_1 : dk c30 1 (.iload_n 2) 1 := by decide +kernel
theorem d30_2 : dk c30 2 (.invokestatic 343) 3 := by decide +kernel
theorem d30_5 : dk c30 5 (.iload_n 2) 1 := by decide +kernel
theorem d30_6 : dk c30 6 (.iload_n 1) 1 := by decide +kernel
theorem d30_7 : dk c30 7 .isub 1 := by decide +kernel
theorem d30_8 : dk c30 8 (.istore_n 3) 1 := by decide +kernel
theorem d30_9 : dk c30 9 (.iload_n 3) 1 := by decide +kernel
theorem d30_10 : dk c30 10 (.newarray .byte) 2 := by decide +kernel
theorem d30_12 : dk c30 12 (.astore 4) 2 := by decide +kernel
theorem d30_14 : dk c30 14 (.aload_n 0) 1 := by decide +kernel
theorem d30_15 : dk c30 15 (.iload_n 1) 1 := by decide +kernel
theorem d30_16 : dk c30 16 (.aload 4) 2 := by decide +kernel
theorem d30_18 : dk c30 18 (.iconst 0) 1 := by decide +kernel
theorem d30_19 : dk c30 19 (.aload_n 0) 1 := by decide +kernel
theorem d30_20 : dk c30 20 .arraylength 1 := by decide +kernel
theorem d30_21 : dk c30 21 (.iload_n 1) 1 := by decide +kernel
theorem d30_22 : dk c30 22 .isub 1 := by decide +kernel
theorem d30_23 : dk c30 23 (.iload_n 3) 1 := by decide +kernel
theorem d30_24 : dk c30 24 (.invokestatic 304) 3 := by decide +kernel
theorem d30_27 : dk c30 27 (.invokestatic 150) 3 := by decide +kernel
theorem d30_30 : dk c30 30 (.aload 4) 2 := by decide +kernel
theorem d30_32 : dk c30 32 .areturn 1 := by decide +kernel
theorem ef_30 (m : MethodId) (x0 : Addr) (x1 : Int32) (x2 : Int32) : entryFrame m #[(.ref x0), (.int x1), (.int x2)] 5 = mkF m 0 #[.val (.ref x0), .val (.int x1), .val (.int x2), .unset, .unset] [] := by first | (simp [entryFrame, mkF, argsToLocals, Value.category]; done) | rfl
def Q30 (Z : State) (a1 : Addr) (p2 : Int32) (p3 : Int32) (kb : ClassId) (z n : Int32) (A : List Int32) (h0 : Heap) (n0 : Nat) (v : Option Value) (h : Heap) (L : List Loc) : Prop := ∃ (o : Addr) (ko : ClassId), v = some (.ref o) ∧ Fr n0 L ∧ Keep h0 h [] ∧ AB Z h o ko n ((A.drop p2.toNatClampNeg).take n.toNatClampNeg) ∧ h0.size ≤ o
theorem rm30 (l : Launch) (Z : State) (a0 : Array Value) (hw : HW a0 Z) (ws : List Jvm.Cond) (a1 : Addr) (p2 : Int32) (p3 : Int32) (kb : ClassId) (z n : Int32) (A : List Int32) (h0 : Heap) (n0 : Nat) (Z0 : n0 ≤ h0.size) (V_b : AB Z h0 a1 kb z A) (hf : 1 ≤ p2.toInt ∧ p2.toInt ≤ 6) (hn : 1 ≤ n.toInt ∧ n.toInt ≤ 6) (hnt : p3.toInt = p2.toInt + n.toInt) (hzt : p3.toInt ≤ z.toInt) (hA : z.toNatClampNeg = A.length) :
    MFn l mn_17 jdk_65_method_133_code 5 (some (.array .byte)) ws (Rm 1 1 6 18) #[(.ref a1), (.int p2), (.int p3)] Z h0 (Q30 Z a1 p2 p3 kb z n A h0 n0) := by
  refine MetFree.of_bodySF (plainFor_of_name pn_5) hisR ?_
  intro p e s m args below meth c s₁ Bd hml0 hP hK
  obtain ⟨rfl, hZ, hh⟩ := hP
  have hx := Bd.exec
  have hby := Bd.bytes
  have hml : c.maxLocals = 5 := hml0
  have hown := findClass_of_methodNamed Bd.named
  have X0 : Stand p l e (Rm 1 1 6 18) s m _ below meth c _ [] 0 0 := Stand.of_body Bd
  have e0 : s₁.heap = h0 := by rw [← hh, Bd.state]; rfl
  have N0 := Fr.nil n0
  have K0 := Keep.refl h0 []
  have pre0 := cast0 (p := p) (e := e) (below := below) (T := s₁) (ef_30 m a1 p2 p3)
  obtain ⟨zm, hzm⟩ : ∃ q : Int32, z - p2 = q := ⟨_, rfl⟩
  have hmn : n.toInt ≤ zm.toInt := by have q := c_isub z p2; have r := rng32 zm; rw [hzm] at q; have r2 := rng32 z; omega
  obtain ⟨_, _, ⟨T1, L1, k1, n1⟩, -, X1, ⟨Lc1, hQ1, l1, y1, z1⟩, st1⟩ := Jvm.LawKit.callS X0 hx (y := mn_16) hown (mw hZ hw 140 rfl) (mw hZ hw 141 rfl) (mw hZ hw 135 rfl) (mw hZ hw 142 rfl) (by decide) (backOf (W := 0) (rm31 l Z a0 hw [] p2 p3 h0 (own_nlt (by omega))) hZ (ww hw 142 rfl) (ww hw 135 rfl) (by decide) (by decide)) (g := (mkF m 2 #[vR a1, vI p2, vI p3, .unset, .unset] [iI p3, iI p2])) rfl (by rw [hml]; rfl) (argsL := [(.int p2), (.int p3)]) (rest := []) (lenOf pd_1 rfl) rfl (wz rfl) (hb hby d30_2) (fun _ _ => ⟨rfl, e0, (by decide : 0 + 0 ≤ _), (by decide : 0 + 0 ≤ _)⟩)
  dsimp only [Pt.U, Pt.locs, Pt.cells, Pt.slots] at X1 l1 y1 z1 st1 hQ1
  subst l1 y1 z1
  obtain ⟨rfl, rfl, e1⟩ := hQ1
  try rw [List.append_nil] at X1
  obtain ⟨T2, h2, k2, X2, e2, E2, A2, st2⟩ := newP X1 hx hZ (ww hw 23 rfl) e1 (g := (mkF m 10 #[vR a1, vI p2, vI p3, vI n, .unset] [iI n])) rfl (hb hby d30_10) rfl (own_nneg (by omega)) (cap := 6) (by simp only [Int32.toNatClampNeg]; omega) (by decide) (by decide) (by decide)
  obtain ⟨b2, g2⟩ : ∃ z, z = h0.size := ⟨_, rfl⟩
  rw [← g2] at A2 st2
  have ne_a1_b2 := neB V_b.lt g2
  have sz_b2 := szB K0.1 g2
  have g_b2 := Nat.le_trans Z0 sz_b2
  have K2 := K0.ext E2
  have V2 : Arv Z h2 b2 k2 .byte n [] (.int (0 : Int32)) := (Arv.new A2 (own_nneg (by omega))).pad (pad_rep [] (.int (0 : Int32)) 0)
  have fk3 := (V_b.ext E2)
  obtain ⟨cl4, Ar4, q4, S4, M4, H4, G4⟩ := id fk3
  obtain ⟨_, _, ⟨T5, L5, k5, n5⟩, -, X5, ⟨Lc5, hQ5, l5, y5, z5⟩, st5⟩ := Jvm.LawKit.callS X2 hx (y := mn_15) hown (mw hZ hw 143 rfl) (mw hZ hw 144 rfl) (mw hZ hw 145 rfl) (mw hZ hw 146 rfl) (by decide) (backOf (W := 4) (rm32_e l Z a0 hw [] zm n n h2 (own_minE hmn)) hZ (ww hw 146 rfl) (ww hw 145 rfl) (by decide) (by decide)) (g := (mkF m 24 #[vR a1, vI p2, vI p3, vI n, vR b2] [iI n, iI zm, iI 0, iR b2, iI p2, iR a1])) rfl (by rw [hml]; rfl) (argsL := [(.int zm), (.int n)]) (rest := [(.int (0 : Int32)), (.ref b2), (.int p2), (.ref a1)]) (lenOf pd_12 rfl) rfl (wz rfl) (hb hby d30_24) (fun _ _ => ⟨rfl, e2, (by decide : 1 + 0 ≤ _), (by decide : 6 + 0 ≤ _)⟩)
  dsimp only [Pt.U, Pt.locs, Pt.cells, Pt.slots] at X5 l5 y5 z5 st5 hQ5
  subst l5 y5 z5
  obtain ⟨rfl, rfl, e5⟩ := hQ5
  try rw [List.append_nil] at X5
  obtain ⟨T6, h6, L6, X6, e6, N6, K6q, V6q, st6⟩ := cpA X5 hx hZ hown (ww hw 147 rfl) (ww hw 150 rfl) (ww hw 148 rfl) (ww hw 149 rfl) e5 fk3 (V2.pad (pad_rep [] _ n.toNatClampNeg)) (Or.inl ⟨rfl, rfl⟩) (own_nneg (by omega)) (by decide) (own_nneg (by omega)) (by simp only [Int32.toNatClampNeg]; omega) (by rw [own_z0, Nat.zero_add]; exact Nat.le_refl _) rfl (by rw [own_z0, List.length_append, List.length_replicate]; simp) N0 g_b2 (g := (mkF m 27 #[vR a1, vI p2, vI p3, vI n, vR b2] [iI n, iI 0, iR b2, iI p2, iR a1])) rfl (by rw [hml]; rfl) rfl (hb hby d30_27) (by decide) (W := 0) (wz rfl) (by decide)
  have K6 : Keep h0 h6 [] := Keep.trans K2 K6q (allS (Or.inr sz_b2) all0)
  have V6 : AB Z h6 b2 k2 n ((A.drop p2.toNatClampNeg).take n.toNatClampNeg) := own_cpR (by rw [← hA]; simp only [Int32.toNatClampNeg]; omega) V6q
  obtain ⟨fs, hr, hrun, hended, hW, hsame⟩ := X6.leave (v := some (.ref b2)) (fun h => by rw [Bd.returns] at h; cases h)
  refine ⟨_, _, pre0 _ ?_, hrun, hended, _, _, rfl, ?_, ⟨_, rfl⟩, hW, hsame.mono (by decide) (by decide)⟩
  · refine XS.iloadN X0.here hx rfl (hb hby d30_0) rfl ?_
    refine XS.iloadN X0.here hx rfl (hb hby d30_1) rfl ?_
    refine st1 _ ?_
    refine XS.iloadN X1.here hx rfl (hb hby d30_5) rfl ?_
    refine XS.iloadN X1.here hx rfl (hb hby d30_6) rfl ?_
    refine XS.isub X1.here hx rfl (hb hby d30_7) rfl ?_
    rw [own_subE hnt]
    refine XS.istoreN X1.here hx rfl (hb hby d30_8) rfl (l' := #[vR a1, vI p2, vI p3, vI n, .unset]) rfl ?_
    refine XS.iloadN X1.here hx rfl (hb hby d30_9) rfl ?_
    refine st2 _ ?_
    refine XS.astore X2.here hx rfl (hb hby d30_12) rfl rfl (l' := #[vR a1, vI p2, vI p3, vI n, vR b2]) rfl ?_
    refine XS.aloadN X2.here hx rfl (hb hby d30_14) rfl rfl ?_
    refine XS.iloadN X2.here hx rfl (hb hby d30_15) rfl ?_
    refine XS.aload X2.here hx rfl (hb hby d30_16) rfl rfl ?_
    refine XS.iconst X2.here hx rfl (hb hby d30_18) ?_
    refine XS.aloadN X2.here hx rfl (hb hby d30_19) rfl rfl ?_
    refine X2.arraylength hx (by rw [e2]; exact Ar4.1) (State.isArrayOf_alike hZ.alike Ar4.2.1) (g := (mkF m 20 #[vR a1, vI p2, vI p3, vI n, vR b2] [iR a1, iI 0, iR b2, iI p2, iR a1])) rfl rfl (hb hby d30_20) _ ?_
    rw [len_of S4 M4]
    refine XS.iloadN X2.here hx rfl (hb hby d30_21) rfl ?_
    refine XS.isub X2.here hx rfl (hb hby d30_22) rfl ?_
    rw [hzm]
    refine XS.iloadN X2.here hx rfl (hb hby d30_23) rfl ?_
    refine st5 _ ?_
    refine st6 _ ?_
    refine XS.aload X6.here hx rfl (hb hby d30_30) rfl rfl ?_
    show Steps _ _ _ (T6.setTop (mkF m 32 #[vR a1, vI p2, vI p3, vI n, vR b2] [iR b2])) _
    jvm_step X6.here [X6.here.top, hx, (hb hby d30_32), X6.method', Bd.returns, Value.isRef, FieldType.isReference]
    first | (intro acts; rw [hr _ acts rfl rfl rfl]) | rw [hr _ _ rfl rfl rfl]
    exact Steps.refl _
  · show Q30 Z a1 p2 p3 kb z n A h0 n0 _ T6.heap _
    rw [e6]
    exact ⟨_, _, rfl, N6, K6, V6, sz_b2⟩
theorem d29_0 : dk c29 0 (.iload_n 1) 1 := by decide +kernel
theorem d29_1 : dk c29 1 (.ifCond .ne 9) 3 := by decide +kernel
theorem d29_10 : dk c29 10 (.aload_n 0) 1 := by decide +kernel
theorem d29_11 : dk c29 11 (.iload_n 1) 1 := by decide +kernel
theorem d29_12 : dk c29 12 (.iload_n 2) 1 := by decide +kernel
theorem d29_13 : dk c29 13 (.invokestatic 339) 3 := by decide +kernel
theorem d29_16 : dk c29 16 .areturn 1 := by decide +kernel
theorem ef_29 (m : MethodId) (x0 : Addr) (x1 : Int32) (x2 : Int32) : entryFrame m #[(.ref x0), (.int x1), (.int x2)] 3 = mkF m 0 #[.val (.ref x0), .val (.int x1), .val (.int x2)] [] := by first | (simp [entryFrame, mkF, argsToLocals, Value.category]; done) | rfl
def Q29 (Z : State) (a1 : Addr) (p2 : Int32) (p3 : Int32) (kb : ClassId) (z n : Int32) (A : List Int32) (h0 : Heap) (n0 : Nat) (v : Option Value) (h : Heap) (L : List Loc) : Prop := ∃ (o : Addr) (ko : ClassId), v = some (.ref o) ∧ Fr n0 L ∧ Keep h0 h [] ∧ AB Z h o ko n ((A.drop p2.toNatClampNeg).take n.toNatClampNeg) ∧ h0.size ≤ o
theorem rm29 (l : Launch) (Z : State) (a0 : Array Value) (hw : HW a0 Z) (ws : List Jvm.Cond) (a1 : Addr) (p2 : Int32) (p3 : Int32) (kb : ClassId) (z n : Int32) (A : List Int32) (h0 : Heap) (n0 : Nat) (Z0 : n0 ≤ h0.size) (V_b : AB Z h0 a1 kb z A) (hf : 1 ≤ p2.toInt ∧ p2.toInt ≤ 6) (hn : 1 ≤ n.toInt ∧ n.toInt ≤ 6) (hnt : p3.toInt = p2.toInt + n.toInt) (hzt : p3.toInt ≤ z.toInt) (hA : z.toNatClampNeg = A.length) :
    MFn l mn_18 jdk_65_method_132_code 3 (some (.array .byte)) ws (Rm 2 1 6 34) #[(.ref a1), (.int p2), (.int p3)] Z h0 (Q29 Z a1 p2 p3 kb z n A h0 n0) := by
  refine MetFree.of_bodySF (plainFor_of_name pn_5) hisR ?_
  intro p e s m args below meth c s₁ Bd hml0 hP hK
  obtain ⟨rfl, hZ, hh⟩ := hP
  have hx := Bd.exec
  have hby := Bd.bytes
  have hml : c.maxLocals = 3 := hml0
  have hown := findClass_of_methodNamed Bd.named
  have X0 : Stand p l e (Rm 2 1 6 34) s m _ below meth c _ [] 0 0 := Stand.of_body Bd
  have e0 : s₁.heap = h0 := by rw [← hh, Bd.state]; rfl
  have N0 := Fr.nil n0
  have K0 := Keep.refl h0 []
  have pre0 := cast0 (p := p) (e := e) (below := below) (T := s₁) (ef_29 m a1 p2 p3)
  obtain ⟨_, _, ⟨T1, L1, k1, n1⟩, -, X1, ⟨Lc1, hQ1, l1, y1, z1⟩, st1⟩ := Jvm.LawKit.callS X0 hx (y := mn_17) hown (mw hZ hw 137 rfl) (mw hZ hw 138 rfl) (mw hZ hw 135 rfl) (mw hZ hw 139 rfl) (by decide) (backOf (W := 0) (rm30 l Z a0 hw [] a1 p2 p3 kb z n A h0 n0 (Nat.le_trans Z0 K0.1) V_b hf hn hnt hzt hA) hZ (ww hw 139 rfl) (ww hw 135 rfl) (by decide) (by decide)) (g := (mkF m 13 #[vR a1, vI p2, vI p3] [iI p3, iI p2, iR a1])) rfl (by rw [hml]; rfl) (argsL := [(.ref a1), (.int p2), (.int p3)]) (rest := []) (lenOf pd_13 rfl) rfl (wz rfl) (hb hby d29_13) (fun _ _ => ⟨rfl, e0, (by decide : 0 + 1 ≤ _), (by decide : 0 + 6 ≤ _)⟩)
  dsimp only [Pt.U, Pt.locs, Pt.cells, Pt.slots] at X1 l1 y1 z1 st1 hQ1
  subst l1 y1 z1
  obtain ⟨d1, kd1, rfl, N1q, K1q, V1q, z_d1⟩ := hQ1
  have ne_a1_d1 := neC V_b.lt z_d1
  have sz_d1 := Nat.le_trans K0.1 z_d1
  have g_d1 := Nat.le_trans Z0 sz_d1
  have N1 := Fr.app N0 N1q
  have K1 : Keep h0 T1.heap [] := Keep.trans K0 K1q all0
  obtain ⟨fs, hr, hrun, hended, hW, hsame⟩ := X1.leave (v := some (.ref d1)) (fun h => by rw [Bd.returns] at h; cases h)
  refine ⟨_, _, pre0 _ ?_, hrun, hended, _, _, rfl, ?_, ⟨_, rfl⟩, hW, hsame.mono (by decide) (by decide)⟩
  · refine XS.iloadN X0.here hx rfl (hb hby d29_0) rfl ?_
    refine XS.ifYes X0.here hx rfl (pc0 := 1) (pc' := 10) rfl (hb hby d29_1) rfl ((if0 _ _).trans (feq (fun e => absurd hf.1 (by rw [e]; decide))).2) (by decide) (by decide) ?_
    refine XS.aloadN X0.here hx rfl (hb hby d29_10) rfl rfl ?_
    refine XS.iloadN X0.here hx rfl (hb hby d29_11) rfl ?_
    refine XS.iloadN X0.here hx rfl (hb hby d29_12) rfl ?_
    refine st1 _ ?_
    show Steps _ _ _ (T1.setTop (mkF m 16 #[vR a1, vI p2, vI p3] [iR d1])) _
    jvm_step X1.here [X1.here.top, hx, (hb hby d29_16), X1.method', Bd.returns, Value.isRef, FieldType.isReference]
    first | (intro acts; rw [hr _ acts rfl rfl rfl]) | rw [hr _ _ rfl rfl rfl]
    exact Steps.refl _
  · show Q29 Z a1 p2 p3 kb z n A h0 n0 _ T1.heap _
    exact ⟨_, _, rfl, N1, K1, V1q, sz_d1⟩
theorem d33_0 : dk c33 0 (.aload_n 0) 1 := by decide +kernel
theorem d33_1 : dk c33 1 (.invokespecial 1) 3 := by decide +kernel
theorem d33_4 : dk c33 4 (.aload_n 0) 1 := by decide +kernel
theorem d33_5 : dk c33 5 (.aload_n 1) 1 := by decide +kernel
theorem d33_6 : dk c33 6 (.putfield 9) 3 := by decide +kernel
theorem d33_9 : dk c33 9 (.aload_n 0) 1 := by decide +kernel
theorem d33_10 : dk c33 10 (.iload_n 2) 1 := by decide +kernel
theorem d33_11 : dk c33 11 (.putfield 15) 3 := by decide +kernel
theorem d33_14 : dk c33 14 .return_ 1 := by decide +kernel
theorem ef_33 (m : MethodId) (x0 : Addr) (x1 : Addr) : entryFrame m #[(.ref x0), (.ref x1), (.int (0 : Int32))] 3 = mkF m 0 #[.val (.ref x0), .val (.ref x1), .val (.int (0 : Int32))] [] := by first | (simp [entryFrame, mkF, argsToLocals, Value.category]; done) | rfl
def Q33 (Z : State) (a1 : Addr) (a2 : Addr) (h0 : Heap) (n0 : Nat) (v : Option Value) (h : Heap) (L : List Loc) : Prop := v = none ∧ Fr n0 L ∧ Keep h0 h [a1] ∧ ES Z h a1 ∧ FC Z h a1 ∧ FV Z h a1 a2
theorem rm33 (l : Launch) (Z : State) (a0 : Array Value) (hw : HW a0 Z) (ws : List Jvm.Cond) (a1 : Addr) (a2 : Addr) (h0 : Heap) (n0 : Nat) (Z0 : n0 ≤ h0.size) (E_a1 : ES Z h0 a1) (g_a1 : n0 ≤ a1) (H_v : Fld Z h0 a1 "java/lang/String" "value" "[B" .null) (H_c : FC Z h0 a1) (ne_a1_a2 : a1 ≠ a2) :
    MFn l mn_19 jdk_42_method_151_code 3 none ws (Rm 1 0 0 12) #[(.ref a1), (.ref a2), (.int (0 : Int32))] Z h0 (Q33 Z a1 a2 h0 n0) := by
  refine MetFree.of_bodySF (plainFor_of_name pn_0) hisR ?_
  intro p e s m args below meth c s₁ Bd hml0 hP hK
  obtain ⟨rfl, hZ, hh⟩ := hP
  have hx := Bd.exec
  have hby := Bd.bytes
  have hml : c.maxLocals = 3 := hml0
  have hown := findClass_of_methodNamed Bd.named
  have hnm := (name_of_methodNamed Bd.named Bd.method).1
  have X0 : Stand p l e (Rm 1 0 0 12) s m _ below meth c _ [] 0 0 := Stand.of_body Bd
  have e0 : s₁.heap = h0 := by rw [← hh, Bd.state]; rfl
  have N0 := Fr.nil n0
  have K0 := Keep.refl h0 [a1]
  have pre0 := cast0 (p := p) (e := e) (below := below) (T := s₁) (ef_33 m a1 a2)
  obtain ⟨T1, X1, e1, st1⟩ := initO X0 hx hZ hown (ww hw 15 rfl) (ww hw 16 rfl) (ww hw 17 rfl) e0 (g := (mkF m 1 #[vR a1, vR a2, vI 0] [iR a1])) rfl (by rw [hml]; rfl) rfl (hb hby d33_1) (by decide) (W := 0) (wz rfl) (by decide)
  obtain ⟨T2, h2, X2, e2, W2, st2⟩ := putF X1 hx hZ hown (host := "") (Or.inl (ww hw 32 rfl)) Via.refl e1 H_v E_a1 (Or.inr ⟨(ww hw 33 rfl), rfl, hnm⟩) (ww hw 6 rfl) (ty := (.array .byte)) (by decide) rfl rfl (g := (mkF m 6 #[vR a1, vR a2, vI 0] [iR a2, iR a1])) rfl rfl (hb hby d33_6)
  have Fw2 := H_v.same W2
  have K2 : Keep h0 h2 [a1] := K0.wr W2 (Or.inl (List.mem_of_getElem? (i := 0) rfl))
  have N2 := Fr.snoc X2 N0 g_a1
  have fk3 := (H_c.other W2 (Or.inr (slot_ne (Or.inr (ww hw 31 rfl)) (Or.inr (ww hw 33 rfl)) (by decide) (t := .byte) (t' := (.array .byte)) (by decide) (by decide))))
  have fk4 := (E_a1.wr W2)
  obtain ⟨T5, h5, X5, e5, W5, st5⟩ := putFN X2 hx hZ hown (ww hw 30 rfl) Via.refl e2 fk3 fk4 (Or.inr ⟨(ww hw 31 rfl), rfl, hnm⟩) (ww hw 6 rfl) (ty := .byte) (v' := (.int (0 : Int32))) (by decide) rfl (by decide) (g := (mkF m 11 #[vR a1, vR a2, vI 0] [iI 0, iR a1])) rfl rfl (hb hby d33_11)
  have Fw5 := fk3.same W5
  have K5 : Keep h0 h5 [a1] := K2.wr W5 (Or.inl (List.mem_of_getElem? (i := 0) rfl))
  have N5 := Fr.snoc X5 N2 g_a1
  obtain ⟨fs, hr, hrun, hended, hW, hsame⟩ := X5.leave (v := none) (fun _ => rfl)
  have fk6 := (fk4.wr W5)
  have fk7 := (Fw2.other W5 (Or.inr (slot_ne (Or.inr (ww hw 33 rfl)) (Or.inr (ww hw 31 rfl)) (by decide) (t := (.array .byte)) (t' := .byte) (by decide) (by decide))))
  refine ⟨_, _, pre0 _ ?_, hrun, hended, _, _, rfl, ?_, ⟨_, rfl⟩, hW, hsame.mono (by decide) (by decide)⟩
  · refine XS.aloadN X0.here hx rfl (hb hby d33_0) rfl rfl ?_
    refine st1 _ ?_
    refine XS.aloadN X1.here hx rfl (hb hby d33_4) rfl rfl ?_
    refine XS.aloadN X1.here hx rfl (hb hby d33_5) rfl rfl ?_
    refine st2 _ ?_
    refine XS.aloadN X2.here hx rfl (hb hby d33_9) rfl rfl ?_
    refine XS.iloadN X2.here hx rfl (hb hby d33_10) rfl ?_
    refine st5 _ ?_
    show Steps _ _ _ (T5.setTop (mkF m 14 #[vR a1, vR a2, vI 0] [])) _
    exact X5.returnOut hx Bd.returns (hb hby d33_14) hr
  · show Q33 Z a1 a2 h0 n0 _ T5.heap _
    rw [e5]
    exact ⟨rfl, N5, K5, fk6, Fw5, fk7⟩
theorem d28_0 : dk c28 0 (.iload_n 2) 1 := by decide +kernel
theorem d28_1 : dk c28 1 (.ifCond .ne 6) 3 := by decide +kernel
theorem d28_7 : dk c28 7 (.new 1) 3 := by decide +kernel
theorem d28_10 : dk c28 10 .dup 1 := by decide +kernel
theorem d28_11 : dk c28 11 (.aload_n 0) 1 := by decide +kernel
theorem d28_12 : dk c28 12 (.iload_n 1) 1 := by decide +kernel
theorem d28_13 : dk c28 13 (.iload_n 1) 1 := by decide +kernel
theorem d28_14 : dk c28 14 (.iload_n 2) 1 := by decide +kernel
theorem d28_15 : dk c28 15 .iadd 1 := by decide +kernel
theorem d28_16 : dk c28 16 (.invokestatic 232) 3 := by decide +kernel
theorem d28_19 : dk c28 19 (.iconst 0) 1 := by decide +kernel
theorem d28_20 : dk c28 20 (.invokespecial 112) 3 := by decide +kernel
theorem d28_23 : dk c28 23 .areturn 1 := by decide +kernel
theorem ef_28 (m : MethodId) (x0 : Addr) (x1 : Int32) (x2 : Int32) : entryFrame m #[(.ref x0), (.int x1), (.int x2)] 3 = mkF m 0 #[.val (.ref x0), .val (.int x1), .val (.int x2)] [] := by first | (simp [entryFrame, mkF, argsToLocals, Value.category]; done) | rfl
def Q28 (Z : State) (a1 : Addr) (p2 : Int32) (p3 : Int32) (kb : ClassId) (z : Int32) (A : List Int32) (h0 : Heap) (n0 : Nat) (v : Option Value) (h : Heap) (L : List Loc) : Prop := ∃ (o d : Addr) (ko : ClassId), v = some (.ref o) ∧ Fr n0 L ∧ Keep h0 h [] ∧ ES Z h o ∧ FC Z h o ∧ FV Z h o d ∧ AB Z h d ko p3 ((A.drop p2.toNatClampNeg).take p3.toNatClampNeg)
theorem rm28 (l : Launch) (Z : State) (a0 : Array Value) (hw : HW a0 Z) (ws : List Jvm.Cond) (a1 : Addr) (p2 : Int32) (p3 : Int32) (kb : ClassId) (z : Int32) (A : List Int32) (h0 : Heap) (n0 : Nat) (Z0 : n0 ≤ h0.size) (O0 : Old Z n0 h0) (V_b : AB Z h0 a1 kb z A) (hf : 1 ≤ p2.toInt ∧ p2.toInt ≤ 6) (hn : 1 ≤ p3.toInt ∧ p3.toInt ≤ 6) (hzt : p2.toInt + p3.toInt ≤ z.toInt) (hA : z.toNatClampNeg = A.length) :
    MFh l mn_20 jdk_43_method_47_code 3 (some (.object "java/lang/String")) ws (Rm 3 2 10 50) #[(.ref a1), (.int p2), (.int p3)] Z h0 (Q28 Z a1 p2 p3 kb z A h0 n0) := by
  refine MetFree.of_bodySF (plainFor_of_name pn_2) hisR ?_
  intro p e s m args below meth c s₁ Bd hml0 hP hK
  obtain ⟨rfl, hZ, hh, hC0⟩ := hP
  have hx := Bd.exec
  have hby := Bd.bytes
  have hml : c.maxLocals = 3 := hml0
  have hown := findClass_of_methodNamed Bd.named
  have X0 : Stand p l e (Rm 3 2 10 50) s m _ below meth c _ [] 0 0 := Stand.of_body Bd
  have e0 : s₁.heap = h0 := by rw [← hh, Bd.state]; rfl
  have R0 := CHr.refl hC0
  have N0 := Fr.nil n0
  have K0 := Keep.refl h0 []
  have pre0 := cast0 (p := p) (e := e) (below := below) (T := s₁) (ef_28 m a1 p2 p3)
  obtain ⟨T1, h1, X1, e1, E1, A1, D1, -, st1⟩ := newO X0 hx hZ hown (ww hw 132 rfl) (ww hw 6 rfl) (ww hw 7 rfl) e0 (g := (mkF m 7 #[vR a1, vI p2, vI p3] [])) rfl (hb hby d28_7) (by decide) (by decide)
  obtain ⟨b1, g1⟩ : ∃ z, z = h0.size := ⟨_, rfl⟩
  rw [← g1] at A1 D1 st1
  have ne_a1_b1 := neB V_b.lt g1
  have sz_b1 := szB K0.1 g1
  have g_b1 := Nat.le_trans Z0 sz_b1
  have K1 := K0.ext E1
  have F_coder_b1 : FC Z h1 b1 := D1 (Or.inr (ww hw 31 rfl)) (ty := .byte) (by decide)
  have F_value_b1 : Fld Z h1 b1 "java/lang/String" "value" "[B" .null := D1 (Or.inr (ww hw 33 rfl)) (ty := (.array .byte)) (by decide)
  have fk3 := (V_b.ext E1)
  obtain ⟨_, _, ⟨T2, L2, k2, n2⟩, -, X2, ⟨Lc2, hQ2, l2, y2, z2⟩, st2⟩ := Jvm.LawKit.callS X1 hx (y := mn_18) hown (mw hZ hw 133 rfl) (mw hZ hw 134 rfl) (mw hZ hw 135 rfl) (mw hZ hw 136 rfl) (by decide) (backOf (W := 2) (rm29 l Z a0 hw [] a1 p2 (p2 + p3) kb z p3 A h1 n0 (Nat.le_trans Z0 K1.1) fk3 hf hn (own_addI (by omega) (by omega)) (by rw [own_addI (by omega) (by omega)]; exact hzt) hA) hZ (ww hw 136 rfl) (ww hw 135 rfl) (by decide) (by decide)) (g := (mkF m 16 #[vR a1, vI p2, vI p3] [iI (p2 + p3), iI p2, iR a1, iR b1, iR b1])) rfl (by rw [hml]; rfl) (argsL := [(.ref a1), (.int p2), (.int (p2 + p3))]) (rest := [(.ref b1), (.ref b1)]) (lenOf pd_13 rfl) rfl (wz rfl) (hb hby d28_16) (fun _ _ => ⟨rfl, e1, (by decide : 1 + 1 ≤ _), (by decide : 4 + 6 ≤ _)⟩)
  dsimp only [Pt.U, Pt.locs, Pt.cells, Pt.slots] at X2 l2 y2 z2 st2 hQ2
  subst l2 y2 z2
  obtain ⟨d2, kd2, rfl, N2q, K2q, V2q, z_d2⟩ := hQ2
  have ne_a1_d2 := neC fk3.lt z_d2
  have ne_b1_d2 := neC A1.lt z_d2
  have sz_d2 := Nat.le_trans K1.1 z_d2
  have g_d2 := Nat.le_trans Z0 sz_d2
  have N2 := Fr.app N0 N2q
  have K2 : Keep h0 T2.heap [] := Keep.trans K1 K2q all0
  have fk5 := (A1.keep K2q)
  have fk6 := (F_value_b1.keep K2q nin0)
  have fk7 := (F_coder_b1.keep K2q nin0)
  obtain ⟨_, _, ⟨T4, L4, k4, n4⟩, -, X4, ⟨Lc4, hQ4, l4, y4, z4⟩, st4⟩ := X2.specialBack hx (y := mn_19) rfl hown (mw hZ hw 151 rfl) (mw hZ hw 152 rfl) (mw hZ hw 153 rfl) (by decide) (backOf (W := 1) (rm33 l Z a0 hw [] b1 d2 T2.heap n0 (Nat.le_trans Z0 K2.1) fk5 g_b1 fk6 fk7 ne_b1_d2) hZ (ww hw 153 rfl) (ww hw 7 rfl) (by decide) (by decide)) (g := (mkF m 20 #[vR a1, vI p2, vI p3] [iI 0, iR d2, iR b1, iR b1])) rfl (by rw [hml]; rfl) (Steps.refl _) (a := b1) (argsL := [(.ref d2), (.int (0 : Int32))]) (rest := [(.ref b1)]) (lenOf pd_14 rfl) rfl (wz rfl) (hb hby d28_20) (fun _ _ => ⟨rfl, rfl, (by decide : 2 + 0 ≤ _), (by decide : 10 + 0 ≤ _)⟩)
  dsimp only [Pt.U, Pt.locs, Pt.cells, Pt.slots] at X4 l4 y4 z4 st4 hQ4
  subst l4 y4 z4
  obtain ⟨rfl, N4q, K4q, E4q, C4q, F4q⟩ := hQ4
  have N4 := Fr.app N2 N4q
  have K4 : Keep h0 T4.heap [] := Keep.trans K2 K4q (allS (Or.inr sz_b1) all0)
  have S8_b1 := Safe.ext E1 R0.1 (Safe.new (Nat.le_of_eq g1.symm))
  have R8 := R0.trans (CHr.ext E1 R0.1)
  have S9_b1 := Safe.keep K2q sf0 R8.1 S8_b1
  have S9_d2 := Safe.keep K2q sf0 R8.1 (Safe.new z_d2)
  have R9 := R8.trans (CHr.keep K2q sf0 R8.1)
  have sq10 : ∀ x ∈ [b1], Safe Z consts_1 s.vm _ x := (sfS S9_b1 sf0)
  have S10_b1 := Safe.keep K4q sq10 R9.1 S9_b1
  have S10_d2 := Safe.keep K4q sq10 R9.1 S9_d2
  have R10 := R9.trans (CHr.keep K4q sq10 R9.1)
  have hfin := R10.trans (CHv.at (s := s) (vm0 := s.vm) X4 hZ (own_EW hw) R10.1)
  obtain ⟨fs, hr, hrun, hended, hW, hsame⟩ := X4.leave (v := some (.ref b1)) (fun h => by rw [Bd.returns] at h; cases h)
  have fk11 := (V2q.keep K4q (ninS (Ne.symm ne_b1_d2) nin0))
  refine ⟨_, _, pre0 _ ?_, hrun, hended, _, _, rfl, ?_, (by rw [hh]; show CHr Z consts_1 s.vm h0 T4.vm T4.heap; exact hfin), ReturnedEndW.of_narrow ⟨_, rfl⟩ hW (hsame.mono (by decide) (by decide))⟩
  · refine XS.iloadN X0.here hx rfl (hb hby d28_0) rfl ?_
    refine XS.ifYes X0.here hx rfl (pc0 := 1) (pc' := 7) rfl (hb hby d28_1) rfl ((if0 _ _).trans (feq (fun e => absurd hn.1 (by rw [e]; decide))).2) (by decide) (by decide) ?_
    refine st1 _ ?_
    refine XS.dup X1.here hx rfl (hb hby d28_10) rfl rfl ?_
    refine XS.aloadN X1.here hx rfl (hb hby d28_11) rfl rfl ?_
    refine XS.iloadN X1.here hx rfl (hb hby d28_12) rfl ?_
    refine XS.iloadN X1.here hx rfl (hb hby d28_13) rfl ?_
    refine XS.iloadN X1.here hx rfl (hb hby d28_14) rfl ?_
    refine XS.iadd X1.here hx rfl (hb hby d28_15) rfl ?_
    refine st2 _ ?_
    refine XS.iconst X2.here hx rfl (hb hby d28_19) ?_
    refine st4.trans ?_
    show Steps _ _ _ (T4.setTop (mkF m 23 #[vR a1, vI p2, vI p3] [iR b1])) _
    jvm_step X4.here [X4.here.top, hx, (hb hby d28_23), X4.method', Bd.returns, Value.isRef, FieldType.isReference]
    first | (intro acts; rw [hr _ acts rfl rfl rfl]) | rw [hr _ _ rfl rfl rfl]
    exact Steps.refl _
  · show Q28 Z a1 p2 p3 kb z A h0 n0 _ T4.heap _
    exact ⟨_, _, _, rfl, N4, K4, E4q, C4q, F4q, fk11⟩
theorem d28_4 : dk c28 4 (.ldc 151) 2 := by decide +kernel
theorem d28_6 : dk c28 6 .areturn 1 := by decide +kernel
theorem ef_28_0 (m : MethodId) (x0 : Addr) (x1 : Int32) : entryFrame m #[(.ref x0), (.int x1), (.int (0 : Int32))] 3 = mkF m 0 #[.val (.ref x0), .val (.int x1), .val (.int (0 : Int32))] [] := by first | (simp [entryFrame, mkF, argsToLocals, Value.category]; done) | rfl
def Q28_0 (Z : State) (a1 : Addr) (p2 : Int32) (h0 : Heap) (n0 : Nat) (v : Option Value) (h : Heap) (L : List Loc) : Prop := ∃ (o d : Addr) (ko : ClassId), v = some (.ref o) ∧ Fr n0 L ∧ Keep h0 h [] ∧ ES Z h o ∧ FC Z h o ∧ FV Z h o d ∧ AB Z h d ko (0 : Int32) []
theorem rm28_0 (l : Launch) (Z : State) (a0 : Array Value) (hw : HW a0 Z) (ws : List Jvm.Cond) (a1 : Addr) (p2 : Int32) (h0 : Heap) (n0 : Nat) (Z0 : n0 ≤ h0.size) (O0 : Old Z n0 h0) :
    MFh l mn_20 jdk_43_method_47_code 3 (some (.object "java/lang/String")) ws (Rm 0 2 4 0) #[(.ref a1), (.int p2), (.int (0 : Int32))] Z h0 (Q28_0 Z a1 p2 h0 n0) := by
  refine MetFree.of_bodySF (plainFor_of_name pn_2) hisR ?_
  intro p e s m args below meth c s₁ Bd hml0 hP hK
  obtain ⟨rfl, hZ, hh, hC0⟩ := hP
  have hx := Bd.exec
  have hby := Bd.bytes
  have hml : c.maxLocals = 3 := hml0
  have hown := findClass_of_methodNamed Bd.named
  have X0 : Stand p l e (Rm 0 2 4 0) s m _ below meth c _ [] 0 0 := Stand.of_body Bd
  have e0 : s₁.heap = h0 := by rw [← hh, Bd.state]; rfl
  have R0 := CHr.refl hC0
  have N0 := Fr.nil n0
  have K0 := Keep.refl h0 []
  have pre0 := cast0 (p := p) (e := e) (below := below) (T := s₁) (ef_28_0 m a1 p2)
  have pre1 : PP p e below (s₁.setTop (mkF m 4 #[vR a1, vI p2, vI 0] [])) (s₁.setTop (entryFrame m #[(.ref a1), (.int p2), (.int (0 : Int32))] 3)) := by
    intro t kt
    refine pre0 t ?_
    refine XS.iloadN X0.here hx rfl (hb hby d28_0) rfl ?_
    refine XS.ifNo X0.here hx rfl (hb hby d28_1) rfl ((if0 _ _).trans (teq (by decide : (0 : Int32) = (0 : Int32))).2) ?_
    exact kt
  obtain ⟨la2, T2, h2, kk2, lb2, kl2, X2, e2, E2, hS2, hk2, hZ, hown, EE2, FC2, FV2, VV2, -, -, C2, li2, ne2, st2⟩ := ldcCH (s := s) (vm0 := s.vm) X0 hx hZ hown (ww hw 191 rfl) (own_strAtoms hw) e0 ((State.WarmedH.refl s).since 0) (Nat.zero_le _) (own_EW hw) (List.mem_of_getElem? (i := 2) rfl) R0.1 (vs := own_bs []) (z := (0 : Int32)) own_ct2 (by decide) (by decide) (g := (mkF m 4 #[vR a1, vI p2, vI 0] [])) rfl (hb hby d28_4) (n := 0) (by decide) (by decide) (by decide) (by decide)
  have K2 := K0.ext E2
  have R2 := R0.trans C2
  have hfin := R2.trans (CHv.at (s := s) (vm0 := T2.vm) X2 hZ (own_EW hw) R2.1)
  obtain ⟨fs, hr, hrun, hended, hEnd⟩ := X2.leaveW (s := s) hS2 (by rw [e2]; exact hk2) (v := some (.ref la2)) (fun h => by rw [Bd.returns] at h; cases h)
  refine ⟨_, _, pre1 _ ?_, hrun, hended, _, _, rfl, ?_, (by rw [hh]; show CHr Z consts_1 s.vm h0 T2.vm T2.heap; rw [e2]; exact hfin), ⟨hEnd.1, hEnd.2.1, hEnd.2.2.1, hEnd.2.2.2.mono (by decide) (by decide)⟩⟩
  · refine st2 _ ?_
    show Steps _ _ _ (T2.setTop (mkF m 6 #[vR a1, vI p2, vI 0] [iR la2])) _
    jvm_step X2.here [X2.here.top, hx, (hb hby d28_6), X2.method', Bd.returns, Value.isRef, FieldType.isReference]
    first | (intro acts; rw [hr _ acts rfl rfl rfl]) | rw [hr _ _ rfl rfl rfl]
    exact Steps.refl _
  · show Q28_0 Z a1 p2 h0 n0 _ T2.heap _
    rw [e2]
    exact ⟨_, _, _, rfl, N0, K2, EE2, FC2, FV2, VV2⟩
theorem d16_0 : dk c16 0 (.iload_n 0) 1 := by decide +kernel
theorem d16_1 : dk c16 1 (.ifCond .lt 13) 3 := by decide +kernel
theorem d16_4 : dk c16 4 (.iload_n 0) 1 := by decide +kernel
theorem d16_5 : dk c16 5 (.iload_n 1) 1 := by decide +kernel
theorem d16_6 : dk c16 6 (.if_icmp .gt 8) 3 := by decide +kernel
theorem d16_9 : dk c16 9 (.iload_n 1) 1 := by decide +kernel
theorem d16_10 : dk c16 10 (.iload_n 2) 1 := by decide +kernel
theorem d16_11 : dk c16 11 (.if_icmp .le 11) 3 := by decide +kernel
theorem d16_22 : dk c16 22 (.iload_n 0) 1 := by decide +kernel
theorem d16_23 : dk c16 23 .ireturn 1 := by decide +kernel
theorem ef_16_n (m : MethodId) (x0 : Int32) (x1 : Int32) (x2 : Int32) : entryFrame m #[(.int x0), (.int x1), (.int x2), .null] 4 = mkF m 0 #[.val (.int x0), .val (.int x1), .val (.int x2), .val .null] [] := by first | (simp [entryFrame, mkF, argsToLocals, Value.category]; done) | rfl
theorem rm16_n (l : Launch) (Z : State) (a0 : Array Value) (hw : HW a0 Z) (ws : List Jvm.Cond) (p1 : Int32) (p2 : Int32) (p3 : Int32) (h0 : Heap) (h0_ : ¬ p1 < (0 : Int32)) (h1_ : ¬ p2 < p1) (h2_ : ¬ p3 < p2) :
    MFn l mn_21 jdk_41_method_12_code 4 (some .int) ws (Rm 0 0 0 0) #[(.int p1), (.int p2), (.int p3), .null] Z h0 (QP h0 (some (.int p1))) := by
  refine MetFree.of_bodySF (plainFor_of_name pn_1) hisR ?_
  intro p e s m args below meth c s₁ Bd hml0 hP hK
  obtain ⟨rfl, hZ, hh⟩ := hP
  have hx := Bd.exec
  have hby := Bd.bytes
  have hml : c.maxLocals = 4 := hml0
  have hown := findClass_of_methodNamed Bd.named
  have X0 : Stand p l e (Rm 0 0 0 0) s m _ below meth c _ [] 0 0 := Stand.of_body Bd
  have e0 : s₁.heap = h0 := by rw [← hh, Bd.state]; rfl
  have pre0 := cast0 (p := p) (e := e) (below := below) (T := s₁) (ef_16_n m p1 p2 p3)
  obtain ⟨fs, hr, hrun, hended, hW, hsame⟩ := X0.leave (v := some (.int p1)) (fun h => by rw [Bd.returns] at h; cases h)
  refine ⟨_, _, pre0 _ ?_, hrun, hended, _, _, rfl, ?_, ⟨_, rfl⟩, hW, hsame.mono (by decide) (by decide)⟩
  · refine XS.iloadN X0.here hx rfl (hb hby d16_0) rfl ?_
    refine XS.ifNo X0.here hx rfl (hb hby d16_1) rfl ((if0 _ _).trans (flt h0_).1) ?_
    refine XS.iloadN X0.here hx rfl (hb hby d16_4) rfl ?_
    refine XS.iloadN X0.here hx rfl (hb hby d16_5) rfl ?_
    refine XS.icmpNo X0.here hx rfl (hb hby d16_6) rfl (flt h1_).2.2.1 ?_
    refine XS.iloadN X0.here hx rfl (hb hby d16_9) rfl ?_
    show SA s₁ m 10 #[vI p1, vI p2, vI p3, .val .null] [iI p2]
    refine XS.iloadN X0.here hx rfl (hb hby d16_10) rfl ?_
    refine XS.icmpYes X0.here hx rfl (pc0 := 11) (pc' := 22) rfl (hb hby d16_11) rfl (flt h2_).2.2.2 (by decide) (by decide) ?_
    refine XS.iloadN X0.here hx rfl (hb hby d16_22) rfl ?_
    show Steps _ _ _ (s₁.setTop (mkF m 23 #[vI p1, vI p2, vI p3, .val .null] [iI p1])) _
    exact retI X0 hx Bd.returns (hb hby d16_23) hr
  · show QP _ _ _ s₁.heap _
    rw [e0]
    exact ⟨rfl, rfl, rfl⟩
theorem d15_0 : dk c15 0 (.iload_n 0) 1 := by decide +kernel
theorem d15_1 : dk c15 1 (.iload_n 1) 1 := by decide +kernel
theorem d15_2 : dk c15 2 (.iload_n 2) 1 := by decide +kernel
theorem d15_3 : dk c15 3 (.getstatic 1053) 3 := by decide +kernel
theorem d15_6 : dk c15 6 (.invokestatic 1062) 3 := by decide +kernel
theorem d15_9 : dk c15 9 .pop 1 := by decide +kernel
theorem d15_10 : dk c15 10 .return_ 1 := by decide +kernel
theorem ef_15_n (m : MethodId) (x0 : Int32) (x1 : Int32) (x2 : Int32) : entryFrame m #[(.int x0), (.int x1), (.int x2)] 3 = mkF m 0 #[.val (.int x0), .val (.int x1), .val (.int x2)] [] := by first | (simp [entryFrame, mkF, argsToLocals, Value.category]; done) | rfl
theorem rm15_n (l : Launch) (Z : State) (a0 : Array Value) (hw : HW a0 Z) (ws : List Jvm.Cond) (p1 : Int32) (p2 : Int32) (p3 : Int32) (h0 : Heap) (n0 : Nat) (O0 : Old Z n0 h0) (S_F : Sta Z Z.heap "jdk/internal/util/Preconditions" "SIOOBE_FORMATTER" "Ljava/util/function/BiFunction;" .null) (h0_ : ¬ p1 < (0 : Int32)) (h1_ : ¬ p2 < p1) (h2_ : ¬ p3 < p2) :
    MFn l mn_22 jdk_42_method_158_code 3 none ws (Rm 1 0 0 15) #[(.int p1), (.int p2), (.int p3)] Z h0 (QP h0 none) := by
  refine MetFree.of_bodySF (plainFor_of_name pn_0) hisR ?_
  intro p e s m args below meth c s₁ Bd hml0 hP hK
  obtain ⟨rfl, hZ, hh⟩ := hP
  have hx := Bd.exec
  have hby := Bd.bytes
  have hml : c.maxLocals = 3 := hml0
  have hown := findClass_of_methodNamed Bd.named
  have X0 : Stand p l e (Rm 1 0 0 15) s m _ below meth c _ [] 0 0 := Stand.of_body Bd
  have e0 : s₁.heap = h0 := by rw [← hh, Bd.state]; rfl
  have pre0 := cast0 (p := p) (e := e) (below := below) (T := s₁) (ef_15_n m p1 p2 p3)
  obtain ⟨T1, X1, e1, st1⟩ := getS2 X0 hx hZ hown (host := "") (Or.inl (ww hw 74 rfl)) Via.refl e0 (S_F.ext O0.2) (g := (mkF m 3 #[vI p1, vI p2, vI p3] [iI p3, iI p2, iI p1])) rfl (hb hby d15_3)
  obtain ⟨_, _, ⟨T2, L2, k2, n2⟩, -, X2, ⟨Lc2, hQ2, l2, y2, z2⟩, st2⟩ := Jvm.LawKit.callS X1 hx (y := mn_21) hown (mw hZ hw 76 rfl) (mw hZ hw 77 rfl) (mw hZ hw 75 rfl) (mw hZ hw 78 rfl) (by decide) (backOf (W := 0) (rm16_n l Z a0 hw [] p1 p2 p3  h0 h0_ h1_ h2_) hZ (ww hw 78 rfl) (ww hw 75 rfl) (by decide) (by decide)) (g := (mkF m 6 #[vI p1, vI p2, vI p3] [.null, iI p3, iI p2, iI p1])) rfl (by rw [hml]; rfl) (argsL := [(.int p1), (.int p2), (.int p3), .null]) (rest := []) (lenOf pd_15 rfl) rfl (wz rfl) (hb hby d15_6) (fun _ _ => ⟨rfl, e1, (by decide : 0 + 0 ≤ _), (by decide : 0 + 0 ≤ _)⟩)
  dsimp only [Pt.U, Pt.locs, Pt.cells, Pt.slots] at X2 l2 y2 z2 st2 hQ2
  subst l2 y2 z2
  obtain ⟨rfl, rfl, e2⟩ := hQ2
  try rw [List.append_nil] at X2
  obtain ⟨fs, hr, hrun, hended, hW, hsame⟩ := X2.leave (v := none) (fun _ => rfl)
  refine ⟨_, _, pre0 _ ?_, hrun, hended, _, _, rfl, ?_, ⟨_, rfl⟩, hW, hsame.mono (by decide) (by decide)⟩
  · refine XS.iloadN X0.here hx rfl (hb hby d15_0) rfl ?_
    refine XS.iloadN X0.here hx rfl (hb hby d15_1) rfl ?_
    refine XS.iloadN X0.here hx rfl (hb hby d15_2) rfl ?_
    refine st1 _ ?_
    refine st2 _ ?_
    refine XS.pop X2.here hx rfl (hb hby d15_9) rfl rfl ?_
    show Steps _ _ _ (T2.setTop (mkF m 10 #[vI p1, vI p2, vI p3] [])) _
    exact X2.returnOut hx Bd.returns (hb hby d15_10) hr
  · show QP _ _ _ T2.heap _
    rw [e2]
    exact ⟨rfl, rfl, rfl⟩
theorem ef_16_r (m : MethodId) (x0 : Int32) (x1 : Int32) (x2 : Int32) (x3 : Addr) : entryFrame m #[(.int x0), (.int x1), (.int x2), (.ref x3)] 4 = mkF m 0 #[.val (.int x0), .val (.int x1), .val (.int x2), .val (.ref x3)] [] := by first | (simp [entryFrame, mkF, argsToLocals, Value.category]; done) | rfl
theorem rm16_r (l : Launch) (Z : State) (a0 : Array Value) (hw : HW a0 Z) (ws : List Jvm.Cond) (p1 : Int32) (p2 : Int32) (p3 : Int32) (fa : Addr) (h0 : Heap) (h0_ : ¬ p1 < (0 : Int32)) (h1_ : ¬ p2 < p1) (h2_ : ¬ p3 < p2) :
    MFn l mn_21 jdk_41_method_12_code 4 (some .int) ws (Rm 0 0 0 0) #[(.int p1), (.int p2), (.int p3), (.ref fa)] Z h0 (QP h0 (some (.int p1))) := by
  refine MetFree.of_bodySF (plainFor_of_name pn_1) hisR ?_
  intro p e s m args below meth c s₁ Bd hml0 hP hK
  obtain ⟨rfl, hZ, hh⟩ := hP
  have hx := Bd.exec
  have hby := Bd.bytes
  have hml : c.maxLocals = 4 := hml0
  have hown := findClass_of_methodNamed Bd.named
  have X0 : Stand p l e (Rm 0 0 0 0) s m _ below meth c _ [] 0 0 := Stand.of_body Bd
  have e0 : s₁.heap = h0 := by rw [← hh, Bd.state]; rfl
  have pre0 := cast0 (p := p) (e := e) (below := below) (T := s₁) (ef_16_r m p1 p2 p3 fa)
  obtain ⟨fs, hr, hrun, hended, hW, hsame⟩ := X0.leave (v := some (.int p1)) (fun h => by rw [Bd.returns] at h; cases h)
  refine ⟨_, _, pre0 _ ?_, hrun, hended, _, _, rfl, ?_, ⟨_, rfl⟩, hW, hsame.mono (by decide) (by decide)⟩
  · refine XS.iloadN X0.here hx rfl (hb hby d16_0) rfl ?_
    refine XS.ifNo X0.here hx rfl (hb hby d16_1) rfl ((if0 _ _).trans (flt h0_).1) ?_
    refine XS.iloadN X0.here hx rfl (hb hby d16_4) rfl ?_
    refine XS.iloadN X0.here hx rfl (hb hby d16_5) rfl ?_
    refine XS.icmpNo X0.here hx rfl (hb hby d16_6) rfl (flt h1_).2.2.1 ?_
    refine XS.iloadN X0.here hx rfl (hb hby d16_9) rfl ?_
    show SA s₁ m 10 #[vI p1, vI p2, vI p3, vR fa] [iI p2]
    refine XS.iloadN X0.here hx rfl (hb hby d16_10) rfl ?_
    refine XS.icmpYes X0.here hx rfl (pc0 := 11) (pc' := 22) rfl (hb hby d16_11) rfl (flt h2_).2.2.2 (by decide) (by decide) ?_
    refine XS.iloadN X0.here hx rfl (hb hby d16_22) rfl ?_
    show Steps _ _ _ (s₁.setTop (mkF m 23 #[vI p1, vI p2, vI p3, vR fa] [iI p1])) _
    exact retI X0 hx Bd.returns (hb hby d16_23) hr
  · show QP _ _ _ s₁.heap _
    rw [e0]
    exact ⟨rfl, rfl, rfl⟩
theorem ef_15_r (m : MethodId) (x0 : Int32) (x1 : Int32) (x2 : Int32) : entryFrame m #[(.int x0), (.int x1), (.int x2)] 3 = mkF m 0 #[.val (.int x0), .val (.int x1), .val (.int x2)] [] := by first | (simp [entryFrame, mkF, argsToLocals, Value.category]; done) | rfl
theorem rm15_r (l : Launch) (Z : State) (a0 : Array Value) (hw : HW a0 Z) (ws : List Jvm.Cond) (p1 : Int32) (p2 : Int32) (p3 : Int32) (fa : Addr) (h0 : Heap) (n0 : Nat) (O0 : Old Z n0 h0) (S_F : Sta Z Z.heap "jdk/internal/util/Preconditions" "SIOOBE_FORMATTER" "Ljava/util/function/BiFunction;" (.ref fa)) (h0_ : ¬ p1 < (0 : Int32)) (h1_ : ¬ p2 < p1) (h2_ : ¬ p3 < p2) :
    MFn l mn_22 jdk_42_method_158_code 3 none ws (Rm 1 0 0 15) #[(.int p1), (.int p2), (.int p3)] Z h0 (QP h0 none) := by
  refine MetFree.of_bodySF (plainFor_of_name pn_0) hisR ?_
  intro p e s m args below meth c s₁ Bd hml0 hP hK
  obtain ⟨rfl, hZ, hh⟩ := hP
  have hx := Bd.exec
  have hby := Bd.bytes
  have hml : c.maxLocals = 3 := hml0
  have hown := findClass_of_methodNamed Bd.named
  have X0 : Stand p l e (Rm 1 0 0 15) s m _ below meth c _ [] 0 0 := Stand.of_body Bd
  have e0 : s₁.heap = h0 := by rw [← hh, Bd.state]; rfl
  have pre0 := cast0 (p := p) (e := e) (below := below) (T := s₁) (ef_15_r m p1 p2 p3)
  obtain ⟨T1, X1, e1, st1⟩ := getS2 X0 hx hZ hown (host := "") (Or.inl (ww hw 74 rfl)) Via.refl e0 (S_F.ext O0.2) (g := (mkF m 3 #[vI p1, vI p2, vI p3] [iI p3, iI p2, iI p1])) rfl (hb hby d15_3)
  obtain ⟨_, _, ⟨T2, L2, k2, n2⟩, -, X2, ⟨Lc2, hQ2, l2, y2, z2⟩, st2⟩ := Jvm.LawKit.callS X1 hx (y := mn_21) hown (mw hZ hw 76 rfl) (mw hZ hw 77 rfl) (mw hZ hw 75 rfl) (mw hZ hw 78 rfl) (by decide) (backOf (W := 0) (rm16_r l Z a0 hw [] p1 p2 p3 fa h0 h0_ h1_ h2_) hZ (ww hw 78 rfl) (ww hw 75 rfl) (by decide) (by decide)) (g := (mkF m 6 #[vI p1, vI p2, vI p3] [iR fa, iI p3, iI p2, iI p1])) rfl (by rw [hml]; rfl) (argsL := [(.int p1), (.int p2), (.int p3), (.ref fa)]) (rest := []) (lenOf pd_15 rfl) rfl (wz rfl) (hb hby d15_6) (fun _ _ => ⟨rfl, e1, (by decide : 0 + 0 ≤ _), (by decide : 0 + 0 ≤ _)⟩)
  dsimp only [Pt.U, Pt.locs, Pt.cells, Pt.slots] at X2 l2 y2 z2 st2 hQ2
  subst l2 y2 z2
  obtain ⟨rfl, rfl, e2⟩ := hQ2
  try rw [List.append_nil] at X2
  obtain ⟨fs, hr, hrun, hended, hW, hsame⟩ := X2.leave (v := none) (fun _ => rfl)
  refine ⟨_, _, pre0 _ ?_, hrun, hended, _, _, rfl, ?_, ⟨_, rfl⟩, hW, hsame.mono (by decide) (by decide)⟩
  · refine XS.iloadN X0.here hx rfl (hb hby d15_0) rfl ?_
    refine XS.iloadN X0.here hx rfl (hb hby d15_1) rfl ?_
    refine XS.iloadN X0.here hx rfl (hb hby d15_2) rfl ?_
    refine st1 _ ?_
    refine st2 _ ?_
    refine XS.pop X2.here hx rfl (hb hby d15_9) rfl rfl ?_
    show Steps _ _ _ (T2.setTop (mkF m 10 #[vI p1, vI p2, vI p3] [])) _
    exact X2.returnOut hx Bd.returns (hb hby d15_10) hr
  · show QP _ _ _ T2.heap _
    rw [e2]
    exact ⟨rfl, rfl, rfl⟩
theorem rm15 (l : Launch) (Z : State) (a0 : Array Value) (hw : HW a0 Z) (ws : List Jvm.Cond) (p1 : Int32) (p2 : Int32) (p3 : Int32) (fm : Value) (h0 : Heap) (n0 : Nat) (O0 : Old Z n0 h0) (S_F : SM Z fm) (h_fm : fm.isRef = true) (h0_ : ¬ p1 < (0 : Int32)) (h1_ : ¬ p2 < p1) (h2_ : ¬ p3 < p2) :
    MFn l mn_22 jdk_42_method_158_code 3 none ws (Rm 1 0 0 15) #[(.int p1), (.int p2), (.int p3)] Z h0 (QP h0 none) := by
  rcases ref_cases h_fm with rfl | ⟨fa, rfl⟩
  · exact rm15_n l Z a0 hw ws p1 p2 p3 h0 n0 O0 S_F h0_ h1_ h2_
  · exact rm15_r l Z a0 hw ws p1 p2 p3 fa h0 n0 O0 S_F h0_ h1_ h2_
theorem d14_0 : dk c14 0 (.aload_n 0) 1 := by decide +kernel
theorem d14_1 : dk c14 1 (.invokevirtual 505) 3 := by decide +kernel
theorem d14_4 : dk c14 4 (.istore_n 3) 1 := by decide +kernel
theorem d14_5 : dk c14 5 (.iload_n 1) 1 := by decide +kernel
theorem d14_6 : dk c14 6 (.iload_n 2) 1 := by decide +kernel
theorem d14_7 : dk c14 7 (.iload_n 3) 1 := by decide +kernel
theorem d14_8 : dk c14 8 (.invokestatic 521) 3 := by decide +kernel
theorem d14_11 : dk c14 11 (.iload_n 1) 1 := by decide +kernel
theorem d14_12 : dk c14 12 (.ifCond .ne 10) 3 := by decide +kernel
theorem d14_15 : dk c14 15 (.iload_n 2) 1 := by decide +kernel
theorem d14_16 : dk c14 16 (.iload_n 3) 1 := by decide +kernel
theorem d14_17 : dk c14 17 (.if_icmp .ne 5) 3 := by decide +kernel
theorem d14_20 : dk c14 20 (.aload_n 0) 1 := by decide +kernel
theorem d14_21 : dk c14 21 .areturn 1 := by decide +kernel
theorem ef_14_z (m : MethodId) (x0 : Addr) (x2 : Int32) : entryFrame m #[(.ref x0), (.int (0 : Int32)), (.int x2)] 5 = mkF m 0 #[.val (.ref x0), .val (.int (0 : Int32)), .val (.int x2), .unset, .unset] [] := by first | (simp [entryFrame, mkF, argsToLocals, Value.category]; done) | rfl
theorem rm14_z (l : Launch) (Z : State) (a0 : Array Value) (hw : HW a0 Z) (ws : List Jvm.Cond) (a1 : Addr) (d : Addr) (kd : ClassId) (z : Int32) (B : List Int32) (cs : Int32) (fm : Value) (h0 : Heap) (n0 : Nat) (O0 : Old Z n0 h0) (E_a1 : ES Z h0 a1) (Fc_a1 : FC Z h0 a1) (Fv_a1 : FV Z h0 a1 d) (V_d : AB Z h0 d kd z B) (hz : ¬ z < 0) (hB : z.toNatClampNeg = B.length) (S_CS : SC Z cs) (h_cs : ¬ cs = (0 : Int32)) (S_F : SM Z fm) (h_fm : fm.isRef = true) :
    MFn l mn_23 jdk_42_method_92_code 5 (some (.object "java/lang/String")) ws (Rm 2 0 0 29) #[(.ref a1), (.int (0 : Int32)), (.int z)] Z h0 (QP h0 (some (.ref a1))) := by
  refine MetFree.of_bodySF (plainFor_of_name pn_0) hisR ?_
  intro p e s m args below meth c s₁ Bd hml0 hP hK
  obtain ⟨rfl, hZ, hh⟩ := hP
  have hx := Bd.exec
  have hby := Bd.bytes
  have hml : c.maxLocals = 5 := hml0
  have hown := findClass_of_methodNamed Bd.named
  have X0 : Stand p l e (Rm 2 0 0 29) s m _ below meth c _ [] 0 0 := Stand.of_body Bd
  have e0 : s₁.heap = h0 := by rw [← hh, Bd.state]; rfl
  have pre0 := cast0 (p := p) (e := e) (below := below) (T := s₁) (ef_14_z m a1 z)
  obtain ⟨cq1, kq1, q1a, q1b, q1c⟩ := isOf hZ e0 E_a1
  obtain ⟨_, _, ⟨T1, L1, k1, n1⟩, -, X1, ⟨Lc1, hQ1, l1, y1, z1⟩, st1⟩ := X0.virtualBack hx (y := mn_11) (z := mn_11) hown (mw hZ hw 56 rfl) (mw hZ hw 42 rfl) (notFace_of_selects (args := #[]) (mw hZ hw 44 rfl)) (mw hZ hw 44 rfl) (mw hZ hw 43 rfl) (by decide) (backOf (W := 0) (rm9 l Z a0 hw [] a1 d kd z B cs h0 n0 O0 E_a1 Fc_a1 Fv_a1 V_d hz hB S_CS h_cs) hZ (ww hw 45 rfl) (ww hw 7 rfl) (by decide) (by decide)) q1a q1c (g := (mkF m 1 #[vR a1, vI 0, vI z, .unset, .unset] [iR a1])) rfl (by rw [hml]; rfl) (Steps.refl _) (argsL := []) (rest := []) (lenOf pd_10 rfl) rfl (wz rfl) (hb hby d14_1) (fun _ _ => ⟨rfl, e0, (by decide : 0 + 0 ≤ _), (by decide : 0 + 0 ≤ _)⟩)
  dsimp only [Pt.U, Pt.locs, Pt.cells, Pt.slots] at X1 l1 y1 z1 st1 hQ1
  subst l1 y1 z1
  obtain ⟨rfl, rfl, e1⟩ := hQ1
  try rw [List.append_nil] at X1
  obtain ⟨_, _, ⟨T2, L2, k2, n2⟩, -, X2, ⟨Lc2, hQ2, l2, y2, z2⟩, st2⟩ := Jvm.LawKit.callS X1 hx (y := mn_22) hown (mw hZ hw 71 rfl) (mw hZ hw 72 rfl) (mw hZ hw 7 rfl) (mw hZ hw 73 rfl) (by decide) (backOf (W := 0) (rm15 l Z a0 hw [] (0 : Int32) z z fm h0 n0 O0 S_F h_fm (by decide) hz (own_nlt (Int.le_refl _))) hZ (ww hw 73 rfl) (ww hw 7 rfl) (by decide) (by decide)) (g := (mkF m 8 #[vR a1, vI 0, vI z, vI z, .unset] [iI z, iI z, iI 0])) rfl (by rw [hml]; rfl) (argsL := [(.int (0 : Int32)), (.int z), (.int z)]) (rest := []) (lenOf pd_16 rfl) rfl (wz rfl) (hb hby d14_8) (fun _ _ => ⟨rfl, e1, (by decide : 0 + 0 ≤ _), (by decide : 0 + 0 ≤ _)⟩)
  dsimp only [Pt.U, Pt.locs, Pt.cells, Pt.slots] at X2 l2 y2 z2 st2 hQ2
  subst l2 y2 z2
  obtain ⟨rfl, rfl, e2⟩ := hQ2
  try rw [List.append_nil] at X2
  obtain ⟨fs, hr, hrun, hended, hW, hsame⟩ := X2.leave (v := some (.ref a1)) (fun h => by rw [Bd.returns] at h; cases h)
  refine ⟨_, _, pre0 _ ?_, hrun, hended, _, _, rfl, ?_, ⟨_, rfl⟩, hW, hsame.mono (by decide) (by decide)⟩
  · refine XS.aloadN X0.here hx rfl (hb hby d14_0) rfl rfl ?_
    refine st1.trans ?_
    refine XS.istoreN X1.here hx rfl (hb hby d14_4) rfl (l' := #[vR a1, vI 0, vI z, vI z, .unset]) rfl ?_
    refine XS.iloadN X1.here hx rfl (hb hby d14_5) rfl ?_
    refine XS.iloadN X1.here hx rfl (hb hby d14_6) rfl ?_
    refine XS.iloadN X1.here hx rfl (hb hby d14_7) rfl ?_
    refine st2 _ ?_
    refine XS.iloadN X2.here hx rfl (hb hby d14_11) rfl ?_
    refine XS.ifNo X2.here hx rfl (hb hby d14_12) rfl ((if0 _ _).trans (teq (by decide : (0 : Int32) = (0 : Int32))).2) ?_
    refine XS.iloadN X2.here hx rfl (hb hby d14_15) rfl ?_
    refine XS.iloadN X2.here hx rfl (hb hby d14_16) rfl ?_
    refine XS.icmpNo X2.here hx rfl (hb hby d14_17) rfl (teq (rfl : z = z)).2 ?_
    refine XS.aloadN X2.here hx rfl (hb hby d14_20) rfl rfl ?_
    show Steps _ _ _ (T2.setTop (mkF m 21 #[vR a1, vI 0, vI z, vI z, .unset] [iR a1])) _
    jvm_step X2.here [X2.here.top, hx, (hb hby d14_21), X2.method', Bd.returns, Value.isRef, FieldType.isReference]
    first | (intro acts; rw [hr _ acts rfl rfl rfl]) | rw [hr _ _ rfl rfl rfl]
    exact Steps.refl _
  · show QP _ _ _ T2.heap _
    rw [e2]
    exact ⟨rfl, rfl, rfl⟩
theorem d13_0 : dk c13 0 (.aload_n 0) 1 := by decide +kernel
theorem d13_1 : dk c13 1 (.iload_n 1) 1 := by decide +kernel
theorem d13_2 : dk c13 2 (.aload_n 0) 1 := by decide +kernel
theorem d13_3 : dk c13 3 (.invokevirtual 505) 3 := by decide +kernel
theorem d13_6 : dk c13 6 (.invokevirtual 681) 3 := by decide +kernel
theorem d13_9 : dk c13 9 .areturn 1 := by decide +kernel
theorem ef_13_z (m : MethodId) (x0 : Addr) : entryFrame m #[(.ref x0), (.int (0 : Int32))] 2 = mkF m 0 #[.val (.ref x0), .val (.int (0 : Int32))] [] := by first | (simp [entryFrame, mkF, argsToLocals, Value.category]; done) | rfl
theorem rm13_z (l : Launch) (Z : State) (a0 : Array Value) (hw : HW a0 Z) (ws : List Jvm.Cond) (a1 : Addr) (d : Addr) (kd : ClassId) (z : Int32) (B : List Int32) (cs : Int32) (fm : Value) (h0 : Heap) (n0 : Nat) (O0 : Old Z n0 h0) (E_a1 : ES Z h0 a1) (Fc_a1 : FC Z h0 a1) (Fv_a1 : FV Z h0 a1 d) (V_d : AB Z h0 d kd z B) (hz : ¬ z < 0) (hB : z.toNatClampNeg = B.length) (S_CS : SC Z cs) (h_cs : ¬ cs = (0 : Int32)) (S_F : SM Z fm) (h_fm : fm.isRef = true) :
    MFn l mn_24 jdk_42_method_91_code 2 (some (.object "java/lang/String")) ws (Rm 3 0 0 45) #[(.ref a1), (.int (0 : Int32))] Z h0 (QP h0 (some (.ref a1))) := by
  refine MetFree.of_bodySF (plainFor_of_name pn_0) hisR ?_
  intro p e s m args below meth c s₁ Bd hml0 hP hK
  obtain ⟨rfl, hZ, hh⟩ := hP
  have hx := Bd.exec
  have hby := Bd.bytes
  have hml : c.maxLocals = 2 := hml0
  have hown := findClass_of_methodNamed Bd.named
  have X0 : Stand p l e (Rm 3 0 0 45) s m _ below meth c _ [] 0 0 := Stand.of_body Bd
  have e0 : s₁.heap = h0 := by rw [← hh, Bd.state]; rfl
  have pre0 := cast0 (p := p) (e := e) (below := below) (T := s₁) (ef_13_z m a1)
  obtain ⟨cq1, kq1, q1a, q1b, q1c⟩ := isOf hZ e0 E_a1
  obtain ⟨_, _, ⟨T1, L1, k1, n1⟩, -, X1, ⟨Lc1, hQ1, l1, y1, z1⟩, st1⟩ := X0.virtualBack hx (y := mn_11) (z := mn_11) hown (mw hZ hw 56 rfl) (mw hZ hw 42 rfl) (notFace_of_selects (args := #[]) (mw hZ hw 44 rfl)) (mw hZ hw 44 rfl) (mw hZ hw 43 rfl) (by decide) (backOf (W := 2) (rm9 l Z a0 hw [] a1 d kd z B cs h0 n0 O0 E_a1 Fc_a1 Fv_a1 V_d hz hB S_CS h_cs) hZ (ww hw 45 rfl) (ww hw 7 rfl) (by decide) (by decide)) q1a q1c (g := (mkF m 3 #[vR a1, vI 0] [iR a1, iI 0, iR a1])) rfl (by rw [hml]; rfl) (Steps.refl _) (argsL := []) (rest := [(.int (0 : Int32)), (.ref a1)]) (lenOf pd_10 rfl) rfl (wz rfl) (hb hby d13_3) (fun _ _ => ⟨rfl, e0, (by decide : 0 + 0 ≤ _), (by decide : 0 + 0 ≤ _)⟩)
  dsimp only [Pt.U, Pt.locs, Pt.cells, Pt.slots] at X1 l1 y1 z1 st1 hQ1
  subst l1 y1 z1
  obtain ⟨rfl, rfl, e1⟩ := hQ1
  try rw [List.append_nil] at X1
  obtain ⟨cq2, kq2, q2a, q2b, q2c⟩ := isOf hZ e1 E_a1
  obtain ⟨_, _, ⟨T2, L2, k2, n2⟩, -, X2, ⟨Lc2, hQ2, l2, y2, z2⟩, st2⟩ := X1.virtualBack hx (y := mn_23) (z := mn_23) hown (mw hZ hw 66 rfl) (mw hZ hw 67 rfl) (notFace_of_selects (args := #[]) (mw hZ hw 69 rfl)) (mw hZ hw 69 rfl) (mw hZ hw 68 rfl) (by decide) (backOf (W := 0) (rm14_z l Z a0 hw [] a1 d kd z B cs fm h0 n0 O0 E_a1 Fc_a1 Fv_a1 V_d hz hB  S_CS h_cs S_F h_fm) hZ (ww hw 70 rfl) (ww hw 7 rfl) (by decide) (by decide)) q2a q2c (g := (mkF m 6 #[vR a1, vI 0] [iI z, iI 0, iR a1])) rfl (by rw [hml]; rfl) (Steps.refl _) (argsL := [(.int (0 : Int32)), (.int z)]) (rest := []) (lenOf pd_17 rfl) rfl (wz rfl) (hb hby d13_6) (fun _ _ => ⟨rfl, e1, (by decide : 0 + 0 ≤ _), (by decide : 0 + 0 ≤ _)⟩)
  dsimp only [Pt.U, Pt.locs, Pt.cells, Pt.slots] at X2 l2 y2 z2 st2 hQ2
  subst l2 y2 z2
  obtain ⟨rfl, rfl, e2⟩ := hQ2
  try rw [List.append_nil] at X2
  obtain ⟨fs, hr, hrun, hended, hW, hsame⟩ := X2.leave (v := some (.ref a1)) (fun h => by rw [Bd.returns] at h; cases h)
  refine ⟨_, _, pre0 _ ?_, hrun, hended, _, _, rfl, ?_, ⟨_, rfl⟩, hW, hsame.mono (by decide) (by decide)⟩
  · refine XS.aloadN X0.here hx rfl (hb hby d13_0) rfl rfl ?_
    refine XS.iloadN X0.here hx rfl (hb hby d13_1) rfl ?_
    refine XS.aloadN X0.here hx rfl (hb hby d13_2) rfl rfl ?_
    refine st1.trans ?_
    refine st2.trans ?_
    show Steps _ _ _ (T2.setTop (mkF m 9 #[vR a1, vI 0] [iR a1])) _
    jvm_step X2.here [X2.here.top, hx, (hb hby d13_9), X2.method', Bd.returns, Value.isRef, FieldType.isReference]
    first | (intro acts; rw [hr _ acts rfl rfl rfl]) | rw [hr _ _ rfl rfl rfl]
    exact Steps.refl _
  · show QP _ _ _ T2.heap _
    rw [e2]
    exact ⟨rfl, rfl, rfl⟩
theorem d14_22 : dk c14 22 (.iload_n 2) 1 := by decide +kernel
theorem d14_23 : dk c14 23 (.iload_n 1) 1 := by decide +kernel
theorem d14_24 : dk c14 24 .isub 1 := by decide +kernel
theorem d14_25 : dk c14 25 (.istore 4) 2 := by decide +kernel
theorem d14_27 : dk c14 27 (.aload_n 0) 1 := by decide +kernel
theorem d14_28 : dk c14 28 (.invokevirtual 492) 3 := by decide +kernel
theorem d14_31 : dk c14 31 (.ifCond .eq 16) 3 := by decide +kernel
theorem d14_34 : dk c14 34 (.aload_n 0) 1 := by decide +kernel
theorem d14_35 : dk c14 35 (.getfield 9) 3 := by decide +kernel
theorem d14_38 : dk c14 38 (.iload_n 1) 1 := by decide +kernel
theorem d14_39 : dk c14 39 (.iload 4) 2 := by decide +kernel
theorem d14_41 : dk c14 41 (.invokestatic 685) 3 := by decide +kernel
theorem d14_44 : dk c14 44 (.goto 13) 3 := by decide +kernel
theorem d14_57 : dk c14 57 .areturn 1 := by decide +kernel
theorem ef_14_e (m : MethodId) (x0 : Addr) (x1 : Int32) (x2 : Int32) : entryFrame m #[(.ref x0), (.int x1), (.int x2)] 5 = mkF m 0 #[.val (.ref x0), .val (.int x1), .val (.int x2), .unset, .unset] [] := by first | (simp [entryFrame, mkF, argsToLocals, Value.category]; done) | rfl
def Q14_e (Z : State) (a1 : Addr) (p2 : Int32) (d : Addr) (kd : ClassId) (z : Int32) (B : List Int32) (cs : Int32) (fm : Value) (h0 : Heap) (n0 : Nat) (v : Option Value) (h : Heap) (L : List Loc) : Prop := ∃ (o d : Addr) (ko : ClassId), v = some (.ref o) ∧ Fr n0 L ∧ Keep h0 h [] ∧ ES Z h o ∧ FC Z h o ∧ FV Z h o d ∧ AB Z h d ko (0 : Int32) []
theorem rm14_e (l : Launch) (Z : State) (a0 : Array Value) (hw : HW a0 Z) (ws : List Jvm.Cond) (a1 : Addr) (p2 : Int32) (d : Addr) (kd : ClassId) (z : Int32) (B : List Int32) (cs : Int32) (fm : Value) (h0 : Heap) (n0 : Nat) (Z0 : n0 ≤ h0.size) (O0 : Old Z n0 h0) (E_a1 : ES Z h0 a1) (Fc_a1 : FC Z h0 a1) (Fv_a1 : FV Z h0 a1 d) (V_d : AB Z h0 d kd z B) (hz : ¬ z < 0) (hB : z.toNatClampNeg = B.length) (hf : 1 ≤ p2.toInt ∧ p2.toInt ≤ 6) (hzr : z.toInt = p2.toInt + (0 : Int32).toInt) (S_CS : SC Z cs) (h_cs : ¬ cs = (0 : Int32)) (S_F : SM Z fm) (h_fm : fm.isRef = true) :
    MFh l mn_23 jdk_42_method_92_code 5 (some (.object "java/lang/String")) ws (Rm 2 2 4 29) #[(.ref a1), (.int p2), (.int z)] Z h0 (Q14_e Z a1 p2 d kd z B cs fm h0 n0) := by
  refine MetFree.of_bodySF (plainFor_of_name pn_0) hisR ?_
  intro p e s m args below meth c s₁ Bd hml0 hP hK
  obtain ⟨rfl, hZ, hh, hC0⟩ := hP
  have hx := Bd.exec
  have hby := Bd.bytes
  have hml : c.maxLocals = 5 := hml0
  have hown := findClass_of_methodNamed Bd.named
  have X0 : Stand p l e (Rm 2 2 4 29) s m _ below meth c _ [] 0 0 := Stand.of_body Bd
  have e0 : s₁.heap = h0 := by rw [← hh, Bd.state]; rfl
  have R0 := CHr.refl hC0
  have N0 := Fr.nil n0
  have K0 := Keep.refl h0 []
  have pre0 := cast0 (p := p) (e := e) (below := below) (T := s₁) (ef_14_e m a1 p2 z)
  obtain ⟨cq1, kq1, q1a, q1b, q1c⟩ := isOf hZ e0 E_a1
  obtain ⟨_, _, ⟨T1, L1, k1, n1⟩, -, X1, ⟨Lc1, hQ1, l1, y1, z1⟩, st1⟩ := X0.virtualBack hx (y := mn_11) (z := mn_11) hown (mw hZ hw 56 rfl) (mw hZ hw 42 rfl) (notFace_of_selects (args := #[]) (mw hZ hw 44 rfl)) (mw hZ hw 44 rfl) (mw hZ hw 43 rfl) (by decide) (backOf (W := 0) (rm9 l Z a0 hw [] a1 d kd z B cs h0 n0 O0 E_a1 Fc_a1 Fv_a1 V_d hz hB S_CS h_cs) hZ (ww hw 45 rfl) (ww hw 7 rfl) (by decide) (by decide)) q1a q1c (g := (mkF m 1 #[vR a1, vI p2, vI z, .unset, .unset] [iR a1])) rfl (by rw [hml]; rfl) (Steps.refl _) (argsL := []) (rest := []) (lenOf pd_10 rfl) rfl (wz rfl) (hb hby d14_1) (fun _ _ => ⟨rfl, e0, (by decide : 0 + 0 ≤ _), (by decide : 0 + 0 ≤ _)⟩)
  dsimp only [Pt.U, Pt.locs, Pt.cells, Pt.slots] at X1 l1 y1 z1 st1 hQ1
  subst l1 y1 z1
  obtain ⟨rfl, rfl, e1⟩ := hQ1
  try rw [List.append_nil] at X1
  obtain ⟨_, _, ⟨T2, L2, k2, n2⟩, -, X2, ⟨Lc2, hQ2, l2, y2, z2⟩, st2⟩ := Jvm.LawKit.callS X1 hx (y := mn_22) hown (mw hZ hw 71 rfl) (mw hZ hw 72 rfl) (mw hZ hw 7 rfl) (mw hZ hw 73 rfl) (by decide) (backOf (W := 0) (rm15 l Z a0 hw [] p2 z z fm h0 n0 O0 S_F h_fm (own_nneg (by omega)) (own_nlt (by have e : (0 : Int32).toInt = 0 := rfl; omega)) (own_nlt (Int.le_refl _))) hZ (ww hw 73 rfl) (ww hw 7 rfl) (by decide) (by decide)) (g := (mkF m 8 #[vR a1, vI p2, vI z, vI z, .unset] [iI z, iI z, iI p2])) rfl (by rw [hml]; rfl) (argsL := [(.int p2), (.int z), (.int z)]) (rest := []) (lenOf pd_16 rfl) rfl (wz rfl) (hb hby d14_8) (fun _ _ => ⟨rfl, e1, (by decide : 0 + 0 ≤ _), (by decide : 0 + 0 ≤ _)⟩)
  dsimp only [Pt.U, Pt.locs, Pt.cells, Pt.slots] at X2 l2 y2 z2 st2 hQ2
  subst l2 y2 z2
  obtain ⟨rfl, rfl, e2⟩ := hQ2
  try rw [List.append_nil] at X2
  obtain ⟨cq3, kq3, q3a, q3b, q3c⟩ := isOf hZ e2 E_a1
  obtain ⟨_, _, ⟨T3, L3, k3, n3⟩, -, X3, ⟨Lc3, hQ3, l3, y3, z3⟩, st3⟩ := X2.virtualBack hx (y := mn_0) (z := mn_0) hown (mw hZ hw 99 rfl) (mw hZ hw 100 rfl) (notFace_of_selects (args := #[]) (mw hZ hw 102 rfl)) (mw hZ hw 102 rfl) (mw hZ hw 101 rfl) (by decide) (backOf (W := 0) (rm21 l Z a0 hw [] a1 cs h0 n0 O0 Fc_a1 S_CS h_cs) hZ (ww hw 103 rfl) (ww hw 7 rfl) (by decide) (by decide)) q3a q3c (g := (mkF m 28 #[vR a1, vI p2, vI z, vI z, vI 0] [iR a1])) rfl (by rw [hml]; rfl) (Steps.refl _) (argsL := []) (rest := []) (lenOf pd_2 rfl) rfl (wz rfl) (hb hby d14_28) (fun _ _ => ⟨rfl, e2, (by decide : 0 + 0 ≤ _), (by decide : 0 + 0 ≤ _)⟩)
  dsimp only [Pt.U, Pt.locs, Pt.cells, Pt.slots] at X3 l3 y3 z3 st3 hQ3
  subst l3 y3 z3
  obtain ⟨rfl, rfl, e3⟩ := hQ3
  try rw [List.append_nil] at X3
  obtain ⟨T4, X4, e4, st4⟩ := gF X3 hx hZ hown (ww hw 32 rfl) e3 Fv_a1 (g := (mkF m 35 #[vR a1, vI p2, vI z, vI z, vI 0] [iR a1])) rfl rfl (hb hby d14_35)
  have pre6 : PP p e below (T4.setTop (mkF m 41 #[vR a1, vI p2, vI z, vI z, vI 0] [iI 0, iI p2, iR d])) (s₁.setTop (entryFrame m #[(.ref a1), (.int p2), (.int z)] 5)) := by
    intro t kt
    refine pre0 t ?_
    refine XS.aloadN X0.here hx rfl (hb hby d14_0) rfl rfl ?_
    refine st1.trans ?_
    refine XS.istoreN X1.here hx rfl (hb hby d14_4) rfl (l' := #[vR a1, vI p2, vI z, vI z, .unset]) rfl ?_
    refine XS.iloadN X1.here hx rfl (hb hby d14_5) rfl ?_
    refine XS.iloadN X1.here hx rfl (hb hby d14_6) rfl ?_
    refine XS.iloadN X1.here hx rfl (hb hby d14_7) rfl ?_
    refine st2 _ ?_
    refine XS.iloadN X2.here hx rfl (hb hby d14_11) rfl ?_
    refine XS.ifYes X2.here hx rfl (pc0 := 12) (pc' := 22) rfl (hb hby d14_12) rfl ((if0 _ _).trans (feq (fun e => absurd hf.1 (by rw [e]; decide))).2) (by decide) (by decide) ?_
    refine XS.iloadN X2.here hx rfl (hb hby d14_22) rfl ?_
    refine XS.iloadN X2.here hx rfl (hb hby d14_23) rfl ?_
    refine XS.isub X2.here hx rfl (hb hby d14_24) rfl ?_
    rw [own_subE hzr]
    refine XS.istore X2.here hx rfl (hb hby d14_25) rfl (l' := #[vR a1, vI p2, vI z, vI z, vI 0]) rfl ?_
    refine XS.aloadN X2.here hx rfl (hb hby d14_27) rfl rfl ?_
    refine st3.trans ?_
    refine XS.ifNo X3.here hx rfl (hb hby d14_31) rfl ((if0 _ _).trans (feq (by decide : ¬ ((1 : Int32) = (0 : Int32)))).1) ?_
    refine XS.aloadN X3.here hx rfl (hb hby d14_34) rfl rfl ?_
    refine st4 _ ?_
    refine XS.iloadN X4.here hx rfl (hb hby d14_38) rfl ?_
    refine XS.iload X4.here hx rfl (hb hby d14_39) rfl ?_
    exact kt
  obtain ⟨_, _, ⟨T5, L5, k5, n5⟩, -, X5, hS5q, gr5, ⟨Lc5, hQ5, l5, y5, z5, C5⟩, st5⟩ := callSS (s := s.setVm s.vm) X4 hx (y := mn_20) hown (mw hZ hw 190 rfl) (mw hZ hw 130 rfl) (mw hZ hw 59 rfl) (mw hZ hw 131 rfl) (by decide) (backOfSH (s := s) (vm0 := s.vm) (W := 0) (rm28_0 l Z a0 hw [] d p2 h0 n0 (Nat.le_trans Z0 K0.1) O0 ) hZ (ww hw 131 rfl) (ww hw 59 rfl) (by decide) (by decide) (own_EW hw) R0.1) (g := (mkF m 41 #[vR a1, vI p2, vI z, vI z, vI 0] [iI 0, iI p2, iR d])) rfl (by rw [hml]; rfl) (argsL := [(.ref d), (.int p2), (.int (0 : Int32))]) (rest := []) (lenOf pd_18 rfl) rfl (wz rfl) (hb hby d14_41) (fun _ _ => ⟨rfl, e4, (by decide : 0 + 2 ≤ _), (by decide : 0 + 4 ≤ _)⟩)
  dsimp only [Pt.U, Pt.locs, Pt.cells, Pt.slots] at X5 hS5q gr5 l5 y5 z5 C5 st5 hQ5
  subst l5 y5 z5
  have hS5 := State.Since.trans ((State.WarmedH.refl s).since 0) hS5q (Nat.zero_le _)
  have hZ : Z.Warmed39 (s.setVm T5.vm).vm := State.Warmed39.trans (t := s.setVm s.vm) hZ hS5q.1
  have hown : (s.setVm T5.vm).vm.findClass "java/lang/String" = some m.cls := by rw [show (s.setVm T5.vm).vm = T5.vm from rfl, hS5q.1.alike.findClass]; exact hown
  have R5 := R0.trans C5
  obtain ⟨o5, d5, kd5, rfl, N5q, K5q, E5q, C5q, F5q, V5q⟩ := hQ5
  have N5 := Fr.app N0 N5q
  have K5 : Keep h0 T5.heap [] := Keep.trans K0 K5q all0
  have hfin := R5.trans (CHv.at (s := s) (vm0 := T5.vm) X5 hZ (own_EW hw) R5.1)
  obtain ⟨fs, hr, hrun, hended, hEnd⟩ := X5.leaveW (s := s) hS5 (Nat.le_refl T5.heap.size) (v := some (.ref o5)) (fun h => by rw [Bd.returns] at h; cases h)
  refine ⟨_, _, pre6 _ ?_, hrun, hended, _, _, rfl, ?_, (by rw [hh]; show CHr Z consts_1 s.vm h0 T5.vm T5.heap; exact hfin), ⟨hEnd.1, hEnd.2.1, hEnd.2.2.1, hEnd.2.2.2.mono (by decide) (by decide)⟩⟩
  · refine st5.trans ?_
    refine XS.goto X5.here hx rfl (pc0 := 44) (pc' := 57) rfl (hb hby d14_44) (by decide) (by decide) ?_
    show Steps _ _ _ (T5.setTop (mkF m 57 #[vR a1, vI p2, vI z, vI z, vI 0] [iR o5])) _
    jvm_step X5.here [X5.here.top, hx, (hb hby d14_57), X5.method', Bd.returns, Value.isRef, FieldType.isReference]
    first | (intro acts; rw [hr _ acts rfl rfl rfl]) | rw [hr _ _ rfl rfl rfl]
    exact Steps.refl _
  · show Q14_e Z a1 p2 d kd z B cs fm h0 n0 _ T5.heap _
    exact ⟨_, _, _, rfl, N5, K5, E5q, C5q, F5q, V5q⟩
theorem ef_13_e (m : MethodId) (x0 : Addr) (x1 : Int32) : entryFrame m #[(.ref x0), (.int x1)] 2 = mkF m 0 #[.val (.ref x0), .val (.int x1)] [] := by first | (simp [entryFrame, mkF, argsToLocals, Value.category]; done) | rfl
def Q13_e (Z : State) (a1 : Addr) (p2 : Int32) (d : Addr) (kd : ClassId) (z : Int32) (B : List Int32) (cs : Int32) (fm : Value) (h0 : Heap) (n0 : Nat) (v : Option Value) (h : Heap) (L : List Loc) : Prop := ∃ (o d : Addr) (ko : ClassId), v = some (.ref o) ∧ Fr n0 L ∧ Keep h0 h [] ∧ ES Z h o ∧ FC Z h o ∧ FV Z h o d ∧ AB Z h d ko (0 : Int32) []
theorem rm13_e (l : Launch) (Z : State) (a0 : Array Value) (hw : HW a0 Z) (ws : List Jvm.Cond) (a1 : Addr) (p2 : Int32) (d : Addr) (kd : ClassId) (z : Int32) (B : List Int32) (cs : Int32) (fm : Value) (h0 : Heap) (n0 : Nat) (Z0 : n0 ≤ h0.size) (O0 : Old Z n0 h0) (E_a1 : ES Z h0 a1) (Fc_a1 : FC Z h0 a1) (Fv_a1 : FV Z h0 a1 d) (V_d : AB Z h0 d kd z B) (hz : ¬ z < 0) (hB : z.toNatClampNeg = B.length) (hf : 1 ≤ p2.toInt ∧ p2.toInt ≤ 6) (hzr : z.toInt = p2.toInt + (0 : Int32).toInt) (S_CS : SC Z cs) (h_cs : ¬ cs = (0 : Int32)) (S_F : SM Z fm) (h_fm : fm.isRef = true) :
    MFh l mn_24 jdk_42_method_91_code 2 (some (.object "java/lang/String")) ws (Rm 3 2 4 45) #[(.ref a1), (.int p2)] Z h0 (Q13_e Z a1 p2 d kd z B cs fm h0 n0) := by
  refine MetFree.of_bodySF (plainFor_of_name pn_0) hisR ?_
  intro p e s m args below meth c s₁ Bd hml0 hP hK
  obtain ⟨rfl, hZ, hh, hC0⟩ := hP
  have hx := Bd.exec
  have hby := Bd.bytes
  have hml : c.maxLocals = 2 := hml0
  have hown := findClass_of_methodNamed Bd.named
  have X0 : Stand p l e (Rm 3 2 4 45) s m _ below meth c _ [] 0 0 := Stand.of_body Bd
  have e0 : s₁.heap = h0 := by rw [← hh, Bd.state]; rfl
  have R0 := CHr.refl hC0
  have N0 := Fr.nil n0
  have K0 := Keep.refl h0 []
  have pre0 := cast0 (p := p) (e := e) (below := below) (T := s₁) (ef_13_e m a1 p2)
  obtain ⟨cq1, kq1, q1a, q1b, q1c⟩ := isOf hZ e0 E_a1
  obtain ⟨_, _, ⟨T1, L1, k1, n1⟩, -, X1, ⟨Lc1, hQ1, l1, y1, z1⟩, st1⟩ := X0.virtualBack hx (y := mn_11) (z := mn_11) hown (mw hZ hw 56 rfl) (mw hZ hw 42 rfl) (notFace_of_selects (args := #[]) (mw hZ hw 44 rfl)) (mw hZ hw 44 rfl) (mw hZ hw 43 rfl) (by decide) (backOf (W := 2) (rm9 l Z a0 hw [] a1 d kd z B cs h0 n0 O0 E_a1 Fc_a1 Fv_a1 V_d hz hB S_CS h_cs) hZ (ww hw 45 rfl) (ww hw 7 rfl) (by decide) (by decide)) q1a q1c (g := (mkF m 3 #[vR a1, vI p2] [iR a1, iI p2, iR a1])) rfl (by rw [hml]; rfl) (Steps.refl _) (argsL := []) (rest := [(.int p2), (.ref a1)]) (lenOf pd_10 rfl) rfl (wz rfl) (hb hby d13_3) (fun _ _ => ⟨rfl, e0, (by decide : 0 + 0 ≤ _), (by decide : 0 + 0 ≤ _)⟩)
  dsimp only [Pt.U, Pt.locs, Pt.cells, Pt.slots] at X1 l1 y1 z1 st1 hQ1
  subst l1 y1 z1
  obtain ⟨rfl, rfl, e1⟩ := hQ1
  try rw [List.append_nil] at X1
  have pre3 : PP p e below (T1.setTop (mkF m 6 #[vR a1, vI p2] [iI z, iI p2, iR a1])) (s₁.setTop (entryFrame m #[(.ref a1), (.int p2)] 2)) := by
    intro t kt
    refine pre0 t ?_
    refine XS.aloadN X0.here hx rfl (hb hby d13_0) rfl rfl ?_
    refine XS.iloadN X0.here hx rfl (hb hby d13_1) rfl ?_
    refine XS.aloadN X0.here hx rfl (hb hby d13_2) rfl rfl ?_
    refine st1.trans ?_
    exact kt
  obtain ⟨cq2, kq2, q2a, q2b, q2c⟩ := isOf hZ e1 E_a1
  obtain ⟨_, _, ⟨T2, L2, k2, n2⟩, -, X2, hS2q, gr2, ⟨Lc2, hQ2, l2, y2, z2, C2⟩, st2⟩ := virtualBackS (s := s.setVm s.vm) X1 hx (y := mn_23) (z := mn_23) hown (mw hZ hw 66 rfl) (mw hZ hw 67 rfl) (notFace_of_selects (args := #[]) (mw hZ hw 69 rfl)) (mw hZ hw 69 rfl) (mw hZ hw 68 rfl) (by decide) (backOfSH (s := s) (vm0 := s.vm) (W := 0) (rm14_e l Z a0 hw [] a1 p2 d kd z B cs fm h0 n0 (Nat.le_trans Z0 K0.1) O0 E_a1 Fc_a1 Fv_a1 V_d hz hB hf hzr S_CS h_cs S_F h_fm) hZ (ww hw 70 rfl) (ww hw 7 rfl) (by decide) (by decide) (own_EW hw) R0.1) q2a q2c (g := (mkF m 6 #[vR a1, vI p2] [iI z, iI p2, iR a1])) rfl (by rw [hml]; rfl) (Steps.refl _) (argsL := [(.int p2), (.int z)]) (rest := []) (lenOf pd_17 rfl) rfl (wz rfl) (hb hby d13_6) (fun _ _ => ⟨rfl, e1, (by decide : 0 + 2 ≤ _), (by decide : 0 + 4 ≤ _)⟩)
  dsimp only [Pt.U, Pt.locs, Pt.cells, Pt.slots] at X2 hS2q gr2 l2 y2 z2 C2 st2 hQ2
  subst l2 y2 z2
  have hS2 := State.Since.trans ((State.WarmedH.refl s).since 0) hS2q (Nat.zero_le _)
  have hZ : Z.Warmed39 (s.setVm T2.vm).vm := State.Warmed39.trans (t := s.setVm s.vm) hZ hS2q.1
  have hown : (s.setVm T2.vm).vm.findClass "java/lang/String" = some m.cls := by rw [show (s.setVm T2.vm).vm = T2.vm from rfl, hS2q.1.alike.findClass]; exact hown
  have R2 := R0.trans C2
  obtain ⟨o2, d2, kd2, rfl, N2q, K2q, E2q, C2q, F2q, V2q⟩ := hQ2
  have N2 := Fr.app N0 N2q
  have K2 : Keep h0 T2.heap [] := Keep.trans K0 K2q all0
  have hfin := R2.trans (CHv.at (s := s) (vm0 := T2.vm) X2 hZ (own_EW hw) R2.1)
  obtain ⟨fs, hr, hrun, hended, hEnd⟩ := X2.leaveW (s := s) hS2 (Nat.le_refl T2.heap.size) (v := some (.ref o2)) (fun h => by rw [Bd.returns] at h; cases h)
  refine ⟨_, _, pre3 _ ?_, hrun, hended, _, _, rfl, ?_, (by rw [hh]; show CHr Z consts_1 s.vm h0 T2.vm T2.heap; exact hfin), ⟨hEnd.1, hEnd.2.1, hEnd.2.2.1, hEnd.2.2.2.mono (by decide) (by decide)⟩⟩
  · refine st2.trans ?_
    show Steps _ _ _ (T2.setTop (mkF m 9 #[vR a1, vI p2] [iR o2])) _
    jvm_step X2.here [X2.here.top, hx, (hb hby d13_9), X2.method', Bd.returns, Value.isRef, FieldType.isReference]
    first | (intro acts; rw [hr _ acts rfl rfl rfl]) | rw [hr _ _ rfl rfl rfl]
    exact Steps.refl _
  · show Q13_e Z a1 p2 d kd z B cs fm h0 n0 _ T2.heap _
    exact ⟨_, _, _, rfl, N2, K2, E2q, C2q, F2q, V2q⟩
theorem ef_14_g (m : MethodId) (x0 : Addr) (x1 : Int32) (x2 : Int32) : entryFrame m #[(.ref x0), (.int x1), (.int x2)] 5 = mkF m 0 #[.val (.ref x0), .val (.int x1), .val (.int x2), .unset, .unset] [] := by first | (simp [entryFrame, mkF, argsToLocals, Value.category]; done) | rfl
def Q14_g (Z : State) (a1 : Addr) (p2 : Int32) (d : Addr) (kd : ClassId) (z : Int32) (B : List Int32) (zr : Int32) (cs : Int32) (fm : Value) (h0 : Heap) (n0 : Nat) (v : Option Value) (h : Heap) (L : List Loc) : Prop := ∃ (o d : Addr) (ko : ClassId), v = some (.ref o) ∧ Fr n0 L ∧ Keep h0 h [] ∧ ES Z h o ∧ FC Z h o ∧ FV Z h o d ∧ AB Z h d ko zr ((B.drop p2.toNatClampNeg).take zr.toNatClampNeg)
theorem rm14_g (l : Launch) (Z : State) (a0 : Array Value) (hw : HW a0 Z) (ws : List Jvm.Cond) (a1 : Addr) (p2 : Int32) (d : Addr) (kd : ClassId) (z : Int32) (B : List Int32) (zr : Int32) (cs : Int32) (fm : Value) (h0 : Heap) (n0 : Nat) (Z0 : n0 ≤ h0.size) (O0 : Old Z n0 h0) (E_a1 : ES Z h0 a1) (Fc_a1 : FC Z h0 a1) (Fv_a1 : FV Z h0 a1 d) (V_d : AB Z h0 d kd z B) (hz : ¬ z < 0) (hB : z.toNatClampNeg = B.length) (hf : 1 ≤ p2.toInt ∧ p2.toInt ≤ 6) (hzr : z.toInt = p2.toInt + zr.toInt) (hr1 : 1 ≤ zr.toInt ∧ zr.toInt ≤ 6) (S_CS : SC Z cs) (h_cs : ¬ cs = (0 : Int32)) (S_F : SM Z fm) (h_fm : fm.isRef = true) :
    MFh l mn_23 jdk_42_method_92_code 5 (some (.object "java/lang/String")) ws (Rm 4 2 10 64) #[(.ref a1), (.int p2), (.int z)] Z h0 (Q14_g Z a1 p2 d kd z B zr cs fm h0 n0) := by
  refine MetFree.of_bodySF (plainFor_of_name pn_0) hisR ?_
  intro p e s m args below meth c s₁ Bd hml0 hP hK
  obtain ⟨rfl, hZ, hh, hC0⟩ := hP
  have hx := Bd.exec
  have hby := Bd.bytes
  have hml : c.maxLocals = 5 := hml0
  have hown := findClass_of_methodNamed Bd.named
  have X0 : Stand p l e (Rm 4 2 10 64) s m _ below meth c _ [] 0 0 := Stand.of_body Bd
  have e0 : s₁.heap = h0 := by rw [← hh, Bd.state]; rfl
  have R0 := CHr.refl hC0
  have N0 := Fr.nil n0
  have K0 := Keep.refl h0 []
  have pre0 := cast0 (p := p) (e := e) (below := below) (T := s₁) (ef_14_g m a1 p2 z)
  obtain ⟨cq1, kq1, q1a, q1b, q1c⟩ := isOf hZ e0 E_a1
  obtain ⟨_, _, ⟨T1, L1, k1, n1⟩, -, X1, ⟨Lc1, hQ1, l1, y1, z1⟩, st1⟩ := X0.virtualBack hx (y := mn_11) (z := mn_11) hown (mw hZ hw 56 rfl) (mw hZ hw 42 rfl) (notFace_of_selects (args := #[]) (mw hZ hw 44 rfl)) (mw hZ hw 44 rfl) (mw hZ hw 43 rfl) (by decide) (backOf (W := 0) (rm9 l Z a0 hw [] a1 d kd z B cs h0 n0 O0 E_a1 Fc_a1 Fv_a1 V_d hz hB S_CS h_cs) hZ (ww hw 45 rfl) (ww hw 7 rfl) (by decide) (by decide)) q1a q1c (g := (mkF m 1 #[vR a1, vI p2, vI z, .unset, .unset] [iR a1])) rfl (by rw [hml]; rfl) (Steps.refl _) (argsL := []) (rest := []) (lenOf pd_10 rfl) rfl (wz rfl) (hb hby d14_1) (fun _ _ => ⟨rfl, e0, (by decide : 0 + 0 ≤ _), (by decide : 0 + 0 ≤ _)⟩)
  dsimp only [Pt.U, Pt.locs, Pt.cells, Pt.slots] at X1 l1 y1 z1 st1 hQ1
  subst l1 y1 z1
  obtain ⟨rfl, rfl, e1⟩ := hQ1
  try rw [List.append_nil] at X1
  obtain ⟨_, _, ⟨T2, L2, k2, n2⟩, -, X2, ⟨Lc2, hQ2, l2, y2, z2⟩, st2⟩ := Jvm.LawKit.callS X1 hx (y := mn_22) hown (mw hZ hw 71 rfl) (mw hZ hw 72 rfl) (mw hZ hw 7 rfl) (mw hZ hw 73 rfl) (by decide) (backOf (W := 0) (rm15 l Z a0 hw [] p2 z z fm h0 n0 O0 S_F h_fm (own_nneg (by omega)) (own_nlt (by have e : (0 : Int32).toInt = 0 := rfl; omega)) (own_nlt (Int.le_refl _))) hZ (ww hw 73 rfl) (ww hw 7 rfl) (by decide) (by decide)) (g := (mkF m 8 #[vR a1, vI p2, vI z, vI z, .unset] [iI z, iI z, iI p2])) rfl (by rw [hml]; rfl) (argsL := [(.int p2), (.int z), (.int z)]) (rest := []) (lenOf pd_16 rfl) rfl (wz rfl) (hb hby d14_8) (fun _ _ => ⟨rfl, e1, (by decide : 0 + 0 ≤ _), (by decide : 0 + 0 ≤ _)⟩)
  dsimp only [Pt.U, Pt.locs, Pt.cells, Pt.slots] at X2 l2 y2 z2 st2 hQ2
  subst l2 y2 z2
  obtain ⟨rfl, rfl, e2⟩ := hQ2
  try rw [List.append_nil] at X2
  obtain ⟨cq3, kq3, q3a, q3b, q3c⟩ := isOf hZ e2 E_a1
  obtain ⟨_, _, ⟨T3, L3, k3, n3⟩, -, X3, ⟨Lc3, hQ3, l3, y3, z3⟩, st3⟩ := X2.virtualBack hx (y := mn_0) (z := mn_0) hown (mw hZ hw 99 rfl) (mw hZ hw 100 rfl) (notFace_of_selects (args := #[]) (mw hZ hw 102 rfl)) (mw hZ hw 102 rfl) (mw hZ hw 101 rfl) (by decide) (backOf (W := 0) (rm21 l Z a0 hw [] a1 cs h0 n0 O0 Fc_a1 S_CS h_cs) hZ (ww hw 103 rfl) (ww hw 7 rfl) (by decide) (by decide)) q3a q3c (g := (mkF m 28 #[vR a1, vI p2, vI z, vI z, vI zr] [iR a1])) rfl (by rw [hml]; rfl) (Steps.refl _) (argsL := []) (rest := []) (lenOf pd_2 rfl) rfl (wz rfl) (hb hby d14_28) (fun _ _ => ⟨rfl, e2, (by decide : 0 + 0 ≤ _), (by decide : 0 + 0 ≤ _)⟩)
  dsimp only [Pt.U, Pt.locs, Pt.cells, Pt.slots] at X3 l3 y3 z3 st3 hQ3
  subst l3 y3 z3
  obtain ⟨rfl, rfl, e3⟩ := hQ3
  try rw [List.append_nil] at X3
  obtain ⟨T4, X4, e4, st4⟩ := gF X3 hx hZ hown (ww hw 32 rfl) e3 Fv_a1 (g := (mkF m 35 #[vR a1, vI p2, vI z, vI z, vI zr] [iR a1])) rfl rfl (hb hby d14_35)
  have pre6 : PP p e below (T4.setTop (mkF m 41 #[vR a1, vI p2, vI z, vI z, vI zr] [iI zr, iI p2, iR d])) (s₁.setTop (entryFrame m #[(.ref a1), (.int p2), (.int z)] 5)) := by
    intro t kt
    refine pre0 t ?_
    refine XS.aloadN X0.here hx rfl (hb hby d14_0) rfl rfl ?_
    refine st1.trans ?_
    refine XS.istoreN X1.here hx rfl (hb hby d14_4) rfl (l' := #[vR a1, vI p2, vI z, vI z, .unset]) rfl ?_
    refine XS.iloadN X1.here hx rfl (hb hby d14_5) rfl ?_
    refine XS.iloadN X1.here hx rfl (hb hby d14_6) rfl ?_
    refine XS.iloadN X1.here hx rfl (hb hby d14_7) rfl ?_
    refine st2 _ ?_
    refine XS.iloadN X2.here hx rfl (hb hby d14_11) rfl ?_
    refine XS.ifYes X2.here hx rfl (pc0 := 12) (pc' := 22) rfl (hb hby d14_12) rfl ((if0 _ _).trans (feq (fun e => absurd hf.1 (by rw [e]; decide))).2) (by decide) (by decide) ?_
    refine XS.iloadN X2.here hx rfl (hb hby d14_22) rfl ?_
    refine XS.iloadN X2.here hx rfl (hb hby d14_23) rfl ?_
    refine XS.isub X2.here hx rfl (hb hby d14_24) rfl ?_
    rw [own_subE hzr]
    refine XS.istore X2.here hx rfl (hb hby d14_25) rfl (l' := #[vR a1, vI p2, vI z, vI z, vI zr]) rfl ?_
    refine XS.aloadN X2.here hx rfl (hb hby d14_27) rfl rfl ?_
    refine st3.trans ?_
    refine XS.ifNo X3.here hx rfl (hb hby d14_31) rfl ((if0 _ _).trans (feq (by decide : ¬ ((1 : Int32) = (0 : Int32)))).1) ?_
    refine XS.aloadN X3.here hx rfl (hb hby d14_34) rfl rfl ?_
    refine st4 _ ?_
    refine XS.iloadN X4.here hx rfl (hb hby d14_38) rfl ?_
    refine XS.iload X4.here hx rfl (hb hby d14_39) rfl ?_
    exact kt
  obtain ⟨_, _, ⟨T5, L5, k5, n5⟩, -, X5, hS5q, gr5, ⟨Lc5, hQ5, l5, y5, z5, C5⟩, st5⟩ := callSS (s := s.setVm s.vm) X4 hx (y := mn_20) hown (mw hZ hw 190 rfl) (mw hZ hw 130 rfl) (mw hZ hw 59 rfl) (mw hZ hw 131 rfl) (by decide) (backOfSH (s := s) (vm0 := s.vm) (W := 0) (rm28 l Z a0 hw [] d p2 zr kd z B h0 n0 (Nat.le_trans Z0 K0.1) O0 V_d hf hr1 (by omega) hB) hZ (ww hw 131 rfl) (ww hw 59 rfl) (by decide) (by decide) (own_EW hw) R0.1) (g := (mkF m 41 #[vR a1, vI p2, vI z, vI z, vI zr] [iI zr, iI p2, iR d])) rfl (by rw [hml]; rfl) (argsL := [(.ref d), (.int p2), (.int zr)]) (rest := []) (lenOf pd_18 rfl) rfl (wz rfl) (hb hby d14_41) (fun _ _ => ⟨rfl, e4, (by decide : 0 + 2 ≤ _), (by decide : 0 + 10 ≤ _)⟩)
  dsimp only [Pt.U, Pt.locs, Pt.cells, Pt.slots] at X5 hS5q gr5 l5 y5 z5 C5 st5 hQ5
  subst l5 y5 z5
  have hS5 := State.Since.trans ((State.WarmedH.refl s).since 0) hS5q (Nat.zero_le _)
  have hZ : Z.Warmed39 (s.setVm T5.vm).vm := State.Warmed39.trans (t := s.setVm s.vm) hZ hS5q.1
  have hown : (s.setVm T5.vm).vm.findClass "java/lang/String" = some m.cls := by rw [show (s.setVm T5.vm).vm = T5.vm from rfl, hS5q.1.alike.findClass]; exact hown
  have R5 := R0.trans C5
  obtain ⟨o5, d5, kd5, rfl, N5q, K5q, E5q, C5q, F5q, V5q⟩ := hQ5
  have N5 := Fr.app N0 N5q
  have K5 : Keep h0 T5.heap [] := Keep.trans K0 K5q all0
  have hfin := R5.trans (CHv.at (s := s) (vm0 := T5.vm) X5 hZ (own_EW hw) R5.1)
  obtain ⟨fs, hr, hrun, hended, hEnd⟩ := X5.leaveW (s := s) hS5 (Nat.le_refl T5.heap.size) (v := some (.ref o5)) (fun h => by rw [Bd.returns] at h; cases h)
  refine ⟨_, _, pre6 _ ?_, hrun, hended, _, _, rfl, ?_, (by rw [hh]; show CHr Z consts_1 s.vm h0 T5.vm T5.heap; exact hfin), ⟨hEnd.1, hEnd.2.1, hEnd.2.2.1, hEnd.2.2.2.mono (by decide) (by decide)⟩⟩
  · refine st5.trans ?_
    refine XS.goto X5.here hx rfl (pc0 := 44) (pc' := 57) rfl (hb hby d14_44) (by decide) (by decide) ?_
    show Steps _ _ _ (T5.setTop (mkF m 57 #[vR a1, vI p2, vI z, vI z, vI zr] [iR o5])) _
    jvm_step X5.here [X5.here.top, hx, (hb hby d14_57), X5.method', Bd.returns, Value.isRef, FieldType.isReference]
    first | (intro acts; rw [hr _ acts rfl rfl rfl]) | rw [hr _ _ rfl rfl rfl]
    exact Steps.refl _
  · show Q14_g Z a1 p2 d kd z B zr cs fm h0 n0 _ T5.heap _
    exact ⟨_, _, _, rfl, N5, K5, E5q, C5q, F5q, V5q⟩
theorem ef_13_g (m : MethodId) (x0 : Addr) (x1 : Int32) : entryFrame m #[(.ref x0), (.int x1)] 2 = mkF m 0 #[.val (.ref x0), .val (.int x1)] [] := by first | (simp [entryFrame, mkF, argsToLocals, Value.category]; done) | rfl
def Q13_g (Z : State) (a1 : Addr) (p2 : Int32) (d : Addr) (kd : ClassId) (z : Int32) (B : List Int32) (zr : Int32) (cs : Int32) (fm : Value) (h0 : Heap) (n0 : Nat) (v : Option Value) (h : Heap) (L : List Loc) : Prop := ∃ (o d : Addr) (ko : ClassId), v = some (.ref o) ∧ Fr n0 L ∧ Keep h0 h [] ∧ ES Z h o ∧ FC Z h o ∧ FV Z h o d ∧ AB Z h d ko zr ((B.drop p2.toNatClampNeg).take zr.toNatClampNeg)
theorem rm13_g (l : Launch) (Z : State) (a0 : Array Value) (hw : HW a0 Z) (ws : List Jvm.Cond) (a1 : Addr) (p2 : Int32) (d : Addr) (kd : ClassId) (z : Int32) (B : List Int32) (zr : Int32) (cs : Int32) (fm : Value) (h0 : Heap) (n0 : Nat) (Z0 : n0 ≤ h0.size) (O0 : Old Z n0 h0) (E_a1 : ES Z h0 a1) (Fc_a1 : FC Z h0 a1) (Fv_a1 : FV Z h0 a1 d) (V_d : AB Z h0 d kd z B) (hz : ¬ z < 0) (hB : z.toNatClampNeg = B.length) (hf : 1 ≤ p2.toInt ∧ p2.toInt ≤ 6) (hzr : z.toInt = p2.toInt + zr.toInt) (hr1 : 1 ≤ zr.toInt ∧ zr.toInt ≤ 6) (S_CS : SC Z cs) (h_cs : ¬ cs = (0 : Int32)) (S_F : SM Z fm) (h_fm : fm.isRef = true) :
    MFh l mn_24 jdk_42_method_91_code 2 (some (.object "java/lang/String")) ws (Rm 5 2 10 80) #[(.ref a1), (.int p2)] Z h0 (Q13_g Z a1 p2 d kd z B zr cs fm h0 n0) := by
  refine MetFree.of_bodySF (plainFor_of_name pn_0) hisR ?_
  intro p e s m args below meth c s₁ Bd hml0 hP hK
  obtain ⟨rfl, hZ, hh, hC0⟩ := hP
  have hx := Bd.exec
  have hby := Bd.bytes
  have hml : c.maxLocals = 2 := hml0
  have hown := findClass_of_methodNamed Bd.named
  have X0 : Stand p l e (Rm 5 2 10 80) s m _ below meth c _ [] 0 0 := Stand.of_body Bd
  have e0 : s₁.heap = h0 := by rw [← hh, Bd.state]; rfl
  have R0 := CHr.refl hC0
  have N0 := Fr.nil n0
  have K0 := Keep.refl h0 []
  have pre0 := cast0 (p := p) (e := e) (below := below) (T := s₁) (ef_13_g m a1 p2)
  obtain ⟨cq1, kq1, q1a, q1b, q1c⟩ := isOf hZ e0 E_a1
  obtain ⟨_, _, ⟨T1, L1, k1, n1⟩, -, X1, ⟨Lc1, hQ1, l1, y1, z1⟩, st1⟩ := X0.virtualBack hx (y := mn_11) (z := mn_11) hown (mw hZ hw 56 rfl) (mw hZ hw 42 rfl) (notFace_of_selects (args := #[]) (mw hZ hw 44 rfl)) (mw hZ hw 44 rfl) (mw hZ hw 43 rfl) (by decide) (backOf (W := 2) (rm9 l Z a0 hw [] a1 d kd z B cs h0 n0 O0 E_a1 Fc_a1 Fv_a1 V_d hz hB S_CS h_cs) hZ (ww hw 45 rfl) (ww hw 7 rfl) (by decide) (by decide)) q1a q1c (g := (mkF m 3 #[vR a1, vI p2] [iR a1, iI p2, iR a1])) rfl (by rw [hml]; rfl) (Steps.refl _) (argsL := []) (rest := [(.int p2), (.ref a1)]) (lenOf pd_10 rfl) rfl (wz rfl) (hb hby d13_3) (fun _ _ => ⟨rfl, e0, (by decide : 0 + 0 ≤ _), (by decide : 0 + 0 ≤ _)⟩)
  dsimp only [Pt.U, Pt.locs, Pt.cells, Pt.slots] at X1 l1 y1 z1 st1 hQ1
  subst l1 y1 z1
  obtain ⟨rfl, rfl, e1⟩ := hQ1
  try rw [List.append_nil] at X1
  have pre3 : PP p e below (T1.setTop (mkF m 6 #[vR a1, vI p2] [iI z, iI p2, iR a1])) (s₁.setTop (entryFrame m #[(.ref a1), (.int p2)] 2)) := by
    intro t kt
    refine pre0 t ?_
    refine XS.aloadN X0.here hx rfl (hb hby d13_0) rfl rfl ?_
    refine XS.iloadN X0.here hx rfl (hb hby d13_1) rfl ?_
    refine XS.aloadN X0.here hx rfl (hb hby d13_2) rfl rfl ?_
    refine st1.trans ?_
    exact kt
  obtain ⟨cq2, kq2, q2a, q2b, q2c⟩ := isOf hZ e1 E_a1
  obtain ⟨_, _, ⟨T2, L2, k2, n2⟩, -, X2, hS2q, gr2, ⟨Lc2, hQ2, l2, y2, z2, C2⟩, st2⟩ := virtualBackS (s := s.setVm s.vm) X1 hx (y := mn_23) (z := mn_23) hown (mw hZ hw 66 rfl) (mw hZ hw 67 rfl) (notFace_of_selects (args := #[]) (mw hZ hw 69 rfl)) (mw hZ hw 69 rfl) (mw hZ hw 68 rfl) (by decide) (backOfSH (s := s) (vm0 := s.vm) (W := 0) (rm14_g l Z a0 hw [] a1 p2 d kd z B zr cs fm h0 n0 (Nat.le_trans Z0 K0.1) O0 E_a1 Fc_a1 Fv_a1 V_d hz hB hf hzr hr1 S_CS h_cs S_F h_fm) hZ (ww hw 70 rfl) (ww hw 7 rfl) (by decide) (by decide) (own_EW hw) R0.1) q2a q2c (g := (mkF m 6 #[vR a1, vI p2] [iI z, iI p2, iR a1])) rfl (by rw [hml]; rfl) (Steps.refl _) (argsL := [(.int p2), (.int z)]) (rest := []) (lenOf pd_17 rfl) rfl (wz rfl) (hb hby d13_6) (fun _ _ => ⟨rfl, e1, (by decide : 0 + 2 ≤ _), (by decide : 0 + 10 ≤ _)⟩)
  dsimp only [Pt.U, Pt.locs, Pt.cells, Pt.slots] at X2 hS2q gr2 l2 y2 z2 C2 st2 hQ2
  subst l2 y2 z2
  have hS2 := State.Since.trans ((State.WarmedH.refl s).since 0) hS2q (Nat.zero_le _)
  have hZ : Z.Warmed39 (s.setVm T2.vm).vm := State.Warmed39.trans (t := s.setVm s.vm) hZ hS2q.1
  have hown : (s.setVm T2.vm).vm.findClass "java/lang/String" = some m.cls := by rw [show (s.setVm T2.vm).vm = T2.vm from rfl, hS2q.1.alike.findClass]; exact hown
  have R2 := R0.trans C2
  obtain ⟨o2, d2, kd2, rfl, N2q, K2q, E2q, C2q, F2q, V2q⟩ := hQ2
  have N2 := Fr.app N0 N2q
  have K2 : Keep h0 T2.heap [] := Keep.trans K0 K2q all0
  have hfin := R2.trans (CHv.at (s := s) (vm0 := T2.vm) X2 hZ (own_EW hw) R2.1)
  obtain ⟨fs, hr, hrun, hended, hEnd⟩ := X2.leaveW (s := s) hS2 (Nat.le_refl T2.heap.size) (v := some (.ref o2)) (fun h => by rw [Bd.returns] at h; cases h)
  refine ⟨_, _, pre3 _ ?_, hrun, hended, _, _, rfl, ?_, (by rw [hh]; show CHr Z consts_1 s.vm h0 T2.vm T2.heap; exact hfin), ⟨hEnd.1, hEnd.2.1, hEnd.2.2.1, hEnd.2.2.2.mono (by decide) (by decide)⟩⟩
  · refine st2.trans ?_
    show Steps _ _ _ (T2.setTop (mkF m 9 #[vR a1, vI p2] [iR o2])) _
    jvm_step X2.here [X2.here.top, hx, (hb hby d13_9), X2.method', Bd.returns, Value.isRef, FieldType.isReference]
    first | (intro acts; rw [hr _ acts rfl rfl rfl]) | rw [hr _ _ rfl rfl rfl]
    exact Steps.refl _
  · show Q13_g Z a1 p2 d kd z B zr cs fm h0 n0 _ T2.heap _
    exact ⟨_, _, _, rfl, N2, K2, E2q, C2q, F2q, V2q⟩
theorem d19_0 : dk c19 0 (.iconst 0) 1 := by decide +kernel
theorem d19_1 : dk c19 1 (.istore 5) 2 := by decide +kernel
theorem d19_3 : dk c19 3 (.iload 4) 2 := by decide +kernel
theorem d19_5 : dk c19 5 (.bipush 7) 2 := by decide +kernel
theorem d19_7 : dk c19 7 (.if_icmp .le 63) 3 := by decide +kernel
theorem d19_70 : dk c19 70 (.iload 5) 2 := by decide +kernel
theorem d19_72 : dk c19 72 (.iload 4) 2 := by decide +kernel
theorem d19_74 : dk c19 74 (.if_icmp .ge 27) 3 := by decide +kernel
theorem d19_77 : dk c19 77 (.aload_n 0) 1 := by decide +kernel
theorem d19_78 : dk c19 78 (.iload_n 1) 1 := by decide +kernel
theorem d19_79 : dk c19 79 (.iload 5) 2 := by decide +kernel
theorem d19_81 : dk c19 81 .iadd 1 := by decide +kernel
theorem d19_82 : dk c19 82 .baload 1 := by decide +kernel
theorem d19_83 : dk c19 83 (.aload_n 2) 1 := by decide +kernel
theorem d19_84 : dk c19 84 (.iload_n 3) 1 := by decide +kernel
theorem d19_85 : dk c19 85 (.iload 5) 2 := by decide +kernel
theorem d19_87 : dk c19 87 .iadd 1 := by decide +kernel
theorem d19_88 : dk c19 88 .baload 1 := by decide +kernel
theorem d19_89 : dk c19 89 (.if_icmp .eq 6) 3 := by decide +kernel
theorem d19_92 : dk c19 92 (.iload 5) 2 := by decide +kernel
theorem d19_94 : dk c19 94 .ireturn 1 := by decide +kernel
theorem d19_95 : dk c19 95 (.iinc 5 1) 3 := by decide +kernel
theorem d19_98 : dk c19 98 (.goto (-28)) 3 := by decide +kernel
theorem d19_101 : dk c19 101 (.iconst (-1)) 1 := by decide +kernel
theorem d19_102 : dk c19 102 .ireturn 1 := by decide +kernel
theorem pn_6 : plainName "jdk/internal/util/ArraysSupport" = true := by first | (simp [plainName, overriddenIn]; done) | decide +kernel
theorem ef_19 (m : MethodId) (x0 : Addr) (x2 : Addr) : entryFrame m #[(.ref x0), (.int (0 : Int32)), (.ref x2), (.int (0 : Int32)), (.int (1 : Int32))] 8 = mkF m 0 #[.val (.ref x0), .val (.int (0 : Int32)), .val (.ref x2), .val (.int (0 : Int32)), .val (.int (1 : Int32)), .unset, .unset, .unset] [] := by first | (simp [entryFrame, mkF, argsToLocals, Value.category]; done) | rfl
theorem rm19 (l : Launch) (Z : State) (a0 : Array Value) (hw : HW a0 Z) (ws : List Jvm.Cond) (a1 : Addr) (a3 : Addr) (ka ks : ClassId) (za : Int32) (A : List Int32) (h0 : Heap) (V_a : AB Z h0 a1 ka za A) (V_s : AB Z h0 a3 ks (1 : Int32) [32]) (hge : 1 ≤ za.toInt) :
    MFn l mn_25 jdk_48_method_14_code 8 (some .int) ws (Rm 0 0 0 0) #[(.ref a1), (.int (0 : Int32)), (.ref a3), (.int (0 : Int32)), (.int (1 : Int32))] Z h0 (QP h0 (some (.int (if (A.getD 0 0) = (32 : Int32) then (-1 : Int32) else (0 : Int32))))) := by
  refine MetFree.of_bodySF (plainFor_of_name pn_6) hisR ?_
  intro p e s m args below meth c s₁ Bd hml0 hP hK
  obtain ⟨rfl, hZ, hh⟩ := hP
  have hx := Bd.exec
  have hby := Bd.bytes
  have hml : c.maxLocals = 8 := hml0
  have hown := findClass_of_methodNamed Bd.named
  have X0 : Stand p l e (Rm 0 0 0 0) s m _ below meth c _ [] 0 0 := Stand.of_body Bd
  have e0 : s₁.heap = h0 := by rw [← hh, Bd.state]; rfl
  have pre0 := cast0 (p := p) (e := e) (below := below) (T := s₁) (ef_19 m a1 a3)
  obtain ⟨cl1, Ar1, q1, S1, M1, H1, G1⟩ := id V_a
  have hin2 := inb_of (j := 0) S1 ⟨by decide, own_lt (by have e : (0 : Int32).toInt = 0 := rfl; omega)⟩
  have hat3 : cl1.slots[((0 : Int32)).toNatClampNeg]? = some (.int (A.getD 0 0)) := Has.at H1 hin2 (own_bsget A _)
  obtain ⟨cl4, Ar4, q4, S4, M4, H4, G4⟩ := id V_s
  have hin5 := inb_of (j := 0) S4 ⟨by decide, by decide⟩
  have pre8 : PP p e below (s₁.setTop (mkF m 89 #[vR a1, vI 0, vR a3, vI 0, vI 1, vI 0, .unset, .unset] [iI 32, iI (A.getD 0 0)])) (s₁.setTop (entryFrame m #[(.ref a1), (.int (0 : Int32)), (.ref a3), (.int (0 : Int32)), (.int (1 : Int32))] 8)) := by
    intro t kt
    refine pre0 t ?_
    refine XS.iconst X0.here hx rfl (hb hby d19_0) ?_
    refine XS.istore X0.here hx rfl (hb hby d19_1) rfl (l' := #[vR a1, vI 0, vR a3, vI 0, vI 1, vI 0, .unset, .unset]) rfl ?_
    refine XS.iload X0.here hx rfl (hb hby d19_3) rfl ?_
    refine XS.bipush X0.here hx rfl (hb hby d19_5) ?_
    refine XS.icmpYes X0.here hx rfl (pc0 := 7) (pc' := 70) rfl (hb hby d19_7) rfl (flt (by decide : ¬ ((7 : Int32) < (1 : Int32)))).2.2.2 (by decide) (by decide) ?_
    refine XS.iload X0.here hx rfl (hb hby d19_70) rfl ?_
    show SA s₁ m 72 #[vR a1, vI 0, vR a3, vI 0, vI 1, vI 0, .unset, .unset] [iI 0]
    refine XS.iload X0.here hx rfl (hb hby d19_72) rfl ?_
    refine XS.icmpNo X0.here hx rfl (hb hby d19_74) rfl (tlt (by decide : (0 : Int32) < (1 : Int32))).2.1 ?_
    refine XS.aloadN X0.here hx rfl (hb hby d19_77) rfl rfl ?_
    refine XS.iloadN X0.here hx rfl (hb hby d19_78) rfl ?_
    refine XS.iload X0.here hx rfl (hb hby d19_79) rfl ?_
    refine XS.iadd X0.here hx rfl (hb hby d19_81) rfl ?_
    show SA s₁ m 82 #[vR a1, vI 0, vR a3, vI 0, vI 1, vI 0, .unset, .unset] [iI ((0 : Int32) + (0 : Int32)), iR a1]
    rw [(by decide : ((0 : Int32) + (0 : Int32)) = (0 : Int32))]
    refine X0.baloadBytes hx (j := 0) (v := (.int (A.getD 0 0))) (by rw [e0]; exact Ar1.1) (State.isArrayOf_alike hZ.alike Ar1.2.1) Ar1.2.2 hin2 hat3 (g := (mkF m 82 #[vR a1, vI 0, vR a3, vI 0, vI 1, vI 0, .unset, .unset] [iI 0, iR a1])) rfl rfl (hb hby d19_82) _ ?_
    refine XS.aloadN X0.here hx rfl (hb hby d19_83) rfl rfl ?_
    refine XS.iloadN X0.here hx rfl (hb hby d19_84) rfl ?_
    refine XS.iload X0.here hx rfl (hb hby d19_85) rfl ?_
    refine XS.iadd X0.here hx rfl (hb hby d19_87) rfl ?_
    show SA s₁ m 88 #[vR a1, vI 0, vR a3, vI 0, vI 1, vI 0, .unset, .unset] [iI ((0 : Int32) + (0 : Int32)), iR a3, iI (A.getD 0 0)]
    rw [(by decide : ((0 : Int32) + (0 : Int32)) = (0 : Int32))]
    refine X0.baloadBytes hx (j := 0) (v := (.int (32 : Int32))) (by rw [e0]; exact Ar4.1) (State.isArrayOf_alike hZ.alike Ar4.2.1) Ar4.2.2 hin5 (Has.at H4 hin5 rfl) (g := (mkF m 88 #[vR a1, vI 0, vR a3, vI 0, vI 1, vI 0, .unset, .unset] [iI 0, iR a3, iI (A.getD 0 0)])) rfl rfl (hb hby d19_88) _ ?_
    exact kt
  by_cases hc7 : (A.getD 0 0) = (32 : Int32)
  · obtain ⟨fs, hr, hrun, hended, hW, hsame⟩ := X0.leave (v := some (.int (-1 : Int32))) (fun h => by rw [Bd.returns] at h; cases h)
    refine ⟨_, _, pre8 _ ?_, hrun, hended, _, _, rfl, ?_, ⟨_, rfl⟩, hW, hsame.mono (by decide) (by decide)⟩
    · refine XS.icmpYes X0.here hx rfl (pc0 := 89) (pc' := 95) rfl (hb hby d19_89) rfl (teq hc7).1 (by decide) (by decide) ?_
      refine XS.iinc X0.here hx rfl (hb hby d19_95) rfl (l' := #[vR a1, vI 0, vR a3, vI 0, vI 1, vI ((0 : Int32) + (1 : Int32)), .unset, .unset]) rfl ?_
      rw [(by decide : ((0 : Int32) + (1 : Int32)) = (1 : Int32))]
      refine XS.goto X0.here hx rfl (pc0 := 98) (pc' := 70) rfl (hb hby d19_98) (by decide) (by decide) ?_
      refine XS.iload X0.here hx rfl (hb hby d19_70) rfl ?_
      refine XS.iload X0.here hx rfl (hb hby d19_72) rfl ?_
      refine XS.icmpYes X0.here hx rfl (pc0 := 74) (pc' := 101) rfl (hb hby d19_74) rfl (flt (by decide : ¬ ((1 : Int32) < (1 : Int32)))).2.1 (by decide) (by decide) ?_
      show SA s₁ m 101 #[vR a1, vI 0, vR a3, vI 0, vI 1, vI 1, .unset, .unset] []
      refine XS.iconst X0.here hx rfl (hb hby d19_101) ?_
      show Steps _ _ _ (s₁.setTop (mkF m 102 #[vR a1, vI 0, vR a3, vI 0, vI 1, vI 1, .unset, .unset] [iI (-1)])) _
      exact retI X0 hx Bd.returns (hb hby d19_102) hr
    · show QP _ _ _ s₁.heap _
      rw [e0]
      exact ⟨by rw [if_pos hc7], rfl, rfl⟩
  · obtain ⟨fs, hr, hrun, hended, hW, hsame⟩ := X0.leave (v := some (.int (0 : Int32))) (fun h => by rw [Bd.returns] at h; cases h)
    refine ⟨_, _, pre8 _ ?_, hrun, hended, _, _, rfl, ?_, ⟨_, rfl⟩, hW, hsame.mono (by decide) (by decide)⟩
    · refine XS.icmpNo X0.here hx rfl (hb hby d19_89) rfl (feq hc7).1 ?_
      refine XS.iload X0.here hx rfl (hb hby d19_92) rfl ?_
      show Steps _ _ _ (s₁.setTop (mkF m 94 #[vR a1, vI 0, vR a3, vI 0, vI 1, vI 0, .unset, .unset] [iI 0])) _
      exact retI X0 hx Bd.returns (hb hby d19_94) hr
    · show QP _ _ _ s₁.heap _
      rw [e0]
      exact ⟨by rw [if_neg hc7], rfl, rfl⟩
theorem d18_0 : dk c18 0 (.iload_n 2) 1 := by decide +kernel
theorem d18_1 : dk c18 1 (.ifCond .lt 16) 3 := by decide +kernel
theorem d18_4 : dk c18 4 (.iload_n 2) 1 := by decide +kernel
theorem d18_5 : dk c18 5 (.aload_n 0) 1 := by decide +kernel
theorem d18_6 : dk c18 6 (.invokevirtual 505) 3 := by decide +kernel
theorem d18_9 : dk c18 9 (.aload_n 1) 1 := by decide +kernel
theorem d18_10 : dk c18 10 (.invokevirtual 505) 3 := by decide +kernel
theorem d18_13 : dk c18 13 .isub 1 := by decide +kernel
theorem d18_14 : dk c18 14 (.if_icmp .le 5) 3 := by decide +kernel
theorem d18_17 : dk c18 17 (.iconst 0) 1 := by decide +kernel
theorem d18_18 : dk c18 18 .ireturn 1 := by decide +kernel
theorem ef_18_0 (m : MethodId) (x0 : Addr) (x1 : Addr) : entryFrame m #[(.ref x0), (.ref x1), (.int (0 : Int32))] 8 = mkF m 0 #[.val (.ref x0), .val (.ref x1), .val (.int (0 : Int32)), .unset, .unset, .unset, .unset, .unset] [] := by first | (simp [entryFrame, mkF, argsToLocals, Value.category]; done) | rfl
theorem rm18_0 (l : Launch) (Z : State) (a0 : Array Value) (hw : HW a0 Z) (ws : List Jvm.Cond) (a1 : Addr) (a2 : Addr) (d : Addr) (kd : ClassId) (ds : Addr) (kds : ClassId) (cs : Int32) (h0 : Heap) (n0 : Nat) (O0 : Old Z n0 h0) (E_a1 : ES Z h0 a1) (Fc_a1 : FC Z h0 a1) (Fv_a1 : FV Z h0 a1 d) (V_d : AB Z h0 d kd (0 : Int32) []) (E_a2 : ES Z h0 a2) (Fc_a2 : FC Z h0 a2) (Fv_a2 : FV Z h0 a2 ds) (V_ds : AB Z h0 ds kds (1 : Int32) [32]) (S_CS : SC Z cs) (h_cs : ¬ cs = (0 : Int32)) :
    MFn l mn_26 jdk_42_method_75_code 8 (some .boolean) ws (Rm 2 0 0 27) #[(.ref a1), (.ref a2), (.int (0 : Int32))] Z h0 (QP h0 (some (.int (0 : Int32)))) := by
  refine MetFree.of_bodySF (plainFor_of_name pn_0) hisR ?_
  intro p e s m args below meth c s₁ Bd hml0 hP hK
  obtain ⟨rfl, hZ, hh⟩ := hP
  have hx := Bd.exec
  have hby := Bd.bytes
  have hml : c.maxLocals = 8 := hml0
  have hown := findClass_of_methodNamed Bd.named
  have X0 : Stand p l e (Rm 2 0 0 27) s m _ below meth c _ [] 0 0 := Stand.of_body Bd
  have e0 : s₁.heap = h0 := by rw [← hh, Bd.state]; rfl
  have pre0 := cast0 (p := p) (e := e) (below := below) (T := s₁) (ef_18_0 m a1 a2)
  obtain ⟨cq1, kq1, q1a, q1b, q1c⟩ := isOf hZ e0 E_a1
  obtain ⟨_, _, ⟨T1, L1, k1, n1⟩, -, X1, ⟨Lc1, hQ1, l1, y1, z1⟩, st1⟩ := X0.virtualBack hx (y := mn_11) (z := mn_11) hown (mw hZ hw 56 rfl) (mw hZ hw 42 rfl) (notFace_of_selects (args := #[]) (mw hZ hw 44 rfl)) (mw hZ hw 44 rfl) (mw hZ hw 43 rfl) (by decide) (backOf (W := 1) (rm9 l Z a0 hw [] a1 d kd (0 : Int32) [] cs h0 n0 O0 E_a1 Fc_a1 Fv_a1 V_d (by decide) rfl S_CS h_cs) hZ (ww hw 45 rfl) (ww hw 7 rfl) (by decide) (by decide)) q1a q1c (g := (mkF m 6 #[vR a1, vR a2, vI 0, .unset, .unset, .unset, .unset, .unset] [iR a1, iI 0])) rfl (by rw [hml]; rfl) (Steps.refl _) (argsL := []) (rest := [(.int (0 : Int32))]) (lenOf pd_10 rfl) rfl (wz rfl) (hb hby d18_6) (fun _ _ => ⟨rfl, e0, (by decide : 0 + 0 ≤ _), (by decide : 0 + 0 ≤ _)⟩)
  dsimp only [Pt.U, Pt.locs, Pt.cells, Pt.slots] at X1 l1 y1 z1 st1 hQ1
  subst l1 y1 z1
  obtain ⟨rfl, rfl, e1⟩ := hQ1
  try rw [List.append_nil] at X1
  obtain ⟨cq2, kq2, q2a, q2b, q2c⟩ := isOf hZ e1 E_a2
  obtain ⟨_, _, ⟨T2, L2, k2, n2⟩, -, X2, ⟨Lc2, hQ2, l2, y2, z2⟩, st2⟩ := X1.virtualBack hx (y := mn_11) (z := mn_11) hown (mw hZ hw 56 rfl) (mw hZ hw 42 rfl) (notFace_of_selects (args := #[]) (mw hZ hw 44 rfl)) (mw hZ hw 44 rfl) (mw hZ hw 43 rfl) (by decide) (backOf (W := 2) (rm9 l Z a0 hw [] a2 ds kds (1 : Int32) [32] cs h0 n0 O0 E_a2 Fc_a2 Fv_a2 V_ds (by decide) rfl S_CS h_cs) hZ (ww hw 45 rfl) (ww hw 7 rfl) (by decide) (by decide)) q2a q2c (g := (mkF m 10 #[vR a1, vR a2, vI 0, .unset, .unset, .unset, .unset, .unset] [iR a2, iI 0, iI 0])) rfl (by rw [hml]; rfl) (Steps.refl _) (argsL := []) (rest := [(.int (0 : Int32)), (.int (0 : Int32))]) (lenOf pd_10 rfl) rfl (wz rfl) (hb hby d18_10) (fun _ _ => ⟨rfl, e1, (by decide : 0 + 0 ≤ _), (by decide : 0 + 0 ≤ _)⟩)
  dsimp only [Pt.U, Pt.locs, Pt.cells, Pt.slots] at X2 l2 y2 z2 st2 hQ2
  subst l2 y2 z2
  obtain ⟨rfl, rfl, e2⟩ := hQ2
  try rw [List.append_nil] at X2
  obtain ⟨fs, hr, hrun, hended, hW, hsame⟩ := X2.leave (v := some (.int (0 : Int32))) (fun h => by rw [Bd.returns] at h; cases h)
  refine ⟨_, _, pre0 _ ?_, hrun, hended, _, _, rfl, ?_, ⟨_, rfl⟩, hW, hsame.mono (by decide) (by decide)⟩
  · refine XS.iloadN X0.here hx rfl (hb hby d18_0) rfl ?_
    refine XS.ifNo X0.here hx rfl (hb hby d18_1) rfl ((if0 _ _).trans (flt (by decide : ¬ ((0 : Int32) < (0 : Int32)))).1) ?_
    refine XS.iloadN X0.here hx rfl (hb hby d18_4) rfl ?_
    refine XS.aloadN X0.here hx rfl (hb hby d18_5) rfl rfl ?_
    refine st1.trans ?_
    refine XS.aloadN X1.here hx rfl (hb hby d18_9) rfl rfl ?_
    refine st2.trans ?_
    refine XS.isub X2.here hx rfl (hb hby d18_13) rfl ?_
    show SA T2 m 14 #[vR a1, vR a2, vI 0, .unset, .unset, .unset, .unset, .unset] [iI ((0 : Int32) - (1 : Int32)), iI 0]
    rw [(by decide : ((0 : Int32) - (1 : Int32)) = (-1 : Int32))]
    refine XS.icmpNo X2.here hx rfl (hb hby d18_14) rfl (tlt (by decide : (-1 : Int32) < (0 : Int32))).2.2.2 ?_
    refine XS.iconst X2.here hx rfl (hb hby d18_17) ?_
    show Steps _ _ _ (T2.setTop (mkF m 18 #[vR a1, vR a2, vI 0, .unset, .unset, .unset, .unset, .unset] [iI 0])) _
    exact retN X2 hx (t := .boolean) Bd.returns (by simp) (hb hby d18_18) hr
  · show QP _ _ _ T2.heap _
    rw [e2]
    exact ⟨rfl, rfl, rfl⟩
theorem d17_0 : dk c17 0 (.aload_n 0) 1 := by decide +kernel
theorem d17_1 : dk c17 1 (.aload_n 1) 1 := by decide +kernel
theorem d17_2 : dk c17 2 (.iconst 0) 1 := by decide +kernel
theorem d17_3 : dk c17 3 (.invokevirtual 624) 3 := by decide +kernel
theorem d17_6 : dk c17 6 .ireturn 1 := by decide +kernel
theorem ef_17_0 (m : MethodId) (x0 : Addr) (x1 : Addr) : entryFrame m #[(.ref x0), (.ref x1)] 2 = mkF m 0 #[.val (.ref x0), .val (.ref x1)] [] := by first | (simp [entryFrame, mkF, argsToLocals, Value.category]; done) | rfl
theorem rm17_0 (l : Launch) (Z : State) (a0 : Array Value) (hw : HW a0 Z) (ws : List Jvm.Cond) (a1 : Addr) (a2 : Addr) (d : Addr) (kd : ClassId) (ds : Addr) (kds : ClassId) (cs : Int32) (h0 : Heap) (n0 : Nat) (O0 : Old Z n0 h0) (E_a1 : ES Z h0 a1) (Fc_a1 : FC Z h0 a1) (Fv_a1 : FV Z h0 a1 d) (V_d : AB Z h0 d kd (0 : Int32) []) (E_a2 : ES Z h0 a2) (Fc_a2 : FC Z h0 a2) (Fv_a2 : FV Z h0 a2 ds) (V_ds : AB Z h0 ds kds (1 : Int32) [32]) (S_CS : SC Z cs) (h_cs : ¬ cs = (0 : Int32)) :
    MFn l mn_27 jdk_42_method_76_code 2 (some .boolean) ws (Rm 3 0 0 46) #[(.ref a1), (.ref a2)] Z h0 (QP h0 (some (.int (0 : Int32)))) := by
  refine MetFree.of_bodySF (plainFor_of_name pn_0) hisR ?_
  intro p e s m args below meth c s₁ Bd hml0 hP hK
  obtain ⟨rfl, hZ, hh⟩ := hP
  have hx := Bd.exec
  have hby := Bd.bytes
  have hml : c.maxLocals = 2 := hml0
  have hown := findClass_of_methodNamed Bd.named
  have X0 : Stand p l e (Rm 3 0 0 46) s m _ below meth c _ [] 0 0 := Stand.of_body Bd
  have e0 : s₁.heap = h0 := by rw [← hh, Bd.state]; rfl
  have pre0 := cast0 (p := p) (e := e) (below := below) (T := s₁) (ef_17_0 m a1 a2)
  obtain ⟨cq1, kq1, q1a, q1b, q1c⟩ := isOf hZ e0 E_a1
  obtain ⟨_, _, ⟨T1, L1, k1, n1⟩, -, X1, ⟨Lc1, hQ1, l1, y1, z1⟩, st1⟩ := X0.virtualBack hx (y := mn_26) (z := mn_26) hown (mw hZ hw 85 rfl) (mw hZ hw 86 rfl) (notFace_of_selects (args := #[]) (mw hZ hw 88 rfl)) (mw hZ hw 88 rfl) (mw hZ hw 87 rfl) (by decide) (backOf (W := 0) (rm18_0 l Z a0 hw [] a1 a2 d kd ds kds cs h0 n0 O0 E_a1 Fc_a1 Fv_a1 V_d E_a2 Fc_a2 Fv_a2 V_ds  S_CS h_cs) hZ (ww hw 89 rfl) (ww hw 7 rfl) (by decide) (by decide)) q1a q1c (g := (mkF m 3 #[vR a1, vR a2] [iI 0, iR a2, iR a1])) rfl (by rw [hml]; rfl) (Steps.refl _) (argsL := [(.ref a2), (.int (0 : Int32))]) (rest := []) (lenOf pd_19 rfl) rfl (wz rfl) (hb hby d17_3) (fun _ _ => ⟨rfl, e0, (by decide : 0 + 0 ≤ _), (by decide : 0 + 0 ≤ _)⟩)
  dsimp only [Pt.U, Pt.locs, Pt.cells, Pt.slots] at X1 l1 y1 z1 st1 hQ1
  subst l1 y1 z1
  obtain ⟨rfl, rfl, e1⟩ := hQ1
  try rw [List.append_nil] at X1
  obtain ⟨fs, hr, hrun, hended, hW, hsame⟩ := X1.leave (v := some (.int (0 : Int32))) (fun h => by rw [Bd.returns] at h; cases h)
  refine ⟨_, _, pre0 _ ?_, hrun, hended, _, _, rfl, ?_, ⟨_, rfl⟩, hW, hsame.mono (by decide) (by decide)⟩
  · refine XS.aloadN X0.here hx rfl (hb hby d17_0) rfl rfl ?_
    refine XS.aloadN X0.here hx rfl (hb hby d17_1) rfl rfl ?_
    refine XS.iconst X0.here hx rfl (hb hby d17_2) ?_
    refine st1.trans ?_
    show Steps _ _ _ (T1.setTop (mkF m 6 #[vR a1, vR a2] [iI 0])) _
    exact retN X1 hx (t := .boolean) Bd.returns (by simp) (hb hby d17_6) hr
  · show QP _ _ _ T1.heap _
    rw [e1]
    exact ⟨rfl, rfl, rfl⟩
theorem d18_19 : dk c18 19 (.aload_n 0) 1 := by decide +kernel
theorem d18_20 : dk c18 20 (.getfield 9) 3 := by decide +kernel
theorem d18_23 : dk c18 23 (.astore_n 3) 1 := by decide +kernel
theorem d18_24 : dk c18 24 (.aload_n 1) 1 := by decide +kernel
theorem d18_25 : dk c18 25 (.getfield 9) 3 := by decide +kernel
theorem d18_28 : dk c18 28 (.astore 4) 2 := by decide +kernel
theorem d18_30 : dk c18 30 (.iconst 0) 1 := by decide +kernel
theorem d18_31 : dk c18 31 (.istore 5) 2 := by decide +kernel
theorem d18_33 : dk c18 33 (.aload 4) 2 := by decide +kernel
theorem d18_35 : dk c18 35 .arraylength 1 := by decide +kernel
theorem d18_36 : dk c18 36 (.istore 6) 2 := by decide +kernel
theorem d18_38 : dk c18 38 (.aload_n 0) 1 := by decide +kernel
theorem d18_39 : dk c18 39 (.invokevirtual 335) 3 := by decide +kernel
theorem d18_42 : dk c18 42 (.istore 7) 2 := by decide +kernel
theorem d18_44 : dk c18 44 (.iload 7) 2 := by decide +kernel
theorem d18_46 : dk c18 46 (.aload_n 1) 1 := by decide +kernel
theorem d18_47 : dk c18 47 (.invokevirtual 335) 3 := by decide +kernel
theorem d18_50 : dk c18 50 (.if_icmp .ne 32) 3 := by decide +kernel
theorem d18_53 : dk c18 53 (.iload 7) 2 := by decide +kernel
theorem d18_55 : dk c18 55 (.iconst 1) 1 := by decide +kernel
theorem d18_56 : dk c18 56 (.if_icmp .ne 7) 3 := by decide +kernel
theorem d18_63 : dk c18 63 (.aload_n 3) 1 := by decide +kernel
theorem d18_64 : dk c18 64 (.iload_n 2) 1 := by decide +kernel
theorem d18_65 : dk c18 65 (.aload 4) 2 := by decide +kernel
theorem d18_67 : dk c18 67 (.iconst 0) 1 := by decide +kernel
theorem d18_68 : dk c18 68 (.iload 6) 2 := by decide +kernel
theorem d18_70 : dk c18 70 (.invokestatic 607) 3 := by decide +kernel
theorem d18_73 : dk c18 73 (.ifCond .ge 7) 3 := by decide +kernel
theorem d18_76 : dk c18 76 (.iconst 1) 1 := by decide +kernel
theorem d18_77 : dk c18 77 (.goto 4) 3 := by decide +kernel
theorem d18_81 : dk c18 81 .ireturn 1 := by decide +kernel
theorem ef_18_y (m : MethodId) (x0 : Addr) (x1 : Addr) : entryFrame m #[(.ref x0), (.ref x1), (.int (0 : Int32))] 8 = mkF m 0 #[.val (.ref x0), .val (.ref x1), .val (.int (0 : Int32)), .unset, .unset, .unset, .unset, .unset] [] := by first | (simp [entryFrame, mkF, argsToLocals, Value.category]; done) | rfl
theorem rm18_y (l : Launch) (Z : State) (a0 : Array Value) (hw : HW a0 Z) (ws : List Jvm.Cond) (a1 : Addr) (a2 : Addr) (d : Addr) (kd : ClassId) (z : Int32) (B : List Int32) (ds : Addr) (kds : ClassId) (cs : Int32) (h0 : Heap) (n0 : Nat) (O0 : Old Z n0 h0) (E_a1 : ES Z h0 a1) (Fc_a1 : FC Z h0 a1) (Fv_a1 : FV Z h0 a1 d) (V_d : AB Z h0 d kd z B) (hz : ¬ z < 0) (hB : z.toNatClampNeg = B.length) (E_a2 : ES Z h0 a2) (Fc_a2 : FC Z h0 a2) (Fv_a2 : FV Z h0 a2 ds) (V_ds : AB Z h0 ds kds (1 : Int32) [32]) (hge : 1 ≤ z.toInt) (h32 : B.getD 0 0 = (32 : Int32)) (S_CS : SC Z cs) (h_cs : ¬ cs = (0 : Int32)) :
    MFn l mn_26 jdk_42_method_75_code 8 (some .boolean) ws (Rm 2 0 0 27) #[(.ref a1), (.ref a2), (.int (0 : Int32))] Z h0 (QP h0 (some (.int (1 : Int32)))) := by
  refine MetFree.of_bodySF (plainFor_of_name pn_0) hisR ?_
  intro p e s m args below meth c s₁ Bd hml0 hP hK
  obtain ⟨rfl, hZ, hh⟩ := hP
  have hx := Bd.exec
  have hby := Bd.bytes
  have hml : c.maxLocals = 8 := hml0
  have hown := findClass_of_methodNamed Bd.named
  have X0 : Stand p l e (Rm 2 0 0 27) s m _ below meth c _ [] 0 0 := Stand.of_body Bd
  have e0 : s₁.heap = h0 := by rw [← hh, Bd.state]; rfl
  have pre0 := cast0 (p := p) (e := e) (below := below) (T := s₁) (ef_18_y m a1 a2)
  obtain ⟨cq1, kq1, q1a, q1b, q1c⟩ := isOf hZ e0 E_a1
  obtain ⟨_, _, ⟨T1, L1, k1, n1⟩, -, X1, ⟨Lc1, hQ1, l1, y1, z1⟩, st1⟩ := X0.virtualBack hx (y := mn_11) (z := mn_11) hown (mw hZ hw 56 rfl) (mw hZ hw 42 rfl) (notFace_of_selects (args := #[]) (mw hZ hw 44 rfl)) (mw hZ hw 44 rfl) (mw hZ hw 43 rfl) (by decide) (backOf (W := 1) (rm9 l Z a0 hw [] a1 d kd z B cs h0 n0 O0 E_a1 Fc_a1 Fv_a1 V_d hz hB S_CS h_cs) hZ (ww hw 45 rfl) (ww hw 7 rfl) (by decide) (by decide)) q1a q1c (g := (mkF m 6 #[vR a1, vR a2, vI 0, .unset, .unset, .unset, .unset, .unset] [iR a1, iI 0])) rfl (by rw [hml]; rfl) (Steps.refl _) (argsL := []) (rest := [(.int (0 : Int32))]) (lenOf pd_10 rfl) rfl (wz rfl) (hb hby d18_6) (fun _ _ => ⟨rfl, e0, (by decide : 0 + 0 ≤ _), (by decide : 0 + 0 ≤ _)⟩)
  dsimp only [Pt.U, Pt.locs, Pt.cells, Pt.slots] at X1 l1 y1 z1 st1 hQ1
  subst l1 y1 z1
  obtain ⟨rfl, rfl, e1⟩ := hQ1
  try rw [List.append_nil] at X1
  obtain ⟨cq2, kq2, q2a, q2b, q2c⟩ := isOf hZ e1 E_a2
  obtain ⟨_, _, ⟨T2, L2, k2, n2⟩, -, X2, ⟨Lc2, hQ2, l2, y2, z2⟩, st2⟩ := X1.virtualBack hx (y := mn_11) (z := mn_11) hown (mw hZ hw 56 rfl) (mw hZ hw 42 rfl) (notFace_of_selects (args := #[]) (mw hZ hw 44 rfl)) (mw hZ hw 44 rfl) (mw hZ hw 43 rfl) (by decide) (backOf (W := 2) (rm9 l Z a0 hw [] a2 ds kds (1 : Int32) [32] cs h0 n0 O0 E_a2 Fc_a2 Fv_a2 V_ds (by decide) rfl S_CS h_cs) hZ (ww hw 45 rfl) (ww hw 7 rfl) (by decide) (by decide)) q2a q2c (g := (mkF m 10 #[vR a1, vR a2, vI 0, .unset, .unset, .unset, .unset, .unset] [iR a2, iI z, iI 0])) rfl (by rw [hml]; rfl) (Steps.refl _) (argsL := []) (rest := [(.int z), (.int (0 : Int32))]) (lenOf pd_10 rfl) rfl (wz rfl) (hb hby d18_10) (fun _ _ => ⟨rfl, e1, (by decide : 0 + 0 ≤ _), (by decide : 0 + 0 ≤ _)⟩)
  dsimp only [Pt.U, Pt.locs, Pt.cells, Pt.slots] at X2 l2 y2 z2 st2 hQ2
  subst l2 y2 z2
  obtain ⟨rfl, rfl, e2⟩ := hQ2
  try rw [List.append_nil] at X2
  have hh3 : ¬ ((z - (1 : Int32)) < (0 : Int32)) := (own_nlt (by have e : (0 : Int32).toInt = 0 := rfl; have e1 : (1 : Int32).toInt = 1 := rfl; have q := c_isub z 1; have r := rng32 (z - (1 : Int32)); have r2 := rng32 z; omega))
  obtain ⟨T4, X4, e4, st4⟩ := gF X2 hx hZ hown (ww hw 32 rfl) e2 Fv_a1 (g := (mkF m 20 #[vR a1, vR a2, vI 0, .unset, .unset, .unset, .unset, .unset] [iR a1])) rfl rfl (hb hby d18_20)
  obtain ⟨T5, X5, e5, st5⟩ := gF X4 hx hZ hown (ww hw 32 rfl) e4 Fv_a2 (g := (mkF m 25 #[vR a1, vR a2, vI 0, vR d, .unset, .unset, .unset, .unset] [iR a2])) rfl rfl (hb hby d18_25)
  obtain ⟨cl6, Ar6, q6, S6, M6, H6, G6⟩ := id V_ds
  obtain ⟨cq7, kq7, q7a, q7b, q7c⟩ := isOf hZ e5 E_a1
  obtain ⟨_, _, ⟨T7, L7, k7, n7⟩, -, X7, ⟨Lc7, hQ7, l7, y7, z7⟩, st7⟩ := X5.virtualBack hx (y := mn_10) (z := mn_10) hown (mw hZ hw 46 rfl) (mw hZ hw 47 rfl) (notFace_of_selects (args := #[]) (mw hZ hw 49 rfl)) (mw hZ hw 49 rfl) (mw hZ hw 48 rfl) (by decide) (backOf (W := 0) (rm10 l Z a0 hw [] a1 cs h0 n0 O0 Fc_a1 S_CS h_cs) hZ (ww hw 50 rfl) (ww hw 7 rfl) (by decide) (by decide)) q7a q7c (g := (mkF m 39 #[vR a1, vR a2, vI 0, vR d, vR ds, vI 0, vI 1, .unset] [iR a1])) rfl (by rw [hml]; rfl) (Steps.refl _) (argsL := []) (rest := []) (lenOf pd_8 rfl) rfl (wz rfl) (hb hby d18_39) (fun _ _ => ⟨rfl, e5, (by decide : 0 + 0 ≤ _), (by decide : 0 + 0 ≤ _)⟩)
  dsimp only [Pt.U, Pt.locs, Pt.cells, Pt.slots] at X7 l7 y7 z7 st7 hQ7
  subst l7 y7 z7
  obtain ⟨rfl, rfl, e7⟩ := hQ7
  try rw [List.append_nil] at X7
  obtain ⟨cq8, kq8, q8a, q8b, q8c⟩ := isOf hZ e7 E_a2
  obtain ⟨_, _, ⟨T8, L8, k8, n8⟩, -, X8, ⟨Lc8, hQ8, l8, y8, z8⟩, st8⟩ := X7.virtualBack hx (y := mn_10) (z := mn_10) hown (mw hZ hw 46 rfl) (mw hZ hw 47 rfl) (notFace_of_selects (args := #[]) (mw hZ hw 49 rfl)) (mw hZ hw 49 rfl) (mw hZ hw 48 rfl) (by decide) (backOf (W := 1) (rm10 l Z a0 hw [] a2 cs h0 n0 O0 Fc_a2 S_CS h_cs) hZ (ww hw 50 rfl) (ww hw 7 rfl) (by decide) (by decide)) q8a q8c (g := (mkF m 47 #[vR a1, vR a2, vI 0, vR d, vR ds, vI 0, vI 1, vI 0] [iR a2, iI 0])) rfl (by rw [hml]; rfl) (Steps.refl _) (argsL := []) (rest := [(.int (0 : Int32))]) (lenOf pd_8 rfl) rfl (wz rfl) (hb hby d18_47) (fun _ _ => ⟨rfl, e7, (by decide : 0 + 0 ≤ _), (by decide : 0 + 0 ≤ _)⟩)
  dsimp only [Pt.U, Pt.locs, Pt.cells, Pt.slots] at X8 l8 y8 z8 st8 hQ8
  subst l8 y8 z8
  obtain ⟨rfl, rfl, e8⟩ := hQ8
  try rw [List.append_nil] at X8
  obtain ⟨_, _, ⟨T9, L9, k9, n9⟩, -, X9, ⟨Lc9, hQ9, l9, y9, z9⟩, st9⟩ := Jvm.LawKit.callS X8 hx (y := mn_25) hown (mw hZ hw 90 rfl) (mw hZ hw 91 rfl) (mw hZ hw 92 rfl) (mw hZ hw 93 rfl) (by decide) (backOf (W := 0) (rm19 l Z a0 hw [] d ds kd kds z B h0 V_d V_ds hge) hZ (ww hw 93 rfl) (ww hw 92 rfl) (by decide) (by decide)) (g := (mkF m 70 #[vR a1, vR a2, vI 0, vR d, vR ds, vI 0, vI 1, vI 0] [iI 1, iI 0, iR ds, iI 0, iR d])) rfl (by rw [hml]; rfl) (argsL := [(.ref d), (.int (0 : Int32)), (.ref ds), (.int (0 : Int32)), (.int (1 : Int32))]) (rest := []) (lenOf pd_20 rfl) rfl (wz rfl) (hb hby d18_70) (fun _ _ => ⟨rfl, e8, (by decide : 0 + 0 ≤ _), (by decide : 0 + 0 ≤ _)⟩)
  dsimp only [Pt.U, Pt.locs, Pt.cells, Pt.slots] at X9 l9 y9 z9 st9 hQ9
  subst l9 y9 z9
  obtain ⟨rfl, rfl, e9⟩ := hQ9
  try rw [List.append_nil] at X9
  have hh10 : (if (B.getD 0 0) = (32 : Int32) then (-1 : Int32) else (0 : Int32)) < (0 : Int32) := (by rw [if_pos h32]; decide)
  obtain ⟨fs, hr, hrun, hended, hW, hsame⟩ := X9.leave (v := some (.int (1 : Int32))) (fun h => by rw [Bd.returns] at h; cases h)
  refine ⟨_, _, pre0 _ ?_, hrun, hended, _, _, rfl, ?_, ⟨_, rfl⟩, hW, hsame.mono (by decide) (by decide)⟩
  · refine XS.iloadN X0.here hx rfl (hb hby d18_0) rfl ?_
    refine XS.ifNo X0.here hx rfl (hb hby d18_1) rfl ((if0 _ _).trans (flt (by decide : ¬ ((0 : Int32) < (0 : Int32)))).1) ?_
    refine XS.iloadN X0.here hx rfl (hb hby d18_4) rfl ?_
    refine XS.aloadN X0.here hx rfl (hb hby d18_5) rfl rfl ?_
    refine st1.trans ?_
    refine XS.aloadN X1.here hx rfl (hb hby d18_9) rfl rfl ?_
    refine st2.trans ?_
    refine XS.isub X2.here hx rfl (hb hby d18_13) rfl ?_
    refine XS.icmpYes X2.here hx rfl (pc0 := 14) (pc' := 19) rfl (hb hby d18_14) rfl (flt hh3).2.2.2 (by decide) (by decide) ?_
    refine XS.aloadN X2.here hx rfl (hb hby d18_19) rfl rfl ?_
    refine st4 _ ?_
    refine XS.astoreN X4.here hx rfl (hb hby d18_23) rfl rfl (l' := #[vR a1, vR a2, vI 0, vR d, .unset, .unset, .unset, .unset]) rfl ?_
    refine XS.aloadN X4.here hx rfl (hb hby d18_24) rfl rfl ?_
    refine st5 _ ?_
    refine XS.astore X5.here hx rfl (hb hby d18_28) rfl rfl (l' := #[vR a1, vR a2, vI 0, vR d, vR ds, .unset, .unset, .unset]) rfl ?_
    refine XS.iconst X5.here hx rfl (hb hby d18_30) ?_
    refine XS.istore X5.here hx rfl (hb hby d18_31) rfl (l' := #[vR a1, vR a2, vI 0, vR d, vR ds, vI 0, .unset, .unset]) rfl ?_
    refine XS.aload X5.here hx rfl (hb hby d18_33) rfl rfl ?_
    refine X5.arraylength hx (by rw [e5]; exact Ar6.1) (State.isArrayOf_alike hZ.alike Ar6.2.1) (g := (mkF m 35 #[vR a1, vR a2, vI 0, vR d, vR ds, vI 0, .unset, .unset] [iR ds])) rfl rfl (hb hby d18_35) _ ?_
    rw [len_of S6 M6]
    refine XS.istore X5.here hx rfl (hb hby d18_36) rfl (l' := #[vR a1, vR a2, vI 0, vR d, vR ds, vI 0, vI 1, .unset]) rfl ?_
    refine XS.aloadN X5.here hx rfl (hb hby d18_38) rfl rfl ?_
    refine st7.trans ?_
    refine XS.istore X7.here hx rfl (hb hby d18_42) rfl (l' := #[vR a1, vR a2, vI 0, vR d, vR ds, vI 0, vI 1, vI 0]) rfl ?_
    refine XS.iload X7.here hx rfl (hb hby d18_44) rfl ?_
    refine XS.aloadN X7.here hx rfl (hb hby d18_46) rfl rfl ?_
    refine st8.trans ?_
    refine XS.icmpNo X8.here hx rfl (hb hby d18_50) rfl (teq (by decide : (0 : Int32) = (0 : Int32))).2 ?_
    refine XS.iload X8.here hx rfl (hb hby d18_53) rfl ?_
    refine XS.iconst X8.here hx rfl (hb hby d18_55) ?_
    refine XS.icmpYes X8.here hx rfl (pc0 := 56) (pc' := 63) rfl (hb hby d18_56) rfl (feq (by decide : ¬ ((0 : Int32) = (1 : Int32)))).2 (by decide) (by decide) ?_
    refine XS.aloadN X8.here hx rfl (hb hby d18_63) rfl rfl ?_
    refine XS.iloadN X8.here hx rfl (hb hby d18_64) rfl ?_
    refine XS.aload X8.here hx rfl (hb hby d18_65) rfl rfl ?_
    refine XS.iconst X8.here hx rfl (hb hby d18_67) ?_
    show SA T8 m 68 #[vR a1, vR a2, vI 0, vR d, vR ds, vI 0, vI 1, vI 0] [iI 0, iR ds, iI 0, iR d]
    refine XS.iload X8.here hx rfl (hb hby d18_68) rfl ?_
    refine st9 _ ?_
    refine XS.ifNo X9.here hx rfl (hb hby d18_73) rfl ((if0 _ _).trans (tlt hh10).2.1) ?_
    refine XS.iconst X9.here hx rfl (hb hby d18_76) ?_
    refine XS.goto X9.here hx rfl (pc0 := 77) (pc' := 81) rfl (hb hby d18_77) (by decide) (by decide) ?_
    show Steps _ _ _ (T9.setTop (mkF m 81 #[vR a1, vR a2, vI 0, vR d, vR ds, vI 0, vI 1, vI 0] [iI 1])) _
    exact retN X9 hx (t := .boolean) Bd.returns (by simp) (hb hby d18_81) hr
  · show QP _ _ _ T9.heap _
    rw [e9]
    exact ⟨rfl, rfl, rfl⟩
theorem ef_17_y (m : MethodId) (x0 : Addr) (x1 : Addr) : entryFrame m #[(.ref x0), (.ref x1)] 2 = mkF m 0 #[.val (.ref x0), .val (.ref x1)] [] := by first | (simp [entryFrame, mkF, argsToLocals, Value.category]; done) | rfl
theorem rm17_y (l : Launch) (Z : State) (a0 : Array Value) (hw : HW a0 Z) (ws : List Jvm.Cond) (a1 : Addr) (a2 : Addr) (d : Addr) (kd : ClassId) (z : Int32) (B : List Int32) (ds : Addr) (kds : ClassId) (cs : Int32) (h0 : Heap) (n0 : Nat) (O0 : Old Z n0 h0) (E_a1 : ES Z h0 a1) (Fc_a1 : FC Z h0 a1) (Fv_a1 : FV Z h0 a1 d) (V_d : AB Z h0 d kd z B) (hz : ¬ z < 0) (hB : z.toNatClampNeg = B.length) (E_a2 : ES Z h0 a2) (Fc_a2 : FC Z h0 a2) (Fv_a2 : FV Z h0 a2 ds) (V_ds : AB Z h0 ds kds (1 : Int32) [32]) (hge : 1 ≤ z.toInt) (h32 : B.getD 0 0 = (32 : Int32)) (S_CS : SC Z cs) (h_cs : ¬ cs = (0 : Int32)) :
    MFn l mn_27 jdk_42_method_76_code 2 (some .boolean) ws (Rm 3 0 0 46) #[(.ref a1), (.ref a2)] Z h0 (QP h0 (some (.int (1 : Int32)))) := by
  refine MetFree.of_bodySF (plainFor_of_name pn_0) hisR ?_
  intro p e s m args below meth c s₁ Bd hml0 hP hK
  obtain ⟨rfl, hZ, hh⟩ := hP
  have hx := Bd.exec
  have hby := Bd.bytes
  have hml : c.maxLocals = 2 := hml0
  have hown := findClass_of_methodNamed Bd.named
  have X0 : Stand p l e (Rm 3 0 0 46) s m _ below meth c _ [] 0 0 := Stand.of_body Bd
  have e0 : s₁.heap = h0 := by rw [← hh, Bd.state]; rfl
  have pre0 := cast0 (p := p) (e := e) (below := below) (T := s₁) (ef_17_y m a1 a2)
  obtain ⟨cq1, kq1, q1a, q1b, q1c⟩ := isOf hZ e0 E_a1
  obtain ⟨_, _, ⟨T1, L1, k1, n1⟩, -, X1, ⟨Lc1, hQ1, l1, y1, z1⟩, st1⟩ := X0.virtualBack hx (y := mn_26) (z := mn_26) hown (mw hZ hw 85 rfl) (mw hZ hw 86 rfl) (notFace_of_selects (args := #[]) (mw hZ hw 88 rfl)) (mw hZ hw 88 rfl) (mw hZ hw 87 rfl) (by decide) (backOf (W := 0) (rm18_y l Z a0 hw [] a1 a2 d kd z B ds kds cs h0 n0 O0 E_a1 Fc_a1 Fv_a1 V_d hz hB E_a2 Fc_a2 Fv_a2 V_ds hge h32 S_CS h_cs) hZ (ww hw 89 rfl) (ww hw 7 rfl) (by decide) (by decide)) q1a q1c (g := (mkF m 3 #[vR a1, vR a2] [iI 0, iR a2, iR a1])) rfl (by rw [hml]; rfl) (Steps.refl _) (argsL := [(.ref a2), (.int (0 : Int32))]) (rest := []) (lenOf pd_19 rfl) rfl (wz rfl) (hb hby d17_3) (fun _ _ => ⟨rfl, e0, (by decide : 0 + 0 ≤ _), (by decide : 0 + 0 ≤ _)⟩)
  dsimp only [Pt.U, Pt.locs, Pt.cells, Pt.slots] at X1 l1 y1 z1 st1 hQ1
  subst l1 y1 z1
  obtain ⟨rfl, rfl, e1⟩ := hQ1
  try rw [List.append_nil] at X1
  obtain ⟨fs, hr, hrun, hended, hW, hsame⟩ := X1.leave (v := some (.int (1 : Int32))) (fun h => by rw [Bd.returns] at h; cases h)
  refine ⟨_, _, pre0 _ ?_, hrun, hended, _, _, rfl, ?_, ⟨_, rfl⟩, hW, hsame.mono (by decide) (by decide)⟩
  · refine XS.aloadN X0.here hx rfl (hb hby d17_0) rfl rfl ?_
    refine XS.aloadN X0.here hx rfl (hb hby d17_1) rfl rfl ?_
    refine XS.iconst X0.here hx rfl (hb hby d17_2) ?_
    refine st1.trans ?_
    show Steps _ _ _ (T1.setTop (mkF m 6 #[vR a1, vR a2] [iI 1])) _
    exact retN X1 hx (t := .boolean) Bd.returns (by simp) (hb hby d17_6) hr
  · show QP _ _ _ T1.heap _
    rw [e1]
    exact ⟨rfl, rfl, rfl⟩
theorem d18_80 : dk c18 80 (.iconst 0) 1 := by decide +kernel
theorem ef_18_n (m : MethodId) (x0 : Addr) (x1 : Addr) : entryFrame m #[(.ref x0), (.ref x1), (.int (0 : Int32))] 8 = mkF m 0 #[.val (.ref x0), .val (.ref x1), .val (.int (0 : Int32)), .unset, .unset, .unset, .unset, .unset] [] := by first | (simp [entryFrame, mkF, argsToLocals, Value.category]; done) | rfl
theorem rm18_n (l : Launch) (Z : State) (a0 : Array Value) (hw : HW a0 Z) (ws : List Jvm.Cond) (a1 : Addr) (a2 : Addr) (d : Addr) (kd : ClassId) (z : Int32) (B : List Int32) (ds : Addr) (kds : ClassId) (cs : Int32) (h0 : Heap) (n0 : Nat) (O0 : Old Z n0 h0) (E_a1 : ES Z h0 a1) (Fc_a1 : FC Z h0 a1) (Fv_a1 : FV Z h0 a1 d) (V_d : AB Z h0 d kd z B) (hz : ¬ z < 0) (hB : z.toNatClampNeg = B.length) (E_a2 : ES Z h0 a2) (Fc_a2 : FC Z h0 a2) (Fv_a2 : FV Z h0 a2 ds) (V_ds : AB Z h0 ds kds (1 : Int32) [32]) (hge : 1 ≤ z.toInt) (h32 : ¬ B.getD 0 0 = (32 : Int32)) (S_CS : SC Z cs) (h_cs : ¬ cs = (0 : Int32)) :
    MFn l mn_26 jdk_42_method_75_code 8 (some .boolean) ws (Rm 2 0 0 27) #[(.ref a1), (.ref a2), (.int (0 : Int32))] Z h0 (QP h0 (some (.int (0 : Int32)))) := by
  refine MetFree.of_bodySF (plainFor_of_name pn_0) hisR ?_
  intro p e s m args below meth c s₁ Bd hml0 hP hK
  obtain ⟨rfl, hZ, hh⟩ := hP
  have hx := Bd.exec
  have hby := Bd.bytes
  have hml : c.maxLocals = 8 := hml0
  have hown := findClass_of_methodNamed Bd.named
  have X0 : Stand p l e (Rm 2 0 0 27) s m _ below meth c _ [] 0 0 := Stand.of_body Bd
  have e0 : s₁.heap = h0 := by rw [← hh, Bd.state]; rfl
  have pre0 := cast0 (p := p) (e := e) (below := below) (T := s₁) (ef_18_n m a1 a2)
  obtain ⟨cq1, kq1, q1a, q1b, q1c⟩ := isOf hZ e0 E_a1
  obtain ⟨_, _, ⟨T1, L1, k1, n1⟩, -, X1, ⟨Lc1, hQ1, l1, y1, z1⟩, st1⟩ := X0.virtualBack hx (y := mn_11) (z := mn_11) hown (mw hZ hw 56 rfl) (mw hZ hw 42 rfl) (notFace_of_selects (args := #[]) (mw hZ hw 44 rfl)) (mw hZ hw 44 rfl) (mw hZ hw 43 rfl) (by decide) (backOf (W := 1) (rm9 l Z a0 hw [] a1 d kd z B cs h0 n0 O0 E_a1 Fc_a1 Fv_a1 V_d hz hB S_CS h_cs) hZ (ww hw 45 rfl) (ww hw 7 rfl) (by decide) (by decide)) q1a q1c (g := (mkF m 6 #[vR a1, vR a2, vI 0, .unset, .unset, .unset, .unset, .unset] [iR a1, iI 0])) rfl (by rw [hml]; rfl) (Steps.refl _) (argsL := []) (rest := [(.int (0 : Int32))]) (lenOf pd_10 rfl) rfl (wz rfl) (hb hby d18_6) (fun _ _ => ⟨rfl, e0, (by decide : 0 + 0 ≤ _), (by decide : 0 + 0 ≤ _)⟩)
  dsimp only [Pt.U, Pt.locs, Pt.cells, Pt.slots] at X1 l1 y1 z1 st1 hQ1
  subst l1 y1 z1
  obtain ⟨rfl, rfl, e1⟩ := hQ1
  try rw [List.append_nil] at X1
  obtain ⟨cq2, kq2, q2a, q2b, q2c⟩ := isOf hZ e1 E_a2
  obtain ⟨_, _, ⟨T2, L2, k2, n2⟩, -, X2, ⟨Lc2, hQ2, l2, y2, z2⟩, st2⟩ := X1.virtualBack hx (y := mn_11) (z := mn_11) hown (mw hZ hw 56 rfl) (mw hZ hw 42 rfl) (notFace_of_selects (args := #[]) (mw hZ hw 44 rfl)) (mw hZ hw 44 rfl) (mw hZ hw 43 rfl) (by decide) (backOf (W := 2) (rm9 l Z a0 hw [] a2 ds kds (1 : Int32) [32] cs h0 n0 O0 E_a2 Fc_a2 Fv_a2 V_ds (by decide) rfl S_CS h_cs) hZ (ww hw 45 rfl) (ww hw 7 rfl) (by decide) (by decide)) q2a q2c (g := (mkF m 10 #[vR a1, vR a2, vI 0, .unset, .unset, .unset, .unset, .unset] [iR a2, iI z, iI 0])) rfl (by rw [hml]; rfl) (Steps.refl _) (argsL := []) (rest := [(.int z), (.int (0 : Int32))]) (lenOf pd_10 rfl) rfl (wz rfl) (hb hby d18_10) (fun _ _ => ⟨rfl, e1, (by decide : 0 + 0 ≤ _), (by decide : 0 + 0 ≤ _)⟩)
  dsimp only [Pt.U, Pt.locs, Pt.cells, Pt.slots] at X2 l2 y2 z2 st2 hQ2
  subst l2 y2 z2
  obtain ⟨rfl, rfl, e2⟩ := hQ2
  try rw [List.append_nil] at X2
  have hh3 : ¬ ((z - (1 : Int32)) < (0 : Int32)) := (own_nlt (by have e : (0 : Int32).toInt = 0 := rfl; have e1 : (1 : Int32).toInt = 1 := rfl; have q := c_isub z 1; have r := rng32 (z - (1 : Int32)); have r2 := rng32 z; omega))
  obtain ⟨T4, X4, e4, st4⟩ := gF X2 hx hZ hown (ww hw 32 rfl) e2 Fv_a1 (g := (mkF m 20 #[vR a1, vR a2, vI 0, .unset, .unset, .unset, .unset, .unset] [iR a1])) rfl rfl (hb hby d18_20)
  obtain ⟨T5, X5, e5, st5⟩ := gF X4 hx hZ hown (ww hw 32 rfl) e4 Fv_a2 (g := (mkF m 25 #[vR a1, vR a2, vI 0, vR d, .unset, .unset, .unset, .unset] [iR a2])) rfl rfl (hb hby d18_25)
  obtain ⟨cl6, Ar6, q6, S6, M6, H6, G6⟩ := id V_ds
  obtain ⟨cq7, kq7, q7a, q7b, q7c⟩ := isOf hZ e5 E_a1
  obtain ⟨_, _, ⟨T7, L7, k7, n7⟩, -, X7, ⟨Lc7, hQ7, l7, y7, z7⟩, st7⟩ := X5.virtualBack hx (y := mn_10) (z := mn_10) hown (mw hZ hw 46 rfl) (mw hZ hw 47 rfl) (notFace_of_selects (args := #[]) (mw hZ hw 49 rfl)) (mw hZ hw 49 rfl) (mw hZ hw 48 rfl) (by decide) (backOf (W := 0) (rm10 l Z a0 hw [] a1 cs h0 n0 O0 Fc_a1 S_CS h_cs) hZ (ww hw 50 rfl) (ww hw 7 rfl) (by decide) (by decide)) q7a q7c (g := (mkF m 39 #[vR a1, vR a2, vI 0, vR d, vR ds, vI 0, vI 1, .unset] [iR a1])) rfl (by rw [hml]; rfl) (Steps.refl _) (argsL := []) (rest := []) (lenOf pd_8 rfl) rfl (wz rfl) (hb hby d18_39) (fun _ _ => ⟨rfl, e5, (by decide : 0 + 0 ≤ _), (by decide : 0 + 0 ≤ _)⟩)
  dsimp only [Pt.U, Pt.locs, Pt.cells, Pt.slots] at X7 l7 y7 z7 st7 hQ7
  subst l7 y7 z7
  obtain ⟨rfl, rfl, e7⟩ := hQ7
  try rw [List.append_nil] at X7
  obtain ⟨cq8, kq8, q8a, q8b, q8c⟩ := isOf hZ e7 E_a2
  obtain ⟨_, _, ⟨T8, L8, k8, n8⟩, -, X8, ⟨Lc8, hQ8, l8, y8, z8⟩, st8⟩ := X7.virtualBack hx (y := mn_10) (z := mn_10) hown (mw hZ hw 46 rfl) (mw hZ hw 47 rfl) (notFace_of_selects (args := #[]) (mw hZ hw 49 rfl)) (mw hZ hw 49 rfl) (mw hZ hw 48 rfl) (by decide) (backOf (W := 1) (rm10 l Z a0 hw [] a2 cs h0 n0 O0 Fc_a2 S_CS h_cs) hZ (ww hw 50 rfl) (ww hw 7 rfl) (by decide) (by decide)) q8a q8c (g := (mkF m 47 #[vR a1, vR a2, vI 0, vR d, vR ds, vI 0, vI 1, vI 0] [iR a2, iI 0])) rfl (by rw [hml]; rfl) (Steps.refl _) (argsL := []) (rest := [(.int (0 : Int32))]) (lenOf pd_8 rfl) rfl (wz rfl) (hb hby d18_47) (fun _ _ => ⟨rfl, e7, (by decide : 0 + 0 ≤ _), (by decide : 0 + 0 ≤ _)⟩)
  dsimp only [Pt.U, Pt.locs, Pt.cells, Pt.slots] at X8 l8 y8 z8 st8 hQ8
  subst l8 y8 z8
  obtain ⟨rfl, rfl, e8⟩ := hQ8
  try rw [List.append_nil] at X8
  obtain ⟨_, _, ⟨T9, L9, k9, n9⟩, -, X9, ⟨Lc9, hQ9, l9, y9, z9⟩, st9⟩ := Jvm.LawKit.callS X8 hx (y := mn_25) hown (mw hZ hw 90 rfl) (mw hZ hw 91 rfl) (mw hZ hw 92 rfl) (mw hZ hw 93 rfl) (by decide) (backOf (W := 0) (rm19 l Z a0 hw [] d ds kd kds z B h0 V_d V_ds hge) hZ (ww hw 93 rfl) (ww hw 92 rfl) (by decide) (by decide)) (g := (mkF m 70 #[vR a1, vR a2, vI 0, vR d, vR ds, vI 0, vI 1, vI 0] [iI 1, iI 0, iR ds, iI 0, iR d])) rfl (by rw [hml]; rfl) (argsL := [(.ref d), (.int (0 : Int32)), (.ref ds), (.int (0 : Int32)), (.int (1 : Int32))]) (rest := []) (lenOf pd_20 rfl) rfl (wz rfl) (hb hby d18_70) (fun _ _ => ⟨rfl, e8, (by decide : 0 + 0 ≤ _), (by decide : 0 + 0 ≤ _)⟩)
  dsimp only [Pt.U, Pt.locs, Pt.cells, Pt.slots] at X9 l9 y9 z9 st9 hQ9
  subst l9 y9 z9
  obtain ⟨rfl, rfl, e9⟩ := hQ9
  try rw [List.append_nil] at X9
  have hh10 : ¬ ((if (B.getD 0 0) = (32 : Int32) then (-1 : Int32) else (0 : Int32)) < (0 : Int32)) := (by rw [if_neg h32]; decide)
  obtain ⟨fs, hr, hrun, hended, hW, hsame⟩ := X9.leave (v := some (.int (0 : Int32))) (fun h => by rw [Bd.returns] at h; cases h)
  refine ⟨_, _, pre0 _ ?_, hrun, hended, _, _, rfl, ?_, ⟨_, rfl⟩, hW, hsame.mono (by decide) (by decide)⟩
  · refine XS.iloadN X0.here hx rfl (hb hby d18_0) rfl ?_
    refine XS.ifNo X0.here hx rfl (hb hby d18_1) rfl ((if0 _ _).trans (flt (by decide : ¬ ((0 : Int32) < (0 : Int32)))).1) ?_
    refine XS.iloadN X0.here hx rfl (hb hby d18_4) rfl ?_
    refine XS.aloadN X0.here hx rfl (hb hby d18_5) rfl rfl ?_
    refine st1.trans ?_
    refine XS.aloadN X1.here hx rfl (hb hby d18_9) rfl rfl ?_
    refine st2.trans ?_
    refine XS.isub X2.here hx rfl (hb hby d18_13) rfl ?_
    refine XS.icmpYes X2.here hx rfl (pc0 := 14) (pc' := 19) rfl (hb hby d18_14) rfl (flt hh3).2.2.2 (by decide) (by decide) ?_
    refine XS.aloadN X2.here hx rfl (hb hby d18_19) rfl rfl ?_
    refine st4 _ ?_
    refine XS.astoreN X4.here hx rfl (hb hby d18_23) rfl rfl (l' := #[vR a1, vR a2, vI 0, vR d, .unset, .unset, .unset, .unset]) rfl ?_
    refine XS.aloadN X4.here hx rfl (hb hby d18_24) rfl rfl ?_
    refine st5 _ ?_
    refine XS.astore X5.here hx rfl (hb hby d18_28) rfl rfl (l' := #[vR a1, vR a2, vI 0, vR d, vR ds, .unset, .unset, .unset]) rfl ?_
    refine XS.iconst X5.here hx rfl (hb hby d18_30) ?_
    refine XS.istore X5.here hx rfl (hb hby d18_31) rfl (l' := #[vR a1, vR a2, vI 0, vR d, vR ds, vI 0, .unset, .unset]) rfl ?_
    refine XS.aload X5.here hx rfl (hb hby d18_33) rfl rfl ?_
    refine X5.arraylength hx (by rw [e5]; exact Ar6.1) (State.isArrayOf_alike hZ.alike Ar6.2.1) (g := (mkF m 35 #[vR a1, vR a2, vI 0, vR d, vR ds, vI 0, .unset, .unset] [iR ds])) rfl rfl (hb hby d18_35) _ ?_
    rw [len_of S6 M6]
    refine XS.istore X5.here hx rfl (hb hby d18_36) rfl (l' := #[vR a1, vR a2, vI 0, vR d, vR ds, vI 0, vI 1, .unset]) rfl ?_
    refine XS.aloadN X5.here hx rfl (hb hby d18_38) rfl rfl ?_
    refine st7.trans ?_
    refine XS.istore X7.here hx rfl (hb hby d18_42) rfl (l' := #[vR a1, vR a2, vI 0, vR d, vR ds, vI 0, vI 1, vI 0]) rfl ?_
    refine XS.iload X7.here hx rfl (hb hby d18_44) rfl ?_
    refine XS.aloadN X7.here hx rfl (hb hby d18_46) rfl rfl ?_
    refine st8.trans ?_
    refine XS.icmpNo X8.here hx rfl (hb hby d18_50) rfl (teq (by decide : (0 : Int32) = (0 : Int32))).2 ?_
    refine XS.iload X8.here hx rfl (hb hby d18_53) rfl ?_
    refine XS.iconst X8.here hx rfl (hb hby d18_55) ?_
    refine XS.icmpYes X8.here hx rfl (pc0 := 56) (pc' := 63) rfl (hb hby d18_56) rfl (feq (by decide : ¬ ((0 : Int32) = (1 : Int32)))).2 (by decide) (by decide) ?_
    refine XS.aloadN X8.here hx rfl (hb hby d18_63) rfl rfl ?_
    refine XS.iloadN X8.here hx rfl (hb hby d18_64) rfl ?_
    refine XS.aload X8.here hx rfl (hb hby d18_65) rfl rfl ?_
    refine XS.iconst X8.here hx rfl (hb hby d18_67) ?_
    show SA T8 m 68 #[vR a1, vR a2, vI 0, vR d, vR ds, vI 0, vI 1, vI 0] [iI 0, iR ds, iI 0, iR d]
    refine XS.iload X8.here hx rfl (hb hby d18_68) rfl ?_
    refine st9 _ ?_
    refine XS.ifYes X9.here hx rfl (pc0 := 73) (pc' := 80) rfl (hb hby d18_73) rfl ((if0 _ _).trans (flt hh10).2.1) (by decide) (by decide) ?_
    refine XS.iconst X9.here hx rfl (hb hby d18_80) ?_
    show Steps _ _ _ (T9.setTop (mkF m 81 #[vR a1, vR a2, vI 0, vR d, vR ds, vI 0, vI 1, vI 0] [iI 0])) _
    exact retN X9 hx (t := .boolean) Bd.returns (by simp) (hb hby d18_81) hr
  · show QP _ _ _ T9.heap _
    rw [e9]
    exact ⟨rfl, rfl, rfl⟩
theorem ef_17_n (m : MethodId) (x0 : Addr) (x1 : Addr) : entryFrame m #[(.ref x0), (.ref x1)] 2 = mkF m 0 #[.val (.ref x0), .val (.ref x1)] [] := by first | (simp [entryFrame, mkF, argsToLocals, Value.category]; done) | rfl
theorem rm17_n (l : Launch) (Z : State) (a0 : Array Value) (hw : HW a0 Z) (ws : List Jvm.Cond) (a1 : Addr) (a2 : Addr) (d : Addr) (kd : ClassId) (z : Int32) (B : List Int32) (ds : Addr) (kds : ClassId) (cs : Int32) (h0 : Heap) (n0 : Nat) (O0 : Old Z n0 h0) (E_a1 : ES Z h0 a1) (Fc_a1 : FC Z h0 a1) (Fv_a1 : FV Z h0 a1 d) (V_d : AB Z h0 d kd z B) (hz : ¬ z < 0) (hB : z.toNatClampNeg = B.length) (E_a2 : ES Z h0 a2) (Fc_a2 : FC Z h0 a2) (Fv_a2 : FV Z h0 a2 ds) (V_ds : AB Z h0 ds kds (1 : Int32) [32]) (hge : 1 ≤ z.toInt) (h32 : ¬ B.getD 0 0 = (32 : Int32)) (S_CS : SC Z cs) (h_cs : ¬ cs = (0 : Int32)) :
    MFn l mn_27 jdk_42_method_76_code 2 (some .boolean) ws (Rm 3 0 0 46) #[(.ref a1), (.ref a2)] Z h0 (QP h0 (some (.int (0 : Int32)))) := by
  refine MetFree.of_bodySF (plainFor_of_name pn_0) hisR ?_
  intro p e s m args below meth c s₁ Bd hml0 hP hK
  obtain ⟨rfl, hZ, hh⟩ := hP
  have hx := Bd.exec
  have hby := Bd.bytes
  have hml : c.maxLocals = 2 := hml0
  have hown := findClass_of_methodNamed Bd.named
  have X0 : Stand p l e (Rm 3 0 0 46) s m _ below meth c _ [] 0 0 := Stand.of_body Bd
  have e0 : s₁.heap = h0 := by rw [← hh, Bd.state]; rfl
  have pre0 := cast0 (p := p) (e := e) (below := below) (T := s₁) (ef_17_n m a1 a2)
  obtain ⟨cq1, kq1, q1a, q1b, q1c⟩ := isOf hZ e0 E_a1
  obtain ⟨_, _, ⟨T1, L1, k1, n1⟩, -, X1, ⟨Lc1, hQ1, l1, y1, z1⟩, st1⟩ := X0.virtualBack hx (y := mn_26) (z := mn_26) hown (mw hZ hw 85 rfl) (mw hZ hw 86 rfl) (notFace_of_selects (args := #[]) (mw hZ hw 88 rfl)) (mw hZ hw 88 rfl) (mw hZ hw 87 rfl) (by decide) (backOf (W := 0) (rm18_n l Z a0 hw [] a1 a2 d kd z B ds kds cs h0 n0 O0 E_a1 Fc_a1 Fv_a1 V_d hz hB E_a2 Fc_a2 Fv_a2 V_ds hge h32 S_CS h_cs) hZ (ww hw 89 rfl) (ww hw 7 rfl) (by decide) (by decide)) q1a q1c (g := (mkF m 3 #[vR a1, vR a2] [iI 0, iR a2, iR a1])) rfl (by rw [hml]; rfl) (Steps.refl _) (argsL := [(.ref a2), (.int (0 : Int32))]) (rest := []) (lenOf pd_19 rfl) rfl (wz rfl) (hb hby d17_3) (fun _ _ => ⟨rfl, e0, (by decide : 0 + 0 ≤ _), (by decide : 0 + 0 ≤ _)⟩)
  dsimp only [Pt.U, Pt.locs, Pt.cells, Pt.slots] at X1 l1 y1 z1 st1 hQ1
  subst l1 y1 z1
  obtain ⟨rfl, rfl, e1⟩ := hQ1
  try rw [List.append_nil] at X1
  obtain ⟨fs, hr, hrun, hended, hW, hsame⟩ := X1.leave (v := some (.int (0 : Int32))) (fun h => by rw [Bd.returns] at h; cases h)
  refine ⟨_, _, pre0 _ ?_, hrun, hended, _, _, rfl, ?_, ⟨_, rfl⟩, hW, hsame.mono (by decide) (by decide)⟩
  · refine XS.aloadN X0.here hx rfl (hb hby d17_0) rfl rfl ?_
    refine XS.aloadN X0.here hx rfl (hb hby d17_1) rfl rfl ?_
    refine XS.iconst X0.here hx rfl (hb hby d17_2) ?_
    refine st1.trans ?_
    show Steps _ _ _ (T1.setTop (mkF m 6 #[vR a1, vR a2] [iI 0])) _
    exact retN X1 hx (t := .boolean) Bd.returns (by simp) (hb hby d17_6) hr
  · show QP _ _ _ T1.heap _
    rw [e1]
    exact ⟨rfl, rfl, rfl⟩
def own_A : List Int32 := [1207963663, 1207963663, 1207963663, 1207963663, 1207963663, 1207963663, 1207963663, 1207963663, 1207963663, 1476411407, 1342193679, 1476411407, 1610629135, 1342193679, 1207963663, 1207963663, 1207963663, 1207963663, 1207963663, 1207963663, 1207963663, 1207963663, 1207963663, 1207963663, 1207963663, 1207963663, 1207963663, 1207963663, 1342193679, 1342193679, 1342193679, 1476411407, 1610629132, 1744830488, 1744830488, 671088664, 671113242, 671088664, 1744830488, 1744830488, -402653163, -402653162, 1744830488, 536870937, 939524120, 536870932, 939524120, 939524120, 402667017, 402667017, 402667017, 402667017, 402667017, 402667017, 402667017, 402667017, 402667017, 402667017, 939524120, 1744830488, -402653159, 1744830489, -402653159, 1744830488, 1744830488, 8552417, 8552417, 8552417, 8552417, 8552417, 8552417, 8552417, 8552417, 8552417, 8552417, 8552417, 8552417, 8552417, 8552417, 8552417, 8552417, 8552417, 8552417, 8552417, 8552417, 8552417, 8552417, 8552417, 8552417, 8552417, 8552417, -402653163, 1744830488, -402653162, 1744830491, 1744850967, 1744830491, 8486882, 8486882, 8486882, 8486882, 8486882, 8486882, 8486882, 8486882, 8486882, 8486882, 8486882, 8486882, 8486882, 8486882, 8486882, 8486882, 8486882, 8486882, 8486882, 8486882, 8486882, 8486882, 8486882, 8486882, 8486882, 8486882, -402653163, 1744830489, -402653162, 1744830489, 1207963663, 1207963663, 1207963663, 1207963663, 1207963663, 1207963663, 1342181391, 1207963663, 1207963663, 1207963663, 1207963663, 1207963663, 1207963663, 1207963663, 1207963663, 1207963663, 1207963663, 1207963663, 1207963663, 1207963663, 1207963663, 1207963663, 1207963663, 1207963663, 1207963663, 1207963663, 1207963663, 1207963663, 1207963663, 1207963663, 1207963663, 1207963663, 1207963663, 939524108, 1744830488, 671113242, 671113242, 671113242, 671113242, 1744830492, 1744830488, 1744830491, 1744830492, 28677, -402653155, 1744830489, 1207963664, 1744830492, 1744830491, 671088668, 671088665, 402654731, 402654731, 1744830491, 134049794, 1744830488, 1744830488, 1744830491, 402654475, 28677, -402653154, 1744832523, 1744832523, 1744832523, 1744830488, 8548353, 8548353, 8548353, 8548353, 8548353, 8548353, 8548353, 8548353, 8548353, 8548353, 8548353, 8548353, 8548353, 8548353, 8548353, 8548353, 8548353, 8548353, 8548353, 8548353, 8548353, 8548353, 8548353, 1744830489, 8548353, 8548353, 8548353, 8548353, 8548353, 8548353, 8548353, 134049794, 8482818, 8482818, 8482818, 8482818, 8482818, 8482818, 8482818, 8482818, 8482818, 8482818, 8482818, 8482818, 8482818, 8482818, 8482818, 8482818, 8482818, 8482818, 8482818, 8482818, 8482818, 8482818, 8482818, 1744830489, 8482818, 8482818, 8482818, 8482818, 8482818, 8482818, 8482818, 102592514]
def own_tb (j : Int32) : Int32 := own_A.getD j.toNatClampNeg 0
abbrev HT (cl : Cell) : Prop := ∀ j : Int32, ¬ j < (0 : Int32) → j < (256 : Int32) → atv cl j = own_tb j
theorem own_chr8 (x : Int32) : 0 ≤ (own_chr x).toInt ∧ (own_chr x).toInt ≤ 255 := by
  have h1 := c_i2c (x &&& (255 : Int32))
  have h2 := c_i2c ((x &&& (255 : Int32)).toUInt32.toUInt16.toUInt32.toInt32)
  have h3 := c_and x 255 (by decide)
  have e2 : own_chr x = ((x &&& (255 : Int32)).toUInt32.toUInt16.toUInt32.toInt32).toUInt32.toUInt16.toUInt32.toInt32 := rfl
  rw [← e2] at h2
  have e : (255 : Int32).toInt = 255 := rfl
  omega
theorem own_i2cI {x : Int32} (h0 : ¬ x < (0 : Int32)) (h1 : x < (256 : Int32)) : x.toUInt32.toUInt16.toUInt32.toInt32 = x := by
  rw [Int32.lt_iff_toInt_lt] at h0 h1
  have h := c_i2c x
  have e0 : (0 : Int32).toInt = 0 := rfl
  have e : (256 : Int32).toInt = 256 := rfl
  apply Int32.toInt_inj.mp
  omega

theorem d24_0 : dk c24 0 (.aload_n 0) 1 := by decide +kernel
theorem d24_1 : dk c24 1 (.iload_n 1) 1 := by decide +kernel
theorem d24_2 : dk c24 2 .baload 1 := by decide +kernel
theorem d24_3 : dk c24 3 (.sipush 255) 3 := by decide +kernel
theorem d24_6 : dk c24 6 .iand 1 := by decide +kernel
theorem d24_7 : dk c24 7 .i2c 1 := by decide +kernel
theorem d24_8 : dk c24 8 .ireturn 1 := by decide +kernel
theorem ef_24 (m : MethodId) (x0 : Addr) (x1 : Int32) : entryFrame m #[(.ref x0), (.int x1)] 2 = mkF m 0 #[.val (.ref x0), .val (.int x1)] [] := by first | (simp [entryFrame, mkF, argsToLocals, Value.category]; done) | rfl
theorem rm24 (l : Launch) (Z : State) (a0 : Array Value) (hw : HW a0 Z) (ws : List Jvm.Cond) (a1 : Addr) (p2 : Int32) (kb : ClassId) (z : Int32) (B : List Int32) (h0 : Heap) (V_b : AB Z h0 a1 kb z B) (hj0 : ¬ p2 < (0 : Int32)) (hj1 : p2 < z) :
    MFn l mn_28 jdk_43_method_44_code 2 (some .char) ws (Rm 0 0 0 0) #[(.ref a1), (.int p2)] Z h0 (QP h0 (some (.int (own_chr (B.getD p2.toNatClampNeg 0))))) := by
  refine MetFree.of_bodySF (plainFor_of_name pn_2) hisR ?_
  intro p e s m args below meth c s₁ Bd hml0 hP hK
  obtain ⟨rfl, hZ, hh⟩ := hP
  have hx := Bd.exec
  have hby := Bd.bytes
  have hml : c.maxLocals = 2 := hml0
  have hown := findClass_of_methodNamed Bd.named
  have X0 : Stand p l e (Rm 0 0 0 0) s m _ below meth c _ [] 0 0 := Stand.of_body Bd
  have e0 : s₁.heap = h0 := by rw [← hh, Bd.state]; rfl
  have pre0 := cast0 (p := p) (e := e) (below := below) (T := s₁) (ef_24 m a1 p2)
  obtain ⟨cl1, Ar1, q1, S1, M1, H1, G1⟩ := id V_b
  have hin2 := inb_of (j := p2) S1 ⟨hj0, hj1⟩
  have hat3 : cl1.slots[(p2).toNatClampNeg]? = some (.int (B.getD p2.toNatClampNeg 0)) := Has.at H1 hin2 (own_bsget B _)
  obtain ⟨fs, hr, hrun, hended, hW, hsame⟩ := X0.leave (v := some (.int (nar .char ((B.getD p2.toNatClampNeg 0) &&& (255 : Int32)).toUInt32.toUInt16.toUInt32.toInt32))) (fun h => by rw [Bd.returns] at h; cases h)
  refine ⟨_, _, pre0 _ ?_, hrun, hended, _, _, rfl, ?_, ⟨_, rfl⟩, hW, hsame.mono (by decide) (by decide)⟩
  · refine XS.aloadN X0.here hx rfl (hb hby d24_0) rfl rfl ?_
    refine XS.iloadN X0.here hx rfl (hb hby d24_1) rfl ?_
    refine X0.baloadBytes hx (j := p2) (v := (.int (B.getD p2.toNatClampNeg 0))) (by rw [e0]; exact Ar1.1) (State.isArrayOf_alike hZ.alike Ar1.2.1) Ar1.2.2 hin2 hat3 (g := (mkF m 2 #[vR a1, vI p2] [iI p2, iR a1])) rfl rfl (hb hby d24_2) _ ?_
    refine XS.sipush X0.here hx rfl (hb hby d24_3) ?_
    refine XS.iand X0.here hx rfl (hb hby d24_6) rfl ?_
    refine XS.i2c X0.here hx rfl (hb hby d24_7) rfl ?_
    show Steps _ _ _ (s₁.setTop (mkF m 8 #[vR a1, vI p2] [iI ((B.getD p2.toNatClampNeg 0) &&& (255 : Int32)).toUInt32.toUInt16.toUInt32.toInt32])) _
    exact retN X0 hx (t := .char) Bd.returns (by simp) (hb hby d24_8) hr
  · show QP _ _ _ s₁.heap _
    rw [e0]
    exact ⟨rfl, rfl, rfl⟩
theorem d26_0 : dk c26 0 (.iload_n 1) 1 := by decide +kernel
theorem d26_1 : dk c26 1 .i2c 1 := by decide +kernel
theorem d26_2 : dk c26 2 (.istore_n 2) 1 := by decide +kernel
theorem d26_3 : dk c26 3 (.getstatic 1) 3 := by decide +kernel
theorem d26_6 : dk c26 6 (.iload_n 2) 1 := by decide +kernel
theorem d26_7 : dk c26 7 .iaload 1 := by decide +kernel
theorem d26_8 : dk c26 8 (.istore_n 3) 1 := by decide +kernel
theorem d26_9 : dk c26 9 (.iload_n 3) 1 := by decide +kernel
theorem d26_10 : dk c26 10 .ireturn 1 := by decide +kernel
theorem ef_26 (m : MethodId) (x0 : Addr) (x1 : Int32) : entryFrame m #[(.ref x0), (.int x1)] 4 = mkF m 0 #[.val (.ref x0), .val (.int x1), .unset, .unset] [] := by first | (simp [entryFrame, mkF, argsToLocals, Value.category]; done) | rfl
theorem rm26 (l : Launch) (Z : State) (a0 : Array Value) (hw : HW a0 Z) (ws : List Jvm.Cond) (a1 : Addr) (p2 : Int32) (s_T s_I : Addr) (cl : Cell) (h0 : Heap) (n0 : Nat) (O0 : Old Z n0 h0) (hj0 : ¬ p2 < (0 : Int32)) (hj1 : p2 < (256 : Int32)) (S_T : ST Z s_T) (TB : Tab Z Z.heap s_T cl .int (256 : Int32)) (hTb : HT cl) (S_I : SI Z s_I) (E_I : Exa Z Z.heap s_I "java/lang/CharacterDataLatin1") :
    MFn l mn_29 jdk_116_method_1_code 4 (some .int) ws (Rm 0 0 0 0) #[(.ref a1), (.int p2)] Z h0 (QP h0 (some (.int (own_tb p2)))) := by
  refine MetFree.of_bodySF (plainFor_of_name pn_4) hisR ?_
  intro p e s m args below meth c s₁ Bd hml0 hP hK
  obtain ⟨rfl, hZ, hh⟩ := hP
  have hx := Bd.exec
  have hby := Bd.bytes
  have hml : c.maxLocals = 4 := hml0
  have hown := findClass_of_methodNamed Bd.named
  have X0 : Stand p l e (Rm 0 0 0 0) s m _ below meth c _ [] 0 0 := Stand.of_body Bd
  have e0 : s₁.heap = h0 := by rw [← hh, Bd.state]; rfl
  have pre0 := cast0 (p := p) (e := e) (below := below) (T := s₁) (ef_26 m a1 p2)
  obtain ⟨T1, X1, e1, st1⟩ := getS2 X0 hx hZ hown (host := "") (Or.inl (ww hw 125 rfl)) Via.refl e0 (S_T.ext O0.2) (g := (mkF m 3 #[vR a1, vI p2, vI p2, .unset] [])) rfl (hb hby d26_3)
  have hin2 := inb_of (j := p2) TB.2.1 ⟨hj0, hj1⟩
  have hat3 : cl.slots[(p2).toNatClampNeg]? = some (.int (own_tb p2)) := (TB.2.2.2 _ hin2).trans (by rw [hTb _ hj0 hj1])
  obtain ⟨fs, hr, hrun, hended, hW, hsame⟩ := X1.leave (v := some (.int (own_tb p2))) (fun h => by rw [Bd.returns] at h; cases h)
  refine ⟨_, _, pre0 _ ?_, hrun, hended, _, _, rfl, ?_, ⟨_, rfl⟩, hW, hsame.mono (by decide) (by decide)⟩
  · refine XS.iloadN X0.here hx rfl (hb hby d26_0) rfl ?_
    refine XS.i2c X0.here hx rfl (hb hby d26_1) rfl ?_
    rw [own_i2cI hj0 hj1]
    refine XS.istoreN X0.here hx rfl (hb hby d26_2) rfl (l' := #[vR a1, vI p2, vI p2, .unset]) rfl ?_
    refine st1 _ ?_
    refine XS.iloadN X1.here hx rfl (hb hby d26_6) rfl ?_
    refine X1.iaload hx (j := p2) (v := (.int (own_tb p2))) (by rw [e1]; exact (TB.1.ext O0.2).1) (State.isArrayOf_alike hZ.alike (TB.1.ext O0.2).2.1) (TB.1.ext O0.2).2.2 hin2 hat3 (g := (mkF m 7 #[vR a1, vI p2, vI p2, .unset] [iI p2, iR s_T])) rfl rfl (hb hby d26_7) _ ?_
    refine XS.istoreN X1.here hx rfl (hb hby d26_8) rfl (l' := #[vR a1, vI p2, vI p2, vI (own_tb p2)]) rfl ?_
    refine XS.iloadN X1.here hx rfl (hb hby d26_9) rfl ?_
    show Steps _ _ _ (T1.setTop (mkF m 10 #[vR a1, vI p2, vI p2, vI (own_tb p2)] [iI (own_tb p2)])) _
    exact retI X1 hx Bd.returns (hb hby d26_10) hr
  · show QP _ _ _ T1.heap _
    rw [e1]
    exact ⟨rfl, rfl, rfl⟩
def own_isw (p2 : Int32) : Int32 := (nar .boolean (if ((own_tb p2) &&& (28672 : Int32)) = (16384 : Int32) then (1 : Int32) else (0 : Int32)))
theorem d25_0 : dk c25 0 (.aload_n 0) 1 := by decide +kernel
theorem d25_1 : dk c25 1 (.iload_n 1) 1 := by decide +kernel
theorem d25_2 : dk c25 2 (.invokevirtual 15) 3 := by decide +kernel
theorem d25_5 : dk c25 5 (.istore_n 2) 1 := by decide +kernel
theorem d25_6 : dk c25 6 (.iload_n 2) 1 := by decide +kernel
theorem d25_7 : dk c25 7 (.sipush 28672) 3 := by decide +kernel
theorem d25_10 : dk c25 10 .iand 1 := by decide +kernel
theorem d25_11 : dk c25 11 (.sipush 16384) 3 := by decide +kernel
theorem d25_14 : dk c25 14 (.if_icmp .ne 7) 3 := by decide +kernel
theorem d25_17 : dk c25 17 (.iconst 1) 1 := by decide +kernel
theorem d25_18 : dk c25 18 (.goto 4) 3 := by decide +kernel
theorem d25_21 : dk c25 21 (.iconst 0) 1 := by decide +kernel
theorem d25_22 : dk c25 22 .ireturn 1 := by decide +kernel
theorem ef_25 (m : MethodId) (x0 : Addr) (x1 : Int32) : entryFrame m #[(.ref x0), (.int x1)] 3 = mkF m 0 #[.val (.ref x0), .val (.int x1), .unset] [] := by first | (simp [entryFrame, mkF, argsToLocals, Value.category]; done) | rfl
theorem rm25 (l : Launch) (Z : State) (a0 : Array Value) (hw : HW a0 Z) (ws : List Jvm.Cond) (a1 : Addr) (p2 : Int32) (s_T s_I : Addr) (cl : Cell) (h0 : Heap) (n0 : Nat) (O0 : Old Z n0 h0) (E_a1 : Exa Z h0 a1 "java/lang/CharacterDataLatin1") (hj0 : ¬ p2 < (0 : Int32)) (hj1 : p2 < (256 : Int32)) (S_T : ST Z s_T) (TB : Tab Z Z.heap s_T cl .int (256 : Int32)) (hTb : HT cl) (S_I : SI Z s_I) (E_I : Exa Z Z.heap s_I "java/lang/CharacterDataLatin1") :
    MFn l mn_30 jdk_116_method_26_code 3 (some .boolean) ws (Rm 1 0 0 15) #[(.ref a1), (.int p2)] Z h0 (QP h0 (some (.int (own_isw p2)))) := by
  refine MetFree.of_bodySF (plainFor_of_name pn_4) hisR ?_
  intro p e s m args below meth c s₁ Bd hml0 hP hK
  obtain ⟨rfl, hZ, hh⟩ := hP
  have hx := Bd.exec
  have hby := Bd.bytes
  have hml : c.maxLocals = 3 := hml0
  have hown := findClass_of_methodNamed Bd.named
  have X0 : Stand p l e (Rm 1 0 0 15) s m _ below meth c _ [] 0 0 := Stand.of_body Bd
  have e0 : s₁.heap = h0 := by rw [← hh, Bd.state]; rfl
  have pre0 := cast0 (p := p) (e := e) (below := below) (T := s₁) (ef_25 m a1 p2)
  obtain ⟨cq1, kq1, q1a, q1b, q1c⟩ := isOf hZ e0 E_a1
  obtain ⟨_, _, ⟨T1, L1, k1, n1⟩, -, X1, ⟨Lc1, hQ1, l1, y1, z1⟩, st1⟩ := X0.virtualBack hx (y := mn_29) (z := mn_29) hown (mw hZ hw 120 rfl) (mw hZ hw 121 rfl) (notFace_of_selects (args := #[]) (mw hZ hw 123 rfl)) (mw hZ hw 123 rfl) (mw hZ hw 122 rfl) (by decide) (backOf (W := 0) (rm26 l Z a0 hw [] a1 p2 s_T s_I cl h0 n0 O0 hj0 hj1 S_T TB hTb S_I E_I) hZ (ww hw 124 rfl) (ww hw 114 rfl) (by decide) (by decide)) q1a q1c (g := (mkF m 2 #[vR a1, vI p2, .unset] [iI p2, iR a1])) rfl (by rw [hml]; rfl) (Steps.refl _) (argsL := [(.int p2)]) (rest := []) (lenOf pd_21 rfl) rfl (wz rfl) (hb hby d25_2) (fun _ _ => ⟨rfl, e0, (by decide : 0 + 0 ≤ _), (by decide : 0 + 0 ≤ _)⟩)
  dsimp only [Pt.U, Pt.locs, Pt.cells, Pt.slots] at X1 l1 y1 z1 st1 hQ1
  subst l1 y1 z1
  obtain ⟨rfl, rfl, e1⟩ := hQ1
  try rw [List.append_nil] at X1
  obtain ⟨v2, hv2⟩ : ∃ z : Int32, z = (if ((own_tb p2) &&& (28672 : Int32)) = (16384 : Int32) then (1 : Int32) else (0 : Int32)) := ⟨_, rfl⟩
  obtain ⟨T3, X3, e3, st3⟩ : own_Mid X1 h0 (mkF m 14 #[vR a1, vI p2, vI (own_tb p2)] [iI 16384, iI ((own_tb p2) &&& (28672 : Int32))]) (mkF m 22 #[vR a1, vI p2, vI (own_tb p2)] [iI v2]) := by
    by_cases hc4 : ((own_tb p2) &&& (28672 : Int32)) = (16384 : Int32)
    · refine ⟨T1, X1, e1, fun t kt => ?_⟩
      subst hv2
      simp only [if_pos hc4] at kt
      refine XS.icmpNo X1.here hx rfl (hb hby d25_14) rfl (teq hc4).2 ?_
      refine XS.iconst X1.here hx rfl (hb hby d25_17) ?_
      refine XS.goto X1.here hx rfl (pc0 := 18) (pc' := 22) rfl (hb hby d25_18) (by decide) (by decide) ?_
      exact kt
    · refine ⟨T1, X1, e1, fun t kt => ?_⟩
      subst hv2
      simp only [if_neg hc4] at kt
      refine XS.icmpYes X1.here hx rfl (pc0 := 14) (pc' := 21) rfl (hb hby d25_14) rfl (feq hc4).2 (by decide) (by decide) ?_
      refine XS.iconst X1.here hx rfl (hb hby d25_21) ?_
      exact kt
  obtain ⟨fs, hr, hrun, hended, hW, hsame⟩ := X3.leave (v := some (.int (nar .boolean v2))) (fun h => by rw [Bd.returns] at h; cases h)
  refine ⟨_, _, pre0 _ ?_, hrun, hended, _, _, rfl, ?_, ⟨_, rfl⟩, hW, hsame.mono (by decide) (by decide)⟩
  · refine XS.aloadN X0.here hx rfl (hb hby d25_0) rfl rfl ?_
    refine XS.iloadN X0.here hx rfl (hb hby d25_1) rfl ?_
    refine st1.trans ?_
    refine XS.istoreN X1.here hx rfl (hb hby d25_5) rfl (l' := #[vR a1, vI p2, vI (own_tb p2)]) rfl ?_
    refine XS.iloadN X1.here hx rfl (hb hby d25_6) rfl ?_
    refine XS.sipush X1.here hx rfl (hb hby d25_7) ?_
    refine XS.iand X1.here hx rfl (hb hby d25_10) rfl ?_
    refine XS.sipush X1.here hx rfl (hb hby d25_11) ?_
    refine st3 _ ?_
    show Steps _ _ _ (T3.setTop (mkF m 22 #[vR a1, vI p2, vI (own_tb p2)] [iI v2])) _
    exact retN X3 hx (t := .boolean) Bd.returns (by simp) (hb hby d25_22) hr
  · show QP _ _ _ T3.heap _
    rw [e3]
    exact ⟨by subst hv2; first | rfl | (simp only [own_isw]; done) | (simp only [own_isw]; rfl) | (simp only [own_isw, nar] ; first | rfl | (simp; done) | decide), rfl, rfl⟩
abbrev own_wsb (b : Int32) : Prop := own_chr b = 32 ∨ own_chr b = 9 ∨ ¬ own_isw (own_chr b) = 0
theorem own_nw {c b : Int32} (hc : c = own_chr b) (h1 : ¬ c = 32) (h2 : ¬ c = 9) (h3 : own_isw c = 0) : ¬ own_wsb b := by
  subst hc; rintro (q | q | q)
  · exact h1 q
  · exact h2 q
  · exact q h3
theorem own_w1 {c b : Int32} (hc : c = own_chr b) (h : c = 32) : own_wsb b := Or.inl (hc ▸ h)
theorem own_w2 {c b : Int32} (hc : c = own_chr b) (h : c = 9) : own_wsb b := Or.inr (Or.inl (hc ▸ h))
theorem own_w3 {c b : Int32} (hc : c = own_chr b) (h : ¬ own_isw c = 0) : own_wsb b := Or.inr (Or.inr (hc ▸ h))
def own_lw : List Int32 → Nat
  | [] => 0
  | b :: t => if own_wsb b then 1 + own_lw t else 0
def own_hw (B : List Int32) : Nat → Nat
  | 0 => 0
  | i + 1 => if own_wsb (B.getD i 0) then own_hw B i else i + 1
theorem own_dropG {B : List Int32} {i : Nat} (h : i < B.length) : B.drop i = B.getD i 0 :: B.drop (i + 1) := by
  rw [List.getD_eq_getElem?_getD, List.getElem?_eq_getElem h]
  exact List.drop_eq_getElem_cons h
theorem own_lwN {B : List Int32} {i : Nat} (h : i < B.length) (hw : ¬ own_wsb (B.getD i 0)) : own_lw (B.drop i) = 0 := by
  rw [own_dropG h, own_lw, if_neg hw]
theorem own_lwW {B : List Int32} {i : Nat} (h : i < B.length) (hw : own_wsb (B.getD i 0)) : own_lw (B.drop i) = 1 + own_lw (B.drop (i + 1)) := by
  rw [own_dropG h, own_lw, if_pos hw]
theorem own_lwE {B : List Int32} {i : Nat} (h : B.length ≤ i) : own_lw (B.drop i) = 0 := by
  rw [List.drop_eq_nil_of_le h, own_lw]
theorem own_hwN {B : List Int32} {i : Nat} (hw : ¬ own_wsb (B.getD i 0)) : own_hw B (i + 1) = i + 1 := by rw [own_hw, if_neg hw]
theorem own_hwW {B : List Int32} {i : Nat} (hw : own_wsb (B.getD i 0)) : own_hw B (i + 1) = own_hw B i := by rw [own_hw, if_pos hw]
theorem own_ve {a b : Int32} {n : Nat} (h1 : a.toInt = (n : Int)) (h2 : b.toInt = (n : Int)) : some (Value.int a) = some (Value.int b) := by rw [Int32.toInt_inj.mp (h1.trans h2.symm)]
theorem own_dec1 {i : Int32} {n : Nat} (h : i.toInt = ((n + 1 : Nat) : Int)) (hn : n < 1000) : (i + (-1 : Int32)).toInt = (n : Int) := by
  have q := c_iadd i (-1)
  have r := rng32 (i + (-1 : Int32))
  have e : (-1 : Int32).toInt = -1 := rfl
  omega
theorem own_dec2 {i : Int32} {n : Nat} (h : i.toInt = ((n + 1 : Nat) : Int)) (hn : n < 1000) : (i - (1 : Int32)).toInt = (n : Int) := by
  have q := c_isub i 1
  have r := rng32 (i - (1 : Int32))
  have e : (1 : Int32).toInt = 1 := rfl
  omega

def own_QL (r : Int32) (h0 : Heap) (n0 : Nat) (v : Option Value) (h : Heap) (L : List Loc) : Prop := v = some (.int r) ∧ Fr n0 L ∧ Keep h0 h []
theorem d23_5 : dk c23 5 (.iload_n 2) 1 := by decide +kernel
theorem d23_6 : dk c23 6 (.iload_n 1) 1 := by decide +kernel
theorem d23_7 : dk c23 7 (.if_icmp .ge 40) 3 := by decide +kernel
theorem d23_10 : dk c23 10 (.aload_n 0) 1 := by decide +kernel
theorem d23_11 : dk c23 11 (.iload_n 2) 1 := by decide +kernel
theorem d23_12 : dk c23 12 (.invokestatic 50) 3 := by decide +kernel
theorem d23_15 : dk c23 15 (.istore_n 3) 1 := by decide +kernel
theorem d23_16 : dk c23 16 (.iload_n 3) 1 := by decide +kernel
theorem d23_17 : dk c23 17 (.bipush 32) 2 := by decide +kernel
theorem d23_19 : dk c23 19 (.if_icmp .eq 22) 3 := by decide +kernel
theorem d23_22 : dk c23 22 (.iload_n 3) 1 := by decide +kernel
theorem d23_23 : dk c23 23 (.bipush 9) 2 := by decide +kernel
theorem d23_25 : dk c23 25 (.if_icmp .eq 16) 3 := by decide +kernel
theorem d23_28 : dk c23 28 (.getstatic 66) 3 := by decide +kernel
theorem d23_31 : dk c23 31 (.iload_n 3) 1 := by decide +kernel
theorem d23_32 : dk c23 32 (.invokevirtual 211) 3 := by decide +kernel
theorem d23_35 : dk c23 35 (.ifCond .ne 6) 3 := by decide +kernel
theorem d23_38 : dk c23 38 (.goto 9) 3 := by decide +kernel
theorem d23_41 : dk c23 41 (.iinc 2 1) 3 := by decide +kernel
theorem d23_44 : dk c23 44 (.goto (-39)) 3 := by decide +kernel
theorem d23_47 : dk c23 47 (.iload_n 2) 1 := by decide +kernel
theorem d23_48 : dk c23 48 .ireturn 1 := by decide +kernel
theorem own_lwloop (j : Nat) : ∀ {p : Program} {l : Launch} {e : Env} {s : State} {m : MethodId} {below : List Frame} {meth : Method} {c : Code} {T0 : State} {locs : List Loc} {Z : State} {a0 : Array Value} {h0 hT : Heap} {n0 : Nat} {a1 : Addr} {kb : ClassId} {z : Int32} {B : List Int32} {r : Int32} {s_T s_I : Addr} {cl : Cell} {i : Nat} {iv c3 : Int32} (X0 : Stand p l e (Rm 2 0 0 29) s m #[(.ref a1)] below meth c T0 locs 0 0) (hx : p.tables.exec = Jvm.exec) (hZ : Z.Warmed39 s.vm) (hw : HW a0 Z) (hby : c.code = jdk_43_method_37_code) (hml : c.maxLocals = 4) (hown : s.vm.findClass "java/lang/StringLatin1" = some m.cls) (hret : meth.sig.returnType = some .int) (hlocks : meth.locks = false) (e0 : T0.heap = hT) (Kt0 : Keep h0 hT []) (N0 : Fr n0 locs) (Z0 : n0 ≤ h0.size) (O0 : Old Z n0 h0) (V_b : AB Z hT a1 kb z B) (hB : z.toNatClampNeg = B.length) (hM : 1 ≤ z.toInt ∧ z.toInt ≤ 6) (hl6 : B.length ≤ 6) (hrr : r.toInt = (own_lw B : Int)) (S_T : ST Z s_T) (TB : Tab Z Z.heap s_T cl .int (256 : Int32)) (hTb : HT cl) (S_I : SI Z s_I) (E_I : Exa Z Z.heap s_I "java/lang/CharacterDataLatin1") (hi : iv.toInt = (i : Int)) (hij : i + 1 + j = B.length) (hq : own_lw B = i + own_lw (B.drop i)) (hws : own_wsb (B.getD i 0)), ∃ s₂ o, Steps p.tables e below (T0.setTop (mkF m 41 #[vR a1, vI z, vI iv, vI c3] [])) s₂ ∧ s₂.status = .running ∧ Ended s₂ below o ∧ ∃ v L, o = .returned v ∧ own_QL r h0 n0 v s₂.heap L ∧ FrameEnd s o s₂ L (Rm 2 0 0 29).cells (Rm 2 0 0 29).slots := by
  induction j with
  | zero =>
    intro p l e s m below meth c T0 locs Z a0 h0 hT n0 a1 kb z B r s_T s_I cl i iv c3 X0 hx hZ hw hby hml hown hret hlocks e0 Kt0 N0 Z0 O0 V_b hB hM hl6 hrr S_T TB hTb S_I E_I hi hij hq hws
    have hh1 : ¬ ((iv + (1 : Int32)) < z) := (own_nlt (by rw [own_inc (n := i) hi (by omega)]; simp only [Int32.toNatClampNeg] at hB; omega))
    obtain ⟨fs, hr, hrun, hended, hW, hsame⟩ := X0.leave (hlocks := hlocks) (v := some (.int (iv + (1 : Int32)))) (fun h => by rw [hret] at h; cases h)
    have hql : own_lw B = i + 1 := by rw [hq, own_lwW (i := i) (by omega) hws, own_lwE (by omega)]
    refine ⟨_, _, ?_, hrun, hended, _, _, rfl, ?_, ⟨_, rfl⟩, hW, hsame.mono (by decide) (by decide)⟩
    · refine XS.iinc X0.here hx rfl (hb hby d23_41) rfl (l' := #[vR a1, vI z, vI (iv + (1 : Int32)), vI c3]) rfl ?_
      refine XS.goto X0.here hx rfl (pc0 := 44) (pc' := 5) rfl (hb hby d23_44) (by decide) (by decide) ?_
      refine XS.iloadN X0.here hx rfl (hb hby d23_5) rfl ?_
      refine XS.iloadN X0.here hx rfl (hb hby d23_6) rfl ?_
      refine XS.icmpYes X0.here hx rfl (pc0 := 7) (pc' := 47) rfl (hb hby d23_7) rfl (flt hh1).2.1 (by decide) (by decide) ?_
      refine XS.iloadN X0.here hx rfl (hb hby d23_47) rfl ?_
      show Steps _ _ _ (T0.setTop (mkF m 48 #[vR a1, vI z, vI (iv + (1 : Int32)), vI c3] [iI (iv + (1 : Int32))])) _
      exact retI X0 hx hret (hb hby d23_48) hr
    · show own_QL r h0 n0 _ T0.heap _
      rw [e0]
      exact ⟨own_ve (own_inc (n := i) hi (by omega)) (by rw [hrr, hql]), N0, Kt0⟩
  | succ j ih =>
    intro p l e s m below meth c T0 locs Z a0 h0 hT n0 a1 kb z B r s_T s_I cl i iv c3 X0 hx hZ hw hby hml hown hret hlocks e0 Kt0 N0 Z0 O0 V_b hB hM hl6 hrr S_T TB hTb S_I E_I hi hij hq hws
    have hh1 : (iv + (1 : Int32)) < z := (own_lt (by rw [own_inc (n := i) hi (by omega)]; simp only [Int32.toNatClampNeg] at hB; omega))
    obtain ⟨_, _, ⟨T2, L2, k2, n2⟩, -, X2, ⟨Lc2, hQ2, l2, y2, z2⟩, st2⟩ := Jvm.LawKit.callS X0 hx (y := mn_28) hown (mw hZ hw 110 rfl) (mw hZ hw 111 rfl) (mw hZ hw 59 rfl) (mw hZ hw 112 rfl) (by decide) (backOf (W := 0) (rm24 l Z a0 hw [] a1 (iv + (1 : Int32)) kb z B hT V_b (own_nneg (by rw [own_inc (n := i) hi (by omega)]; omega)) (own_lt (by rw [own_inc (n := i) hi (by omega)]; simp only [Int32.toNatClampNeg] at hB; omega))) hZ (ww hw 112 rfl) (ww hw 59 rfl) (by decide) (by decide)) (g := (mkF m 12 #[vR a1, vI z, vI (iv + (1 : Int32)), vI c3] [iI (iv + (1 : Int32)), iR a1])) rfl (by rw [hml]; rfl) (argsL := [(.ref a1), (.int (iv + (1 : Int32)))]) (rest := []) (lenOf pd_3 rfl) rfl (wz rfl) (hb hby d23_12) (fun _ _ => ⟨rfl, e0, (by decide : 0 + 0 ≤ _), (by decide : 0 + 0 ≤ _)⟩)
    dsimp only [Pt.U, Pt.locs, Pt.cells, Pt.slots] at X2 l2 y2 z2 st2 hQ2
    subst l2 y2 z2
    obtain ⟨rfl, rfl, e2⟩ := hQ2
    try rw [List.append_nil] at X2
    obtain ⟨cn, hcn⟩ : ∃ z_ : Int32, z_ = (own_chr (B.getD (iv + (1 : Int32)).toNatClampNeg 0)) := ⟨_, rfl⟩
    have hc : cn = own_chr (B.getD (i + 1) 0) := by rw [hcn, own_tn (own_inc (n := i) hi (by omega))]
    have pre5 : PP p e below (T2.setTop (mkF m 19 #[vR a1, vI z, vI (iv + (1 : Int32)), vI cn] [iI 32, iI cn])) (T0.setTop (mkF m 41 #[vR a1, vI z, vI iv, vI c3] [])) := by
      intro t kt
      refine XS.iinc X0.here hx rfl (hb hby d23_41) rfl (l' := #[vR a1, vI z, vI (iv + (1 : Int32)), vI c3]) rfl ?_
      refine XS.goto X0.here hx rfl (pc0 := 44) (pc' := 5) rfl (hb hby d23_44) (by decide) (by decide) ?_
      refine XS.iloadN X0.here hx rfl (hb hby d23_5) rfl ?_
      refine XS.iloadN X0.here hx rfl (hb hby d23_6) rfl ?_
      refine XS.icmpNo X0.here hx rfl (hb hby d23_7) rfl (tlt hh1).2.1 ?_
      refine XS.aloadN X0.here hx rfl (hb hby d23_10) rfl rfl ?_
      show SA T0 m 11 #[vR a1, vI z, vI (iv + (1 : Int32)), vI c3] [iR a1]
      refine XS.iloadN X0.here hx rfl (hb hby d23_11) rfl ?_
      refine st2 _ ?_
      rw [← hcn]
      refine XS.istoreN X2.here hx rfl (hb hby d23_15) rfl (l' := #[vR a1, vI z, vI (iv + (1 : Int32)), vI cn]) rfl ?_
      refine XS.iloadN X2.here hx rfl (hb hby d23_16) rfl ?_
      refine XS.bipush X2.here hx rfl (hb hby d23_17) ?_
      exact kt
    by_cases hc4 : cn = (32 : Int32)
    · have pre6 : PP p e below (T2.setTop (mkF m 41 #[vR a1, vI z, vI (iv + (1 : Int32)), vI cn] [])) (T0.setTop (mkF m 41 #[vR a1, vI z, vI iv, vI c3] [])) := by
        intro t kt
        refine pre5 t ?_
        refine XS.icmpYes X2.here hx rfl (pc0 := 19) (pc' := 41) rfl (hb hby d23_19) rfl (teq hc4).1 (by decide) (by decide) ?_
        exact kt
      obtain ⟨s₂, o₂, hs₂, hr₂⟩ := ih (i := i + 1) (iv := (iv + (1 : Int32))) (c3 := cn) X2 hx hZ hw hby hml hown hret hlocks e2 Kt0 N0 Z0 O0 V_b hB hM hl6 hrr S_T TB hTb S_I E_I (own_inc (n := i) hi (by omega)) (by omega) (by rw [hq, own_lwW (i := i) (by omega) hws]; omega) (own_w1 hc hc4)
      exact ⟨s₂, o₂, pre6 _ hs₂, hr₂⟩
    · have pre8 : PP p e below (T2.setTop (mkF m 25 #[vR a1, vI z, vI (iv + (1 : Int32)), vI cn] [iI 9, iI cn])) (T0.setTop (mkF m 41 #[vR a1, vI z, vI iv, vI c3] [])) := by
        intro t kt
        refine pre5 t ?_
        refine XS.icmpNo X2.here hx rfl (hb hby d23_19) rfl (feq hc4).1 ?_
        refine XS.iloadN X2.here hx rfl (hb hby d23_22) rfl ?_
        refine XS.bipush X2.here hx rfl (hb hby d23_23) ?_
        exact kt
      by_cases hc7 : cn = (9 : Int32)
      · have pre9 : PP p e below (T2.setTop (mkF m 41 #[vR a1, vI z, vI (iv + (1 : Int32)), vI cn] [])) (T0.setTop (mkF m 41 #[vR a1, vI z, vI iv, vI c3] [])) := by
          intro t kt
          refine pre8 t ?_
          refine XS.icmpYes X2.here hx rfl (pc0 := 25) (pc' := 41) rfl (hb hby d23_25) rfl (teq hc7).1 (by decide) (by decide) ?_
          exact kt
        obtain ⟨s₂, o₂, hs₂, hr₂⟩ := ih (i := i + 1) (iv := (iv + (1 : Int32))) (c3 := cn) X2 hx hZ hw hby hml hown hret hlocks e2 Kt0 N0 Z0 O0 V_b hB hM hl6 hrr S_T TB hTb S_I E_I (own_inc (n := i) hi (by omega)) (by omega) (by rw [hq, own_lwW (i := i) (by omega) hws]; omega) (own_w2 hc hc7)
        exact ⟨s₂, o₂, pre9 _ hs₂, hr₂⟩
      · have Oh10 := O0.keep Kt0 all0
        have fo11 := S_I.ext Oh10.2
        obtain ⟨T12, X12, e12, st12⟩ := getS2 X2 hx hZ hown (host := "") (Or.inl (ww hw 113 rfl)) Via.refl e2 fo11 (g := (mkF m 28 #[vR a1, vI z, vI (iv + (1 : Int32)), vI cn] [])) rfl (hb hby d23_28)
        have fo14 := E_I.ext Oh10.2
        obtain ⟨cq13, kq13, q13a, q13b, q13c⟩ := isOf hZ e12 fo14
        obtain ⟨_, _, ⟨T13, L13, k13, n13⟩, -, X13, ⟨Lc13, hQ13, l13, y13, z13⟩, st13⟩ := X12.virtualBack hx (y := mn_30) (z := mn_30) hown (mw hZ hw 115 rfl) (mw hZ hw 116 rfl) (notFace_of_selects (args := #[]) (mw hZ hw 118 rfl)) (mw hZ hw 118 rfl) (mw hZ hw 117 rfl) (by decide) (backOf (W := 0) (rm25 l Z a0 hw [] s_I cn s_T s_I cl hT n0 Oh10 fo14 (own_nneg (by rw [hc]; exact (own_chr8 _).1)) (own_lt (by rw [hc]; exact Int.lt_of_le_of_lt (own_chr8 _).2 (by decide))) S_T TB hTb S_I E_I) hZ (ww hw 119 rfl) (ww hw 114 rfl) (by decide) (by decide)) q13a q13c (g := (mkF m 32 #[vR a1, vI z, vI (iv + (1 : Int32)), vI cn] [iI cn, iR s_I])) rfl (by rw [hml]; rfl) (Steps.refl _) (argsL := [(.int cn)]) (rest := []) (lenOf pd_22 rfl) rfl (wz rfl) (hb hby d23_32) (fun _ _ => ⟨rfl, e12, (by decide : 0 + 0 ≤ _), (by decide : 0 + 0 ≤ _)⟩)
        dsimp only [Pt.U, Pt.locs, Pt.cells, Pt.slots] at X13 l13 y13 z13 st13 hQ13
        subst l13 y13 z13
        obtain ⟨rfl, rfl, e13⟩ := hQ13
        try rw [List.append_nil] at X13
        have pre16 : PP p e below (T13.setTop (mkF m 35 #[vR a1, vI z, vI (iv + (1 : Int32)), vI cn] [iI (own_isw cn)])) (T0.setTop (mkF m 41 #[vR a1, vI z, vI iv, vI c3] [])) := by
          intro t kt
          refine pre8 t ?_
          refine XS.icmpNo X2.here hx rfl (hb hby d23_25) rfl (feq hc7).1 ?_
          refine st12 _ ?_
          refine XS.iloadN X12.here hx rfl (hb hby d23_31) rfl ?_
          refine st13.trans ?_
          exact kt
        by_cases hc15 : (own_isw cn) = (0 : Int32)
        · obtain ⟨fs, hr, hrun, hended, hW, hsame⟩ := X13.leave (hlocks := hlocks) (v := some (.int (iv + (1 : Int32)))) (fun h => by rw [hret] at h; cases h)
          have hqn : own_lw B = (i + 1) + own_lw (B.drop (i + 1)) := (by rw [hq, own_lwW (i := i) (by omega) hws]; omega)
          have hql : own_lw B = i + 1 := by rw [hqn, own_lwN (i := i + 1) (by omega) (own_nw hc hc4 hc7 hc15)]
          refine ⟨_, _, pre16 _ ?_, hrun, hended, _, _, rfl, ?_, ⟨_, rfl⟩, hW, hsame.mono (by decide) (by decide)⟩
          · refine XS.ifNo X13.here hx rfl (hb hby d23_35) rfl ((if0 _ _).trans (teq hc15).2) ?_
            refine XS.goto X13.here hx rfl (pc0 := 38) (pc' := 47) rfl (hb hby d23_38) (by decide) (by decide) ?_
            refine XS.iloadN X13.here hx rfl (hb hby d23_47) rfl ?_
            show Steps _ _ _ (T13.setTop (mkF m 48 #[vR a1, vI z, vI (iv + (1 : Int32)), vI cn] [iI (iv + (1 : Int32))])) _
            exact retI X13 hx hret (hb hby d23_48) hr
          · show own_QL r h0 n0 _ T13.heap _
            rw [e13]
            exact ⟨own_ve (own_inc (n := i) hi (by omega)) (by rw [hrr, hql]), N0, Kt0⟩
        · have pre17 : PP p e below (T13.setTop (mkF m 41 #[vR a1, vI z, vI (iv + (1 : Int32)), vI cn] [])) (T0.setTop (mkF m 41 #[vR a1, vI z, vI iv, vI c3] [])) := by
            intro t kt
            refine pre16 t ?_
            refine XS.ifYes X13.here hx rfl (pc0 := 35) (pc' := 41) rfl (hb hby d23_35) rfl ((if0 _ _).trans (feq hc15).2) (by decide) (by decide) ?_
            exact kt
          obtain ⟨s₂, o₂, hs₂, hr₂⟩ := ih (i := i + 1) (iv := (iv + (1 : Int32))) (c3 := cn) X13 hx hZ hw hby hml hown hret hlocks e13 Kt0 N0 Z0 O0 V_b hB hM hl6 hrr S_T TB hTb S_I E_I (own_inc (n := i) hi (by omega)) (by omega) (by rw [hq, own_lwW (i := i) (by omega) hws]; omega) (own_w3 hc hc15)
          exact ⟨s₂, o₂, pre17 _ hs₂, hr₂⟩
theorem d23_0 : dk c23 0 (.aload_n 0) 1 := by decide +kernel
theorem d23_1 : dk c23 1 .arraylength 1 := by decide +kernel
theorem d23_2 : dk c23 2 (.istore_n 1) 1 := by decide +kernel
theorem d23_3 : dk c23 3 (.iconst 0) 1 := by decide +kernel
theorem d23_4 : dk c23 4 (.istore_n 2) 1 := by decide +kernel
theorem ef_23 (m : MethodId) (x0 : Addr) : entryFrame m #[(.ref x0)] 4 = mkF m 0 #[.val (.ref x0), .unset, .unset, .unset] [] := by first | (simp [entryFrame, mkF, argsToLocals, Value.category]; done) | rfl
def Q23 (Z : State) (a1 : Addr) (kb : ClassId) (z : Int32) (B : List Int32) (r : Int32) (s_T s_I : Addr) (cl : Cell) (h0 : Heap) (n0 : Nat) (v : Option Value) (h : Heap) (L : List Loc) : Prop := v = some (.int r) ∧ Fr n0 L ∧ Keep h0 h []
theorem rm23 (l : Launch) (Z : State) (a0 : Array Value) (hw : HW a0 Z) (ws : List Jvm.Cond) (a1 : Addr) (kb : ClassId) (z : Int32) (B : List Int32) (r : Int32) (s_T s_I : Addr) (cl : Cell) (h0 : Heap) (n0 : Nat) (Z0 : n0 ≤ h0.size) (O0 : Old Z n0 h0) (V_b : AB Z h0 a1 kb z B) (hB : z.toNatClampNeg = B.length) (hM : 1 ≤ z.toInt ∧ z.toInt ≤ 6) (hl6 : B.length ≤ 6) (hrr : r.toInt = (own_lw B : Int)) (S_T : ST Z s_T) (TB : Tab Z Z.heap s_T cl .int (256 : Int32)) (hTb : HT cl) (S_I : SI Z s_I) (E_I : Exa Z Z.heap s_I "java/lang/CharacterDataLatin1") :
    MFn l mn_31 jdk_43_method_37_code 4 (some .int) ws (Rm 2 0 0 29) #[(.ref a1)] Z h0 (Q23 Z a1 kb z B r s_T s_I cl h0 n0) := by
  refine MetFree.of_bodySF (plainFor_of_name pn_2) hisR ?_
  intro p e s m args below meth c s₁ Bd hml0 hP hK
  obtain ⟨rfl, hZ, hh⟩ := hP
  have hx := Bd.exec
  have hby := Bd.bytes
  have hml : c.maxLocals = 4 := hml0
  have hown := findClass_of_methodNamed Bd.named
  have X0 : Stand p l e (Rm 2 0 0 29) s m _ below meth c _ [] 0 0 := Stand.of_body Bd
  have e0 : s₁.heap = h0 := by rw [← hh, Bd.state]; rfl
  have N0 := Fr.nil n0
  have K0 := Keep.refl h0 []
  have pre0 := cast0 (p := p) (e := e) (below := below) (T := s₁) (ef_23 m a1)
  obtain ⟨cl1, Ar1, q1, S1, M1, H1, G1⟩ := id V_b
  have hh2 : (0 : Int32) < z := (own_lt (by have e0 : (0 : Int32).toInt = 0 := rfl; omega))
  obtain ⟨_, _, ⟨T3, L3, k3, n3⟩, -, X3, ⟨Lc3, hQ3, l3, y3, z3⟩, st3⟩ := Jvm.LawKit.callS X0 hx (y := mn_28) hown (mw hZ hw 110 rfl) (mw hZ hw 111 rfl) (mw hZ hw 59 rfl) (mw hZ hw 112 rfl) (by decide) (backOf (W := 0) (rm24 l Z a0 hw [] a1 (0 : Int32) kb z B h0 V_b (by decide) (own_lt (by have e0 : (0 : Int32).toInt = 0 := rfl; omega))) hZ (ww hw 112 rfl) (ww hw 59 rfl) (by decide) (by decide)) (g := (mkF m 12 #[vR a1, vI z, vI 0, .unset] [iI 0, iR a1])) rfl (by rw [hml]; rfl) (argsL := [(.ref a1), (.int (0 : Int32))]) (rest := []) (lenOf pd_3 rfl) rfl (wz rfl) (hb hby d23_12) (fun _ _ => ⟨rfl, e0, (by decide : 0 + 0 ≤ _), (by decide : 0 + 0 ≤ _)⟩)
  dsimp only [Pt.U, Pt.locs, Pt.cells, Pt.slots] at X3 l3 y3 z3 st3 hQ3
  subst l3 y3 z3
  obtain ⟨rfl, rfl, e3⟩ := hQ3
  try rw [List.append_nil] at X3
  obtain ⟨cn, hcn⟩ : ∃ z_ : Int32, z_ = (own_chr (B.getD (0 : Int32).toNatClampNeg 0)) := ⟨_, rfl⟩
  have hc : cn = own_chr (B.getD 0 0) := by rw [hcn]; rfl
  have pre6 : PP p e below (T3.setTop (mkF m 19 #[vR a1, vI z, vI 0, vI cn] [iI 32, iI cn])) (s₁.setTop (entryFrame m #[(.ref a1)] 4)) := by
    intro t kt
    refine pre0 t ?_
    refine XS.aloadN X0.here hx rfl (hb hby d23_0) rfl rfl ?_
    refine X0.arraylength hx (by rw [e0]; exact Ar1.1) (State.isArrayOf_alike hZ.alike Ar1.2.1) (g := (mkF m 1 #[vR a1, .unset, .unset, .unset] [iR a1])) rfl rfl (hb hby d23_1) _ ?_
    rw [len_of S1 M1]
    refine XS.istoreN X0.here hx rfl (hb hby d23_2) rfl (l' := #[vR a1, vI z, .unset, .unset]) rfl ?_
    refine XS.iconst X0.here hx rfl (hb hby d23_3) ?_
    refine XS.istoreN X0.here hx rfl (hb hby d23_4) rfl (l' := #[vR a1, vI z, vI 0, .unset]) rfl ?_
    refine XS.iloadN X0.here hx rfl (hb hby d23_5) rfl ?_
    refine XS.iloadN X0.here hx rfl (hb hby d23_6) rfl ?_
    refine XS.icmpNo X0.here hx rfl (hb hby d23_7) rfl (tlt hh2).2.1 ?_
    refine XS.aloadN X0.here hx rfl (hb hby d23_10) rfl rfl ?_
    refine XS.iloadN X0.here hx rfl (hb hby d23_11) rfl ?_
    show SA s₁ m 12 #[vR a1, vI z, vI 0, .unset] [iI 0, iR a1]
    refine st3 _ ?_
    rw [← hcn]
    refine XS.istoreN X3.here hx rfl (hb hby d23_15) rfl (l' := #[vR a1, vI z, vI 0, vI cn]) rfl ?_
    refine XS.iloadN X3.here hx rfl (hb hby d23_16) rfl ?_
    refine XS.bipush X3.here hx rfl (hb hby d23_17) ?_
    exact kt
  by_cases hc5 : cn = (32 : Int32)
  · have pre7 : PP p e below (T3.setTop (mkF m 41 #[vR a1, vI z, vI 0, vI cn] [])) (s₁.setTop (entryFrame m #[(.ref a1)] 4)) := by
      intro t kt
      refine pre6 t ?_
      refine XS.icmpYes X3.here hx rfl (pc0 := 19) (pc' := 41) rfl (hb hby d23_19) rfl (teq hc5).1 (by decide) (by decide) ?_
      exact kt
    obtain ⟨s₂, o₂, hs₂, hr₂⟩ := own_lwloop (B.length - 1) (i := 0) (iv := (0 : Int32)) (c3 := cn) X3 hx hZ hw hby hml hown Bd.returns (by first | assumption | exact BodyLoose.notSynchronized (by assumption) | exact Body.notSynchronized (by assumption)) e3 K0 N0 Z0 O0 V_b hB hM hl6 hrr S_T TB hTb S_I E_I rfl (by simp only [Int32.toNatClampNeg] at hB; omega) (by simp) (own_w1 hc hc5)
    exact ⟨s₂, o₂, pre7 _ hs₂, hr₂⟩
  · have pre9 : PP p e below (T3.setTop (mkF m 25 #[vR a1, vI z, vI 0, vI cn] [iI 9, iI cn])) (s₁.setTop (entryFrame m #[(.ref a1)] 4)) := by
      intro t kt
      refine pre6 t ?_
      refine XS.icmpNo X3.here hx rfl (hb hby d23_19) rfl (feq hc5).1 ?_
      refine XS.iloadN X3.here hx rfl (hb hby d23_22) rfl ?_
      refine XS.bipush X3.here hx rfl (hb hby d23_23) ?_
      exact kt
    by_cases hc8 : cn = (9 : Int32)
    · have pre10 : PP p e below (T3.setTop (mkF m 41 #[vR a1, vI z, vI 0, vI cn] [])) (s₁.setTop (entryFrame m #[(.ref a1)] 4)) := by
        intro t kt
        refine pre9 t ?_
        refine XS.icmpYes X3.here hx rfl (pc0 := 25) (pc' := 41) rfl (hb hby d23_25) rfl (teq hc8).1 (by decide) (by decide) ?_
        exact kt
      obtain ⟨s₂, o₂, hs₂, hr₂⟩ := own_lwloop (B.length - 1) (i := 0) (iv := (0 : Int32)) (c3 := cn) X3 hx hZ hw hby hml hown Bd.returns (by first | assumption | exact BodyLoose.notSynchronized (by assumption) | exact Body.notSynchronized (by assumption)) e3 K0 N0 Z0 O0 V_b hB hM hl6 hrr S_T TB hTb S_I E_I rfl (by simp only [Int32.toNatClampNeg] at hB; omega) (by simp) (own_w2 hc hc8)
      exact ⟨s₂, o₂, pre10 _ hs₂, hr₂⟩
    · obtain ⟨T11, X11, e11, st11⟩ := getS2 X3 hx hZ hown (host := "") (Or.inl (ww hw 113 rfl)) Via.refl e3 (S_I.ext O0.2) (g := (mkF m 28 #[vR a1, vI z, vI 0, vI cn] [])) rfl (hb hby d23_28)
      obtain ⟨cq12, kq12, q12a, q12b, q12c⟩ := isOf hZ e11 (E_I.ext O0.2)
      obtain ⟨_, _, ⟨T12, L12, k12, n12⟩, -, X12, ⟨Lc12, hQ12, l12, y12, z12⟩, st12⟩ := X11.virtualBack hx (y := mn_30) (z := mn_30) hown (mw hZ hw 115 rfl) (mw hZ hw 116 rfl) (notFace_of_selects (args := #[]) (mw hZ hw 118 rfl)) (mw hZ hw 118 rfl) (mw hZ hw 117 rfl) (by decide) (backOf (W := 0) (rm25 l Z a0 hw [] s_I cn s_T s_I cl h0 n0 O0 (E_I.ext O0.2) (own_nneg (by rw [hc]; exact (own_chr8 _).1)) (own_lt (by rw [hc]; exact Int.lt_of_le_of_lt (own_chr8 _).2 (by decide))) S_T TB hTb S_I E_I) hZ (ww hw 119 rfl) (ww hw 114 rfl) (by decide) (by decide)) q12a q12c (g := (mkF m 32 #[vR a1, vI z, vI 0, vI cn] [iI cn, iR s_I])) rfl (by rw [hml]; rfl) (Steps.refl _) (argsL := [(.int cn)]) (rest := []) (lenOf pd_22 rfl) rfl (wz rfl) (hb hby d23_32) (fun _ _ => ⟨rfl, e11, (by decide : 0 + 0 ≤ _), (by decide : 0 + 0 ≤ _)⟩)
      dsimp only [Pt.U, Pt.locs, Pt.cells, Pt.slots] at X12 l12 y12 z12 st12 hQ12
      subst l12 y12 z12
      obtain ⟨rfl, rfl, e12⟩ := hQ12
      try rw [List.append_nil] at X12
      have pre14 : PP p e below (T12.setTop (mkF m 35 #[vR a1, vI z, vI 0, vI cn] [iI (own_isw cn)])) (s₁.setTop (entryFrame m #[(.ref a1)] 4)) := by
        intro t kt
        refine pre9 t ?_
        refine XS.icmpNo X3.here hx rfl (hb hby d23_25) rfl (feq hc8).1 ?_
        refine st11 _ ?_
        refine XS.iloadN X11.here hx rfl (hb hby d23_31) rfl ?_
        refine st12.trans ?_
        exact kt
      by_cases hc13 : (own_isw cn) = (0 : Int32)
      · obtain ⟨fs, hr, hrun, hended, hW, hsame⟩ := X12.leave (v := some (.int (0 : Int32))) (fun h => by rw [Bd.returns] at h; cases h)
        have hql : own_lw B = 0 := by have q := own_lwN (B := B) (i := 0) (by simp only [Int32.toNatClampNeg] at hB; omega) (own_nw hc hc5 hc8 hc13); exact q
        refine ⟨_, _, pre14 _ ?_, hrun, hended, _, _, rfl, ?_, ⟨_, rfl⟩, hW, hsame.mono (by decide) (by decide)⟩
        · refine XS.ifNo X12.here hx rfl (hb hby d23_35) rfl ((if0 _ _).trans (teq hc13).2) ?_
          refine XS.goto X12.here hx rfl (pc0 := 38) (pc' := 47) rfl (hb hby d23_38) (by decide) (by decide) ?_
          refine XS.iloadN X12.here hx rfl (hb hby d23_47) rfl ?_
          show Steps _ _ _ (T12.setTop (mkF m 48 #[vR a1, vI z, vI 0, vI cn] [iI 0])) _
          exact retI X12 hx Bd.returns (hb hby d23_48) hr
        · show Q23 Z a1 kb z B r s_T s_I cl h0 n0 _ T12.heap _
          rw [e12]
          exact ⟨own_ve (n := 0) rfl (by rw [hrr, hql]), N0, K0⟩
      · have pre15 : PP p e below (T12.setTop (mkF m 41 #[vR a1, vI z, vI 0, vI cn] [])) (s₁.setTop (entryFrame m #[(.ref a1)] 4)) := by
          intro t kt
          refine pre14 t ?_
          refine XS.ifYes X12.here hx rfl (pc0 := 35) (pc' := 41) rfl (hb hby d23_35) rfl ((if0 _ _).trans (feq hc13).2) (by decide) (by decide) ?_
          exact kt
        obtain ⟨s₂, o₂, hs₂, hr₂⟩ := own_lwloop (B.length - 1) (i := 0) (iv := (0 : Int32)) (c3 := cn) X12 hx hZ hw hby hml hown Bd.returns (by first | assumption | exact BodyLoose.notSynchronized (by assumption) | exact Body.notSynchronized (by assumption)) e12 K0 N0 Z0 O0 V_b hB hM hl6 hrr S_T TB hTb S_I E_I rfl (by simp only [Int32.toNatClampNeg] at hB; omega) (by simp) (own_w3 hc hc13)
        exact ⟨s₂, o₂, pre15 _ hs₂, hr₂⟩
theorem d27_5 : dk c27 5 (.iconst 0) 1 := by decide +kernel
theorem d27_6 : dk c27 6 (.iload_n 2) 1 := by decide +kernel
theorem d27_7 : dk c27 7 (.if_icmp .ge 42) 3 := by decide +kernel
theorem d27_10 : dk c27 10 (.aload_n 0) 1 := by decide +kernel
theorem d27_11 : dk c27 11 (.iload_n 2) 1 := by decide +kernel
theorem d27_12 : dk c27 12 (.iconst 1) 1 := by decide +kernel
theorem d27_13 : dk c27 13 .isub 1 := by decide +kernel
theorem d27_14 : dk c27 14 (.invokestatic 50) 3 := by decide +kernel
theorem d27_17 : dk c27 17 (.istore_n 3) 1 := by decide +kernel
theorem d27_18 : dk c27 18 (.iload_n 3) 1 := by decide +kernel
theorem d27_19 : dk c27 19 (.bipush 32) 2 := by decide +kernel
theorem d27_21 : dk c27 21 (.if_icmp .eq 22) 3 := by decide +kernel
theorem d27_24 : dk c27 24 (.iload_n 3) 1 := by decide +kernel
theorem d27_25 : dk c27 25 (.bipush 9) 2 := by decide +kernel
theorem d27_27 : dk c27 27 (.if_icmp .eq 16) 3 := by decide +kernel
theorem d27_30 : dk c27 30 (.getstatic 66) 3 := by decide +kernel
theorem d27_33 : dk c27 33 (.iload_n 3) 1 := by decide +kernel
theorem d27_34 : dk c27 34 (.invokevirtual 211) 3 := by decide +kernel
theorem d27_37 : dk c27 37 (.ifCond .ne 6) 3 := by decide +kernel
theorem d27_40 : dk c27 40 (.goto 9) 3 := by decide +kernel
theorem d27_43 : dk c27 43 (.iinc 2 (-1)) 3 := by decide +kernel
theorem d27_46 : dk c27 46 (.goto (-41)) 3 := by decide +kernel
theorem d27_49 : dk c27 49 (.iload_n 2) 1 := by decide +kernel
theorem d27_50 : dk c27 50 .ireturn 1 := by decide +kernel
theorem own_hwloop (i : Nat) : ∀ {p : Program} {l : Launch} {e : Env} {s : State} {m : MethodId} {below : List Frame} {meth : Method} {c : Code} {T0 : State} {locs : List Loc} {Z : State} {a0 : Array Value} {h0 hT : Heap} {n0 : Nat} {a1 : Addr} {kb : ClassId} {z : Int32} {B : List Int32} {r : Int32} {s_T s_I : Addr} {cl : Cell} {iv c3 : Int32} (X0 : Stand p l e (Rm 2 0 0 29) s m #[(.ref a1)] below meth c T0 locs 0 0) (hx : p.tables.exec = Jvm.exec) (hZ : Z.Warmed39 s.vm) (hw : HW a0 Z) (hby : c.code = jdk_43_method_38_code) (hml : c.maxLocals = 4) (hown : s.vm.findClass "java/lang/StringLatin1" = some m.cls) (hret : meth.sig.returnType = some .int) (hlocks : meth.locks = false) (e0 : T0.heap = hT) (Kt0 : Keep h0 hT []) (N0 : Fr n0 locs) (Z0 : n0 ≤ h0.size) (O0 : Old Z n0 h0) (V_b : AB Z hT a1 kb z B) (hB : z.toNatClampNeg = B.length) (hM : 1 ≤ z.toInt ∧ z.toInt ≤ 6) (hl6 : B.length ≤ 6) (hrr : r.toInt = (own_hw B B.length : Int)) (S_T : ST Z s_T) (TB : Tab Z Z.heap s_T cl .int (256 : Int32)) (hTb : HT cl) (S_I : SI Z s_I) (E_I : Exa Z Z.heap s_I "java/lang/CharacterDataLatin1") (hi : iv.toInt = ((i + 1 : Nat) : Int)) (hil : i + 1 ≤ B.length) (hq : own_hw B B.length = own_hw B (i + 1)) (hws : own_wsb (B.getD i 0)), ∃ s₂ o, Steps p.tables e below (T0.setTop (mkF m 43 #[vR a1, vI z, vI iv, vI c3] [])) s₂ ∧ s₂.status = .running ∧ Ended s₂ below o ∧ ∃ v L, o = .returned v ∧ own_QL r h0 n0 v s₂.heap L ∧ FrameEnd s o s₂ L (Rm 2 0 0 29).cells (Rm 2 0 0 29).slots := by
  induction i with
  | zero =>
    intro p l e s m below meth c T0 locs Z a0 h0 hT n0 a1 kb z B r s_T s_I cl iv c3 X0 hx hZ hw hby hml hown hret hlocks e0 Kt0 N0 Z0 O0 V_b hB hM hl6 hrr S_T TB hTb S_I E_I hi hil hq hws
    have hh1 : ¬ ((0 : Int32) < (iv + (-1 : Int32))) := (own_nlt (by rw [own_dec1 (n := 0) hi (by omega)]; decide))
    obtain ⟨fs, hr, hrun, hended, hW, hsame⟩ := X0.leave (hlocks := hlocks) (v := some (.int (iv + (-1 : Int32)))) (fun h => by rw [hret] at h; cases h)
    have hql : own_hw B B.length = 0 := by rw [hq, own_hwW hws, own_hw]
    refine ⟨_, _, ?_, hrun, hended, _, _, rfl, ?_, ⟨_, rfl⟩, hW, hsame.mono (by decide) (by decide)⟩
    · refine XS.iinc X0.here hx rfl (hb hby d27_43) rfl (l' := #[vR a1, vI z, vI (iv + (-1 : Int32)), vI c3]) rfl ?_
      refine XS.goto X0.here hx rfl (pc0 := 46) (pc' := 5) rfl (hb hby d27_46) (by decide) (by decide) ?_
      refine XS.iconst X0.here hx rfl (hb hby d27_5) ?_
      refine XS.iloadN X0.here hx rfl (hb hby d27_6) rfl ?_
      refine XS.icmpYes X0.here hx rfl (pc0 := 7) (pc' := 49) rfl (hb hby d27_7) rfl (flt hh1).2.1 (by decide) (by decide) ?_
      refine XS.iloadN X0.here hx rfl (hb hby d27_49) rfl ?_
      show Steps _ _ _ (T0.setTop (mkF m 50 #[vR a1, vI z, vI (iv + (-1 : Int32)), vI c3] [iI (iv + (-1 : Int32))])) _
      exact retI X0 hx hret (hb hby d27_50) hr
    · show own_QL r h0 n0 _ T0.heap _
      rw [e0]
      exact ⟨own_ve (own_dec1 (n := 0) hi (by omega)) (by rw [hrr, hql]), N0, Kt0⟩
  | succ i ih =>
    intro p l e s m below meth c T0 locs Z a0 h0 hT n0 a1 kb z B r s_T s_I cl iv c3 X0 hx hZ hw hby hml hown hret hlocks e0 Kt0 N0 Z0 O0 V_b hB hM hl6 hrr S_T TB hTb S_I E_I hi hil hq hws
    have hh1 : (0 : Int32) < (iv + (-1 : Int32)) := (own_lt (by rw [own_dec1 (n := i + 1) hi (by omega)]; have e0 : (0 : Int32).toInt = 0 := rfl; omega))
    obtain ⟨_, _, ⟨T2, L2, k2, n2⟩, -, X2, ⟨Lc2, hQ2, l2, y2, z2⟩, st2⟩ := Jvm.LawKit.callS X0 hx (y := mn_28) hown (mw hZ hw 110 rfl) (mw hZ hw 111 rfl) (mw hZ hw 59 rfl) (mw hZ hw 112 rfl) (by decide) (backOf (W := 0) (rm24 l Z a0 hw [] a1 ((iv + (-1 : Int32)) - (1 : Int32)) kb z B hT V_b (own_nneg (by rw [own_dec2 (n := i) (own_dec1 (n := i + 1) hi (by omega)) (by omega)]; omega)) (own_lt (by rw [own_dec2 (n := i) (own_dec1 (n := i + 1) hi (by omega)) (by omega)]; simp only [Int32.toNatClampNeg] at hB; omega))) hZ (ww hw 112 rfl) (ww hw 59 rfl) (by decide) (by decide)) (g := (mkF m 14 #[vR a1, vI z, vI (iv + (-1 : Int32)), vI c3] [iI ((iv + (-1 : Int32)) - (1 : Int32)), iR a1])) rfl (by rw [hml]; rfl) (argsL := [(.ref a1), (.int ((iv + (-1 : Int32)) - (1 : Int32)))]) (rest := []) (lenOf pd_3 rfl) rfl (wz rfl) (hb hby d27_14) (fun _ _ => ⟨rfl, e0, (by decide : 0 + 0 ≤ _), (by decide : 0 + 0 ≤ _)⟩)
    dsimp only [Pt.U, Pt.locs, Pt.cells, Pt.slots] at X2 l2 y2 z2 st2 hQ2
    subst l2 y2 z2
    obtain ⟨rfl, rfl, e2⟩ := hQ2
    try rw [List.append_nil] at X2
    obtain ⟨cn, hcn⟩ : ∃ z_ : Int32, z_ = (own_chr (B.getD ((iv + (-1 : Int32)) - (1 : Int32)).toNatClampNeg 0)) := ⟨_, rfl⟩
    have hc : cn = own_chr (B.getD i 0) := by rw [hcn, own_tn (own_dec2 (n := i) (own_dec1 (n := i + 1) hi (by omega)) (by omega))]
    have pre5 : PP p e below (T2.setTop (mkF m 21 #[vR a1, vI z, vI (iv + (-1 : Int32)), vI cn] [iI 32, iI cn])) (T0.setTop (mkF m 43 #[vR a1, vI z, vI iv, vI c3] [])) := by
      intro t kt
      refine XS.iinc X0.here hx rfl (hb hby d27_43) rfl (l' := #[vR a1, vI z, vI (iv + (-1 : Int32)), vI c3]) rfl ?_
      refine XS.goto X0.here hx rfl (pc0 := 46) (pc' := 5) rfl (hb hby d27_46) (by decide) (by decide) ?_
      refine XS.iconst X0.here hx rfl (hb hby d27_5) ?_
      refine XS.iloadN X0.here hx rfl (hb hby d27_6) rfl ?_
      refine XS.icmpNo X0.here hx rfl (hb hby d27_7) rfl (tlt hh1).2.1 ?_
      refine XS.aloadN X0.here hx rfl (hb hby d27_10) rfl rfl ?_
      show SA T0 m 11 #[vR a1, vI z, vI (iv + (-1 : Int32)), vI c3] [iR a1]
      refine XS.iloadN X0.here hx rfl (hb hby d27_11) rfl ?_
      refine XS.iconst X0.here hx rfl (hb hby d27_12) ?_
      refine XS.isub X0.here hx rfl (hb hby d27_13) rfl ?_
      refine st2 _ ?_
      rw [← hcn]
      refine XS.istoreN X2.here hx rfl (hb hby d27_17) rfl (l' := #[vR a1, vI z, vI (iv + (-1 : Int32)), vI cn]) rfl ?_
      refine XS.iloadN X2.here hx rfl (hb hby d27_18) rfl ?_
      refine XS.bipush X2.here hx rfl (hb hby d27_19) ?_
      exact kt
    by_cases hc4 : cn = (32 : Int32)
    · have pre6 : PP p e below (T2.setTop (mkF m 43 #[vR a1, vI z, vI (iv + (-1 : Int32)), vI cn] [])) (T0.setTop (mkF m 43 #[vR a1, vI z, vI iv, vI c3] [])) := by
        intro t kt
        refine pre5 t ?_
        refine XS.icmpYes X2.here hx rfl (pc0 := 21) (pc' := 43) rfl (hb hby d27_21) rfl (teq hc4).1 (by decide) (by decide) ?_
        exact kt
      obtain ⟨s₂, o₂, hs₂, hr₂⟩ := ih (iv := (iv + (-1 : Int32))) (c3 := cn) X2 hx hZ hw hby hml hown hret hlocks e2 Kt0 N0 Z0 O0 V_b hB hM hl6 hrr S_T TB hTb S_I E_I (own_dec1 (n := i + 1) hi (by omega)) (by omega) (by rw [hq, own_hwW hws]) (own_w1 hc hc4)
      exact ⟨s₂, o₂, pre6 _ hs₂, hr₂⟩
    · have pre8 : PP p e below (T2.setTop (mkF m 27 #[vR a1, vI z, vI (iv + (-1 : Int32)), vI cn] [iI 9, iI cn])) (T0.setTop (mkF m 43 #[vR a1, vI z, vI iv, vI c3] [])) := by
        intro t kt
        refine pre5 t ?_
        refine XS.icmpNo X2.here hx rfl (hb hby d27_21) rfl (feq hc4).1 ?_
        refine XS.iloadN X2.here hx rfl (hb hby d27_24) rfl ?_
        refine XS.bipush X2.here hx rfl (hb hby d27_25) ?_
        exact kt
      by_cases hc7 : cn = (9 : Int32)
      · have pre9 : PP p e below (T2.setTop (mkF m 43 #[vR a1, vI z, vI (iv + (-1 : Int32)), vI cn] [])) (T0.setTop (mkF m 43 #[vR a1, vI z, vI iv, vI c3] [])) := by
          intro t kt
          refine pre8 t ?_
          refine XS.icmpYes X2.here hx rfl (pc0 := 27) (pc' := 43) rfl (hb hby d27_27) rfl (teq hc7).1 (by decide) (by decide) ?_
          exact kt
        obtain ⟨s₂, o₂, hs₂, hr₂⟩ := ih (iv := (iv + (-1 : Int32))) (c3 := cn) X2 hx hZ hw hby hml hown hret hlocks e2 Kt0 N0 Z0 O0 V_b hB hM hl6 hrr S_T TB hTb S_I E_I (own_dec1 (n := i + 1) hi (by omega)) (by omega) (by rw [hq, own_hwW hws]) (own_w2 hc hc7)
        exact ⟨s₂, o₂, pre9 _ hs₂, hr₂⟩
      · have Oh10 := O0.keep Kt0 all0
        have fo11 := S_I.ext Oh10.2
        obtain ⟨T12, X12, e12, st12⟩ := getS2 X2 hx hZ hown (host := "") (Or.inl (ww hw 113 rfl)) Via.refl e2 fo11 (g := (mkF m 30 #[vR a1, vI z, vI (iv + (-1 : Int32)), vI cn] [])) rfl (hb hby d27_30)
        have fo14 := E_I.ext Oh10.2
        obtain ⟨cq13, kq13, q13a, q13b, q13c⟩ := isOf hZ e12 fo14
        obtain ⟨_, _, ⟨T13, L13, k13, n13⟩, -, X13, ⟨Lc13, hQ13, l13, y13, z13⟩, st13⟩ := X12.virtualBack hx (y := mn_30) (z := mn_30) hown (mw hZ hw 115 rfl) (mw hZ hw 116 rfl) (notFace_of_selects (args := #[]) (mw hZ hw 118 rfl)) (mw hZ hw 118 rfl) (mw hZ hw 117 rfl) (by decide) (backOf (W := 0) (rm25 l Z a0 hw [] s_I cn s_T s_I cl hT n0 Oh10 fo14 (own_nneg (by rw [hc]; exact (own_chr8 _).1)) (own_lt (by rw [hc]; exact Int.lt_of_le_of_lt (own_chr8 _).2 (by decide))) S_T TB hTb S_I E_I) hZ (ww hw 119 rfl) (ww hw 114 rfl) (by decide) (by decide)) q13a q13c (g := (mkF m 34 #[vR a1, vI z, vI (iv + (-1 : Int32)), vI cn] [iI cn, iR s_I])) rfl (by rw [hml]; rfl) (Steps.refl _) (argsL := [(.int cn)]) (rest := []) (lenOf pd_22 rfl) rfl (wz rfl) (hb hby d27_34) (fun _ _ => ⟨rfl, e12, (by decide : 0 + 0 ≤ _), (by decide : 0 + 0 ≤ _)⟩)
        dsimp only [Pt.U, Pt.locs, Pt.cells, Pt.slots] at X13 l13 y13 z13 st13 hQ13
        subst l13 y13 z13
        obtain ⟨rfl, rfl, e13⟩ := hQ13
        try rw [List.append_nil] at X13
        have pre16 : PP p e below (T13.setTop (mkF m 37 #[vR a1, vI z, vI (iv + (-1 : Int32)), vI cn] [iI (own_isw cn)])) (T0.setTop (mkF m 43 #[vR a1, vI z, vI iv, vI c3] [])) := by
          intro t kt
          refine pre8 t ?_
          refine XS.icmpNo X2.here hx rfl (hb hby d27_27) rfl (feq hc7).1 ?_
          refine st12 _ ?_
          refine XS.iloadN X12.here hx rfl (hb hby d27_33) rfl ?_
          refine st13.trans ?_
          exact kt
        by_cases hc15 : (own_isw cn) = (0 : Int32)
        · obtain ⟨fs, hr, hrun, hended, hW, hsame⟩ := X13.leave (hlocks := hlocks) (v := some (.int (iv + (-1 : Int32)))) (fun h => by rw [hret] at h; cases h)
          have hql : own_hw B B.length = i + 1 := by rw [hq, own_hwW hws, own_hwN (own_nw hc hc4 hc7 hc15)]
          refine ⟨_, _, pre16 _ ?_, hrun, hended, _, _, rfl, ?_, ⟨_, rfl⟩, hW, hsame.mono (by decide) (by decide)⟩
          · refine XS.ifNo X13.here hx rfl (hb hby d27_37) rfl ((if0 _ _).trans (teq hc15).2) ?_
            refine XS.goto X13.here hx rfl (pc0 := 40) (pc' := 49) rfl (hb hby d27_40) (by decide) (by decide) ?_
            refine XS.iloadN X13.here hx rfl (hb hby d27_49) rfl ?_
            show Steps _ _ _ (T13.setTop (mkF m 50 #[vR a1, vI z, vI (iv + (-1 : Int32)), vI cn] [iI (iv + (-1 : Int32))])) _
            exact retI X13 hx hret (hb hby d27_50) hr
          · show own_QL r h0 n0 _ T13.heap _
            rw [e13]
            exact ⟨own_ve (own_dec1 (n := i + 1) hi (by omega)) (by rw [hrr, hql]), N0, Kt0⟩
        · have pre17 : PP p e below (T13.setTop (mkF m 43 #[vR a1, vI z, vI (iv + (-1 : Int32)), vI cn] [])) (T0.setTop (mkF m 43 #[vR a1, vI z, vI iv, vI c3] [])) := by
            intro t kt
            refine pre16 t ?_
            refine XS.ifYes X13.here hx rfl (pc0 := 37) (pc' := 43) rfl (hb hby d27_37) rfl ((if0 _ _).trans (feq hc15).2) (by decide) (by decide) ?_
            exact kt
          obtain ⟨s₂, o₂, hs₂, hr₂⟩ := ih (iv := (iv + (-1 : Int32))) (c3 := cn) X13 hx hZ hw hby hml hown hret hlocks e13 Kt0 N0 Z0 O0 V_b hB hM hl6 hrr S_T TB hTb S_I E_I (own_dec1 (n := i + 1) hi (by omega)) (by omega) (by rw [hq, own_hwW hws]) (own_w3 hc hc15)
          exact ⟨s₂, o₂, pre17 _ hs₂, hr₂⟩
theorem d27_0 : dk c27 0 (.aload_n 0) 1 := by decide +kernel
theorem d27_1 : dk c27 1 .arraylength 1 := by decide +kernel
theorem d27_2 : dk c27 2 (.istore_n 1) 1 := by decide +kernel
theorem d27_3 : dk c27 3 (.iload_n 1) 1 := by decide +kernel
theorem d27_4 : dk c27 4 (.istore_n 2) 1 := by decide +kernel
theorem ef_27 (m : MethodId) (x0 : Addr) : entryFrame m #[(.ref x0)] 4 = mkF m 0 #[.val (.ref x0), .unset, .unset, .unset] [] := by first | (simp [entryFrame, mkF, argsToLocals, Value.category]; done) | rfl
def Q27 (Z : State) (a1 : Addr) (kb : ClassId) (z : Int32) (B : List Int32) (r : Int32) (s_T s_I : Addr) (cl : Cell) (h0 : Heap) (n0 : Nat) (v : Option Value) (h : Heap) (L : List Loc) : Prop := v = some (.int r) ∧ Fr n0 L ∧ Keep h0 h []
theorem rm27 (l : Launch) (Z : State) (a0 : Array Value) (hw : HW a0 Z) (ws : List Jvm.Cond) (a1 : Addr) (kb : ClassId) (z : Int32) (B : List Int32) (r : Int32) (s_T s_I : Addr) (cl : Cell) (h0 : Heap) (n0 : Nat) (Z0 : n0 ≤ h0.size) (O0 : Old Z n0 h0) (V_b : AB Z h0 a1 kb z B) (hB : z.toNatClampNeg = B.length) (hM : 1 ≤ z.toInt ∧ z.toInt ≤ 6) (hl6 : B.length ≤ 6) (hrr : r.toInt = (own_hw B B.length : Int)) (S_T : ST Z s_T) (TB : Tab Z Z.heap s_T cl .int (256 : Int32)) (hTb : HT cl) (S_I : SI Z s_I) (E_I : Exa Z Z.heap s_I "java/lang/CharacterDataLatin1") :
    MFn l mn_32 jdk_43_method_38_code 4 (some .int) ws (Rm 2 0 0 29) #[(.ref a1)] Z h0 (Q27 Z a1 kb z B r s_T s_I cl h0 n0) := by
  refine MetFree.of_bodySF (plainFor_of_name pn_2) hisR ?_
  intro p e s m args below meth c s₁ Bd hml0 hP hK
  obtain ⟨rfl, hZ, hh⟩ := hP
  have hx := Bd.exec
  have hby := Bd.bytes
  have hml : c.maxLocals = 4 := hml0
  have hown := findClass_of_methodNamed Bd.named
  have X0 : Stand p l e (Rm 2 0 0 29) s m _ below meth c _ [] 0 0 := Stand.of_body Bd
  have e0 : s₁.heap = h0 := by rw [← hh, Bd.state]; rfl
  have N0 := Fr.nil n0
  have K0 := Keep.refl h0 []
  have pre0 := cast0 (p := p) (e := e) (below := below) (T := s₁) (ef_27 m a1)
  obtain ⟨cl1, Ar1, q1, S1, M1, H1, G1⟩ := id V_b
  have hh2 : (0 : Int32) < z := (own_lt (by have e0 : (0 : Int32).toInt = 0 := rfl; omega))
  obtain ⟨_, _, ⟨T3, L3, k3, n3⟩, -, X3, ⟨Lc3, hQ3, l3, y3, z3⟩, st3⟩ := Jvm.LawKit.callS X0 hx (y := mn_28) hown (mw hZ hw 110 rfl) (mw hZ hw 111 rfl) (mw hZ hw 59 rfl) (mw hZ hw 112 rfl) (by decide) (backOf (W := 0) (rm24 l Z a0 hw [] a1 (z - (1 : Int32)) kb z B h0 V_b (own_nneg (by rw [own_dec2 (n := B.length - 1) (i := z) (by simp only [Int32.toNatClampNeg] at hB; omega) (by omega)]; omega)) (own_lt (by rw [own_dec2 (n := B.length - 1) (i := z) (by simp only [Int32.toNatClampNeg] at hB; omega) (by omega)]; simp only [Int32.toNatClampNeg] at hB; omega))) hZ (ww hw 112 rfl) (ww hw 59 rfl) (by decide) (by decide)) (g := (mkF m 14 #[vR a1, vI z, vI z, .unset] [iI (z - (1 : Int32)), iR a1])) rfl (by rw [hml]; rfl) (argsL := [(.ref a1), (.int (z - (1 : Int32)))]) (rest := []) (lenOf pd_3 rfl) rfl (wz rfl) (hb hby d27_14) (fun _ _ => ⟨rfl, e0, (by decide : 0 + 0 ≤ _), (by decide : 0 + 0 ≤ _)⟩)
  dsimp only [Pt.U, Pt.locs, Pt.cells, Pt.slots] at X3 l3 y3 z3 st3 hQ3
  subst l3 y3 z3
  obtain ⟨rfl, rfl, e3⟩ := hQ3
  try rw [List.append_nil] at X3
  obtain ⟨cn, hcn⟩ : ∃ z_ : Int32, z_ = (own_chr (B.getD (z - (1 : Int32)).toNatClampNeg 0)) := ⟨_, rfl⟩
  have hc : cn = own_chr (B.getD (B.length - 1) 0) := by rw [hcn, own_tn (own_dec2 (n := B.length - 1) (i := z) (by simp only [Int32.toNatClampNeg] at hB; omega) (by omega))]
  have pre6 : PP p e below (T3.setTop (mkF m 21 #[vR a1, vI z, vI z, vI cn] [iI 32, iI cn])) (s₁.setTop (entryFrame m #[(.ref a1)] 4)) := by
    intro t kt
    refine pre0 t ?_
    refine XS.aloadN X0.here hx rfl (hb hby d27_0) rfl rfl ?_
    refine X0.arraylength hx (by rw [e0]; exact Ar1.1) (State.isArrayOf_alike hZ.alike Ar1.2.1) (g := (mkF m 1 #[vR a1, .unset, .unset, .unset] [iR a1])) rfl rfl (hb hby d27_1) _ ?_
    rw [len_of S1 M1]
    refine XS.istoreN X0.here hx rfl (hb hby d27_2) rfl (l' := #[vR a1, vI z, .unset, .unset]) rfl ?_
    refine XS.iloadN X0.here hx rfl (hb hby d27_3) rfl ?_
    refine XS.istoreN X0.here hx rfl (hb hby d27_4) rfl (l' := #[vR a1, vI z, vI z, .unset]) rfl ?_
    refine XS.iconst X0.here hx rfl (hb hby d27_5) ?_
    refine XS.iloadN X0.here hx rfl (hb hby d27_6) rfl ?_
    refine XS.icmpNo X0.here hx rfl (hb hby d27_7) rfl (tlt hh2).2.1 ?_
    refine XS.aloadN X0.here hx rfl (hb hby d27_10) rfl rfl ?_
    refine XS.iloadN X0.here hx rfl (hb hby d27_11) rfl ?_
    show SA s₁ m 12 #[vR a1, vI z, vI z, .unset] [iI z, iR a1]
    refine XS.iconst X0.here hx rfl (hb hby d27_12) ?_
    refine XS.isub X0.here hx rfl (hb hby d27_13) rfl ?_
    refine st3 _ ?_
    rw [← hcn]
    refine XS.istoreN X3.here hx rfl (hb hby d27_17) rfl (l' := #[vR a1, vI z, vI z, vI cn]) rfl ?_
    refine XS.iloadN X3.here hx rfl (hb hby d27_18) rfl ?_
    refine XS.bipush X3.here hx rfl (hb hby d27_19) ?_
    exact kt
  by_cases hc5 : cn = (32 : Int32)
  · have pre7 : PP p e below (T3.setTop (mkF m 43 #[vR a1, vI z, vI z, vI cn] [])) (s₁.setTop (entryFrame m #[(.ref a1)] 4)) := by
      intro t kt
      refine pre6 t ?_
      refine XS.icmpYes X3.here hx rfl (pc0 := 21) (pc' := 43) rfl (hb hby d27_21) rfl (teq hc5).1 (by decide) (by decide) ?_
      exact kt
    obtain ⟨s₂, o₂, hs₂, hr₂⟩ := own_hwloop (B.length - 1) (iv := z) (c3 := cn) X3 hx hZ hw hby hml hown Bd.returns (by first | assumption | exact BodyLoose.notSynchronized (by assumption) | exact Body.notSynchronized (by assumption)) e3 K0 N0 Z0 O0 V_b hB hM hl6 hrr S_T TB hTb S_I E_I (by simp only [Int32.toNatClampNeg] at hB; omega) (by simp only [Int32.toNatClampNeg] at hB; omega) (by rw [show B.length - 1 + 1 = B.length by simp only [Int32.toNatClampNeg] at hB; omega]) (own_w1 hc hc5)
    exact ⟨s₂, o₂, pre7 _ hs₂, hr₂⟩
  · have pre9 : PP p e below (T3.setTop (mkF m 27 #[vR a1, vI z, vI z, vI cn] [iI 9, iI cn])) (s₁.setTop (entryFrame m #[(.ref a1)] 4)) := by
      intro t kt
      refine pre6 t ?_
      refine XS.icmpNo X3.here hx rfl (hb hby d27_21) rfl (feq hc5).1 ?_
      refine XS.iloadN X3.here hx rfl (hb hby d27_24) rfl ?_
      refine XS.bipush X3.here hx rfl (hb hby d27_25) ?_
      exact kt
    by_cases hc8 : cn = (9 : Int32)
    · have pre10 : PP p e below (T3.setTop (mkF m 43 #[vR a1, vI z, vI z, vI cn] [])) (s₁.setTop (entryFrame m #[(.ref a1)] 4)) := by
        intro t kt
        refine pre9 t ?_
        refine XS.icmpYes X3.here hx rfl (pc0 := 27) (pc' := 43) rfl (hb hby d27_27) rfl (teq hc8).1 (by decide) (by decide) ?_
        exact kt
      obtain ⟨s₂, o₂, hs₂, hr₂⟩ := own_hwloop (B.length - 1) (iv := z) (c3 := cn) X3 hx hZ hw hby hml hown Bd.returns (by first | assumption | exact BodyLoose.notSynchronized (by assumption) | exact Body.notSynchronized (by assumption)) e3 K0 N0 Z0 O0 V_b hB hM hl6 hrr S_T TB hTb S_I E_I (by simp only [Int32.toNatClampNeg] at hB; omega) (by simp only [Int32.toNatClampNeg] at hB; omega) (by rw [show B.length - 1 + 1 = B.length by simp only [Int32.toNatClampNeg] at hB; omega]) (own_w2 hc hc8)
      exact ⟨s₂, o₂, pre10 _ hs₂, hr₂⟩
    · obtain ⟨T11, X11, e11, st11⟩ := getS2 X3 hx hZ hown (host := "") (Or.inl (ww hw 113 rfl)) Via.refl e3 (S_I.ext O0.2) (g := (mkF m 30 #[vR a1, vI z, vI z, vI cn] [])) rfl (hb hby d27_30)
      obtain ⟨cq12, kq12, q12a, q12b, q12c⟩ := isOf hZ e11 (E_I.ext O0.2)
      obtain ⟨_, _, ⟨T12, L12, k12, n12⟩, -, X12, ⟨Lc12, hQ12, l12, y12, z12⟩, st12⟩ := X11.virtualBack hx (y := mn_30) (z := mn_30) hown (mw hZ hw 115 rfl) (mw hZ hw 116 rfl) (notFace_of_selects (args := #[]) (mw hZ hw 118 rfl)) (mw hZ hw 118 rfl) (mw hZ hw 117 rfl) (by decide) (backOf (W := 0) (rm25 l Z a0 hw [] s_I cn s_T s_I cl h0 n0 O0 (E_I.ext O0.2) (own_nneg (by rw [hc]; exact (own_chr8 _).1)) (own_lt (by rw [hc]; exact Int.lt_of_le_of_lt (own_chr8 _).2 (by decide))) S_T TB hTb S_I E_I) hZ (ww hw 119 rfl) (ww hw 114 rfl) (by decide) (by decide)) q12a q12c (g := (mkF m 34 #[vR a1, vI z, vI z, vI cn] [iI cn, iR s_I])) rfl (by rw [hml]; rfl) (Steps.refl _) (argsL := [(.int cn)]) (rest := []) (lenOf pd_22 rfl) rfl (wz rfl) (hb hby d27_34) (fun _ _ => ⟨rfl, e11, (by decide : 0 + 0 ≤ _), (by decide : 0 + 0 ≤ _)⟩)
      dsimp only [Pt.U, Pt.locs, Pt.cells, Pt.slots] at X12 l12 y12 z12 st12 hQ12
      subst l12 y12 z12
      obtain ⟨rfl, rfl, e12⟩ := hQ12
      try rw [List.append_nil] at X12
      have pre14 : PP p e below (T12.setTop (mkF m 37 #[vR a1, vI z, vI z, vI cn] [iI (own_isw cn)])) (s₁.setTop (entryFrame m #[(.ref a1)] 4)) := by
        intro t kt
        refine pre9 t ?_
        refine XS.icmpNo X3.here hx rfl (hb hby d27_27) rfl (feq hc8).1 ?_
        refine st11 _ ?_
        refine XS.iloadN X11.here hx rfl (hb hby d27_33) rfl ?_
        refine st12.trans ?_
        exact kt
      by_cases hc13 : (own_isw cn) = (0 : Int32)
      · obtain ⟨fs, hr, hrun, hended, hW, hsame⟩ := X12.leave (v := some (.int z)) (fun h => by rw [Bd.returns] at h; cases h)
        have hql : own_hw B B.length = B.length := by have q := own_hwN (own_nw hc hc5 hc8 hc13); rw [show B.length - 1 + 1 = B.length by simp only [Int32.toNatClampNeg] at hB; omega] at q; exact q
        refine ⟨_, _, pre14 _ ?_, hrun, hended, _, _, rfl, ?_, ⟨_, rfl⟩, hW, hsame.mono (by decide) (by decide)⟩
        · refine XS.ifNo X12.here hx rfl (hb hby d27_37) rfl ((if0 _ _).trans (teq hc13).2) ?_
          refine XS.goto X12.here hx rfl (pc0 := 40) (pc' := 49) rfl (hb hby d27_40) (by decide) (by decide) ?_
          refine XS.iloadN X12.here hx rfl (hb hby d27_49) rfl ?_
          show Steps _ _ _ (T12.setTop (mkF m 50 #[vR a1, vI z, vI z, vI cn] [iI z])) _
          exact retI X12 hx Bd.returns (hb hby d27_50) hr
        · show Q27 Z a1 kb z B r s_T s_I cl h0 n0 _ T12.heap _
          rw [e12]
          exact ⟨own_ve (n := B.length) (by simp only [Int32.toNatClampNeg] at hB; omega) (by rw [hrr, hql]), N0, K0⟩
      · have pre15 : PP p e below (T12.setTop (mkF m 43 #[vR a1, vI z, vI z, vI cn] [])) (s₁.setTop (entryFrame m #[(.ref a1)] 4)) := by
          intro t kt
          refine pre14 t ?_
          refine XS.ifYes X12.here hx rfl (pc0 := 37) (pc' := 43) rfl (hb hby d27_37) rfl ((if0 _ _).trans (feq hc13).2) (by decide) (by decide) ?_
          exact kt
        obtain ⟨s₂, o₂, hs₂, hr₂⟩ := own_hwloop (B.length - 1) (iv := z) (c3 := cn) X12 hx hZ hw hby hml hown Bd.returns (by first | assumption | exact BodyLoose.notSynchronized (by assumption) | exact Body.notSynchronized (by assumption)) e12 K0 N0 Z0 O0 V_b hB hM hl6 hrr S_T TB hTb S_I E_I (by simp only [Int32.toNatClampNeg] at hB; omega) (by simp only [Int32.toNatClampNeg] at hB; omega) (by rw [show B.length - 1 + 1 = B.length by simp only [Int32.toNatClampNeg] at hB; omega]) (own_w3 hc hc13)
        exact ⟨s₂, o₂, pre15 _ hs₂, hr₂⟩
theorem d22_0 : dk c22 0 (.aload_n 0) 1 := by decide +kernel
theorem d22_1 : dk c22 1 (.invokestatic 214) 3 := by decide +kernel
theorem d22_4 : dk c22 4 (.istore_n 1) 1 := by decide +kernel
theorem d22_5 : dk c22 5 (.iload_n 1) 1 := by decide +kernel
theorem d22_6 : dk c22 6 (.aload_n 0) 1 := by decide +kernel
theorem d22_7 : dk c22 7 .arraylength 1 := by decide +kernel
theorem d22_8 : dk c22 8 (.if_icmp .ne 6) 3 := by decide +kernel
theorem d22_11 : dk c22 11 (.ldc 151) 2 := by decide +kernel
theorem d22_13 : dk c22 13 .areturn 1 := by decide +kernel
theorem ef_22_e (m : MethodId) (x0 : Addr) : entryFrame m #[(.ref x0)] 4 = mkF m 0 #[.val (.ref x0), .unset, .unset, .unset] [] := by first | (simp [entryFrame, mkF, argsToLocals, Value.category]; done) | rfl
def Q22_e (Z : State) (a1 : Addr) (kb : ClassId) (z : Int32) (B : List Int32) (s_T s_I : Addr) (cl : Cell) (h0 : Heap) (n0 : Nat) (v : Option Value) (h : Heap) (L : List Loc) : Prop := ∃ (o d : Addr) (ko : ClassId), v = some (.ref o) ∧ Fr n0 L ∧ Keep h0 h [] ∧ ES Z h o ∧ FC Z h o ∧ FV Z h o d ∧ AB Z h d ko (0 : Int32) []
theorem rm22_e (l : Launch) (Z : State) (a0 : Array Value) (hw : HW a0 Z) (ws : List Jvm.Cond) (a1 : Addr) (kb : ClassId) (z : Int32) (B : List Int32) (s_T s_I : Addr) (cl : Cell) (h0 : Heap) (n0 : Nat) (Z0 : n0 ≤ h0.size) (O0 : Old Z n0 h0) (V_b : AB Z h0 a1 kb z B) (hB : z.toNatClampNeg = B.length) (hM : 1 ≤ z.toInt ∧ z.toInt ≤ 6) (hl6 : B.length ≤ 6) (hall : z.toInt = (own_lw B : Int)) (S_T : ST Z s_T) (TB : Tab Z Z.heap s_T cl .int (256 : Int32)) (hTb : HT cl) (S_I : SI Z s_I) (E_I : Exa Z Z.heap s_I "java/lang/CharacterDataLatin1") :
    MFh l mn_33 jdk_43_method_39_code 4 (some (.object "java/lang/String")) ws (Rm 3 2 4 44) #[(.ref a1)] Z h0 (Q22_e Z a1 kb z B s_T s_I cl h0 n0) := by
  refine MetFree.of_bodySF (plainFor_of_name pn_2) hisR ?_
  intro p e s m args below meth c s₁ Bd hml0 hP hK
  obtain ⟨rfl, hZ, hh, hC0⟩ := hP
  have hx := Bd.exec
  have hby := Bd.bytes
  have hml : c.maxLocals = 4 := hml0
  have hown := findClass_of_methodNamed Bd.named
  have X0 : Stand p l e (Rm 3 2 4 44) s m _ below meth c _ [] 0 0 := Stand.of_body Bd
  have e0 : s₁.heap = h0 := by rw [← hh, Bd.state]; rfl
  have R0 := CHr.refl hC0
  have N0 := Fr.nil n0
  have K0 := Keep.refl h0 []
  have pre0 := cast0 (p := p) (e := e) (below := below) (T := s₁) (ef_22_e m a1)
  obtain ⟨_, _, ⟨T1, L1, k1, n1⟩, -, X1, ⟨Lc1, hQ1, l1, y1, z1⟩, st1⟩ := Jvm.LawKit.callS X0 hx (y := mn_31) hown (mw hZ hw 107 rfl) (mw hZ hw 108 rfl) (mw hZ hw 59 rfl) (mw hZ hw 109 rfl) (by decide) (backOf (W := 0) (rm23 l Z a0 hw [] a1 kb z B z s_T s_I cl h0 n0 (Nat.le_trans Z0 K0.1) O0 V_b hB hM hl6 hall S_T TB hTb S_I E_I) hZ (ww hw 109 rfl) (ww hw 59 rfl) (by decide) (by decide)) (g := (mkF m 1 #[vR a1, .unset, .unset, .unset] [iR a1])) rfl (by rw [hml]; rfl) (argsL := [(.ref a1)]) (rest := []) (lenOf pd_23 rfl) rfl (wz rfl) (hb hby d22_1) (fun _ _ => ⟨rfl, e0, (by decide : 0 + 0 ≤ _), (by decide : 0 + 0 ≤ _)⟩)
  dsimp only [Pt.U, Pt.locs, Pt.cells, Pt.slots] at X1 l1 y1 z1 st1 hQ1
  subst l1 y1 z1
  obtain ⟨rfl, N1q, K1q⟩ := hQ1
  have N1 := Fr.app N0 N1q
  have K1 : Keep h0 T1.heap [] := Keep.trans K0 K1q all0
  have fk2 := (V_b.keep K1q nin0)
  obtain ⟨cl3, Ar3, q3, S3, M3, H3, G3⟩ := id fk2
  have R4 := R0.trans (CHr.keep K1q sf0 R0.1)
  have pre5 : PP p e below (T1.setTop (mkF m 11 #[vR a1, vI z, .unset, .unset] [])) (s₁.setTop (entryFrame m #[(.ref a1)] 4)) := by
    intro t kt
    refine pre0 t ?_
    refine XS.aloadN X0.here hx rfl (hb hby d22_0) rfl rfl ?_
    refine st1 _ ?_
    refine XS.istoreN X1.here hx rfl (hb hby d22_4) rfl (l' := #[vR a1, vI z, .unset, .unset]) rfl ?_
    refine XS.iloadN X1.here hx rfl (hb hby d22_5) rfl ?_
    refine XS.aloadN X1.here hx rfl (hb hby d22_6) rfl rfl ?_
    refine X1.arraylength hx Ar3.1 (State.isArrayOf_alike hZ.alike Ar3.2.1) (g := (mkF m 7 #[vR a1, vI z, .unset, .unset] [iR a1, iI z])) rfl rfl (hb hby d22_7) _ ?_
    rw [len_of S3 M3]
    refine XS.icmpNo X1.here hx rfl (hb hby d22_8) rfl (teq (rfl : z = z)).2 ?_
    exact kt
  obtain ⟨la6, T6, h6, kk6, lb6, kl6, X6, e6, E6, hS6, hk6, hZ, hown, EE6, FC6, FV6, VV6, -, -, C6, li6, ne6, st6⟩ := ldcCH (s := s) (vm0 := s.vm) X1 hx hZ hown (ww hw 191 rfl) (own_strAtoms hw) rfl ((State.WarmedH.refl s).since 0) (Nat.zero_le _) (own_EW hw) (List.mem_of_getElem? (i := 2) rfl) R4.1 (vs := own_bs []) (z := (0 : Int32)) own_ct2 (by decide) (by decide) (g := (mkF m 11 #[vR a1, vI z, .unset, .unset] [])) rfl (hb hby d22_11) (n := 0) (by decide) (by decide) (by decide) (by decide)
  have K6 := K1.ext E6
  have R6 := R4.trans C6
  have hfin := R6.trans (CHv.at (s := s) (vm0 := T6.vm) X6 hZ (own_EW hw) R6.1)
  obtain ⟨fs, hr, hrun, hended, hEnd⟩ := X6.leaveW (s := s) hS6 (by rw [e6]; exact hk6) (v := some (.ref la6)) (fun h => by rw [Bd.returns] at h; cases h)
  refine ⟨_, _, pre5 _ ?_, hrun, hended, _, _, rfl, ?_, (by rw [hh]; show CHr Z consts_1 s.vm h0 T6.vm T6.heap; rw [e6]; exact hfin), ⟨hEnd.1, hEnd.2.1, hEnd.2.2.1, hEnd.2.2.2.mono (by decide) (by decide)⟩⟩
  · refine st6 _ ?_
    show Steps _ _ _ (T6.setTop (mkF m 13 #[vR a1, vI z, .unset, .unset] [iR la6])) _
    jvm_step X6.here [X6.here.top, hx, (hb hby d22_13), X6.method', Bd.returns, Value.isRef, FieldType.isReference]
    first | (intro acts; rw [hr _ acts rfl rfl rfl]) | rw [hr _ _ rfl rfl rfl]
    exact Steps.refl _
  · show Q22_e Z a1 kb z B s_T s_I cl h0 n0 _ T6.heap _
    rw [e6]
    exact ⟨_, _, _, rfl, N1, K6, EE6, FC6, FV6, VV6⟩
theorem d20_0 : dk c20 0 (.aload_n 0) 1 := by decide +kernel
theorem d20_1 : dk c20 1 (.invokevirtual 492) 3 := by decide +kernel
theorem d20_4 : dk c20 4 (.ifCond .eq 13) 3 := by decide +kernel
theorem d20_7 : dk c20 7 (.aload_n 0) 1 := by decide +kernel
theorem d20_8 : dk c20 8 (.getfield 9) 3 := by decide +kernel
theorem d20_11 : dk c20 11 (.invokestatic 864) 3 := by decide +kernel
theorem d20_14 : dk c20 14 (.goto 10) 3 := by decide +kernel
theorem d20_24 : dk c20 24 (.astore_n 1) 1 := by decide +kernel
theorem d20_25 : dk c20 25 (.aload_n 1) 1 := by decide +kernel
theorem d20_26 : dk c20 26 (.ifnonnull 7) 3 := by decide +kernel
theorem d20_33 : dk c20 33 (.aload_n 1) 1 := by decide +kernel
theorem d20_34 : dk c20 34 .areturn 1 := by decide +kernel
theorem ef_20_e (m : MethodId) (x0 : Addr) : entryFrame m #[(.ref x0)] 2 = mkF m 0 #[.val (.ref x0), .unset] [] := by first | (simp [entryFrame, mkF, argsToLocals, Value.category]; done) | rfl
def Q20_e (Z : State) (a1 : Addr) (d : Addr) (kd : ClassId) (z : Int32) (B : List Int32) (cs : Int32) (s_T s_I : Addr) (cl : Cell) (h0 : Heap) (n0 : Nat) (v : Option Value) (h : Heap) (L : List Loc) : Prop := ∃ (o d : Addr) (ko : ClassId), v = some (.ref o) ∧ Fr n0 L ∧ Keep h0 h [] ∧ ES Z h o ∧ FC Z h o ∧ FV Z h o d ∧ AB Z h d ko (0 : Int32) []
theorem rm20_e (l : Launch) (Z : State) (a0 : Array Value) (hw : HW a0 Z) (ws : List Jvm.Cond) (a1 : Addr) (d : Addr) (kd : ClassId) (z : Int32) (B : List Int32) (cs : Int32) (s_T s_I : Addr) (cl : Cell) (h0 : Heap) (n0 : Nat) (Z0 : n0 ≤ h0.size) (O0 : Old Z n0 h0) (E_a1 : ES Z h0 a1) (Fc_a1 : FC Z h0 a1) (Fv_a1 : FV Z h0 a1 d) (V_d : AB Z h0 d kd z B) (hz : ¬ z < 0) (hB : z.toNatClampNeg = B.length) (hM : 1 ≤ z.toInt ∧ z.toInt ≤ 6) (hl6 : B.length ≤ 6) (hall : z.toInt = (own_lw B : Int)) (S_CS : SC Z cs) (h_cs : ¬ cs = (0 : Int32)) (S_T : ST Z s_T) (TB : Tab Z Z.heap s_T cl .int (256 : Int32)) (hTb : HT cl) (S_I : SI Z s_I) (E_I : Exa Z Z.heap s_I "java/lang/CharacterDataLatin1") :
    MFh l mn_34 jdk_42_method_114_code 2 (some (.object "java/lang/String")) ws (Rm 4 2 4 59) #[(.ref a1)] Z h0 (Q20_e Z a1 d kd z B cs s_T s_I cl h0 n0) := by
  refine MetFree.of_bodySF (plainFor_of_name pn_0) hisR ?_
  intro p e s m args below meth c s₁ Bd hml0 hP hK
  obtain ⟨rfl, hZ, hh, hC0⟩ := hP
  have hx := Bd.exec
  have hby := Bd.bytes
  have hml : c.maxLocals = 2 := hml0
  have hown := findClass_of_methodNamed Bd.named
  have X0 : Stand p l e (Rm 4 2 4 59) s m _ below meth c _ [] 0 0 := Stand.of_body Bd
  have e0 : s₁.heap = h0 := by rw [← hh, Bd.state]; rfl
  have R0 := CHr.refl hC0
  have N0 := Fr.nil n0
  have K0 := Keep.refl h0 []
  have pre0 := cast0 (p := p) (e := e) (below := below) (T := s₁) (ef_20_e m a1)
  obtain ⟨cq1, kq1, q1a, q1b, q1c⟩ := isOf hZ e0 E_a1
  obtain ⟨_, _, ⟨T1, L1, k1, n1⟩, -, X1, ⟨Lc1, hQ1, l1, y1, z1⟩, st1⟩ := X0.virtualBack hx (y := mn_0) (z := mn_0) hown (mw hZ hw 99 rfl) (mw hZ hw 100 rfl) (notFace_of_selects (args := #[]) (mw hZ hw 102 rfl)) (mw hZ hw 102 rfl) (mw hZ hw 101 rfl) (by decide) (backOf (W := 0) (rm21 l Z a0 hw [] a1 cs h0 n0 O0 Fc_a1 S_CS h_cs) hZ (ww hw 103 rfl) (ww hw 7 rfl) (by decide) (by decide)) q1a q1c (g := (mkF m 1 #[vR a1, .unset] [iR a1])) rfl (by rw [hml]; rfl) (Steps.refl _) (argsL := []) (rest := []) (lenOf pd_2 rfl) rfl (wz rfl) (hb hby d20_1) (fun _ _ => ⟨rfl, e0, (by decide : 0 + 0 ≤ _), (by decide : 0 + 0 ≤ _)⟩)
  dsimp only [Pt.U, Pt.locs, Pt.cells, Pt.slots] at X1 l1 y1 z1 st1 hQ1
  subst l1 y1 z1
  obtain ⟨rfl, rfl, e1⟩ := hQ1
  try rw [List.append_nil] at X1
  obtain ⟨T2, X2, e2, st2⟩ := gF X1 hx hZ hown (ww hw 32 rfl) e1 Fv_a1 (g := (mkF m 8 #[vR a1, .unset] [iR a1])) rfl rfl (hb hby d20_8)
  have pre4 : PP p e below (T2.setTop (mkF m 11 #[vR a1, .unset] [iR d])) (s₁.setTop (entryFrame m #[(.ref a1)] 2)) := by
    intro t kt
    refine pre0 t ?_
    refine XS.aloadN X0.here hx rfl (hb hby d20_0) rfl rfl ?_
    refine st1.trans ?_
    refine XS.ifNo X1.here hx rfl (hb hby d20_4) rfl ((if0 _ _).trans (feq (by decide : ¬ ((1 : Int32) = (0 : Int32)))).1) ?_
    refine XS.aloadN X1.here hx rfl (hb hby d20_7) rfl rfl ?_
    refine st2 _ ?_
    exact kt
  obtain ⟨_, _, ⟨T3, L3, k3, n3⟩, -, X3, hS3q, gr3, ⟨Lc3, hQ3, l3, y3, z3, C3⟩, st3⟩ := callSS (s := s.setVm s.vm) X2 hx (y := mn_33) hown (mw hZ hw 104 rfl) (mw hZ hw 105 rfl) (mw hZ hw 59 rfl) (mw hZ hw 106 rfl) (by decide) (backOfSH (s := s) (vm0 := s.vm) (W := 0) (rm22_e l Z a0 hw [] d kd z B  s_T s_I cl h0 n0 (Nat.le_trans Z0 K0.1) O0 V_d hB hM hl6 hall S_T TB hTb S_I E_I) hZ (ww hw 106 rfl) (ww hw 59 rfl) (by decide) (by decide) (own_EW hw) R0.1) (g := (mkF m 11 #[vR a1, .unset] [iR d])) rfl (by rw [hml]; rfl) (argsL := [(.ref d)]) (rest := []) (lenOf pd_24 rfl) rfl (wz rfl) (hb hby d20_11) (fun _ _ => ⟨rfl, e2, (by decide : 0 + 2 ≤ _), (by decide : 0 + 4 ≤ _)⟩)
  dsimp only [Pt.U, Pt.locs, Pt.cells, Pt.slots] at X3 hS3q gr3 l3 y3 z3 C3 st3 hQ3
  subst l3 y3 z3
  have hS3 := State.Since.trans ((State.WarmedH.refl s).since 0) hS3q (Nat.zero_le _)
  have hZ : Z.Warmed39 (s.setVm T3.vm).vm := State.Warmed39.trans (t := s.setVm s.vm) hZ hS3q.1
  have hown : (s.setVm T3.vm).vm.findClass "java/lang/String" = some m.cls := by rw [show (s.setVm T3.vm).vm = T3.vm from rfl, hS3q.1.alike.findClass]; exact hown
  have R3 := R0.trans C3
  obtain ⟨o3, d3, kd3, rfl, N3q, K3q, E3q, C3q, F3q, V3q⟩ := hQ3
  have N3 := Fr.app N0 N3q
  have K3 : Keep h0 T3.heap [] := Keep.trans K0 K3q all0
  have hfin := R3.trans (CHv.at (s := s) (vm0 := T3.vm) X3 hZ (own_EW hw) R3.1)
  obtain ⟨fs, hr, hrun, hended, hEnd⟩ := X3.leaveW (s := s) hS3 (Nat.le_refl T3.heap.size) (v := some (.ref o3)) (fun h => by rw [Bd.returns] at h; cases h)
  refine ⟨_, _, pre4 _ ?_, hrun, hended, _, _, rfl, ?_, (by rw [hh]; show CHr Z consts_1 s.vm h0 T3.vm T3.heap; exact hfin), ⟨hEnd.1, hEnd.2.1, hEnd.2.2.1, hEnd.2.2.2.mono (by decide) (by decide)⟩⟩
  · refine st3.trans ?_
    refine XS.goto X3.here hx rfl (pc0 := 14) (pc' := 24) rfl (hb hby d20_14) (by decide) (by decide) ?_
    refine XS.astoreN X3.here hx rfl (hb hby d20_24) rfl rfl (l' := #[vR a1, vR o3]) rfl ?_
    refine XS.aloadN X3.here hx rfl (hb hby d20_25) rfl rfl ?_
    refine XS.ifnonnullYes X3.here hx rfl (pc0 := 26) (pc' := 33) rfl (hb hby d20_26) rfl (by decide) (by decide) ?_
    refine XS.aloadN X3.here hx rfl (hb hby d20_33) rfl rfl ?_
    show Steps _ _ _ (T3.setTop (mkF m 34 #[vR a1, vR o3] [iR o3])) _
    jvm_step X3.here [X3.here.top, hx, (hb hby d20_34), X3.method', Bd.returns, Value.isRef, FieldType.isReference]
    first | (intro acts; rw [hr _ acts rfl rfl rfl]) | rw [hr _ _ rfl rfl rfl]
    exact Steps.refl _
  · show Q20_e Z a1 d kd z B cs s_T s_I cl h0 n0 _ T3.heap _
    exact ⟨_, _, _, rfl, N3, K3, E3q, C3q, F3q, V3q⟩
theorem d22_14 : dk c22 14 (.aload_n 0) 1 := by decide +kernel
theorem d22_15 : dk c22 15 (.invokestatic 217) 3 := by decide +kernel
theorem d22_18 : dk c22 18 (.istore_n 2) 1 := by decide +kernel
theorem d22_19 : dk c22 19 (.iload_n 1) 1 := by decide +kernel
theorem d22_20 : dk c22 20 (.ifCond .gt 9) 3 := by decide +kernel
theorem d22_29 : dk c22 29 (.iconst 1) 1 := by decide +kernel
theorem d22_30 : dk c22 30 (.goto 4) 3 := by decide +kernel
theorem d22_34 : dk c22 34 (.istore_n 3) 1 := by decide +kernel
theorem d22_35 : dk c22 35 (.iload_n 3) 1 := by decide +kernel
theorem d22_36 : dk c22 36 (.ifCond .eq 14) 3 := by decide +kernel
theorem d22_39 : dk c22 39 (.aload_n 0) 1 := by decide +kernel
theorem d22_40 : dk c22 40 (.iload_n 1) 1 := by decide +kernel
theorem d22_41 : dk c22 41 (.iload_n 2) 1 := by decide +kernel
theorem d22_42 : dk c22 42 (.iload_n 1) 1 := by decide +kernel
theorem d22_43 : dk c22 43 .isub 1 := by decide +kernel
theorem d22_44 : dk c22 44 (.invokestatic 210) 3 := by decide +kernel
theorem d22_47 : dk c22 47 (.goto 4) 3 := by decide +kernel
theorem d22_51 : dk c22 51 .areturn 1 := by decide +kernel
theorem ef_22_g (m : MethodId) (x0 : Addr) : entryFrame m #[(.ref x0)] 4 = mkF m 0 #[.val (.ref x0), .unset, .unset, .unset] [] := by first | (simp [entryFrame, mkF, argsToLocals, Value.category]; done) | rfl
def Q22_g (Z : State) (a1 : Addr) (kb : ClassId) (z : Int32) (B : List Int32) (lf rt n : Int32) (s_T s_I : Addr) (cl : Cell) (h0 : Heap) (n0 : Nat) (v : Option Value) (h : Heap) (L : List Loc) : Prop := ∃ (o d : Addr) (ko : ClassId), v = some (.ref o) ∧ Fr n0 L ∧ Keep h0 h [] ∧ ES Z h o ∧ FC Z h o ∧ FV Z h o d ∧ AB Z h d ko n ((B.drop lf.toNatClampNeg).take n.toNatClampNeg)
theorem rm22_g (l : Launch) (Z : State) (a0 : Array Value) (hw : HW a0 Z) (ws : List Jvm.Cond) (a1 : Addr) (kb : ClassId) (z : Int32) (B : List Int32) (lf rt n : Int32) (s_T s_I : Addr) (cl : Cell) (h0 : Heap) (n0 : Nat) (Z0 : n0 ≤ h0.size) (O0 : Old Z n0 h0) (V_b : AB Z h0 a1 kb z B) (hB : z.toNatClampNeg = B.length) (hM : 1 ≤ z.toInt ∧ z.toInt ≤ 6) (hl6 : B.length ≤ 6) (hlf : lf.toInt = (own_lw B : Int)) (hrt : rt.toInt = (own_hw B B.length : Int)) (hn_ : rt.toInt = lf.toInt + n.toInt) (hf : 1 ≤ lf.toInt ∧ lf.toInt ≤ 6) (hn : 1 ≤ n.toInt ∧ n.toInt ≤ 6) (hle : lf.toInt + n.toInt ≤ z.toInt) (S_T : ST Z s_T) (TB : Tab Z Z.heap s_T cl .int (256 : Int32)) (hTb : HT cl) (S_I : SI Z s_I) (E_I : Exa Z Z.heap s_I "java/lang/CharacterDataLatin1") :
    MFh l mn_33 jdk_43_method_39_code 4 (some (.object "java/lang/String")) ws (Rm 4 2 10 64) #[(.ref a1)] Z h0 (Q22_g Z a1 kb z B lf rt n s_T s_I cl h0 n0) := by
  refine MetFree.of_bodySF (plainFor_of_name pn_2) hisR ?_
  intro p e s m args below meth c s₁ Bd hml0 hP hK
  obtain ⟨rfl, hZ, hh, hC0⟩ := hP
  have hx := Bd.exec
  have hby := Bd.bytes
  have hml : c.maxLocals = 4 := hml0
  have hown := findClass_of_methodNamed Bd.named
  have X0 : Stand p l e (Rm 4 2 10 64) s m _ below meth c _ [] 0 0 := Stand.of_body Bd
  have e0 : s₁.heap = h0 := by rw [← hh, Bd.state]; rfl
  have R0 := CHr.refl hC0
  have N0 := Fr.nil n0
  have K0 := Keep.refl h0 []
  have pre0 := cast0 (p := p) (e := e) (below := below) (T := s₁) (ef_22_g m a1)
  obtain ⟨_, _, ⟨T1, L1, k1, n1⟩, -, X1, ⟨Lc1, hQ1, l1, y1, z1⟩, st1⟩ := Jvm.LawKit.callS X0 hx (y := mn_31) hown (mw hZ hw 107 rfl) (mw hZ hw 108 rfl) (mw hZ hw 59 rfl) (mw hZ hw 109 rfl) (by decide) (backOf (W := 0) (rm23 l Z a0 hw [] a1 kb z B lf s_T s_I cl h0 n0 (Nat.le_trans Z0 K0.1) O0 V_b hB hM hl6 hlf S_T TB hTb S_I E_I) hZ (ww hw 109 rfl) (ww hw 59 rfl) (by decide) (by decide)) (g := (mkF m 1 #[vR a1, .unset, .unset, .unset] [iR a1])) rfl (by rw [hml]; rfl) (argsL := [(.ref a1)]) (rest := []) (lenOf pd_23 rfl) rfl (wz rfl) (hb hby d22_1) (fun _ _ => ⟨rfl, e0, (by decide : 0 + 0 ≤ _), (by decide : 0 + 0 ≤ _)⟩)
  dsimp only [Pt.U, Pt.locs, Pt.cells, Pt.slots] at X1 l1 y1 z1 st1 hQ1
  subst l1 y1 z1
  obtain ⟨rfl, N1q, K1q⟩ := hQ1
  have N1 := Fr.app N0 N1q
  have K1 : Keep h0 T1.heap [] := Keep.trans K0 K1q all0
  have fk2 := (V_b.keep K1q nin0)
  obtain ⟨cl3, Ar3, q3, S3, M3, H3, G3⟩ := id fk2
  have hh4 : ¬ (lf = z) := (fun e => absurd (congrArg Int32.toInt e) (by omega))
  have Oh6 := O0.keep K1 all0
  obtain ⟨_, _, ⟨T5, L5, k5, n5⟩, -, X5, ⟨Lc5, hQ5, l5, y5, z5⟩, st5⟩ := Jvm.LawKit.callS X1 hx (y := mn_32) hown (mw hZ hw 126 rfl) (mw hZ hw 127 rfl) (mw hZ hw 59 rfl) (mw hZ hw 128 rfl) (by decide) (backOf (W := 0) (rm27 l Z a0 hw [] a1 kb z B rt s_T s_I cl T1.heap n0 (Nat.le_trans Z0 K1.1) Oh6 fk2 hB hM hl6 hrt S_T TB hTb S_I E_I) hZ (ww hw 128 rfl) (ww hw 59 rfl) (by decide) (by decide)) (g := (mkF m 15 #[vR a1, vI lf, .unset, .unset] [iR a1])) rfl (by rw [hml]; rfl) (argsL := [(.ref a1)]) (rest := []) (lenOf pd_23 rfl) rfl (wz rfl) (hb hby d22_15) (fun _ _ => ⟨rfl, rfl, (by decide : 0 + 0 ≤ _), (by decide : 0 + 0 ≤ _)⟩)
  dsimp only [Pt.U, Pt.locs, Pt.cells, Pt.slots] at X5 l5 y5 z5 st5 hQ5
  subst l5 y5 z5
  obtain ⟨rfl, N5q, K5q⟩ := hQ5
  have N5 := Fr.app N1 N5q
  have K5 : Keep h0 T5.heap [] := Keep.trans K1 K5q all0
  have hh7 : (0 : Int32) < lf := (own_lt (by have e0 : (0 : Int32).toInt = 0 := rfl; omega))
  have fk9 := (fk2.keep K5q nin0)
  have Oh10 := O0.keep K5 all0
  have R11 := R0.trans (CHr.keep K1q sf0 R0.1)
  have R12 := R11.trans (CHr.keep K5q sf0 R11.1)
  have pre13 : PP p e below (T5.setTop (mkF m 44 #[vR a1, vI lf, vI rt, vI 1] [iI n, iI lf, iR a1])) (s₁.setTop (entryFrame m #[(.ref a1)] 4)) := by
    intro t kt
    refine pre0 t ?_
    refine XS.aloadN X0.here hx rfl (hb hby d22_0) rfl rfl ?_
    refine st1 _ ?_
    refine XS.istoreN X1.here hx rfl (hb hby d22_4) rfl (l' := #[vR a1, vI lf, .unset, .unset]) rfl ?_
    refine XS.iloadN X1.here hx rfl (hb hby d22_5) rfl ?_
    refine XS.aloadN X1.here hx rfl (hb hby d22_6) rfl rfl ?_
    refine X1.arraylength hx Ar3.1 (State.isArrayOf_alike hZ.alike Ar3.2.1) (g := (mkF m 7 #[vR a1, vI lf, .unset, .unset] [iR a1, iI lf])) rfl rfl (hb hby d22_7) _ ?_
    rw [len_of S3 M3]
    refine XS.icmpYes X1.here hx rfl (pc0 := 8) (pc' := 14) rfl (hb hby d22_8) rfl (feq hh4).2 (by decide) (by decide) ?_
    refine XS.aloadN X1.here hx rfl (hb hby d22_14) rfl rfl ?_
    refine st5 _ ?_
    refine XS.istoreN X5.here hx rfl (hb hby d22_18) rfl (l' := #[vR a1, vI lf, vI rt, .unset]) rfl ?_
    refine XS.iloadN X5.here hx rfl (hb hby d22_19) rfl ?_
    refine XS.ifYes X5.here hx rfl (pc0 := 20) (pc' := 29) rfl (hb hby d22_20) rfl ((if0 _ _).trans (tlt hh7).2.2.1) (by decide) (by decide) ?_
    refine XS.iconst X5.here hx rfl (hb hby d22_29) ?_
    refine XS.goto X5.here hx rfl (pc0 := 30) (pc' := 34) rfl (hb hby d22_30) (by decide) (by decide) ?_
    refine XS.istoreN X5.here hx rfl (hb hby d22_34) rfl (l' := #[vR a1, vI lf, vI rt, vI 1]) rfl ?_
    refine XS.iloadN X5.here hx rfl (hb hby d22_35) rfl ?_
    refine XS.ifNo X5.here hx rfl (hb hby d22_36) rfl ((if0 _ _).trans (feq (by decide : ¬ ((1 : Int32) = (0 : Int32)))).1) ?_
    show SA T5 m 39 #[vR a1, vI lf, vI rt, vI 1] []
    refine XS.aloadN X5.here hx rfl (hb hby d22_39) rfl rfl ?_
    refine XS.iloadN X5.here hx rfl (hb hby d22_40) rfl ?_
    refine XS.iloadN X5.here hx rfl (hb hby d22_41) rfl ?_
    refine XS.iloadN X5.here hx rfl (hb hby d22_42) rfl ?_
    refine XS.isub X5.here hx rfl (hb hby d22_43) rfl ?_
    rw [own_subE hn_]
    exact kt
  obtain ⟨_, _, ⟨T8, L8, k8, n8⟩, -, X8, hS8q, gr8, ⟨Lc8, hQ8, l8, y8, z8, C8⟩, st8⟩ := callSS (s := s.setVm s.vm) X5 hx (y := mn_20) hown (mw hZ hw 129 rfl) (mw hZ hw 130 rfl) (mw hZ hw 59 rfl) (mw hZ hw 131 rfl) (by decide) (backOfSH (s := s) (vm0 := s.vm) (W := 0) (rm28 l Z a0 hw [] a1 lf n kb z B T5.heap n0 (Nat.le_trans Z0 K5.1) Oh10 fk9 hf hn hle hB) hZ (ww hw 131 rfl) (ww hw 59 rfl) (by decide) (by decide) (own_EW hw) R12.1) (g := (mkF m 44 #[vR a1, vI lf, vI rt, vI 1] [iI n, iI lf, iR a1])) rfl (by rw [hml]; rfl) (argsL := [(.ref a1), (.int lf), (.int n)]) (rest := []) (lenOf pd_18 rfl) rfl (wz rfl) (hb hby d22_44) (fun _ _ => ⟨rfl, rfl, (by decide : 0 + 2 ≤ _), (by decide : 0 + 10 ≤ _)⟩)
  dsimp only [Pt.U, Pt.locs, Pt.cells, Pt.slots] at X8 hS8q gr8 l8 y8 z8 C8 st8 hQ8
  subst l8 y8 z8
  have hS8 := State.Since.trans ((State.WarmedH.refl s).since 0) hS8q (Nat.zero_le _)
  have hZ : Z.Warmed39 (s.setVm T8.vm).vm := State.Warmed39.trans (t := s.setVm s.vm) hZ hS8q.1
  have hown : (s.setVm T8.vm).vm.findClass "java/lang/StringLatin1" = some m.cls := by rw [show (s.setVm T8.vm).vm = T8.vm from rfl, hS8q.1.alike.findClass]; exact hown
  have R8 := R12.trans C8
  obtain ⟨o8, d8, kd8, rfl, N8q, K8q, E8q, C8q, F8q, V8q⟩ := hQ8
  have N8 := Fr.app N5 N8q
  have K8 : Keep h0 T8.heap [] := Keep.trans K5 K8q all0
  have hfin := R8.trans (CHv.at (s := s) (vm0 := T8.vm) X8 hZ (own_EW hw) R8.1)
  obtain ⟨fs, hr, hrun, hended, hEnd⟩ := X8.leaveW (s := s) hS8 (Nat.le_refl T8.heap.size) (v := some (.ref o8)) (fun h => by rw [Bd.returns] at h; cases h)
  refine ⟨_, _, pre13 _ ?_, hrun, hended, _, _, rfl, ?_, (by rw [hh]; show CHr Z consts_1 s.vm h0 T8.vm T8.heap; exact hfin), ⟨hEnd.1, hEnd.2.1, hEnd.2.2.1, hEnd.2.2.2.mono (by decide) (by decide)⟩⟩
  · refine st8.trans ?_
    refine XS.goto X8.here hx rfl (pc0 := 47) (pc' := 51) rfl (hb hby d22_47) (by decide) (by decide) ?_
    show Steps _ _ _ (T8.setTop (mkF m 51 #[vR a1, vI lf, vI rt, vI 1] [iR o8])) _
    jvm_step X8.here [X8.here.top, hx, (hb hby d22_51), X8.method', Bd.returns, Value.isRef, FieldType.isReference]
    first | (intro acts; rw [hr _ acts rfl rfl rfl]) | rw [hr _ _ rfl rfl rfl]
    exact Steps.refl _
  · show Q22_g Z a1 kb z B lf rt n s_T s_I cl h0 n0 _ T8.heap _
    exact ⟨_, _, _, rfl, N8, K8, E8q, C8q, F8q, V8q⟩
theorem ef_20_g (m : MethodId) (x0 : Addr) : entryFrame m #[(.ref x0)] 2 = mkF m 0 #[.val (.ref x0), .unset] [] := by first | (simp [entryFrame, mkF, argsToLocals, Value.category]; done) | rfl
def Q20_g (Z : State) (a1 : Addr) (d : Addr) (kd : ClassId) (z : Int32) (B : List Int32) (lf rt n : Int32) (cs : Int32) (s_T s_I : Addr) (cl : Cell) (h0 : Heap) (n0 : Nat) (v : Option Value) (h : Heap) (L : List Loc) : Prop := ∃ (o d : Addr) (ko : ClassId), v = some (.ref o) ∧ Fr n0 L ∧ Keep h0 h [] ∧ ES Z h o ∧ FC Z h o ∧ FV Z h o d ∧ AB Z h d ko n ((B.drop lf.toNatClampNeg).take n.toNatClampNeg)
theorem rm20_g (l : Launch) (Z : State) (a0 : Array Value) (hw : HW a0 Z) (ws : List Jvm.Cond) (a1 : Addr) (d : Addr) (kd : ClassId) (z : Int32) (B : List Int32) (lf rt n : Int32) (cs : Int32) (s_T s_I : Addr) (cl : Cell) (h0 : Heap) (n0 : Nat) (Z0 : n0 ≤ h0.size) (O0 : Old Z n0 h0) (E_a1 : ES Z h0 a1) (Fc_a1 : FC Z h0 a1) (Fv_a1 : FV Z h0 a1 d) (V_d : AB Z h0 d kd z B) (hz : ¬ z < 0) (hB : z.toNatClampNeg = B.length) (hM : 1 ≤ z.toInt ∧ z.toInt ≤ 6) (hl6 : B.length ≤ 6) (hlf : lf.toInt = (own_lw B : Int)) (hrt : rt.toInt = (own_hw B B.length : Int)) (hn_ : rt.toInt = lf.toInt + n.toInt) (hf : 1 ≤ lf.toInt ∧ lf.toInt ≤ 6) (hn : 1 ≤ n.toInt ∧ n.toInt ≤ 6) (hle : lf.toInt + n.toInt ≤ z.toInt) (S_CS : SC Z cs) (h_cs : ¬ cs = (0 : Int32)) (S_T : ST Z s_T) (TB : Tab Z Z.heap s_T cl .int (256 : Int32)) (hTb : HT cl) (S_I : SI Z s_I) (E_I : Exa Z Z.heap s_I "java/lang/CharacterDataLatin1") :
    MFh l mn_34 jdk_42_method_114_code 2 (some (.object "java/lang/String")) ws (Rm 5 2 10 79) #[(.ref a1)] Z h0 (Q20_g Z a1 d kd z B lf rt n cs s_T s_I cl h0 n0) := by
  refine MetFree.of_bodySF (plainFor_of_name pn_0) hisR ?_
  intro p e s m args below meth c s₁ Bd hml0 hP hK
  obtain ⟨rfl, hZ, hh, hC0⟩ := hP
  have hx := Bd.exec
  have hby := Bd.bytes
  have hml : c.maxLocals = 2 := hml0
  have hown := findClass_of_methodNamed Bd.named
  have X0 : Stand p l e (Rm 5 2 10 79) s m _ below meth c _ [] 0 0 := Stand.of_body Bd
  have e0 : s₁.heap = h0 := by rw [← hh, Bd.state]; rfl
  have R0 := CHr.refl hC0
  have N0 := Fr.nil n0
  have K0 := Keep.refl h0 []
  have pre0 := cast0 (p := p) (e := e) (below := below) (T := s₁) (ef_20_g m a1)
  obtain ⟨cq1, kq1, q1a, q1b, q1c⟩ := isOf hZ e0 E_a1
  obtain ⟨_, _, ⟨T1, L1, k1, n1⟩, -, X1, ⟨Lc1, hQ1, l1, y1, z1⟩, st1⟩ := X0.virtualBack hx (y := mn_0) (z := mn_0) hown (mw hZ hw 99 rfl) (mw hZ hw 100 rfl) (notFace_of_selects (args := #[]) (mw hZ hw 102 rfl)) (mw hZ hw 102 rfl) (mw hZ hw 101 rfl) (by decide) (backOf (W := 0) (rm21 l Z a0 hw [] a1 cs h0 n0 O0 Fc_a1 S_CS h_cs) hZ (ww hw 103 rfl) (ww hw 7 rfl) (by decide) (by decide)) q1a q1c (g := (mkF m 1 #[vR a1, .unset] [iR a1])) rfl (by rw [hml]; rfl) (Steps.refl _) (argsL := []) (rest := []) (lenOf pd_2 rfl) rfl (wz rfl) (hb hby d20_1) (fun _ _ => ⟨rfl, e0, (by decide : 0 + 0 ≤ _), (by decide : 0 + 0 ≤ _)⟩)
  dsimp only [Pt.U, Pt.locs, Pt.cells, Pt.slots] at X1 l1 y1 z1 st1 hQ1
  subst l1 y1 z1
  obtain ⟨rfl, rfl, e1⟩ := hQ1
  try rw [List.append_nil] at X1
  obtain ⟨T2, X2, e2, st2⟩ := gF X1 hx hZ hown (ww hw 32 rfl) e1 Fv_a1 (g := (mkF m 8 #[vR a1, .unset] [iR a1])) rfl rfl (hb hby d20_8)
  have pre4 : PP p e below (T2.setTop (mkF m 11 #[vR a1, .unset] [iR d])) (s₁.setTop (entryFrame m #[(.ref a1)] 2)) := by
    intro t kt
    refine pre0 t ?_
    refine XS.aloadN X0.here hx rfl (hb hby d20_0) rfl rfl ?_
    refine st1.trans ?_
    refine XS.ifNo X1.here hx rfl (hb hby d20_4) rfl ((if0 _ _).trans (feq (by decide : ¬ ((1 : Int32) = (0 : Int32)))).1) ?_
    refine XS.aloadN X1.here hx rfl (hb hby d20_7) rfl rfl ?_
    refine st2 _ ?_
    exact kt
  obtain ⟨_, _, ⟨T3, L3, k3, n3⟩, -, X3, hS3q, gr3, ⟨Lc3, hQ3, l3, y3, z3, C3⟩, st3⟩ := callSS (s := s.setVm s.vm) X2 hx (y := mn_33) hown (mw hZ hw 104 rfl) (mw hZ hw 105 rfl) (mw hZ hw 59 rfl) (mw hZ hw 106 rfl) (by decide) (backOfSH (s := s) (vm0 := s.vm) (W := 0) (rm22_g l Z a0 hw [] d kd z B lf rt n s_T s_I cl h0 n0 (Nat.le_trans Z0 K0.1) O0 V_d hB hM hl6 hlf hrt hn_ hf hn hle S_T TB hTb S_I E_I) hZ (ww hw 106 rfl) (ww hw 59 rfl) (by decide) (by decide) (own_EW hw) R0.1) (g := (mkF m 11 #[vR a1, .unset] [iR d])) rfl (by rw [hml]; rfl) (argsL := [(.ref d)]) (rest := []) (lenOf pd_24 rfl) rfl (wz rfl) (hb hby d20_11) (fun _ _ => ⟨rfl, e2, (by decide : 0 + 2 ≤ _), (by decide : 0 + 10 ≤ _)⟩)
  dsimp only [Pt.U, Pt.locs, Pt.cells, Pt.slots] at X3 hS3q gr3 l3 y3 z3 C3 st3 hQ3
  subst l3 y3 z3
  have hS3 := State.Since.trans ((State.WarmedH.refl s).since 0) hS3q (Nat.zero_le _)
  have hZ : Z.Warmed39 (s.setVm T3.vm).vm := State.Warmed39.trans (t := s.setVm s.vm) hZ hS3q.1
  have hown : (s.setVm T3.vm).vm.findClass "java/lang/String" = some m.cls := by rw [show (s.setVm T3.vm).vm = T3.vm from rfl, hS3q.1.alike.findClass]; exact hown
  have R3 := R0.trans C3
  obtain ⟨o3, d3, kd3, rfl, N3q, K3q, E3q, C3q, F3q, V3q⟩ := hQ3
  have N3 := Fr.app N0 N3q
  have K3 : Keep h0 T3.heap [] := Keep.trans K0 K3q all0
  have hfin := R3.trans (CHv.at (s := s) (vm0 := T3.vm) X3 hZ (own_EW hw) R3.1)
  obtain ⟨fs, hr, hrun, hended, hEnd⟩ := X3.leaveW (s := s) hS3 (Nat.le_refl T3.heap.size) (v := some (.ref o3)) (fun h => by rw [Bd.returns] at h; cases h)
  refine ⟨_, _, pre4 _ ?_, hrun, hended, _, _, rfl, ?_, (by rw [hh]; show CHr Z consts_1 s.vm h0 T3.vm T3.heap; exact hfin), ⟨hEnd.1, hEnd.2.1, hEnd.2.2.1, hEnd.2.2.2.mono (by decide) (by decide)⟩⟩
  · refine st3.trans ?_
    refine XS.goto X3.here hx rfl (pc0 := 14) (pc' := 24) rfl (hb hby d20_14) (by decide) (by decide) ?_
    refine XS.astoreN X3.here hx rfl (hb hby d20_24) rfl rfl (l' := #[vR a1, vR o3]) rfl ?_
    refine XS.aloadN X3.here hx rfl (hb hby d20_25) rfl rfl ?_
    refine XS.ifnonnullYes X3.here hx rfl (pc0 := 26) (pc' := 33) rfl (hb hby d20_26) rfl (by decide) (by decide) ?_
    refine XS.aloadN X3.here hx rfl (hb hby d20_33) rfl rfl ?_
    show Steps _ _ _ (T3.setTop (mkF m 34 #[vR a1, vR o3] [iR o3])) _
    jvm_step X3.here [X3.here.top, hx, (hb hby d20_34), X3.method', Bd.returns, Value.isRef, FieldType.isReference]
    first | (intro acts; rw [hr _ acts rfl rfl rfl]) | rw [hr _ _ rfl rfl rfl]
    exact Steps.refl _
  · show Q20_g Z a1 d kd z B lf rt n cs s_T s_I cl h0 n0 _ T3.heap _
    exact ⟨_, _, _, rfl, N3, K3, E3q, C3q, F3q, V3q⟩
def own_strip (R : List Int32) : List Int32 := (R.drop (own_lw R)).take (own_hw R R.length - own_lw R)
def own_aft (R : List Int32) : Option (List Int32) := if R.getD 0 0 = 32 then some (own_strip R) else none
def own_cred (B S : List Int32) : Option (List Int32) := if B.length < S.length then none else if nar .boolean (own_rcS B S) = 0 then none else own_aft (B.drop S.length)
theorem own_lwLe (B : List Int32) : own_lw B ≤ B.length := by
  induction B with
  | nil => simp [own_lw]
  | cons b t ih => rw [own_lw, List.length_cons]; split <;> omega
theorem own_hwLe (B : List Int32) (i : Nat) : own_hw B i ≤ i := by
  induction i with
  | zero => simp [own_hw]
  | succ i ih => rw [own_hw]; split <;> omega
theorem own_lwAt (B : List Int32) (h : own_lw B < B.length) : ¬ own_wsb (B.getD (own_lw B) 0) := by
  induction B with
  | nil => simp at h
  | cons b t ih =>
    by_cases q : own_wsb b
    · rw [own_lw, if_pos q] at h ⊢
      rw [Nat.add_comm] at h ⊢
      rw [List.getD_cons_succ]
      exact ih (by rw [List.length_cons] at h; omega)
    · rw [own_lw, if_neg q]; exact q
theorem own_hwGt (B : List Int32) {j : Nat} (hw : ¬ own_wsb (B.getD j 0)) (i : Nat) (h : j < i) : j < own_hw B i := by
  induction i with
  | zero => omega
  | succ i ih =>
    by_cases q : own_wsb (B.getD i 0)
    · rw [own_hw, if_pos q]
      by_cases e : j = i
      · exact absurd (e ▸ q) hw
      · exact ih (by omega)
    · rw [own_hw, if_neg q]; exact h
theorem own_lwPos {B : List Int32} (h : B.getD 0 0 = 32) (hl : 1 ≤ B.length) : 1 ≤ own_lw B := by
  have := own_lwW (B := B) (i := 0) (by omega) (Or.inl (by rw [h]; decide))
  rw [List.drop_zero] at this
  omega
theorem own_lenT {R : List Int32} {lf n z : Int32} (hB : z.toNatClampNeg = R.length) (h : lf.toInt + n.toInt ≤ z.toInt) (h1 : 1 ≤ lf.toInt) (h2 : 1 ≤ n.toInt) : n.toInt = (((R.drop lf.toNatClampNeg).take n.toNatClampNeg).length : Int) := by
  rw [List.length_take, List.length_drop, ← hB]
  simp only [Int32.toNatClampNeg]; omega

def own_QC (Z : State) (C : Option (List Int32)) (h0 : Heap) (n0 : Nat) (v : Option Value) (h : Heap) (L : List Loc) : Prop := Fr n0 L ∧ Keep h0 h [] ∧ ((C = none ∧ v = some .null) ∨ ∃ (W : List Int32) (o d : Addr) (ko : ClassId) (zw : Int32), C = some W ∧ v = some (.ref o) ∧ ES Z h o ∧ FC Z h o ∧ FV Z h o d ∧ AB Z h d ko zw W ∧ zw.toInt = (W.length : Int))
theorem own_dtL {B : List Int32} {z p zr : Int32} (hB : z.toNatClampNeg = B.length) (h : z.toInt = p.toInt + zr.toInt) (h1 : 1 ≤ zr.toInt ∧ zr.toInt ≤ 6) (hp : 0 ≤ p.toInt) : zr.toNatClampNeg = ((B.drop p.toNatClampNeg).take zr.toNatClampNeg).length := by
  rw [List.length_take, List.length_drop, ← hB]
  simp only [Int32.toNatClampNeg]; omega
theorem d8_32 : dk c8 32 (.aload_n 2) 1 := by decide +kernel
theorem d8_33 : dk c8 33 (.ldc 21) 2 := by decide +kernel
theorem d8_35 : dk c8 35 (.invokevirtual 23) 3 := by decide +kernel
theorem d8_38 : dk c8 38 (.ifCond .eq 8) 3 := by decide +kernel
theorem d8_41 : dk c8 41 (.aload_n 2) 1 := by decide +kernel
theorem d8_42 : dk c8 42 (.invokevirtual 27) 3 := by decide +kernel
theorem d8_45 : dk c8 45 (.astore_n 3) 1 := by decide +kernel
theorem d8_46 : dk c8 46 (.aload_n 3) 1 := by decide +kernel
theorem d8_47 : dk c8 47 .areturn 1 := by decide +kernel
theorem own_t32_0 {p : Program} {l : Launch} {e : Env} {s : State} {m : MethodId} {below : List Frame} {meth : Method} {c : Code} {T0 : State} {locs : List Loc} {Z : State} {a0 : Array Value} {h0 hT : Heap} {n0 : Nat} {vmT : Vm} {kT : Nat} {a1 a2 : Addr} {rs : Addr} {d : Addr} {kd : ClassId} {C : Option (List Int32)} {cs : Int32} {fm : Value} {s_T s_I : Addr} {cl : Cell}
    (X0 : Stand p l e (Rm 6 6 28 93) (s.setVm vmT) m #[(.ref a1), (.ref a2)] below meth c T0 locs 2 10) (hx : p.tables.exec = Jvm.exec) (hZ : Z.Warmed39 (s.setVm vmT).vm) (hw : HW a0 Z) (hby : c.code = prog_1_method_2_code) (hml : c.maxLocals = 4) (hown : (s.setVm vmT).vm.findClass "com/example/cloud_to_core/cloudtocore/auth/HttpAuthorization" = some m.cls) (hret : meth.sig.returnType = some (.object "java/lang/String")) (hlocks : meth.locks = false) (e0 : T0.heap = hT) (Kt0 : Keep h0 hT []) (N0 : Fr n0 locs) (Z0 : n0 ≤ h0.size) (O0 : Old Z n0 h0) (hS0 : s.Since vmT kT) (hk0 : kT ≤ hT.size) (RT : CHr Z consts_1 s.vm h0 vmT hT) (hh : s.heap = h0) (E_rs : ES Z hT rs) (Fc_rs : FC Z hT rs) (Fv_rs : FV Z hT rs d) (V_d : AB Z hT d kd (0 : Int32) []) (hC : C = none) (S_CS : SC Z cs) (h_cs : ¬ cs = (0 : Int32)) (S_F : SM Z fm) (h_fm : fm.isRef = true) (S_T : ST Z s_T) (TB : Tab Z Z.heap s_T cl .int (256 : Int32)) (hTb : HT cl) (S_I : SI Z s_I) (E_I : Exa Z Z.heap s_I "java/lang/CharacterDataLatin1") :
    ∃ s₂ o, Steps p.tables e below (T0.setTop (mkF m 32 #[vR a1, vR a2, vR rs, .val .null] [])) s₂ ∧ s₂.status = .running ∧ Ended s₂ below o ∧ ∃ v L, o = .returned v ∧ own_QC Z C h0 n0 v s₂.heap L ∧ CHr Z consts_1 s.vm s.heap s₂.vm s₂.heap ∧ ReturnedEndW s o s₂ L (Rm 6 6 28 93).cells (Rm 6 6 28 93).slots := by
  have pre1 : PP p e below (T0.setTop (mkF m 33 #[vR a1, vR a2, vR rs, .val .null] [iR rs])) (T0.setTop (mkF m 32 #[vR a1, vR a2, vR rs, .val .null] [])) := by
    intro t kt
    refine XS.aloadN X0.here hx rfl (hb hby d8_32) rfl rfl ?_
    exact kt
  obtain ⟨la2, T2, h2, kk2, lb2, kl2, X2, e2, E2, hS2, hk2, hZ, hown, EE2, FC2, FV2, VV2, -, -, C2, li2, ne2, st2⟩ := ldcCH (s := s) (vm0 := vmT) X0 hx hZ hown (ww hw 79 rfl) (own_strAtoms hw) e0 hS0 hk0 (own_EW hw) (List.mem_of_getElem? (i := 0) rfl) RT.1 (vs := own_bs [(32 : Int32)]) (z := (1 : Int32)) own_ct0 (by decide) (by decide) (g := (mkF m 33 #[vR a1, vR a2, vR rs, .val .null] [iR rs])) rfl (hb hby d8_33) (n := 4) (by decide) (by decide) (by decide) (by decide)
  have K2 : Keep h0 h2 [] := Kt0.ext E2
  have R2 := RT.trans C2
  have fk4 := (E_rs.ext E2)
  have fk5 := (Fc_rs.ext E2)
  have fk6 := (Fv_rs.ext E2)
  have fk7 := (V_d.ext E2)
  have Oh8 := O0.keep K2 all0
  obtain ⟨cq3, kq3, q3a, q3b, q3c⟩ := isOf hZ e2 fk4
  obtain ⟨_, _, ⟨T3, L3, k3, n3⟩, -, X3, ⟨Lc3, hQ3, l3, y3, z3⟩, st3⟩ := X2.virtualBack hx (y := mn_27) (z := mn_27) hown (mw hZ hw 80 rfl) (mw hZ hw 81 rfl) (notFace_of_selects (args := #[]) (mw hZ hw 83 rfl)) (mw hZ hw 83 rfl) (mw hZ hw 82 rfl) (by decide) (backOf (W := 0) (rm17_0 l Z a0 hw [] rs la2 d kd lb2 kl2 cs h2 n0 Oh8 fk4 fk5 fk6 fk7 EE2 FC2 FV2 VV2  S_CS h_cs) hZ (ww hw 84 rfl) (ww hw 7 rfl) (by decide) (by decide)) q3a q3c (g := (mkF m 35 #[vR a1, vR a2, vR rs, .val .null] [iR la2, iR rs])) rfl (by rw [hml]; rfl) (Steps.refl _) (argsL := [(.ref la2)]) (rest := []) (lenOf pd_25 rfl) rfl (wz rfl) (hb hby d8_35) (fun _ _ => ⟨rfl, e2, (by decide : 4 + 0 ≤ _), (by decide : 18 + 0 ≤ _)⟩)
  dsimp only [Pt.U, Pt.locs, Pt.cells, Pt.slots] at X3 l3 y3 z3 st3 hQ3
  subst l3 y3 z3
  obtain ⟨rfl, rfl, e3⟩ := hQ3
  try rw [List.append_nil] at X3
  have hfin := R2.trans (CHv.at (s := s) (vm0 := T2.vm) X3 hZ (own_EW hw) R2.1)
  obtain ⟨fs, hr, hrun, hended, hEnd⟩ := X3.leaveW (s := s) hS2 (by rw [e3]; exact hk2) (v := some .null) (fun h => by rw [hret] at h; cases h)
  refine ⟨_, _, pre1 _ ?_, hrun, hended, _, _, rfl, ?_, (by rw [hh]; show CHr Z consts_1 s.vm h0 T3.vm T3.heap; rw [e3]; exact hfin), ⟨hEnd.1, hEnd.2.1, hEnd.2.2.1, hEnd.2.2.2.mono (by decide) (by decide)⟩⟩
  · refine st2 _ ?_
    refine st3.trans ?_
    refine XS.ifYes X3.here hx rfl (pc0 := 38) (pc' := 46) rfl (hb hby d8_38) rfl ((if0 _ _).trans (teq (by decide : (0 : Int32) = (0 : Int32))).1) (by decide) (by decide) ?_
    refine XS.aloadN X3.here hx rfl (hb hby d8_46) rfl rfl ?_
    show Steps _ _ _ (T3.setTop (mkF m 47 #[vR a1, vR a2, vR rs, .val .null] [.null])) _
    jvm_step X3.here [X3.here.top, hx, (hb hby d8_47), X3.method', hret, Value.isRef, FieldType.isReference]
    first | (intro acts; rw [hr _ acts rfl rfl rfl]) | rw [hr _ _ rfl rfl rfl]
    exact Steps.refl _
  · show own_QC Z C h0 n0 _ T3.heap _
    rw [e3]
    exact ⟨N0, K2, Or.inl ⟨hC, rfl⟩⟩
theorem own_t32_n {p : Program} {l : Launch} {e : Env} {s : State} {m : MethodId} {below : List Frame} {meth : Method} {c : Code} {T0 : State} {locs : List Loc} {Z : State} {a0 : Array Value} {h0 hT : Heap} {n0 : Nat} {vmT : Vm} {kT : Nat} {a1 a2 : Addr} {rs : Addr} {d : Addr} {kd : ClassId} {z : Int32} {B : List Int32} {C : Option (List Int32)} {cs : Int32} {fm : Value} {s_T s_I : Addr} {cl : Cell}
    (X0 : Stand p l e (Rm 6 6 28 93) (s.setVm vmT) m #[(.ref a1), (.ref a2)] below meth c T0 locs 2 10) (hx : p.tables.exec = Jvm.exec) (hZ : Z.Warmed39 (s.setVm vmT).vm) (hw : HW a0 Z) (hby : c.code = prog_1_method_2_code) (hml : c.maxLocals = 4) (hown : (s.setVm vmT).vm.findClass "com/example/cloud_to_core/cloudtocore/auth/HttpAuthorization" = some m.cls) (hret : meth.sig.returnType = some (.object "java/lang/String")) (hlocks : meth.locks = false) (e0 : T0.heap = hT) (Kt0 : Keep h0 hT []) (N0 : Fr n0 locs) (Z0 : n0 ≤ h0.size) (O0 : Old Z n0 h0) (hS0 : s.Since vmT kT) (hk0 : kT ≤ hT.size) (RT : CHr Z consts_1 s.vm h0 vmT hT) (hh : s.heap = h0) (E_rs : ES Z hT rs) (Fc_rs : FC Z hT rs) (Fv_rs : FV Z hT rs d) (V_d : AB Z hT d kd z B) (hz : ¬ z < 0) (hB : z.toNatClampNeg = B.length) (hM : 1 ≤ z.toInt ∧ z.toInt ≤ 6) (hl6 : B.length ≤ 6) (h32 : ¬ B.getD 0 0 = (32 : Int32)) (hC : C = none) (S_CS : SC Z cs) (h_cs : ¬ cs = (0 : Int32)) (S_F : SM Z fm) (h_fm : fm.isRef = true) (S_T : ST Z s_T) (TB : Tab Z Z.heap s_T cl .int (256 : Int32)) (hTb : HT cl) (S_I : SI Z s_I) (E_I : Exa Z Z.heap s_I "java/lang/CharacterDataLatin1") :
    ∃ s₂ o, Steps p.tables e below (T0.setTop (mkF m 32 #[vR a1, vR a2, vR rs, .val .null] [])) s₂ ∧ s₂.status = .running ∧ Ended s₂ below o ∧ ∃ v L, o = .returned v ∧ own_QC Z C h0 n0 v s₂.heap L ∧ CHr Z consts_1 s.vm s.heap s₂.vm s₂.heap ∧ ReturnedEndW s o s₂ L (Rm 6 6 28 93).cells (Rm 6 6 28 93).slots := by
  have pre1 : PP p e below (T0.setTop (mkF m 33 #[vR a1, vR a2, vR rs, .val .null] [iR rs])) (T0.setTop (mkF m 32 #[vR a1, vR a2, vR rs, .val .null] [])) := by
    intro t kt
    refine XS.aloadN X0.here hx rfl (hb hby d8_32) rfl rfl ?_
    exact kt
  obtain ⟨la2, T2, h2, kk2, lb2, kl2, X2, e2, E2, hS2, hk2, hZ, hown, EE2, FC2, FV2, VV2, -, -, C2, li2, ne2, st2⟩ := ldcCH (s := s) (vm0 := vmT) X0 hx hZ hown (ww hw 79 rfl) (own_strAtoms hw) e0 hS0 hk0 (own_EW hw) (List.mem_of_getElem? (i := 0) rfl) RT.1 (vs := own_bs [(32 : Int32)]) (z := (1 : Int32)) own_ct0 (by decide) (by decide) (g := (mkF m 33 #[vR a1, vR a2, vR rs, .val .null] [iR rs])) rfl (hb hby d8_33) (n := 4) (by decide) (by decide) (by decide) (by decide)
  have K2 : Keep h0 h2 [] := Kt0.ext E2
  have R2 := RT.trans C2
  have fk4 := (E_rs.ext E2)
  have fk5 := (Fc_rs.ext E2)
  have fk6 := (Fv_rs.ext E2)
  have fk7 := (V_d.ext E2)
  have Oh8 := O0.keep K2 all0
  obtain ⟨cq3, kq3, q3a, q3b, q3c⟩ := isOf hZ e2 fk4
  obtain ⟨_, _, ⟨T3, L3, k3, n3⟩, -, X3, ⟨Lc3, hQ3, l3, y3, z3⟩, st3⟩ := X2.virtualBack hx (y := mn_27) (z := mn_27) hown (mw hZ hw 80 rfl) (mw hZ hw 81 rfl) (notFace_of_selects (args := #[]) (mw hZ hw 83 rfl)) (mw hZ hw 83 rfl) (mw hZ hw 82 rfl) (by decide) (backOf (W := 0) (rm17_n l Z a0 hw [] rs la2 d kd z B lb2 kl2 cs h2 n0 Oh8 fk4 fk5 fk6 fk7 hz hB EE2 FC2 FV2 VV2 hM.1 h32 S_CS h_cs) hZ (ww hw 84 rfl) (ww hw 7 rfl) (by decide) (by decide)) q3a q3c (g := (mkF m 35 #[vR a1, vR a2, vR rs, .val .null] [iR la2, iR rs])) rfl (by rw [hml]; rfl) (Steps.refl _) (argsL := [(.ref la2)]) (rest := []) (lenOf pd_25 rfl) rfl (wz rfl) (hb hby d8_35) (fun _ _ => ⟨rfl, e2, (by decide : 4 + 0 ≤ _), (by decide : 18 + 0 ≤ _)⟩)
  dsimp only [Pt.U, Pt.locs, Pt.cells, Pt.slots] at X3 l3 y3 z3 st3 hQ3
  subst l3 y3 z3
  obtain ⟨rfl, rfl, e3⟩ := hQ3
  try rw [List.append_nil] at X3
  have hfin := R2.trans (CHv.at (s := s) (vm0 := T2.vm) X3 hZ (own_EW hw) R2.1)
  obtain ⟨fs, hr, hrun, hended, hEnd⟩ := X3.leaveW (s := s) hS2 (by rw [e3]; exact hk2) (v := some .null) (fun h => by rw [hret] at h; cases h)
  refine ⟨_, _, pre1 _ ?_, hrun, hended, _, _, rfl, ?_, (by rw [hh]; show CHr Z consts_1 s.vm h0 T3.vm T3.heap; rw [e3]; exact hfin), ⟨hEnd.1, hEnd.2.1, hEnd.2.2.1, hEnd.2.2.2.mono (by decide) (by decide)⟩⟩
  · refine st2 _ ?_
    refine st3.trans ?_
    refine XS.ifYes X3.here hx rfl (pc0 := 38) (pc' := 46) rfl (hb hby d8_38) rfl ((if0 _ _).trans (teq (by decide : (0 : Int32) = (0 : Int32))).1) (by decide) (by decide) ?_
    refine XS.aloadN X3.here hx rfl (hb hby d8_46) rfl rfl ?_
    show Steps _ _ _ (T3.setTop (mkF m 47 #[vR a1, vR a2, vR rs, .val .null] [.null])) _
    jvm_step X3.here [X3.here.top, hx, (hb hby d8_47), X3.method', hret, Value.isRef, FieldType.isReference]
    first | (intro acts; rw [hr _ acts rfl rfl rfl]) | rw [hr _ _ rfl rfl rfl]
    exact Steps.refl _
  · show own_QC Z C h0 n0 _ T3.heap _
    rw [e3]
    exact ⟨N0, K2, Or.inl ⟨hC, rfl⟩⟩
theorem own_t32_e {p : Program} {l : Launch} {e : Env} {s : State} {m : MethodId} {below : List Frame} {meth : Method} {c : Code} {T0 : State} {locs : List Loc} {Z : State} {a0 : Array Value} {h0 hT : Heap} {n0 : Nat} {vmT : Vm} {kT : Nat} {a1 a2 : Addr} {rs : Addr} {d : Addr} {kd : ClassId} {z : Int32} {B : List Int32} {C : Option (List Int32)} {cs : Int32} {fm : Value} {s_T s_I : Addr} {cl : Cell}
    (X0 : Stand p l e (Rm 6 6 28 93) (s.setVm vmT) m #[(.ref a1), (.ref a2)] below meth c T0 locs 2 10) (hx : p.tables.exec = Jvm.exec) (hZ : Z.Warmed39 (s.setVm vmT).vm) (hw : HW a0 Z) (hby : c.code = prog_1_method_2_code) (hml : c.maxLocals = 4) (hown : (s.setVm vmT).vm.findClass "com/example/cloud_to_core/cloudtocore/auth/HttpAuthorization" = some m.cls) (hret : meth.sig.returnType = some (.object "java/lang/String")) (hlocks : meth.locks = false) (e0 : T0.heap = hT) (Kt0 : Keep h0 hT []) (N0 : Fr n0 locs) (Z0 : n0 ≤ h0.size) (O0 : Old Z n0 h0) (hS0 : s.Since vmT kT) (hk0 : kT ≤ hT.size) (RT : CHr Z consts_1 s.vm h0 vmT hT) (hh : s.heap = h0) (E_rs : ES Z hT rs) (Fc_rs : FC Z hT rs) (Fv_rs : FV Z hT rs d) (V_d : AB Z hT d kd z B) (hz : ¬ z < 0) (hB : z.toNatClampNeg = B.length) (hM : 1 ≤ z.toInt ∧ z.toInt ≤ 6) (hl6 : B.length ≤ 6) (h32 : B.getD 0 0 = (32 : Int32)) (hall : z.toInt = (own_lw B : Int)) (hC : C = some []) (S_CS : SC Z cs) (h_cs : ¬ cs = (0 : Int32)) (S_F : SM Z fm) (h_fm : fm.isRef = true) (S_T : ST Z s_T) (TB : Tab Z Z.heap s_T cl .int (256 : Int32)) (hTb : HT cl) (S_I : SI Z s_I) (E_I : Exa Z Z.heap s_I "java/lang/CharacterDataLatin1") :
    ∃ s₂ o, Steps p.tables e below (T0.setTop (mkF m 32 #[vR a1, vR a2, vR rs, .val .null] [])) s₂ ∧ s₂.status = .running ∧ Ended s₂ below o ∧ ∃ v L, o = .returned v ∧ own_QC Z C h0 n0 v s₂.heap L ∧ CHr Z consts_1 s.vm s.heap s₂.vm s₂.heap ∧ ReturnedEndW s o s₂ L (Rm 6 6 28 93).cells (Rm 6 6 28 93).slots := by
  have pre1 : PP p e below (T0.setTop (mkF m 33 #[vR a1, vR a2, vR rs, .val .null] [iR rs])) (T0.setTop (mkF m 32 #[vR a1, vR a2, vR rs, .val .null] [])) := by
    intro t kt
    refine XS.aloadN X0.here hx rfl (hb hby d8_32) rfl rfl ?_
    exact kt
  obtain ⟨la2, T2, h2, kk2, lb2, kl2, X2, e2, E2, hS2, hk2, hZ, hown, EE2, FC2, FV2, VV2, -, -, C2, li2, ne2, st2⟩ := ldcCH (s := s) (vm0 := vmT) X0 hx hZ hown (ww hw 79 rfl) (own_strAtoms hw) e0 hS0 hk0 (own_EW hw) (List.mem_of_getElem? (i := 0) rfl) RT.1 (vs := own_bs [(32 : Int32)]) (z := (1 : Int32)) own_ct0 (by decide) (by decide) (g := (mkF m 33 #[vR a1, vR a2, vR rs, .val .null] [iR rs])) rfl (hb hby d8_33) (n := 4) (by decide) (by decide) (by decide) (by decide)
  have K2 : Keep h0 h2 [] := Kt0.ext E2
  have R2 := RT.trans C2
  have fk4 := (E_rs.ext E2)
  have fk5 := (Fc_rs.ext E2)
  have fk6 := (Fv_rs.ext E2)
  have fk7 := (V_d.ext E2)
  have Oh8 := O0.keep K2 all0
  obtain ⟨cq3, kq3, q3a, q3b, q3c⟩ := isOf hZ e2 fk4
  obtain ⟨_, _, ⟨T3, L3, k3, n3⟩, -, X3, ⟨Lc3, hQ3, l3, y3, z3⟩, st3⟩ := X2.virtualBack hx (y := mn_27) (z := mn_27) hown (mw hZ hw 80 rfl) (mw hZ hw 81 rfl) (notFace_of_selects (args := #[]) (mw hZ hw 83 rfl)) (mw hZ hw 83 rfl) (mw hZ hw 82 rfl) (by decide) (backOf (W := 0) (rm17_y l Z a0 hw [] rs la2 d kd z B lb2 kl2 cs h2 n0 Oh8 fk4 fk5 fk6 fk7 hz hB EE2 FC2 FV2 VV2 hM.1 h32 S_CS h_cs) hZ (ww hw 84 rfl) (ww hw 7 rfl) (by decide) (by decide)) q3a q3c (g := (mkF m 35 #[vR a1, vR a2, vR rs, .val .null] [iR la2, iR rs])) rfl (by rw [hml]; rfl) (Steps.refl _) (argsL := [(.ref la2)]) (rest := []) (lenOf pd_25 rfl) rfl (wz rfl) (hb hby d8_35) (fun _ _ => ⟨rfl, e2, (by decide : 4 + 0 ≤ _), (by decide : 18 + 0 ≤ _)⟩)
  dsimp only [Pt.U, Pt.locs, Pt.cells, Pt.slots] at X3 l3 y3 z3 st3 hQ3
  subst l3 y3 z3
  obtain ⟨rfl, rfl, e3⟩ := hQ3
  try rw [List.append_nil] at X3
  have pre10 : PP p e below (T3.setTop (mkF m 42 #[vR a1, vR a2, vR rs, .val .null] [iR rs])) (T0.setTop (mkF m 32 #[vR a1, vR a2, vR rs, .val .null] [])) := by
    intro t kt
    refine pre1 t ?_
    refine st2 _ ?_
    refine st3.trans ?_
    refine XS.ifNo X3.here hx rfl (hb hby d8_38) rfl ((if0 _ _).trans (feq (by decide : ¬ ((1 : Int32) = (0 : Int32)))).1) ?_
    refine XS.aloadN X3.here hx rfl (hb hby d8_41) rfl rfl ?_
    exact kt
  obtain ⟨cq9, kq9, q9a, q9b, q9c⟩ := isOf hZ e3 fk4
  obtain ⟨_, _, ⟨T9, L9, k9, n9⟩, -, X9, hS9q, gr9, ⟨Lc9, hQ9, l9, y9, z9, C9⟩, st9⟩ := virtualBackS (s := s.setVm T2.vm) X3 hx (y := mn_34) (z := mn_34) hown (mw hZ hw 94 rfl) (mw hZ hw 95 rfl) (notFace_of_selects (args := #[]) (mw hZ hw 97 rfl)) (mw hZ hw 97 rfl) (mw hZ hw 96 rfl) (by decide) (backOfSH (s := s) (vm0 := T2.vm) (W := 0) (rm20_e l Z a0 hw [] rs d kd z B   cs s_T s_I cl h2 n0 (Nat.le_trans Z0 K2.1) Oh8 fk4 fk5 fk6 fk7 hz hB hM hl6 hall S_CS h_cs S_T TB hTb S_I E_I) hZ (ww hw 98 rfl) (ww hw 7 rfl) (by decide) (by decide) (own_EW hw) R2.1) q9a q9c (g := (mkF m 42 #[vR a1, vR a2, vR rs, .val .null] [iR rs])) rfl (by rw [hml]; rfl) (Steps.refl _) (argsL := []) (rest := []) (lenOf pd_26 rfl) rfl (wz rfl) (hb hby d8_42) (fun _ _ => ⟨rfl, e3, (by decide : 4 + 2 ≤ _), (by decide : 18 + 4 ≤ _)⟩)
  dsimp only [Pt.U, Pt.locs, Pt.cells, Pt.slots] at X9 hS9q gr9 l9 y9 z9 C9 st9 hQ9
  subst l9 y9 z9
  have hS9 := State.Since.trans hS2 hS9q (Nat.le_trans (by have q := hk2; rw [← e3] at q; exact q) gr9)
  have hZ : Z.Warmed39 (s.setVm T9.vm).vm := State.Warmed39.trans (t := s.setVm T2.vm) hZ hS9q.1
  have hown : (s.setVm T9.vm).vm.findClass "com/example/cloud_to_core/cloudtocore/auth/HttpAuthorization" = some m.cls := by rw [show (s.setVm T9.vm).vm = T9.vm from rfl, hS9q.1.alike.findClass]; exact hown
  have R9 := R2.trans C9
  obtain ⟨o9, d9, kd9, rfl, N9q, K9q, E9q, C9q, F9q, V9q⟩ := hQ9
  have N9 := Fr.app N0 N9q
  have K9 : Keep h0 T9.heap [] := Keep.trans K2 K9q all0
  have hfin := R9.trans (CHv.at (s := s) (vm0 := T9.vm) X9 hZ (own_EW hw) R9.1)
  obtain ⟨fs, hr, hrun, hended, hEnd⟩ := X9.leaveW (s := s) hS9 (Nat.le_refl T9.heap.size) (v := some (.ref o9)) (fun h => by rw [hret] at h; cases h)
  refine ⟨_, _, pre10 _ ?_, hrun, hended, _, _, rfl, ?_, (by rw [hh]; show CHr Z consts_1 s.vm h0 T9.vm T9.heap; exact hfin), ⟨hEnd.1, hEnd.2.1, hEnd.2.2.1, hEnd.2.2.2.mono (by decide) (by decide)⟩⟩
  · refine st9.trans ?_
    refine XS.astoreN X9.here hx rfl (hb hby d8_45) rfl rfl (l' := #[vR a1, vR a2, vR rs, vR o9]) rfl ?_
    refine XS.aloadN X9.here hx rfl (hb hby d8_46) rfl rfl ?_
    show Steps _ _ _ (T9.setTop (mkF m 47 #[vR a1, vR a2, vR rs, vR o9] [iR o9])) _
    jvm_step X9.here [X9.here.top, hx, (hb hby d8_47), X9.method', hret, Value.isRef, FieldType.isReference]
    first | (intro acts; rw [hr _ acts rfl rfl rfl]) | rw [hr _ _ rfl rfl rfl]
    exact Steps.refl _
  · show own_QC Z C h0 n0 _ T9.heap _
    exact ⟨N9, K9, Or.inr ⟨_, _, _, _, _, hC, rfl, E9q, C9q, F9q, V9q, rfl⟩⟩
theorem own_t32_g {p : Program} {l : Launch} {e : Env} {s : State} {m : MethodId} {below : List Frame} {meth : Method} {c : Code} {T0 : State} {locs : List Loc} {Z : State} {a0 : Array Value} {h0 hT : Heap} {n0 : Nat} {vmT : Vm} {kT : Nat} {a1 a2 : Addr} {rs : Addr} {d : Addr} {kd : ClassId} {z : Int32} {B : List Int32} {lf rt n : Int32} {C : Option (List Int32)} {cs : Int32} {fm : Value} {s_T s_I : Addr} {cl : Cell}
    (X0 : Stand p l e (Rm 6 6 28 93) (s.setVm vmT) m #[(.ref a1), (.ref a2)] below meth c T0 locs 2 10) (hx : p.tables.exec = Jvm.exec) (hZ : Z.Warmed39 (s.setVm vmT).vm) (hw : HW a0 Z) (hby : c.code = prog_1_method_2_code) (hml : c.maxLocals = 4) (hown : (s.setVm vmT).vm.findClass "com/example/cloud_to_core/cloudtocore/auth/HttpAuthorization" = some m.cls) (hret : meth.sig.returnType = some (.object "java/lang/String")) (hlocks : meth.locks = false) (e0 : T0.heap = hT) (Kt0 : Keep h0 hT []) (N0 : Fr n0 locs) (Z0 : n0 ≤ h0.size) (O0 : Old Z n0 h0) (hS0 : s.Since vmT kT) (hk0 : kT ≤ hT.size) (RT : CHr Z consts_1 s.vm h0 vmT hT) (hh : s.heap = h0) (E_rs : ES Z hT rs) (Fc_rs : FC Z hT rs) (Fv_rs : FV Z hT rs d) (V_d : AB Z hT d kd z B) (hz : ¬ z < 0) (hB : z.toNatClampNeg = B.length) (hM : 1 ≤ z.toInt ∧ z.toInt ≤ 6) (hl6 : B.length ≤ 6) (h32 : B.getD 0 0 = (32 : Int32)) (hlf : lf.toInt = (own_lw B : Int)) (hrt : rt.toInt = (own_hw B B.length : Int)) (hn_ : rt.toInt = lf.toInt + n.toInt) (hf : 1 ≤ lf.toInt ∧ lf.toInt ≤ 6) (hn : 1 ≤ n.toInt ∧ n.toInt ≤ 6) (hle : lf.toInt + n.toInt ≤ z.toInt) (hC : C = some ((B.drop lf.toNatClampNeg).take n.toNatClampNeg)) (S_CS : SC Z cs) (h_cs : ¬ cs = (0 : Int32)) (S_F : SM Z fm) (h_fm : fm.isRef = true) (S_T : ST Z s_T) (TB : Tab Z Z.heap s_T cl .int (256 : Int32)) (hTb : HT cl) (S_I : SI Z s_I) (E_I : Exa Z Z.heap s_I "java/lang/CharacterDataLatin1") :
    ∃ s₂ o, Steps p.tables e below (T0.setTop (mkF m 32 #[vR a1, vR a2, vR rs, .val .null] [])) s₂ ∧ s₂.status = .running ∧ Ended s₂ below o ∧ ∃ v L, o = .returned v ∧ own_QC Z C h0 n0 v s₂.heap L ∧ CHr Z consts_1 s.vm s.heap s₂.vm s₂.heap ∧ ReturnedEndW s o s₂ L (Rm 6 6 28 93).cells (Rm 6 6 28 93).slots := by
  have pre1 : PP p e below (T0.setTop (mkF m 33 #[vR a1, vR a2, vR rs, .val .null] [iR rs])) (T0.setTop (mkF m 32 #[vR a1, vR a2, vR rs, .val .null] [])) := by
    intro t kt
    refine XS.aloadN X0.here hx rfl (hb hby d8_32) rfl rfl ?_
    exact kt
  obtain ⟨la2, T2, h2, kk2, lb2, kl2, X2, e2, E2, hS2, hk2, hZ, hown, EE2, FC2, FV2, VV2, -, -, C2, li2, ne2, st2⟩ := ldcCH (s := s) (vm0 := vmT) X0 hx hZ hown (ww hw 79 rfl) (own_strAtoms hw) e0 hS0 hk0 (own_EW hw) (List.mem_of_getElem? (i := 0) rfl) RT.1 (vs := own_bs [(32 : Int32)]) (z := (1 : Int32)) own_ct0 (by decide) (by decide) (g := (mkF m 33 #[vR a1, vR a2, vR rs, .val .null] [iR rs])) rfl (hb hby d8_33) (n := 4) (by decide) (by decide) (by decide) (by decide)
  have K2 : Keep h0 h2 [] := Kt0.ext E2
  have R2 := RT.trans C2
  have fk4 := (E_rs.ext E2)
  have fk5 := (Fc_rs.ext E2)
  have fk6 := (Fv_rs.ext E2)
  have fk7 := (V_d.ext E2)
  have Oh8 := O0.keep K2 all0
  obtain ⟨cq3, kq3, q3a, q3b, q3c⟩ := isOf hZ e2 fk4
  obtain ⟨_, _, ⟨T3, L3, k3, n3⟩, -, X3, ⟨Lc3, hQ3, l3, y3, z3⟩, st3⟩ := X2.virtualBack hx (y := mn_27) (z := mn_27) hown (mw hZ hw 80 rfl) (mw hZ hw 81 rfl) (notFace_of_selects (args := #[]) (mw hZ hw 83 rfl)) (mw hZ hw 83 rfl) (mw hZ hw 82 rfl) (by decide) (backOf (W := 0) (rm17_y l Z a0 hw [] rs la2 d kd z B lb2 kl2 cs h2 n0 Oh8 fk4 fk5 fk6 fk7 hz hB EE2 FC2 FV2 VV2 hM.1 h32 S_CS h_cs) hZ (ww hw 84 rfl) (ww hw 7 rfl) (by decide) (by decide)) q3a q3c (g := (mkF m 35 #[vR a1, vR a2, vR rs, .val .null] [iR la2, iR rs])) rfl (by rw [hml]; rfl) (Steps.refl _) (argsL := [(.ref la2)]) (rest := []) (lenOf pd_25 rfl) rfl (wz rfl) (hb hby d8_35) (fun _ _ => ⟨rfl, e2, (by decide : 4 + 0 ≤ _), (by decide : 18 + 0 ≤ _)⟩)
  dsimp only [Pt.U, Pt.locs, Pt.cells, Pt.slots] at X3 l3 y3 z3 st3 hQ3
  subst l3 y3 z3
  obtain ⟨rfl, rfl, e3⟩ := hQ3
  try rw [List.append_nil] at X3
  have pre10 : PP p e below (T3.setTop (mkF m 42 #[vR a1, vR a2, vR rs, .val .null] [iR rs])) (T0.setTop (mkF m 32 #[vR a1, vR a2, vR rs, .val .null] [])) := by
    intro t kt
    refine pre1 t ?_
    refine st2 _ ?_
    refine st3.trans ?_
    refine XS.ifNo X3.here hx rfl (hb hby d8_38) rfl ((if0 _ _).trans (feq (by decide : ¬ ((1 : Int32) = (0 : Int32)))).1) ?_
    refine XS.aloadN X3.here hx rfl (hb hby d8_41) rfl rfl ?_
    exact kt
  obtain ⟨cq9, kq9, q9a, q9b, q9c⟩ := isOf hZ e3 fk4
  obtain ⟨_, _, ⟨T9, L9, k9, n9⟩, -, X9, hS9q, gr9, ⟨Lc9, hQ9, l9, y9, z9, C9⟩, st9⟩ := virtualBackS (s := s.setVm T2.vm) X3 hx (y := mn_34) (z := mn_34) hown (mw hZ hw 94 rfl) (mw hZ hw 95 rfl) (notFace_of_selects (args := #[]) (mw hZ hw 97 rfl)) (mw hZ hw 97 rfl) (mw hZ hw 96 rfl) (by decide) (backOfSH (s := s) (vm0 := T2.vm) (W := 0) (rm20_g l Z a0 hw [] rs d kd z B lf rt n  cs s_T s_I cl h2 n0 (Nat.le_trans Z0 K2.1) Oh8 fk4 fk5 fk6 fk7 hz hB hM hl6 hlf hrt hn_ hf hn hle S_CS h_cs S_T TB hTb S_I E_I) hZ (ww hw 98 rfl) (ww hw 7 rfl) (by decide) (by decide) (own_EW hw) R2.1) q9a q9c (g := (mkF m 42 #[vR a1, vR a2, vR rs, .val .null] [iR rs])) rfl (by rw [hml]; rfl) (Steps.refl _) (argsL := []) (rest := []) (lenOf pd_26 rfl) rfl (wz rfl) (hb hby d8_42) (fun _ _ => ⟨rfl, e3, (by decide : 4 + 2 ≤ _), (by decide : 18 + 10 ≤ _)⟩)
  dsimp only [Pt.U, Pt.locs, Pt.cells, Pt.slots] at X9 hS9q gr9 l9 y9 z9 C9 st9 hQ9
  subst l9 y9 z9
  have hS9 := State.Since.trans hS2 hS9q (Nat.le_trans (by have q := hk2; rw [← e3] at q; exact q) gr9)
  have hZ : Z.Warmed39 (s.setVm T9.vm).vm := State.Warmed39.trans (t := s.setVm T2.vm) hZ hS9q.1
  have hown : (s.setVm T9.vm).vm.findClass "com/example/cloud_to_core/cloudtocore/auth/HttpAuthorization" = some m.cls := by rw [show (s.setVm T9.vm).vm = T9.vm from rfl, hS9q.1.alike.findClass]; exact hown
  have R9 := R2.trans C9
  obtain ⟨o9, d9, kd9, rfl, N9q, K9q, E9q, C9q, F9q, V9q⟩ := hQ9
  have N9 := Fr.app N0 N9q
  have K9 : Keep h0 T9.heap [] := Keep.trans K2 K9q all0
  have hfin := R9.trans (CHv.at (s := s) (vm0 := T9.vm) X9 hZ (own_EW hw) R9.1)
  obtain ⟨fs, hr, hrun, hended, hEnd⟩ := X9.leaveW (s := s) hS9 (Nat.le_refl T9.heap.size) (v := some (.ref o9)) (fun h => by rw [hret] at h; cases h)
  refine ⟨_, _, pre10 _ ?_, hrun, hended, _, _, rfl, ?_, (by rw [hh]; show CHr Z consts_1 s.vm h0 T9.vm T9.heap; exact hfin), ⟨hEnd.1, hEnd.2.1, hEnd.2.2.1, hEnd.2.2.2.mono (by decide) (by decide)⟩⟩
  · refine st9.trans ?_
    refine XS.astoreN X9.here hx rfl (hb hby d8_45) rfl rfl (l' := #[vR a1, vR a2, vR rs, vR o9]) rfl ?_
    refine XS.aloadN X9.here hx rfl (hb hby d8_46) rfl rfl ?_
    show Steps _ _ _ (T9.setTop (mkF m 47 #[vR a1, vR a2, vR rs, vR o9] [iR o9])) _
    jvm_step X9.here [X9.here.top, hx, (hb hby d8_47), X9.method', hret, Value.isRef, FieldType.isReference]
    first | (intro acts; rw [hr _ acts rfl rfl rfl]) | rw [hr _ _ rfl rfl rfl]
    exact Steps.refl _
  · show own_QC Z C h0 n0 _ T9.heap _
    exact ⟨N9, K9, Or.inr ⟨_, _, _, _, _, hC, rfl, E9q, C9q, F9q, V9q, own_lenT hB hle hf.1 hn.1⟩⟩
theorem own_t32 {p : Program} {l : Launch} {e : Env} {s : State} {m : MethodId} {below : List Frame} {meth : Method} {c : Code} {T0 : State} {locs : List Loc} {Z : State} {a0 : Array Value} {h0 hT : Heap} {n0 : Nat} {vmT : Vm} {kT : Nat} {a1 a2 : Addr} {rs : Addr} {d : Addr} {kd : ClassId} {z : Int32} {B : List Int32} {C : Option (List Int32)} {cs : Int32} {fm : Value} {s_T s_I : Addr} {cl : Cell}
    (X0 : Stand p l e (Rm 6 6 28 93) (s.setVm vmT) m #[(.ref a1), (.ref a2)] below meth c T0 locs 2 10) (hx : p.tables.exec = Jvm.exec) (hZ : Z.Warmed39 (s.setVm vmT).vm) (hw : HW a0 Z) (hby : c.code = prog_1_method_2_code) (hml : c.maxLocals = 4) (hown : (s.setVm vmT).vm.findClass "com/example/cloud_to_core/cloudtocore/auth/HttpAuthorization" = some m.cls) (hret : meth.sig.returnType = some (.object "java/lang/String")) (hlocks : meth.locks = false) (e0 : T0.heap = hT) (Kt0 : Keep h0 hT []) (N0 : Fr n0 locs) (Z0 : n0 ≤ h0.size) (O0 : Old Z n0 h0) (hS0 : s.Since vmT kT) (hk0 : kT ≤ hT.size) (RT : CHr Z consts_1 s.vm h0 vmT hT) (hh : s.heap = h0) (E_rs : ES Z hT rs) (Fc_rs : FC Z hT rs) (Fv_rs : FV Z hT rs d) (V_d : AB Z hT d kd z B) (hz : ¬ z < 0) (hB : z.toNatClampNeg = B.length) (hl6 : B.length ≤ 6) (hC : C = own_aft B) (S_CS : SC Z cs) (h_cs : ¬ cs = (0 : Int32)) (S_F : SM Z fm) (h_fm : fm.isRef = true) (S_T : ST Z s_T) (TB : Tab Z Z.heap s_T cl .int (256 : Int32)) (hTb : HT cl) (S_I : SI Z s_I) (E_I : Exa Z Z.heap s_I "java/lang/CharacterDataLatin1") :
    ∃ s₂ o, Steps p.tables e below (T0.setTop (mkF m 32 #[vR a1, vR a2, vR rs, .val .null] [])) s₂ ∧ s₂.status = .running ∧ Ended s₂ below o ∧ ∃ v L, o = .returned v ∧ own_QC Z C h0 n0 v s₂.heap L ∧ CHr Z consts_1 s.vm s.heap s₂.vm s₂.heap ∧ ReturnedEndW s o s₂ L (Rm 6 6 28 93).cells (Rm 6 6 28 93).slots := by
  by_cases hb : B.length = 0
  · obtain rfl : z = 0 := own_z0E hz hB 0 hb (by decide)
    obtain rfl : B = [] := List.eq_nil_of_length_eq_zero hb
    exact own_t32_0 X0 hx hZ hw hby hml hown hret hlocks e0 Kt0 N0 Z0 O0 hS0 hk0 RT hh E_rs Fc_rs Fv_rs V_d hC S_CS h_cs S_F h_fm S_T TB hTb S_I E_I
  have hM : 1 ≤ z.toInt ∧ z.toInt ≤ 6 := by
    rw [Int32.lt_iff_toInt_lt] at hz
    have e : (0 : Int32).toInt = 0 := rfl
    have hB' := hB
    simp only [Int32.toNatClampNeg] at hB'
    omega
  by_cases h32 : B.getD 0 0 = (32 : Int32)
  · rw [own_aft, if_pos h32] at hC
    have hzB : z.toInt = (B.length : Int) := by
      have hB' := hB
      simp only [Int32.toNatClampNeg] at hB'
      omega
    have hle := own_lwLe B
    have h1 := own_lwPos h32 (by omega)
    by_cases ha : own_lw B = B.length
    · exact own_t32_e X0 hx hZ hw hby hml hown hret hlocks e0 Kt0 N0 Z0 O0 hS0 hk0 RT hh E_rs Fc_rs Fv_rs V_d hz hB hM hl6 h32 (by rw [ha]; exact hzB) (by rw [hC, own_strip, ha, List.drop_length, List.take_nil]) S_CS h_cs S_F h_fm S_T TB hTb S_I E_I
    · have hg := own_hwGt B (own_lwAt B (by omega)) B.length (by omega)
      have hh_ := own_hwLe B B.length
      refine own_t32_g (lf := Int32.ofNat (own_lw B)) (rt := Int32.ofNat (own_hw B B.length)) (n := Int32.ofNat (own_hw B B.length - own_lw B)) X0 hx hZ hw hby hml hown hret hlocks e0 Kt0 N0 Z0 O0 hS0 hk0 RT hh E_rs Fc_rs Fv_rs V_d hz hB hM hl6 h32 (own_oN (by omega)) (own_oN (by omega)) ?_ ?_ ?_ ?_ ?_ S_CS h_cs S_F h_fm S_T TB hTb S_I E_I
      · rw [own_oN (by omega), own_oN (by omega), own_oN (by omega)]; omega
      · rw [own_oN (by omega)]; omega
      · rw [own_oN (by omega)]; omega
      · rw [own_oN (by omega), own_oN (by omega), hzB]; omega
      · rw [hC, own_strip, own_oC (by omega), own_oC (by omega)]
  · rw [own_aft, if_neg h32] at hC
    exact own_t32_n X0 hx hZ hw hby hml hown hret hlocks e0 Kt0 N0 Z0 O0 hS0 hk0 RT hh E_rs Fc_rs Fv_rs V_d hz hB hM hl6 h32 hC S_CS h_cs S_F h_fm S_T TB hTb S_I E_I
theorem d8_0 : dk c8 0 (.aload_n 0) 1 := by decide +kernel
theorem d8_1 : dk c8 1 (.ifnull 18) 3 := by decide +kernel
theorem d8_19 : dk c8 19 .aconst_null 1 := by decide +kernel
theorem d8_20 : dk c8 20 .areturn 1 := by decide +kernel
theorem pn_7 : plainName "com/example/cloud_to_core/cloudtocore/auth/HttpAuthorization" = true := by first | (simp [plainName, overriddenIn]; done) | decide +kernel
theorem ef_8_nl (m : MethodId) (x1 : Addr) : entryFrame m #[.null, (.ref x1)] 4 = mkF m 0 #[.val .null, .val (.ref x1), .unset, .unset] [] := by first | (simp [entryFrame, mkF, argsToLocals, Value.category]; done) | rfl
def Q8_nl (Z : State) (a2 : Addr) (C : Option (List Int32)) (cs : Int32) (fm : Value) (s_T s_I : Addr) (cl : Cell) (h0 : Heap) (n0 : Nat) (v : Option Value) (h : Heap) (L : List Loc) : Prop := own_QC Z C h0 n0 v h L
theorem rm8_nl (l : Launch) (Z : State) (a0 : Array Value) (hw : HW a0 Z) (ws : List Jvm.Cond) (a2 : Addr) (C : Option (List Int32)) (cs : Int32) (fm : Value) (s_T s_I : Addr) (cl : Cell) (h0 : Heap) (n0 : Nat) (Z0 : n0 ≤ h0.size) (O0 : Old Z n0 h0) (hC : C = none) (S_CS : SC Z cs) (h_cs : ¬ cs = (0 : Int32)) (S_F : SM Z fm) (h_fm : fm.isRef = true) (S_T : ST Z s_T) (TB : Tab Z Z.heap s_T cl .int (256 : Int32)) (hTb : HT cl) (S_I : SI Z s_I) (E_I : Exa Z Z.heap s_I "java/lang/CharacterDataLatin1") :
    MFh l mn_35 prog_1_method_2_code 4 (some (.object "java/lang/String")) ws (Rm 6 6 28 93) #[.null, (.ref a2)] Z h0 (Q8_nl Z a2 C cs fm s_T s_I cl h0 n0) := by
  refine MetFree.of_bodySF (plainFor_of_name pn_7) hisR ?_
  intro p e s m args below meth c s₁ Bd hml0 hP hK
  obtain ⟨rfl, hZ, hh, hC0⟩ := hP
  have hx := Bd.exec
  have hby := Bd.bytes
  have hml : c.maxLocals = 4 := hml0
  have hown := findClass_of_methodNamed Bd.named
  have X0 : Stand p l e (Rm 6 6 28 93) s m _ below meth c _ [] 0 0 := Stand.of_body Bd
  have e0 : s₁.heap = h0 := by rw [← hh, Bd.state]; rfl
  have R0 := CHr.refl hC0
  have N0 := Fr.nil n0
  have K0 := Keep.refl h0 []
  have pre0 := cast0 (p := p) (e := e) (below := below) (T := s₁) (ef_8_nl m a2)
  have hfin := R0.trans (CHv.at (s := s) (vm0 := s.vm) X0 hZ (own_EW hw) R0.1)
  obtain ⟨fs, hr, hrun, hended, hW, hsame⟩ := X0.leave (v := some .null) (fun h => by rw [Bd.returns] at h; cases h)
  refine ⟨_, _, pre0 _ ?_, hrun, hended, _, _, rfl, ?_, (by rw [hh]; show CHr Z consts_1 s.vm h0 s₁.vm s₁.heap; rw [e0]; exact hfin), ReturnedEndW.of_narrow ⟨_, rfl⟩ hW (hsame.mono (by decide) (by decide))⟩
  · refine XS.aloadN X0.here hx rfl (hb hby d8_0) rfl rfl ?_
    refine XS.ifnullYes X0.here hx rfl (pc0 := 1) (pc' := 19) rfl (hb hby d8_1) rfl (by decide) (by decide) ?_
    refine XS.aconstNull X0.here hx rfl (hb hby d8_19) ?_
    show Steps _ _ _ (s₁.setTop (mkF m 20 #[.val .null, vR a2, .unset, .unset] [.null])) _
    jvm_step X0.here [X0.here.top, hx, (hb hby d8_20), X0.method', Bd.returns, Value.isRef, FieldType.isReference]
    first | (intro acts; rw [hr _ acts rfl rfl rfl]) | rw [hr _ _ rfl rfl rfl]
    exact Steps.refl _
  · show Q8_nl Z a2 C cs fm s_T s_I cl h0 n0 _ s₁.heap _
    rw [e0]
    exact ⟨N0, K0, Or.inl ⟨hC, rfl⟩⟩
theorem d8_4 : dk c8 4 (.aload_n 0) 1 := by decide +kernel
theorem d8_5 : dk c8 5 (.iconst 1) 1 := by decide +kernel
theorem d8_6 : dk c8 6 (.iconst 0) 1 := by decide +kernel
theorem d8_7 : dk c8 7 (.aload_n 1) 1 := by decide +kernel
theorem d8_8 : dk c8 8 (.iconst 0) 1 := by decide +kernel
theorem d8_9 : dk c8 9 (.aload_n 1) 1 := by decide +kernel
theorem d8_10 : dk c8 10 (.invokevirtual 7) 3 := by decide +kernel
theorem d8_13 : dk c8 13 (.invokevirtual 13) 3 := by decide +kernel
theorem d8_16 : dk c8 16 (.ifCond .ne 5) 3 := by decide +kernel
theorem d8_21 : dk c8 21 (.aload_n 0) 1 := by decide +kernel
theorem d8_22 : dk c8 22 (.aload_n 1) 1 := by decide +kernel
theorem d8_23 : dk c8 23 (.invokevirtual 7) 3 := by decide +kernel
theorem d8_26 : dk c8 26 (.invokevirtual 17) 3 := by decide +kernel
theorem d8_29 : dk c8 29 (.astore_n 2) 1 := by decide +kernel
theorem d8_30 : dk c8 30 .aconst_null 1 := by decide +kernel
theorem d8_31 : dk c8 31 (.astore_n 3) 1 := by decide +kernel
theorem ef_8_z (m : MethodId) (x0 : Addr) (x1 : Addr) : entryFrame m #[(.ref x0), (.ref x1)] 4 = mkF m 0 #[.val (.ref x0), .val (.ref x1), .unset, .unset] [] := by first | (simp [entryFrame, mkF, argsToLocals, Value.category]; done) | rfl
def Q8_z (Z : State) (a1 : Addr) (a2 : Addr) (d : Addr) (kd : ClassId) (z : Int32) (B : List Int32) (ds : Addr) (kds : ClassId) (C : Option (List Int32)) (cs : Int32) (fm : Value) (s_T s_I : Addr) (cl : Cell) (h0 : Heap) (n0 : Nat) (v : Option Value) (h : Heap) (L : List Loc) : Prop := own_QC Z C h0 n0 v h L
theorem rm8_z (l : Launch) (Z : State) (a0 : Array Value) (hw : HW a0 Z) (ws : List Jvm.Cond) (a1 : Addr) (a2 : Addr) (d : Addr) (kd : ClassId) (z : Int32) (B : List Int32) (ds : Addr) (kds : ClassId) (C : Option (List Int32)) (cs : Int32) (fm : Value) (s_T s_I : Addr) (cl : Cell) (h0 : Heap) (n0 : Nat) (Z0 : n0 ≤ h0.size) (O0 : Old Z n0 h0) (E_a1 : ES Z h0 a1) (Fc_a1 : FC Z h0 a1) (Fv_a1 : FV Z h0 a1 d) (V_d : AB Z h0 d kd z B) (hz : ¬ z < 0) (hB : z.toNatClampNeg = B.length) (E_a2 : ES Z h0 a2) (Fc_a2 : FC Z h0 a2) (Fv_a2 : FV Z h0 a2 ds) (V_ds : AB Z h0 ds kds (0 : Int32) []) (hge : (0 : Int32).toInt ≤ z.toInt) (hl6 : B.length ≤ 6) (hC : C = own_aft B) (S_CS : SC Z cs) (h_cs : ¬ cs = (0 : Int32)) (S_F : SM Z fm) (h_fm : fm.isRef = true) (S_T : ST Z s_T) (TB : Tab Z Z.heap s_T cl .int (256 : Int32)) (hTb : HT cl) (S_I : SI Z s_I) (E_I : Exa Z Z.heap s_I "java/lang/CharacterDataLatin1") :
    MFh l mn_35 prog_1_method_2_code 4 (some (.object "java/lang/String")) ws (Rm 6 6 28 93) #[(.ref a1), (.ref a2)] Z h0 (Q8_z Z a1 a2 d kd z B ds kds C cs fm s_T s_I cl h0 n0) := by
  refine MetFree.of_bodySF (plainFor_of_name pn_7) hisR ?_
  intro p e s m args below meth c s₁ Bd hml0 hP hK
  obtain ⟨rfl, hZ, hh, hC0⟩ := hP
  have hx := Bd.exec
  have hby := Bd.bytes
  have hml : c.maxLocals = 4 := hml0
  have hown := findClass_of_methodNamed Bd.named
  have X0 : Stand p l e (Rm 6 6 28 93) s m _ below meth c _ [] 0 0 := Stand.of_body Bd
  have e0 : s₁.heap = h0 := by rw [← hh, Bd.state]; rfl
  have R0 := CHr.refl hC0
  have N0 := Fr.nil n0
  have K0 := Keep.refl h0 []
  have pre0 := cast0 (p := p) (e := e) (below := below) (T := s₁) (ef_8_z m a1 a2)
  obtain ⟨cq1, kq1, q1a, q1b, q1c⟩ := isOf hZ e0 E_a2
  obtain ⟨_, _, ⟨T1, L1, k1, n1⟩, -, X1, ⟨Lc1, hQ1, l1, y1, z1⟩, st1⟩ := X0.virtualBack hx (y := mn_11) (z := mn_11) hown (mw hZ hw 41 rfl) (mw hZ hw 42 rfl) (notFace_of_selects (args := #[]) (mw hZ hw 44 rfl)) (mw hZ hw 44 rfl) (mw hZ hw 43 rfl) (by decide) (backOf (W := 5) (rm9 l Z a0 hw [] a2 ds kds (0 : Int32) [] cs h0 n0 O0 E_a2 Fc_a2 Fv_a2 V_ds (by decide) rfl S_CS h_cs) hZ (ww hw 45 rfl) (ww hw 7 rfl) (by decide) (by decide)) q1a q1c (g := (mkF m 10 #[vR a1, vR a2, .unset, .unset] [iR a2, iI 0, iR a2, iI 0, iI 1, iR a1])) rfl (by rw [hml]; rfl) (Steps.refl _) (argsL := []) (rest := [(.int (0 : Int32)), (.ref a2), (.int (0 : Int32)), (.int (1 : Int32)), (.ref a1)]) (lenOf pd_10 rfl) rfl (wz rfl) (hb hby d8_10) (fun _ _ => ⟨rfl, e0, (by decide : 0 + 0 ≤ _), (by decide : 0 + 0 ≤ _)⟩)
  dsimp only [Pt.U, Pt.locs, Pt.cells, Pt.slots] at X1 l1 y1 z1 st1 hQ1
  subst l1 y1 z1
  obtain ⟨rfl, rfl, e1⟩ := hQ1
  try rw [List.append_nil] at X1
  obtain ⟨cq2, kq2, q2a, q2b, q2c⟩ := isOf hZ e1 E_a1
  obtain ⟨_, _, ⟨T2, L2, k2, n2⟩, -, X2, ⟨Lc2, hQ2, l2, y2, z2⟩, st2⟩ := X1.virtualBack hx (y := mn_14) (z := mn_14) hown (mw hZ hw 51 rfl) (mw hZ hw 52 rfl) (notFace_of_selects (args := #[]) (mw hZ hw 54 rfl)) (mw hZ hw 54 rfl) (mw hZ hw 53 rfl) (by decide) (backOf (W := 0) (rm11_g l Z a0 hw [] a1 a2 d kd z B ds kds (0 : Int32) [] cs h0 n0 O0 E_a1 Fc_a1 Fv_a1 V_d hz hB E_a2 Fc_a2 Fv_a2 V_ds (by decide) rfl (by decide) hge S_CS h_cs) hZ (ww hw 55 rfl) (ww hw 7 rfl) (by decide) (by decide)) q2a q2c (g := (mkF m 13 #[vR a1, vR a2, .unset, .unset] [iI 0, iI 0, iR a2, iI 0, iI 1, iR a1])) rfl (by rw [hml]; rfl) (Steps.refl _) (argsL := [(.int (1 : Int32)), (.int (0 : Int32)), (.ref a2), (.int (0 : Int32)), (.int (0 : Int32))]) (rest := []) (lenOf pd_27 rfl) rfl (wz rfl) (hb hby d8_13) (fun _ _ => ⟨rfl, e1, (by decide : 0 + 0 ≤ _), (by decide : 0 + 0 ≤ _)⟩)
  dsimp only [Pt.U, Pt.locs, Pt.cells, Pt.slots] at X2 l2 y2 z2 st2 hQ2
  subst l2 y2 z2
  obtain ⟨rfl, rfl, e2⟩ := hQ2
  try rw [List.append_nil] at X2
  have hh3 : ¬ ((nar .boolean (own_rcS B [])) = (0 : Int32)) := (by rw [own_rcS, own_rc0]; decide)
  obtain ⟨cq4, kq4, q4a, q4b, q4c⟩ := isOf hZ e2 E_a2
  obtain ⟨_, _, ⟨T4, L4, k4, n4⟩, -, X4, ⟨Lc4, hQ4, l4, y4, z4⟩, st4⟩ := X2.virtualBack hx (y := mn_11) (z := mn_11) hown (mw hZ hw 41 rfl) (mw hZ hw 42 rfl) (notFace_of_selects (args := #[]) (mw hZ hw 44 rfl)) (mw hZ hw 44 rfl) (mw hZ hw 43 rfl) (by decide) (backOf (W := 1) (rm9 l Z a0 hw [] a2 ds kds (0 : Int32) [] cs h0 n0 O0 E_a2 Fc_a2 Fv_a2 V_ds (by decide) rfl S_CS h_cs) hZ (ww hw 45 rfl) (ww hw 7 rfl) (by decide) (by decide)) q4a q4c (g := (mkF m 23 #[vR a1, vR a2, .unset, .unset] [iR a2, iR a1])) rfl (by rw [hml]; rfl) (Steps.refl _) (argsL := []) (rest := [(.ref a1)]) (lenOf pd_10 rfl) rfl (wz rfl) (hb hby d8_23) (fun _ _ => ⟨rfl, e2, (by decide : 0 + 0 ≤ _), (by decide : 0 + 0 ≤ _)⟩)
  dsimp only [Pt.U, Pt.locs, Pt.cells, Pt.slots] at X4 l4 y4 z4 st4 hQ4
  subst l4 y4 z4
  obtain ⟨rfl, rfl, e4⟩ := hQ4
  try rw [List.append_nil] at X4
  obtain ⟨cq5, kq5, q5a, q5b, q5c⟩ := isOf hZ e4 E_a1
  obtain ⟨_, _, ⟨T5, L5, k5, n5⟩, -, X5, ⟨Lc5, hQ5, l5, y5, z5⟩, st5⟩ := X4.virtualBack hx (y := mn_24) (z := mn_24) hown (mw hZ hw 61 rfl) (mw hZ hw 62 rfl) (notFace_of_selects (args := #[]) (mw hZ hw 64 rfl)) (mw hZ hw 64 rfl) (mw hZ hw 63 rfl) (by decide) (backOf (W := 0) (rm13_z l Z a0 hw [] a1 d kd z B cs fm h0 n0 O0 E_a1 Fc_a1 Fv_a1 V_d hz hB  S_CS h_cs S_F h_fm) hZ (ww hw 65 rfl) (ww hw 7 rfl) (by decide) (by decide)) q5a q5c (g := (mkF m 26 #[vR a1, vR a2, .unset, .unset] [iI 0, iR a1])) rfl (by rw [hml]; rfl) (Steps.refl _) (argsL := [(.int (0 : Int32))]) (rest := []) (lenOf pd_28 rfl) rfl (wz rfl) (hb hby d8_26) (fun _ _ => ⟨rfl, e4, (by decide : 0 + 0 ≤ _), (by decide : 0 + 0 ≤ _)⟩)
  dsimp only [Pt.U, Pt.locs, Pt.cells, Pt.slots] at X5 l5 y5 z5 st5 hQ5
  subst l5 y5 z5
  obtain ⟨rfl, rfl, e5⟩ := hQ5
  try rw [List.append_nil] at X5
  have pre6 : PP p e below (T5.setTop (mkF m 32 #[vR a1, vR a2, vR a1, .val .null] [])) (s₁.setTop (entryFrame m #[(.ref a1), (.ref a2)] 4)) := by
    intro t kt
    refine pre0 t ?_
    refine XS.aloadN X0.here hx rfl (hb hby d8_0) rfl rfl ?_
    refine XS.ifnullNo X0.here hx rfl (hb hby d8_1) rfl ?_
    refine XS.aloadN X0.here hx rfl (hb hby d8_4) rfl rfl ?_
    refine XS.iconst X0.here hx rfl (hb hby d8_5) ?_
    refine XS.iconst X0.here hx rfl (hb hby d8_6) ?_
    refine XS.aloadN X0.here hx rfl (hb hby d8_7) rfl rfl ?_
    show SA s₁ m 8 #[vR a1, vR a2, .unset, .unset] [iR a2, iI 0, iI 1, iR a1]
    refine XS.iconst X0.here hx rfl (hb hby d8_8) ?_
    refine XS.aloadN X0.here hx rfl (hb hby d8_9) rfl rfl ?_
    refine st1.trans ?_
    refine st2.trans ?_
    refine XS.ifYes X2.here hx rfl (pc0 := 16) (pc' := 21) rfl (hb hby d8_16) rfl ((if0 _ _).trans (feq hh3).2) (by decide) (by decide) ?_
    refine XS.aloadN X2.here hx rfl (hb hby d8_21) rfl rfl ?_
    refine XS.aloadN X2.here hx rfl (hb hby d8_22) rfl rfl ?_
    refine st4.trans ?_
    refine st5.trans ?_
    refine XS.astoreN X5.here hx rfl (hb hby d8_29) rfl rfl (l' := #[vR a1, vR a2, vR a1, .unset]) rfl ?_
    refine XS.aconstNull X5.here hx rfl (hb hby d8_30) ?_
    refine XS.astoreN X5.here hx rfl (hb hby d8_31) rfl rfl (l' := #[vR a1, vR a2, vR a1, .val .null]) rfl ?_
    exact kt
  obtain ⟨s₂, o₂, hs₂, hr₂⟩ := own_t32 (rs := a1) (d := d) (kd := kd) (z := z) (B := B) (s := s) (vmT := s.vm) (X5.more (by decide) (by decide)) hx hZ hw hby hml hown Bd.returns (by first | assumption | exact BodyLoose.notSynchronized (by assumption) | exact Body.notSynchronized (by assumption)) e5 K0 N0 Z0 O0 ((State.WarmedH.refl s).since 0) (Nat.zero_le _) R0 hh E_a1 Fc_a1 Fv_a1 V_d hz hB hl6 hC S_CS h_cs S_F h_fm S_T TB hTb S_I E_I
  exact ⟨s₂, o₂, pre6 _ hs₂, hr₂⟩
theorem ef_8_l (m : MethodId) (x0 : Addr) (x1 : Addr) : entryFrame m #[(.ref x0), (.ref x1)] 4 = mkF m 0 #[.val (.ref x0), .val (.ref x1), .unset, .unset] [] := by first | (simp [entryFrame, mkF, argsToLocals, Value.category]; done) | rfl
def Q8_l (Z : State) (a1 : Addr) (a2 : Addr) (d : Addr) (kd : ClassId) (z : Int32) (B : List Int32) (ds : Addr) (kds : ClassId) (zs : Int32) (Bs : List Int32) (C : Option (List Int32)) (cs : Int32) (fm : Value) (s_T s_I : Addr) (cl : Cell) (h0 : Heap) (n0 : Nat) (v : Option Value) (h : Heap) (L : List Loc) : Prop := own_QC Z C h0 n0 v h L
theorem rm8_l (l : Launch) (Z : State) (a0 : Array Value) (hw : HW a0 Z) (ws : List Jvm.Cond) (a1 : Addr) (a2 : Addr) (d : Addr) (kd : ClassId) (z : Int32) (B : List Int32) (ds : Addr) (kds : ClassId) (zs : Int32) (Bs : List Int32) (C : Option (List Int32)) (cs : Int32) (fm : Value) (s_T s_I : Addr) (cl : Cell) (h0 : Heap) (n0 : Nat) (Z0 : n0 ≤ h0.size) (O0 : Old Z n0 h0) (E_a1 : ES Z h0 a1) (Fc_a1 : FC Z h0 a1) (Fv_a1 : FV Z h0 a1 d) (V_d : AB Z h0 d kd z B) (hz : ¬ z < 0) (hB : z.toNatClampNeg = B.length) (E_a2 : ES Z h0 a2) (Fc_a2 : FC Z h0 a2) (Fv_a2 : FV Z h0 a2 ds) (V_ds : AB Z h0 ds kds zs Bs) (hzs : ¬ zs < 0) (hBs : zs.toNatClampNeg = Bs.length) (hs3 : Bs.length ≤ 3) (hlt : z.toInt < zs.toInt) (hC : C = none) (S_CS : SC Z cs) (h_cs : ¬ cs = (0 : Int32)) (S_F : SM Z fm) (h_fm : fm.isRef = true) (S_T : ST Z s_T) (TB : Tab Z Z.heap s_T cl .int (256 : Int32)) (hTb : HT cl) (S_I : SI Z s_I) (E_I : Exa Z Z.heap s_I "java/lang/CharacterDataLatin1") :
    MFh l mn_35 prog_1_method_2_code 4 (some (.object "java/lang/String")) ws (Rm 6 6 28 93) #[(.ref a1), (.ref a2)] Z h0 (Q8_l Z a1 a2 d kd z B ds kds zs Bs C cs fm s_T s_I cl h0 n0) := by
  refine MetFree.of_bodySF (plainFor_of_name pn_7) hisR ?_
  intro p e s m args below meth c s₁ Bd hml0 hP hK
  obtain ⟨rfl, hZ, hh, hC0⟩ := hP
  have hx := Bd.exec
  have hby := Bd.bytes
  have hml : c.maxLocals = 4 := hml0
  have hown := findClass_of_methodNamed Bd.named
  have X0 : Stand p l e (Rm 6 6 28 93) s m _ below meth c _ [] 0 0 := Stand.of_body Bd
  have e0 : s₁.heap = h0 := by rw [← hh, Bd.state]; rfl
  have R0 := CHr.refl hC0
  have N0 := Fr.nil n0
  have K0 := Keep.refl h0 []
  have pre0 := cast0 (p := p) (e := e) (below := below) (T := s₁) (ef_8_l m a1 a2)
  obtain ⟨cq1, kq1, q1a, q1b, q1c⟩ := isOf hZ e0 E_a2
  obtain ⟨_, _, ⟨T1, L1, k1, n1⟩, -, X1, ⟨Lc1, hQ1, l1, y1, z1⟩, st1⟩ := X0.virtualBack hx (y := mn_11) (z := mn_11) hown (mw hZ hw 41 rfl) (mw hZ hw 42 rfl) (notFace_of_selects (args := #[]) (mw hZ hw 44 rfl)) (mw hZ hw 44 rfl) (mw hZ hw 43 rfl) (by decide) (backOf (W := 5) (rm9 l Z a0 hw [] a2 ds kds zs Bs cs h0 n0 O0 E_a2 Fc_a2 Fv_a2 V_ds hzs hBs S_CS h_cs) hZ (ww hw 45 rfl) (ww hw 7 rfl) (by decide) (by decide)) q1a q1c (g := (mkF m 10 #[vR a1, vR a2, .unset, .unset] [iR a2, iI 0, iR a2, iI 0, iI 1, iR a1])) rfl (by rw [hml]; rfl) (Steps.refl _) (argsL := []) (rest := [(.int (0 : Int32)), (.ref a2), (.int (0 : Int32)), (.int (1 : Int32)), (.ref a1)]) (lenOf pd_10 rfl) rfl (wz rfl) (hb hby d8_10) (fun _ _ => ⟨rfl, e0, (by decide : 0 + 0 ≤ _), (by decide : 0 + 0 ≤ _)⟩)
  dsimp only [Pt.U, Pt.locs, Pt.cells, Pt.slots] at X1 l1 y1 z1 st1 hQ1
  subst l1 y1 z1
  obtain ⟨rfl, rfl, e1⟩ := hQ1
  try rw [List.append_nil] at X1
  obtain ⟨cq2, kq2, q2a, q2b, q2c⟩ := isOf hZ e1 E_a1
  obtain ⟨_, _, ⟨T2, L2, k2, n2⟩, -, X2, ⟨Lc2, hQ2, l2, y2, z2⟩, st2⟩ := X1.virtualBack hx (y := mn_14) (z := mn_14) hown (mw hZ hw 51 rfl) (mw hZ hw 52 rfl) (notFace_of_selects (args := #[]) (mw hZ hw 54 rfl)) (mw hZ hw 54 rfl) (mw hZ hw 53 rfl) (by decide) (backOf (W := 0) (rm11_l l Z a0 hw [] a1 a2 d kd z B ds kds zs Bs cs h0 n0 O0 E_a1 Fc_a1 Fv_a1 V_d hz hB E_a2 Fc_a2 Fv_a2 V_ds hzs hBs hs3 hlt S_CS h_cs) hZ (ww hw 55 rfl) (ww hw 7 rfl) (by decide) (by decide)) q2a q2c (g := (mkF m 13 #[vR a1, vR a2, .unset, .unset] [iI zs, iI 0, iR a2, iI 0, iI 1, iR a1])) rfl (by rw [hml]; rfl) (Steps.refl _) (argsL := [(.int (1 : Int32)), (.int (0 : Int32)), (.ref a2), (.int (0 : Int32)), (.int zs)]) (rest := []) (lenOf pd_27 rfl) rfl (wz rfl) (hb hby d8_13) (fun _ _ => ⟨rfl, e1, (by decide : 0 + 0 ≤ _), (by decide : 0 + 0 ≤ _)⟩)
  dsimp only [Pt.U, Pt.locs, Pt.cells, Pt.slots] at X2 l2 y2 z2 st2 hQ2
  subst l2 y2 z2
  obtain ⟨rfl, rfl, e2⟩ := hQ2
  try rw [List.append_nil] at X2
  have hfin := R0.trans (CHv.at (s := s) (vm0 := s.vm) X2 hZ (own_EW hw) R0.1)
  obtain ⟨fs, hr, hrun, hended, hW, hsame⟩ := X2.leave (v := some .null) (fun h => by rw [Bd.returns] at h; cases h)
  refine ⟨_, _, pre0 _ ?_, hrun, hended, _, _, rfl, ?_, (by rw [hh]; show CHr Z consts_1 s.vm h0 T2.vm T2.heap; rw [e2]; exact hfin), ReturnedEndW.of_narrow ⟨_, rfl⟩ hW (hsame.mono (by decide) (by decide))⟩
  · refine XS.aloadN X0.here hx rfl (hb hby d8_0) rfl rfl ?_
    refine XS.ifnullNo X0.here hx rfl (hb hby d8_1) rfl ?_
    refine XS.aloadN X0.here hx rfl (hb hby d8_4) rfl rfl ?_
    refine XS.iconst X0.here hx rfl (hb hby d8_5) ?_
    refine XS.iconst X0.here hx rfl (hb hby d8_6) ?_
    refine XS.aloadN X0.here hx rfl (hb hby d8_7) rfl rfl ?_
    show SA s₁ m 8 #[vR a1, vR a2, .unset, .unset] [iR a2, iI 0, iI 1, iR a1]
    refine XS.iconst X0.here hx rfl (hb hby d8_8) ?_
    refine XS.aloadN X0.here hx rfl (hb hby d8_9) rfl rfl ?_
    refine st1.trans ?_
    refine st2.trans ?_
    refine XS.ifNo X2.here hx rfl (hb hby d8_16) rfl ((if0 _ _).trans (teq (by decide : (0 : Int32) = (0 : Int32))).2) ?_
    refine XS.aconstNull X2.here hx rfl (hb hby d8_19) ?_
    show Steps _ _ _ (T2.setTop (mkF m 20 #[vR a1, vR a2, .unset, .unset] [.null])) _
    jvm_step X2.here [X2.here.top, hx, (hb hby d8_20), X2.method', Bd.returns, Value.isRef, FieldType.isReference]
    first | (intro acts; rw [hr _ acts rfl rfl rfl]) | rw [hr _ _ rfl rfl rfl]
    exact Steps.refl _
  · show Q8_l Z a1 a2 d kd z B ds kds zs Bs C cs fm s_T s_I cl h0 n0 _ T2.heap _
    rw [e2]
    exact ⟨N0, K0, Or.inl ⟨hC, rfl⟩⟩
theorem ef_8_n (m : MethodId) (x0 : Addr) (x1 : Addr) : entryFrame m #[(.ref x0), (.ref x1)] 4 = mkF m 0 #[.val (.ref x0), .val (.ref x1), .unset, .unset] [] := by first | (simp [entryFrame, mkF, argsToLocals, Value.category]; done) | rfl
def Q8_n (Z : State) (a1 : Addr) (a2 : Addr) (d : Addr) (kd : ClassId) (z : Int32) (B : List Int32) (ds : Addr) (kds : ClassId) (zs : Int32) (Bs : List Int32) (C : Option (List Int32)) (cs : Int32) (fm : Value) (s_T s_I : Addr) (cl : Cell) (h0 : Heap) (n0 : Nat) (v : Option Value) (h : Heap) (L : List Loc) : Prop := own_QC Z C h0 n0 v h L
theorem rm8_n (l : Launch) (Z : State) (a0 : Array Value) (hw : HW a0 Z) (ws : List Jvm.Cond) (a1 : Addr) (a2 : Addr) (d : Addr) (kd : ClassId) (z : Int32) (B : List Int32) (ds : Addr) (kds : ClassId) (zs : Int32) (Bs : List Int32) (C : Option (List Int32)) (cs : Int32) (fm : Value) (s_T s_I : Addr) (cl : Cell) (h0 : Heap) (n0 : Nat) (Z0 : n0 ≤ h0.size) (O0 : Old Z n0 h0) (E_a1 : ES Z h0 a1) (Fc_a1 : FC Z h0 a1) (Fv_a1 : FV Z h0 a1 d) (V_d : AB Z h0 d kd z B) (hz : ¬ z < 0) (hB : z.toNatClampNeg = B.length) (E_a2 : ES Z h0 a2) (Fc_a2 : FC Z h0 a2) (Fv_a2 : FV Z h0 a2 ds) (V_ds : AB Z h0 ds kds zs Bs) (hzs : ¬ zs < 0) (hBs : zs.toNatClampNeg = Bs.length) (hs3 : Bs.length ≤ 3) (hge : zs.toInt ≤ z.toInt) (hrc : (nar .boolean (own_rcS B Bs)) = (0 : Int32)) (hC : C = none) (S_CS : SC Z cs) (h_cs : ¬ cs = (0 : Int32)) (S_F : SM Z fm) (h_fm : fm.isRef = true) (S_T : ST Z s_T) (TB : Tab Z Z.heap s_T cl .int (256 : Int32)) (hTb : HT cl) (S_I : SI Z s_I) (E_I : Exa Z Z.heap s_I "java/lang/CharacterDataLatin1") :
    MFh l mn_35 prog_1_method_2_code 4 (some (.object "java/lang/String")) ws (Rm 6 6 28 93) #[(.ref a1), (.ref a2)] Z h0 (Q8_n Z a1 a2 d kd z B ds kds zs Bs C cs fm s_T s_I cl h0 n0) := by
  refine MetFree.of_bodySF (plainFor_of_name pn_7) hisR ?_
  intro p e s m args below meth c s₁ Bd hml0 hP hK
  obtain ⟨rfl, hZ, hh, hC0⟩ := hP
  have hx := Bd.exec
  have hby := Bd.bytes
  have hml : c.maxLocals = 4 := hml0
  have hown := findClass_of_methodNamed Bd.named
  have X0 : Stand p l e (Rm 6 6 28 93) s m _ below meth c _ [] 0 0 := Stand.of_body Bd
  have e0 : s₁.heap = h0 := by rw [← hh, Bd.state]; rfl
  have R0 := CHr.refl hC0
  have N0 := Fr.nil n0
  have K0 := Keep.refl h0 []
  have pre0 := cast0 (p := p) (e := e) (below := below) (T := s₁) (ef_8_n m a1 a2)
  obtain ⟨cq1, kq1, q1a, q1b, q1c⟩ := isOf hZ e0 E_a2
  obtain ⟨_, _, ⟨T1, L1, k1, n1⟩, -, X1, ⟨Lc1, hQ1, l1, y1, z1⟩, st1⟩ := X0.virtualBack hx (y := mn_11) (z := mn_11) hown (mw hZ hw 41 rfl) (mw hZ hw 42 rfl) (notFace_of_selects (args := #[]) (mw hZ hw 44 rfl)) (mw hZ hw 44 rfl) (mw hZ hw 43 rfl) (by decide) (backOf (W := 5) (rm9 l Z a0 hw [] a2 ds kds zs Bs cs h0 n0 O0 E_a2 Fc_a2 Fv_a2 V_ds hzs hBs S_CS h_cs) hZ (ww hw 45 rfl) (ww hw 7 rfl) (by decide) (by decide)) q1a q1c (g := (mkF m 10 #[vR a1, vR a2, .unset, .unset] [iR a2, iI 0, iR a2, iI 0, iI 1, iR a1])) rfl (by rw [hml]; rfl) (Steps.refl _) (argsL := []) (rest := [(.int (0 : Int32)), (.ref a2), (.int (0 : Int32)), (.int (1 : Int32)), (.ref a1)]) (lenOf pd_10 rfl) rfl (wz rfl) (hb hby d8_10) (fun _ _ => ⟨rfl, e0, (by decide : 0 + 0 ≤ _), (by decide : 0 + 0 ≤ _)⟩)
  dsimp only [Pt.U, Pt.locs, Pt.cells, Pt.slots] at X1 l1 y1 z1 st1 hQ1
  subst l1 y1 z1
  obtain ⟨rfl, rfl, e1⟩ := hQ1
  try rw [List.append_nil] at X1
  obtain ⟨cq2, kq2, q2a, q2b, q2c⟩ := isOf hZ e1 E_a1
  obtain ⟨_, _, ⟨T2, L2, k2, n2⟩, -, X2, ⟨Lc2, hQ2, l2, y2, z2⟩, st2⟩ := X1.virtualBack hx (y := mn_14) (z := mn_14) hown (mw hZ hw 51 rfl) (mw hZ hw 52 rfl) (notFace_of_selects (args := #[]) (mw hZ hw 54 rfl)) (mw hZ hw 54 rfl) (mw hZ hw 53 rfl) (by decide) (backOf (W := 0) (rm11_g l Z a0 hw [] a1 a2 d kd z B ds kds zs Bs cs h0 n0 O0 E_a1 Fc_a1 Fv_a1 V_d hz hB E_a2 Fc_a2 Fv_a2 V_ds hzs hBs hs3 hge S_CS h_cs) hZ (ww hw 55 rfl) (ww hw 7 rfl) (by decide) (by decide)) q2a q2c (g := (mkF m 13 #[vR a1, vR a2, .unset, .unset] [iI zs, iI 0, iR a2, iI 0, iI 1, iR a1])) rfl (by rw [hml]; rfl) (Steps.refl _) (argsL := [(.int (1 : Int32)), (.int (0 : Int32)), (.ref a2), (.int (0 : Int32)), (.int zs)]) (rest := []) (lenOf pd_27 rfl) rfl (wz rfl) (hb hby d8_13) (fun _ _ => ⟨rfl, e1, (by decide : 0 + 0 ≤ _), (by decide : 0 + 0 ≤ _)⟩)
  dsimp only [Pt.U, Pt.locs, Pt.cells, Pt.slots] at X2 l2 y2 z2 st2 hQ2
  subst l2 y2 z2
  obtain ⟨rfl, rfl, e2⟩ := hQ2
  try rw [List.append_nil] at X2
  have hh3 : (nar .boolean (own_rcS B Bs)) = (0 : Int32) := hrc
  have hfin := R0.trans (CHv.at (s := s) (vm0 := s.vm) X2 hZ (own_EW hw) R0.1)
  obtain ⟨fs, hr, hrun, hended, hW, hsame⟩ := X2.leave (v := some .null) (fun h => by rw [Bd.returns] at h; cases h)
  refine ⟨_, _, pre0 _ ?_, hrun, hended, _, _, rfl, ?_, (by rw [hh]; show CHr Z consts_1 s.vm h0 T2.vm T2.heap; rw [e2]; exact hfin), ReturnedEndW.of_narrow ⟨_, rfl⟩ hW (hsame.mono (by decide) (by decide))⟩
  · refine XS.aloadN X0.here hx rfl (hb hby d8_0) rfl rfl ?_
    refine XS.ifnullNo X0.here hx rfl (hb hby d8_1) rfl ?_
    refine XS.aloadN X0.here hx rfl (hb hby d8_4) rfl rfl ?_
    refine XS.iconst X0.here hx rfl (hb hby d8_5) ?_
    refine XS.iconst X0.here hx rfl (hb hby d8_6) ?_
    refine XS.aloadN X0.here hx rfl (hb hby d8_7) rfl rfl ?_
    show SA s₁ m 8 #[vR a1, vR a2, .unset, .unset] [iR a2, iI 0, iI 1, iR a1]
    refine XS.iconst X0.here hx rfl (hb hby d8_8) ?_
    refine XS.aloadN X0.here hx rfl (hb hby d8_9) rfl rfl ?_
    refine st1.trans ?_
    refine st2.trans ?_
    refine XS.ifNo X2.here hx rfl (hb hby d8_16) rfl ((if0 _ _).trans (teq hh3).2) ?_
    refine XS.aconstNull X2.here hx rfl (hb hby d8_19) ?_
    show Steps _ _ _ (T2.setTop (mkF m 20 #[vR a1, vR a2, .unset, .unset] [.null])) _
    jvm_step X2.here [X2.here.top, hx, (hb hby d8_20), X2.method', Bd.returns, Value.isRef, FieldType.isReference]
    first | (intro acts; rw [hr _ acts rfl rfl rfl]) | rw [hr _ _ rfl rfl rfl]
    exact Steps.refl _
  · show Q8_n Z a1 a2 d kd z B ds kds zs Bs C cs fm s_T s_I cl h0 n0 _ T2.heap _
    rw [e2]
    exact ⟨N0, K0, Or.inl ⟨hC, rfl⟩⟩
theorem ef_8_e (m : MethodId) (x0 : Addr) (x1 : Addr) : entryFrame m #[(.ref x0), (.ref x1)] 4 = mkF m 0 #[.val (.ref x0), .val (.ref x1), .unset, .unset] [] := by first | (simp [entryFrame, mkF, argsToLocals, Value.category]; done) | rfl
def Q8_e (Z : State) (a1 : Addr) (a2 : Addr) (d : Addr) (kd : ClassId) (z : Int32) (B : List Int32) (ds : Addr) (kds : ClassId) (zs : Int32) (Bs : List Int32) (C : Option (List Int32)) (cs : Int32) (fm : Value) (s_T s_I : Addr) (cl : Cell) (h0 : Heap) (n0 : Nat) (v : Option Value) (h : Heap) (L : List Loc) : Prop := own_QC Z C h0 n0 v h L
theorem rm8_e (l : Launch) (Z : State) (a0 : Array Value) (hw : HW a0 Z) (ws : List Jvm.Cond) (a1 : Addr) (a2 : Addr) (d : Addr) (kd : ClassId) (z : Int32) (B : List Int32) (ds : Addr) (kds : ClassId) (zs : Int32) (Bs : List Int32) (C : Option (List Int32)) (cs : Int32) (fm : Value) (s_T s_I : Addr) (cl : Cell) (h0 : Heap) (n0 : Nat) (Z0 : n0 ≤ h0.size) (O0 : Old Z n0 h0) (E_a1 : ES Z h0 a1) (Fc_a1 : FC Z h0 a1) (Fv_a1 : FV Z h0 a1 d) (V_d : AB Z h0 d kd z B) (hz : ¬ z < 0) (hB : z.toNatClampNeg = B.length) (E_a2 : ES Z h0 a2) (Fc_a2 : FC Z h0 a2) (Fv_a2 : FV Z h0 a2 ds) (V_ds : AB Z h0 ds kds zs Bs) (hzs : ¬ zs < 0) (hBs : zs.toNatClampNeg = Bs.length) (hs3 : Bs.length ≤ 3) (hge : zs.toInt ≤ z.toInt) (hrc : ¬ (nar .boolean (own_rcS B Bs)) = (0 : Int32)) (hf : 1 ≤ zs.toInt ∧ zs.toInt ≤ 6) (hzr : z.toInt = zs.toInt + (0 : Int32).toInt) (hC : C = own_aft []) (S_CS : SC Z cs) (h_cs : ¬ cs = (0 : Int32)) (S_F : SM Z fm) (h_fm : fm.isRef = true) (S_T : ST Z s_T) (TB : Tab Z Z.heap s_T cl .int (256 : Int32)) (hTb : HT cl) (S_I : SI Z s_I) (E_I : Exa Z Z.heap s_I "java/lang/CharacterDataLatin1") :
    MFh l mn_35 prog_1_method_2_code 4 (some (.object "java/lang/String")) ws (Rm 6 6 28 93) #[(.ref a1), (.ref a2)] Z h0 (Q8_e Z a1 a2 d kd z B ds kds zs Bs C cs fm s_T s_I cl h0 n0) := by
  refine MetFree.of_bodySF (plainFor_of_name pn_7) hisR ?_
  intro p e s m args below meth c s₁ Bd hml0 hP hK
  obtain ⟨rfl, hZ, hh, hC0⟩ := hP
  have hx := Bd.exec
  have hby := Bd.bytes
  have hml : c.maxLocals = 4 := hml0
  have hown := findClass_of_methodNamed Bd.named
  have X0 : Stand p l e (Rm 6 6 28 93) s m _ below meth c _ [] 0 0 := Stand.of_body Bd
  have e0 : s₁.heap = h0 := by rw [← hh, Bd.state]; rfl
  have R0 := CHr.refl hC0
  have N0 := Fr.nil n0
  have K0 := Keep.refl h0 []
  have pre0 := cast0 (p := p) (e := e) (below := below) (T := s₁) (ef_8_e m a1 a2)
  obtain ⟨cq1, kq1, q1a, q1b, q1c⟩ := isOf hZ e0 E_a2
  obtain ⟨_, _, ⟨T1, L1, k1, n1⟩, -, X1, ⟨Lc1, hQ1, l1, y1, z1⟩, st1⟩ := X0.virtualBack hx (y := mn_11) (z := mn_11) hown (mw hZ hw 41 rfl) (mw hZ hw 42 rfl) (notFace_of_selects (args := #[]) (mw hZ hw 44 rfl)) (mw hZ hw 44 rfl) (mw hZ hw 43 rfl) (by decide) (backOf (W := 5) (rm9 l Z a0 hw [] a2 ds kds zs Bs cs h0 n0 O0 E_a2 Fc_a2 Fv_a2 V_ds hzs hBs S_CS h_cs) hZ (ww hw 45 rfl) (ww hw 7 rfl) (by decide) (by decide)) q1a q1c (g := (mkF m 10 #[vR a1, vR a2, .unset, .unset] [iR a2, iI 0, iR a2, iI 0, iI 1, iR a1])) rfl (by rw [hml]; rfl) (Steps.refl _) (argsL := []) (rest := [(.int (0 : Int32)), (.ref a2), (.int (0 : Int32)), (.int (1 : Int32)), (.ref a1)]) (lenOf pd_10 rfl) rfl (wz rfl) (hb hby d8_10) (fun _ _ => ⟨rfl, e0, (by decide : 0 + 0 ≤ _), (by decide : 0 + 0 ≤ _)⟩)
  dsimp only [Pt.U, Pt.locs, Pt.cells, Pt.slots] at X1 l1 y1 z1 st1 hQ1
  subst l1 y1 z1
  obtain ⟨rfl, rfl, e1⟩ := hQ1
  try rw [List.append_nil] at X1
  obtain ⟨cq2, kq2, q2a, q2b, q2c⟩ := isOf hZ e1 E_a1
  obtain ⟨_, _, ⟨T2, L2, k2, n2⟩, -, X2, ⟨Lc2, hQ2, l2, y2, z2⟩, st2⟩ := X1.virtualBack hx (y := mn_14) (z := mn_14) hown (mw hZ hw 51 rfl) (mw hZ hw 52 rfl) (notFace_of_selects (args := #[]) (mw hZ hw 54 rfl)) (mw hZ hw 54 rfl) (mw hZ hw 53 rfl) (by decide) (backOf (W := 0) (rm11_g l Z a0 hw [] a1 a2 d kd z B ds kds zs Bs cs h0 n0 O0 E_a1 Fc_a1 Fv_a1 V_d hz hB E_a2 Fc_a2 Fv_a2 V_ds hzs hBs hs3 hge S_CS h_cs) hZ (ww hw 55 rfl) (ww hw 7 rfl) (by decide) (by decide)) q2a q2c (g := (mkF m 13 #[vR a1, vR a2, .unset, .unset] [iI zs, iI 0, iR a2, iI 0, iI 1, iR a1])) rfl (by rw [hml]; rfl) (Steps.refl _) (argsL := [(.int (1 : Int32)), (.int (0 : Int32)), (.ref a2), (.int (0 : Int32)), (.int zs)]) (rest := []) (lenOf pd_27 rfl) rfl (wz rfl) (hb hby d8_13) (fun _ _ => ⟨rfl, e1, (by decide : 0 + 0 ≤ _), (by decide : 0 + 0 ≤ _)⟩)
  dsimp only [Pt.U, Pt.locs, Pt.cells, Pt.slots] at X2 l2 y2 z2 st2 hQ2
  subst l2 y2 z2
  obtain ⟨rfl, rfl, e2⟩ := hQ2
  try rw [List.append_nil] at X2
  have hh3 : ¬ ((nar .boolean (own_rcS B Bs)) = (0 : Int32)) := hrc
  obtain ⟨cq4, kq4, q4a, q4b, q4c⟩ := isOf hZ e2 E_a2
  obtain ⟨_, _, ⟨T4, L4, k4, n4⟩, -, X4, ⟨Lc4, hQ4, l4, y4, z4⟩, st4⟩ := X2.virtualBack hx (y := mn_11) (z := mn_11) hown (mw hZ hw 41 rfl) (mw hZ hw 42 rfl) (notFace_of_selects (args := #[]) (mw hZ hw 44 rfl)) (mw hZ hw 44 rfl) (mw hZ hw 43 rfl) (by decide) (backOf (W := 1) (rm9 l Z a0 hw [] a2 ds kds zs Bs cs h0 n0 O0 E_a2 Fc_a2 Fv_a2 V_ds hzs hBs S_CS h_cs) hZ (ww hw 45 rfl) (ww hw 7 rfl) (by decide) (by decide)) q4a q4c (g := (mkF m 23 #[vR a1, vR a2, .unset, .unset] [iR a2, iR a1])) rfl (by rw [hml]; rfl) (Steps.refl _) (argsL := []) (rest := [(.ref a1)]) (lenOf pd_10 rfl) rfl (wz rfl) (hb hby d8_23) (fun _ _ => ⟨rfl, e2, (by decide : 0 + 0 ≤ _), (by decide : 0 + 0 ≤ _)⟩)
  dsimp only [Pt.U, Pt.locs, Pt.cells, Pt.slots] at X4 l4 y4 z4 st4 hQ4
  subst l4 y4 z4
  obtain ⟨rfl, rfl, e4⟩ := hQ4
  try rw [List.append_nil] at X4
  have pre6 : PP p e below (T4.setTop (mkF m 26 #[vR a1, vR a2, .unset, .unset] [iI zs, iR a1])) (s₁.setTop (entryFrame m #[(.ref a1), (.ref a2)] 4)) := by
    intro t kt
    refine pre0 t ?_
    refine XS.aloadN X0.here hx rfl (hb hby d8_0) rfl rfl ?_
    refine XS.ifnullNo X0.here hx rfl (hb hby d8_1) rfl ?_
    refine XS.aloadN X0.here hx rfl (hb hby d8_4) rfl rfl ?_
    refine XS.iconst X0.here hx rfl (hb hby d8_5) ?_
    refine XS.iconst X0.here hx rfl (hb hby d8_6) ?_
    refine XS.aloadN X0.here hx rfl (hb hby d8_7) rfl rfl ?_
    show SA s₁ m 8 #[vR a1, vR a2, .unset, .unset] [iR a2, iI 0, iI 1, iR a1]
    refine XS.iconst X0.here hx rfl (hb hby d8_8) ?_
    refine XS.aloadN X0.here hx rfl (hb hby d8_9) rfl rfl ?_
    refine st1.trans ?_
    refine st2.trans ?_
    refine XS.ifYes X2.here hx rfl (pc0 := 16) (pc' := 21) rfl (hb hby d8_16) rfl ((if0 _ _).trans (feq hh3).2) (by decide) (by decide) ?_
    refine XS.aloadN X2.here hx rfl (hb hby d8_21) rfl rfl ?_
    refine XS.aloadN X2.here hx rfl (hb hby d8_22) rfl rfl ?_
    refine st4.trans ?_
    exact kt
  obtain ⟨cq5, kq5, q5a, q5b, q5c⟩ := isOf hZ e4 E_a1
  obtain ⟨_, _, ⟨T5, L5, k5, n5⟩, -, X5, hS5q, gr5, ⟨Lc5, hQ5, l5, y5, z5, C5⟩, st5⟩ := virtualBackS (s := s.setVm s.vm) X4 hx (y := mn_24) (z := mn_24) hown (mw hZ hw 61 rfl) (mw hZ hw 62 rfl) (notFace_of_selects (args := #[]) (mw hZ hw 64 rfl)) (mw hZ hw 64 rfl) (mw hZ hw 63 rfl) (by decide) (backOfSH (s := s) (vm0 := s.vm) (W := 0) (rm13_e l Z a0 hw [] a1 zs d kd z B cs fm h0 n0 (Nat.le_trans Z0 K0.1) O0 E_a1 Fc_a1 Fv_a1 V_d hz hB hf hzr S_CS h_cs S_F h_fm) hZ (ww hw 65 rfl) (ww hw 7 rfl) (by decide) (by decide) (own_EW hw) R0.1) q5a q5c (g := (mkF m 26 #[vR a1, vR a2, .unset, .unset] [iI zs, iR a1])) rfl (by rw [hml]; rfl) (Steps.refl _) (argsL := [(.int zs)]) (rest := []) (lenOf pd_28 rfl) rfl (wz rfl) (hb hby d8_26) (fun _ _ => ⟨rfl, e4, (by decide : 0 + 2 ≤ _), (by decide : 0 + 4 ≤ _)⟩)
  dsimp only [Pt.U, Pt.locs, Pt.cells, Pt.slots] at X5 hS5q gr5 l5 y5 z5 C5 st5 hQ5
  subst l5 y5 z5
  have hS5 := State.Since.trans ((State.WarmedH.refl s).since 0) hS5q (Nat.zero_le _)
  have hZ : Z.Warmed39 (s.setVm T5.vm).vm := State.Warmed39.trans (t := s.setVm s.vm) hZ hS5q.1
  have hown : (s.setVm T5.vm).vm.findClass "com/example/cloud_to_core/cloudtocore/auth/HttpAuthorization" = some m.cls := by rw [show (s.setVm T5.vm).vm = T5.vm from rfl, hS5q.1.alike.findClass]; exact hown
  have R5 := R0.trans C5
  obtain ⟨o5, d5, kd5, rfl, N5q, K5q, E5q, C5q, F5q, V5q⟩ := hQ5
  have N5 := Fr.app N0 N5q
  have K5 : Keep h0 T5.heap [] := Keep.trans K0 K5q all0
  have pre7 : PP p e below (T5.setTop (mkF m 32 #[vR a1, vR a2, vR o5, .val .null] [])) (s₁.setTop (entryFrame m #[(.ref a1), (.ref a2)] 4)) := by
    intro t kt
    refine pre6 t ?_
    refine st5.trans ?_
    refine XS.astoreN X5.here hx rfl (hb hby d8_29) rfl rfl (l' := #[vR a1, vR a2, vR o5, .unset]) rfl ?_
    refine XS.aconstNull X5.here hx rfl (hb hby d8_30) ?_
    refine XS.astoreN X5.here hx rfl (hb hby d8_31) rfl rfl (l' := #[vR a1, vR a2, vR o5, .val .null]) rfl ?_
    exact kt
  obtain ⟨s₂, o₂, hs₂, hr₂⟩ := own_t32 (rs := o5) (d := d5) (kd := kd5) (z := (0 : Int32)) (B := []) (s := s) (vmT := T5.vm) (X5.more (by decide) (by decide)) hx hZ hw hby hml hown Bd.returns (by first | assumption | exact BodyLoose.notSynchronized (by assumption) | exact Body.notSynchronized (by assumption)) (rfl : T5.heap = _) K5 N5 Z0 O0 hS5 (Nat.le_refl T5.heap.size) R5 hh E5q C5q F5q V5q (by decide) rfl (by decide) hC S_CS h_cs S_F h_fm S_T TB hTb S_I E_I
  exact ⟨s₂, o₂, pre7 _ hs₂, hr₂⟩
theorem ef_8_g (m : MethodId) (x0 : Addr) (x1 : Addr) : entryFrame m #[(.ref x0), (.ref x1)] 4 = mkF m 0 #[.val (.ref x0), .val (.ref x1), .unset, .unset] [] := by first | (simp [entryFrame, mkF, argsToLocals, Value.category]; done) | rfl
def Q8_g (Z : State) (a1 : Addr) (a2 : Addr) (d : Addr) (kd : ClassId) (z : Int32) (B : List Int32) (ds : Addr) (kds : ClassId) (zs : Int32) (Bs : List Int32) (zr : Int32) (C : Option (List Int32)) (cs : Int32) (fm : Value) (s_T s_I : Addr) (cl : Cell) (h0 : Heap) (n0 : Nat) (v : Option Value) (h : Heap) (L : List Loc) : Prop := own_QC Z C h0 n0 v h L
theorem rm8_g (l : Launch) (Z : State) (a0 : Array Value) (hw : HW a0 Z) (ws : List Jvm.Cond) (a1 : Addr) (a2 : Addr) (d : Addr) (kd : ClassId) (z : Int32) (B : List Int32) (ds : Addr) (kds : ClassId) (zs : Int32) (Bs : List Int32) (zr : Int32) (C : Option (List Int32)) (cs : Int32) (fm : Value) (s_T s_I : Addr) (cl : Cell) (h0 : Heap) (n0 : Nat) (Z0 : n0 ≤ h0.size) (O0 : Old Z n0 h0) (E_a1 : ES Z h0 a1) (Fc_a1 : FC Z h0 a1) (Fv_a1 : FV Z h0 a1 d) (V_d : AB Z h0 d kd z B) (hz : ¬ z < 0) (hB : z.toNatClampNeg = B.length) (E_a2 : ES Z h0 a2) (Fc_a2 : FC Z h0 a2) (Fv_a2 : FV Z h0 a2 ds) (V_ds : AB Z h0 ds kds zs Bs) (hzs : ¬ zs < 0) (hBs : zs.toNatClampNeg = Bs.length) (hs3 : Bs.length ≤ 3) (hge : zs.toInt ≤ z.toInt) (hrc : ¬ (nar .boolean (own_rcS B Bs)) = (0 : Int32)) (hf : 1 ≤ zs.toInt ∧ zs.toInt ≤ 6) (hzr : z.toInt = zs.toInt + zr.toInt) (hr1 : 1 ≤ zr.toInt ∧ zr.toInt ≤ 6) (hC : C = own_aft ((B.drop zs.toNatClampNeg).take zr.toNatClampNeg)) (S_CS : SC Z cs) (h_cs : ¬ cs = (0 : Int32)) (S_F : SM Z fm) (h_fm : fm.isRef = true) (S_T : ST Z s_T) (TB : Tab Z Z.heap s_T cl .int (256 : Int32)) (hTb : HT cl) (S_I : SI Z s_I) (E_I : Exa Z Z.heap s_I "java/lang/CharacterDataLatin1") :
    MFh l mn_35 prog_1_method_2_code 4 (some (.object "java/lang/String")) ws (Rm 6 6 28 93) #[(.ref a1), (.ref a2)] Z h0 (Q8_g Z a1 a2 d kd z B ds kds zs Bs zr C cs fm s_T s_I cl h0 n0) := by
  refine MetFree.of_bodySF (plainFor_of_name pn_7) hisR ?_
  intro p e s m args below meth c s₁ Bd hml0 hP hK
  obtain ⟨rfl, hZ, hh, hC0⟩ := hP
  have hx := Bd.exec
  have hby := Bd.bytes
  have hml : c.maxLocals = 4 := hml0
  have hown := findClass_of_methodNamed Bd.named
  have X0 : Stand p l e (Rm 6 6 28 93) s m _ below meth c _ [] 0 0 := Stand.of_body Bd
  have e0 : s₁.heap = h0 := by rw [← hh, Bd.state]; rfl
  have R0 := CHr.refl hC0
  have N0 := Fr.nil n0
  have K0 := Keep.refl h0 []
  have pre0 := cast0 (p := p) (e := e) (below := below) (T := s₁) (ef_8_g m a1 a2)
  obtain ⟨cq1, kq1, q1a, q1b, q1c⟩ := isOf hZ e0 E_a2
  obtain ⟨_, _, ⟨T1, L1, k1, n1⟩, -, X1, ⟨Lc1, hQ1, l1, y1, z1⟩, st1⟩ := X0.virtualBack hx (y := mn_11) (z := mn_11) hown (mw hZ hw 41 rfl) (mw hZ hw 42 rfl) (notFace_of_selects (args := #[]) (mw hZ hw 44 rfl)) (mw hZ hw 44 rfl) (mw hZ hw 43 rfl) (by decide) (backOf (W := 5) (rm9 l Z a0 hw [] a2 ds kds zs Bs cs h0 n0 O0 E_a2 Fc_a2 Fv_a2 V_ds hzs hBs S_CS h_cs) hZ (ww hw 45 rfl) (ww hw 7 rfl) (by decide) (by decide)) q1a q1c (g := (mkF m 10 #[vR a1, vR a2, .unset, .unset] [iR a2, iI 0, iR a2, iI 0, iI 1, iR a1])) rfl (by rw [hml]; rfl) (Steps.refl _) (argsL := []) (rest := [(.int (0 : Int32)), (.ref a2), (.int (0 : Int32)), (.int (1 : Int32)), (.ref a1)]) (lenOf pd_10 rfl) rfl (wz rfl) (hb hby d8_10) (fun _ _ => ⟨rfl, e0, (by decide : 0 + 0 ≤ _), (by decide : 0 + 0 ≤ _)⟩)
  dsimp only [Pt.U, Pt.locs, Pt.cells, Pt.slots] at X1 l1 y1 z1 st1 hQ1
  subst l1 y1 z1
  obtain ⟨rfl, rfl, e1⟩ := hQ1
  try rw [List.append_nil] at X1
  obtain ⟨cq2, kq2, q2a, q2b, q2c⟩ := isOf hZ e1 E_a1
  obtain ⟨_, _, ⟨T2, L2, k2, n2⟩, -, X2, ⟨Lc2, hQ2, l2, y2, z2⟩, st2⟩ := X1.virtualBack hx (y := mn_14) (z := mn_14) hown (mw hZ hw 51 rfl) (mw hZ hw 52 rfl) (notFace_of_selects (args := #[]) (mw hZ hw 54 rfl)) (mw hZ hw 54 rfl) (mw hZ hw 53 rfl) (by decide) (backOf (W := 0) (rm11_g l Z a0 hw [] a1 a2 d kd z B ds kds zs Bs cs h0 n0 O0 E_a1 Fc_a1 Fv_a1 V_d hz hB E_a2 Fc_a2 Fv_a2 V_ds hzs hBs hs3 hge S_CS h_cs) hZ (ww hw 55 rfl) (ww hw 7 rfl) (by decide) (by decide)) q2a q2c (g := (mkF m 13 #[vR a1, vR a2, .unset, .unset] [iI zs, iI 0, iR a2, iI 0, iI 1, iR a1])) rfl (by rw [hml]; rfl) (Steps.refl _) (argsL := [(.int (1 : Int32)), (.int (0 : Int32)), (.ref a2), (.int (0 : Int32)), (.int zs)]) (rest := []) (lenOf pd_27 rfl) rfl (wz rfl) (hb hby d8_13) (fun _ _ => ⟨rfl, e1, (by decide : 0 + 0 ≤ _), (by decide : 0 + 0 ≤ _)⟩)
  dsimp only [Pt.U, Pt.locs, Pt.cells, Pt.slots] at X2 l2 y2 z2 st2 hQ2
  subst l2 y2 z2
  obtain ⟨rfl, rfl, e2⟩ := hQ2
  try rw [List.append_nil] at X2
  have hh3 : ¬ ((nar .boolean (own_rcS B Bs)) = (0 : Int32)) := hrc
  obtain ⟨cq4, kq4, q4a, q4b, q4c⟩ := isOf hZ e2 E_a2
  obtain ⟨_, _, ⟨T4, L4, k4, n4⟩, -, X4, ⟨Lc4, hQ4, l4, y4, z4⟩, st4⟩ := X2.virtualBack hx (y := mn_11) (z := mn_11) hown (mw hZ hw 41 rfl) (mw hZ hw 42 rfl) (notFace_of_selects (args := #[]) (mw hZ hw 44 rfl)) (mw hZ hw 44 rfl) (mw hZ hw 43 rfl) (by decide) (backOf (W := 1) (rm9 l Z a0 hw [] a2 ds kds zs Bs cs h0 n0 O0 E_a2 Fc_a2 Fv_a2 V_ds hzs hBs S_CS h_cs) hZ (ww hw 45 rfl) (ww hw 7 rfl) (by decide) (by decide)) q4a q4c (g := (mkF m 23 #[vR a1, vR a2, .unset, .unset] [iR a2, iR a1])) rfl (by rw [hml]; rfl) (Steps.refl _) (argsL := []) (rest := [(.ref a1)]) (lenOf pd_10 rfl) rfl (wz rfl) (hb hby d8_23) (fun _ _ => ⟨rfl, e2, (by decide : 0 + 0 ≤ _), (by decide : 0 + 0 ≤ _)⟩)
  dsimp only [Pt.U, Pt.locs, Pt.cells, Pt.slots] at X4 l4 y4 z4 st4 hQ4
  subst l4 y4 z4
  obtain ⟨rfl, rfl, e4⟩ := hQ4
  try rw [List.append_nil] at X4
  have pre6 : PP p e below (T4.setTop (mkF m 26 #[vR a1, vR a2, .unset, .unset] [iI zs, iR a1])) (s₁.setTop (entryFrame m #[(.ref a1), (.ref a2)] 4)) := by
    intro t kt
    refine pre0 t ?_
    refine XS.aloadN X0.here hx rfl (hb hby d8_0) rfl rfl ?_
    refine XS.ifnullNo X0.here hx rfl (hb hby d8_1) rfl ?_
    refine XS.aloadN X0.here hx rfl (hb hby d8_4) rfl rfl ?_
    refine XS.iconst X0.here hx rfl (hb hby d8_5) ?_
    refine XS.iconst X0.here hx rfl (hb hby d8_6) ?_
    refine XS.aloadN X0.here hx rfl (hb hby d8_7) rfl rfl ?_
    show SA s₁ m 8 #[vR a1, vR a2, .unset, .unset] [iR a2, iI 0, iI 1, iR a1]
    refine XS.iconst X0.here hx rfl (hb hby d8_8) ?_
    refine XS.aloadN X0.here hx rfl (hb hby d8_9) rfl rfl ?_
    refine st1.trans ?_
    refine st2.trans ?_
    refine XS.ifYes X2.here hx rfl (pc0 := 16) (pc' := 21) rfl (hb hby d8_16) rfl ((if0 _ _).trans (feq hh3).2) (by decide) (by decide) ?_
    refine XS.aloadN X2.here hx rfl (hb hby d8_21) rfl rfl ?_
    refine XS.aloadN X2.here hx rfl (hb hby d8_22) rfl rfl ?_
    refine st4.trans ?_
    exact kt
  obtain ⟨cq5, kq5, q5a, q5b, q5c⟩ := isOf hZ e4 E_a1
  obtain ⟨_, _, ⟨T5, L5, k5, n5⟩, -, X5, hS5q, gr5, ⟨Lc5, hQ5, l5, y5, z5, C5⟩, st5⟩ := virtualBackS (s := s.setVm s.vm) X4 hx (y := mn_24) (z := mn_24) hown (mw hZ hw 61 rfl) (mw hZ hw 62 rfl) (notFace_of_selects (args := #[]) (mw hZ hw 64 rfl)) (mw hZ hw 64 rfl) (mw hZ hw 63 rfl) (by decide) (backOfSH (s := s) (vm0 := s.vm) (W := 0) (rm13_g l Z a0 hw [] a1 zs d kd z B zr cs fm h0 n0 (Nat.le_trans Z0 K0.1) O0 E_a1 Fc_a1 Fv_a1 V_d hz hB hf hzr hr1 S_CS h_cs S_F h_fm) hZ (ww hw 65 rfl) (ww hw 7 rfl) (by decide) (by decide) (own_EW hw) R0.1) q5a q5c (g := (mkF m 26 #[vR a1, vR a2, .unset, .unset] [iI zs, iR a1])) rfl (by rw [hml]; rfl) (Steps.refl _) (argsL := [(.int zs)]) (rest := []) (lenOf pd_28 rfl) rfl (wz rfl) (hb hby d8_26) (fun _ _ => ⟨rfl, e4, (by decide : 0 + 2 ≤ _), (by decide : 0 + 10 ≤ _)⟩)
  dsimp only [Pt.U, Pt.locs, Pt.cells, Pt.slots] at X5 hS5q gr5 l5 y5 z5 C5 st5 hQ5
  subst l5 y5 z5
  have hS5 := State.Since.trans ((State.WarmedH.refl s).since 0) hS5q (Nat.zero_le _)
  have hZ : Z.Warmed39 (s.setVm T5.vm).vm := State.Warmed39.trans (t := s.setVm s.vm) hZ hS5q.1
  have hown : (s.setVm T5.vm).vm.findClass "com/example/cloud_to_core/cloudtocore/auth/HttpAuthorization" = some m.cls := by rw [show (s.setVm T5.vm).vm = T5.vm from rfl, hS5q.1.alike.findClass]; exact hown
  have R5 := R0.trans C5
  obtain ⟨o5, d5, kd5, rfl, N5q, K5q, E5q, C5q, F5q, V5q⟩ := hQ5
  have N5 := Fr.app N0 N5q
  have K5 : Keep h0 T5.heap [] := Keep.trans K0 K5q all0
  have pre7 : PP p e below (T5.setTop (mkF m 32 #[vR a1, vR a2, vR o5, .val .null] [])) (s₁.setTop (entryFrame m #[(.ref a1), (.ref a2)] 4)) := by
    intro t kt
    refine pre6 t ?_
    refine st5.trans ?_
    refine XS.astoreN X5.here hx rfl (hb hby d8_29) rfl rfl (l' := #[vR a1, vR a2, vR o5, .unset]) rfl ?_
    refine XS.aconstNull X5.here hx rfl (hb hby d8_30) ?_
    refine XS.astoreN X5.here hx rfl (hb hby d8_31) rfl rfl (l' := #[vR a1, vR a2, vR o5, .val .null]) rfl ?_
    exact kt
  obtain ⟨s₂, o₂, hs₂, hr₂⟩ := own_t32 (rs := o5) (d := d5) (kd := kd5) (z := zr) (B := ((B.drop zs.toNatClampNeg).take zr.toNatClampNeg)) (s := s) (vmT := T5.vm) (X5.more (by decide) (by decide)) hx hZ hw hby hml hown Bd.returns (by first | assumption | exact BodyLoose.notSynchronized (by assumption) | exact Body.notSynchronized (by assumption)) (rfl : T5.heap = _) K5 N5 Z0 O0 hS5 (Nat.le_refl T5.heap.size) R5 hh E5q C5q F5q V5q (own_nneg (by omega)) (own_dtL hB hzr hr1 (by omega)) (by rw [← own_dtL hB hzr hr1 (by omega)]; simp only [Int32.toNatClampNeg]; omega) hC S_CS h_cs S_F h_fm S_T TB hTb S_I E_I
  exact ⟨s₂, o₂, pre7 _ hs₂, hr₂⟩
theorem own_credL {B S : List Int32} (h : B.length < S.length) : own_cred B S = none := by rw [own_cred, if_pos h]
theorem own_credN {B S : List Int32} (h : nar .boolean (own_rcS B S) = 0) : own_cred B S = none := by
  by_cases q : B.length < S.length
  · rw [own_cred, if_pos q]
  · rw [own_cred, if_neg q, if_pos h]
theorem own_credY {B S : List Int32} (h : ¬ B.length < S.length) (h2 : ¬ nar .boolean (own_rcS B S) = 0) : own_cred B S = own_aft (B.drop S.length) := by rw [own_cred, if_neg h, if_neg h2]
theorem own_QCn {Z : State} {h0 h : Heap} {n0 : Nat} {v : Option Value} {L : List Loc} (q : own_QC Z none h0 n0 v h L) : v = some .null ∧ Fr n0 L ∧ Keep h0 h [] := by
  obtain ⟨a, b, ⟨-, c⟩ | ⟨W, o, d, ko, zw, c, -⟩⟩ := q
  · exact ⟨c, a, b⟩
  · cases c
theorem own_QCs {Z : State} {W : List Int32} {h0 h : Heap} {n0 : Nat} {v : Option Value} {L : List Loc} (q : own_QC Z (some W) h0 n0 v h L) : ∃ (o d : Addr) (ko : ClassId) (zw : Int32), v = some (.ref o) ∧ Fr n0 L ∧ Keep h0 h [] ∧ ES Z h o ∧ FC Z h o ∧ FV Z h o d ∧ AB Z h d ko zw W ∧ zw.toInt = (W.length : Int) := by
  obtain ⟨a, b, ⟨c, -⟩ | ⟨W', o, d, ko, zw, c, e1, e2, e3, e4, e5, e6⟩⟩ := q
  · cases c
  · cases c; exact ⟨o, d, ko, zw, e1, a, b, e2, e3, e4, e5, e6⟩

def Q8 (Z : State) (a1 : Addr) (a2 : Addr) (d : Addr) (kd : ClassId) (z : Int32) (B : List Int32) (ds : Addr) (kds : ClassId) (zs : Int32) (Bs : List Int32) (C : Option (List Int32)) (cs : Int32) (fm : Value) (s_T s_I : Addr) (cl : Cell) (h0 : Heap) (n0 : Nat) (v : Option Value) (h : Heap) (L : List Loc) : Prop := own_QC Z C h0 n0 v h L
theorem rm8 (l : Launch) (Z : State) (a0 : Array Value) (hw : HW a0 Z) (ws : List Jvm.Cond) (a1 : Addr) (a2 : Addr) (d : Addr) (kd : ClassId) (z : Int32) (B : List Int32) (ds : Addr) (kds : ClassId) (zs : Int32) (Bs : List Int32) (C : Option (List Int32)) (cs : Int32) (fm : Value) (s_T s_I : Addr) (cl : Cell) (h0 : Heap) (n0 : Nat) (Z0 : n0 ≤ h0.size) (O0 : Old Z n0 h0) (E_a1 : ES Z h0 a1) (Fc_a1 : FC Z h0 a1) (Fv_a1 : FV Z h0 a1 d) (V_d : AB Z h0 d kd z B) (hz : ¬ z < 0) (hB : z.toNatClampNeg = B.length) (E_a2 : ES Z h0 a2) (Fc_a2 : FC Z h0 a2) (Fv_a2 : FV Z h0 a2 ds) (V_ds : AB Z h0 ds kds zs Bs) (hzs : ¬ zs < 0) (hBs : zs.toNatClampNeg = Bs.length) (hl6 : B.length ≤ 6) (hs3 : Bs.length ≤ 3) (hC : C = own_cred B Bs) (S_CS : SC Z cs) (h_cs : ¬ cs = (0 : Int32)) (S_F : SM Z fm) (h_fm : fm.isRef = true) (S_T : ST Z s_T) (TB : Tab Z Z.heap s_T cl .int (256 : Int32)) (hTb : HT cl) (S_I : SI Z s_I) (E_I : Exa Z Z.heap s_I "java/lang/CharacterDataLatin1") :
    MFh l mn_35 prog_1_method_2_code 4 (some (.object "java/lang/String")) ws (Rm 6 6 28 93) #[(.ref a1), (.ref a2)] Z h0 (Q8 Z a1 a2 d kd z B ds kds zs Bs C cs fm s_T s_I cl h0 n0) := by
  have hzB : z.toInt = (B.length : Int) := by
    have hB' := hB
    rw [Int32.lt_iff_toInt_lt] at hz
    have e : (0 : Int32).toInt = 0 := rfl
    simp only [Int32.toNatClampNeg] at hB'
    omega
  have hzS : zs.toInt = (Bs.length : Int) := by
    have hB' := hBs
    rw [Int32.lt_iff_toInt_lt] at hzs
    have e : (0 : Int32).toInt = 0 := rfl
    simp only [Int32.toNatClampNeg] at hB'
    omega
  by_cases h0s : Bs.length = 0
  · obtain rfl : zs = 0 := own_z0E hzs hBs 0 h0s (by decide)
    obtain rfl : Bs = [] := List.eq_nil_of_length_eq_zero h0s
    exact rm8_z l Z a0 hw ws a1 a2 d kd z B ds kds  C cs fm s_T s_I cl h0 n0 Z0 O0 E_a1 Fc_a1 Fv_a1 V_d hz hB E_a2 Fc_a2 Fv_a2 V_ds (by have e : (0 : Int32).toInt = 0 := rfl; omega) hl6 (by rw [hC, own_credY (by simp) (by rw [own_rcS, own_rc0]; decide)]; rfl) S_CS h_cs S_F h_fm S_T TB hTb S_I E_I
  by_cases hl : z.toInt < zs.toInt
  · exact rm8_l l Z a0 hw ws a1 a2 d kd z B ds kds zs Bs C cs fm s_T s_I cl h0 n0 Z0 O0 E_a1 Fc_a1 Fv_a1 V_d hz hB E_a2 Fc_a2 Fv_a2 V_ds hzs hBs hs3 hl (by rw [hC, own_credL (by omega)]) S_CS h_cs S_F h_fm S_T TB hTb S_I E_I
  by_cases hrc : nar .boolean (own_rcS B Bs) = 0
  · exact rm8_n l Z a0 hw ws a1 a2 d kd z B ds kds zs Bs C cs fm s_T s_I cl h0 n0 Z0 O0 E_a1 Fc_a1 Fv_a1 V_d hz hB E_a2 Fc_a2 Fv_a2 V_ds hzs hBs hs3 (by omega) hrc (by rw [hC, own_credN hrc]) S_CS h_cs S_F h_fm S_T TB hTb S_I E_I
  have hC' := hC.trans (own_credY (by omega) hrc)
  by_cases he : z.toInt = zs.toInt
  · exact rm8_e l Z a0 hw ws a1 a2 d kd z B ds kds zs Bs C cs fm s_T s_I cl h0 n0 Z0 O0 E_a1 Fc_a1 Fv_a1 V_d hz hB E_a2 Fc_a2 Fv_a2 V_ds hzs hBs hs3 (by omega) hrc ⟨by omega, by omega⟩ (by rw [he, show (0 : Int32).toInt = 0 from rfl]; omega) (by rw [hC', List.drop_eq_nil_of_le (by omega)]) S_CS h_cs S_F h_fm S_T TB hTb S_I E_I
  · refine rm8_g l Z a0 hw ws a1 a2 d kd z B ds kds zs Bs (Int32.ofNat (B.length - Bs.length)) C cs fm s_T s_I cl h0 n0 Z0 O0 E_a1 Fc_a1 Fv_a1 V_d hz hB E_a2 Fc_a2 Fv_a2 V_ds hzs hBs hs3 (by omega) hrc ⟨by omega, by omega⟩ (by rw [own_oN (by omega), hzB, hzS]; omega) (by rw [own_oN (by omega)]; omega) ?_ S_CS h_cs S_F h_fm S_T TB hTb S_I E_I
    rw [hC', own_oC (by omega), hBs, List.take_of_length_le (by rw [List.length_drop]; exact Nat.le_refl _)]
theorem own_bA {a b c : Int32} (h : a < b) (q : b.toInt ≤ c.toInt) : a < c := by rw [Int32.lt_iff_toInt_lt] at *; omega
theorem own_bB {a b c : Int32} (h : ¬ a < b) (q : c.toInt ≤ b.toInt) : ¬ a < c := by rw [Int32.lt_iff_toInt_lt] at *; omega
theorem own_bC {a b c : Int32} (h : b < a) (q : c.toInt ≤ b.toInt) : c < a := by rw [Int32.lt_iff_toInt_lt] at *; omega
theorem own_bD {a b c : Int32} (h : ¬ b < a) (q : b.toInt ≤ c.toInt) : ¬ c < a := by rw [Int32.lt_iff_toInt_lt] at *; omega
theorem own_bE {a b c : Int32} (h : ¬ a < b) (q : c.toInt < b.toInt) : c < a := by rw [Int32.lt_iff_toInt_lt] at *; omega
theorem own_bF {a b c : Int32} (h : b < a) (q : c.toInt ≤ b.toInt + 1) : ¬ a < c := by rw [Int32.lt_iff_toInt_lt] at *; omega
theorem own_bG {a b c : Int32} (h : a < b) (q : b.toInt ≤ c.toInt + 1) : ¬ c < a := by rw [Int32.lt_iff_toInt_lt] at *; omega
theorem own_bH {a b c : Int32} (h : ¬ b < a) (q : b.toInt < c.toInt) : a < c := by rw [Int32.lt_iff_toInt_lt] at *; omega
theorem own_bI {a c : Int32} (h : a < c) : ¬ a = c := fun e => by rw [e, Int32.lt_iff_toInt_lt] at h; omega
theorem own_bJ {a c : Int32} (h : c < a) : ¬ a = c := fun e => by rw [e, Int32.lt_iff_toInt_lt] at h; omega

def own_wsL (p1 : Int32) : Int32 := (nar .boolean (if p1 = (32 : Int32) then (1 : Int32) else (if p1 < (9 : Int32) then (if p1 < (28 : Int32) then (0 : Int32) else (if (31 : Int32) < p1 then (0 : Int32) else (1 : Int32))) else (if (13 : Int32) < p1 then (if p1 < (28 : Int32) then (0 : Int32) else (if (31 : Int32) < p1 then (0 : Int32) else (1 : Int32))) else (1 : Int32)))))
theorem d35_0 : dk c35 0 (.iload_n 0) 1 := by decide +kernel
theorem d35_1 : dk c35 1 (.bipush 32) 2 := by decide +kernel
theorem d35_3 : dk c35 3 (.if_icmp .eq 27) 3 := by decide +kernel
theorem d35_6 : dk c35 6 (.iload_n 0) 1 := by decide +kernel
theorem d35_7 : dk c35 7 (.bipush 9) 2 := by decide +kernel
theorem d35_9 : dk c35 9 (.if_icmp .lt 9) 3 := by decide +kernel
theorem d35_12 : dk c35 12 (.iload_n 0) 1 := by decide +kernel
theorem d35_13 : dk c35 13 (.bipush 13) 2 := by decide +kernel
theorem d35_15 : dk c35 15 (.if_icmp .le 15) 3 := by decide +kernel
theorem d35_18 : dk c35 18 (.iload_n 0) 1 := by decide +kernel
theorem d35_19 : dk c35 19 (.bipush 28) 2 := by decide +kernel
theorem d35_21 : dk c35 21 (.if_icmp .lt 13) 3 := by decide +kernel
theorem d35_24 : dk c35 24 (.iload_n 0) 1 := by decide +kernel
theorem d35_25 : dk c35 25 (.bipush 31) 2 := by decide +kernel
theorem d35_27 : dk c35 27 (.if_icmp .gt 7) 3 := by decide +kernel
theorem d35_30 : dk c35 30 (.iconst 1) 1 := by decide +kernel
theorem d35_31 : dk c35 31 (.goto 4) 3 := by decide +kernel
theorem d35_34 : dk c35 34 (.iconst 0) 1 := by decide +kernel
theorem d35_35 : dk c35 35 .ireturn 1 := by decide +kernel
theorem pn_8 : plainName "com/example/cloud_to_core/cloudtocore/auth/HttpAuthorizationCredentialsPinLaw" = true := by first | (simp [plainName, overriddenIn]; done) | decide +kernel
theorem ef_35 (m : MethodId) (x0 : Int32) : entryFrame m #[(.int x0)] 1 = mkF m 0 #[.val (.int x0)] [] := by first | (simp [entryFrame, mkF, argsToLocals, Value.category]; done) | rfl
theorem rm35 (l : Launch) (Z : State) (a0 : Array Value) (hw : HW a0 Z) (ws : List Jvm.Cond) (p1 : Int32) (h0 : Heap) :
    MFn l mn_36 method_4_code 1 (some .boolean) ws (Rm 0 0 0 0) #[(.int p1)] Z h0 (QP h0 (some (.int (own_wsL p1)))) := by
  refine MetFree.of_bodySF (plainFor_of_name pn_8) hisR ?_
  intro p e s m args below meth c s₁ Bd hml0 hP hK
  obtain ⟨rfl, hZ, hh⟩ := hP
  have hx := Bd.exec
  have hby := Bd.bytes
  have hml : c.maxLocals = 1 := hml0
  have hown := findClass_of_methodNamed Bd.named
  have X0 : Stand p l e (Rm 0 0 0 0) s m _ below meth c _ [] 0 0 := Stand.of_body Bd
  have e0 : s₁.heap = h0 := by rw [← hh, Bd.state]; rfl
  have pre0 := cast0 (p := p) (e := e) (below := below) (T := s₁) (ef_35 m p1)
  obtain ⟨v1, hv1⟩ : ∃ z : Int32, z = (if p1 = (32 : Int32) then (1 : Int32) else (if p1 < (9 : Int32) then (if p1 < (28 : Int32) then (0 : Int32) else (if (31 : Int32) < p1 then (0 : Int32) else (1 : Int32))) else (if (13 : Int32) < p1 then (if p1 < (28 : Int32) then (0 : Int32) else (if (31 : Int32) < p1 then (0 : Int32) else (1 : Int32))) else (1 : Int32)))) := ⟨_, rfl⟩
  obtain ⟨T2, X2, e2, st2⟩ : own_Mid X0 h0 (mkF m 3 #[vI p1] [iI 32, iI p1]) (mkF m 35 #[vI p1] [iI v1]) := by
    by_cases hc3 : p1 = (32 : Int32)
    · refine ⟨s₁, X0, e0, fun t kt => ?_⟩
      subst hv1
      simp only [if_pos hc3] at kt
      refine XS.icmpYes X0.here hx rfl (pc0 := 3) (pc' := 30) rfl (hb hby d35_3) rfl (teq hc3).1 (by decide) (by decide) ?_
      refine XS.iconst X0.here hx rfl (hb hby d35_30) ?_
      refine XS.goto X0.here hx rfl (pc0 := 31) (pc' := 35) rfl (hb hby d35_31) (by decide) (by decide) ?_
      exact kt
    · have pre5 : PP p e below (s₁.setTop (mkF m 9 #[vI p1] [iI 9, iI p1])) (s₁.setTop (mkF m 3 #[vI p1] [iI 32, iI p1])) := by
        intro t kt
        refine XS.icmpNo X0.here hx rfl (hb hby d35_3) rfl (feq hc3).1 ?_
        refine XS.iloadN X0.here hx rfl (hb hby d35_6) rfl ?_
        refine XS.bipush X0.here hx rfl (hb hby d35_7) ?_
        exact kt
      by_cases hc4 : p1 < (9 : Int32)
      · have pre7 : PP p e below (s₁.setTop (mkF m 21 #[vI p1] [iI 28, iI p1])) (s₁.setTop (mkF m 3 #[vI p1] [iI 32, iI p1])) := by
          intro t kt
          refine pre5 t ?_
          refine XS.icmpYes X0.here hx rfl (pc0 := 9) (pc' := 18) rfl (hb hby d35_9) rfl (tlt hc4).1 (by decide) (by decide) ?_
          refine XS.iloadN X0.here hx rfl (hb hby d35_18) rfl ?_
          refine XS.bipush X0.here hx rfl (hb hby d35_19) ?_
          exact kt
        by_cases hc6 : p1 < (28 : Int32)
        · refine ⟨s₁, X0, e0, fun t kt => ?_⟩
          subst hv1
          simp only [if_neg hc3, if_pos hc4, if_pos hc6] at kt
          refine pre7 t ?_
          refine XS.icmpYes X0.here hx rfl (pc0 := 21) (pc' := 34) rfl (hb hby d35_21) rfl (tlt hc6).1 (by decide) (by decide) ?_
          refine XS.iconst X0.here hx rfl (hb hby d35_34) ?_
          exact kt
        · have pre9 : PP p e below (s₁.setTop (mkF m 27 #[vI p1] [iI 31, iI p1])) (s₁.setTop (mkF m 3 #[vI p1] [iI 32, iI p1])) := by
            intro t kt
            refine pre7 t ?_
            refine XS.icmpNo X0.here hx rfl (hb hby d35_21) rfl (flt hc6).1 ?_
            refine XS.iloadN X0.here hx rfl (hb hby d35_24) rfl ?_
            refine XS.bipush X0.here hx rfl (hb hby d35_25) ?_
            exact kt
          by_cases hc8 : (31 : Int32) < p1
          · refine ⟨s₁, X0, e0, fun t kt => ?_⟩
            subst hv1
            simp only [if_neg hc3, if_pos hc4, if_neg hc6, if_pos hc8] at kt
            refine pre9 t ?_
            refine XS.icmpYes X0.here hx rfl (pc0 := 27) (pc' := 34) rfl (hb hby d35_27) rfl (tlt hc8).2.2.1 (by decide) (by decide) ?_
            refine XS.iconst X0.here hx rfl (hb hby d35_34) ?_
            exact kt
          · refine ⟨s₁, X0, e0, fun t kt => ?_⟩
            subst hv1
            simp only [if_neg hc3, if_pos hc4, if_neg hc6, if_neg hc8] at kt
            refine pre9 t ?_
            refine XS.icmpNo X0.here hx rfl (hb hby d35_27) rfl (flt hc8).2.2.1 ?_
            refine XS.iconst X0.here hx rfl (hb hby d35_30) ?_
            refine XS.goto X0.here hx rfl (pc0 := 31) (pc' := 35) rfl (hb hby d35_31) (by decide) (by decide) ?_
            exact kt
      · have pre11 : PP p e below (s₁.setTop (mkF m 15 #[vI p1] [iI 13, iI p1])) (s₁.setTop (mkF m 3 #[vI p1] [iI 32, iI p1])) := by
          intro t kt
          refine pre5 t ?_
          refine XS.icmpNo X0.here hx rfl (hb hby d35_9) rfl (flt hc4).1 ?_
          refine XS.iloadN X0.here hx rfl (hb hby d35_12) rfl ?_
          refine XS.bipush X0.here hx rfl (hb hby d35_13) ?_
          exact kt
        by_cases hc10 : (13 : Int32) < p1
        · have pre13 : PP p e below (s₁.setTop (mkF m 21 #[vI p1] [iI 28, iI p1])) (s₁.setTop (mkF m 3 #[vI p1] [iI 32, iI p1])) := by
            intro t kt
            refine pre11 t ?_
            refine XS.icmpNo X0.here hx rfl (hb hby d35_15) rfl (tlt hc10).2.2.2 ?_
            refine XS.iloadN X0.here hx rfl (hb hby d35_18) rfl ?_
            refine XS.bipush X0.here hx rfl (hb hby d35_19) ?_
            exact kt
          by_cases hc12 : p1 < (28 : Int32)
          · refine ⟨s₁, X0, e0, fun t kt => ?_⟩
            subst hv1
            simp only [if_neg hc3, if_neg hc4, if_pos hc10, if_pos hc12] at kt
            refine pre13 t ?_
            refine XS.icmpYes X0.here hx rfl (pc0 := 21) (pc' := 34) rfl (hb hby d35_21) rfl (tlt hc12).1 (by decide) (by decide) ?_
            refine XS.iconst X0.here hx rfl (hb hby d35_34) ?_
            exact kt
          · have pre15 : PP p e below (s₁.setTop (mkF m 27 #[vI p1] [iI 31, iI p1])) (s₁.setTop (mkF m 3 #[vI p1] [iI 32, iI p1])) := by
              intro t kt
              refine pre13 t ?_
              refine XS.icmpNo X0.here hx rfl (hb hby d35_21) rfl (flt hc12).1 ?_
              refine XS.iloadN X0.here hx rfl (hb hby d35_24) rfl ?_
              refine XS.bipush X0.here hx rfl (hb hby d35_25) ?_
              exact kt
            by_cases hc14 : (31 : Int32) < p1
            · refine ⟨s₁, X0, e0, fun t kt => ?_⟩
              subst hv1
              simp only [if_neg hc3, if_neg hc4, if_pos hc10, if_neg hc12, if_pos hc14] at kt
              refine pre15 t ?_
              refine XS.icmpYes X0.here hx rfl (pc0 := 27) (pc' := 34) rfl (hb hby d35_27) rfl (tlt hc14).2.2.1 (by decide) (by decide) ?_
              refine XS.iconst X0.here hx rfl (hb hby d35_34) ?_
              exact kt
            · refine ⟨s₁, X0, e0, fun t kt => ?_⟩
              subst hv1
              simp only [if_neg hc3, if_neg hc4, if_pos hc10, if_neg hc12, if_neg hc14] at kt
              refine pre15 t ?_
              refine XS.icmpNo X0.here hx rfl (hb hby d35_27) rfl (flt hc14).2.2.1 ?_
              refine XS.iconst X0.here hx rfl (hb hby d35_30) ?_
              refine XS.goto X0.here hx rfl (pc0 := 31) (pc' := 35) rfl (hb hby d35_31) (by decide) (by decide) ?_
              exact kt
        · refine ⟨s₁, X0, e0, fun t kt => ?_⟩
          subst hv1
          simp only [if_neg hc3, if_neg hc4, if_neg hc10] at kt
          refine pre11 t ?_
          refine XS.icmpYes X0.here hx rfl (pc0 := 15) (pc' := 30) rfl (hb hby d35_15) rfl (flt hc10).2.2.2 (by decide) (by decide) ?_
          refine XS.iconst X0.here hx rfl (hb hby d35_30) ?_
          refine XS.goto X0.here hx rfl (pc0 := 31) (pc' := 35) rfl (hb hby d35_31) (by decide) (by decide) ?_
          exact kt
  obtain ⟨fs, hr, hrun, hended, hW, hsame⟩ := X2.leave (v := some (.int (nar .boolean v1))) (fun h => by rw [Bd.returns] at h; cases h)
  refine ⟨_, _, pre0 _ ?_, hrun, hended, _, _, rfl, ?_, ⟨_, rfl⟩, hW, hsame.mono (by decide) (by decide)⟩
  · refine XS.iloadN X0.here hx rfl (hb hby d35_0) rfl ?_
    refine XS.bipush X0.here hx rfl (hb hby d35_1) ?_
    refine st2 _ ?_
    show Steps _ _ _ (T2.setTop (mkF m 35 #[vI p1] [iI v1])) _
    exact retN X2 hx (t := .boolean) Bd.returns (by simp) (hb hby d35_35) hr
  · show QP _ _ _ T2.heap _
    rw [e2]
    exact ⟨by subst hv1; first | rfl | (simp only [own_wsL]; done) | (simp only [own_wsL]; rfl) | (simp only [own_wsL, nar] ; first | rfl | (simp; done) | decide), rfl, rfl⟩
def own_swap (p1 : Int32) : Int32 := (if p1 < (65 : Int32) then (nar .char p1) else (if (90 : Int32) < p1 then (if p1 < (192 : Int32) then (if p1 < (97 : Int32) then (nar .char p1) else (if (122 : Int32) < p1 then (nar .char p1) else (nar .char (p1 - (32 : Int32)).toUInt32.toUInt16.toUInt32.toInt32))) else (if (222 : Int32) < p1 then (if p1 < (224 : Int32) then (nar .char p1) else (if (254 : Int32) < p1 then (nar .char p1) else (if p1 = (247 : Int32) then (nar .char p1) else (nar .char (p1 - (32 : Int32)).toUInt32.toUInt16.toUInt32.toInt32)))) else (if p1 = (215 : Int32) then (nar .char p1) else (nar .char (p1 + (32 : Int32)).toUInt32.toUInt16.toUInt32.toInt32)))) else (nar .char (p1 + (32 : Int32)).toUInt32.toUInt16.toUInt32.toInt32)))
theorem d42_0 : dk c42 0 (.iload_n 0) 1 := by decide +kernel
theorem d42_1 : dk c42 1 (.bipush 65) 2 := by decide +kernel
theorem d42_3 : dk c42 3 (.if_icmp .lt 9) 3 := by decide +kernel
theorem d42_6 : dk c42 6 (.iload_n 0) 1 := by decide +kernel
theorem d42_7 : dk c42 7 (.bipush 90) 2 := by decide +kernel
theorem d42_9 : dk c42 9 (.if_icmp .le 24) 3 := by decide +kernel
theorem d42_12 : dk c42 12 (.iload_n 0) 1 := by decide +kernel
theorem d42_13 : dk c42 13 (.sipush 192) 3 := by decide +kernel
theorem d42_16 : dk c42 16 (.if_icmp .lt 23) 3 := by decide +kernel
theorem d42_19 : dk c42 19 (.iload_n 0) 1 := by decide +kernel
theorem d42_20 : dk c42 20 (.sipush 222) 3 := by decide +kernel
theorem d42_23 : dk c42 23 (.if_icmp .gt 16) 3 := by decide +kernel
theorem d42_26 : dk c42 26 (.iload_n 0) 1 := by decide +kernel
theorem d42_27 : dk c42 27 (.sipush 215) 3 := by decide +kernel
theorem d42_30 : dk c42 30 (.if_icmp .eq 9) 3 := by decide +kernel
theorem d42_33 : dk c42 33 (.iload_n 0) 1 := by decide +kernel
theorem d42_34 : dk c42 34 (.bipush 32) 2 := by decide +kernel
theorem d42_36 : dk c42 36 .iadd 1 := by decide +kernel
theorem d42_37 : dk c42 37 .i2c 1 := by decide +kernel
theorem d42_38 : dk c42 38 .ireturn 1 := by decide +kernel
theorem d42_39 : dk c42 39 (.iload_n 0) 1 := by decide +kernel
theorem d42_40 : dk c42 40 (.bipush 97) 2 := by decide +kernel
theorem d42_42 : dk c42 42 (.if_icmp .lt 9) 3 := by decide +kernel
theorem d42_45 : dk c42 45 (.iload_n 0) 1 := by decide +kernel
theorem d42_46 : dk c42 46 (.bipush 122) 2 := by decide +kernel
theorem d42_48 : dk c42 48 (.if_icmp .le 24) 3 := by decide +kernel
theorem d42_51 : dk c42 51 (.iload_n 0) 1 := by decide +kernel
theorem d42_52 : dk c42 52 (.sipush 224) 3 := by decide +kernel
theorem d42_55 : dk c42 55 (.if_icmp .lt 23) 3 := by decide +kernel
theorem d42_58 : dk c42 58 (.iload_n 0) 1 := by decide +kernel
theorem d42_59 : dk c42 59 (.sipush 254) 3 := by decide +kernel
theorem d42_62 : dk c42 62 (.if_icmp .gt 16) 3 := by decide +kernel
theorem d42_65 : dk c42 65 (.iload_n 0) 1 := by decide +kernel
theorem d42_66 : dk c42 66 (.sipush 247) 3 := by decide +kernel
theorem d42_69 : dk c42 69 (.if_icmp .eq 9) 3 := by decide +kernel
theorem d42_72 : dk c42 72 (.iload_n 0) 1 := by decide +kernel
theorem d42_73 : dk c42 73 (.bipush 32) 2 := by decide +kernel
theorem d42_75 : dk c42 75 .isub 1 := by decide +kernel
theorem d42_76 : dk c42 76 .i2c 1 := by decide +kernel
theorem d42_77 : dk c42 77 .ireturn 1 := by decide +kernel
theorem d42_78 : dk c42 78 (.iload_n 0) 1 := by decide +kernel
theorem d42_79 : dk c42 79 .ireturn 1 := by decide +kernel
theorem ef_42 (m : MethodId) (x0 : Int32) : entryFrame m #[(.int x0)] 1 = mkF m 0 #[.val (.int x0)] [] := by first | (simp [entryFrame, mkF, argsToLocals, Value.category]; done) | rfl
theorem rm42 (l : Launch) (Z : State) (a0 : Array Value) (hw : HW a0 Z) (ws : List Jvm.Cond) (p1 : Int32) (h0 : Heap) :
    MFn l mn_37 method_8_code 1 (some .char) ws (Rm 0 0 0 0) #[(.int p1)] Z h0 (QP h0 (some (.int (own_swap p1)))) := by
  refine MetFree.of_bodySF (plainFor_of_name pn_8) hisR ?_
  intro p e s m args below meth c s₁ Bd hml0 hP hK
  obtain ⟨rfl, hZ, hh⟩ := hP
  have hx := Bd.exec
  have hby := Bd.bytes
  have hml : c.maxLocals = 1 := hml0
  have hown := findClass_of_methodNamed Bd.named
  have X0 : Stand p l e (Rm 0 0 0 0) s m _ below meth c _ [] 0 0 := Stand.of_body Bd
  have e0 : s₁.heap = h0 := by rw [← hh, Bd.state]; rfl
  have pre0 := cast0 (p := p) (e := e) (below := below) (T := s₁) (ef_42 m p1)
  have pre2 : PP p e below (s₁.setTop (mkF m 3 #[vI p1] [iI 65, iI p1])) (s₁.setTop (entryFrame m #[(.int p1)] 1)) := by
    intro t kt
    refine pre0 t ?_
    refine XS.iloadN X0.here hx rfl (hb hby d42_0) rfl ?_
    refine XS.bipush X0.here hx rfl (hb hby d42_1) ?_
    exact kt
  by_cases hc1 : p1 < (65 : Int32)
  · have hh3 : p1 < (192 : Int32) := (own_bA hc1 (by decide))
    have hh4 : p1 < (97 : Int32) := (own_bA hc1 (by decide))
    have hh5 : p1 < (224 : Int32) := (own_bA hc1 (by decide))
    obtain ⟨fs, hr, hrun, hended, hW, hsame⟩ := X0.leave (v := some (.int (nar .char p1))) (fun h => by rw [Bd.returns] at h; cases h)
    refine ⟨_, _, pre2 _ ?_, hrun, hended, _, _, rfl, ?_, ⟨_, rfl⟩, hW, hsame.mono (by decide) (by decide)⟩
    · refine XS.icmpYes X0.here hx rfl (pc0 := 3) (pc' := 12) rfl (hb hby d42_3) rfl (tlt hc1).1 (by decide) (by decide) ?_
      refine XS.iloadN X0.here hx rfl (hb hby d42_12) rfl ?_
      refine XS.sipush X0.here hx rfl (hb hby d42_13) ?_
      refine XS.icmpYes X0.here hx rfl (pc0 := 16) (pc' := 39) rfl (hb hby d42_16) rfl (tlt hh3).1 (by decide) (by decide) ?_
      refine XS.iloadN X0.here hx rfl (hb hby d42_39) rfl ?_
      refine XS.bipush X0.here hx rfl (hb hby d42_40) ?_
      show SA s₁ m 42 #[vI p1] [iI 97, iI p1]
      refine XS.icmpYes X0.here hx rfl (pc0 := 42) (pc' := 51) rfl (hb hby d42_42) rfl (tlt hh4).1 (by decide) (by decide) ?_
      refine XS.iloadN X0.here hx rfl (hb hby d42_51) rfl ?_
      refine XS.sipush X0.here hx rfl (hb hby d42_52) ?_
      refine XS.icmpYes X0.here hx rfl (pc0 := 55) (pc' := 78) rfl (hb hby d42_55) rfl (tlt hh5).1 (by decide) (by decide) ?_
      refine XS.iloadN X0.here hx rfl (hb hby d42_78) rfl ?_
      show Steps _ _ _ (s₁.setTop (mkF m 79 #[vI p1] [iI p1])) _
      exact retN X0 hx (t := .char) Bd.returns (by simp) (hb hby d42_79) hr
    · show QP _ _ _ s₁.heap _
      rw [e0]
      exact ⟨by first | rfl | (simp only [own_swap, if_pos hc1]; done) | (simp only [own_swap, if_pos hc1]; rfl) | (simp only [own_swap, if_pos hc1, nar] ; first | rfl | (simp; done) | decide), rfl, rfl⟩
  · have pre7 : PP p e below (s₁.setTop (mkF m 9 #[vI p1] [iI 90, iI p1])) (s₁.setTop (entryFrame m #[(.int p1)] 1)) := by
      intro t kt
      refine pre2 t ?_
      refine XS.icmpNo X0.here hx rfl (hb hby d42_3) rfl (flt hc1).1 ?_
      refine XS.iloadN X0.here hx rfl (hb hby d42_6) rfl ?_
      refine XS.bipush X0.here hx rfl (hb hby d42_7) ?_
      exact kt
    by_cases hc6 : (90 : Int32) < p1
    · have pre9 : PP p e below (s₁.setTop (mkF m 16 #[vI p1] [iI 192, iI p1])) (s₁.setTop (entryFrame m #[(.int p1)] 1)) := by
        intro t kt
        refine pre7 t ?_
        refine XS.icmpNo X0.here hx rfl (hb hby d42_9) rfl (tlt hc6).2.2.2 ?_
        refine XS.iloadN X0.here hx rfl (hb hby d42_12) rfl ?_
        refine XS.sipush X0.here hx rfl (hb hby d42_13) ?_
        exact kt
      by_cases hc8 : p1 < (192 : Int32)
      · have pre11 : PP p e below (s₁.setTop (mkF m 42 #[vI p1] [iI 97, iI p1])) (s₁.setTop (entryFrame m #[(.int p1)] 1)) := by
          intro t kt
          refine pre9 t ?_
          refine XS.icmpYes X0.here hx rfl (pc0 := 16) (pc' := 39) rfl (hb hby d42_16) rfl (tlt hc8).1 (by decide) (by decide) ?_
          refine XS.iloadN X0.here hx rfl (hb hby d42_39) rfl ?_
          refine XS.bipush X0.here hx rfl (hb hby d42_40) ?_
          exact kt
        by_cases hc10 : p1 < (97 : Int32)
        · have hh12 : p1 < (224 : Int32) := (own_bA hc8 (by decide))
          obtain ⟨fs, hr, hrun, hended, hW, hsame⟩ := X0.leave (v := some (.int (nar .char p1))) (fun h => by rw [Bd.returns] at h; cases h)
          refine ⟨_, _, pre11 _ ?_, hrun, hended, _, _, rfl, ?_, ⟨_, rfl⟩, hW, hsame.mono (by decide) (by decide)⟩
          · refine XS.icmpYes X0.here hx rfl (pc0 := 42) (pc' := 51) rfl (hb hby d42_42) rfl (tlt hc10).1 (by decide) (by decide) ?_
            refine XS.iloadN X0.here hx rfl (hb hby d42_51) rfl ?_
            refine XS.sipush X0.here hx rfl (hb hby d42_52) ?_
            refine XS.icmpYes X0.here hx rfl (pc0 := 55) (pc' := 78) rfl (hb hby d42_55) rfl (tlt hh12).1 (by decide) (by decide) ?_
            refine XS.iloadN X0.here hx rfl (hb hby d42_78) rfl ?_
            show Steps _ _ _ (s₁.setTop (mkF m 79 #[vI p1] [iI p1])) _
            exact retN X0 hx (t := .char) Bd.returns (by simp) (hb hby d42_79) hr
          · show QP _ _ _ s₁.heap _
            rw [e0]
            exact ⟨by first | rfl | (simp only [own_swap, if_neg hc1, if_pos hc6, if_pos hc8, if_pos hc10]; done) | (simp only [own_swap, if_neg hc1, if_pos hc6, if_pos hc8, if_pos hc10]; rfl) | (simp only [own_swap, if_neg hc1, if_pos hc6, if_pos hc8, if_pos hc10, nar] ; first | rfl | (simp; done) | decide), rfl, rfl⟩
        · have pre14 : PP p e below (s₁.setTop (mkF m 48 #[vI p1] [iI 122, iI p1])) (s₁.setTop (entryFrame m #[(.int p1)] 1)) := by
            intro t kt
            refine pre11 t ?_
            refine XS.icmpNo X0.here hx rfl (hb hby d42_42) rfl (flt hc10).1 ?_
            refine XS.iloadN X0.here hx rfl (hb hby d42_45) rfl ?_
            refine XS.bipush X0.here hx rfl (hb hby d42_46) ?_
            exact kt
          by_cases hc13 : (122 : Int32) < p1
          · have hh15 : p1 < (224 : Int32) := (own_bA hc8 (by decide))
            obtain ⟨fs, hr, hrun, hended, hW, hsame⟩ := X0.leave (v := some (.int (nar .char p1))) (fun h => by rw [Bd.returns] at h; cases h)
            refine ⟨_, _, pre14 _ ?_, hrun, hended, _, _, rfl, ?_, ⟨_, rfl⟩, hW, hsame.mono (by decide) (by decide)⟩
            · refine XS.icmpNo X0.here hx rfl (hb hby d42_48) rfl (tlt hc13).2.2.2 ?_
              refine XS.iloadN X0.here hx rfl (hb hby d42_51) rfl ?_
              refine XS.sipush X0.here hx rfl (hb hby d42_52) ?_
              refine XS.icmpYes X0.here hx rfl (pc0 := 55) (pc' := 78) rfl (hb hby d42_55) rfl (tlt hh15).1 (by decide) (by decide) ?_
              refine XS.iloadN X0.here hx rfl (hb hby d42_78) rfl ?_
              show Steps _ _ _ (s₁.setTop (mkF m 79 #[vI p1] [iI p1])) _
              exact retN X0 hx (t := .char) Bd.returns (by simp) (hb hby d42_79) hr
            · show QP _ _ _ s₁.heap _
              rw [e0]
              exact ⟨by first | rfl | (simp only [own_swap, if_neg hc1, if_pos hc6, if_pos hc8, if_neg hc10, if_pos hc13]; done) | (simp only [own_swap, if_neg hc1, if_pos hc6, if_pos hc8, if_neg hc10, if_pos hc13]; rfl) | (simp only [own_swap, if_neg hc1, if_pos hc6, if_pos hc8, if_neg hc10, if_pos hc13, nar] ; first | rfl | (simp; done) | decide), rfl, rfl⟩
          · obtain ⟨fs, hr, hrun, hended, hW, hsame⟩ := X0.leave (v := some (.int (nar .char (p1 - (32 : Int32)).toUInt32.toUInt16.toUInt32.toInt32))) (fun h => by rw [Bd.returns] at h; cases h)
            refine ⟨_, _, pre14 _ ?_, hrun, hended, _, _, rfl, ?_, ⟨_, rfl⟩, hW, hsame.mono (by decide) (by decide)⟩
            · refine XS.icmpYes X0.here hx rfl (pc0 := 48) (pc' := 72) rfl (hb hby d42_48) rfl (flt hc13).2.2.2 (by decide) (by decide) ?_
              refine XS.iloadN X0.here hx rfl (hb hby d42_72) rfl ?_
              refine XS.bipush X0.here hx rfl (hb hby d42_73) ?_
              refine XS.isub X0.here hx rfl (hb hby d42_75) rfl ?_
              refine XS.i2c X0.here hx rfl (hb hby d42_76) rfl ?_
              show Steps _ _ _ (s₁.setTop (mkF m 77 #[vI p1] [iI (p1 - (32 : Int32)).toUInt32.toUInt16.toUInt32.toInt32])) _
              exact retN X0 hx (t := .char) Bd.returns (by simp) (hb hby d42_77) hr
            · show QP _ _ _ s₁.heap _
              rw [e0]
              exact ⟨by first | rfl | (simp only [own_swap, if_neg hc1, if_pos hc6, if_pos hc8, if_neg hc10, if_neg hc13]; done) | (simp only [own_swap, if_neg hc1, if_pos hc6, if_pos hc8, if_neg hc10, if_neg hc13]; rfl) | (simp only [own_swap, if_neg hc1, if_pos hc6, if_pos hc8, if_neg hc10, if_neg hc13, nar] ; first | rfl | (simp; done) | decide), rfl, rfl⟩
      · have pre17 : PP p e below (s₁.setTop (mkF m 23 #[vI p1] [iI 222, iI p1])) (s₁.setTop (entryFrame m #[(.int p1)] 1)) := by
          intro t kt
          refine pre9 t ?_
          refine XS.icmpNo X0.here hx rfl (hb hby d42_16) rfl (flt hc8).1 ?_
          refine XS.iloadN X0.here hx rfl (hb hby d42_19) rfl ?_
          refine XS.sipush X0.here hx rfl (hb hby d42_20) ?_
          exact kt
        by_cases hc16 : (222 : Int32) < p1
        · have hh18 : ¬ (p1 < (97 : Int32)) := (own_bB hc8 (by decide))
          have hh19 : (122 : Int32) < p1 := (own_bE hc8 (by decide))
          have pre21 : PP p e below (s₁.setTop (mkF m 55 #[vI p1] [iI 224, iI p1])) (s₁.setTop (entryFrame m #[(.int p1)] 1)) := by
            intro t kt
            refine pre17 t ?_
            refine XS.icmpYes X0.here hx rfl (pc0 := 23) (pc' := 39) rfl (hb hby d42_23) rfl (tlt hc16).2.2.1 (by decide) (by decide) ?_
            refine XS.iloadN X0.here hx rfl (hb hby d42_39) rfl ?_
            refine XS.bipush X0.here hx rfl (hb hby d42_40) ?_
            refine XS.icmpNo X0.here hx rfl (hb hby d42_42) rfl (flt hh18).1 ?_
            refine XS.iloadN X0.here hx rfl (hb hby d42_45) rfl ?_
            refine XS.bipush X0.here hx rfl (hb hby d42_46) ?_
            show SA s₁ m 48 #[vI p1] [iI 122, iI p1]
            refine XS.icmpNo X0.here hx rfl (hb hby d42_48) rfl (tlt hh19).2.2.2 ?_
            refine XS.iloadN X0.here hx rfl (hb hby d42_51) rfl ?_
            refine XS.sipush X0.here hx rfl (hb hby d42_52) ?_
            exact kt
          by_cases hc20 : p1 < (224 : Int32)
          · obtain ⟨fs, hr, hrun, hended, hW, hsame⟩ := X0.leave (v := some (.int (nar .char p1))) (fun h => by rw [Bd.returns] at h; cases h)
            refine ⟨_, _, pre21 _ ?_, hrun, hended, _, _, rfl, ?_, ⟨_, rfl⟩, hW, hsame.mono (by decide) (by decide)⟩
            · refine XS.icmpYes X0.here hx rfl (pc0 := 55) (pc' := 78) rfl (hb hby d42_55) rfl (tlt hc20).1 (by decide) (by decide) ?_
              refine XS.iloadN X0.here hx rfl (hb hby d42_78) rfl ?_
              show Steps _ _ _ (s₁.setTop (mkF m 79 #[vI p1] [iI p1])) _
              exact retN X0 hx (t := .char) Bd.returns (by simp) (hb hby d42_79) hr
            · show QP _ _ _ s₁.heap _
              rw [e0]
              exact ⟨by first | rfl | (simp only [own_swap, if_neg hc1, if_pos hc6, if_neg hc8, if_pos hc16, if_pos hc20]; done) | (simp only [own_swap, if_neg hc1, if_pos hc6, if_neg hc8, if_pos hc16, if_pos hc20]; rfl) | (simp only [own_swap, if_neg hc1, if_pos hc6, if_neg hc8, if_pos hc16, if_pos hc20, nar] ; first | rfl | (simp; done) | decide), rfl, rfl⟩
          · have pre23 : PP p e below (s₁.setTop (mkF m 62 #[vI p1] [iI 254, iI p1])) (s₁.setTop (entryFrame m #[(.int p1)] 1)) := by
              intro t kt
              refine pre21 t ?_
              refine XS.icmpNo X0.here hx rfl (hb hby d42_55) rfl (flt hc20).1 ?_
              refine XS.iloadN X0.here hx rfl (hb hby d42_58) rfl ?_
              refine XS.sipush X0.here hx rfl (hb hby d42_59) ?_
              exact kt
            by_cases hc22 : (254 : Int32) < p1
            · obtain ⟨fs, hr, hrun, hended, hW, hsame⟩ := X0.leave (v := some (.int (nar .char p1))) (fun h => by rw [Bd.returns] at h; cases h)
              refine ⟨_, _, pre23 _ ?_, hrun, hended, _, _, rfl, ?_, ⟨_, rfl⟩, hW, hsame.mono (by decide) (by decide)⟩
              · refine XS.icmpYes X0.here hx rfl (pc0 := 62) (pc' := 78) rfl (hb hby d42_62) rfl (tlt hc22).2.2.1 (by decide) (by decide) ?_
                refine XS.iloadN X0.here hx rfl (hb hby d42_78) rfl ?_
                show Steps _ _ _ (s₁.setTop (mkF m 79 #[vI p1] [iI p1])) _
                exact retN X0 hx (t := .char) Bd.returns (by simp) (hb hby d42_79) hr
              · show QP _ _ _ s₁.heap _
                rw [e0]
                exact ⟨by first | rfl | (simp only [own_swap, if_neg hc1, if_pos hc6, if_neg hc8, if_pos hc16, if_neg hc20, if_pos hc22]; done) | (simp only [own_swap, if_neg hc1, if_pos hc6, if_neg hc8, if_pos hc16, if_neg hc20, if_pos hc22]; rfl) | (simp only [own_swap, if_neg hc1, if_pos hc6, if_neg hc8, if_pos hc16, if_neg hc20, if_pos hc22, nar] ; first | rfl | (simp; done) | decide), rfl, rfl⟩
            · have pre25 : PP p e below (s₁.setTop (mkF m 69 #[vI p1] [iI 247, iI p1])) (s₁.setTop (entryFrame m #[(.int p1)] 1)) := by
                intro t kt
                refine pre23 t ?_
                refine XS.icmpNo X0.here hx rfl (hb hby d42_62) rfl (flt hc22).2.2.1 ?_
                refine XS.iloadN X0.here hx rfl (hb hby d42_65) rfl ?_
                refine XS.sipush X0.here hx rfl (hb hby d42_66) ?_
                exact kt
              by_cases hc24 : p1 = (247 : Int32)
              · obtain ⟨fs, hr, hrun, hended, hW, hsame⟩ := X0.leave (v := some (.int (nar .char p1))) (fun h => by rw [Bd.returns] at h; cases h)
                refine ⟨_, _, pre25 _ ?_, hrun, hended, _, _, rfl, ?_, ⟨_, rfl⟩, hW, hsame.mono (by decide) (by decide)⟩
                · refine XS.icmpYes X0.here hx rfl (pc0 := 69) (pc' := 78) rfl (hb hby d42_69) rfl (teq hc24).1 (by decide) (by decide) ?_
                  refine XS.iloadN X0.here hx rfl (hb hby d42_78) rfl ?_
                  show Steps _ _ _ (s₁.setTop (mkF m 79 #[vI p1] [iI p1])) _
                  exact retN X0 hx (t := .char) Bd.returns (by simp) (hb hby d42_79) hr
                · show QP _ _ _ s₁.heap _
                  rw [e0]
                  exact ⟨by first | rfl | (simp only [own_swap, if_neg hc1, if_pos hc6, if_neg hc8, if_pos hc16, if_neg hc20, if_neg hc22, if_pos hc24]; done) | (simp only [own_swap, if_neg hc1, if_pos hc6, if_neg hc8, if_pos hc16, if_neg hc20, if_neg hc22, if_pos hc24]; rfl) | (simp only [own_swap, if_neg hc1, if_pos hc6, if_neg hc8, if_pos hc16, if_neg hc20, if_neg hc22, if_pos hc24, nar] ; first | rfl | (simp; done) | decide), rfl, rfl⟩
              · obtain ⟨fs, hr, hrun, hended, hW, hsame⟩ := X0.leave (v := some (.int (nar .char (p1 - (32 : Int32)).toUInt32.toUInt16.toUInt32.toInt32))) (fun h => by rw [Bd.returns] at h; cases h)
                refine ⟨_, _, pre25 _ ?_, hrun, hended, _, _, rfl, ?_, ⟨_, rfl⟩, hW, hsame.mono (by decide) (by decide)⟩
                · refine XS.icmpNo X0.here hx rfl (hb hby d42_69) rfl (feq hc24).1 ?_
                  refine XS.iloadN X0.here hx rfl (hb hby d42_72) rfl ?_
                  refine XS.bipush X0.here hx rfl (hb hby d42_73) ?_
                  refine XS.isub X0.here hx rfl (hb hby d42_75) rfl ?_
                  refine XS.i2c X0.here hx rfl (hb hby d42_76) rfl ?_
                  show Steps _ _ _ (s₁.setTop (mkF m 77 #[vI p1] [iI (p1 - (32 : Int32)).toUInt32.toUInt16.toUInt32.toInt32])) _
                  exact retN X0 hx (t := .char) Bd.returns (by simp) (hb hby d42_77) hr
                · show QP _ _ _ s₁.heap _
                  rw [e0]
                  exact ⟨by first | rfl | (simp only [own_swap, if_neg hc1, if_pos hc6, if_neg hc8, if_pos hc16, if_neg hc20, if_neg hc22, if_neg hc24]; done) | (simp only [own_swap, if_neg hc1, if_pos hc6, if_neg hc8, if_pos hc16, if_neg hc20, if_neg hc22, if_neg hc24]; rfl) | (simp only [own_swap, if_neg hc1, if_pos hc6, if_neg hc8, if_pos hc16, if_neg hc20, if_neg hc22, if_neg hc24, nar] ; first | rfl | (simp; done) | decide), rfl, rfl⟩
        · have pre27 : PP p e below (s₁.setTop (mkF m 30 #[vI p1] [iI 215, iI p1])) (s₁.setTop (entryFrame m #[(.int p1)] 1)) := by
            intro t kt
            refine pre17 t ?_
            refine XS.icmpNo X0.here hx rfl (hb hby d42_23) rfl (flt hc16).2.2.1 ?_
            refine XS.iloadN X0.here hx rfl (hb hby d42_26) rfl ?_
            refine XS.sipush X0.here hx rfl (hb hby d42_27) ?_
            exact kt
          by_cases hc26 : p1 = (215 : Int32)
          · have hh28 : ¬ (p1 < (97 : Int32)) := (own_bB hc8 (by decide))
            have hh29 : (122 : Int32) < p1 := (own_bE hc8 (by decide))
            have hh30 : p1 < (224 : Int32) := (own_bH hc16 (by decide))
            obtain ⟨fs, hr, hrun, hended, hW, hsame⟩ := X0.leave (v := some (.int (nar .char p1))) (fun h => by rw [Bd.returns] at h; cases h)
            refine ⟨_, _, pre27 _ ?_, hrun, hended, _, _, rfl, ?_, ⟨_, rfl⟩, hW, hsame.mono (by decide) (by decide)⟩
            · refine XS.icmpYes X0.here hx rfl (pc0 := 30) (pc' := 39) rfl (hb hby d42_30) rfl (teq hc26).1 (by decide) (by decide) ?_
              refine XS.iloadN X0.here hx rfl (hb hby d42_39) rfl ?_
              refine XS.bipush X0.here hx rfl (hb hby d42_40) ?_
              refine XS.icmpNo X0.here hx rfl (hb hby d42_42) rfl (flt hh28).1 ?_
              refine XS.iloadN X0.here hx rfl (hb hby d42_45) rfl ?_
              refine XS.bipush X0.here hx rfl (hb hby d42_46) ?_
              show SA s₁ m 48 #[vI p1] [iI 122, iI p1]
              refine XS.icmpNo X0.here hx rfl (hb hby d42_48) rfl (tlt hh29).2.2.2 ?_
              refine XS.iloadN X0.here hx rfl (hb hby d42_51) rfl ?_
              refine XS.sipush X0.here hx rfl (hb hby d42_52) ?_
              refine XS.icmpYes X0.here hx rfl (pc0 := 55) (pc' := 78) rfl (hb hby d42_55) rfl (tlt hh30).1 (by decide) (by decide) ?_
              refine XS.iloadN X0.here hx rfl (hb hby d42_78) rfl ?_
              show Steps _ _ _ (s₁.setTop (mkF m 79 #[vI p1] [iI p1])) _
              exact retN X0 hx (t := .char) Bd.returns (by simp) (hb hby d42_79) hr
            · show QP _ _ _ s₁.heap _
              rw [e0]
              exact ⟨by first | rfl | (simp only [own_swap, if_neg hc1, if_pos hc6, if_neg hc8, if_neg hc16, if_pos hc26]; done) | (simp only [own_swap, if_neg hc1, if_pos hc6, if_neg hc8, if_neg hc16, if_pos hc26]; rfl) | (simp only [own_swap, if_neg hc1, if_pos hc6, if_neg hc8, if_neg hc16, if_pos hc26, nar] ; first | rfl | (simp; done) | decide), rfl, rfl⟩
          · obtain ⟨fs, hr, hrun, hended, hW, hsame⟩ := X0.leave (v := some (.int (nar .char (p1 + (32 : Int32)).toUInt32.toUInt16.toUInt32.toInt32))) (fun h => by rw [Bd.returns] at h; cases h)
            refine ⟨_, _, pre27 _ ?_, hrun, hended, _, _, rfl, ?_, ⟨_, rfl⟩, hW, hsame.mono (by decide) (by decide)⟩
            · refine XS.icmpNo X0.here hx rfl (hb hby d42_30) rfl (feq hc26).1 ?_
              refine XS.iloadN X0.here hx rfl (hb hby d42_33) rfl ?_
              refine XS.bipush X0.here hx rfl (hb hby d42_34) ?_
              refine XS.iadd X0.here hx rfl (hb hby d42_36) rfl ?_
              refine XS.i2c X0.here hx rfl (hb hby d42_37) rfl ?_
              show Steps _ _ _ (s₁.setTop (mkF m 38 #[vI p1] [iI (p1 + (32 : Int32)).toUInt32.toUInt16.toUInt32.toInt32])) _
              exact retN X0 hx (t := .char) Bd.returns (by simp) (hb hby d42_38) hr
            · show QP _ _ _ s₁.heap _
              rw [e0]
              exact ⟨by first | rfl | (simp only [own_swap, if_neg hc1, if_pos hc6, if_neg hc8, if_neg hc16, if_neg hc26]; done) | (simp only [own_swap, if_neg hc1, if_pos hc6, if_neg hc8, if_neg hc16, if_neg hc26]; rfl) | (simp only [own_swap, if_neg hc1, if_pos hc6, if_neg hc8, if_neg hc16, if_neg hc26, nar] ; first | rfl | (simp; done) | decide), rfl, rfl⟩
    · obtain ⟨fs, hr, hrun, hended, hW, hsame⟩ := X0.leave (v := some (.int (nar .char (p1 + (32 : Int32)).toUInt32.toUInt16.toUInt32.toInt32))) (fun h => by rw [Bd.returns] at h; cases h)
      refine ⟨_, _, pre7 _ ?_, hrun, hended, _, _, rfl, ?_, ⟨_, rfl⟩, hW, hsame.mono (by decide) (by decide)⟩
      · refine XS.icmpYes X0.here hx rfl (pc0 := 9) (pc' := 33) rfl (hb hby d42_9) rfl (flt hc6).2.2.2 (by decide) (by decide) ?_
        refine XS.iloadN X0.here hx rfl (hb hby d42_33) rfl ?_
        refine XS.bipush X0.here hx rfl (hb hby d42_34) ?_
        refine XS.iadd X0.here hx rfl (hb hby d42_36) rfl ?_
        refine XS.i2c X0.here hx rfl (hb hby d42_37) rfl ?_
        show Steps _ _ _ (s₁.setTop (mkF m 38 #[vI p1] [iI (p1 + (32 : Int32)).toUInt32.toUInt16.toUInt32.toInt32])) _
        exact retN X0 hx (t := .char) Bd.returns (by simp) (hb hby d42_38) hr
      · show QP _ _ _ s₁.heap _
        rw [e0]
        exact ⟨by first | rfl | (simp only [own_swap, if_neg hc1, if_neg hc6]; done) | (simp only [own_swap, if_neg hc1, if_neg hc6]; rfl) | (simp only [own_swap, if_neg hc1, if_neg hc6, nar] ; first | rfl | (simp; done) | decide), rfl, rfl⟩
def own_fold (p1 : Int32) : Int32 := (if p1 < (65 : Int32) then p1 else (if (90 : Int32) < p1 then (if p1 < (192 : Int32) then p1 else (if (222 : Int32) < p1 then p1 else (if p1 = (215 : Int32) then p1 else (p1 + (32 : Int32))))) else (p1 + (32 : Int32))))
theorem d44_0 : dk c44 0 (.iload_n 0) 1 := by decide +kernel
theorem d44_1 : dk c44 1 (.bipush 65) 2 := by decide +kernel
theorem d44_3 : dk c44 3 (.if_icmp .lt 9) 3 := by decide +kernel
theorem d44_6 : dk c44 6 (.iload_n 0) 1 := by decide +kernel
theorem d44_7 : dk c44 7 (.bipush 90) 2 := by decide +kernel
theorem d44_9 : dk c44 9 (.if_icmp .le 24) 3 := by decide +kernel
theorem d44_12 : dk c44 12 (.iload_n 0) 1 := by decide +kernel
theorem d44_13 : dk c44 13 (.sipush 192) 3 := by decide +kernel
theorem d44_16 : dk c44 16 (.if_icmp .lt 22) 3 := by decide +kernel
theorem d44_19 : dk c44 19 (.iload_n 0) 1 := by decide +kernel
theorem d44_20 : dk c44 20 (.sipush 222) 3 := by decide +kernel
theorem d44_23 : dk c44 23 (.if_icmp .gt 15) 3 := by decide +kernel
theorem d44_26 : dk c44 26 (.iload_n 0) 1 := by decide +kernel
theorem d44_27 : dk c44 27 (.sipush 215) 3 := by decide +kernel
theorem d44_30 : dk c44 30 (.if_icmp .eq 8) 3 := by decide +kernel
theorem d44_33 : dk c44 33 (.iload_n 0) 1 := by decide +kernel
theorem d44_34 : dk c44 34 (.bipush 32) 2 := by decide +kernel
theorem d44_36 : dk c44 36 .iadd 1 := by decide +kernel
theorem d44_37 : dk c44 37 .ireturn 1 := by decide +kernel
theorem d44_38 : dk c44 38 (.iload_n 0) 1 := by decide +kernel
theorem d44_39 : dk c44 39 .ireturn 1 := by decide +kernel
theorem ef_44 (m : MethodId) (x0 : Int32) : entryFrame m #[(.int x0)] 1 = mkF m 0 #[.val (.int x0)] [] := by first | (simp [entryFrame, mkF, argsToLocals, Value.category]; done) | rfl
theorem rm44 (l : Launch) (Z : State) (a0 : Array Value) (hw : HW a0 Z) (ws : List Jvm.Cond) (p1 : Int32) (h0 : Heap) :
    MFn l mn_38 method_7_code 1 (some .int) ws (Rm 0 0 0 0) #[(.int p1)] Z h0 (QP h0 (some (.int (own_fold p1)))) := by
  refine MetFree.of_bodySF (plainFor_of_name pn_8) hisR ?_
  intro p e s m args below meth c s₁ Bd hml0 hP hK
  obtain ⟨rfl, hZ, hh⟩ := hP
  have hx := Bd.exec
  have hby := Bd.bytes
  have hml : c.maxLocals = 1 := hml0
  have hown := findClass_of_methodNamed Bd.named
  have X0 : Stand p l e (Rm 0 0 0 0) s m _ below meth c _ [] 0 0 := Stand.of_body Bd
  have e0 : s₁.heap = h0 := by rw [← hh, Bd.state]; rfl
  have pre0 := cast0 (p := p) (e := e) (below := below) (T := s₁) (ef_44 m p1)
  have pre2 : PP p e below (s₁.setTop (mkF m 3 #[vI p1] [iI 65, iI p1])) (s₁.setTop (entryFrame m #[(.int p1)] 1)) := by
    intro t kt
    refine pre0 t ?_
    refine XS.iloadN X0.here hx rfl (hb hby d44_0) rfl ?_
    refine XS.bipush X0.here hx rfl (hb hby d44_1) ?_
    exact kt
  by_cases hc1 : p1 < (65 : Int32)
  · have hh3 : p1 < (192 : Int32) := (own_bA hc1 (by decide))
    obtain ⟨fs, hr, hrun, hended, hW, hsame⟩ := X0.leave (v := some (.int p1)) (fun h => by rw [Bd.returns] at h; cases h)
    refine ⟨_, _, pre2 _ ?_, hrun, hended, _, _, rfl, ?_, ⟨_, rfl⟩, hW, hsame.mono (by decide) (by decide)⟩
    · refine XS.icmpYes X0.here hx rfl (pc0 := 3) (pc' := 12) rfl (hb hby d44_3) rfl (tlt hc1).1 (by decide) (by decide) ?_
      refine XS.iloadN X0.here hx rfl (hb hby d44_12) rfl ?_
      refine XS.sipush X0.here hx rfl (hb hby d44_13) ?_
      refine XS.icmpYes X0.here hx rfl (pc0 := 16) (pc' := 38) rfl (hb hby d44_16) rfl (tlt hh3).1 (by decide) (by decide) ?_
      refine XS.iloadN X0.here hx rfl (hb hby d44_38) rfl ?_
      show Steps _ _ _ (s₁.setTop (mkF m 39 #[vI p1] [iI p1])) _
      exact retI X0 hx Bd.returns (hb hby d44_39) hr
    · show QP _ _ _ s₁.heap _
      rw [e0]
      exact ⟨by first | rfl | (simp only [own_fold, if_pos hc1]; done) | (simp only [own_fold, if_pos hc1]; rfl) | (simp only [own_fold, if_pos hc1, nar] ; first | rfl | (simp; done) | decide), rfl, rfl⟩
  · have pre5 : PP p e below (s₁.setTop (mkF m 9 #[vI p1] [iI 90, iI p1])) (s₁.setTop (entryFrame m #[(.int p1)] 1)) := by
      intro t kt
      refine pre2 t ?_
      refine XS.icmpNo X0.here hx rfl (hb hby d44_3) rfl (flt hc1).1 ?_
      refine XS.iloadN X0.here hx rfl (hb hby d44_6) rfl ?_
      refine XS.bipush X0.here hx rfl (hb hby d44_7) ?_
      exact kt
    by_cases hc4 : (90 : Int32) < p1
    · have pre7 : PP p e below (s₁.setTop (mkF m 16 #[vI p1] [iI 192, iI p1])) (s₁.setTop (entryFrame m #[(.int p1)] 1)) := by
        intro t kt
        refine pre5 t ?_
        refine XS.icmpNo X0.here hx rfl (hb hby d44_9) rfl (tlt hc4).2.2.2 ?_
        refine XS.iloadN X0.here hx rfl (hb hby d44_12) rfl ?_
        refine XS.sipush X0.here hx rfl (hb hby d44_13) ?_
        exact kt
      by_cases hc6 : p1 < (192 : Int32)
      · obtain ⟨fs, hr, hrun, hended, hW, hsame⟩ := X0.leave (v := some (.int p1)) (fun h => by rw [Bd.returns] at h; cases h)
        refine ⟨_, _, pre7 _ ?_, hrun, hended, _, _, rfl, ?_, ⟨_, rfl⟩, hW, hsame.mono (by decide) (by decide)⟩
        · refine XS.icmpYes X0.here hx rfl (pc0 := 16) (pc' := 38) rfl (hb hby d44_16) rfl (tlt hc6).1 (by decide) (by decide) ?_
          refine XS.iloadN X0.here hx rfl (hb hby d44_38) rfl ?_
          show Steps _ _ _ (s₁.setTop (mkF m 39 #[vI p1] [iI p1])) _
          exact retI X0 hx Bd.returns (hb hby d44_39) hr
        · show QP _ _ _ s₁.heap _
          rw [e0]
          exact ⟨by first | rfl | (simp only [own_fold, if_neg hc1, if_pos hc4, if_pos hc6]; done) | (simp only [own_fold, if_neg hc1, if_pos hc4, if_pos hc6]; rfl) | (simp only [own_fold, if_neg hc1, if_pos hc4, if_pos hc6, nar] ; first | rfl | (simp; done) | decide), rfl, rfl⟩
      · have pre9 : PP p e below (s₁.setTop (mkF m 23 #[vI p1] [iI 222, iI p1])) (s₁.setTop (entryFrame m #[(.int p1)] 1)) := by
          intro t kt
          refine pre7 t ?_
          refine XS.icmpNo X0.here hx rfl (hb hby d44_16) rfl (flt hc6).1 ?_
          refine XS.iloadN X0.here hx rfl (hb hby d44_19) rfl ?_
          refine XS.sipush X0.here hx rfl (hb hby d44_20) ?_
          exact kt
        by_cases hc8 : (222 : Int32) < p1
        · obtain ⟨fs, hr, hrun, hended, hW, hsame⟩ := X0.leave (v := some (.int p1)) (fun h => by rw [Bd.returns] at h; cases h)
          refine ⟨_, _, pre9 _ ?_, hrun, hended, _, _, rfl, ?_, ⟨_, rfl⟩, hW, hsame.mono (by decide) (by decide)⟩
          · refine XS.icmpYes X0.here hx rfl (pc0 := 23) (pc' := 38) rfl (hb hby d44_23) rfl (tlt hc8).2.2.1 (by decide) (by decide) ?_
            refine XS.iloadN X0.here hx rfl (hb hby d44_38) rfl ?_
            show Steps _ _ _ (s₁.setTop (mkF m 39 #[vI p1] [iI p1])) _
            exact retI X0 hx Bd.returns (hb hby d44_39) hr
          · show QP _ _ _ s₁.heap _
            rw [e0]
            exact ⟨by first | rfl | (simp only [own_fold, if_neg hc1, if_pos hc4, if_neg hc6, if_pos hc8]; done) | (simp only [own_fold, if_neg hc1, if_pos hc4, if_neg hc6, if_pos hc8]; rfl) | (simp only [own_fold, if_neg hc1, if_pos hc4, if_neg hc6, if_pos hc8, nar] ; first | rfl | (simp; done) | decide), rfl, rfl⟩
        · have pre11 : PP p e below (s₁.setTop (mkF m 30 #[vI p1] [iI 215, iI p1])) (s₁.setTop (entryFrame m #[(.int p1)] 1)) := by
            intro t kt
            refine pre9 t ?_
            refine XS.icmpNo X0.here hx rfl (hb hby d44_23) rfl (flt hc8).2.2.1 ?_
            refine XS.iloadN X0.here hx rfl (hb hby d44_26) rfl ?_
            refine XS.sipush X0.here hx rfl (hb hby d44_27) ?_
            exact kt
          by_cases hc10 : p1 = (215 : Int32)
          · obtain ⟨fs, hr, hrun, hended, hW, hsame⟩ := X0.leave (v := some (.int p1)) (fun h => by rw [Bd.returns] at h; cases h)
            refine ⟨_, _, pre11 _ ?_, hrun, hended, _, _, rfl, ?_, ⟨_, rfl⟩, hW, hsame.mono (by decide) (by decide)⟩
            · refine XS.icmpYes X0.here hx rfl (pc0 := 30) (pc' := 38) rfl (hb hby d44_30) rfl (teq hc10).1 (by decide) (by decide) ?_
              refine XS.iloadN X0.here hx rfl (hb hby d44_38) rfl ?_
              show Steps _ _ _ (s₁.setTop (mkF m 39 #[vI p1] [iI p1])) _
              exact retI X0 hx Bd.returns (hb hby d44_39) hr
            · show QP _ _ _ s₁.heap _
              rw [e0]
              exact ⟨by first | rfl | (simp only [own_fold, if_neg hc1, if_pos hc4, if_neg hc6, if_neg hc8, if_pos hc10]; done) | (simp only [own_fold, if_neg hc1, if_pos hc4, if_neg hc6, if_neg hc8, if_pos hc10]; rfl) | (simp only [own_fold, if_neg hc1, if_pos hc4, if_neg hc6, if_neg hc8, if_pos hc10, nar] ; first | rfl | (simp; done) | decide), rfl, rfl⟩
          · obtain ⟨fs, hr, hrun, hended, hW, hsame⟩ := X0.leave (v := some (.int (p1 + (32 : Int32)))) (fun h => by rw [Bd.returns] at h; cases h)
            refine ⟨_, _, pre11 _ ?_, hrun, hended, _, _, rfl, ?_, ⟨_, rfl⟩, hW, hsame.mono (by decide) (by decide)⟩
            · refine XS.icmpNo X0.here hx rfl (hb hby d44_30) rfl (feq hc10).1 ?_
              refine XS.iloadN X0.here hx rfl (hb hby d44_33) rfl ?_
              refine XS.bipush X0.here hx rfl (hb hby d44_34) ?_
              refine XS.iadd X0.here hx rfl (hb hby d44_36) rfl ?_
              show Steps _ _ _ (s₁.setTop (mkF m 37 #[vI p1] [iI (p1 + (32 : Int32))])) _
              exact retI X0 hx Bd.returns (hb hby d44_37) hr
            · show QP _ _ _ s₁.heap _
              rw [e0]
              exact ⟨by first | rfl | (simp only [own_fold, if_neg hc1, if_pos hc4, if_neg hc6, if_neg hc8, if_neg hc10]; done) | (simp only [own_fold, if_neg hc1, if_pos hc4, if_neg hc6, if_neg hc8, if_neg hc10]; rfl) | (simp only [own_fold, if_neg hc1, if_pos hc4, if_neg hc6, if_neg hc8, if_neg hc10, nar] ; first | rfl | (simp; done) | decide), rfl, rfl⟩
    · obtain ⟨fs, hr, hrun, hended, hW, hsame⟩ := X0.leave (v := some (.int (p1 + (32 : Int32)))) (fun h => by rw [Bd.returns] at h; cases h)
      refine ⟨_, _, pre5 _ ?_, hrun, hended, _, _, rfl, ?_, ⟨_, rfl⟩, hW, hsame.mono (by decide) (by decide)⟩
      · refine XS.icmpYes X0.here hx rfl (pc0 := 9) (pc' := 33) rfl (hb hby d44_9) rfl (flt hc4).2.2.2 (by decide) (by decide) ?_
        refine XS.iloadN X0.here hx rfl (hb hby d44_33) rfl ?_
        refine XS.bipush X0.here hx rfl (hb hby d44_34) ?_
        refine XS.iadd X0.here hx rfl (hb hby d44_36) rfl ?_
        show Steps _ _ _ (s₁.setTop (mkF m 37 #[vI p1] [iI (p1 + (32 : Int32))])) _
        exact retI X0 hx Bd.returns (hb hby d44_37) hr
      · show QP _ _ _ s₁.heap _
        rw [e0]
        exact ⟨by first | rfl | (simp only [own_fold, if_neg hc1, if_neg hc4]; done) | (simp only [own_fold, if_neg hc1, if_neg hc4]; rfl) | (simp only [own_fold, if_neg hc1, if_neg hc4, nar] ; first | rfl | (simp; done) | decide), rfl, rfl⟩
theorem own_ofNat (v : Int32) (n : Nat) (hn : n ≤ 1000000) (h0 : 0 ≤ v.toInt) (h1 : v.toInt < n) : ∃ i, i < n ∧ v = Int32.ofNat i := by
  refine ⟨v.toInt.toNat, by omega, Int32.toInt_inj.mp ?_⟩
  rw [Int32.toInt_ofNat_of_lt (by omega)]; omega

def own_bi (b : Bool) : Int32 := if b then 1 else 0
def own_lwB : List Bool → Nat
  | [] => 0
  | b :: t => if b then 1 + own_lwB t else 0
def own_hwB (B : List Bool) : Nat → Nat
  | 0 => 0
  | i + 1 => if B.getD i false then own_hwB B i else i + 1
def own_wb (b : Int32) : Bool := decide (own_wsb b)
theorem own_lwE2 (R : List Int32) : own_lw R = own_lwB (R.map own_wb) := by
  induction R with
  | nil => rfl
  | cons b t ih =>
    rw [own_lw, List.map_cons, own_lwB, ih]
    by_cases q : own_wsb b
    · rw [if_pos q, if_pos (by simpa [own_wb] using q)]
    · rw [if_neg q, if_neg (by simpa [own_wb] using q)]
theorem own_hwE2 (R : List Int32) (i : Nat) (h : i ≤ R.length) : own_hw R i = own_hwB (R.map own_wb) i := by
  induction i with
  | zero => rfl
  | succ i ih =>
    have e : (R.map own_wb).getD i false = own_wb (R.getD i 0) := by
      rw [List.getD_eq_getElem?_getD, List.getD_eq_getElem?_getD, List.getElem?_map, List.getElem?_eq_getElem (by omega)]; rfl
    rw [own_hw, own_hwB, ih (by omega), e]
    by_cases q : own_wsb (R.getD i 0)
    · rw [if_pos q, if_pos (by simpa [own_wb] using q)]
    · rw [if_neg q, if_neg (by simpa [own_wb] using q)]
theorem own_c8i {x : Int32} (h : own_c8 x) : ∃ i, i < 256 ∧ x = Int32.ofNat i := own_ofNat x 256 (by decide) h.1 (by have := h.2; omega)
theorem own_all8 (p : Int32 → Bool) (h : (List.range 256).all (fun i => p (Int32.ofNat i)) = true) {x : Int32} (hx : own_c8 x) : p x = true := by
  obtain ⟨i, hi, rfl⟩ := own_c8i hx
  exact List.all_eq_true.mp h i (List.mem_range.mpr hi)
theorem own_wsQ {x : Int32} (h : own_c8 x) : own_wsL x = own_bi (own_wb (own_by x)) := beq_iff_eq.mp (own_all8 (fun x => own_wsL x == own_bi (own_wb (own_by x))) (by decide +kernel) h)
theorem own_nc8 {x : Int32} (h : own_c8 x) : nar .char x = x := beq_iff_eq.mp (own_all8 (fun x => nar .char x == x) (by decide +kernel) h)
theorem own_swc {x : Int32} (h : own_c8 x) : own_c8 (nar .char (own_swap x)) := by
  have q := own_all8 (fun x => decide (0 ≤ (nar .char (own_swap x)).toInt ∧ (nar .char (own_swap x)).toInt ≤ 255)) (by decide +kernel) h
  unfold own_c8
  exact of_decide_eq_true q
theorem own_cb {x : Int32} (h : own_c8 x) : own_chr (own_by x) = x := beq_iff_eq.mp (own_all8 (fun x => own_chr (own_by x) == x) (by decide +kernel) h)
theorem own_b32 {x : Int32} (h : own_c8 x) : (own_by x = 32) ↔ x = 32 := by
  have q := own_all8 (fun x => (own_by x == 32) == (x == 32)) (by decide +kernel) h
  constructor
  · intro e; have := beq_iff_eq.mp q; rw [e] at this; exact beq_iff_eq.mp (this.symm.trans (by decide))
  · intro e; rw [e]; decide
theorem own_eq2 : ((List.range 256).all fun i => (List.range 256).all fun j => (own_eic (own_by (Int32.ofNat i)) (own_by (Int32.ofNat j)) == 0) == !(own_fold (Int32.ofNat i) == own_fold (Int32.ofNat j))) = true := by decide +kernel
theorem own_eqF {a s : Int32} (ha : own_c8 a) (hs : own_c8 s) : own_eic (own_by a) (own_by s) = 0 ↔ ¬ own_fold a = own_fold s := by
  obtain ⟨i, hi, rfl⟩ := own_c8i ha
  obtain ⟨j, hj, rfl⟩ := own_c8i hs
  have q := beq_iff_eq.mp (List.all_eq_true.mp (List.all_eq_true.mp own_eq2 i (List.mem_range.mpr hi)) j (List.mem_range.mpr hj))
  constructor
  · intro e f
    rw [e, f] at q
    simp at q
  · intro f
    have g : (own_fold (Int32.ofNat i) == own_fold (Int32.ofNat j)) = false := by simpa using f
    rw [g] at q
    exact beq_iff_eq.mp q
def own_hs (i j w f t v : Int32) : Int32 := if i < f then v else (if i < t then (if w = 0 then j else v) else v)

def own_loG (w0 w1 w2 w3 w4 w5 f t : Int32) : Int32 := own_hs 0 0 w0 f t (own_hs 1 1 w1 f t (own_hs 2 2 w2 f t (own_hs 3 3 w3 f t (own_hs 4 4 w4 f t (own_hs 5 5 w5 f t t)))))
def own_loF (AL : List Int32) (f t : Int32) : Int32 := own_loG (own_wsL (AL.getD 0 0)) (own_wsL (AL.getD 1 0)) (own_wsL (AL.getD 2 0)) (own_wsL (AL.getD 3 0)) (own_wsL (AL.getD 4 0)) (own_wsL (AL.getD 5 0)) f t
def own_hiG (w0 w1 w2 w3 w4 w5 f t : Int32) : Int32 := own_hs 5 6 w5 f t (own_hs 4 5 w4 f t (own_hs 3 4 w3 f t (own_hs 2 3 w2 f t (own_hs 1 2 w1 f t (own_hs 0 1 w0 f t f)))))
def own_hiF (AL : List Int32) (f t : Int32) : Int32 := own_hiG (own_wsL (AL.getD 0 0)) (own_wsL (AL.getD 1 0)) (own_wsL (AL.getD 2 0)) (own_wsL (AL.getD 3 0)) (own_wsL (AL.getD 4 0)) (own_wsL (AL.getD 5 0)) f t
theorem own_loD : ∀ b0 b1 b2 b3 b4 b5 : Bool, ∀ f : Fin 4, ∀ t : Fin 7, f.val ≤ t.val → own_loG (own_bi b0) (own_bi b1) (own_bi b2) (own_bi b3) (own_bi b4) (own_bi b5) (Int32.ofNat f.val) (Int32.ofNat t.val) = Int32.ofNat (f.val + own_lwB ((([b0, b1, b2, b3, b4, b5]).take t.val).drop f.val)) := by decide +kernel
theorem own_hiD : ∀ b0 b1 b2 b3 b4 b5 : Bool, ∀ f : Fin 4, ∀ t : Fin 7, f.val ≤ t.val → own_hiG (own_bi b0) (own_bi b1) (own_bi b2) (own_bi b3) (own_bi b4) (own_bi b5) (Int32.ofNat f.val) (Int32.ofNat t.val) = Int32.ofNat (f.val + own_hwB ((([b0, b1, b2, b3, b4, b5]).take t.val).drop f.val) (t.val - f.val)) := by decide +kernel
theorem own_six {AL : List Int32} (h : AL.length = 6) : ∃ x0 x1 x2 x3 x4 x5, AL = [x0, x1, x2, x3, x4, x5] := by
  match AL, h with
  | [x0, x1, x2, x3, x4, x5], _ => exact ⟨x0, x1, x2, x3, x4, x5, rfl⟩
theorem own_mw {x0 x1 x2 x3 x4 x5 : Int32} (f t : Nat) : (((([x0, x1, x2, x3, x4, x5] : List Int32).take t).map own_by).drop f).map own_wb = ((([own_wb (own_by x0), own_wb (own_by x1), own_wb (own_by x2), own_wb (own_by x3), own_wb (own_by x4), own_wb (own_by x5)]).take t).drop f) := by
  rw [List.map_drop, List.map_map, List.map_take]; rfl

theorem own_loS {AL : List Int32} {f t : Int32} (hl : AL.length = 6) (hok : ∀ x ∈ AL, own_c8 x) (hf : 0 ≤ f.toInt ∧ f.toInt ≤ 3) (ht : 0 ≤ t.toInt ∧ t.toInt ≤ 6) (hft : f.toInt ≤ t.toInt) : (own_loF AL f t).toInt = f.toInt + (own_lw (((AL.take t.toNatClampNeg).map own_by).drop f.toNatClampNeg) : Int) := by
  obtain ⟨fn, hfn, rfl⟩ := own_ofNat f 4 (by decide) hf.1 (by omega)
  obtain ⟨tn, htn, rfl⟩ := own_ofNat t 7 (by decide) ht.1 (by omega)
  rw [own_oN (by omega), own_oN (by omega)] at hft
  obtain ⟨x0, x1, x2, x3, x4, x5, rfl⟩ := own_six hl
  have q := own_loD (own_wb (own_by x0)) (own_wb (own_by x1)) (own_wb (own_by x2)) (own_wb (own_by x3)) (own_wb (own_by x4)) (own_wb (own_by x5)) ⟨fn, hfn⟩ ⟨tn, htn⟩ (by show fn ≤ tn; omega)
  simp only [] at q
  rw [← own_wsQ (hok x0 (by simp))] at q
  rw [← own_wsQ (hok x1 (by simp))] at q
  rw [← own_wsQ (hok x2 (by simp))] at q
  rw [← own_wsQ (hok x3 (by simp))] at q
  rw [← own_wsQ (hok x4 (by simp))] at q
  rw [← own_wsQ (hok x5 (by simp))] at q
  have q' : own_loF [x0, x1, x2, x3, x4, x5] (Int32.ofNat fn) (Int32.ofNat tn) = _ := q
  rw [q', own_oC (n := fn) (by omega), own_oC (n := tn) (by omega), own_oN (n := fn) (by omega)]
  rw [own_lwE2, own_mw]
  rw [own_oN]
  · omega
  · have := own_lwLe ((([x0, x1, x2, x3, x4, x5].take tn).map own_by).drop fn)
    rw [own_lwE2, own_mw] at this
    simp only [List.length_drop, List.length_map, List.length_take, List.length_cons, List.length_nil] at this
    omega
theorem own_hiS {AL : List Int32} {f t : Int32} (hl : AL.length = 6) (hok : ∀ x ∈ AL, own_c8 x) (hf : 0 ≤ f.toInt ∧ f.toInt ≤ 3) (ht : 0 ≤ t.toInt ∧ t.toInt ≤ 6) (hft : f.toInt ≤ t.toInt) : (own_hiF AL f t).toInt = f.toInt + (own_hw (((AL.take t.toNatClampNeg).map own_by).drop f.toNatClampNeg) (((AL.take t.toNatClampNeg).map own_by).drop f.toNatClampNeg).length : Int) := by
  obtain ⟨fn, hfn, rfl⟩ := own_ofNat f 4 (by decide) hf.1 (by omega)
  obtain ⟨tn, htn, rfl⟩ := own_ofNat t 7 (by decide) ht.1 (by omega)
  rw [own_oN (by omega), own_oN (by omega)] at hft
  obtain ⟨x0, x1, x2, x3, x4, x5, rfl⟩ := own_six hl
  have q := own_hiD (own_wb (own_by x0)) (own_wb (own_by x1)) (own_wb (own_by x2)) (own_wb (own_by x3)) (own_wb (own_by x4)) (own_wb (own_by x5)) ⟨fn, hfn⟩ ⟨tn, htn⟩ (by show fn ≤ tn; omega)
  simp only [] at q
  rw [← own_wsQ (hok x0 (by simp))] at q
  rw [← own_wsQ (hok x1 (by simp))] at q
  rw [← own_wsQ (hok x2 (by simp))] at q
  rw [← own_wsQ (hok x3 (by simp))] at q
  rw [← own_wsQ (hok x4 (by simp))] at q
  rw [← own_wsQ (hok x5 (by simp))] at q
  have q' : own_hiF [x0, x1, x2, x3, x4, x5] (Int32.ofNat fn) (Int32.ofNat tn) = _ := q
  rw [q', own_oC (n := fn) (by omega), own_oC (n := tn) (by omega), own_oN (n := fn) (by omega)]
  have hL : ((([x0, x1, x2, x3, x4, x5].take tn).map own_by).drop fn).length = tn - fn := by
    simp only [List.length_drop, List.length_map, List.length_take, List.length_cons, List.length_nil]; omega
  rw [own_hwE2 _ _ (Nat.le_refl _), own_mw, hL]
  rw [own_oN]
  · omega
  · have := own_hwLe ((([x0, x1, x2, x3, x4, x5].take tn).map own_by).drop fn) (tn - fn)
    rw [own_hwE2 _ _ (by rw [hL]; exact Nat.le_refl _), own_mw] at this
    omega
theorem own_Bg {AL : List Int32} {a i : Nat} (h : i < a) (hl : i < AL.length) : ((AL.take a).map own_by).getD i 0 = own_by (AL.getD i 0) := by
  rw [List.getD_eq_getElem?_getD, List.getD_eq_getElem?_getD, List.getElem?_map, List.getElem?_take, if_pos h, List.getElem?_eq_getElem hl]; rfl
def own_fq (AL SL : List Int32) (sl : Int32) : Prop := (¬ sl < 1 → own_fold (AL.getD 0 0) = own_fold (SL.getD 0 0)) ∧ (¬ sl < 2 → own_fold (AL.getD 1 0) = own_fold (SL.getD 1 0)) ∧ (¬ sl < 3 → own_fold (AL.getD 2 0) = own_fold (SL.getD 2 0))
theorem own_gc {AL : List Int32} (hok : ∀ x ∈ AL, own_c8 x) {i : Nat} (h : i < AL.length) : own_c8 (AL.getD i 0) := own_get8 hok h
theorem own_nb0 : nar .boolean (0 : Int32) = 0 := by decide
theorem own_nb1 : ¬ nar .boolean (1 : Int32) = 0 := by decide
theorem own_three {SL : List Int32} (h : SL.length = 3) : ∃ y0 y1 y2, SL = [y0, y1, y2] := by
  match SL, h with
  | [y0, y1, y2], _ => exact ⟨y0, y1, y2, rfl⟩
theorem own_rcQ {AL SL : List Int32} {sl : Int32} {a : Nat} (hA : AL.length = 6) (hS : SL.length = 3) (okA : ∀ x ∈ AL, own_c8 x) (okS : ∀ x ∈ SL, own_c8 x) (hsl : sl = 0 ∨ sl = 1 ∨ sl = 2 ∨ sl = 3) (hma : sl.toNatClampNeg ≤ a) : nar .boolean (own_rcS ((AL.take a).map own_by) ((SL.take sl.toNatClampNeg).map own_by)) = 0 ↔ ¬ own_fq AL SL sl := by
  obtain ⟨y0, y1, y2, rfl⟩ := own_three hS
  have e0 := own_eqF (own_gc okA (i := 0) (by omega)) (okS y0 (by simp))
  have e1 := own_eqF (own_gc okA (i := 1) (by omega)) (okS y1 (by simp))
  have e2 := own_eqF (own_gc okA (i := 2) (by omega)) (okS y2 (by simp))
  rcases hsl with rfl | rfl | rfl | rfl
  · show nar .boolean (1 : Int32) = 0 ↔ _
    exact ⟨fun h => absurd h own_nb1, fun h => absurd ⟨fun q => absurd (by decide) q, fun q => absurd (by decide) q, fun q => absurd (by decide) q⟩ h⟩
  · show nar .boolean (own_rc1 _ (own_by y0)) = 0 ↔ _
    have hma' : 1 ≤ a := hma
    rw [own_rc1, own_Bg (by omega) (by omega)]
    by_cases f0 : own_fold (AL.getD 0 0) = own_fold y0
    · rw [if_neg fun q => e0.mp q f0]
      exact ⟨fun h => absurd h own_nb1, fun h => absurd ⟨fun _ => f0, fun q => absurd (by decide) q, fun q => absurd (by decide) q⟩ h⟩
    · rw [if_pos (e0.mpr f0)]
      exact ⟨fun _ q => f0 (q.1 (by decide)), fun _ => own_nb0⟩
  · show nar .boolean (own_rc2 _ (own_by y0) (own_by y1)) = 0 ↔ _
    have hma' : 2 ≤ a := hma
    rw [own_rc2, own_Bg (by omega) (by omega), own_Bg (by omega) (by omega)]
    by_cases f0 : own_fold (AL.getD 0 0) = own_fold y0
    · rw [if_neg fun q => e0.mp q f0]
      by_cases f1 : own_fold (AL.getD 1 0) = own_fold y1
      · rw [if_neg fun q => e1.mp q f1]
        exact ⟨fun h => absurd h own_nb1, fun h => absurd ⟨fun _ => f0, fun _ => f1, fun q => absurd (by decide) q⟩ h⟩
      · rw [if_pos (e1.mpr f1)]
        exact ⟨fun _ q => f1 (q.2.1 (by decide)), fun _ => own_nb0⟩
    · rw [if_pos (e0.mpr f0)]
      exact ⟨fun _ q => f0 (q.1 (by decide)), fun _ => own_nb0⟩
  · show nar .boolean (own_rc3 _ (own_by y0) (own_by y1) (own_by y2)) = 0 ↔ _
    have hma' : 3 ≤ a := hma
    rw [own_rc3, own_Bg (by omega) (by omega), own_Bg (by omega) (by omega), own_Bg (by omega) (by omega)]
    by_cases f0 : own_fold (AL.getD 0 0) = own_fold y0
    · rw [if_neg fun q => e0.mp q f0]
      by_cases f1 : own_fold (AL.getD 1 0) = own_fold y1
      · rw [if_neg fun q => e1.mp q f1]
        by_cases f2 : own_fold (AL.getD 2 0) = own_fold y2
        · rw [if_neg fun q => e2.mp q f2]
          exact ⟨fun h => absurd h own_nb1, fun h => absurd ⟨fun _ => f0, fun _ => f1, fun _ => f2⟩ h⟩
        · rw [if_pos (e2.mpr f2)]
          exact ⟨fun _ q => f2 (q.2.2 (by decide)), fun _ => own_nb0⟩
      · rw [if_pos (e1.mpr f1)]
        exact ⟨fun _ q => f1 (q.2.1 (by decide)), fun _ => own_nb0⟩
    · rw [if_pos (e0.mpr f0)]
      exact ⟨fun _ q => f0 (q.1 (by decide)), fun _ => own_nb0⟩
abbrev own_tk2 (AL : List Int32) (n : Int32) : List Int32 := (AL.take n.toNatClampNeg).map own_by
theorem own_tkl {AL : List Int32} {n : Int32} (h : n.toInt ≤ (AL.length : Int)) : (own_tk2 AL n).length = n.toNatClampNeg := by
  simp only [List.length_map, List.length_take, Int32.toNatClampNeg]; omega
theorem own_cN {AL : List Int32} {n : Int32} (h : 0 ≤ n.toInt) : (n.toNatClampNeg : Int) = n.toInt := by simp only [Int32.toNatClampNeg]; omega
theorem own_sl3 {sl : Int32} (h : 0 ≤ sl.toInt ∧ sl.toInt ≤ 3) : sl = 0 ∨ sl = 1 ∨ sl = 2 ∨ sl = 3 := by
  obtain ⟨i, hi, rfl⟩ := own_ofNat sl 4 (by decide) h.1 (by omega)
  match i, hi with
  | 0, _ => exact Or.inl rfl
  | 1, _ => exact Or.inr (Or.inl rfl)
  | 2, _ => exact Or.inr (Or.inr (Or.inl rfl))
  | 3, _ => exact Or.inr (Or.inr (Or.inr rfl))
theorem own_aft0 {AL : List Int32} {al sl : Int32} (hA : AL.length = 6) (okA : ∀ x ∈ AL, own_c8 x) (ha : 0 ≤ al.toInt ∧ al.toInt ≤ 6) (hs : 0 ≤ sl.toInt ∧ sl.toInt ≤ 3) (h : sl.toInt ≤ al.toInt) : ((own_tk2 AL al).drop sl.toNatClampNeg).getD 0 0 = 32 ↔ (¬ al = sl ∧ AL.getD sl.toNatClampNeg 0 = 32) := by
  have hl := own_tkl (AL := AL) (n := al) (by omega)
  have c1 := own_cN (AL := AL) ha.1
  have c2 := own_cN (AL := AL) hs.1
  rw [List.getD_eq_getElem?_getD, List.getElem?_drop, Nat.add_zero, ← List.getD_eq_getElem?_getD]
  by_cases e : al = sl
  · constructor
    · intro q
      rw [List.getD_eq_getElem?_getD, List.getElem?_eq_none (by rw [hl, e]; exact Nat.le_refl _)] at q
      exact absurd q (by decide)
    · intro q; exact absurd e q.1
  · have hlt : sl.toInt < al.toInt := by
      have : ¬ al.toInt = sl.toInt := fun q => e (Int32.toInt_inj.mp q)
      omega
    rw [own_Bg (by omega) (by omega), own_b32 (own_gc okA (by omega))]
    exact ⟨fun q => ⟨e, q⟩, fun q => q.2⟩
theorem own_credS {AL SL W : List Int32} {al sl : Int32} (hA : AL.length = 6) (hS : SL.length = 3) (okA : ∀ x ∈ AL, own_c8 x) (okS : ∀ x ∈ SL, own_c8 x) (ha : 0 ≤ al.toInt ∧ al.toInt ≤ 6) (hs : 0 ≤ sl.toInt ∧ sl.toInt ≤ 3) (h : own_cred (own_tk2 AL al) (own_tk2 SL sl) = some W) : sl.toInt ≤ al.toInt ∧ own_fq AL SL sl ∧ ¬ al = sl ∧ AL.getD sl.toNatClampNeg 0 = 32 ∧ W = own_strip ((own_tk2 AL al).drop sl.toNatClampNeg) := by
  have l1 := own_tkl (AL := AL) (n := al) (by omega)
  have l2 := own_tkl (AL := SL) (n := sl) (by omega)
  have c1 := own_cN (AL := AL) ha.1
  have c2 := own_cN (AL := AL) hs.1
  by_cases q1 : (own_tk2 AL al).length < (own_tk2 SL sl).length
  · rw [own_credL q1] at h; cases h
  have hle : sl.toInt ≤ al.toInt := by omega
  have hrq := own_rcQ (a := al.toNatClampNeg) hA hS okA okS (own_sl3 hs) (by omega)
  by_cases q2 : nar .boolean (own_rcS (own_tk2 AL al) (own_tk2 SL sl)) = 0
  · rw [own_credN q2] at h; cases h
  have hfq : own_fq AL SL sl := Classical.not_not.mp fun q => q2 (hrq.mpr q)
  rw [own_credY q1 q2, l2, own_aft] at h
  by_cases q3 : ((own_tk2 AL al).drop sl.toNatClampNeg).getD 0 0 = 32
  · rw [if_pos q3] at h
    have q4 := (own_aft0 hA okA ha hs hle).mp q3
    exact ⟨hle, hfq, q4.1, q4.2, (Option.some.inj h).symm⟩
  · rw [if_neg q3] at h; cases h
theorem own_credD {AL SL : List Int32} {al sl : Int32} (hA : AL.length = 6) (hS : SL.length = 3) (okA : ∀ x ∈ AL, own_c8 x) (okS : ∀ x ∈ SL, own_c8 x) (ha : 0 ≤ al.toInt ∧ al.toInt ≤ 6) (hs : 0 ≤ sl.toInt ∧ sl.toInt ≤ 3) (h : own_cred (own_tk2 AL al) (own_tk2 SL sl) = none) (hle : ¬ al < sl) (hfq : own_fq AL SL sl) (hne : ¬ al = sl) (h32 : AL.getD sl.toNatClampNeg 0 = 32) : False := by
  have l1 := own_tkl (AL := AL) (n := al) (by omega)
  have l2 := own_tkl (AL := SL) (n := sl) (by omega)
  have c1 := own_cN (AL := AL) ha.1
  have c2 := own_cN (AL := AL) hs.1
  rw [Int32.lt_iff_toInt_lt] at hle
  have hrq := own_rcQ (a := al.toNatClampNeg) hA hS okA okS (own_sl3 hs) (by omega)
  rw [own_credY (B := own_tk2 AL al) (S := own_tk2 SL sl) (by rw [l1, l2]; omega) (fun q => hrq.mp q hfq), l2, own_aft, if_pos ((own_aft0 hA okA ha hs (by omega)).mpr ⟨hne, h32⟩)] at h
  cases h
theorem own_stl (R : List Int32) : (own_strip R).length = own_hw R R.length - own_lw R := by
  have h1 := own_lwLe R
  have h2 := own_hwLe R R.length
  rw [own_strip, List.length_take, List.length_drop]; omega
theorem own_stg (R : List Int32) {i : Nat} (h : i < (own_strip R).length) : (own_strip R).getD i 0 = R.getD (own_lw R + i) 0 := by
  rw [own_stl] at h
  rw [own_strip, List.getD_eq_getElem?_getD, List.getElem?_take, if_pos h, List.getElem?_drop, ← List.getD_eq_getElem?_getD]
theorem own_finA {R : List Int32} {W : List Int32} {lo hi zw sl : Int32} (hW : W = own_strip R) (hlo : lo.toInt = sl.toInt + (own_lw R : Int)) (hhi : hi.toInt = sl.toInt + (own_hw R R.length : Int)) (hzw : zw.toInt = (W.length : Int)) (h : hi < lo) : zw = lo - lo := by
  rw [own_subz]
  apply Int32.toInt_inj.mp
  rw [hzw, hW, own_stl]
  rw [Int32.lt_iff_toInt_lt] at h
  have e : (0 : Int32).toInt = 0 := rfl
  omega
theorem own_finB {R : List Int32} {W : List Int32} {lo hi zw sl : Int32} (hW : W = own_strip R) (hlo : lo.toInt = sl.toInt + (own_lw R : Int)) (hhi : hi.toInt = sl.toInt + (own_hw R R.length : Int)) (hzw : zw.toInt = (W.length : Int)) (h : ¬ hi < lo) : zw = hi - lo := by
  rw [Int32.lt_iff_toInt_lt] at h
  symm
  apply own_subE
  rw [hzw, hW, own_stl]
  omega
theorem own_finC {AL : List Int32} {al sl lo zw : Int32} {W : List Int32} (hA : AL.length = 6) (okA : ∀ x ∈ AL, own_c8 x) (ha : 0 ≤ al.toInt ∧ al.toInt ≤ 6) (hs : 0 ≤ sl.toInt ∧ sl.toInt ≤ 3) (hW : W = own_strip ((own_tk2 AL al).drop sl.toNatClampNeg)) (hlo : lo.toInt = sl.toInt + (own_lw ((own_tk2 AL al).drop sl.toNatClampNeg) : Int)) (hzw : zw.toInt = (W.length : Int)) : ∀ i : Int32, ¬ i < (0 : Int32) → i < zw → (¬ (lo + i) < (0 : Int32) ∧ (lo + i) < (6 : Int32)) ∧ own_chr (W.getD i.toNatClampNeg 0) = AL.getD (lo + i).toNatClampNeg 0 := by
  intro i h0 h1
  rw [Int32.lt_iff_toInt_lt] at h0 h1
  have e0 : (0 : Int32).toInt = 0 := rfl
  have e6 : (6 : Int32).toInt = 6 := rfl
  have l1 := own_tkl (AL := AL) (n := al) (by omega)
  have c1 := own_cN (AL := AL) ha.1
  have c2 := own_cN (AL := AL) hs.1
  have ci := own_cN (AL := AL) (n := i) (by omega)
  have hi : i.toNatClampNeg < W.length := by omega
  have hw := own_stl ((own_tk2 AL al).drop sl.toNatClampNeg)
  have hh := own_hwLe ((own_tk2 AL al).drop sl.toNatClampNeg) ((own_tk2 AL al).drop sl.toNatClampNeg).length
  have hl : ((own_tk2 AL al).drop sl.toNatClampNeg).length = al.toNatClampNeg - sl.toNatClampNeg := by rw [List.length_drop, l1]
  rw [← hW] at hw
  have q := c_iadd lo i
  have r := rng32 (lo + i)
  have hs_ : (lo + i).toInt = lo.toInt + i.toInt := by omega
  have hn : (lo + i).toNatClampNeg = sl.toNatClampNeg + (own_lw ((own_tk2 AL al).drop sl.toNatClampNeg) + i.toNatClampNeg) := by
    have := own_cN (AL := AL) (n := lo + i) (by omega)
    omega
  refine ⟨⟨?_, ?_⟩, ?_⟩
  · rw [Int32.lt_iff_toInt_lt]; omega
  · rw [Int32.lt_iff_toInt_lt]; omega
  · rw [hW, own_stg _ (by rw [← hW]; exact hi), List.getD_eq_getElem?_getD, List.getElem?_drop, ← List.getD_eq_getElem?_getD, ← hn, own_Bg (by omega) (by omega), own_cb (own_gc okA (by omega))]

theorem own_okset {CL : List Int32} (hok : ∀ x ∈ CL, own_c8 x) (i : Nat) {y : Int32} (hy : own_c8 y) : ∀ x ∈ CL.set i y, own_c8 x := fun x hx => (List.mem_or_eq_of_mem_set hx).elim (hok x) (fun e => e ▸ hy)
theorem own_bsSet (A : List Int32) (i : Nat) (x : Int32) : (own_bs A).set i (.int x) = own_bs (A.set i x) := List.map_set.symm
theorem own_ncc {x : Int32} (h : own_c8 x) : own_c8 (nar .char x) := by rw [own_nc8 h]; exact h
theorem own_c32 : own_c8 (nar .char (32 : Int32)) := ⟨by decide, by decide⟩
theorem own_oc {P : Prop} (C : Option (List Int32)) (f : C = none → P) (g : ∀ W, C = some W → P) : P := by
  cases h : C with
  | none => exact f h
  | some W => exact g W h
theorem own_in6 {j : Int32} (h : 0 ≤ j.toInt ∧ j.toInt ≤ 3) : ¬ j < (0 : Int32) ∧ j < (6 : Int32) := ⟨own_nneg h.1, own_lt (by have e : (6 : Int32).toInt = 6 := rfl; omega)⟩
theorem own_in6n {j : Int32} (h : 0 ≤ j.toInt ∧ j.toInt ≤ 3) : j.toNatClampNeg < 6 := by simp only [Int32.toNatClampNeg]; omega
theorem own_rm7 (x : Int32) : 0 ≤ ((x &&& (127 : Int32)) % (7 : Int32)).toInt ∧ ((x &&& (127 : Int32)) % (7 : Int32)).toInt ≤ 6 := by
  have h0 : 0 ≤ (x &&& (127 : Int32)).toInt := (c_and x 127 (by decide)).1
  rw [(c_irem (x &&& (127 : Int32)) 7 7 rfl).1 h0]
  omega
theorem own_rm4 (x : Int32) : 0 ≤ ((x &&& (127 : Int32)) % (4 : Int32)).toInt ∧ ((x &&& (127 : Int32)) % (4 : Int32)).toInt ≤ 3 := by
  have h0 : 0 ≤ (x &&& (127 : Int32)).toInt := (c_and x 127 (by decide)).1
  rw [(c_irem (x &&& (127 : Int32)) 4 4 rfl).1 h0]
  omega

theorem d34_0 : dk c34 0 (.iload_n 2) 1 := by decide +kernel
theorem d34_1 : dk c34 1 (.istore_n 3) 1 := by decide +kernel
theorem d34_2 : dk c34 2 (.iconst 5) 1 := by decide +kernel
theorem d34_3 : dk c34 3 (.iload_n 1) 1 := by decide +kernel
theorem d34_4 : dk c34 4 (.if_icmp .lt 19) 3 := by decide +kernel
theorem d34_7 : dk c34 7 (.iconst 5) 1 := by decide +kernel
theorem d34_8 : dk c34 8 (.iload_n 2) 1 := by decide +kernel
theorem d34_9 : dk c34 9 (.if_icmp .ge 14) 3 := by decide +kernel
theorem d34_12 : dk c34 12 (.aload_n 0) 1 := by decide +kernel
theorem d34_13 : dk c34 13 (.iconst 5) 1 := by decide +kernel
theorem d34_14 : dk c34 14 .caload 1 := by decide +kernel
theorem d34_15 : dk c34 15 (.invokestatic 48) 3 := by decide +kernel
theorem d34_18 : dk c34 18 (.ifCond .ne 5) 3 := by decide +kernel
theorem d34_21 : dk c34 21 (.iconst 5) 1 := by decide +kernel
theorem d34_22 : dk c34 22 (.istore_n 3) 1 := by decide +kernel
theorem d34_23 : dk c34 23 (.iconst 4) 1 := by decide +kernel
theorem d34_24 : dk c34 24 (.iload_n 1) 1 := by decide +kernel
theorem d34_25 : dk c34 25 (.if_icmp .lt 19) 3 := by decide +kernel
theorem d34_28 : dk c34 28 (.iconst 4) 1 := by decide +kernel
theorem d34_29 : dk c34 29 (.iload_n 2) 1 := by decide +kernel
theorem d34_30 : dk c34 30 (.if_icmp .ge 14) 3 := by decide +kernel
theorem d34_33 : dk c34 33 (.aload_n 0) 1 := by decide +kernel
theorem d34_34 : dk c34 34 (.iconst 4) 1 := by decide +kernel
theorem d34_35 : dk c34 35 .caload 1 := by decide +kernel
theorem d34_36 : dk c34 36 (.invokestatic 48) 3 := by decide +kernel
theorem d34_39 : dk c34 39 (.ifCond .ne 5) 3 := by decide +kernel
theorem d34_42 : dk c34 42 (.iconst 4) 1 := by decide +kernel
theorem d34_43 : dk c34 43 (.istore_n 3) 1 := by decide +kernel
theorem d34_44 : dk c34 44 (.iconst 3) 1 := by decide +kernel
theorem d34_45 : dk c34 45 (.iload_n 1) 1 := by decide +kernel
theorem d34_46 : dk c34 46 (.if_icmp .lt 19) 3 := by decide +kernel
theorem d34_49 : dk c34 49 (.iconst 3) 1 := by decide +kernel
theorem d34_50 : dk c34 50 (.iload_n 2) 1 := by decide +kernel
theorem d34_51 : dk c34 51 (.if_icmp .ge 14) 3 := by decide +kernel
theorem d34_54 : dk c34 54 (.aload_n 0) 1 := by decide +kernel
theorem d34_55 : dk c34 55 (.iconst 3) 1 := by decide +kernel
theorem d34_56 : dk c34 56 .caload 1 := by decide +kernel
theorem d34_57 : dk c34 57 (.invokestatic 48) 3 := by decide +kernel
theorem d34_60 : dk c34 60 (.ifCond .ne 5) 3 := by decide +kernel
theorem d34_63 : dk c34 63 (.iconst 3) 1 := by decide +kernel
theorem d34_64 : dk c34 64 (.istore_n 3) 1 := by decide +kernel
theorem d34_65 : dk c34 65 (.iconst 2) 1 := by decide +kernel
theorem d34_66 : dk c34 66 (.iload_n 1) 1 := by decide +kernel
theorem d34_67 : dk c34 67 (.if_icmp .lt 19) 3 := by decide +kernel
theorem d34_70 : dk c34 70 (.iconst 2) 1 := by decide +kernel
theorem d34_71 : dk c34 71 (.iload_n 2) 1 := by decide +kernel
theorem d34_72 : dk c34 72 (.if_icmp .ge 14) 3 := by decide +kernel
theorem d34_75 : dk c34 75 (.aload_n 0) 1 := by decide +kernel
theorem d34_76 : dk c34 76 (.iconst 2) 1 := by decide +kernel
theorem d34_77 : dk c34 77 .caload 1 := by decide +kernel
theorem d34_78 : dk c34 78 (.invokestatic 48) 3 := by decide +kernel
theorem d34_81 : dk c34 81 (.ifCond .ne 5) 3 := by decide +kernel
theorem d34_84 : dk c34 84 (.iconst 2) 1 := by decide +kernel
theorem d34_85 : dk c34 85 (.istore_n 3) 1 := by decide +kernel
theorem d34_86 : dk c34 86 (.iconst 1) 1 := by decide +kernel
theorem d34_87 : dk c34 87 (.iload_n 1) 1 := by decide +kernel
theorem d34_88 : dk c34 88 (.if_icmp .lt 19) 3 := by decide +kernel
theorem d34_91 : dk c34 91 (.iconst 1) 1 := by decide +kernel
theorem d34_92 : dk c34 92 (.iload_n 2) 1 := by decide +kernel
theorem d34_93 : dk c34 93 (.if_icmp .ge 14) 3 := by decide +kernel
theorem d34_96 : dk c34 96 (.aload_n 0) 1 := by decide +kernel
theorem d34_97 : dk c34 97 (.iconst 1) 1 := by decide +kernel
theorem d34_98 : dk c34 98 .caload 1 := by decide +kernel
theorem d34_99 : dk c34 99 (.invokestatic 48) 3 := by decide +kernel
theorem d34_102 : dk c34 102 (.ifCond .ne 5) 3 := by decide +kernel
theorem d34_105 : dk c34 105 (.iconst 1) 1 := by decide +kernel
theorem d34_106 : dk c34 106 (.istore_n 3) 1 := by decide +kernel
theorem d34_107 : dk c34 107 (.iconst 0) 1 := by decide +kernel
theorem d34_108 : dk c34 108 (.iload_n 1) 1 := by decide +kernel
theorem d34_109 : dk c34 109 (.if_icmp .lt 19) 3 := by decide +kernel
theorem d34_112 : dk c34 112 (.iconst 0) 1 := by decide +kernel
theorem d34_113 : dk c34 113 (.iload_n 2) 1 := by decide +kernel
theorem d34_114 : dk c34 114 (.if_icmp .ge 14) 3 := by decide +kernel
theorem d34_117 : dk c34 117 (.aload_n 0) 1 := by decide +kernel
theorem d34_118 : dk c34 118 (.iconst 0) 1 := by decide +kernel
theorem d34_119 : dk c34 119 .caload 1 := by decide +kernel
theorem d34_120 : dk c34 120 (.invokestatic 48) 3 := by decide +kernel
theorem d34_123 : dk c34 123 (.ifCond .ne 5) 3 := by decide +kernel
theorem d34_126 : dk c34 126 (.iconst 0) 1 := by decide +kernel
theorem d34_127 : dk c34 127 (.istore_n 3) 1 := by decide +kernel
theorem d34_128 : dk c34 128 (.iload_n 3) 1 := by decide +kernel
theorem d34_129 : dk c34 129 .ireturn 1 := by decide +kernel
theorem ef_34 (m : MethodId) (x0 : Addr) (x1 : Int32) (x2 : Int32) : entryFrame m #[(.ref x0), (.int x1), (.int x2)] 4 = mkF m 0 #[.val (.ref x0), .val (.int x1), .val (.int x2), .unset] [] := by first | (simp [entryFrame, mkF, argsToLocals, Value.category]; done) | rfl
theorem rm34 (l : Launch) (Z : State) (a0 : Array Value) (hw : HW a0 Z) (ws : List Jvm.Cond) (a1 : Addr) (p2 : Int32) (p3 : Int32) (kc : ClassId) (CL : List Int32) (h0 : Heap) (V_c : AC Z h0 a1 kc (6 : Int32) CL) :
    MFn l mn_39 method_5_code 4 (some .int) ws (Rm 1 0 0 12) #[(.ref a1), (.int p2), (.int p3)] Z h0 (QP h0 (some (.int (own_loF CL p2 p3)))) := by
  refine MetFree.of_bodySF (plainFor_of_name pn_8) hisR ?_
  intro p e s m args below meth c s₁ Bd hml0 hP hK
  obtain ⟨rfl, hZ, hh⟩ := hP
  have hx := Bd.exec
  have hby := Bd.bytes
  have hml : c.maxLocals = 4 := hml0
  have hown := findClass_of_methodNamed Bd.named
  have X0 : Stand p l e (Rm 1 0 0 12) s m _ below meth c _ [] 0 0 := Stand.of_body Bd
  have e0 : s₁.heap = h0 := by rw [← hh, Bd.state]; rfl
  have pre0 := cast0 (p := p) (e := e) (below := below) (T := s₁) (ef_34 m a1 p2 p3)
  obtain ⟨v1, hv1⟩ : ∃ z : Int32, z = (if (5 : Int32) < p2 then p3 else (if (5 : Int32) < p3 then (if (own_wsL (CL.getD 5 0)) = (0 : Int32) then (5 : Int32) else p3) else p3)) := ⟨_, rfl⟩
  obtain ⟨T2, X2, e2, st2⟩ : own_Mid X0 h0 (mkF m 4 #[vR a1, vI p2, vI p3, vI p3] [iI p2, iI 5]) (mkF m 23 #[vR a1, vI p2, vI p3, vI v1] []) := by
    by_cases hc3 : (5 : Int32) < p2
    · refine ⟨s₁, X0, e0, fun t kt => ?_⟩
      subst hv1
      simp only [if_pos hc3] at kt
      refine XS.icmpYes X0.here hx rfl (pc0 := 4) (pc' := 23) rfl (hb hby d34_4) rfl (tlt hc3).1 (by decide) (by decide) ?_
      exact kt
    · have pre5 : PP p e below (s₁.setTop (mkF m 9 #[vR a1, vI p2, vI p3, vI p3] [iI p3, iI 5])) (s₁.setTop (mkF m 4 #[vR a1, vI p2, vI p3, vI p3] [iI p2, iI 5])) := by
        intro t kt
        refine XS.icmpNo X0.here hx rfl (hb hby d34_4) rfl (flt hc3).1 ?_
        refine XS.iconst X0.here hx rfl (hb hby d34_7) ?_
        refine XS.iloadN X0.here hx rfl (hb hby d34_8) rfl ?_
        exact kt
      by_cases hc4 : (5 : Int32) < p3
      · obtain ⟨cl6, Ar6, q6, S6, M6, H6, G6⟩ := id V_c
        have hin7 := inb_of (j := 5) S6 ⟨by decide, by decide⟩
        have hat8 : cl6.slots[((5 : Int32)).toNatClampNeg]? = some (.int (CL.getD 5 0)) := Has.at H6 hin7 (own_bsget CL _)
        obtain ⟨_, _, ⟨T9, L9, k9, n9⟩, -, X9, ⟨Lc9, hQ9, l9, y9, z9⟩, st9⟩ := Jvm.LawKit.callS X0 hx (y := mn_36) hown (mw hZ hw 157 rfl) (mw hZ hw 158 rfl) (mw hZ hw 3 rfl) (mw hZ hw 159 rfl) (by decide) (backOf (W := 0) (rm35 l Z a0 hw [] (CL.getD 5 0) h0 ) hZ (ww hw 159 rfl) (ww hw 3 rfl) (by decide) (by decide)) (g := (mkF m 15 #[vR a1, vI p2, vI p3, vI p3] [iI (CL.getD 5 0)])) rfl (by rw [hml]; rfl) (argsL := [(.int (CL.getD 5 0))]) (rest := []) (lenOf pd_29 rfl) rfl (wz rfl) (hb hby d34_15) (fun _ _ => ⟨rfl, e0, (by decide : 0 + 0 ≤ _), (by decide : 0 + 0 ≤ _)⟩)
        dsimp only [Pt.U, Pt.locs, Pt.cells, Pt.slots] at X9 l9 y9 z9 st9 hQ9
        subst l9 y9 z9
        obtain ⟨rfl, rfl, e9⟩ := hQ9
        try rw [List.append_nil] at X9
        have pre11 : PP p e below (T9.setTop (mkF m 18 #[vR a1, vI p2, vI p3, vI p3] [iI (own_wsL (CL.getD 5 0))])) (s₁.setTop (mkF m 4 #[vR a1, vI p2, vI p3, vI p3] [iI p2, iI 5])) := by
          intro t kt
          refine pre5 t ?_
          refine XS.icmpNo X0.here hx rfl (hb hby d34_9) rfl (tlt hc4).2.1 ?_
          refine XS.aloadN X0.here hx rfl (hb hby d34_12) rfl rfl ?_
          refine XS.iconst X0.here hx rfl (hb hby d34_13) ?_
          refine X0.caload hx (j := 5) (v := (.int (CL.getD 5 0))) (by rw [e0]; exact Ar6.1) (State.isArrayOf_alike hZ.alike Ar6.2.1) Ar6.2.2 hin7 hat8 (g := (mkF m 14 #[vR a1, vI p2, vI p3, vI p3] [iI 5, iR a1])) rfl rfl (hb hby d34_14) _ ?_
          refine st9 _ ?_
          exact kt
        by_cases hc10 : (own_wsL (CL.getD 5 0)) = (0 : Int32)
        · refine ⟨T9, X9, e9, fun t kt => ?_⟩
          subst hv1
          simp only [if_neg hc3, if_pos hc4, if_pos hc10] at kt
          refine pre11 t ?_
          refine XS.ifNo X9.here hx rfl (hb hby d34_18) rfl ((if0 _ _).trans (teq hc10).2) ?_
          refine XS.iconst X9.here hx rfl (hb hby d34_21) ?_
          refine XS.istoreN X9.here hx rfl (hb hby d34_22) rfl (l' := #[vR a1, vI p2, vI p3, vI 5]) rfl ?_
          exact kt
        · refine ⟨T9, X9, e9, fun t kt => ?_⟩
          subst hv1
          simp only [if_neg hc3, if_pos hc4, if_neg hc10] at kt
          refine pre11 t ?_
          refine XS.ifYes X9.here hx rfl (pc0 := 18) (pc' := 23) rfl (hb hby d34_18) rfl ((if0 _ _).trans (feq hc10).2) (by decide) (by decide) ?_
          exact kt
      · refine ⟨s₁, X0, e0, fun t kt => ?_⟩
        subst hv1
        simp only [if_neg hc3, if_neg hc4] at kt
        refine pre5 t ?_
        refine XS.icmpYes X0.here hx rfl (pc0 := 9) (pc' := 23) rfl (hb hby d34_9) rfl (flt hc4).2.1 (by decide) (by decide) ?_
        exact kt
  obtain ⟨v12, hv12⟩ : ∃ z : Int32, z = (if (4 : Int32) < p2 then v1 else (if (4 : Int32) < p3 then (if (own_wsL (CL.getD 4 0)) = (0 : Int32) then (4 : Int32) else v1) else v1)) := ⟨_, rfl⟩
  obtain ⟨T13, X13, e13, st13⟩ : own_Mid X2 h0 (mkF m 25 #[vR a1, vI p2, vI p3, vI v1] [iI p2, iI 4]) (mkF m 44 #[vR a1, vI p2, vI p3, vI v12] []) := by
    by_cases hc14 : (4 : Int32) < p2
    · refine ⟨T2, X2, e2, fun t kt => ?_⟩
      subst hv12
      simp only [if_pos hc14] at kt
      refine XS.icmpYes X2.here hx rfl (pc0 := 25) (pc' := 44) rfl (hb hby d34_25) rfl (tlt hc14).1 (by decide) (by decide) ?_
      exact kt
    · have pre16 : PP p e below (T2.setTop (mkF m 30 #[vR a1, vI p2, vI p3, vI v1] [iI p3, iI 4])) (T2.setTop (mkF m 25 #[vR a1, vI p2, vI p3, vI v1] [iI p2, iI 4])) := by
        intro t kt
        refine XS.icmpNo X2.here hx rfl (hb hby d34_25) rfl (flt hc14).1 ?_
        refine XS.iconst X2.here hx rfl (hb hby d34_28) ?_
        refine XS.iloadN X2.here hx rfl (hb hby d34_29) rfl ?_
        exact kt
      by_cases hc15 : (4 : Int32) < p3
      · obtain ⟨cl17, Ar17, q17, S17, M17, H17, G17⟩ := id V_c
        have hin18 := inb_of (j := 4) S17 ⟨by decide, by decide⟩
        have hat19 : cl17.slots[((4 : Int32)).toNatClampNeg]? = some (.int (CL.getD 4 0)) := Has.at H17 hin18 (own_bsget CL _)
        obtain ⟨_, _, ⟨T20, L20, k20, n20⟩, -, X20, ⟨Lc20, hQ20, l20, y20, z20⟩, st20⟩ := Jvm.LawKit.callS X2 hx (y := mn_36) hown (mw hZ hw 157 rfl) (mw hZ hw 158 rfl) (mw hZ hw 3 rfl) (mw hZ hw 159 rfl) (by decide) (backOf (W := 0) (rm35 l Z a0 hw [] (CL.getD 4 0) h0 ) hZ (ww hw 159 rfl) (ww hw 3 rfl) (by decide) (by decide)) (g := (mkF m 36 #[vR a1, vI p2, vI p3, vI v1] [iI (CL.getD 4 0)])) rfl (by rw [hml]; rfl) (argsL := [(.int (CL.getD 4 0))]) (rest := []) (lenOf pd_29 rfl) rfl (wz rfl) (hb hby d34_36) (fun _ _ => ⟨rfl, e2, (by decide : 0 + 0 ≤ _), (by decide : 0 + 0 ≤ _)⟩)
        dsimp only [Pt.U, Pt.locs, Pt.cells, Pt.slots] at X20 l20 y20 z20 st20 hQ20
        subst l20 y20 z20
        obtain ⟨rfl, rfl, e20⟩ := hQ20
        try rw [List.append_nil] at X20
        have pre22 : PP p e below (T20.setTop (mkF m 39 #[vR a1, vI p2, vI p3, vI v1] [iI (own_wsL (CL.getD 4 0))])) (T2.setTop (mkF m 25 #[vR a1, vI p2, vI p3, vI v1] [iI p2, iI 4])) := by
          intro t kt
          refine pre16 t ?_
          refine XS.icmpNo X2.here hx rfl (hb hby d34_30) rfl (tlt hc15).2.1 ?_
          refine XS.aloadN X2.here hx rfl (hb hby d34_33) rfl rfl ?_
          refine XS.iconst X2.here hx rfl (hb hby d34_34) ?_
          refine X2.caload hx (j := 4) (v := (.int (CL.getD 4 0))) (by rw [e2]; exact Ar17.1) (State.isArrayOf_alike hZ.alike Ar17.2.1) Ar17.2.2 hin18 hat19 (g := (mkF m 35 #[vR a1, vI p2, vI p3, vI v1] [iI 4, iR a1])) rfl rfl (hb hby d34_35) _ ?_
          refine st20 _ ?_
          exact kt
        by_cases hc21 : (own_wsL (CL.getD 4 0)) = (0 : Int32)
        · refine ⟨T20, X20, e20, fun t kt => ?_⟩
          subst hv12
          simp only [if_neg hc14, if_pos hc15, if_pos hc21] at kt
          refine pre22 t ?_
          refine XS.ifNo X20.here hx rfl (hb hby d34_39) rfl ((if0 _ _).trans (teq hc21).2) ?_
          refine XS.iconst X20.here hx rfl (hb hby d34_42) ?_
          refine XS.istoreN X20.here hx rfl (hb hby d34_43) rfl (l' := #[vR a1, vI p2, vI p3, vI 4]) rfl ?_
          exact kt
        · refine ⟨T20, X20, e20, fun t kt => ?_⟩
          subst hv12
          simp only [if_neg hc14, if_pos hc15, if_neg hc21] at kt
          refine pre22 t ?_
          refine XS.ifYes X20.here hx rfl (pc0 := 39) (pc' := 44) rfl (hb hby d34_39) rfl ((if0 _ _).trans (feq hc21).2) (by decide) (by decide) ?_
          exact kt
      · refine ⟨T2, X2, e2, fun t kt => ?_⟩
        subst hv12
        simp only [if_neg hc14, if_neg hc15] at kt
        refine pre16 t ?_
        refine XS.icmpYes X2.here hx rfl (pc0 := 30) (pc' := 44) rfl (hb hby d34_30) rfl (flt hc15).2.1 (by decide) (by decide) ?_
        exact kt
  obtain ⟨v23, hv23⟩ : ∃ z : Int32, z = (if (3 : Int32) < p2 then v12 else (if (3 : Int32) < p3 then (if (own_wsL (CL.getD 3 0)) = (0 : Int32) then (3 : Int32) else v12) else v12)) := ⟨_, rfl⟩
  obtain ⟨T24, X24, e24, st24⟩ : own_Mid X13 h0 (mkF m 46 #[vR a1, vI p2, vI p3, vI v12] [iI p2, iI 3]) (mkF m 65 #[vR a1, vI p2, vI p3, vI v23] []) := by
    by_cases hc25 : (3 : Int32) < p2
    · refine ⟨T13, X13, e13, fun t kt => ?_⟩
      subst hv23
      simp only [if_pos hc25] at kt
      refine XS.icmpYes X13.here hx rfl (pc0 := 46) (pc' := 65) rfl (hb hby d34_46) rfl (tlt hc25).1 (by decide) (by decide) ?_
      exact kt
    · have pre27 : PP p e below (T13.setTop (mkF m 51 #[vR a1, vI p2, vI p3, vI v12] [iI p3, iI 3])) (T13.setTop (mkF m 46 #[vR a1, vI p2, vI p3, vI v12] [iI p2, iI 3])) := by
        intro t kt
        refine XS.icmpNo X13.here hx rfl (hb hby d34_46) rfl (flt hc25).1 ?_
        refine XS.iconst X13.here hx rfl (hb hby d34_49) ?_
        refine XS.iloadN X13.here hx rfl (hb hby d34_50) rfl ?_
        exact kt
      by_cases hc26 : (3 : Int32) < p3
      · obtain ⟨cl28, Ar28, q28, S28, M28, H28, G28⟩ := id V_c
        have hin29 := inb_of (j := 3) S28 ⟨by decide, by decide⟩
        have hat30 : cl28.slots[((3 : Int32)).toNatClampNeg]? = some (.int (CL.getD 3 0)) := Has.at H28 hin29 (own_bsget CL _)
        obtain ⟨_, _, ⟨T31, L31, k31, n31⟩, -, X31, ⟨Lc31, hQ31, l31, y31, z31⟩, st31⟩ := Jvm.LawKit.callS X13 hx (y := mn_36) hown (mw hZ hw 157 rfl) (mw hZ hw 158 rfl) (mw hZ hw 3 rfl) (mw hZ hw 159 rfl) (by decide) (backOf (W := 0) (rm35 l Z a0 hw [] (CL.getD 3 0) h0 ) hZ (ww hw 159 rfl) (ww hw 3 rfl) (by decide) (by decide)) (g := (mkF m 57 #[vR a1, vI p2, vI p3, vI v12] [iI (CL.getD 3 0)])) rfl (by rw [hml]; rfl) (argsL := [(.int (CL.getD 3 0))]) (rest := []) (lenOf pd_29 rfl) rfl (wz rfl) (hb hby d34_57) (fun _ _ => ⟨rfl, e13, (by decide : 0 + 0 ≤ _), (by decide : 0 + 0 ≤ _)⟩)
        dsimp only [Pt.U, Pt.locs, Pt.cells, Pt.slots] at X31 l31 y31 z31 st31 hQ31
        subst l31 y31 z31
        obtain ⟨rfl, rfl, e31⟩ := hQ31
        try rw [List.append_nil] at X31
        have pre33 : PP p e below (T31.setTop (mkF m 60 #[vR a1, vI p2, vI p3, vI v12] [iI (own_wsL (CL.getD 3 0))])) (T13.setTop (mkF m 46 #[vR a1, vI p2, vI p3, vI v12] [iI p2, iI 3])) := by
          intro t kt
          refine pre27 t ?_
          refine XS.icmpNo X13.here hx rfl (hb hby d34_51) rfl (tlt hc26).2.1 ?_
          refine XS.aloadN X13.here hx rfl (hb hby d34_54) rfl rfl ?_
          refine XS.iconst X13.here hx rfl (hb hby d34_55) ?_
          refine X13.caload hx (j := 3) (v := (.int (CL.getD 3 0))) (by rw [e13]; exact Ar28.1) (State.isArrayOf_alike hZ.alike Ar28.2.1) Ar28.2.2 hin29 hat30 (g := (mkF m 56 #[vR a1, vI p2, vI p3, vI v12] [iI 3, iR a1])) rfl rfl (hb hby d34_56) _ ?_
          refine st31 _ ?_
          exact kt
        by_cases hc32 : (own_wsL (CL.getD 3 0)) = (0 : Int32)
        · refine ⟨T31, X31, e31, fun t kt => ?_⟩
          subst hv23
          simp only [if_neg hc25, if_pos hc26, if_pos hc32] at kt
          refine pre33 t ?_
          refine XS.ifNo X31.here hx rfl (hb hby d34_60) rfl ((if0 _ _).trans (teq hc32).2) ?_
          refine XS.iconst X31.here hx rfl (hb hby d34_63) ?_
          refine XS.istoreN X31.here hx rfl (hb hby d34_64) rfl (l' := #[vR a1, vI p2, vI p3, vI 3]) rfl ?_
          exact kt
        · refine ⟨T31, X31, e31, fun t kt => ?_⟩
          subst hv23
          simp only [if_neg hc25, if_pos hc26, if_neg hc32] at kt
          refine pre33 t ?_
          refine XS.ifYes X31.here hx rfl (pc0 := 60) (pc' := 65) rfl (hb hby d34_60) rfl ((if0 _ _).trans (feq hc32).2) (by decide) (by decide) ?_
          exact kt
      · refine ⟨T13, X13, e13, fun t kt => ?_⟩
        subst hv23
        simp only [if_neg hc25, if_neg hc26] at kt
        refine pre27 t ?_
        refine XS.icmpYes X13.here hx rfl (pc0 := 51) (pc' := 65) rfl (hb hby d34_51) rfl (flt hc26).2.1 (by decide) (by decide) ?_
        exact kt
  obtain ⟨v34, hv34⟩ : ∃ z : Int32, z = (if (2 : Int32) < p2 then v23 else (if (2 : Int32) < p3 then (if (own_wsL (CL.getD 2 0)) = (0 : Int32) then (2 : Int32) else v23) else v23)) := ⟨_, rfl⟩
  obtain ⟨T35, X35, e35, st35⟩ : own_Mid X24 h0 (mkF m 67 #[vR a1, vI p2, vI p3, vI v23] [iI p2, iI 2]) (mkF m 86 #[vR a1, vI p2, vI p3, vI v34] []) := by
    by_cases hc36 : (2 : Int32) < p2
    · refine ⟨T24, X24, e24, fun t kt => ?_⟩
      subst hv34
      simp only [if_pos hc36] at kt
      refine XS.icmpYes X24.here hx rfl (pc0 := 67) (pc' := 86) rfl (hb hby d34_67) rfl (tlt hc36).1 (by decide) (by decide) ?_
      exact kt
    · have pre38 : PP p e below (T24.setTop (mkF m 72 #[vR a1, vI p2, vI p3, vI v23] [iI p3, iI 2])) (T24.setTop (mkF m 67 #[vR a1, vI p2, vI p3, vI v23] [iI p2, iI 2])) := by
        intro t kt
        refine XS.icmpNo X24.here hx rfl (hb hby d34_67) rfl (flt hc36).1 ?_
        refine XS.iconst X24.here hx rfl (hb hby d34_70) ?_
        refine XS.iloadN X24.here hx rfl (hb hby d34_71) rfl ?_
        exact kt
      by_cases hc37 : (2 : Int32) < p3
      · obtain ⟨cl39, Ar39, q39, S39, M39, H39, G39⟩ := id V_c
        have hin40 := inb_of (j := 2) S39 ⟨by decide, by decide⟩
        have hat41 : cl39.slots[((2 : Int32)).toNatClampNeg]? = some (.int (CL.getD 2 0)) := Has.at H39 hin40 (own_bsget CL _)
        obtain ⟨_, _, ⟨T42, L42, k42, n42⟩, -, X42, ⟨Lc42, hQ42, l42, y42, z42⟩, st42⟩ := Jvm.LawKit.callS X24 hx (y := mn_36) hown (mw hZ hw 157 rfl) (mw hZ hw 158 rfl) (mw hZ hw 3 rfl) (mw hZ hw 159 rfl) (by decide) (backOf (W := 0) (rm35 l Z a0 hw [] (CL.getD 2 0) h0 ) hZ (ww hw 159 rfl) (ww hw 3 rfl) (by decide) (by decide)) (g := (mkF m 78 #[vR a1, vI p2, vI p3, vI v23] [iI (CL.getD 2 0)])) rfl (by rw [hml]; rfl) (argsL := [(.int (CL.getD 2 0))]) (rest := []) (lenOf pd_29 rfl) rfl (wz rfl) (hb hby d34_78) (fun _ _ => ⟨rfl, e24, (by decide : 0 + 0 ≤ _), (by decide : 0 + 0 ≤ _)⟩)
        dsimp only [Pt.U, Pt.locs, Pt.cells, Pt.slots] at X42 l42 y42 z42 st42 hQ42
        subst l42 y42 z42
        obtain ⟨rfl, rfl, e42⟩ := hQ42
        try rw [List.append_nil] at X42
        have pre44 : PP p e below (T42.setTop (mkF m 81 #[vR a1, vI p2, vI p3, vI v23] [iI (own_wsL (CL.getD 2 0))])) (T24.setTop (mkF m 67 #[vR a1, vI p2, vI p3, vI v23] [iI p2, iI 2])) := by
          intro t kt
          refine pre38 t ?_
          refine XS.icmpNo X24.here hx rfl (hb hby d34_72) rfl (tlt hc37).2.1 ?_
          refine XS.aloadN X24.here hx rfl (hb hby d34_75) rfl rfl ?_
          refine XS.iconst X24.here hx rfl (hb hby d34_76) ?_
          refine X24.caload hx (j := 2) (v := (.int (CL.getD 2 0))) (by rw [e24]; exact Ar39.1) (State.isArrayOf_alike hZ.alike Ar39.2.1) Ar39.2.2 hin40 hat41 (g := (mkF m 77 #[vR a1, vI p2, vI p3, vI v23] [iI 2, iR a1])) rfl rfl (hb hby d34_77) _ ?_
          refine st42 _ ?_
          exact kt
        by_cases hc43 : (own_wsL (CL.getD 2 0)) = (0 : Int32)
        · refine ⟨T42, X42, e42, fun t kt => ?_⟩
          subst hv34
          simp only [if_neg hc36, if_pos hc37, if_pos hc43] at kt
          refine pre44 t ?_
          refine XS.ifNo X42.here hx rfl (hb hby d34_81) rfl ((if0 _ _).trans (teq hc43).2) ?_
          refine XS.iconst X42.here hx rfl (hb hby d34_84) ?_
          refine XS.istoreN X42.here hx rfl (hb hby d34_85) rfl (l' := #[vR a1, vI p2, vI p3, vI 2]) rfl ?_
          exact kt
        · refine ⟨T42, X42, e42, fun t kt => ?_⟩
          subst hv34
          simp only [if_neg hc36, if_pos hc37, if_neg hc43] at kt
          refine pre44 t ?_
          refine XS.ifYes X42.here hx rfl (pc0 := 81) (pc' := 86) rfl (hb hby d34_81) rfl ((if0 _ _).trans (feq hc43).2) (by decide) (by decide) ?_
          exact kt
      · refine ⟨T24, X24, e24, fun t kt => ?_⟩
        subst hv34
        simp only [if_neg hc36, if_neg hc37] at kt
        refine pre38 t ?_
        refine XS.icmpYes X24.here hx rfl (pc0 := 72) (pc' := 86) rfl (hb hby d34_72) rfl (flt hc37).2.1 (by decide) (by decide) ?_
        exact kt
  obtain ⟨v45, hv45⟩ : ∃ z : Int32, z = (if (1 : Int32) < p2 then v34 else (if (1 : Int32) < p3 then (if (own_wsL (CL.getD 1 0)) = (0 : Int32) then (1 : Int32) else v34) else v34)) := ⟨_, rfl⟩
  obtain ⟨T46, X46, e46, st46⟩ : own_Mid X35 h0 (mkF m 88 #[vR a1, vI p2, vI p3, vI v34] [iI p2, iI 1]) (mkF m 107 #[vR a1, vI p2, vI p3, vI v45] []) := by
    by_cases hc47 : (1 : Int32) < p2
    · refine ⟨T35, X35, e35, fun t kt => ?_⟩
      subst hv45
      simp only [if_pos hc47] at kt
      refine XS.icmpYes X35.here hx rfl (pc0 := 88) (pc' := 107) rfl (hb hby d34_88) rfl (tlt hc47).1 (by decide) (by decide) ?_
      exact kt
    · have pre49 : PP p e below (T35.setTop (mkF m 93 #[vR a1, vI p2, vI p3, vI v34] [iI p3, iI 1])) (T35.setTop (mkF m 88 #[vR a1, vI p2, vI p3, vI v34] [iI p2, iI 1])) := by
        intro t kt
        refine XS.icmpNo X35.here hx rfl (hb hby d34_88) rfl (flt hc47).1 ?_
        refine XS.iconst X35.here hx rfl (hb hby d34_91) ?_
        refine XS.iloadN X35.here hx rfl (hb hby d34_92) rfl ?_
        exact kt
      by_cases hc48 : (1 : Int32) < p3
      · obtain ⟨cl50, Ar50, q50, S50, M50, H50, G50⟩ := id V_c
        have hin51 := inb_of (j := 1) S50 ⟨by decide, by decide⟩
        have hat52 : cl50.slots[((1 : Int32)).toNatClampNeg]? = some (.int (CL.getD 1 0)) := Has.at H50 hin51 (own_bsget CL _)
        obtain ⟨_, _, ⟨T53, L53, k53, n53⟩, -, X53, ⟨Lc53, hQ53, l53, y53, z53⟩, st53⟩ := Jvm.LawKit.callS X35 hx (y := mn_36) hown (mw hZ hw 157 rfl) (mw hZ hw 158 rfl) (mw hZ hw 3 rfl) (mw hZ hw 159 rfl) (by decide) (backOf (W := 0) (rm35 l Z a0 hw [] (CL.getD 1 0) h0 ) hZ (ww hw 159 rfl) (ww hw 3 rfl) (by decide) (by decide)) (g := (mkF m 99 #[vR a1, vI p2, vI p3, vI v34] [iI (CL.getD 1 0)])) rfl (by rw [hml]; rfl) (argsL := [(.int (CL.getD 1 0))]) (rest := []) (lenOf pd_29 rfl) rfl (wz rfl) (hb hby d34_99) (fun _ _ => ⟨rfl, e35, (by decide : 0 + 0 ≤ _), (by decide : 0 + 0 ≤ _)⟩)
        dsimp only [Pt.U, Pt.locs, Pt.cells, Pt.slots] at X53 l53 y53 z53 st53 hQ53
        subst l53 y53 z53
        obtain ⟨rfl, rfl, e53⟩ := hQ53
        try rw [List.append_nil] at X53
        have pre55 : PP p e below (T53.setTop (mkF m 102 #[vR a1, vI p2, vI p3, vI v34] [iI (own_wsL (CL.getD 1 0))])) (T35.setTop (mkF m 88 #[vR a1, vI p2, vI p3, vI v34] [iI p2, iI 1])) := by
          intro t kt
          refine pre49 t ?_
          refine XS.icmpNo X35.here hx rfl (hb hby d34_93) rfl (tlt hc48).2.1 ?_
          refine XS.aloadN X35.here hx rfl (hb hby d34_96) rfl rfl ?_
          refine XS.iconst X35.here hx rfl (hb hby d34_97) ?_
          refine X35.caload hx (j := 1) (v := (.int (CL.getD 1 0))) (by rw [e35]; exact Ar50.1) (State.isArrayOf_alike hZ.alike Ar50.2.1) Ar50.2.2 hin51 hat52 (g := (mkF m 98 #[vR a1, vI p2, vI p3, vI v34] [iI 1, iR a1])) rfl rfl (hb hby d34_98) _ ?_
          refine st53 _ ?_
          exact kt
        by_cases hc54 : (own_wsL (CL.getD 1 0)) = (0 : Int32)
        · refine ⟨T53, X53, e53, fun t kt => ?_⟩
          subst hv45
          simp only [if_neg hc47, if_pos hc48, if_pos hc54] at kt
          refine pre55 t ?_
          refine XS.ifNo X53.here hx rfl (hb hby d34_102) rfl ((if0 _ _).trans (teq hc54).2) ?_
          refine XS.iconst X53.here hx rfl (hb hby d34_105) ?_
          refine XS.istoreN X53.here hx rfl (hb hby d34_106) rfl (l' := #[vR a1, vI p2, vI p3, vI 1]) rfl ?_
          exact kt
        · refine ⟨T53, X53, e53, fun t kt => ?_⟩
          subst hv45
          simp only [if_neg hc47, if_pos hc48, if_neg hc54] at kt
          refine pre55 t ?_
          refine XS.ifYes X53.here hx rfl (pc0 := 102) (pc' := 107) rfl (hb hby d34_102) rfl ((if0 _ _).trans (feq hc54).2) (by decide) (by decide) ?_
          exact kt
      · refine ⟨T35, X35, e35, fun t kt => ?_⟩
        subst hv45
        simp only [if_neg hc47, if_neg hc48] at kt
        refine pre49 t ?_
        refine XS.icmpYes X35.here hx rfl (pc0 := 93) (pc' := 107) rfl (hb hby d34_93) rfl (flt hc48).2.1 (by decide) (by decide) ?_
        exact kt
  obtain ⟨v56, hv56⟩ : ∃ z : Int32, z = (if (0 : Int32) < p2 then v45 else (if (0 : Int32) < p3 then (if (own_wsL (CL.getD 0 0)) = (0 : Int32) then (0 : Int32) else v45) else v45)) := ⟨_, rfl⟩
  obtain ⟨T57, X57, e57, st57⟩ : own_Mid X46 h0 (mkF m 109 #[vR a1, vI p2, vI p3, vI v45] [iI p2, iI 0]) (mkF m 128 #[vR a1, vI p2, vI p3, vI v56] []) := by
    by_cases hc58 : (0 : Int32) < p2
    · refine ⟨T46, X46, e46, fun t kt => ?_⟩
      subst hv56
      simp only [if_pos hc58] at kt
      refine XS.icmpYes X46.here hx rfl (pc0 := 109) (pc' := 128) rfl (hb hby d34_109) rfl (tlt hc58).1 (by decide) (by decide) ?_
      exact kt
    · have pre60 : PP p e below (T46.setTop (mkF m 114 #[vR a1, vI p2, vI p3, vI v45] [iI p3, iI 0])) (T46.setTop (mkF m 109 #[vR a1, vI p2, vI p3, vI v45] [iI p2, iI 0])) := by
        intro t kt
        refine XS.icmpNo X46.here hx rfl (hb hby d34_109) rfl (flt hc58).1 ?_
        refine XS.iconst X46.here hx rfl (hb hby d34_112) ?_
        refine XS.iloadN X46.here hx rfl (hb hby d34_113) rfl ?_
        exact kt
      by_cases hc59 : (0 : Int32) < p3
      · obtain ⟨cl61, Ar61, q61, S61, M61, H61, G61⟩ := id V_c
        have hin62 := inb_of (j := 0) S61 ⟨by decide, by decide⟩
        have hat63 : cl61.slots[((0 : Int32)).toNatClampNeg]? = some (.int (CL.getD 0 0)) := Has.at H61 hin62 (own_bsget CL _)
        obtain ⟨_, _, ⟨T64, L64, k64, n64⟩, -, X64, ⟨Lc64, hQ64, l64, y64, z64⟩, st64⟩ := Jvm.LawKit.callS X46 hx (y := mn_36) hown (mw hZ hw 157 rfl) (mw hZ hw 158 rfl) (mw hZ hw 3 rfl) (mw hZ hw 159 rfl) (by decide) (backOf (W := 0) (rm35 l Z a0 hw [] (CL.getD 0 0) h0 ) hZ (ww hw 159 rfl) (ww hw 3 rfl) (by decide) (by decide)) (g := (mkF m 120 #[vR a1, vI p2, vI p3, vI v45] [iI (CL.getD 0 0)])) rfl (by rw [hml]; rfl) (argsL := [(.int (CL.getD 0 0))]) (rest := []) (lenOf pd_29 rfl) rfl (wz rfl) (hb hby d34_120) (fun _ _ => ⟨rfl, e46, (by decide : 0 + 0 ≤ _), (by decide : 0 + 0 ≤ _)⟩)
        dsimp only [Pt.U, Pt.locs, Pt.cells, Pt.slots] at X64 l64 y64 z64 st64 hQ64
        subst l64 y64 z64
        obtain ⟨rfl, rfl, e64⟩ := hQ64
        try rw [List.append_nil] at X64
        have pre66 : PP p e below (T64.setTop (mkF m 123 #[vR a1, vI p2, vI p3, vI v45] [iI (own_wsL (CL.getD 0 0))])) (T46.setTop (mkF m 109 #[vR a1, vI p2, vI p3, vI v45] [iI p2, iI 0])) := by
          intro t kt
          refine pre60 t ?_
          refine XS.icmpNo X46.here hx rfl (hb hby d34_114) rfl (tlt hc59).2.1 ?_
          refine XS.aloadN X46.here hx rfl (hb hby d34_117) rfl rfl ?_
          refine XS.iconst X46.here hx rfl (hb hby d34_118) ?_
          refine X46.caload hx (j := 0) (v := (.int (CL.getD 0 0))) (by rw [e46]; exact Ar61.1) (State.isArrayOf_alike hZ.alike Ar61.2.1) Ar61.2.2 hin62 hat63 (g := (mkF m 119 #[vR a1, vI p2, vI p3, vI v45] [iI 0, iR a1])) rfl rfl (hb hby d34_119) _ ?_
          refine st64 _ ?_
          exact kt
        by_cases hc65 : (own_wsL (CL.getD 0 0)) = (0 : Int32)
        · refine ⟨T64, X64, e64, fun t kt => ?_⟩
          subst hv56
          simp only [if_neg hc58, if_pos hc59, if_pos hc65] at kt
          refine pre66 t ?_
          refine XS.ifNo X64.here hx rfl (hb hby d34_123) rfl ((if0 _ _).trans (teq hc65).2) ?_
          refine XS.iconst X64.here hx rfl (hb hby d34_126) ?_
          refine XS.istoreN X64.here hx rfl (hb hby d34_127) rfl (l' := #[vR a1, vI p2, vI p3, vI 0]) rfl ?_
          exact kt
        · refine ⟨T64, X64, e64, fun t kt => ?_⟩
          subst hv56
          simp only [if_neg hc58, if_pos hc59, if_neg hc65] at kt
          refine pre66 t ?_
          refine XS.ifYes X64.here hx rfl (pc0 := 123) (pc' := 128) rfl (hb hby d34_123) rfl ((if0 _ _).trans (feq hc65).2) (by decide) (by decide) ?_
          exact kt
      · refine ⟨T46, X46, e46, fun t kt => ?_⟩
        subst hv56
        simp only [if_neg hc58, if_neg hc59] at kt
        refine pre60 t ?_
        refine XS.icmpYes X46.here hx rfl (pc0 := 114) (pc' := 128) rfl (hb hby d34_114) rfl (flt hc59).2.1 (by decide) (by decide) ?_
        exact kt
  obtain ⟨fs, hr, hrun, hended, hW, hsame⟩ := X57.leave (v := some (.int v56)) (fun h => by rw [Bd.returns] at h; cases h)
  refine ⟨_, _, pre0 _ ?_, hrun, hended, _, _, rfl, ?_, ⟨_, rfl⟩, hW, hsame.mono (by decide) (by decide)⟩
  · refine XS.iloadN X0.here hx rfl (hb hby d34_0) rfl ?_
    refine XS.istoreN X0.here hx rfl (hb hby d34_1) rfl (l' := #[vR a1, vI p2, vI p3, vI p3]) rfl ?_
    refine XS.iconst X0.here hx rfl (hb hby d34_2) ?_
    refine XS.iloadN X0.here hx rfl (hb hby d34_3) rfl ?_
    refine st2 _ ?_
    refine XS.iconst X2.here hx rfl (hb hby d34_23) ?_
    refine XS.iloadN X2.here hx rfl (hb hby d34_24) rfl ?_
    refine st13 _ ?_
    refine XS.iconst X13.here hx rfl (hb hby d34_44) ?_
    refine XS.iloadN X13.here hx rfl (hb hby d34_45) rfl ?_
    refine st24 _ ?_
    refine XS.iconst X24.here hx rfl (hb hby d34_65) ?_
    refine XS.iloadN X24.here hx rfl (hb hby d34_66) rfl ?_
    refine st35 _ ?_
    refine XS.iconst X35.here hx rfl (hb hby d34_86) ?_
    refine XS.iloadN X35.here hx rfl (hb hby d34_87) rfl ?_
    refine st46 _ ?_
    refine XS.iconst X46.here hx rfl (hb hby d34_107) ?_
    refine XS.iloadN X46.here hx rfl (hb hby d34_108) rfl ?_
    refine st57 _ ?_
    refine XS.iloadN X57.here hx rfl (hb hby d34_128) rfl ?_
    show Steps _ _ _ (T57.setTop (mkF m 129 #[vR a1, vI p2, vI p3, vI v56] [iI v56])) _
    exact retI X57 hx Bd.returns (hb hby d34_129) hr
  · show QP _ _ _ T57.heap _
    rw [e57]
    exact ⟨by rw [hv56, hv45, hv34, hv23, hv12, hv1]; rfl, rfl, rfl⟩
theorem d36_0 : dk c36 0 (.iload_n 1) 1 := by decide +kernel
theorem d36_1 : dk c36 1 (.istore_n 3) 1 := by decide +kernel
theorem d36_2 : dk c36 2 (.iconst 0) 1 := by decide +kernel
theorem d36_3 : dk c36 3 (.iload_n 1) 1 := by decide +kernel
theorem d36_4 : dk c36 4 (.if_icmp .lt 19) 3 := by decide +kernel
theorem d36_7 : dk c36 7 (.iconst 0) 1 := by decide +kernel
theorem d36_8 : dk c36 8 (.iload_n 2) 1 := by decide +kernel
theorem d36_9 : dk c36 9 (.if_icmp .ge 14) 3 := by decide +kernel
theorem d36_12 : dk c36 12 (.aload_n 0) 1 := by decide +kernel
theorem d36_13 : dk c36 13 (.iconst 0) 1 := by decide +kernel
theorem d36_14 : dk c36 14 .caload 1 := by decide +kernel
theorem d36_15 : dk c36 15 (.invokestatic 48) 3 := by decide +kernel
theorem d36_18 : dk c36 18 (.ifCond .ne 5) 3 := by decide +kernel
theorem d36_21 : dk c36 21 (.iconst 1) 1 := by decide +kernel
theorem d36_22 : dk c36 22 (.istore_n 3) 1 := by decide +kernel
theorem d36_23 : dk c36 23 (.iconst 1) 1 := by decide +kernel
theorem d36_24 : dk c36 24 (.iload_n 1) 1 := by decide +kernel
theorem d36_25 : dk c36 25 (.if_icmp .lt 19) 3 := by decide +kernel
theorem d36_28 : dk c36 28 (.iconst 1) 1 := by decide +kernel
theorem d36_29 : dk c36 29 (.iload_n 2) 1 := by decide +kernel
theorem d36_30 : dk c36 30 (.if_icmp .ge 14) 3 := by decide +kernel
theorem d36_33 : dk c36 33 (.aload_n 0) 1 := by decide +kernel
theorem d36_34 : dk c36 34 (.iconst 1) 1 := by decide +kernel
theorem d36_35 : dk c36 35 .caload 1 := by decide +kernel
theorem d36_36 : dk c36 36 (.invokestatic 48) 3 := by decide +kernel
theorem d36_39 : dk c36 39 (.ifCond .ne 5) 3 := by decide +kernel
theorem d36_42 : dk c36 42 (.iconst 2) 1 := by decide +kernel
theorem d36_43 : dk c36 43 (.istore_n 3) 1 := by decide +kernel
theorem d36_44 : dk c36 44 (.iconst 2) 1 := by decide +kernel
theorem d36_45 : dk c36 45 (.iload_n 1) 1 := by decide +kernel
theorem d36_46 : dk c36 46 (.if_icmp .lt 19) 3 := by decide +kernel
theorem d36_49 : dk c36 49 (.iconst 2) 1 := by decide +kernel
theorem d36_50 : dk c36 50 (.iload_n 2) 1 := by decide +kernel
theorem d36_51 : dk c36 51 (.if_icmp .ge 14) 3 := by decide +kernel
theorem d36_54 : dk c36 54 (.aload_n 0) 1 := by decide +kernel
theorem d36_55 : dk c36 55 (.iconst 2) 1 := by decide +kernel
theorem d36_56 : dk c36 56 .caload 1 := by decide +kernel
theorem d36_57 : dk c36 57 (.invokestatic 48) 3 := by decide +kernel
theorem d36_60 : dk c36 60 (.ifCond .ne 5) 3 := by decide +kernel
theorem d36_63 : dk c36 63 (.iconst 3) 1 := by decide +kernel
theorem d36_64 : dk c36 64 (.istore_n 3) 1 := by decide +kernel
theorem d36_65 : dk c36 65 (.iconst 3) 1 := by decide +kernel
theorem d36_66 : dk c36 66 (.iload_n 1) 1 := by decide +kernel
theorem d36_67 : dk c36 67 (.if_icmp .lt 19) 3 := by decide +kernel
theorem d36_70 : dk c36 70 (.iconst 3) 1 := by decide +kernel
theorem d36_71 : dk c36 71 (.iload_n 2) 1 := by decide +kernel
theorem d36_72 : dk c36 72 (.if_icmp .ge 14) 3 := by decide +kernel
theorem d36_75 : dk c36 75 (.aload_n 0) 1 := by decide +kernel
theorem d36_76 : dk c36 76 (.iconst 3) 1 := by decide +kernel
theorem d36_77 : dk c36 77 .caload 1 := by decide +kernel
theorem d36_78 : dk c36 78 (.invokestatic 48) 3 := by decide +kernel
theorem d36_81 : dk c36 81 (.ifCond .ne 5) 3 := by decide +kernel
theorem d36_84 : dk c36 84 (.iconst 4) 1 := by decide +kernel
theorem d36_85 : dk c36 85 (.istore_n 3) 1 := by decide +kernel
theorem d36_86 : dk c36 86 (.iconst 4) 1 := by decide +kernel
theorem d36_87 : dk c36 87 (.iload_n 1) 1 := by decide +kernel
theorem d36_88 : dk c36 88 (.if_icmp .lt 19) 3 := by decide +kernel
theorem d36_91 : dk c36 91 (.iconst 4) 1 := by decide +kernel
theorem d36_92 : dk c36 92 (.iload_n 2) 1 := by decide +kernel
theorem d36_93 : dk c36 93 (.if_icmp .ge 14) 3 := by decide +kernel
theorem d36_96 : dk c36 96 (.aload_n 0) 1 := by decide +kernel
theorem d36_97 : dk c36 97 (.iconst 4) 1 := by decide +kernel
theorem d36_98 : dk c36 98 .caload 1 := by decide +kernel
theorem d36_99 : dk c36 99 (.invokestatic 48) 3 := by decide +kernel
theorem d36_102 : dk c36 102 (.ifCond .ne 5) 3 := by decide +kernel
theorem d36_105 : dk c36 105 (.iconst 5) 1 := by decide +kernel
theorem d36_106 : dk c36 106 (.istore_n 3) 1 := by decide +kernel
theorem d36_107 : dk c36 107 (.iconst 5) 1 := by decide +kernel
theorem d36_108 : dk c36 108 (.iload_n 1) 1 := by decide +kernel
theorem d36_109 : dk c36 109 (.if_icmp .lt 20) 3 := by decide +kernel
theorem d36_112 : dk c36 112 (.iconst 5) 1 := by decide +kernel
theorem d36_113 : dk c36 113 (.iload_n 2) 1 := by decide +kernel
theorem d36_114 : dk c36 114 (.if_icmp .ge 15) 3 := by decide +kernel
theorem d36_117 : dk c36 117 (.aload_n 0) 1 := by decide +kernel
theorem d36_118 : dk c36 118 (.iconst 5) 1 := by decide +kernel
theorem d36_119 : dk c36 119 .caload 1 := by decide +kernel
theorem d36_120 : dk c36 120 (.invokestatic 48) 3 := by decide +kernel
theorem d36_123 : dk c36 123 (.ifCond .ne 6) 3 := by decide +kernel
theorem d36_126 : dk c36 126 (.bipush 6) 2 := by decide +kernel
theorem d36_128 : dk c36 128 (.istore_n 3) 1 := by decide +kernel
theorem d36_129 : dk c36 129 (.iload_n 3) 1 := by decide +kernel
theorem d36_130 : dk c36 130 .ireturn 1 := by decide +kernel
theorem ef_36 (m : MethodId) (x0 : Addr) (x1 : Int32) (x2 : Int32) : entryFrame m #[(.ref x0), (.int x1), (.int x2)] 4 = mkF m 0 #[.val (.ref x0), .val (.int x1), .val (.int x2), .unset] [] := by first | (simp [entryFrame, mkF, argsToLocals, Value.category]; done) | rfl
theorem rm36 (l : Launch) (Z : State) (a0 : Array Value) (hw : HW a0 Z) (ws : List Jvm.Cond) (a1 : Addr) (p2 : Int32) (p3 : Int32) (kc : ClassId) (CL : List Int32) (h0 : Heap) (V_c : AC Z h0 a1 kc (6 : Int32) CL) :
    MFn l mn_40 method_6_code 4 (some .int) ws (Rm 1 0 0 12) #[(.ref a1), (.int p2), (.int p3)] Z h0 (QP h0 (some (.int (own_hiF CL p2 p3)))) := by
  refine MetFree.of_bodySF (plainFor_of_name pn_8) hisR ?_
  intro p e s m args below meth c s₁ Bd hml0 hP hK
  obtain ⟨rfl, hZ, hh⟩ := hP
  have hx := Bd.exec
  have hby := Bd.bytes
  have hml : c.maxLocals = 4 := hml0
  have hown := findClass_of_methodNamed Bd.named
  have X0 : Stand p l e (Rm 1 0 0 12) s m _ below meth c _ [] 0 0 := Stand.of_body Bd
  have e0 : s₁.heap = h0 := by rw [← hh, Bd.state]; rfl
  have pre0 := cast0 (p := p) (e := e) (below := below) (T := s₁) (ef_36 m a1 p2 p3)
  obtain ⟨v1, hv1⟩ : ∃ z : Int32, z = (if (0 : Int32) < p2 then p2 else (if (0 : Int32) < p3 then (if (own_wsL (CL.getD 0 0)) = (0 : Int32) then (1 : Int32) else p2) else p2)) := ⟨_, rfl⟩
  obtain ⟨T2, X2, e2, st2⟩ : own_Mid X0 h0 (mkF m 4 #[vR a1, vI p2, vI p3, vI p2] [iI p2, iI 0]) (mkF m 23 #[vR a1, vI p2, vI p3, vI v1] []) := by
    by_cases hc3 : (0 : Int32) < p2
    · refine ⟨s₁, X0, e0, fun t kt => ?_⟩
      subst hv1
      simp only [if_pos hc3] at kt
      refine XS.icmpYes X0.here hx rfl (pc0 := 4) (pc' := 23) rfl (hb hby d36_4) rfl (tlt hc3).1 (by decide) (by decide) ?_
      exact kt
    · have pre5 : PP p e below (s₁.setTop (mkF m 9 #[vR a1, vI p2, vI p3, vI p2] [iI p3, iI 0])) (s₁.setTop (mkF m 4 #[vR a1, vI p2, vI p3, vI p2] [iI p2, iI 0])) := by
        intro t kt
        refine XS.icmpNo X0.here hx rfl (hb hby d36_4) rfl (flt hc3).1 ?_
        refine XS.iconst X0.here hx rfl (hb hby d36_7) ?_
        refine XS.iloadN X0.here hx rfl (hb hby d36_8) rfl ?_
        exact kt
      by_cases hc4 : (0 : Int32) < p3
      · obtain ⟨cl6, Ar6, q6, S6, M6, H6, G6⟩ := id V_c
        have hin7 := inb_of (j := 0) S6 ⟨by decide, by decide⟩
        have hat8 : cl6.slots[((0 : Int32)).toNatClampNeg]? = some (.int (CL.getD 0 0)) := Has.at H6 hin7 (own_bsget CL _)
        obtain ⟨_, _, ⟨T9, L9, k9, n9⟩, -, X9, ⟨Lc9, hQ9, l9, y9, z9⟩, st9⟩ := Jvm.LawKit.callS X0 hx (y := mn_36) hown (mw hZ hw 157 rfl) (mw hZ hw 158 rfl) (mw hZ hw 3 rfl) (mw hZ hw 159 rfl) (by decide) (backOf (W := 0) (rm35 l Z a0 hw [] (CL.getD 0 0) h0 ) hZ (ww hw 159 rfl) (ww hw 3 rfl) (by decide) (by decide)) (g := (mkF m 15 #[vR a1, vI p2, vI p3, vI p2] [iI (CL.getD 0 0)])) rfl (by rw [hml]; rfl) (argsL := [(.int (CL.getD 0 0))]) (rest := []) (lenOf pd_29 rfl) rfl (wz rfl) (hb hby d36_15) (fun _ _ => ⟨rfl, e0, (by decide : 0 + 0 ≤ _), (by decide : 0 + 0 ≤ _)⟩)
        dsimp only [Pt.U, Pt.locs, Pt.cells, Pt.slots] at X9 l9 y9 z9 st9 hQ9
        subst l9 y9 z9
        obtain ⟨rfl, rfl, e9⟩ := hQ9
        try rw [List.append_nil] at X9
        have pre11 : PP p e below (T9.setTop (mkF m 18 #[vR a1, vI p2, vI p3, vI p2] [iI (own_wsL (CL.getD 0 0))])) (s₁.setTop (mkF m 4 #[vR a1, vI p2, vI p3, vI p2] [iI p2, iI 0])) := by
          intro t kt
          refine pre5 t ?_
          refine XS.icmpNo X0.here hx rfl (hb hby d36_9) rfl (tlt hc4).2.1 ?_
          refine XS.aloadN X0.here hx rfl (hb hby d36_12) rfl rfl ?_
          refine XS.iconst X0.here hx rfl (hb hby d36_13) ?_
          refine X0.caload hx (j := 0) (v := (.int (CL.getD 0 0))) (by rw [e0]; exact Ar6.1) (State.isArrayOf_alike hZ.alike Ar6.2.1) Ar6.2.2 hin7 hat8 (g := (mkF m 14 #[vR a1, vI p2, vI p3, vI p2] [iI 0, iR a1])) rfl rfl (hb hby d36_14) _ ?_
          refine st9 _ ?_
          exact kt
        by_cases hc10 : (own_wsL (CL.getD 0 0)) = (0 : Int32)
        · refine ⟨T9, X9, e9, fun t kt => ?_⟩
          subst hv1
          simp only [if_neg hc3, if_pos hc4, if_pos hc10] at kt
          refine pre11 t ?_
          refine XS.ifNo X9.here hx rfl (hb hby d36_18) rfl ((if0 _ _).trans (teq hc10).2) ?_
          refine XS.iconst X9.here hx rfl (hb hby d36_21) ?_
          refine XS.istoreN X9.here hx rfl (hb hby d36_22) rfl (l' := #[vR a1, vI p2, vI p3, vI 1]) rfl ?_
          exact kt
        · refine ⟨T9, X9, e9, fun t kt => ?_⟩
          subst hv1
          simp only [if_neg hc3, if_pos hc4, if_neg hc10] at kt
          refine pre11 t ?_
          refine XS.ifYes X9.here hx rfl (pc0 := 18) (pc' := 23) rfl (hb hby d36_18) rfl ((if0 _ _).trans (feq hc10).2) (by decide) (by decide) ?_
          exact kt
      · refine ⟨s₁, X0, e0, fun t kt => ?_⟩
        subst hv1
        simp only [if_neg hc3, if_neg hc4] at kt
        refine pre5 t ?_
        refine XS.icmpYes X0.here hx rfl (pc0 := 9) (pc' := 23) rfl (hb hby d36_9) rfl (flt hc4).2.1 (by decide) (by decide) ?_
        exact kt
  obtain ⟨v12, hv12⟩ : ∃ z : Int32, z = (if (1 : Int32) < p2 then v1 else (if (1 : Int32) < p3 then (if (own_wsL (CL.getD 1 0)) = (0 : Int32) then (2 : Int32) else v1) else v1)) := ⟨_, rfl⟩
  obtain ⟨T13, X13, e13, st13⟩ : own_Mid X2 h0 (mkF m 25 #[vR a1, vI p2, vI p3, vI v1] [iI p2, iI 1]) (mkF m 44 #[vR a1, vI p2, vI p3, vI v12] []) := by
    by_cases hc14 : (1 : Int32) < p2
    · refine ⟨T2, X2, e2, fun t kt => ?_⟩
      subst hv12
      simp only [if_pos hc14] at kt
      refine XS.icmpYes X2.here hx rfl (pc0 := 25) (pc' := 44) rfl (hb hby d36_25) rfl (tlt hc14).1 (by decide) (by decide) ?_
      exact kt
    · have pre16 : PP p e below (T2.setTop (mkF m 30 #[vR a1, vI p2, vI p3, vI v1] [iI p3, iI 1])) (T2.setTop (mkF m 25 #[vR a1, vI p2, vI p3, vI v1] [iI p2, iI 1])) := by
        intro t kt
        refine XS.icmpNo X2.here hx rfl (hb hby d36_25) rfl (flt hc14).1 ?_
        refine XS.iconst X2.here hx rfl (hb hby d36_28) ?_
        refine XS.iloadN X2.here hx rfl (hb hby d36_29) rfl ?_
        exact kt
      by_cases hc15 : (1 : Int32) < p3
      · obtain ⟨cl17, Ar17, q17, S17, M17, H17, G17⟩ := id V_c
        have hin18 := inb_of (j := 1) S17 ⟨by decide, by decide⟩
        have hat19 : cl17.slots[((1 : Int32)).toNatClampNeg]? = some (.int (CL.getD 1 0)) := Has.at H17 hin18 (own_bsget CL _)
        obtain ⟨_, _, ⟨T20, L20, k20, n20⟩, -, X20, ⟨Lc20, hQ20, l20, y20, z20⟩, st20⟩ := Jvm.LawKit.callS X2 hx (y := mn_36) hown (mw hZ hw 157 rfl) (mw hZ hw 158 rfl) (mw hZ hw 3 rfl) (mw hZ hw 159 rfl) (by decide) (backOf (W := 0) (rm35 l Z a0 hw [] (CL.getD 1 0) h0 ) hZ (ww hw 159 rfl) (ww hw 3 rfl) (by decide) (by decide)) (g := (mkF m 36 #[vR a1, vI p2, vI p3, vI v1] [iI (CL.getD 1 0)])) rfl (by rw [hml]; rfl) (argsL := [(.int (CL.getD 1 0))]) (rest := []) (lenOf pd_29 rfl) rfl (wz rfl) (hb hby d36_36) (fun _ _ => ⟨rfl, e2, (by decide : 0 + 0 ≤ _), (by decide : 0 + 0 ≤ _)⟩)
        dsimp only [Pt.U, Pt.locs, Pt.cells, Pt.slots] at X20 l20 y20 z20 st20 hQ20
        subst l20 y20 z20
        obtain ⟨rfl, rfl, e20⟩ := hQ20
        try rw [List.append_nil] at X20
        have pre22 : PP p e below (T20.setTop (mkF m 39 #[vR a1, vI p2, vI p3, vI v1] [iI (own_wsL (CL.getD 1 0))])) (T2.setTop (mkF m 25 #[vR a1, vI p2, vI p3, vI v1] [iI p2, iI 1])) := by
          intro t kt
          refine pre16 t ?_
          refine XS.icmpNo X2.here hx rfl (hb hby d36_30) rfl (tlt hc15).2.1 ?_
          refine XS.aloadN X2.here hx rfl (hb hby d36_33) rfl rfl ?_
          refine XS.iconst X2.here hx rfl (hb hby d36_34) ?_
          refine X2.caload hx (j := 1) (v := (.int (CL.getD 1 0))) (by rw [e2]; exact Ar17.1) (State.isArrayOf_alike hZ.alike Ar17.2.1) Ar17.2.2 hin18 hat19 (g := (mkF m 35 #[vR a1, vI p2, vI p3, vI v1] [iI 1, iR a1])) rfl rfl (hb hby d36_35) _ ?_
          refine st20 _ ?_
          exact kt
        by_cases hc21 : (own_wsL (CL.getD 1 0)) = (0 : Int32)
        · refine ⟨T20, X20, e20, fun t kt => ?_⟩
          subst hv12
          simp only [if_neg hc14, if_pos hc15, if_pos hc21] at kt
          refine pre22 t ?_
          refine XS.ifNo X20.here hx rfl (hb hby d36_39) rfl ((if0 _ _).trans (teq hc21).2) ?_
          refine XS.iconst X20.here hx rfl (hb hby d36_42) ?_
          refine XS.istoreN X20.here hx rfl (hb hby d36_43) rfl (l' := #[vR a1, vI p2, vI p3, vI 2]) rfl ?_
          exact kt
        · refine ⟨T20, X20, e20, fun t kt => ?_⟩
          subst hv12
          simp only [if_neg hc14, if_pos hc15, if_neg hc21] at kt
          refine pre22 t ?_
          refine XS.ifYes X20.here hx rfl (pc0 := 39) (pc' := 44) rfl (hb hby d36_39) rfl ((if0 _ _).trans (feq hc21).2) (by decide) (by decide) ?_
          exact kt
      · refine ⟨T2, X2, e2, fun t kt => ?_⟩
        subst hv12
        simp only [if_neg hc14, if_neg hc15] at kt
        refine pre16 t ?_
        refine XS.icmpYes X2.here hx rfl (pc0 := 30) (pc' := 44) rfl (hb hby d36_30) rfl (flt hc15).2.1 (by decide) (by decide) ?_
        exact kt
  obtain ⟨v23, hv23⟩ : ∃ z : Int32, z = (if (2 : Int32) < p2 then v12 else (if (2 : Int32) < p3 then (if (own_wsL (CL.getD 2 0)) = (0 : Int32) then (3 : Int32) else v12) else v12)) := ⟨_, rfl⟩
  obtain ⟨T24, X24, e24, st24⟩ : own_Mid X13 h0 (mkF m 46 #[vR a1, vI p2, vI p3, vI v12] [iI p2, iI 2]) (mkF m 65 #[vR a1, vI p2, vI p3, vI v23] []) := by
    by_cases hc25 : (2 : Int32) < p2
    · refine ⟨T13, X13, e13, fun t kt => ?_⟩
      subst hv23
      simp only [if_pos hc25] at kt
      refine XS.icmpYes X13.here hx rfl (pc0 := 46) (pc' := 65) rfl (hb hby d36_46) rfl (tlt hc25).1 (by decide) (by decide) ?_
      exact kt
    · have pre27 : PP p e below (T13.setTop (mkF m 51 #[vR a1, vI p2, vI p3, vI v12] [iI p3, iI 2])) (T13.setTop (mkF m 46 #[vR a1, vI p2, vI p3, vI v12] [iI p2, iI 2])) := by
        intro t kt
        refine XS.icmpNo X13.here hx rfl (hb hby d36_46) rfl (flt hc25).1 ?_
        refine XS.iconst X13.here hx rfl (hb hby d36_49) ?_
        refine XS.iloadN X13.here hx rfl (hb hby d36_50) rfl ?_
        exact kt
      by_cases hc26 : (2 : Int32) < p3
      · obtain ⟨cl28, Ar28, q28, S28, M28, H28, G28⟩ := id V_c
        have hin29 := inb_of (j := 2) S28 ⟨by decide, by decide⟩
        have hat30 : cl28.slots[((2 : Int32)).toNatClampNeg]? = some (.int (CL.getD 2 0)) := Has.at H28 hin29 (own_bsget CL _)
        obtain ⟨_, _, ⟨T31, L31, k31, n31⟩, -, X31, ⟨Lc31, hQ31, l31, y31, z31⟩, st31⟩ := Jvm.LawKit.callS X13 hx (y := mn_36) hown (mw hZ hw 157 rfl) (mw hZ hw 158 rfl) (mw hZ hw 3 rfl) (mw hZ hw 159 rfl) (by decide) (backOf (W := 0) (rm35 l Z a0 hw [] (CL.getD 2 0) h0 ) hZ (ww hw 159 rfl) (ww hw 3 rfl) (by decide) (by decide)) (g := (mkF m 57 #[vR a1, vI p2, vI p3, vI v12] [iI (CL.getD 2 0)])) rfl (by rw [hml]; rfl) (argsL := [(.int (CL.getD 2 0))]) (rest := []) (lenOf pd_29 rfl) rfl (wz rfl) (hb hby d36_57) (fun _ _ => ⟨rfl, e13, (by decide : 0 + 0 ≤ _), (by decide : 0 + 0 ≤ _)⟩)
        dsimp only [Pt.U, Pt.locs, Pt.cells, Pt.slots] at X31 l31 y31 z31 st31 hQ31
        subst l31 y31 z31
        obtain ⟨rfl, rfl, e31⟩ := hQ31
        try rw [List.append_nil] at X31
        have pre33 : PP p e below (T31.setTop (mkF m 60 #[vR a1, vI p2, vI p3, vI v12] [iI (own_wsL (CL.getD 2 0))])) (T13.setTop (mkF m 46 #[vR a1, vI p2, vI p3, vI v12] [iI p2, iI 2])) := by
          intro t kt
          refine pre27 t ?_
          refine XS.icmpNo X13.here hx rfl (hb hby d36_51) rfl (tlt hc26).2.1 ?_
          refine XS.aloadN X13.here hx rfl (hb hby d36_54) rfl rfl ?_
          refine XS.iconst X13.here hx rfl (hb hby d36_55) ?_
          refine X13.caload hx (j := 2) (v := (.int (CL.getD 2 0))) (by rw [e13]; exact Ar28.1) (State.isArrayOf_alike hZ.alike Ar28.2.1) Ar28.2.2 hin29 hat30 (g := (mkF m 56 #[vR a1, vI p2, vI p3, vI v12] [iI 2, iR a1])) rfl rfl (hb hby d36_56) _ ?_
          refine st31 _ ?_
          exact kt
        by_cases hc32 : (own_wsL (CL.getD 2 0)) = (0 : Int32)
        · refine ⟨T31, X31, e31, fun t kt => ?_⟩
          subst hv23
          simp only [if_neg hc25, if_pos hc26, if_pos hc32] at kt
          refine pre33 t ?_
          refine XS.ifNo X31.here hx rfl (hb hby d36_60) rfl ((if0 _ _).trans (teq hc32).2) ?_
          refine XS.iconst X31.here hx rfl (hb hby d36_63) ?_
          refine XS.istoreN X31.here hx rfl (hb hby d36_64) rfl (l' := #[vR a1, vI p2, vI p3, vI 3]) rfl ?_
          exact kt
        · refine ⟨T31, X31, e31, fun t kt => ?_⟩
          subst hv23
          simp only [if_neg hc25, if_pos hc26, if_neg hc32] at kt
          refine pre33 t ?_
          refine XS.ifYes X31.here hx rfl (pc0 := 60) (pc' := 65) rfl (hb hby d36_60) rfl ((if0 _ _).trans (feq hc32).2) (by decide) (by decide) ?_
          exact kt
      · refine ⟨T13, X13, e13, fun t kt => ?_⟩
        subst hv23
        simp only [if_neg hc25, if_neg hc26] at kt
        refine pre27 t ?_
        refine XS.icmpYes X13.here hx rfl (pc0 := 51) (pc' := 65) rfl (hb hby d36_51) rfl (flt hc26).2.1 (by decide) (by decide) ?_
        exact kt
  obtain ⟨v34, hv34⟩ : ∃ z : Int32, z = (if (3 : Int32) < p2 then v23 else (if (3 : Int32) < p3 then (if (own_wsL (CL.getD 3 0)) = (0 : Int32) then (4 : Int32) else v23) else v23)) := ⟨_, rfl⟩
  obtain ⟨T35, X35, e35, st35⟩ : own_Mid X24 h0 (mkF m 67 #[vR a1, vI p2, vI p3, vI v23] [iI p2, iI 3]) (mkF m 86 #[vR a1, vI p2, vI p3, vI v34] []) := by
    by_cases hc36 : (3 : Int32) < p2
    · refine ⟨T24, X24, e24, fun t kt => ?_⟩
      subst hv34
      simp only [if_pos hc36] at kt
      refine XS.icmpYes X24.here hx rfl (pc0 := 67) (pc' := 86) rfl (hb hby d36_67) rfl (tlt hc36).1 (by decide) (by decide) ?_
      exact kt
    · have pre38 : PP p e below (T24.setTop (mkF m 72 #[vR a1, vI p2, vI p3, vI v23] [iI p3, iI 3])) (T24.setTop (mkF m 67 #[vR a1, vI p2, vI p3, vI v23] [iI p2, iI 3])) := by
        intro t kt
        refine XS.icmpNo X24.here hx rfl (hb hby d36_67) rfl (flt hc36).1 ?_
        refine XS.iconst X24.here hx rfl (hb hby d36_70) ?_
        refine XS.iloadN X24.here hx rfl (hb hby d36_71) rfl ?_
        exact kt
      by_cases hc37 : (3 : Int32) < p3
      · obtain ⟨cl39, Ar39, q39, S39, M39, H39, G39⟩ := id V_c
        have hin40 := inb_of (j := 3) S39 ⟨by decide, by decide⟩
        have hat41 : cl39.slots[((3 : Int32)).toNatClampNeg]? = some (.int (CL.getD 3 0)) := Has.at H39 hin40 (own_bsget CL _)
        obtain ⟨_, _, ⟨T42, L42, k42, n42⟩, -, X42, ⟨Lc42, hQ42, l42, y42, z42⟩, st42⟩ := Jvm.LawKit.callS X24 hx (y := mn_36) hown (mw hZ hw 157 rfl) (mw hZ hw 158 rfl) (mw hZ hw 3 rfl) (mw hZ hw 159 rfl) (by decide) (backOf (W := 0) (rm35 l Z a0 hw [] (CL.getD 3 0) h0 ) hZ (ww hw 159 rfl) (ww hw 3 rfl) (by decide) (by decide)) (g := (mkF m 78 #[vR a1, vI p2, vI p3, vI v23] [iI (CL.getD 3 0)])) rfl (by rw [hml]; rfl) (argsL := [(.int (CL.getD 3 0))]) (rest := []) (lenOf pd_29 rfl) rfl (wz rfl) (hb hby d36_78) (fun _ _ => ⟨rfl, e24, (by decide : 0 + 0 ≤ _), (by decide : 0 + 0 ≤ _)⟩)
        dsimp only [Pt.U, Pt.locs, Pt.cells, Pt.slots] at X42 l42 y42 z42 st42 hQ42
        subst l42 y42 z42
        obtain ⟨rfl, rfl, e42⟩ := hQ42
        try rw [List.append_nil] at X42
        have pre44 : PP p e below (T42.setTop (mkF m 81 #[vR a1, vI p2, vI p3, vI v23] [iI (own_wsL (CL.getD 3 0))])) (T24.setTop (mkF m 67 #[vR a1, vI p2, vI p3, vI v23] [iI p2, iI 3])) := by
          intro t kt
          refine pre38 t ?_
          refine XS.icmpNo X24.here hx rfl (hb hby d36_72) rfl (tlt hc37).2.1 ?_
          refine XS.aloadN X24.here hx rfl (hb hby d36_75) rfl rfl ?_
          refine XS.iconst X24.here hx rfl (hb hby d36_76) ?_
          refine X24.caload hx (j := 3) (v := (.int (CL.getD 3 0))) (by rw [e24]; exact Ar39.1) (State.isArrayOf_alike hZ.alike Ar39.2.1) Ar39.2.2 hin40 hat41 (g := (mkF m 77 #[vR a1, vI p2, vI p3, vI v23] [iI 3, iR a1])) rfl rfl (hb hby d36_77) _ ?_
          refine st42 _ ?_
          exact kt
        by_cases hc43 : (own_wsL (CL.getD 3 0)) = (0 : Int32)
        · refine ⟨T42, X42, e42, fun t kt => ?_⟩
          subst hv34
          simp only [if_neg hc36, if_pos hc37, if_pos hc43] at kt
          refine pre44 t ?_
          refine XS.ifNo X42.here hx rfl (hb hby d36_81) rfl ((if0 _ _).trans (teq hc43).2) ?_
          refine XS.iconst X42.here hx rfl (hb hby d36_84) ?_
          refine XS.istoreN X42.here hx rfl (hb hby d36_85) rfl (l' := #[vR a1, vI p2, vI p3, vI 4]) rfl ?_
          exact kt
        · refine ⟨T42, X42, e42, fun t kt => ?_⟩
          subst hv34
          simp only [if_neg hc36, if_pos hc37, if_neg hc43] at kt
          refine pre44 t ?_
          refine XS.ifYes X42.here hx rfl (pc0 := 81) (pc' := 86) rfl (hb hby d36_81) rfl ((if0 _ _).trans (feq hc43).2) (by decide) (by decide) ?_
          exact kt
      · refine ⟨T24, X24, e24, fun t kt => ?_⟩
        subst hv34
        simp only [if_neg hc36, if_neg hc37] at kt
        refine pre38 t ?_
        refine XS.icmpYes X24.here hx rfl (pc0 := 72) (pc' := 86) rfl (hb hby d36_72) rfl (flt hc37).2.1 (by decide) (by decide) ?_
        exact kt
  obtain ⟨v45, hv45⟩ : ∃ z : Int32, z = (if (4 : Int32) < p2 then v34 else (if (4 : Int32) < p3 then (if (own_wsL (CL.getD 4 0)) = (0 : Int32) then (5 : Int32) else v34) else v34)) := ⟨_, rfl⟩
  obtain ⟨T46, X46, e46, st46⟩ : own_Mid X35 h0 (mkF m 88 #[vR a1, vI p2, vI p3, vI v34] [iI p2, iI 4]) (mkF m 107 #[vR a1, vI p2, vI p3, vI v45] []) := by
    by_cases hc47 : (4 : Int32) < p2
    · refine ⟨T35, X35, e35, fun t kt => ?_⟩
      subst hv45
      simp only [if_pos hc47] at kt
      refine XS.icmpYes X35.here hx rfl (pc0 := 88) (pc' := 107) rfl (hb hby d36_88) rfl (tlt hc47).1 (by decide) (by decide) ?_
      exact kt
    · have pre49 : PP p e below (T35.setTop (mkF m 93 #[vR a1, vI p2, vI p3, vI v34] [iI p3, iI 4])) (T35.setTop (mkF m 88 #[vR a1, vI p2, vI p3, vI v34] [iI p2, iI 4])) := by
        intro t kt
        refine XS.icmpNo X35.here hx rfl (hb hby d36_88) rfl (flt hc47).1 ?_
        refine XS.iconst X35.here hx rfl (hb hby d36_91) ?_
        refine XS.iloadN X35.here hx rfl (hb hby d36_92) rfl ?_
        exact kt
      by_cases hc48 : (4 : Int32) < p3
      · obtain ⟨cl50, Ar50, q50, S50, M50, H50, G50⟩ := id V_c
        have hin51 := inb_of (j := 4) S50 ⟨by decide, by decide⟩
        have hat52 : cl50.slots[((4 : Int32)).toNatClampNeg]? = some (.int (CL.getD 4 0)) := Has.at H50 hin51 (own_bsget CL _)
        obtain ⟨_, _, ⟨T53, L53, k53, n53⟩, -, X53, ⟨Lc53, hQ53, l53, y53, z53⟩, st53⟩ := Jvm.LawKit.callS X35 hx (y := mn_36) hown (mw hZ hw 157 rfl) (mw hZ hw 158 rfl) (mw hZ hw 3 rfl) (mw hZ hw 159 rfl) (by decide) (backOf (W := 0) (rm35 l Z a0 hw [] (CL.getD 4 0) h0 ) hZ (ww hw 159 rfl) (ww hw 3 rfl) (by decide) (by decide)) (g := (mkF m 99 #[vR a1, vI p2, vI p3, vI v34] [iI (CL.getD 4 0)])) rfl (by rw [hml]; rfl) (argsL := [(.int (CL.getD 4 0))]) (rest := []) (lenOf pd_29 rfl) rfl (wz rfl) (hb hby d36_99) (fun _ _ => ⟨rfl, e35, (by decide : 0 + 0 ≤ _), (by decide : 0 + 0 ≤ _)⟩)
        dsimp only [Pt.U, Pt.locs, Pt.cells, Pt.slots] at X53 l53 y53 z53 st53 hQ53
        subst l53 y53 z53
        obtain ⟨rfl, rfl, e53⟩ := hQ53
        try rw [List.append_nil] at X53
        have pre55 : PP p e below (T53.setTop (mkF m 102 #[vR a1, vI p2, vI p3, vI v34] [iI (own_wsL (CL.getD 4 0))])) (T35.setTop (mkF m 88 #[vR a1, vI p2, vI p3, vI v34] [iI p2, iI 4])) := by
          intro t kt
          refine pre49 t ?_
          refine XS.icmpNo X35.here hx rfl (hb hby d36_93) rfl (tlt hc48).2.1 ?_
          refine XS.aloadN X35.here hx rfl (hb hby d36_96) rfl rfl ?_
          refine XS.iconst X35.here hx rfl (hb hby d36_97) ?_
          refine X35.caload hx (j := 4) (v := (.int (CL.getD 4 0))) (by rw [e35]; exact Ar50.1) (State.isArrayOf_alike hZ.alike Ar50.2.1) Ar50.2.2 hin51 hat52 (g := (mkF m 98 #[vR a1, vI p2, vI p3, vI v34] [iI 4, iR a1])) rfl rfl (hb hby d36_98) _ ?_
          refine st53 _ ?_
          exact kt
        by_cases hc54 : (own_wsL (CL.getD 4 0)) = (0 : Int32)
        · refine ⟨T53, X53, e53, fun t kt => ?_⟩
          subst hv45
          simp only [if_neg hc47, if_pos hc48, if_pos hc54] at kt
          refine pre55 t ?_
          refine XS.ifNo X53.here hx rfl (hb hby d36_102) rfl ((if0 _ _).trans (teq hc54).2) ?_
          refine XS.iconst X53.here hx rfl (hb hby d36_105) ?_
          refine XS.istoreN X53.here hx rfl (hb hby d36_106) rfl (l' := #[vR a1, vI p2, vI p3, vI 5]) rfl ?_
          exact kt
        · refine ⟨T53, X53, e53, fun t kt => ?_⟩
          subst hv45
          simp only [if_neg hc47, if_pos hc48, if_neg hc54] at kt
          refine pre55 t ?_
          refine XS.ifYes X53.here hx rfl (pc0 := 102) (pc' := 107) rfl (hb hby d36_102) rfl ((if0 _ _).trans (feq hc54).2) (by decide) (by decide) ?_
          exact kt
      · refine ⟨T35, X35, e35, fun t kt => ?_⟩
        subst hv45
        simp only [if_neg hc47, if_neg hc48] at kt
        refine pre49 t ?_
        refine XS.icmpYes X35.here hx rfl (pc0 := 93) (pc' := 107) rfl (hb hby d36_93) rfl (flt hc48).2.1 (by decide) (by decide) ?_
        exact kt
  obtain ⟨v56, hv56⟩ : ∃ z : Int32, z = (if (5 : Int32) < p2 then v45 else (if (5 : Int32) < p3 then (if (own_wsL (CL.getD 5 0)) = (0 : Int32) then (6 : Int32) else v45) else v45)) := ⟨_, rfl⟩
  obtain ⟨T57, X57, e57, st57⟩ : own_Mid X46 h0 (mkF m 109 #[vR a1, vI p2, vI p3, vI v45] [iI p2, iI 5]) (mkF m 129 #[vR a1, vI p2, vI p3, vI v56] []) := by
    by_cases hc58 : (5 : Int32) < p2
    · refine ⟨T46, X46, e46, fun t kt => ?_⟩
      subst hv56
      simp only [if_pos hc58] at kt
      refine XS.icmpYes X46.here hx rfl (pc0 := 109) (pc' := 129) rfl (hb hby d36_109) rfl (tlt hc58).1 (by decide) (by decide) ?_
      exact kt
    · have pre60 : PP p e below (T46.setTop (mkF m 114 #[vR a1, vI p2, vI p3, vI v45] [iI p3, iI 5])) (T46.setTop (mkF m 109 #[vR a1, vI p2, vI p3, vI v45] [iI p2, iI 5])) := by
        intro t kt
        refine XS.icmpNo X46.here hx rfl (hb hby d36_109) rfl (flt hc58).1 ?_
        refine XS.iconst X46.here hx rfl (hb hby d36_112) ?_
        refine XS.iloadN X46.here hx rfl (hb hby d36_113) rfl ?_
        exact kt
      by_cases hc59 : (5 : Int32) < p3
      · obtain ⟨cl61, Ar61, q61, S61, M61, H61, G61⟩ := id V_c
        have hin62 := inb_of (j := 5) S61 ⟨by decide, by decide⟩
        have hat63 : cl61.slots[((5 : Int32)).toNatClampNeg]? = some (.int (CL.getD 5 0)) := Has.at H61 hin62 (own_bsget CL _)
        obtain ⟨_, _, ⟨T64, L64, k64, n64⟩, -, X64, ⟨Lc64, hQ64, l64, y64, z64⟩, st64⟩ := Jvm.LawKit.callS X46 hx (y := mn_36) hown (mw hZ hw 157 rfl) (mw hZ hw 158 rfl) (mw hZ hw 3 rfl) (mw hZ hw 159 rfl) (by decide) (backOf (W := 0) (rm35 l Z a0 hw [] (CL.getD 5 0) h0 ) hZ (ww hw 159 rfl) (ww hw 3 rfl) (by decide) (by decide)) (g := (mkF m 120 #[vR a1, vI p2, vI p3, vI v45] [iI (CL.getD 5 0)])) rfl (by rw [hml]; rfl) (argsL := [(.int (CL.getD 5 0))]) (rest := []) (lenOf pd_29 rfl) rfl (wz rfl) (hb hby d36_120) (fun _ _ => ⟨rfl, e46, (by decide : 0 + 0 ≤ _), (by decide : 0 + 0 ≤ _)⟩)
        dsimp only [Pt.U, Pt.locs, Pt.cells, Pt.slots] at X64 l64 y64 z64 st64 hQ64
        subst l64 y64 z64
        obtain ⟨rfl, rfl, e64⟩ := hQ64
        try rw [List.append_nil] at X64
        have pre66 : PP p e below (T64.setTop (mkF m 123 #[vR a1, vI p2, vI p3, vI v45] [iI (own_wsL (CL.getD 5 0))])) (T46.setTop (mkF m 109 #[vR a1, vI p2, vI p3, vI v45] [iI p2, iI 5])) := by
          intro t kt
          refine pre60 t ?_
          refine XS.icmpNo X46.here hx rfl (hb hby d36_114) rfl (tlt hc59).2.1 ?_
          refine XS.aloadN X46.here hx rfl (hb hby d36_117) rfl rfl ?_
          refine XS.iconst X46.here hx rfl (hb hby d36_118) ?_
          refine X46.caload hx (j := 5) (v := (.int (CL.getD 5 0))) (by rw [e46]; exact Ar61.1) (State.isArrayOf_alike hZ.alike Ar61.2.1) Ar61.2.2 hin62 hat63 (g := (mkF m 119 #[vR a1, vI p2, vI p3, vI v45] [iI 5, iR a1])) rfl rfl (hb hby d36_119) _ ?_
          refine st64 _ ?_
          exact kt
        by_cases hc65 : (own_wsL (CL.getD 5 0)) = (0 : Int32)
        · refine ⟨T64, X64, e64, fun t kt => ?_⟩
          subst hv56
          simp only [if_neg hc58, if_pos hc59, if_pos hc65] at kt
          refine pre66 t ?_
          refine XS.ifNo X64.here hx rfl (hb hby d36_123) rfl ((if0 _ _).trans (teq hc65).2) ?_
          refine XS.bipush X64.here hx rfl (hb hby d36_126) ?_
          refine XS.istoreN X64.here hx rfl (hb hby d36_128) rfl (l' := #[vR a1, vI p2, vI p3, vI 6]) rfl ?_
          exact kt
        · refine ⟨T64, X64, e64, fun t kt => ?_⟩
          subst hv56
          simp only [if_neg hc58, if_pos hc59, if_neg hc65] at kt
          refine pre66 t ?_
          refine XS.ifYes X64.here hx rfl (pc0 := 123) (pc' := 129) rfl (hb hby d36_123) rfl ((if0 _ _).trans (feq hc65).2) (by decide) (by decide) ?_
          exact kt
      · refine ⟨T46, X46, e46, fun t kt => ?_⟩
        subst hv56
        simp only [if_neg hc58, if_neg hc59] at kt
        refine pre60 t ?_
        refine XS.icmpYes X46.here hx rfl (pc0 := 114) (pc' := 129) rfl (hb hby d36_114) rfl (flt hc59).2.1 (by decide) (by decide) ?_
        exact kt
  obtain ⟨fs, hr, hrun, hended, hW, hsame⟩ := X57.leave (v := some (.int v56)) (fun h => by rw [Bd.returns] at h; cases h)
  refine ⟨_, _, pre0 _ ?_, hrun, hended, _, _, rfl, ?_, ⟨_, rfl⟩, hW, hsame.mono (by decide) (by decide)⟩
  · refine XS.iloadN X0.here hx rfl (hb hby d36_0) rfl ?_
    refine XS.istoreN X0.here hx rfl (hb hby d36_1) rfl (l' := #[vR a1, vI p2, vI p3, vI p2]) rfl ?_
    refine XS.iconst X0.here hx rfl (hb hby d36_2) ?_
    refine XS.iloadN X0.here hx rfl (hb hby d36_3) rfl ?_
    refine st2 _ ?_
    refine XS.iconst X2.here hx rfl (hb hby d36_23) ?_
    refine XS.iloadN X2.here hx rfl (hb hby d36_24) rfl ?_
    refine st13 _ ?_
    refine XS.iconst X13.here hx rfl (hb hby d36_44) ?_
    refine XS.iloadN X13.here hx rfl (hb hby d36_45) rfl ?_
    refine st24 _ ?_
    refine XS.iconst X24.here hx rfl (hb hby d36_65) ?_
    refine XS.iloadN X24.here hx rfl (hb hby d36_66) rfl ?_
    refine st35 _ ?_
    refine XS.iconst X35.here hx rfl (hb hby d36_86) ?_
    refine XS.iloadN X35.here hx rfl (hb hby d36_87) rfl ?_
    refine st46 _ ?_
    refine XS.iconst X46.here hx rfl (hb hby d36_107) ?_
    refine XS.iloadN X46.here hx rfl (hb hby d36_108) rfl ?_
    refine st57 _ ?_
    refine XS.iloadN X57.here hx rfl (hb hby d36_129) rfl ?_
    show Steps _ _ _ (T57.setTop (mkF m 130 #[vR a1, vI p2, vI p3, vI v56] [iI v56])) _
    exact retI X57 hx Bd.returns (hb hby d36_130) hr
  · show QP _ _ _ T57.heap _
    rw [e57]
    exact ⟨by rw [hv56, hv45, hv34, hv23, hv12, hv1]; rfl, rfl, rfl⟩
theorem d37_0 : dk c37 0 (.iload_n 3) 1 := by decide +kernel
theorem d37_1 : dk c37 1 (.aload_n 0) 1 := by decide +kernel
theorem d37_2 : dk c37 2 (.invokevirtual 34) 3 := by decide +kernel
theorem d37_5 : dk c37 5 (.if_icmp .ge 16) 3 := by decide +kernel
theorem d37_8 : dk c37 8 (.aload_n 0) 1 := by decide +kernel
theorem d37_9 : dk c37 9 (.iload_n 3) 1 := by decide +kernel
theorem d37_10 : dk c37 10 (.invokevirtual 44) 3 := by decide +kernel
theorem d37_13 : dk c37 13 (.aload_n 1) 1 := by decide +kernel
theorem d37_14 : dk c37 14 (.iload_n 2) 1 := by decide +kernel
theorem d37_15 : dk c37 15 (.iload_n 3) 1 := by decide +kernel
theorem d37_16 : dk c37 16 .iadd 1 := by decide +kernel
theorem d37_17 : dk c37 17 .caload 1 := by decide +kernel
theorem d37_18 : dk c37 18 (.if_icmp .ne 7) 3 := by decide +kernel
theorem d37_21 : dk c37 21 (.iconst 1) 1 := by decide +kernel
theorem d37_22 : dk c37 22 (.goto 4) 3 := by decide +kernel
theorem d37_26 : dk c37 26 .ireturn 1 := by decide +kernel
theorem ef_37 (m : MethodId) (x0 : Addr) (x1 : Addr) (x2 : Int32) (x3 : Int32) : entryFrame m #[(.ref x0), (.ref x1), (.int x2), (.int x3)] 4 = mkF m 0 #[.val (.ref x0), .val (.ref x1), .val (.int x2), .val (.int x3)] [] := by first | (simp [entryFrame, mkF, argsToLocals, Value.category]; done) | rfl
theorem rm37 (l : Launch) (Z : State) (a0 : Array Value) (hw : HW a0 Z) (ws : List Jvm.Cond) (a1 : Addr) (a2 : Addr) (p3 : Int32) (p4 : Int32) (d : Addr) (kd : ClassId) (z : Int32) (B : List Int32) (kc : ClassId) (CL : List Int32) (cs : Int32) (fm : Value) (h0 : Heap) (n0 : Nat) (O0 : Old Z n0 h0) (E_a1 : ES Z h0 a1) (Fc_a1 : FC Z h0 a1) (Fv_a1 : FV Z h0 a1 d) (V_d : AB Z h0 d kd z B) (hz : ¬ z < 0) (hB : z.toNatClampNeg = B.length) (V_c : AC Z h0 a2 kc (6 : Int32) CL) (h4 : ¬ p4 < (0 : Int32)) (hsm : ∀ i : Int32, ¬ i < (0 : Int32) → i < z → (¬ (p3 + i) < (0 : Int32) ∧ (p3 + i) < (6 : Int32)) ∧ own_chr (B.getD i.toNatClampNeg 0) = CL.getD (p3 + i).toNatClampNeg 0) (S_CS : SC Z cs) (h_cs : ¬ cs = (0 : Int32)) (S_F : SM Z fm) (h_fm : fm.isRef = true) :
    MFn l mn_41 method_3_code 4 (some .boolean) ws (Rm 4 0 0 53) #[(.ref a1), (.ref a2), (.int p3), (.int p4)] Z h0 (QP h0 (some (.int (1 : Int32)))) := by
  refine MetFree.of_bodySF (plainFor_of_name pn_8) hisR ?_
  intro p e s m args below meth c s₁ Bd hml0 hP hK
  obtain ⟨rfl, hZ, hh⟩ := hP
  have hx := Bd.exec
  have hby := Bd.bytes
  have hml : c.maxLocals = 4 := hml0
  have hown := findClass_of_methodNamed Bd.named
  have X0 : Stand p l e (Rm 4 0 0 53) s m _ below meth c _ [] 0 0 := Stand.of_body Bd
  have e0 : s₁.heap = h0 := by rw [← hh, Bd.state]; rfl
  have pre0 := cast0 (p := p) (e := e) (below := below) (T := s₁) (ef_37 m a1 a2 p3 p4)
  obtain ⟨cq1, kq1, q1a, q1b, q1c⟩ := isOf hZ e0 E_a1
  obtain ⟨_, _, ⟨T1, L1, k1, n1⟩, -, X1, ⟨Lc1, hQ1, l1, y1, z1⟩, st1⟩ := X0.virtualBack hx (y := mn_11) (z := mn_11) hown (mw hZ hw 163 rfl) (mw hZ hw 42 rfl) (notFace_of_selects (args := #[]) (mw hZ hw 44 rfl)) (mw hZ hw 44 rfl) (mw hZ hw 43 rfl) (by decide) (backOf (W := 1) (rm9 l Z a0 hw [] a1 d kd z B cs h0 n0 O0 E_a1 Fc_a1 Fv_a1 V_d hz hB S_CS h_cs) hZ (ww hw 45 rfl) (ww hw 7 rfl) (by decide) (by decide)) q1a q1c (g := (mkF m 2 #[vR a1, vR a2, vI p3, vI p4] [iR a1, iI p4])) rfl (by rw [hml]; rfl) (Steps.refl _) (argsL := []) (rest := [(.int p4)]) (lenOf pd_10 rfl) rfl (wz rfl) (hb hby d37_2) (fun _ _ => ⟨rfl, e0, (by decide : 0 + 0 ≤ _), (by decide : 0 + 0 ≤ _)⟩)
  dsimp only [Pt.U, Pt.locs, Pt.cells, Pt.slots] at X1 l1 y1 z1 st1 hQ1
  subst l1 y1 z1
  obtain ⟨rfl, rfl, e1⟩ := hQ1
  try rw [List.append_nil] at X1
  have pre3 : PP p e below (T1.setTop (mkF m 5 #[vR a1, vR a2, vI p3, vI p4] [iI z, iI p4])) (s₁.setTop (entryFrame m #[(.ref a1), (.ref a2), (.int p3), (.int p4)] 4)) := by
    intro t kt
    refine pre0 t ?_
    refine XS.iloadN X0.here hx rfl (hb hby d37_0) rfl ?_
    refine XS.aloadN X0.here hx rfl (hb hby d37_1) rfl rfl ?_
    refine st1.trans ?_
    exact kt
  by_cases hc2 : p4 < z
  · obtain ⟨cq4, kq4, q4a, q4b, q4c⟩ := isOf hZ e1 E_a1
    obtain ⟨_, _, ⟨T4, L4, k4, n4⟩, -, X4, ⟨Lc4, hQ4, l4, y4, z4⟩, st4⟩ := X1.virtualBack hx (y := mn_4) (z := mn_4) hown (mw hZ hw 167 rfl) (mw hZ hw 168 rfl) (notFace_of_selects (args := #[]) (mw hZ hw 170 rfl)) (mw hZ hw 170 rfl) (mw hZ hw 169 rfl) (by decide) (backOf (W := 0) (rm38_v l Z a0 hw [] a1 p4 d kd z B (CL.getD (p3 + p4).toNatClampNeg 0) cs fm h0 n0 O0 E_a1 Fc_a1 Fv_a1 V_d hz hB h4 hc2 (hsm _ h4 hc2).2 S_CS h_cs S_F h_fm) hZ (ww hw 171 rfl) (ww hw 7 rfl) (by decide) (by decide)) q4a q4c (g := (mkF m 10 #[vR a1, vR a2, vI p3, vI p4] [iI p4, iR a1])) rfl (by rw [hml]; rfl) (Steps.refl _) (argsL := [(.int p4)]) (rest := []) (lenOf pd_30 rfl) rfl (wz rfl) (hb hby d37_10) (fun _ _ => ⟨rfl, e1, (by decide : 0 + 0 ≤ _), (by decide : 0 + 0 ≤ _)⟩)
    dsimp only [Pt.U, Pt.locs, Pt.cells, Pt.slots] at X4 l4 y4 z4 st4 hQ4
    subst l4 y4 z4
    obtain ⟨rfl, rfl, e4⟩ := hQ4
    try rw [List.append_nil] at X4
    obtain ⟨cl5, Ar5, q5, S5, M5, H5, G5⟩ := id V_c
    have hin6 := inb_of (j := (p3 + p4)) S5 (hsm _ h4 hc2).1
    have hat7 : cl5.slots[((p3 + p4)).toNatClampNeg]? = some (.int (CL.getD (p3 + p4).toNatClampNeg 0)) := Has.at H5 hin6 (own_bsget CL _)
    obtain ⟨fs, hr, hrun, hended, hW, hsame⟩ := X4.leave (v := some (.int (1 : Int32))) (fun h => by rw [Bd.returns] at h; cases h)
    refine ⟨_, _, pre3 _ ?_, hrun, hended, _, _, rfl, ?_, ⟨_, rfl⟩, hW, hsame.mono (by decide) (by decide)⟩
    · refine XS.icmpNo X1.here hx rfl (hb hby d37_5) rfl (tlt hc2).2.1 ?_
      refine XS.aloadN X1.here hx rfl (hb hby d37_8) rfl rfl ?_
      refine XS.iloadN X1.here hx rfl (hb hby d37_9) rfl ?_
      refine st4.trans ?_
      refine XS.aloadN X4.here hx rfl (hb hby d37_13) rfl rfl ?_
      refine XS.iloadN X4.here hx rfl (hb hby d37_14) rfl ?_
      refine XS.iloadN X4.here hx rfl (hb hby d37_15) rfl ?_
      refine XS.iadd X4.here hx rfl (hb hby d37_16) rfl ?_
      refine X4.caload hx (j := (p3 + p4)) (v := (.int (CL.getD (p3 + p4).toNatClampNeg 0))) (by rw [e4]; exact Ar5.1) (State.isArrayOf_alike hZ.alike Ar5.2.1) Ar5.2.2 hin6 hat7 (g := (mkF m 17 #[vR a1, vR a2, vI p3, vI p4] [iI (p3 + p4), iR a2, iI (CL.getD (p3 + p4).toNatClampNeg 0)])) rfl rfl (hb hby d37_17) _ ?_
      refine XS.icmpNo X4.here hx rfl (hb hby d37_18) rfl (teq (rfl : (CL.getD (p3 + p4).toNatClampNeg 0) = (CL.getD (p3 + p4).toNatClampNeg 0))).2 ?_
      refine XS.iconst X4.here hx rfl (hb hby d37_21) ?_
      refine XS.goto X4.here hx rfl (pc0 := 22) (pc' := 26) rfl (hb hby d37_22) (by decide) (by decide) ?_
      show Steps _ _ _ (T4.setTop (mkF m 26 #[vR a1, vR a2, vI p3, vI p4] [iI 1])) _
      exact retN X4 hx (t := .boolean) Bd.returns (by simp) (hb hby d37_26) hr
    · show QP _ _ _ T4.heap _
      rw [e4]
      exact ⟨rfl, rfl, rfl⟩
  · obtain ⟨fs, hr, hrun, hended, hW, hsame⟩ := X1.leave (v := some (.int (1 : Int32))) (fun h => by rw [Bd.returns] at h; cases h)
    refine ⟨_, _, pre3 _ ?_, hrun, hended, _, _, rfl, ?_, ⟨_, rfl⟩, hW, hsame.mono (by decide) (by decide)⟩
    · refine XS.icmpYes X1.here hx rfl (pc0 := 5) (pc' := 21) rfl (hb hby d37_5) rfl (flt hc2).2.1 (by decide) (by decide) ?_
      refine XS.iconst X1.here hx rfl (hb hby d37_21) ?_
      refine XS.goto X1.here hx rfl (pc0 := 22) (pc' := 26) rfl (hb hby d37_22) (by decide) (by decide) ?_
      show Steps _ _ _ (T1.setTop (mkF m 26 #[vR a1, vR a2, vI p3, vI p4] [iI 1])) _
      exact retN X1 hx (t := .boolean) Bd.returns (by simp) (hb hby d37_26) hr
    · show QP _ _ _ T1.heap _
      rw [e1]
      exact ⟨rfl, rfl, rfl⟩
theorem d1_0 : dk c1 0 (.iload_n 1) 1 := by decide +kernel
theorem d1_1 : dk c1 1 (.ifCond .ne 14) 3 := by decide +kernel
theorem d1_4 : dk c1 4 (.new 35) 3 := by decide +kernel
theorem d1_7 : dk c1 7 .dup 1 := by decide +kernel
theorem d1_8 : dk c1 8 (.iconst 0) 1 := by decide +kernel
theorem d1_9 : dk c1 9 (.newarray .char) 2 := by decide +kernel
theorem d1_11 : dk c1 11 (.invokespecial 52) 3 := by decide +kernel
theorem d1_14 : dk c1 14 .areturn 1 := by decide +kernel
theorem ef_1_0 (m : MethodId) (x0 : Addr) : entryFrame m #[(.ref x0), (.int (0 : Int32))] 2 = mkF m 0 #[.val (.ref x0), .val (.int (0 : Int32))] [] := by first | (simp [entryFrame, mkF, argsToLocals, Value.category]; done) | rfl
def Q1_0 (Z : State) (a1 : Addr) (kc : ClassId) (zc : Int32) (CL : List Int32) (cs : Int32) (h0 : Heap) (n0 : Nat) (v : Option Value) (h : Heap) (L : List Loc) : Prop := ∃ (o d : Addr) (ko : ClassId), v = some (.ref o) ∧ Fr n0 L ∧ Keep h0 h [] ∧ ES Z h o ∧ FC Z h o ∧ FV Z h o d ∧ AB Z h d ko (0 : Int32) []
theorem rm1_0 (l : Launch) (Z : State) (a0 : Array Value) (hw : HW a0 Z) (ws : List Jvm.Cond) (a1 : Addr) (kc : ClassId) (zc : Int32) (CL : List Int32) (cs : Int32) (h0 : Heap) (n0 : Nat) (Z0 : n0 ≤ h0.size) (O0 : Old Z n0 h0) (V_c : AC Z h0 a1 kc zc CL) (hzc : 0 ≤ zc.toInt) (hl : 0 ≤ CL.length) (hok : ∀ x ∈ CL, own_c8 x) (S_CS : SC Z cs) (h_cs : ¬ cs = (0 : Int32)) :
    MFh l mn_42 method_9_code 2 (some (.object "java/lang/String")) ws (Rm 4 6 16 66) #[(.ref a1), (.int (0 : Int32))] Z h0 (Q1_0 Z a1 kc zc CL cs h0 n0) := by
  refine MetFree.of_bodySF (plainFor_of_name pn_8) hisR ?_
  intro p e s m args below meth c s₁ Bd hml0 hP hK
  obtain ⟨rfl, hZ, hh, hC0⟩ := hP
  have hx := Bd.exec
  have hby := Bd.bytes
  have hml : c.maxLocals = 2 := hml0
  have hown := findClass_of_methodNamed Bd.named
  have X0 : Stand p l e (Rm 4 6 16 66) s m _ below meth c _ [] 0 0 := Stand.of_body Bd
  have e0 : s₁.heap = h0 := by rw [← hh, Bd.state]; rfl
  have R0 := CHr.refl hC0
  have N0 := Fr.nil n0
  have K0 := Keep.refl h0 []
  have pre0 := cast0 (p := p) (e := e) (below := below) (T := s₁) (ef_1_0 m a1)
  obtain ⟨T1, h1, X1, e1, E1, A1, D1, -, st1⟩ := newO X0 hx hZ hown (ww hw 5 rfl) (ww hw 6 rfl) (ww hw 7 rfl) e0 (g := (mkF m 4 #[vR a1, vI 0] [])) rfl (hb hby d1_4) (by decide) (by decide)
  obtain ⟨b1, g1⟩ : ∃ z, z = h0.size := ⟨_, rfl⟩
  rw [← g1] at A1 D1 st1
  have ne_a1_b1 := neB V_c.lt g1
  have sz_b1 := szB K0.1 g1
  have g_b1 := Nat.le_trans Z0 sz_b1
  have K1 := K0.ext E1
  have F_coder_b1 : FC Z h1 b1 := D1 (Or.inr (ww hw 31 rfl)) (ty := .byte) (by decide)
  have F_value_b1 : Fld Z h1 b1 "java/lang/String" "value" "[B" .null := D1 (Or.inr (ww hw 33 rfl)) (ty := (.array .byte)) (by decide)
  obtain ⟨T2, h2, k2, X2, e2, E2, A2, st2⟩ := newP X1 hx hZ (ww hw 0 rfl) e1 (g := (mkF m 9 #[vR a1, vI 0] [iI 0, iR b1, iR b1])) rfl (hb hby d1_9) rfl (by decide) (cap := 0) (by decide) (by decide) (by decide) (by decide)
  obtain ⟨b2, g2⟩ : ∃ z, z = h1.size := ⟨_, rfl⟩
  rw [← g2] at A2 st2
  have fk3 := (V_c.ext E1)
  have ne_a1_b2 := neB fk3.lt g2
  have ne_b1_b2 := neB A1.lt g2
  have sz_b2 := szB K1.1 g2
  have g_b2 := Nat.le_trans Z0 sz_b2
  have K2 := K1.ext E2
  have V2 : Arv Z h2 b2 k2 .char (0 : Int32) [] (.int (0 : Int32)) := (Arv.new A2 (by decide)).pad (pad_rep [] (.int (0 : Int32)) 0)
  have fk5 := (A1.ext E2)
  have fk6 := (F_value_b1.ext E2)
  have fk7 := (F_coder_b1.ext E2)
  have Oh8 := O0.keep K2 all0
  have S9_b1 := Safe.ext E1 R0.1 (Safe.new (Nat.le_of_eq g1.symm))
  have R9 := R0.trans (CHr.ext E1 R0.1)
  have S10_b1 := Safe.ext E2 R9.1 S9_b1
  have S10_b2 := Safe.ext E2 R9.1 (Safe.new (Nat.le_of_eq g2.symm))
  have R10 := R9.trans (CHr.ext E2 R9.1)
  have pre11 : PP p e below (T2.setTop (mkF m 11 #[vR a1, vI 0] [iR b2, iR b1, iR b1])) (s₁.setTop (entryFrame m #[(.ref a1), (.int (0 : Int32))] 2)) := by
    intro t kt
    refine pre0 t ?_
    refine XS.iloadN X0.here hx rfl (hb hby d1_0) rfl ?_
    refine XS.ifNo X0.here hx rfl (hb hby d1_1) rfl ((if0 _ _).trans (teq (by decide : (0 : Int32) = (0 : Int32))).2) ?_
    refine st1 _ ?_
    refine XS.dup X1.here hx rfl (hb hby d1_7) rfl rfl ?_
    refine XS.iconst X1.here hx rfl (hb hby d1_8) ?_
    refine st2 _ ?_
    exact kt
  obtain ⟨_, _, ⟨T4, L4, k4, n4⟩, -, X4, hS4q, gr4, ⟨Lc4, hQ4, l4, y4, z4, C4⟩, st4⟩ := specialBackS (s := s.setVm s.vm) X2 hx (y := mn_9) rfl hown (mw hZ hw 8 rfl) (mw hZ hw 9 rfl) (mw hZ hw 10 rfl) (by decide) (own_backS (s := s) (vm0 := s.vm) (W := 1) (rm2_0 l Z a0 hw [] b1 b2 k2 cs h2 n0 (Nat.le_trans Z0 K2.1) Oh8 fk5 g_b1 fk6 fk7 V2 S_CS h_cs) hZ (ww hw 10 rfl) (ww hw 7 rfl) (by decide) (by decide) (own_EW hw) R10.1 (allS ⟨fk5.lt, S10_b1⟩ all0)) (g := (mkF m 11 #[vR a1, vI 0] [iR b2, iR b1, iR b1])) rfl (by rw [hml]; rfl) (Steps.refl _) (a := b1) (argsL := [(.ref b2)]) (rest := [(.ref b1)]) (lenOf pd_31 rfl) rfl (wz rfl) (hb hby d1_11) (fun _ _ => ⟨rfl, e2, (by decide : 2 + 4 ≤ _), (by decide : 4 + 8 ≤ _)⟩)
  dsimp only [Pt.U, Pt.locs, Pt.cells, Pt.slots] at X4 hS4q gr4 l4 y4 z4 C4 st4 hQ4
  subst l4 y4 z4
  have hS4 := State.Since.trans ((State.WarmedH.refl s).since 0) hS4q (Nat.zero_le _)
  have hZ : Z.Warmed39 (s.setVm T4.vm).vm := State.Warmed39.trans (t := s.setVm s.vm) hZ hS4q.1
  have hown : (s.setVm T4.vm).vm.findClass "com/example/cloud_to_core/cloudtocore/auth/HttpAuthorizationCredentialsPinLaw" = some m.cls := by rw [show (s.setVm T4.vm).vm = T4.vm from rfl, hS4q.1.alike.findClass]; exact hown
  have R4 := R10.trans C4
  obtain ⟨d4, kd4, rfl, N4q, K4q, E4q, C4q, F4q, V4q⟩ := hQ4
  have N4 := Fr.app N0 N4q
  have K4 : Keep h0 T4.heap [] := Keep.trans K2 K4q (allS (Or.inr sz_b1) all0)
  have hfin := R4.trans (CHv.at (s := s) (vm0 := T4.vm) X4 hZ (own_EW hw) R4.1)
  obtain ⟨fs, hr, hrun, hended, hEnd⟩ := X4.leaveW (s := s) hS4 (Nat.le_refl T4.heap.size) (v := some (.ref b1)) (fun h => by rw [Bd.returns] at h; cases h)
  refine ⟨_, _, pre11 _ ?_, hrun, hended, _, _, rfl, ?_, (by rw [hh]; show CHr Z consts_1 s.vm h0 T4.vm T4.heap; exact hfin), ⟨hEnd.1, hEnd.2.1, hEnd.2.2.1, hEnd.2.2.2.mono (by decide) (by decide)⟩⟩
  · refine st4.trans ?_
    show Steps _ _ _ (T4.setTop (mkF m 14 #[vR a1, vI 0] [iR b1])) _
    jvm_step X4.here [X4.here.top, hx, (hb hby d1_14), X4.method', Bd.returns, Value.isRef, FieldType.isReference]
    first | (intro acts; rw [hr _ acts rfl rfl rfl]) | rw [hr _ _ rfl rfl rfl]
    exact Steps.refl _
  · show Q1_0 Z a1 kc zc CL cs h0 n0 _ T4.heap _
    exact ⟨_, _, _, rfl, N4, K4, E4q, C4q, F4q, V4q⟩
theorem own_tkE1 {CL : List Int32} (h : 1 ≤ CL.length) : CL.take 1 = [CL.getD 0 0] := by
  match CL, h with
  | x0 :: t, _ => rfl
theorem d1_15 : dk c1 15 (.iload_n 1) 1 := by decide +kernel
theorem d1_16 : dk c1 16 (.iconst 1) 1 := by decide +kernel
theorem d1_17 : dk c1 17 (.if_icmp .ne 20) 3 := by decide +kernel
theorem d1_20 : dk c1 20 (.new 35) 3 := by decide +kernel
theorem d1_23 : dk c1 23 .dup 1 := by decide +kernel
theorem d1_24 : dk c1 24 (.iconst 1) 1 := by decide +kernel
theorem d1_25 : dk c1 25 (.newarray .char) 2 := by decide +kernel
theorem d1_27 : dk c1 27 .dup 1 := by decide +kernel
theorem d1_28 : dk c1 28 (.iconst 0) 1 := by decide +kernel
theorem d1_29 : dk c1 29 (.aload_n 0) 1 := by decide +kernel
theorem d1_30 : dk c1 30 (.iconst 0) 1 := by decide +kernel
theorem d1_31 : dk c1 31 .caload 1 := by decide +kernel
theorem d1_32 : dk c1 32 .castore 1 := by decide +kernel
theorem d1_33 : dk c1 33 (.invokespecial 52) 3 := by decide +kernel
theorem d1_36 : dk c1 36 .areturn 1 := by decide +kernel
theorem ef_1_1 (m : MethodId) (x0 : Addr) : entryFrame m #[(.ref x0), (.int (1 : Int32))] 2 = mkF m 0 #[.val (.ref x0), .val (.int (1 : Int32))] [] := by first | (simp [entryFrame, mkF, argsToLocals, Value.category]; done) | rfl
def Q1_1 (Z : State) (a1 : Addr) (kc : ClassId) (zc : Int32) (CL : List Int32) (cs : Int32) (h0 : Heap) (n0 : Nat) (v : Option Value) (h : Heap) (L : List Loc) : Prop := ∃ (o d : Addr) (ko : ClassId), v = some (.ref o) ∧ Fr n0 L ∧ Keep h0 h [] ∧ ES Z h o ∧ FC Z h o ∧ FV Z h o d ∧ AB Z h d ko (1 : Int32) ((CL.take 1).map own_by)
theorem rm1_1 (l : Launch) (Z : State) (a0 : Array Value) (hw : HW a0 Z) (ws : List Jvm.Cond) (a1 : Addr) (kc : ClassId) (zc : Int32) (CL : List Int32) (cs : Int32) (h0 : Heap) (n0 : Nat) (Z0 : n0 ≤ h0.size) (O0 : Old Z n0 h0) (V_c : AC Z h0 a1 kc zc CL) (hzc : 1 ≤ zc.toInt) (hl : 1 ≤ CL.length) (hok : ∀ x ∈ CL, own_c8 x) (S_CS : SC Z cs) (h_cs : ¬ cs = (0 : Int32)) :
    MFh l mn_42 method_9_code 2 (some (.object "java/lang/String")) ws (Rm 4 6 16 66) #[(.ref a1), (.int (1 : Int32))] Z h0 (Q1_1 Z a1 kc zc CL cs h0 n0) := by
  refine MetFree.of_bodySF (plainFor_of_name pn_8) hisR ?_
  intro p e s m args below meth c s₁ Bd hml0 hP hK
  obtain ⟨rfl, hZ, hh, hC0⟩ := hP
  have hx := Bd.exec
  have hby := Bd.bytes
  have hml : c.maxLocals = 2 := hml0
  have hown := findClass_of_methodNamed Bd.named
  have X0 : Stand p l e (Rm 4 6 16 66) s m _ below meth c _ [] 0 0 := Stand.of_body Bd
  have e0 : s₁.heap = h0 := by rw [← hh, Bd.state]; rfl
  have R0 := CHr.refl hC0
  have N0 := Fr.nil n0
  have K0 := Keep.refl h0 []
  have pre0 := cast0 (p := p) (e := e) (below := below) (T := s₁) (ef_1_1 m a1)
  obtain ⟨T1, h1, X1, e1, E1, A1, D1, -, st1⟩ := newO X0 hx hZ hown (ww hw 5 rfl) (ww hw 6 rfl) (ww hw 7 rfl) e0 (g := (mkF m 20 #[vR a1, vI 1] [])) rfl (hb hby d1_20) (by decide) (by decide)
  obtain ⟨b1, g1⟩ : ∃ z, z = h0.size := ⟨_, rfl⟩
  rw [← g1] at A1 D1 st1
  have ne_a1_b1 := neB V_c.lt g1
  have sz_b1 := szB K0.1 g1
  have g_b1 := Nat.le_trans Z0 sz_b1
  have K1 := K0.ext E1
  have F_coder_b1 : FC Z h1 b1 := D1 (Or.inr (ww hw 31 rfl)) (ty := .byte) (by decide)
  have F_value_b1 : Fld Z h1 b1 "java/lang/String" "value" "[B" .null := D1 (Or.inr (ww hw 33 rfl)) (ty := (.array .byte)) (by decide)
  obtain ⟨T2, h2, k2, X2, e2, E2, A2, st2⟩ := newP X1 hx hZ (ww hw 0 rfl) e1 (g := (mkF m 25 #[vR a1, vI 1] [iI 1, iR b1, iR b1])) rfl (hb hby d1_25) rfl (by decide) (cap := 1) (by decide) (by decide) (by decide) (by decide)
  obtain ⟨b2, g2⟩ : ∃ z, z = h1.size := ⟨_, rfl⟩
  rw [← g2] at A2 st2
  have fk3 := (V_c.ext E1)
  have ne_a1_b2 := neB fk3.lt g2
  have ne_b1_b2 := neB A1.lt g2
  have sz_b2 := szB K1.1 g2
  have g_b2 := Nat.le_trans Z0 sz_b2
  have K2 := K1.ext E2
  have V2 : Arv Z h2 b2 k2 .char (1 : Int32) [(.int (0 : Int32))] (.int (0 : Int32)) := (Arv.new A2 (by decide)).pad (pad_rep [] (.int (0 : Int32)) 1)
  have fk4 := (fk3.ext E2)
  obtain ⟨cl5, Ar5, q5, S5, M5, H5, G5⟩ := id fk4
  have hin6 := inb_of (j := 0) S5 ⟨by decide, own_lt (by have e : (0 : Int32).toInt = 0 := rfl; omega)⟩
  have hat7 : cl5.slots[((0 : Int32)).toNatClampNeg]? = some (.int (CL.getD 0 0)) := Has.at H5 hin6 (own_bsget CL _)
  obtain ⟨cl8, Ar8, q8, S8, M8, H8, G8⟩ := id V2
  have hin9 := inb_of (j := 0) S8 ⟨by decide, by decide⟩
  obtain ⟨T10, h10, X10, e10, W10, st10⟩ := stC X2 hx hZ e2 Ar8 (j := 0) hin9 (g := (mkF m 32 #[vR a1, vI 1] [iI (CL.getD 0 0), iI 0, iR b2, iR b2, iR b1, iR b1])) rfl rfl (hb hby d1_32)
  have V10 : AC Z h10 b2 k2 (1 : Int32) [(nar .char (CL.getD 0 0))] := Arv.set Ar8 q8 S8 M8 H8 G8 (fits_nar_char _) W10 0 rfl (Nat.le_of_ble_eq_true rfl)
  have K10 := K2.wr W10 (Or.inr sz_b2)
  have N10 := Fr.snoc X10 N0 g_b2
  have fk12 := ((A1.ext E2).wr W10)
  have fk13 := ((F_value_b1.ext E2).other W10 (Or.inl ne_b1_b2))
  have fk14 := ((F_coder_b1.ext E2).other W10 (Or.inl ne_b1_b2))
  have Oh15 := O0.keep K10 all0
  obtain ⟨_, _, ⟨T11, L11, k11, n11⟩, -, X11, ⟨Lc11, hQ11, l11, y11, z11⟩, st11⟩ := X10.specialBack hx (y := mn_9) rfl hown (mw hZ hw 8 rfl) (mw hZ hw 9 rfl) (mw hZ hw 10 rfl) (by decide) (backOf (W := 1) (rm2 l Z a0 hw [] b1 b2 (1 : Int32) k2 [(nar .char (CL.getD 0 0))] cs h10 n0 (Nat.le_trans Z0 K10.1) Oh15 fk12 g_b1 fk13 fk14 V10 ne_b1_b2 rfl (by intro x hx; simp only [List.mem_cons, List.not_mem_nil, or_false] at hx; rcases hx with rfl <;> exact own_ncc (own_get8 hok (by omega))) ⟨by decide, by decide⟩ S_CS h_cs) hZ (ww hw 10 rfl) (ww hw 7 rfl) (by decide) (by decide)) (g := (mkF m 33 #[vR a1, vI 1] [iR b2, iR b1, iR b1])) rfl (by rw [hml]; rfl) (Steps.refl _) (a := b1) (argsL := [(.ref b2)]) (rest := [(.ref b1)]) (lenOf pd_31 rfl) rfl (wz rfl) (hb hby d1_33) (fun _ _ => ⟨rfl, e10, (by decide : 2 + 1 ≤ _), (by decide : 5 + 6 ≤ _)⟩)
  dsimp only [Pt.U, Pt.locs, Pt.cells, Pt.slots] at X11 l11 y11 z11 st11 hQ11
  subst l11 y11 z11
  obtain ⟨d11, kd11, rfl, N11q, K11q, E11q, C11q, F11q, V11q, z_d11⟩ := hQ11
  have fk16 := (fk4.other W10 ne_a1_b2)
  have ne_a1_d11 := neC fk16.lt z_d11
  have ne_b1_d11 := neC fk12.lt z_d11
  have ne_b2_d11 := neC V10.lt z_d11
  have sz_d11 := Nat.le_trans K10.1 z_d11
  have g_d11 := Nat.le_trans Z0 sz_d11
  have N11 := Fr.app N10 N11q
  have K11 : Keep h0 T11.heap [] := Keep.trans K10 K11q (allS (Or.inr sz_b1) all0)
  have S17_b1 := Safe.ext E1 R0.1 (Safe.new (Nat.le_of_eq g1.symm))
  have R17 := R0.trans (CHr.ext E1 R0.1)
  have S18_b1 := Safe.ext E2 R17.1 S17_b1
  have S18_b2 := Safe.ext E2 R17.1 (Safe.new (Nat.le_of_eq g2.symm))
  have R18 := R17.trans (CHr.ext E2 R17.1)
  have S19_b1 := Safe.wr W10 S18_b2 R18.1 S18_b1
  have S19_b2 := Safe.wr W10 S18_b2 R18.1 S18_b2
  have R19 := R18.trans (CHr.wr W10 S18_b2 R18.1)
  have sq20 : ∀ x ∈ [b1], Safe Z consts_1 s.vm _ x := (sfS S19_b1 sf0)
  have S20_b1 := Safe.keep K11q sq20 R19.1 S19_b1
  have S20_b2 := Safe.keep K11q sq20 R19.1 S19_b2
  have S20_d11 := Safe.keep K11q sq20 R19.1 (Safe.new z_d11)
  have R20 := R19.trans (CHr.keep K11q sq20 R19.1)
  have hfin := R20.trans (CHv.at (s := s) (vm0 := s.vm) X11 hZ (own_EW hw) R20.1)
  obtain ⟨fs, hr, hrun, hended, hW, hsame⟩ := X11.leave (v := some (.ref b1)) (fun h => by rw [Bd.returns] at h; cases h)
  refine ⟨_, _, pre0 _ ?_, hrun, hended, _, _, rfl, ?_, (by rw [hh]; show CHr Z consts_1 s.vm h0 T11.vm T11.heap; exact hfin), ReturnedEndW.of_narrow ⟨_, rfl⟩ hW (hsame.mono (by decide) (by decide))⟩
  · refine XS.iloadN X0.here hx rfl (hb hby d1_0) rfl ?_
    refine XS.ifYes X0.here hx rfl (pc0 := 1) (pc' := 15) rfl (hb hby d1_1) rfl ((if0 _ _).trans (feq (by decide : ¬ ((1 : Int32) = (0 : Int32)))).2) (by decide) (by decide) ?_
    refine XS.iloadN X0.here hx rfl (hb hby d1_15) rfl ?_
    refine XS.iconst X0.here hx rfl (hb hby d1_16) ?_
    refine XS.icmpNo X0.here hx rfl (hb hby d1_17) rfl (teq (by decide : (1 : Int32) = (1 : Int32))).2 ?_
    refine st1 _ ?_
    refine XS.dup X1.here hx rfl (hb hby d1_23) rfl rfl ?_
    refine XS.iconst X1.here hx rfl (hb hby d1_24) ?_
    refine st2 _ ?_
    refine XS.dup X2.here hx rfl (hb hby d1_27) rfl rfl ?_
    refine XS.iconst X2.here hx rfl (hb hby d1_28) ?_
    refine XS.aloadN X2.here hx rfl (hb hby d1_29) rfl rfl ?_
    refine XS.iconst X2.here hx rfl (hb hby d1_30) ?_
    refine X2.caload hx (j := 0) (v := (.int (CL.getD 0 0))) (by rw [e2]; exact Ar5.1) (State.isArrayOf_alike hZ.alike Ar5.2.1) Ar5.2.2 hin6 hat7 (g := (mkF m 31 #[vR a1, vI 1] [iI 0, iR a1, iI 0, iR b2, iR b2, iR b1, iR b1])) rfl rfl (hb hby d1_31) _ ?_
    refine st10 _ ?_
    refine st11.trans ?_
    show Steps _ _ _ (T11.setTop (mkF m 36 #[vR a1, vI 1] [iR b1])) _
    jvm_step X11.here [X11.here.top, hx, (hb hby d1_36), X11.method', Bd.returns, Value.isRef, FieldType.isReference]
    first | (intro acts; rw [hr _ acts rfl rfl rfl]) | rw [hr _ _ rfl rfl rfl]
    exact Steps.refl _
  · show Q1_1 Z a1 kc zc CL cs h0 n0 _ T11.heap _
    exact ⟨_, _, _, rfl, N11, K11, E11q, C11q, F11q, (by rw [own_tkE1 hl]; have q := V11q; rw [own_nc8 (own_get8 hok (i := 0) (by omega))] at q; exact q)⟩
theorem own_tkE2 {CL : List Int32} (h : 2 ≤ CL.length) : CL.take 2 = [CL.getD 0 0, CL.getD 1 0] := by
  match CL, h with
  | x0 :: x1 :: t, _ => rfl
theorem d1_37 : dk c1 37 (.iload_n 1) 1 := by decide +kernel
theorem d1_38 : dk c1 38 (.iconst 2) 1 := by decide +kernel
theorem d1_39 : dk c1 39 (.if_icmp .ne 26) 3 := by decide +kernel
theorem d1_42 : dk c1 42 (.new 35) 3 := by decide +kernel
theorem d1_45 : dk c1 45 .dup 1 := by decide +kernel
theorem d1_46 : dk c1 46 (.iconst 2) 1 := by decide +kernel
theorem d1_47 : dk c1 47 (.newarray .char) 2 := by decide +kernel
theorem d1_49 : dk c1 49 .dup 1 := by decide +kernel
theorem d1_50 : dk c1 50 (.iconst 0) 1 := by decide +kernel
theorem d1_51 : dk c1 51 (.aload_n 0) 1 := by decide +kernel
theorem d1_52 : dk c1 52 (.iconst 0) 1 := by decide +kernel
theorem d1_53 : dk c1 53 .caload 1 := by decide +kernel
theorem d1_54 : dk c1 54 .castore 1 := by decide +kernel
theorem d1_55 : dk c1 55 .dup 1 := by decide +kernel
theorem d1_56 : dk c1 56 (.iconst 1) 1 := by decide +kernel
theorem d1_57 : dk c1 57 (.aload_n 0) 1 := by decide +kernel
theorem d1_58 : dk c1 58 (.iconst 1) 1 := by decide +kernel
theorem d1_59 : dk c1 59 .caload 1 := by decide +kernel
theorem d1_60 : dk c1 60 .castore 1 := by decide +kernel
theorem d1_61 : dk c1 61 (.invokespecial 52) 3 := by decide +kernel
theorem d1_64 : dk c1 64 .areturn 1 := by decide +kernel
theorem ef_1_2 (m : MethodId) (x0 : Addr) : entryFrame m #[(.ref x0), (.int (2 : Int32))] 2 = mkF m 0 #[.val (.ref x0), .val (.int (2 : Int32))] [] := by first | (simp [entryFrame, mkF, argsToLocals, Value.category]; done) | rfl
def Q1_2 (Z : State) (a1 : Addr) (kc : ClassId) (zc : Int32) (CL : List Int32) (cs : Int32) (h0 : Heap) (n0 : Nat) (v : Option Value) (h : Heap) (L : List Loc) : Prop := ∃ (o d : Addr) (ko : ClassId), v = some (.ref o) ∧ Fr n0 L ∧ Keep h0 h [] ∧ ES Z h o ∧ FC Z h o ∧ FV Z h o d ∧ AB Z h d ko (2 : Int32) ((CL.take 2).map own_by)
theorem rm1_2 (l : Launch) (Z : State) (a0 : Array Value) (hw : HW a0 Z) (ws : List Jvm.Cond) (a1 : Addr) (kc : ClassId) (zc : Int32) (CL : List Int32) (cs : Int32) (h0 : Heap) (n0 : Nat) (Z0 : n0 ≤ h0.size) (O0 : Old Z n0 h0) (V_c : AC Z h0 a1 kc zc CL) (hzc : 2 ≤ zc.toInt) (hl : 2 ≤ CL.length) (hok : ∀ x ∈ CL, own_c8 x) (S_CS : SC Z cs) (h_cs : ¬ cs = (0 : Int32)) :
    MFh l mn_42 method_9_code 2 (some (.object "java/lang/String")) ws (Rm 4 6 16 66) #[(.ref a1), (.int (2 : Int32))] Z h0 (Q1_2 Z a1 kc zc CL cs h0 n0) := by
  refine MetFree.of_bodySF (plainFor_of_name pn_8) hisR ?_
  intro p e s m args below meth c s₁ Bd hml0 hP hK
  obtain ⟨rfl, hZ, hh, hC0⟩ := hP
  have hx := Bd.exec
  have hby := Bd.bytes
  have hml : c.maxLocals = 2 := hml0
  have hown := findClass_of_methodNamed Bd.named
  have X0 : Stand p l e (Rm 4 6 16 66) s m _ below meth c _ [] 0 0 := Stand.of_body Bd
  have e0 : s₁.heap = h0 := by rw [← hh, Bd.state]; rfl
  have R0 := CHr.refl hC0
  have N0 := Fr.nil n0
  have K0 := Keep.refl h0 []
  have pre0 := cast0 (p := p) (e := e) (below := below) (T := s₁) (ef_1_2 m a1)
  obtain ⟨T1, h1, X1, e1, E1, A1, D1, -, st1⟩ := newO X0 hx hZ hown (ww hw 5 rfl) (ww hw 6 rfl) (ww hw 7 rfl) e0 (g := (mkF m 42 #[vR a1, vI 2] [])) rfl (hb hby d1_42) (by decide) (by decide)
  obtain ⟨b1, g1⟩ : ∃ z, z = h0.size := ⟨_, rfl⟩
  rw [← g1] at A1 D1 st1
  have ne_a1_b1 := neB V_c.lt g1
  have sz_b1 := szB K0.1 g1
  have g_b1 := Nat.le_trans Z0 sz_b1
  have K1 := K0.ext E1
  have F_coder_b1 : FC Z h1 b1 := D1 (Or.inr (ww hw 31 rfl)) (ty := .byte) (by decide)
  have F_value_b1 : Fld Z h1 b1 "java/lang/String" "value" "[B" .null := D1 (Or.inr (ww hw 33 rfl)) (ty := (.array .byte)) (by decide)
  obtain ⟨T2, h2, k2, X2, e2, E2, A2, st2⟩ := newP X1 hx hZ (ww hw 0 rfl) e1 (g := (mkF m 47 #[vR a1, vI 2] [iI 2, iR b1, iR b1])) rfl (hb hby d1_47) rfl (by decide) (cap := 2) (by decide) (by decide) (by decide) (by decide)
  obtain ⟨b2, g2⟩ : ∃ z, z = h1.size := ⟨_, rfl⟩
  rw [← g2] at A2 st2
  have fk3 := (V_c.ext E1)
  have ne_a1_b2 := neB fk3.lt g2
  have ne_b1_b2 := neB A1.lt g2
  have sz_b2 := szB K1.1 g2
  have g_b2 := Nat.le_trans Z0 sz_b2
  have K2 := K1.ext E2
  have V2 : Arv Z h2 b2 k2 .char (2 : Int32) [(.int (0 : Int32)), (.int (0 : Int32))] (.int (0 : Int32)) := (Arv.new A2 (by decide)).pad (pad_rep [] (.int (0 : Int32)) 2)
  have fk4 := (fk3.ext E2)
  obtain ⟨cl5, Ar5, q5, S5, M5, H5, G5⟩ := id fk4
  have hin6 := inb_of (j := 0) S5 ⟨by decide, own_lt (by have e : (0 : Int32).toInt = 0 := rfl; omega)⟩
  have hat7 : cl5.slots[((0 : Int32)).toNatClampNeg]? = some (.int (CL.getD 0 0)) := Has.at H5 hin6 (own_bsget CL _)
  obtain ⟨cl8, Ar8, q8, S8, M8, H8, G8⟩ := id V2
  have hin9 := inb_of (j := 0) S8 ⟨by decide, by decide⟩
  obtain ⟨T10, h10, X10, e10, W10, st10⟩ := stC X2 hx hZ e2 Ar8 (j := 0) hin9 (g := (mkF m 54 #[vR a1, vI 2] [iI (CL.getD 0 0), iI 0, iR b2, iR b2, iR b1, iR b1])) rfl rfl (hb hby d1_54)
  have V10 : AC Z h10 b2 k2 (2 : Int32) [(nar .char (CL.getD 0 0)), 0] := Arv.set Ar8 q8 S8 M8 H8 G8 (fits_nar_char _) W10 0 rfl (Nat.le_of_ble_eq_true rfl)
  have K10 := K2.wr W10 (Or.inr sz_b2)
  have N10 := Fr.snoc X10 N0 g_b2
  have fk11 := (fk4.other W10 ne_a1_b2)
  obtain ⟨cl12, Ar12, q12, S12, M12, H12, G12⟩ := id fk11
  have hin13 := inb_of (j := 1) S12 ⟨by decide, own_lt (by have e : (1 : Int32).toInt = 1 := rfl; omega)⟩
  have hat14 : cl12.slots[((1 : Int32)).toNatClampNeg]? = some (.int (CL.getD 1 0)) := Has.at H12 hin13 (own_bsget CL _)
  obtain ⟨cl15, Ar15, q15, S15, M15, H15, G15⟩ := id V10
  have hin16 := inb_of (j := 1) S15 ⟨by decide, by decide⟩
  obtain ⟨T17, h17, X17, e17, W17, st17⟩ := stC X10 hx hZ e10 Ar15 (j := 1) hin16 (g := (mkF m 60 #[vR a1, vI 2] [iI (CL.getD 1 0), iI 1, iR b2, iR b2, iR b1, iR b1])) rfl rfl (hb hby d1_60)
  have V17 : AC Z h17 b2 k2 (2 : Int32) [(nar .char (CL.getD 0 0)), (nar .char (CL.getD 1 0))] := Arv.set Ar15 q15 S15 M15 H15 G15 (fits_nar_char _) W17 1 rfl (Nat.le_of_ble_eq_true rfl)
  have K17 := K10.wr W17 (Or.inr sz_b2)
  have N17 := Fr.snoc X17 N10 g_b2
  have fk19 := (((A1.ext E2).wr W10).wr W17)
  have fk20 := (((F_value_b1.ext E2).other W10 (Or.inl ne_b1_b2)).other W17 (Or.inl ne_b1_b2))
  have fk21 := (((F_coder_b1.ext E2).other W10 (Or.inl ne_b1_b2)).other W17 (Or.inl ne_b1_b2))
  have Oh22 := O0.keep K17 all0
  obtain ⟨_, _, ⟨T18, L18, k18, n18⟩, -, X18, ⟨Lc18, hQ18, l18, y18, z18⟩, st18⟩ := X17.specialBack hx (y := mn_9) rfl hown (mw hZ hw 8 rfl) (mw hZ hw 9 rfl) (mw hZ hw 10 rfl) (by decide) (backOf (W := 1) (rm2 l Z a0 hw [] b1 b2 (2 : Int32) k2 [(nar .char (CL.getD 0 0)), (nar .char (CL.getD 1 0))] cs h17 n0 (Nat.le_trans Z0 K17.1) Oh22 fk19 g_b1 fk20 fk21 V17 ne_b1_b2 rfl (by intro x hx; simp only [List.mem_cons, List.not_mem_nil, or_false] at hx; rcases hx with rfl | rfl <;> exact own_ncc (own_get8 hok (by omega))) ⟨by decide, by decide⟩ S_CS h_cs) hZ (ww hw 10 rfl) (ww hw 7 rfl) (by decide) (by decide)) (g := (mkF m 61 #[vR a1, vI 2] [iR b2, iR b1, iR b1])) rfl (by rw [hml]; rfl) (Steps.refl _) (a := b1) (argsL := [(.ref b2)]) (rest := [(.ref b1)]) (lenOf pd_31 rfl) rfl (wz rfl) (hb hby d1_61) (fun _ _ => ⟨rfl, e17, (by decide : 2 + 1 ≤ _), (by decide : 6 + 6 ≤ _)⟩)
  dsimp only [Pt.U, Pt.locs, Pt.cells, Pt.slots] at X18 l18 y18 z18 st18 hQ18
  subst l18 y18 z18
  obtain ⟨d18, kd18, rfl, N18q, K18q, E18q, C18q, F18q, V18q, z_d18⟩ := hQ18
  have fk23 := (fk11.other W17 ne_a1_b2)
  have ne_a1_d18 := neC fk23.lt z_d18
  have ne_b1_d18 := neC fk19.lt z_d18
  have ne_b2_d18 := neC V17.lt z_d18
  have sz_d18 := Nat.le_trans K17.1 z_d18
  have g_d18 := Nat.le_trans Z0 sz_d18
  have N18 := Fr.app N17 N18q
  have K18 : Keep h0 T18.heap [] := Keep.trans K17 K18q (allS (Or.inr sz_b1) all0)
  have S24_b1 := Safe.ext E1 R0.1 (Safe.new (Nat.le_of_eq g1.symm))
  have R24 := R0.trans (CHr.ext E1 R0.1)
  have S25_b1 := Safe.ext E2 R24.1 S24_b1
  have S25_b2 := Safe.ext E2 R24.1 (Safe.new (Nat.le_of_eq g2.symm))
  have R25 := R24.trans (CHr.ext E2 R24.1)
  have S26_b1 := Safe.wr W10 S25_b2 R25.1 S25_b1
  have S26_b2 := Safe.wr W10 S25_b2 R25.1 S25_b2
  have R26 := R25.trans (CHr.wr W10 S25_b2 R25.1)
  have S27_b1 := Safe.wr W17 S26_b2 R26.1 S26_b1
  have S27_b2 := Safe.wr W17 S26_b2 R26.1 S26_b2
  have R27 := R26.trans (CHr.wr W17 S26_b2 R26.1)
  have sq28 : ∀ x ∈ [b1], Safe Z consts_1 s.vm _ x := (sfS S27_b1 sf0)
  have S28_b1 := Safe.keep K18q sq28 R27.1 S27_b1
  have S28_b2 := Safe.keep K18q sq28 R27.1 S27_b2
  have S28_d18 := Safe.keep K18q sq28 R27.1 (Safe.new z_d18)
  have R28 := R27.trans (CHr.keep K18q sq28 R27.1)
  have hfin := R28.trans (CHv.at (s := s) (vm0 := s.vm) X18 hZ (own_EW hw) R28.1)
  obtain ⟨fs, hr, hrun, hended, hW, hsame⟩ := X18.leave (v := some (.ref b1)) (fun h => by rw [Bd.returns] at h; cases h)
  refine ⟨_, _, pre0 _ ?_, hrun, hended, _, _, rfl, ?_, (by rw [hh]; show CHr Z consts_1 s.vm h0 T18.vm T18.heap; exact hfin), ReturnedEndW.of_narrow ⟨_, rfl⟩ hW (hsame.mono (by decide) (by decide))⟩
  · refine XS.iloadN X0.here hx rfl (hb hby d1_0) rfl ?_
    refine XS.ifYes X0.here hx rfl (pc0 := 1) (pc' := 15) rfl (hb hby d1_1) rfl ((if0 _ _).trans (feq (by decide : ¬ ((2 : Int32) = (0 : Int32)))).2) (by decide) (by decide) ?_
    refine XS.iloadN X0.here hx rfl (hb hby d1_15) rfl ?_
    refine XS.iconst X0.here hx rfl (hb hby d1_16) ?_
    refine XS.icmpYes X0.here hx rfl (pc0 := 17) (pc' := 37) rfl (hb hby d1_17) rfl (feq (by decide : ¬ ((2 : Int32) = (1 : Int32)))).2 (by decide) (by decide) ?_
    refine XS.iloadN X0.here hx rfl (hb hby d1_37) rfl ?_
    show SA s₁ m 38 #[vR a1, vI 2] [iI 2]
    refine XS.iconst X0.here hx rfl (hb hby d1_38) ?_
    refine XS.icmpNo X0.here hx rfl (hb hby d1_39) rfl (teq (by decide : (2 : Int32) = (2 : Int32))).2 ?_
    refine st1 _ ?_
    refine XS.dup X1.here hx rfl (hb hby d1_45) rfl rfl ?_
    refine XS.iconst X1.here hx rfl (hb hby d1_46) ?_
    refine st2 _ ?_
    refine XS.dup X2.here hx rfl (hb hby d1_49) rfl rfl ?_
    refine XS.iconst X2.here hx rfl (hb hby d1_50) ?_
    refine XS.aloadN X2.here hx rfl (hb hby d1_51) rfl rfl ?_
    refine XS.iconst X2.here hx rfl (hb hby d1_52) ?_
    refine X2.caload hx (j := 0) (v := (.int (CL.getD 0 0))) (by rw [e2]; exact Ar5.1) (State.isArrayOf_alike hZ.alike Ar5.2.1) Ar5.2.2 hin6 hat7 (g := (mkF m 53 #[vR a1, vI 2] [iI 0, iR a1, iI 0, iR b2, iR b2, iR b1, iR b1])) rfl rfl (hb hby d1_53) _ ?_
    refine st10 _ ?_
    refine XS.dup X10.here hx rfl (hb hby d1_55) rfl rfl ?_
    refine XS.iconst X10.here hx rfl (hb hby d1_56) ?_
    refine XS.aloadN X10.here hx rfl (hb hby d1_57) rfl rfl ?_
    refine XS.iconst X10.here hx rfl (hb hby d1_58) ?_
    refine X10.caload hx (j := 1) (v := (.int (CL.getD 1 0))) (by rw [e10]; exact Ar12.1) (State.isArrayOf_alike hZ.alike Ar12.2.1) Ar12.2.2 hin13 hat14 (g := (mkF m 59 #[vR a1, vI 2] [iI 1, iR a1, iI 1, iR b2, iR b2, iR b1, iR b1])) rfl rfl (hb hby d1_59) _ ?_
    refine st17 _ ?_
    refine st18.trans ?_
    show Steps _ _ _ (T18.setTop (mkF m 64 #[vR a1, vI 2] [iR b1])) _
    jvm_step X18.here [X18.here.top, hx, (hb hby d1_64), X18.method', Bd.returns, Value.isRef, FieldType.isReference]
    first | (intro acts; rw [hr _ acts rfl rfl rfl]) | rw [hr _ _ rfl rfl rfl]
    exact Steps.refl _
  · show Q1_2 Z a1 kc zc CL cs h0 n0 _ T18.heap _
    exact ⟨_, _, _, rfl, N18, K18, E18q, C18q, F18q, (by rw [own_tkE2 hl]; have q := V18q; rw [own_nc8 (own_get8 hok (i := 0) (by omega)), own_nc8 (own_get8 hok (i := 1) (by omega))] at q; exact q)⟩
theorem own_tkE3 {CL : List Int32} (h : 3 ≤ CL.length) : CL.take 3 = [CL.getD 0 0, CL.getD 1 0, CL.getD 2 0] := by
  match CL, h with
  | x0 :: x1 :: x2 :: t, _ => rfl
theorem d1_65 : dk c1 65 (.iload_n 1) 1 := by decide +kernel
theorem d1_66 : dk c1 66 (.iconst 3) 1 := by decide +kernel
theorem d1_67 : dk c1 67 (.if_icmp .ne 32) 3 := by decide +kernel
theorem d1_70 : dk c1 70 (.new 35) 3 := by decide +kernel
theorem d1_73 : dk c1 73 .dup 1 := by decide +kernel
theorem d1_74 : dk c1 74 (.iconst 3) 1 := by decide +kernel
theorem d1_75 : dk c1 75 (.newarray .char) 2 := by decide +kernel
theorem d1_77 : dk c1 77 .dup 1 := by decide +kernel
theorem d1_78 : dk c1 78 (.iconst 0) 1 := by decide +kernel
theorem d1_79 : dk c1 79 (.aload_n 0) 1 := by decide +kernel
theorem d1_80 : dk c1 80 (.iconst 0) 1 := by decide +kernel
theorem d1_81 : dk c1 81 .caload 1 := by decide +kernel
theorem d1_82 : dk c1 82 .castore 1 := by decide +kernel
theorem d1_83 : dk c1 83 .dup 1 := by decide +kernel
theorem d1_84 : dk c1 84 (.iconst 1) 1 := by decide +kernel
theorem d1_85 : dk c1 85 (.aload_n 0) 1 := by decide +kernel
theorem d1_86 : dk c1 86 (.iconst 1) 1 := by decide +kernel
theorem d1_87 : dk c1 87 .caload 1 := by decide +kernel
theorem d1_88 : dk c1 88 .castore 1 := by decide +kernel
theorem d1_89 : dk c1 89 .dup 1 := by decide +kernel
theorem d1_90 : dk c1 90 (.iconst 2) 1 := by decide +kernel
theorem d1_91 : dk c1 91 (.aload_n 0) 1 := by decide +kernel
theorem d1_92 : dk c1 92 (.iconst 2) 1 := by decide +kernel
theorem d1_93 : dk c1 93 .caload 1 := by decide +kernel
theorem d1_94 : dk c1 94 .castore 1 := by decide +kernel
theorem d1_95 : dk c1 95 (.invokespecial 52) 3 := by decide +kernel
theorem d1_98 : dk c1 98 .areturn 1 := by decide +kernel
theorem ef_1_3 (m : MethodId) (x0 : Addr) : entryFrame m #[(.ref x0), (.int (3 : Int32))] 2 = mkF m 0 #[.val (.ref x0), .val (.int (3 : Int32))] [] := by first | (simp [entryFrame, mkF, argsToLocals, Value.category]; done) | rfl
def Q1_3 (Z : State) (a1 : Addr) (kc : ClassId) (zc : Int32) (CL : List Int32) (cs : Int32) (h0 : Heap) (n0 : Nat) (v : Option Value) (h : Heap) (L : List Loc) : Prop := ∃ (o d : Addr) (ko : ClassId), v = some (.ref o) ∧ Fr n0 L ∧ Keep h0 h [] ∧ ES Z h o ∧ FC Z h o ∧ FV Z h o d ∧ AB Z h d ko (3 : Int32) ((CL.take 3).map own_by)
theorem rm1_3 (l : Launch) (Z : State) (a0 : Array Value) (hw : HW a0 Z) (ws : List Jvm.Cond) (a1 : Addr) (kc : ClassId) (zc : Int32) (CL : List Int32) (cs : Int32) (h0 : Heap) (n0 : Nat) (Z0 : n0 ≤ h0.size) (O0 : Old Z n0 h0) (V_c : AC Z h0 a1 kc zc CL) (hzc : 3 ≤ zc.toInt) (hl : 3 ≤ CL.length) (hok : ∀ x ∈ CL, own_c8 x) (S_CS : SC Z cs) (h_cs : ¬ cs = (0 : Int32)) :
    MFh l mn_42 method_9_code 2 (some (.object "java/lang/String")) ws (Rm 4 6 16 66) #[(.ref a1), (.int (3 : Int32))] Z h0 (Q1_3 Z a1 kc zc CL cs h0 n0) := by
  refine MetFree.of_bodySF (plainFor_of_name pn_8) hisR ?_
  intro p e s m args below meth c s₁ Bd hml0 hP hK
  obtain ⟨rfl, hZ, hh, hC0⟩ := hP
  have hx := Bd.exec
  have hby := Bd.bytes
  have hml : c.maxLocals = 2 := hml0
  have hown := findClass_of_methodNamed Bd.named
  have X0 : Stand p l e (Rm 4 6 16 66) s m _ below meth c _ [] 0 0 := Stand.of_body Bd
  have e0 : s₁.heap = h0 := by rw [← hh, Bd.state]; rfl
  have R0 := CHr.refl hC0
  have N0 := Fr.nil n0
  have K0 := Keep.refl h0 []
  have pre0 := cast0 (p := p) (e := e) (below := below) (T := s₁) (ef_1_3 m a1)
  obtain ⟨T1, h1, X1, e1, E1, A1, D1, -, st1⟩ := newO X0 hx hZ hown (ww hw 5 rfl) (ww hw 6 rfl) (ww hw 7 rfl) e0 (g := (mkF m 70 #[vR a1, vI 3] [])) rfl (hb hby d1_70) (by decide) (by decide)
  obtain ⟨b1, g1⟩ : ∃ z, z = h0.size := ⟨_, rfl⟩
  rw [← g1] at A1 D1 st1
  have ne_a1_b1 := neB V_c.lt g1
  have sz_b1 := szB K0.1 g1
  have g_b1 := Nat.le_trans Z0 sz_b1
  have K1 := K0.ext E1
  have F_coder_b1 : FC Z h1 b1 := D1 (Or.inr (ww hw 31 rfl)) (ty := .byte) (by decide)
  have F_value_b1 : Fld Z h1 b1 "java/lang/String" "value" "[B" .null := D1 (Or.inr (ww hw 33 rfl)) (ty := (.array .byte)) (by decide)
  obtain ⟨T2, h2, k2, X2, e2, E2, A2, st2⟩ := newP X1 hx hZ (ww hw 0 rfl) e1 (g := (mkF m 75 #[vR a1, vI 3] [iI 3, iR b1, iR b1])) rfl (hb hby d1_75) rfl (by decide) (cap := 3) (by decide) (by decide) (by decide) (by decide)
  obtain ⟨b2, g2⟩ : ∃ z, z = h1.size := ⟨_, rfl⟩
  rw [← g2] at A2 st2
  have fk3 := (V_c.ext E1)
  have ne_a1_b2 := neB fk3.lt g2
  have ne_b1_b2 := neB A1.lt g2
  have sz_b2 := szB K1.1 g2
  have g_b2 := Nat.le_trans Z0 sz_b2
  have K2 := K1.ext E2
  have V2 : Arv Z h2 b2 k2 .char (3 : Int32) [(.int (0 : Int32)), (.int (0 : Int32)), (.int (0 : Int32))] (.int (0 : Int32)) := (Arv.new A2 (by decide)).pad (pad_rep [] (.int (0 : Int32)) 3)
  have fk4 := (fk3.ext E2)
  obtain ⟨cl5, Ar5, q5, S5, M5, H5, G5⟩ := id fk4
  have hin6 := inb_of (j := 0) S5 ⟨by decide, own_lt (by have e : (0 : Int32).toInt = 0 := rfl; omega)⟩
  have hat7 : cl5.slots[((0 : Int32)).toNatClampNeg]? = some (.int (CL.getD 0 0)) := Has.at H5 hin6 (own_bsget CL _)
  obtain ⟨cl8, Ar8, q8, S8, M8, H8, G8⟩ := id V2
  have hin9 := inb_of (j := 0) S8 ⟨by decide, by decide⟩
  obtain ⟨T10, h10, X10, e10, W10, st10⟩ := stC X2 hx hZ e2 Ar8 (j := 0) hin9 (g := (mkF m 82 #[vR a1, vI 3] [iI (CL.getD 0 0), iI 0, iR b2, iR b2, iR b1, iR b1])) rfl rfl (hb hby d1_82)
  have V10 : AC Z h10 b2 k2 (3 : Int32) [(nar .char (CL.getD 0 0)), 0, 0] := Arv.set Ar8 q8 S8 M8 H8 G8 (fits_nar_char _) W10 0 rfl (Nat.le_of_ble_eq_true rfl)
  have K10 := K2.wr W10 (Or.inr sz_b2)
  have N10 := Fr.snoc X10 N0 g_b2
  have fk11 := (fk4.other W10 ne_a1_b2)
  obtain ⟨cl12, Ar12, q12, S12, M12, H12, G12⟩ := id fk11
  have hin13 := inb_of (j := 1) S12 ⟨by decide, own_lt (by have e : (1 : Int32).toInt = 1 := rfl; omega)⟩
  have hat14 : cl12.slots[((1 : Int32)).toNatClampNeg]? = some (.int (CL.getD 1 0)) := Has.at H12 hin13 (own_bsget CL _)
  obtain ⟨cl15, Ar15, q15, S15, M15, H15, G15⟩ := id V10
  have hin16 := inb_of (j := 1) S15 ⟨by decide, by decide⟩
  obtain ⟨T17, h17, X17, e17, W17, st17⟩ := stC X10 hx hZ e10 Ar15 (j := 1) hin16 (g := (mkF m 88 #[vR a1, vI 3] [iI (CL.getD 1 0), iI 1, iR b2, iR b2, iR b1, iR b1])) rfl rfl (hb hby d1_88)
  have V17 : AC Z h17 b2 k2 (3 : Int32) [(nar .char (CL.getD 0 0)), (nar .char (CL.getD 1 0)), 0] := Arv.set Ar15 q15 S15 M15 H15 G15 (fits_nar_char _) W17 1 rfl (Nat.le_of_ble_eq_true rfl)
  have K17 := K10.wr W17 (Or.inr sz_b2)
  have N17 := Fr.snoc X17 N10 g_b2
  have fk18 := (fk11.other W17 ne_a1_b2)
  obtain ⟨cl19, Ar19, q19, S19, M19, H19, G19⟩ := id fk18
  have hin20 := inb_of (j := 2) S19 ⟨by decide, own_lt (by have e : (2 : Int32).toInt = 2 := rfl; omega)⟩
  have hat21 : cl19.slots[((2 : Int32)).toNatClampNeg]? = some (.int (CL.getD 2 0)) := Has.at H19 hin20 (own_bsget CL _)
  obtain ⟨cl22, Ar22, q22, S22, M22, H22, G22⟩ := id V17
  have hin23 := inb_of (j := 2) S22 ⟨by decide, by decide⟩
  obtain ⟨T24, h24, X24, e24, W24, st24⟩ := stC X17 hx hZ e17 Ar22 (j := 2) hin23 (g := (mkF m 94 #[vR a1, vI 3] [iI (CL.getD 2 0), iI 2, iR b2, iR b2, iR b1, iR b1])) rfl rfl (hb hby d1_94)
  have V24 : AC Z h24 b2 k2 (3 : Int32) [(nar .char (CL.getD 0 0)), (nar .char (CL.getD 1 0)), (nar .char (CL.getD 2 0))] := Arv.set Ar22 q22 S22 M22 H22 G22 (fits_nar_char _) W24 2 rfl (Nat.le_of_ble_eq_true rfl)
  have K24 := K17.wr W24 (Or.inr sz_b2)
  have N24 := Fr.snoc X24 N17 g_b2
  have fk26 := ((((A1.ext E2).wr W10).wr W17).wr W24)
  have fk27 := ((((F_value_b1.ext E2).other W10 (Or.inl ne_b1_b2)).other W17 (Or.inl ne_b1_b2)).other W24 (Or.inl ne_b1_b2))
  have fk28 := ((((F_coder_b1.ext E2).other W10 (Or.inl ne_b1_b2)).other W17 (Or.inl ne_b1_b2)).other W24 (Or.inl ne_b1_b2))
  have Oh29 := O0.keep K24 all0
  obtain ⟨_, _, ⟨T25, L25, k25, n25⟩, -, X25, ⟨Lc25, hQ25, l25, y25, z25⟩, st25⟩ := X24.specialBack hx (y := mn_9) rfl hown (mw hZ hw 8 rfl) (mw hZ hw 9 rfl) (mw hZ hw 10 rfl) (by decide) (backOf (W := 1) (rm2 l Z a0 hw [] b1 b2 (3 : Int32) k2 [(nar .char (CL.getD 0 0)), (nar .char (CL.getD 1 0)), (nar .char (CL.getD 2 0))] cs h24 n0 (Nat.le_trans Z0 K24.1) Oh29 fk26 g_b1 fk27 fk28 V24 ne_b1_b2 rfl (by intro x hx; simp only [List.mem_cons, List.not_mem_nil, or_false] at hx; rcases hx with rfl | rfl | rfl <;> exact own_ncc (own_get8 hok (by omega))) ⟨by decide, by decide⟩ S_CS h_cs) hZ (ww hw 10 rfl) (ww hw 7 rfl) (by decide) (by decide)) (g := (mkF m 95 #[vR a1, vI 3] [iR b2, iR b1, iR b1])) rfl (by rw [hml]; rfl) (Steps.refl _) (a := b1) (argsL := [(.ref b2)]) (rest := [(.ref b1)]) (lenOf pd_31 rfl) rfl (wz rfl) (hb hby d1_95) (fun _ _ => ⟨rfl, e24, (by decide : 2 + 1 ≤ _), (by decide : 7 + 6 ≤ _)⟩)
  dsimp only [Pt.U, Pt.locs, Pt.cells, Pt.slots] at X25 l25 y25 z25 st25 hQ25
  subst l25 y25 z25
  obtain ⟨d25, kd25, rfl, N25q, K25q, E25q, C25q, F25q, V25q, z_d25⟩ := hQ25
  have fk30 := (fk18.other W24 ne_a1_b2)
  have ne_a1_d25 := neC fk30.lt z_d25
  have ne_b1_d25 := neC fk26.lt z_d25
  have ne_b2_d25 := neC V24.lt z_d25
  have sz_d25 := Nat.le_trans K24.1 z_d25
  have g_d25 := Nat.le_trans Z0 sz_d25
  have N25 := Fr.app N24 N25q
  have K25 : Keep h0 T25.heap [] := Keep.trans K24 K25q (allS (Or.inr sz_b1) all0)
  have S31_b1 := Safe.ext E1 R0.1 (Safe.new (Nat.le_of_eq g1.symm))
  have R31 := R0.trans (CHr.ext E1 R0.1)
  have S32_b1 := Safe.ext E2 R31.1 S31_b1
  have S32_b2 := Safe.ext E2 R31.1 (Safe.new (Nat.le_of_eq g2.symm))
  have R32 := R31.trans (CHr.ext E2 R31.1)
  have S33_b1 := Safe.wr W10 S32_b2 R32.1 S32_b1
  have S33_b2 := Safe.wr W10 S32_b2 R32.1 S32_b2
  have R33 := R32.trans (CHr.wr W10 S32_b2 R32.1)
  have S34_b1 := Safe.wr W17 S33_b2 R33.1 S33_b1
  have S34_b2 := Safe.wr W17 S33_b2 R33.1 S33_b2
  have R34 := R33.trans (CHr.wr W17 S33_b2 R33.1)
  have S35_b1 := Safe.wr W24 S34_b2 R34.1 S34_b1
  have S35_b2 := Safe.wr W24 S34_b2 R34.1 S34_b2
  have R35 := R34.trans (CHr.wr W24 S34_b2 R34.1)
  have sq36 : ∀ x ∈ [b1], Safe Z consts_1 s.vm _ x := (sfS S35_b1 sf0)
  have S36_b1 := Safe.keep K25q sq36 R35.1 S35_b1
  have S36_b2 := Safe.keep K25q sq36 R35.1 S35_b2
  have S36_d25 := Safe.keep K25q sq36 R35.1 (Safe.new z_d25)
  have R36 := R35.trans (CHr.keep K25q sq36 R35.1)
  have hfin := R36.trans (CHv.at (s := s) (vm0 := s.vm) X25 hZ (own_EW hw) R36.1)
  obtain ⟨fs, hr, hrun, hended, hW, hsame⟩ := X25.leave (v := some (.ref b1)) (fun h => by rw [Bd.returns] at h; cases h)
  refine ⟨_, _, pre0 _ ?_, hrun, hended, _, _, rfl, ?_, (by rw [hh]; show CHr Z consts_1 s.vm h0 T25.vm T25.heap; exact hfin), ReturnedEndW.of_narrow ⟨_, rfl⟩ hW (hsame.mono (by decide) (by decide))⟩
  · refine XS.iloadN X0.here hx rfl (hb hby d1_0) rfl ?_
    refine XS.ifYes X0.here hx rfl (pc0 := 1) (pc' := 15) rfl (hb hby d1_1) rfl ((if0 _ _).trans (feq (by decide : ¬ ((3 : Int32) = (0 : Int32)))).2) (by decide) (by decide) ?_
    refine XS.iloadN X0.here hx rfl (hb hby d1_15) rfl ?_
    refine XS.iconst X0.here hx rfl (hb hby d1_16) ?_
    refine XS.icmpYes X0.here hx rfl (pc0 := 17) (pc' := 37) rfl (hb hby d1_17) rfl (feq (by decide : ¬ ((3 : Int32) = (1 : Int32)))).2 (by decide) (by decide) ?_
    refine XS.iloadN X0.here hx rfl (hb hby d1_37) rfl ?_
    show SA s₁ m 38 #[vR a1, vI 3] [iI 3]
    refine XS.iconst X0.here hx rfl (hb hby d1_38) ?_
    refine XS.icmpYes X0.here hx rfl (pc0 := 39) (pc' := 65) rfl (hb hby d1_39) rfl (feq (by decide : ¬ ((3 : Int32) = (2 : Int32)))).2 (by decide) (by decide) ?_
    refine XS.iloadN X0.here hx rfl (hb hby d1_65) rfl ?_
    refine XS.iconst X0.here hx rfl (hb hby d1_66) ?_
    refine XS.icmpNo X0.here hx rfl (hb hby d1_67) rfl (teq (by decide : (3 : Int32) = (3 : Int32))).2 ?_
    refine st1 _ ?_
    refine XS.dup X1.here hx rfl (hb hby d1_73) rfl rfl ?_
    refine XS.iconst X1.here hx rfl (hb hby d1_74) ?_
    refine st2 _ ?_
    refine XS.dup X2.here hx rfl (hb hby d1_77) rfl rfl ?_
    refine XS.iconst X2.here hx rfl (hb hby d1_78) ?_
    refine XS.aloadN X2.here hx rfl (hb hby d1_79) rfl rfl ?_
    refine XS.iconst X2.here hx rfl (hb hby d1_80) ?_
    refine X2.caload hx (j := 0) (v := (.int (CL.getD 0 0))) (by rw [e2]; exact Ar5.1) (State.isArrayOf_alike hZ.alike Ar5.2.1) Ar5.2.2 hin6 hat7 (g := (mkF m 81 #[vR a1, vI 3] [iI 0, iR a1, iI 0, iR b2, iR b2, iR b1, iR b1])) rfl rfl (hb hby d1_81) _ ?_
    refine st10 _ ?_
    refine XS.dup X10.here hx rfl (hb hby d1_83) rfl rfl ?_
    refine XS.iconst X10.here hx rfl (hb hby d1_84) ?_
    refine XS.aloadN X10.here hx rfl (hb hby d1_85) rfl rfl ?_
    refine XS.iconst X10.here hx rfl (hb hby d1_86) ?_
    refine X10.caload hx (j := 1) (v := (.int (CL.getD 1 0))) (by rw [e10]; exact Ar12.1) (State.isArrayOf_alike hZ.alike Ar12.2.1) Ar12.2.2 hin13 hat14 (g := (mkF m 87 #[vR a1, vI 3] [iI 1, iR a1, iI 1, iR b2, iR b2, iR b1, iR b1])) rfl rfl (hb hby d1_87) _ ?_
    refine st17 _ ?_
    refine XS.dup X17.here hx rfl (hb hby d1_89) rfl rfl ?_
    refine XS.iconst X17.here hx rfl (hb hby d1_90) ?_
    refine XS.aloadN X17.here hx rfl (hb hby d1_91) rfl rfl ?_
    refine XS.iconst X17.here hx rfl (hb hby d1_92) ?_
    refine X17.caload hx (j := 2) (v := (.int (CL.getD 2 0))) (by rw [e17]; exact Ar19.1) (State.isArrayOf_alike hZ.alike Ar19.2.1) Ar19.2.2 hin20 hat21 (g := (mkF m 93 #[vR a1, vI 3] [iI 2, iR a1, iI 2, iR b2, iR b2, iR b1, iR b1])) rfl rfl (hb hby d1_93) _ ?_
    refine st24 _ ?_
    refine st25.trans ?_
    show Steps _ _ _ (T25.setTop (mkF m 98 #[vR a1, vI 3] [iR b1])) _
    jvm_step X25.here [X25.here.top, hx, (hb hby d1_98), X25.method', Bd.returns, Value.isRef, FieldType.isReference]
    first | (intro acts; rw [hr _ acts rfl rfl rfl]) | rw [hr _ _ rfl rfl rfl]
    exact Steps.refl _
  · show Q1_3 Z a1 kc zc CL cs h0 n0 _ T25.heap _
    exact ⟨_, _, _, rfl, N25, K25, E25q, C25q, F25q, (by rw [own_tkE3 hl]; have q := V25q; rw [own_nc8 (own_get8 hok (i := 0) (by omega)), own_nc8 (own_get8 hok (i := 1) (by omega)), own_nc8 (own_get8 hok (i := 2) (by omega))] at q; exact q)⟩
theorem own_tkE4 {CL : List Int32} (h : 4 ≤ CL.length) : CL.take 4 = [CL.getD 0 0, CL.getD 1 0, CL.getD 2 0, CL.getD 3 0] := by
  match CL, h with
  | x0 :: x1 :: x2 :: x3 :: t, _ => rfl
theorem d1_99 : dk c1 99 (.iload_n 1) 1 := by decide +kernel
theorem d1_100 : dk c1 100 (.iconst 4) 1 := by decide +kernel
theorem d1_101 : dk c1 101 (.if_icmp .ne 38) 3 := by decide +kernel
theorem d1_104 : dk c1 104 (.new 35) 3 := by decide +kernel
theorem d1_107 : dk c1 107 .dup 1 := by decide +kernel
theorem d1_108 : dk c1 108 (.iconst 4) 1 := by decide +kernel
theorem d1_109 : dk c1 109 (.newarray .char) 2 := by decide +kernel
theorem d1_111 : dk c1 111 .dup 1 := by decide +kernel
theorem d1_112 : dk c1 112 (.iconst 0) 1 := by decide +kernel
theorem d1_113 : dk c1 113 (.aload_n 0) 1 := by decide +kernel
theorem d1_114 : dk c1 114 (.iconst 0) 1 := by decide +kernel
theorem d1_115 : dk c1 115 .caload 1 := by decide +kernel
theorem d1_116 : dk c1 116 .castore 1 := by decide +kernel
theorem d1_117 : dk c1 117 .dup 1 := by decide +kernel
theorem d1_118 : dk c1 118 (.iconst 1) 1 := by decide +kernel
theorem d1_119 : dk c1 119 (.aload_n 0) 1 := by decide +kernel
theorem d1_120 : dk c1 120 (.iconst 1) 1 := by decide +kernel
theorem d1_121 : dk c1 121 .caload 1 := by decide +kernel
theorem d1_122 : dk c1 122 .castore 1 := by decide +kernel
theorem d1_123 : dk c1 123 .dup 1 := by decide +kernel
theorem d1_124 : dk c1 124 (.iconst 2) 1 := by decide +kernel
theorem d1_125 : dk c1 125 (.aload_n 0) 1 := by decide +kernel
theorem d1_126 : dk c1 126 (.iconst 2) 1 := by decide +kernel
theorem d1_127 : dk c1 127 .caload 1 := by decide +kernel
theorem d1_128 : dk c1 128 .castore 1 := by decide +kernel
theorem d1_129 : dk c1 129 .dup 1 := by decide +kernel
theorem d1_130 : dk c1 130 (.iconst 3) 1 := by decide +kernel
theorem d1_131 : dk c1 131 (.aload_n 0) 1 := by decide +kernel
theorem d1_132 : dk c1 132 (.iconst 3) 1 := by decide +kernel
theorem d1_133 : dk c1 133 .caload 1 := by decide +kernel
theorem d1_134 : dk c1 134 .castore 1 := by decide +kernel
theorem d1_135 : dk c1 135 (.invokespecial 52) 3 := by decide +kernel
theorem d1_138 : dk c1 138 .areturn 1 := by decide +kernel
theorem ef_1_4 (m : MethodId) (x0 : Addr) : entryFrame m #[(.ref x0), (.int (4 : Int32))] 2 = mkF m 0 #[.val (.ref x0), .val (.int (4 : Int32))] [] := by first | (simp [entryFrame, mkF, argsToLocals, Value.category]; done) | rfl
def Q1_4 (Z : State) (a1 : Addr) (kc : ClassId) (zc : Int32) (CL : List Int32) (cs : Int32) (h0 : Heap) (n0 : Nat) (v : Option Value) (h : Heap) (L : List Loc) : Prop := ∃ (o d : Addr) (ko : ClassId), v = some (.ref o) ∧ Fr n0 L ∧ Keep h0 h [] ∧ ES Z h o ∧ FC Z h o ∧ FV Z h o d ∧ AB Z h d ko (4 : Int32) ((CL.take 4).map own_by)
theorem rm1_4 (l : Launch) (Z : State) (a0 : Array Value) (hw : HW a0 Z) (ws : List Jvm.Cond) (a1 : Addr) (kc : ClassId) (zc : Int32) (CL : List Int32) (cs : Int32) (h0 : Heap) (n0 : Nat) (Z0 : n0 ≤ h0.size) (O0 : Old Z n0 h0) (V_c : AC Z h0 a1 kc zc CL) (hzc : 4 ≤ zc.toInt) (hl : 4 ≤ CL.length) (hok : ∀ x ∈ CL, own_c8 x) (S_CS : SC Z cs) (h_cs : ¬ cs = (0 : Int32)) :
    MFh l mn_42 method_9_code 2 (some (.object "java/lang/String")) ws (Rm 4 6 16 66) #[(.ref a1), (.int (4 : Int32))] Z h0 (Q1_4 Z a1 kc zc CL cs h0 n0) := by
  refine MetFree.of_bodySF (plainFor_of_name pn_8) hisR ?_
  intro p e s m args below meth c s₁ Bd hml0 hP hK
  obtain ⟨rfl, hZ, hh, hC0⟩ := hP
  have hx := Bd.exec
  have hby := Bd.bytes
  have hml : c.maxLocals = 2 := hml0
  have hown := findClass_of_methodNamed Bd.named
  have X0 : Stand p l e (Rm 4 6 16 66) s m _ below meth c _ [] 0 0 := Stand.of_body Bd
  have e0 : s₁.heap = h0 := by rw [← hh, Bd.state]; rfl
  have R0 := CHr.refl hC0
  have N0 := Fr.nil n0
  have K0 := Keep.refl h0 []
  have pre0 := cast0 (p := p) (e := e) (below := below) (T := s₁) (ef_1_4 m a1)
  obtain ⟨T1, h1, X1, e1, E1, A1, D1, -, st1⟩ := newO X0 hx hZ hown (ww hw 5 rfl) (ww hw 6 rfl) (ww hw 7 rfl) e0 (g := (mkF m 104 #[vR a1, vI 4] [])) rfl (hb hby d1_104) (by decide) (by decide)
  obtain ⟨b1, g1⟩ : ∃ z, z = h0.size := ⟨_, rfl⟩
  rw [← g1] at A1 D1 st1
  have ne_a1_b1 := neB V_c.lt g1
  have sz_b1 := szB K0.1 g1
  have g_b1 := Nat.le_trans Z0 sz_b1
  have K1 := K0.ext E1
  have F_coder_b1 : FC Z h1 b1 := D1 (Or.inr (ww hw 31 rfl)) (ty := .byte) (by decide)
  have F_value_b1 : Fld Z h1 b1 "java/lang/String" "value" "[B" .null := D1 (Or.inr (ww hw 33 rfl)) (ty := (.array .byte)) (by decide)
  obtain ⟨T2, h2, k2, X2, e2, E2, A2, st2⟩ := newP X1 hx hZ (ww hw 0 rfl) e1 (g := (mkF m 109 #[vR a1, vI 4] [iI 4, iR b1, iR b1])) rfl (hb hby d1_109) rfl (by decide) (cap := 4) (by decide) (by decide) (by decide) (by decide)
  obtain ⟨b2, g2⟩ : ∃ z, z = h1.size := ⟨_, rfl⟩
  rw [← g2] at A2 st2
  have fk3 := (V_c.ext E1)
  have ne_a1_b2 := neB fk3.lt g2
  have ne_b1_b2 := neB A1.lt g2
  have sz_b2 := szB K1.1 g2
  have g_b2 := Nat.le_trans Z0 sz_b2
  have K2 := K1.ext E2
  have V2 : Arv Z h2 b2 k2 .char (4 : Int32) [(.int (0 : Int32)), (.int (0 : Int32)), (.int (0 : Int32)), (.int (0 : Int32))] (.int (0 : Int32)) := (Arv.new A2 (by decide)).pad (pad_rep [] (.int (0 : Int32)) 4)
  have fk4 := (fk3.ext E2)
  obtain ⟨cl5, Ar5, q5, S5, M5, H5, G5⟩ := id fk4
  have hin6 := inb_of (j := 0) S5 ⟨by decide, own_lt (by have e : (0 : Int32).toInt = 0 := rfl; omega)⟩
  have hat7 : cl5.slots[((0 : Int32)).toNatClampNeg]? = some (.int (CL.getD 0 0)) := Has.at H5 hin6 (own_bsget CL _)
  obtain ⟨cl8, Ar8, q8, S8, M8, H8, G8⟩ := id V2
  have hin9 := inb_of (j := 0) S8 ⟨by decide, by decide⟩
  obtain ⟨T10, h10, X10, e10, W10, st10⟩ := stC X2 hx hZ e2 Ar8 (j := 0) hin9 (g := (mkF m 116 #[vR a1, vI 4] [iI (CL.getD 0 0), iI 0, iR b2, iR b2, iR b1, iR b1])) rfl rfl (hb hby d1_116)
  have V10 : AC Z h10 b2 k2 (4 : Int32) [(nar .char (CL.getD 0 0)), 0, 0, 0] := Arv.set Ar8 q8 S8 M8 H8 G8 (fits_nar_char _) W10 0 rfl (Nat.le_of_ble_eq_true rfl)
  have K10 := K2.wr W10 (Or.inr sz_b2)
  have N10 := Fr.snoc X10 N0 g_b2
  have fk11 := (fk4.other W10 ne_a1_b2)
  obtain ⟨cl12, Ar12, q12, S12, M12, H12, G12⟩ := id fk11
  have hin13 := inb_of (j := 1) S12 ⟨by decide, own_lt (by have e : (1 : Int32).toInt = 1 := rfl; omega)⟩
  have hat14 : cl12.slots[((1 : Int32)).toNatClampNeg]? = some (.int (CL.getD 1 0)) := Has.at H12 hin13 (own_bsget CL _)
  obtain ⟨cl15, Ar15, q15, S15, M15, H15, G15⟩ := id V10
  have hin16 := inb_of (j := 1) S15 ⟨by decide, by decide⟩
  obtain ⟨T17, h17, X17, e17, W17, st17⟩ := stC X10 hx hZ e10 Ar15 (j := 1) hin16 (g := (mkF m 122 #[vR a1, vI 4] [iI (CL.getD 1 0), iI 1, iR b2, iR b2, iR b1, iR b1])) rfl rfl (hb hby d1_122)
  have V17 : AC Z h17 b2 k2 (4 : Int32) [(nar .char (CL.getD 0 0)), (nar .char (CL.getD 1 0)), 0, 0] := Arv.set Ar15 q15 S15 M15 H15 G15 (fits_nar_char _) W17 1 rfl (Nat.le_of_ble_eq_true rfl)
  have K17 := K10.wr W17 (Or.inr sz_b2)
  have N17 := Fr.snoc X17 N10 g_b2
  have fk18 := (fk11.other W17 ne_a1_b2)
  obtain ⟨cl19, Ar19, q19, S19, M19, H19, G19⟩ := id fk18
  have hin20 := inb_of (j := 2) S19 ⟨by decide, own_lt (by have e : (2 : Int32).toInt = 2 := rfl; omega)⟩
  have hat21 : cl19.slots[((2 : Int32)).toNatClampNeg]? = some (.int (CL.getD 2 0)) := Has.at H19 hin20 (own_bsget CL _)
  obtain ⟨cl22, Ar22, q22, S22, M22, H22, G22⟩ := id V17
  have hin23 := inb_of (j := 2) S22 ⟨by decide, by decide⟩
  obtain ⟨T24, h24, X24, e24, W24, st24⟩ := stC X17 hx hZ e17 Ar22 (j := 2) hin23 (g := (mkF m 128 #[vR a1, vI 4] [iI (CL.getD 2 0), iI 2, iR b2, iR b2, iR b1, iR b1])) rfl rfl (hb hby d1_128)
  have V24 : AC Z h24 b2 k2 (4 : Int32) [(nar .char (CL.getD 0 0)), (nar .char (CL.getD 1 0)), (nar .char (CL.getD 2 0)), 0] := Arv.set Ar22 q22 S22 M22 H22 G22 (fits_nar_char _) W24 2 rfl (Nat.le_of_ble_eq_true rfl)
  have K24 := K17.wr W24 (Or.inr sz_b2)
  have N24 := Fr.snoc X24 N17 g_b2
  have fk25 := (fk18.other W24 ne_a1_b2)
  obtain ⟨cl26, Ar26, q26, S26, M26, H26, G26⟩ := id fk25
  have hin27 := inb_of (j := 3) S26 ⟨by decide, own_lt (by have e : (3 : Int32).toInt = 3 := rfl; omega)⟩
  have hat28 : cl26.slots[((3 : Int32)).toNatClampNeg]? = some (.int (CL.getD 3 0)) := Has.at H26 hin27 (own_bsget CL _)
  obtain ⟨cl29, Ar29, q29, S29, M29, H29, G29⟩ := id V24
  have hin30 := inb_of (j := 3) S29 ⟨by decide, by decide⟩
  obtain ⟨T31, h31, X31, e31, W31, st31⟩ := stC X24 hx hZ e24 Ar29 (j := 3) hin30 (g := (mkF m 134 #[vR a1, vI 4] [iI (CL.getD 3 0), iI 3, iR b2, iR b2, iR b1, iR b1])) rfl rfl (hb hby d1_134)
  have V31 : AC Z h31 b2 k2 (4 : Int32) [(nar .char (CL.getD 0 0)), (nar .char (CL.getD 1 0)), (nar .char (CL.getD 2 0)), (nar .char (CL.getD 3 0))] := Arv.set Ar29 q29 S29 M29 H29 G29 (fits_nar_char _) W31 3 rfl (Nat.le_of_ble_eq_true rfl)
  have K31 := K24.wr W31 (Or.inr sz_b2)
  have N31 := Fr.snoc X31 N24 g_b2
  have fk33 := (((((A1.ext E2).wr W10).wr W17).wr W24).wr W31)
  have fk34 := (((((F_value_b1.ext E2).other W10 (Or.inl ne_b1_b2)).other W17 (Or.inl ne_b1_b2)).other W24 (Or.inl ne_b1_b2)).other W31 (Or.inl ne_b1_b2))
  have fk35 := (((((F_coder_b1.ext E2).other W10 (Or.inl ne_b1_b2)).other W17 (Or.inl ne_b1_b2)).other W24 (Or.inl ne_b1_b2)).other W31 (Or.inl ne_b1_b2))
  have Oh36 := O0.keep K31 all0
  obtain ⟨_, _, ⟨T32, L32, k32, n32⟩, -, X32, ⟨Lc32, hQ32, l32, y32, z32⟩, st32⟩ := X31.specialBack hx (y := mn_9) rfl hown (mw hZ hw 8 rfl) (mw hZ hw 9 rfl) (mw hZ hw 10 rfl) (by decide) (backOf (W := 1) (rm2 l Z a0 hw [] b1 b2 (4 : Int32) k2 [(nar .char (CL.getD 0 0)), (nar .char (CL.getD 1 0)), (nar .char (CL.getD 2 0)), (nar .char (CL.getD 3 0))] cs h31 n0 (Nat.le_trans Z0 K31.1) Oh36 fk33 g_b1 fk34 fk35 V31 ne_b1_b2 rfl (by intro x hx; simp only [List.mem_cons, List.not_mem_nil, or_false] at hx; rcases hx with rfl | rfl | rfl | rfl <;> exact own_ncc (own_get8 hok (by omega))) ⟨by decide, by decide⟩ S_CS h_cs) hZ (ww hw 10 rfl) (ww hw 7 rfl) (by decide) (by decide)) (g := (mkF m 135 #[vR a1, vI 4] [iR b2, iR b1, iR b1])) rfl (by rw [hml]; rfl) (Steps.refl _) (a := b1) (argsL := [(.ref b2)]) (rest := [(.ref b1)]) (lenOf pd_31 rfl) rfl (wz rfl) (hb hby d1_135) (fun _ _ => ⟨rfl, e31, (by decide : 2 + 1 ≤ _), (by decide : 8 + 6 ≤ _)⟩)
  dsimp only [Pt.U, Pt.locs, Pt.cells, Pt.slots] at X32 l32 y32 z32 st32 hQ32
  subst l32 y32 z32
  obtain ⟨d32, kd32, rfl, N32q, K32q, E32q, C32q, F32q, V32q, z_d32⟩ := hQ32
  have fk37 := (fk25.other W31 ne_a1_b2)
  have ne_a1_d32 := neC fk37.lt z_d32
  have ne_b1_d32 := neC fk33.lt z_d32
  have ne_b2_d32 := neC V31.lt z_d32
  have sz_d32 := Nat.le_trans K31.1 z_d32
  have g_d32 := Nat.le_trans Z0 sz_d32
  have N32 := Fr.app N31 N32q
  have K32 : Keep h0 T32.heap [] := Keep.trans K31 K32q (allS (Or.inr sz_b1) all0)
  have S38_b1 := Safe.ext E1 R0.1 (Safe.new (Nat.le_of_eq g1.symm))
  have R38 := R0.trans (CHr.ext E1 R0.1)
  have S39_b1 := Safe.ext E2 R38.1 S38_b1
  have S39_b2 := Safe.ext E2 R38.1 (Safe.new (Nat.le_of_eq g2.symm))
  have R39 := R38.trans (CHr.ext E2 R38.1)
  have S40_b1 := Safe.wr W10 S39_b2 R39.1 S39_b1
  have S40_b2 := Safe.wr W10 S39_b2 R39.1 S39_b2
  have R40 := R39.trans (CHr.wr W10 S39_b2 R39.1)
  have S41_b1 := Safe.wr W17 S40_b2 R40.1 S40_b1
  have S41_b2 := Safe.wr W17 S40_b2 R40.1 S40_b2
  have R41 := R40.trans (CHr.wr W17 S40_b2 R40.1)
  have S42_b1 := Safe.wr W24 S41_b2 R41.1 S41_b1
  have S42_b2 := Safe.wr W24 S41_b2 R41.1 S41_b2
  have R42 := R41.trans (CHr.wr W24 S41_b2 R41.1)
  have S43_b1 := Safe.wr W31 S42_b2 R42.1 S42_b1
  have S43_b2 := Safe.wr W31 S42_b2 R42.1 S42_b2
  have R43 := R42.trans (CHr.wr W31 S42_b2 R42.1)
  have sq44 : ∀ x ∈ [b1], Safe Z consts_1 s.vm _ x := (sfS S43_b1 sf0)
  have S44_b1 := Safe.keep K32q sq44 R43.1 S43_b1
  have S44_b2 := Safe.keep K32q sq44 R43.1 S43_b2
  have S44_d32 := Safe.keep K32q sq44 R43.1 (Safe.new z_d32)
  have R44 := R43.trans (CHr.keep K32q sq44 R43.1)
  have hfin := R44.trans (CHv.at (s := s) (vm0 := s.vm) X32 hZ (own_EW hw) R44.1)
  obtain ⟨fs, hr, hrun, hended, hW, hsame⟩ := X32.leave (v := some (.ref b1)) (fun h => by rw [Bd.returns] at h; cases h)
  refine ⟨_, _, pre0 _ ?_, hrun, hended, _, _, rfl, ?_, (by rw [hh]; show CHr Z consts_1 s.vm h0 T32.vm T32.heap; exact hfin), ReturnedEndW.of_narrow ⟨_, rfl⟩ hW (hsame.mono (by decide) (by decide))⟩
  · refine XS.iloadN X0.here hx rfl (hb hby d1_0) rfl ?_
    refine XS.ifYes X0.here hx rfl (pc0 := 1) (pc' := 15) rfl (hb hby d1_1) rfl ((if0 _ _).trans (feq (by decide : ¬ ((4 : Int32) = (0 : Int32)))).2) (by decide) (by decide) ?_
    refine XS.iloadN X0.here hx rfl (hb hby d1_15) rfl ?_
    refine XS.iconst X0.here hx rfl (hb hby d1_16) ?_
    refine XS.icmpYes X0.here hx rfl (pc0 := 17) (pc' := 37) rfl (hb hby d1_17) rfl (feq (by decide : ¬ ((4 : Int32) = (1 : Int32)))).2 (by decide) (by decide) ?_
    refine XS.iloadN X0.here hx rfl (hb hby d1_37) rfl ?_
    show SA s₁ m 38 #[vR a1, vI 4] [iI 4]
    refine XS.iconst X0.here hx rfl (hb hby d1_38) ?_
    refine XS.icmpYes X0.here hx rfl (pc0 := 39) (pc' := 65) rfl (hb hby d1_39) rfl (feq (by decide : ¬ ((4 : Int32) = (2 : Int32)))).2 (by decide) (by decide) ?_
    refine XS.iloadN X0.here hx rfl (hb hby d1_65) rfl ?_
    refine XS.iconst X0.here hx rfl (hb hby d1_66) ?_
    refine XS.icmpYes X0.here hx rfl (pc0 := 67) (pc' := 99) rfl (hb hby d1_67) rfl (feq (by decide : ¬ ((4 : Int32) = (3 : Int32)))).2 (by decide) (by decide) ?_
    refine XS.iloadN X0.here hx rfl (hb hby d1_99) rfl ?_
    refine XS.iconst X0.here hx rfl (hb hby d1_100) ?_
    refine XS.icmpNo X0.here hx rfl (hb hby d1_101) rfl (teq (by decide : (4 : Int32) = (4 : Int32))).2 ?_
    show SA s₁ m 104 #[vR a1, vI 4] []
    refine st1 _ ?_
    refine XS.dup X1.here hx rfl (hb hby d1_107) rfl rfl ?_
    refine XS.iconst X1.here hx rfl (hb hby d1_108) ?_
    refine st2 _ ?_
    refine XS.dup X2.here hx rfl (hb hby d1_111) rfl rfl ?_
    refine XS.iconst X2.here hx rfl (hb hby d1_112) ?_
    refine XS.aloadN X2.here hx rfl (hb hby d1_113) rfl rfl ?_
    refine XS.iconst X2.here hx rfl (hb hby d1_114) ?_
    refine X2.caload hx (j := 0) (v := (.int (CL.getD 0 0))) (by rw [e2]; exact Ar5.1) (State.isArrayOf_alike hZ.alike Ar5.2.1) Ar5.2.2 hin6 hat7 (g := (mkF m 115 #[vR a1, vI 4] [iI 0, iR a1, iI 0, iR b2, iR b2, iR b1, iR b1])) rfl rfl (hb hby d1_115) _ ?_
    refine st10 _ ?_
    refine XS.dup X10.here hx rfl (hb hby d1_117) rfl rfl ?_
    refine XS.iconst X10.here hx rfl (hb hby d1_118) ?_
    refine XS.aloadN X10.here hx rfl (hb hby d1_119) rfl rfl ?_
    refine XS.iconst X10.here hx rfl (hb hby d1_120) ?_
    refine X10.caload hx (j := 1) (v := (.int (CL.getD 1 0))) (by rw [e10]; exact Ar12.1) (State.isArrayOf_alike hZ.alike Ar12.2.1) Ar12.2.2 hin13 hat14 (g := (mkF m 121 #[vR a1, vI 4] [iI 1, iR a1, iI 1, iR b2, iR b2, iR b1, iR b1])) rfl rfl (hb hby d1_121) _ ?_
    refine st17 _ ?_
    refine XS.dup X17.here hx rfl (hb hby d1_123) rfl rfl ?_
    refine XS.iconst X17.here hx rfl (hb hby d1_124) ?_
    refine XS.aloadN X17.here hx rfl (hb hby d1_125) rfl rfl ?_
    refine XS.iconst X17.here hx rfl (hb hby d1_126) ?_
    refine X17.caload hx (j := 2) (v := (.int (CL.getD 2 0))) (by rw [e17]; exact Ar19.1) (State.isArrayOf_alike hZ.alike Ar19.2.1) Ar19.2.2 hin20 hat21 (g := (mkF m 127 #[vR a1, vI 4] [iI 2, iR a1, iI 2, iR b2, iR b2, iR b1, iR b1])) rfl rfl (hb hby d1_127) _ ?_
    refine st24 _ ?_
    refine XS.dup X24.here hx rfl (hb hby d1_129) rfl rfl ?_
    refine XS.iconst X24.here hx rfl (hb hby d1_130) ?_
    refine XS.aloadN X24.here hx rfl (hb hby d1_131) rfl rfl ?_
    refine XS.iconst X24.here hx rfl (hb hby d1_132) ?_
    refine X24.caload hx (j := 3) (v := (.int (CL.getD 3 0))) (by rw [e24]; exact Ar26.1) (State.isArrayOf_alike hZ.alike Ar26.2.1) Ar26.2.2 hin27 hat28 (g := (mkF m 133 #[vR a1, vI 4] [iI 3, iR a1, iI 3, iR b2, iR b2, iR b1, iR b1])) rfl rfl (hb hby d1_133) _ ?_
    refine st31 _ ?_
    refine st32.trans ?_
    show Steps _ _ _ (T32.setTop (mkF m 138 #[vR a1, vI 4] [iR b1])) _
    jvm_step X32.here [X32.here.top, hx, (hb hby d1_138), X32.method', Bd.returns, Value.isRef, FieldType.isReference]
    first | (intro acts; rw [hr _ acts rfl rfl rfl]) | rw [hr _ _ rfl rfl rfl]
    exact Steps.refl _
  · show Q1_4 Z a1 kc zc CL cs h0 n0 _ T32.heap _
    exact ⟨_, _, _, rfl, N32, K32, E32q, C32q, F32q, (by rw [own_tkE4 hl]; have q := V32q; rw [own_nc8 (own_get8 hok (i := 0) (by omega)), own_nc8 (own_get8 hok (i := 1) (by omega)), own_nc8 (own_get8 hok (i := 2) (by omega)), own_nc8 (own_get8 hok (i := 3) (by omega))] at q; exact q)⟩
theorem own_tkE5 {CL : List Int32} (h : 5 ≤ CL.length) : CL.take 5 = [CL.getD 0 0, CL.getD 1 0, CL.getD 2 0, CL.getD 3 0, CL.getD 4 0] := by
  match CL, h with
  | x0 :: x1 :: x2 :: x3 :: x4 :: t, _ => rfl
theorem d1_139 : dk c1 139 (.iload_n 1) 1 := by decide +kernel
theorem d1_140 : dk c1 140 (.iconst 5) 1 := by decide +kernel
theorem d1_141 : dk c1 141 (.if_icmp .ne 44) 3 := by decide +kernel
theorem d1_144 : dk c1 144 (.new 35) 3 := by decide +kernel
theorem d1_147 : dk c1 147 .dup 1 := by decide +kernel
theorem d1_148 : dk c1 148 (.iconst 5) 1 := by decide +kernel
theorem d1_149 : dk c1 149 (.newarray .char) 2 := by decide +kernel
theorem d1_151 : dk c1 151 .dup 1 := by decide +kernel
theorem d1_152 : dk c1 152 (.iconst 0) 1 := by decide +kernel
theorem d1_153 : dk c1 153 (.aload_n 0) 1 := by decide +kernel
theorem d1_154 : dk c1 154 (.iconst 0) 1 := by decide +kernel
theorem d1_155 : dk c1 155 .caload 1 := by decide +kernel
theorem d1_156 : dk c1 156 .castore 1 := by decide +kernel
theorem d1_157 : dk c1 157 .dup 1 := by decide +kernel
theorem d1_158 : dk c1 158 (.iconst 1) 1 := by decide +kernel
theorem d1_159 : dk c1 159 (.aload_n 0) 1 := by decide +kernel
theorem d1_160 : dk c1 160 (.iconst 1) 1 := by decide +kernel
theorem d1_161 : dk c1 161 .caload 1 := by decide +kernel
theorem d1_162 : dk c1 162 .castore 1 := by decide +kernel
theorem d1_163 : dk c1 163 .dup 1 := by decide +kernel
theorem d1_164 : dk c1 164 (.iconst 2) 1 := by decide +kernel
theorem d1_165 : dk c1 165 (.aload_n 0) 1 := by decide +kernel
theorem d1_166 : dk c1 166 (.iconst 2) 1 := by decide +kernel
theorem d1_167 : dk c1 167 .caload 1 := by decide +kernel
theorem d1_168 : dk c1 168 .castore 1 := by decide +kernel
theorem d1_169 : dk c1 169 .dup 1 := by decide +kernel
theorem d1_170 : dk c1 170 (.iconst 3) 1 := by decide +kernel
theorem d1_171 : dk c1 171 (.aload_n 0) 1 := by decide +kernel
theorem d1_172 : dk c1 172 (.iconst 3) 1 := by decide +kernel
theorem d1_173 : dk c1 173 .caload 1 := by decide +kernel
theorem d1_174 : dk c1 174 .castore 1 := by decide +kernel
theorem d1_175 : dk c1 175 .dup 1 := by decide +kernel
theorem d1_176 : dk c1 176 (.iconst 4) 1 := by decide +kernel
theorem d1_177 : dk c1 177 (.aload_n 0) 1 := by decide +kernel
theorem d1_178 : dk c1 178 (.iconst 4) 1 := by decide +kernel
theorem d1_179 : dk c1 179 .caload 1 := by decide +kernel
theorem d1_180 : dk c1 180 .castore 1 := by decide +kernel
theorem d1_181 : dk c1 181 (.invokespecial 52) 3 := by decide +kernel
theorem d1_184 : dk c1 184 .areturn 1 := by decide +kernel
theorem ef_1_5 (m : MethodId) (x0 : Addr) : entryFrame m #[(.ref x0), (.int (5 : Int32))] 2 = mkF m 0 #[.val (.ref x0), .val (.int (5 : Int32))] [] := by first | (simp [entryFrame, mkF, argsToLocals, Value.category]; done) | rfl
def Q1_5 (Z : State) (a1 : Addr) (kc : ClassId) (zc : Int32) (CL : List Int32) (cs : Int32) (h0 : Heap) (n0 : Nat) (v : Option Value) (h : Heap) (L : List Loc) : Prop := ∃ (o d : Addr) (ko : ClassId), v = some (.ref o) ∧ Fr n0 L ∧ Keep h0 h [] ∧ ES Z h o ∧ FC Z h o ∧ FV Z h o d ∧ AB Z h d ko (5 : Int32) ((CL.take 5).map own_by)
theorem rm1_5 (l : Launch) (Z : State) (a0 : Array Value) (hw : HW a0 Z) (ws : List Jvm.Cond) (a1 : Addr) (kc : ClassId) (zc : Int32) (CL : List Int32) (cs : Int32) (h0 : Heap) (n0 : Nat) (Z0 : n0 ≤ h0.size) (O0 : Old Z n0 h0) (V_c : AC Z h0 a1 kc zc CL) (hzc : 5 ≤ zc.toInt) (hl : 5 ≤ CL.length) (hok : ∀ x ∈ CL, own_c8 x) (S_CS : SC Z cs) (h_cs : ¬ cs = (0 : Int32)) :
    MFh l mn_42 method_9_code 2 (some (.object "java/lang/String")) ws (Rm 4 6 16 66) #[(.ref a1), (.int (5 : Int32))] Z h0 (Q1_5 Z a1 kc zc CL cs h0 n0) := by
  refine MetFree.of_bodySF (plainFor_of_name pn_8) hisR ?_
  intro p e s m args below meth c s₁ Bd hml0 hP hK
  obtain ⟨rfl, hZ, hh, hC0⟩ := hP
  have hx := Bd.exec
  have hby := Bd.bytes
  have hml : c.maxLocals = 2 := hml0
  have hown := findClass_of_methodNamed Bd.named
  have X0 : Stand p l e (Rm 4 6 16 66) s m _ below meth c _ [] 0 0 := Stand.of_body Bd
  have e0 : s₁.heap = h0 := by rw [← hh, Bd.state]; rfl
  have R0 := CHr.refl hC0
  have N0 := Fr.nil n0
  have K0 := Keep.refl h0 []
  have pre0 := cast0 (p := p) (e := e) (below := below) (T := s₁) (ef_1_5 m a1)
  obtain ⟨T1, h1, X1, e1, E1, A1, D1, -, st1⟩ := newO X0 hx hZ hown (ww hw 5 rfl) (ww hw 6 rfl) (ww hw 7 rfl) e0 (g := (mkF m 144 #[vR a1, vI 5] [])) rfl (hb hby d1_144) (by decide) (by decide)
  obtain ⟨b1, g1⟩ : ∃ z, z = h0.size := ⟨_, rfl⟩
  rw [← g1] at A1 D1 st1
  have ne_a1_b1 := neB V_c.lt g1
  have sz_b1 := szB K0.1 g1
  have g_b1 := Nat.le_trans Z0 sz_b1
  have K1 := K0.ext E1
  have F_coder_b1 : FC Z h1 b1 := D1 (Or.inr (ww hw 31 rfl)) (ty := .byte) (by decide)
  have F_value_b1 : Fld Z h1 b1 "java/lang/String" "value" "[B" .null := D1 (Or.inr (ww hw 33 rfl)) (ty := (.array .byte)) (by decide)
  obtain ⟨T2, h2, k2, X2, e2, E2, A2, st2⟩ := newP X1 hx hZ (ww hw 0 rfl) e1 (g := (mkF m 149 #[vR a1, vI 5] [iI 5, iR b1, iR b1])) rfl (hb hby d1_149) rfl (by decide) (cap := 5) (by decide) (by decide) (by decide) (by decide)
  obtain ⟨b2, g2⟩ : ∃ z, z = h1.size := ⟨_, rfl⟩
  rw [← g2] at A2 st2
  have fk3 := (V_c.ext E1)
  have ne_a1_b2 := neB fk3.lt g2
  have ne_b1_b2 := neB A1.lt g2
  have sz_b2 := szB K1.1 g2
  have g_b2 := Nat.le_trans Z0 sz_b2
  have K2 := K1.ext E2
  have V2 : Arv Z h2 b2 k2 .char (5 : Int32) [(.int (0 : Int32)), (.int (0 : Int32)), (.int (0 : Int32)), (.int (0 : Int32)), (.int (0 : Int32))] (.int (0 : Int32)) := (Arv.new A2 (by decide)).pad (pad_rep [] (.int (0 : Int32)) 5)
  have fk4 := (fk3.ext E2)
  obtain ⟨cl5, Ar5, q5, S5, M5, H5, G5⟩ := id fk4
  have hin6 := inb_of (j := 0) S5 ⟨by decide, own_lt (by have e : (0 : Int32).toInt = 0 := rfl; omega)⟩
  have hat7 : cl5.slots[((0 : Int32)).toNatClampNeg]? = some (.int (CL.getD 0 0)) := Has.at H5 hin6 (own_bsget CL _)
  obtain ⟨cl8, Ar8, q8, S8, M8, H8, G8⟩ := id V2
  have hin9 := inb_of (j := 0) S8 ⟨by decide, by decide⟩
  obtain ⟨T10, h10, X10, e10, W10, st10⟩ := stC X2 hx hZ e2 Ar8 (j := 0) hin9 (g := (mkF m 156 #[vR a1, vI 5] [iI (CL.getD 0 0), iI 0, iR b2, iR b2, iR b1, iR b1])) rfl rfl (hb hby d1_156)
  have V10 : AC Z h10 b2 k2 (5 : Int32) [(nar .char (CL.getD 0 0)), 0, 0, 0, 0] := Arv.set Ar8 q8 S8 M8 H8 G8 (fits_nar_char _) W10 0 rfl (Nat.le_of_ble_eq_true rfl)
  have K10 := K2.wr W10 (Or.inr sz_b2)
  have N10 := Fr.snoc X10 N0 g_b2
  have fk11 := (fk4.other W10 ne_a1_b2)
  obtain ⟨cl12, Ar12, q12, S12, M12, H12, G12⟩ := id fk11
  have hin13 := inb_of (j := 1) S12 ⟨by decide, own_lt (by have e : (1 : Int32).toInt = 1 := rfl; omega)⟩
  have hat14 : cl12.slots[((1 : Int32)).toNatClampNeg]? = some (.int (CL.getD 1 0)) := Has.at H12 hin13 (own_bsget CL _)
  obtain ⟨cl15, Ar15, q15, S15, M15, H15, G15⟩ := id V10
  have hin16 := inb_of (j := 1) S15 ⟨by decide, by decide⟩
  obtain ⟨T17, h17, X17, e17, W17, st17⟩ := stC X10 hx hZ e10 Ar15 (j := 1) hin16 (g := (mkF m 162 #[vR a1, vI 5] [iI (CL.getD 1 0), iI 1, iR b2, iR b2, iR b1, iR b1])) rfl rfl (hb hby d1_162)
  have V17 : AC Z h17 b2 k2 (5 : Int32) [(nar .char (CL.getD 0 0)), (nar .char (CL.getD 1 0)), 0, 0, 0] := Arv.set Ar15 q15 S15 M15 H15 G15 (fits_nar_char _) W17 1 rfl (Nat.le_of_ble_eq_true rfl)
  have K17 := K10.wr W17 (Or.inr sz_b2)
  have N17 := Fr.snoc X17 N10 g_b2
  have fk18 := (fk11.other W17 ne_a1_b2)
  obtain ⟨cl19, Ar19, q19, S19, M19, H19, G19⟩ := id fk18
  have hin20 := inb_of (j := 2) S19 ⟨by decide, own_lt (by have e : (2 : Int32).toInt = 2 := rfl; omega)⟩
  have hat21 : cl19.slots[((2 : Int32)).toNatClampNeg]? = some (.int (CL.getD 2 0)) := Has.at H19 hin20 (own_bsget CL _)
  obtain ⟨cl22, Ar22, q22, S22, M22, H22, G22⟩ := id V17
  have hin23 := inb_of (j := 2) S22 ⟨by decide, by decide⟩
  obtain ⟨T24, h24, X24, e24, W24, st24⟩ := stC X17 hx hZ e17 Ar22 (j := 2) hin23 (g := (mkF m 168 #[vR a1, vI 5] [iI (CL.getD 2 0), iI 2, iR b2, iR b2, iR b1, iR b1])) rfl rfl (hb hby d1_168)
  have V24 : AC Z h24 b2 k2 (5 : Int32) [(nar .char (CL.getD 0 0)), (nar .char (CL.getD 1 0)), (nar .char (CL.getD 2 0)), 0, 0] := Arv.set Ar22 q22 S22 M22 H22 G22 (fits_nar_char _) W24 2 rfl (Nat.le_of_ble_eq_true rfl)
  have K24 := K17.wr W24 (Or.inr sz_b2)
  have N24 := Fr.snoc X24 N17 g_b2
  have fk25 := (fk18.other W24 ne_a1_b2)
  obtain ⟨cl26, Ar26, q26, S26, M26, H26, G26⟩ := id fk25
  have hin27 := inb_of (j := 3) S26 ⟨by decide, own_lt (by have e : (3 : Int32).toInt = 3 := rfl; omega)⟩
  have hat28 : cl26.slots[((3 : Int32)).toNatClampNeg]? = some (.int (CL.getD 3 0)) := Has.at H26 hin27 (own_bsget CL _)
  obtain ⟨cl29, Ar29, q29, S29, M29, H29, G29⟩ := id V24
  have hin30 := inb_of (j := 3) S29 ⟨by decide, by decide⟩
  obtain ⟨T31, h31, X31, e31, W31, st31⟩ := stC X24 hx hZ e24 Ar29 (j := 3) hin30 (g := (mkF m 174 #[vR a1, vI 5] [iI (CL.getD 3 0), iI 3, iR b2, iR b2, iR b1, iR b1])) rfl rfl (hb hby d1_174)
  have V31 : AC Z h31 b2 k2 (5 : Int32) [(nar .char (CL.getD 0 0)), (nar .char (CL.getD 1 0)), (nar .char (CL.getD 2 0)), (nar .char (CL.getD 3 0)), 0] := Arv.set Ar29 q29 S29 M29 H29 G29 (fits_nar_char _) W31 3 rfl (Nat.le_of_ble_eq_true rfl)
  have K31 := K24.wr W31 (Or.inr sz_b2)
  have N31 := Fr.snoc X31 N24 g_b2
  have fk32 := (fk25.other W31 ne_a1_b2)
  obtain ⟨cl33, Ar33, q33, S33, M33, H33, G33⟩ := id fk32
  have hin34 := inb_of (j := 4) S33 ⟨by decide, own_lt (by have e : (4 : Int32).toInt = 4 := rfl; omega)⟩
  have hat35 : cl33.slots[((4 : Int32)).toNatClampNeg]? = some (.int (CL.getD 4 0)) := Has.at H33 hin34 (own_bsget CL _)
  obtain ⟨cl36, Ar36, q36, S36, M36, H36, G36⟩ := id V31
  have hin37 := inb_of (j := 4) S36 ⟨by decide, by decide⟩
  obtain ⟨T38, h38, X38, e38, W38, st38⟩ := stC X31 hx hZ e31 Ar36 (j := 4) hin37 (g := (mkF m 180 #[vR a1, vI 5] [iI (CL.getD 4 0), iI 4, iR b2, iR b2, iR b1, iR b1])) rfl rfl (hb hby d1_180)
  have V38 : AC Z h38 b2 k2 (5 : Int32) [(nar .char (CL.getD 0 0)), (nar .char (CL.getD 1 0)), (nar .char (CL.getD 2 0)), (nar .char (CL.getD 3 0)), (nar .char (CL.getD 4 0))] := Arv.set Ar36 q36 S36 M36 H36 G36 (fits_nar_char _) W38 4 rfl (Nat.le_of_ble_eq_true rfl)
  have K38 := K31.wr W38 (Or.inr sz_b2)
  have N38 := Fr.snoc X38 N31 g_b2
  have fk40 := ((((((A1.ext E2).wr W10).wr W17).wr W24).wr W31).wr W38)
  have fk41 := ((((((F_value_b1.ext E2).other W10 (Or.inl ne_b1_b2)).other W17 (Or.inl ne_b1_b2)).other W24 (Or.inl ne_b1_b2)).other W31 (Or.inl ne_b1_b2)).other W38 (Or.inl ne_b1_b2))
  have fk42 := ((((((F_coder_b1.ext E2).other W10 (Or.inl ne_b1_b2)).other W17 (Or.inl ne_b1_b2)).other W24 (Or.inl ne_b1_b2)).other W31 (Or.inl ne_b1_b2)).other W38 (Or.inl ne_b1_b2))
  have Oh43 := O0.keep K38 all0
  obtain ⟨_, _, ⟨T39, L39, k39, n39⟩, -, X39, ⟨Lc39, hQ39, l39, y39, z39⟩, st39⟩ := X38.specialBack hx (y := mn_9) rfl hown (mw hZ hw 8 rfl) (mw hZ hw 9 rfl) (mw hZ hw 10 rfl) (by decide) (backOf (W := 1) (rm2 l Z a0 hw [] b1 b2 (5 : Int32) k2 [(nar .char (CL.getD 0 0)), (nar .char (CL.getD 1 0)), (nar .char (CL.getD 2 0)), (nar .char (CL.getD 3 0)), (nar .char (CL.getD 4 0))] cs h38 n0 (Nat.le_trans Z0 K38.1) Oh43 fk40 g_b1 fk41 fk42 V38 ne_b1_b2 rfl (by intro x hx; simp only [List.mem_cons, List.not_mem_nil, or_false] at hx; rcases hx with rfl | rfl | rfl | rfl | rfl <;> exact own_ncc (own_get8 hok (by omega))) ⟨by decide, by decide⟩ S_CS h_cs) hZ (ww hw 10 rfl) (ww hw 7 rfl) (by decide) (by decide)) (g := (mkF m 181 #[vR a1, vI 5] [iR b2, iR b1, iR b1])) rfl (by rw [hml]; rfl) (Steps.refl _) (a := b1) (argsL := [(.ref b2)]) (rest := [(.ref b1)]) (lenOf pd_31 rfl) rfl (wz rfl) (hb hby d1_181) (fun _ _ => ⟨rfl, e38, (by decide : 2 + 1 ≤ _), (by decide : 9 + 6 ≤ _)⟩)
  dsimp only [Pt.U, Pt.locs, Pt.cells, Pt.slots] at X39 l39 y39 z39 st39 hQ39
  subst l39 y39 z39
  obtain ⟨d39, kd39, rfl, N39q, K39q, E39q, C39q, F39q, V39q, z_d39⟩ := hQ39
  have fk44 := (fk32.other W38 ne_a1_b2)
  have ne_a1_d39 := neC fk44.lt z_d39
  have ne_b1_d39 := neC fk40.lt z_d39
  have ne_b2_d39 := neC V38.lt z_d39
  have sz_d39 := Nat.le_trans K38.1 z_d39
  have g_d39 := Nat.le_trans Z0 sz_d39
  have N39 := Fr.app N38 N39q
  have K39 : Keep h0 T39.heap [] := Keep.trans K38 K39q (allS (Or.inr sz_b1) all0)
  have S45_b1 := Safe.ext E1 R0.1 (Safe.new (Nat.le_of_eq g1.symm))
  have R45 := R0.trans (CHr.ext E1 R0.1)
  have S46_b1 := Safe.ext E2 R45.1 S45_b1
  have S46_b2 := Safe.ext E2 R45.1 (Safe.new (Nat.le_of_eq g2.symm))
  have R46 := R45.trans (CHr.ext E2 R45.1)
  have S47_b1 := Safe.wr W10 S46_b2 R46.1 S46_b1
  have S47_b2 := Safe.wr W10 S46_b2 R46.1 S46_b2
  have R47 := R46.trans (CHr.wr W10 S46_b2 R46.1)
  have S48_b1 := Safe.wr W17 S47_b2 R47.1 S47_b1
  have S48_b2 := Safe.wr W17 S47_b2 R47.1 S47_b2
  have R48 := R47.trans (CHr.wr W17 S47_b2 R47.1)
  have S49_b1 := Safe.wr W24 S48_b2 R48.1 S48_b1
  have S49_b2 := Safe.wr W24 S48_b2 R48.1 S48_b2
  have R49 := R48.trans (CHr.wr W24 S48_b2 R48.1)
  have S50_b1 := Safe.wr W31 S49_b2 R49.1 S49_b1
  have S50_b2 := Safe.wr W31 S49_b2 R49.1 S49_b2
  have R50 := R49.trans (CHr.wr W31 S49_b2 R49.1)
  have S51_b1 := Safe.wr W38 S50_b2 R50.1 S50_b1
  have S51_b2 := Safe.wr W38 S50_b2 R50.1 S50_b2
  have R51 := R50.trans (CHr.wr W38 S50_b2 R50.1)
  have sq52 : ∀ x ∈ [b1], Safe Z consts_1 s.vm _ x := (sfS S51_b1 sf0)
  have S52_b1 := Safe.keep K39q sq52 R51.1 S51_b1
  have S52_b2 := Safe.keep K39q sq52 R51.1 S51_b2
  have S52_d39 := Safe.keep K39q sq52 R51.1 (Safe.new z_d39)
  have R52 := R51.trans (CHr.keep K39q sq52 R51.1)
  have hfin := R52.trans (CHv.at (s := s) (vm0 := s.vm) X39 hZ (own_EW hw) R52.1)
  obtain ⟨fs, hr, hrun, hended, hW, hsame⟩ := X39.leave (v := some (.ref b1)) (fun h => by rw [Bd.returns] at h; cases h)
  refine ⟨_, _, pre0 _ ?_, hrun, hended, _, _, rfl, ?_, (by rw [hh]; show CHr Z consts_1 s.vm h0 T39.vm T39.heap; exact hfin), ReturnedEndW.of_narrow ⟨_, rfl⟩ hW (hsame.mono (by decide) (by decide))⟩
  · refine XS.iloadN X0.here hx rfl (hb hby d1_0) rfl ?_
    refine XS.ifYes X0.here hx rfl (pc0 := 1) (pc' := 15) rfl (hb hby d1_1) rfl ((if0 _ _).trans (feq (by decide : ¬ ((5 : Int32) = (0 : Int32)))).2) (by decide) (by decide) ?_
    refine XS.iloadN X0.here hx rfl (hb hby d1_15) rfl ?_
    refine XS.iconst X0.here hx rfl (hb hby d1_16) ?_
    refine XS.icmpYes X0.here hx rfl (pc0 := 17) (pc' := 37) rfl (hb hby d1_17) rfl (feq (by decide : ¬ ((5 : Int32) = (1 : Int32)))).2 (by decide) (by decide) ?_
    refine XS.iloadN X0.here hx rfl (hb hby d1_37) rfl ?_
    show SA s₁ m 38 #[vR a1, vI 5] [iI 5]
    refine XS.iconst X0.here hx rfl (hb hby d1_38) ?_
    refine XS.icmpYes X0.here hx rfl (pc0 := 39) (pc' := 65) rfl (hb hby d1_39) rfl (feq (by decide : ¬ ((5 : Int32) = (2 : Int32)))).2 (by decide) (by decide) ?_
    refine XS.iloadN X0.here hx rfl (hb hby d1_65) rfl ?_
    refine XS.iconst X0.here hx rfl (hb hby d1_66) ?_
    refine XS.icmpYes X0.here hx rfl (pc0 := 67) (pc' := 99) rfl (hb hby d1_67) rfl (feq (by decide : ¬ ((5 : Int32) = (3 : Int32)))).2 (by decide) (by decide) ?_
    refine XS.iloadN X0.here hx rfl (hb hby d1_99) rfl ?_
    refine XS.iconst X0.here hx rfl (hb hby d1_100) ?_
    refine XS.icmpYes X0.here hx rfl (pc0 := 101) (pc' := 139) rfl (hb hby d1_101) rfl (feq (by decide : ¬ ((5 : Int32) = (4 : Int32)))).2 (by decide) (by decide) ?_
    show SA s₁ m 139 #[vR a1, vI 5] []
    refine XS.iloadN X0.here hx rfl (hb hby d1_139) rfl ?_
    refine XS.iconst X0.here hx rfl (hb hby d1_140) ?_
    refine XS.icmpNo X0.here hx rfl (hb hby d1_141) rfl (teq (by decide : (5 : Int32) = (5 : Int32))).2 ?_
    refine st1 _ ?_
    refine XS.dup X1.here hx rfl (hb hby d1_147) rfl rfl ?_
    refine XS.iconst X1.here hx rfl (hb hby d1_148) ?_
    refine st2 _ ?_
    refine XS.dup X2.here hx rfl (hb hby d1_151) rfl rfl ?_
    refine XS.iconst X2.here hx rfl (hb hby d1_152) ?_
    refine XS.aloadN X2.here hx rfl (hb hby d1_153) rfl rfl ?_
    refine XS.iconst X2.here hx rfl (hb hby d1_154) ?_
    refine X2.caload hx (j := 0) (v := (.int (CL.getD 0 0))) (by rw [e2]; exact Ar5.1) (State.isArrayOf_alike hZ.alike Ar5.2.1) Ar5.2.2 hin6 hat7 (g := (mkF m 155 #[vR a1, vI 5] [iI 0, iR a1, iI 0, iR b2, iR b2, iR b1, iR b1])) rfl rfl (hb hby d1_155) _ ?_
    refine st10 _ ?_
    refine XS.dup X10.here hx rfl (hb hby d1_157) rfl rfl ?_
    refine XS.iconst X10.here hx rfl (hb hby d1_158) ?_
    refine XS.aloadN X10.here hx rfl (hb hby d1_159) rfl rfl ?_
    refine XS.iconst X10.here hx rfl (hb hby d1_160) ?_
    refine X10.caload hx (j := 1) (v := (.int (CL.getD 1 0))) (by rw [e10]; exact Ar12.1) (State.isArrayOf_alike hZ.alike Ar12.2.1) Ar12.2.2 hin13 hat14 (g := (mkF m 161 #[vR a1, vI 5] [iI 1, iR a1, iI 1, iR b2, iR b2, iR b1, iR b1])) rfl rfl (hb hby d1_161) _ ?_
    refine st17 _ ?_
    refine XS.dup X17.here hx rfl (hb hby d1_163) rfl rfl ?_
    refine XS.iconst X17.here hx rfl (hb hby d1_164) ?_
    refine XS.aloadN X17.here hx rfl (hb hby d1_165) rfl rfl ?_
    refine XS.iconst X17.here hx rfl (hb hby d1_166) ?_
    refine X17.caload hx (j := 2) (v := (.int (CL.getD 2 0))) (by rw [e17]; exact Ar19.1) (State.isArrayOf_alike hZ.alike Ar19.2.1) Ar19.2.2 hin20 hat21 (g := (mkF m 167 #[vR a1, vI 5] [iI 2, iR a1, iI 2, iR b2, iR b2, iR b1, iR b1])) rfl rfl (hb hby d1_167) _ ?_
    refine st24 _ ?_
    refine XS.dup X24.here hx rfl (hb hby d1_169) rfl rfl ?_
    refine XS.iconst X24.here hx rfl (hb hby d1_170) ?_
    refine XS.aloadN X24.here hx rfl (hb hby d1_171) rfl rfl ?_
    refine XS.iconst X24.here hx rfl (hb hby d1_172) ?_
    refine X24.caload hx (j := 3) (v := (.int (CL.getD 3 0))) (by rw [e24]; exact Ar26.1) (State.isArrayOf_alike hZ.alike Ar26.2.1) Ar26.2.2 hin27 hat28 (g := (mkF m 173 #[vR a1, vI 5] [iI 3, iR a1, iI 3, iR b2, iR b2, iR b1, iR b1])) rfl rfl (hb hby d1_173) _ ?_
    refine st31 _ ?_
    refine XS.dup X31.here hx rfl (hb hby d1_175) rfl rfl ?_
    refine XS.iconst X31.here hx rfl (hb hby d1_176) ?_
    refine XS.aloadN X31.here hx rfl (hb hby d1_177) rfl rfl ?_
    refine XS.iconst X31.here hx rfl (hb hby d1_178) ?_
    refine X31.caload hx (j := 4) (v := (.int (CL.getD 4 0))) (by rw [e31]; exact Ar33.1) (State.isArrayOf_alike hZ.alike Ar33.2.1) Ar33.2.2 hin34 hat35 (g := (mkF m 179 #[vR a1, vI 5] [iI 4, iR a1, iI 4, iR b2, iR b2, iR b1, iR b1])) rfl rfl (hb hby d1_179) _ ?_
    refine st38 _ ?_
    refine st39.trans ?_
    show Steps _ _ _ (T39.setTop (mkF m 184 #[vR a1, vI 5] [iR b1])) _
    jvm_step X39.here [X39.here.top, hx, (hb hby d1_184), X39.method', Bd.returns, Value.isRef, FieldType.isReference]
    first | (intro acts; rw [hr _ acts rfl rfl rfl]) | rw [hr _ _ rfl rfl rfl]
    exact Steps.refl _
  · show Q1_5 Z a1 kc zc CL cs h0 n0 _ T39.heap _
    exact ⟨_, _, _, rfl, N39, K39, E39q, C39q, F39q, (by rw [own_tkE5 hl]; have q := V39q; rw [own_nc8 (own_get8 hok (i := 0) (by omega)), own_nc8 (own_get8 hok (i := 1) (by omega)), own_nc8 (own_get8 hok (i := 2) (by omega)), own_nc8 (own_get8 hok (i := 3) (by omega)), own_nc8 (own_get8 hok (i := 4) (by omega))] at q; exact q)⟩
theorem own_tkE6 {CL : List Int32} (h : 6 ≤ CL.length) : CL.take 6 = [CL.getD 0 0, CL.getD 1 0, CL.getD 2 0, CL.getD 3 0, CL.getD 4 0, CL.getD 5 0] := by
  match CL, h with
  | x0 :: x1 :: x2 :: x3 :: x4 :: x5 :: t, _ => rfl
theorem d1_185 : dk c1 185 (.new 35) 3 := by decide +kernel
theorem d1_188 : dk c1 188 .dup 1 := by decide +kernel
theorem d1_189 : dk c1 189 (.bipush 6) 2 := by decide +kernel
theorem d1_191 : dk c1 191 (.newarray .char) 2 := by decide +kernel
theorem d1_193 : dk c1 193 .dup 1 := by decide +kernel
theorem d1_194 : dk c1 194 (.iconst 0) 1 := by decide +kernel
theorem d1_195 : dk c1 195 (.aload_n 0) 1 := by decide +kernel
theorem d1_196 : dk c1 196 (.iconst 0) 1 := by decide +kernel
theorem d1_197 : dk c1 197 .caload 1 := by decide +kernel
theorem d1_198 : dk c1 198 .castore 1 := by decide +kernel
theorem d1_199 : dk c1 199 .dup 1 := by decide +kernel
theorem d1_200 : dk c1 200 (.iconst 1) 1 := by decide +kernel
theorem d1_201 : dk c1 201 (.aload_n 0) 1 := by decide +kernel
theorem d1_202 : dk c1 202 (.iconst 1) 1 := by decide +kernel
theorem d1_203 : dk c1 203 .caload 1 := by decide +kernel
theorem d1_204 : dk c1 204 .castore 1 := by decide +kernel
theorem d1_205 : dk c1 205 .dup 1 := by decide +kernel
theorem d1_206 : dk c1 206 (.iconst 2) 1 := by decide +kernel
theorem d1_207 : dk c1 207 (.aload_n 0) 1 := by decide +kernel
theorem d1_208 : dk c1 208 (.iconst 2) 1 := by decide +kernel
theorem d1_209 : dk c1 209 .caload 1 := by decide +kernel
theorem d1_210 : dk c1 210 .castore 1 := by decide +kernel
theorem d1_211 : dk c1 211 .dup 1 := by decide +kernel
theorem d1_212 : dk c1 212 (.iconst 3) 1 := by decide +kernel
theorem d1_213 : dk c1 213 (.aload_n 0) 1 := by decide +kernel
theorem d1_214 : dk c1 214 (.iconst 3) 1 := by decide +kernel
theorem d1_215 : dk c1 215 .caload 1 := by decide +kernel
theorem d1_216 : dk c1 216 .castore 1 := by decide +kernel
theorem d1_217 : dk c1 217 .dup 1 := by decide +kernel
theorem d1_218 : dk c1 218 (.iconst 4) 1 := by decide +kernel
theorem d1_219 : dk c1 219 (.aload_n 0) 1 := by decide +kernel
theorem d1_220 : dk c1 220 (.iconst 4) 1 := by decide +kernel
theorem d1_221 : dk c1 221 .caload 1 := by decide +kernel
theorem d1_222 : dk c1 222 .castore 1 := by decide +kernel
theorem d1_223 : dk c1 223 .dup 1 := by decide +kernel
theorem d1_224 : dk c1 224 (.iconst 5) 1 := by decide +kernel
theorem d1_225 : dk c1 225 (.aload_n 0) 1 := by decide +kernel
theorem d1_226 : dk c1 226 (.iconst 5) 1 := by decide +kernel
theorem d1_227 : dk c1 227 .caload 1 := by decide +kernel
theorem d1_228 : dk c1 228 .castore 1 := by decide +kernel
theorem d1_229 : dk c1 229 (.invokespecial 52) 3 := by decide +kernel
theorem d1_232 : dk c1 232 .areturn 1 := by decide +kernel
theorem ef_1_6 (m : MethodId) (x0 : Addr) : entryFrame m #[(.ref x0), (.int (6 : Int32))] 2 = mkF m 0 #[.val (.ref x0), .val (.int (6 : Int32))] [] := by first | (simp [entryFrame, mkF, argsToLocals, Value.category]; done) | rfl
def Q1_6 (Z : State) (a1 : Addr) (kc : ClassId) (zc : Int32) (CL : List Int32) (cs : Int32) (h0 : Heap) (n0 : Nat) (v : Option Value) (h : Heap) (L : List Loc) : Prop := ∃ (o d : Addr) (ko : ClassId), v = some (.ref o) ∧ Fr n0 L ∧ Keep h0 h [] ∧ ES Z h o ∧ FC Z h o ∧ FV Z h o d ∧ AB Z h d ko (6 : Int32) ((CL.take 6).map own_by)
theorem rm1_6 (l : Launch) (Z : State) (a0 : Array Value) (hw : HW a0 Z) (ws : List Jvm.Cond) (a1 : Addr) (kc : ClassId) (zc : Int32) (CL : List Int32) (cs : Int32) (h0 : Heap) (n0 : Nat) (Z0 : n0 ≤ h0.size) (O0 : Old Z n0 h0) (V_c : AC Z h0 a1 kc zc CL) (hzc : 6 ≤ zc.toInt) (hl : 6 ≤ CL.length) (hok : ∀ x ∈ CL, own_c8 x) (S_CS : SC Z cs) (h_cs : ¬ cs = (0 : Int32)) :
    MFh l mn_42 method_9_code 2 (some (.object "java/lang/String")) ws (Rm 4 6 16 66) #[(.ref a1), (.int (6 : Int32))] Z h0 (Q1_6 Z a1 kc zc CL cs h0 n0) := by
  refine MetFree.of_bodySF (plainFor_of_name pn_8) hisR ?_
  intro p e s m args below meth c s₁ Bd hml0 hP hK
  obtain ⟨rfl, hZ, hh, hC0⟩ := hP
  have hx := Bd.exec
  have hby := Bd.bytes
  have hml : c.maxLocals = 2 := hml0
  have hown := findClass_of_methodNamed Bd.named
  have X0 : Stand p l e (Rm 4 6 16 66) s m _ below meth c _ [] 0 0 := Stand.of_body Bd
  have e0 : s₁.heap = h0 := by rw [← hh, Bd.state]; rfl
  have R0 := CHr.refl hC0
  have N0 := Fr.nil n0
  have K0 := Keep.refl h0 []
  have pre0 := cast0 (p := p) (e := e) (below := below) (T := s₁) (ef_1_6 m a1)
  obtain ⟨T1, h1, X1, e1, E1, A1, D1, -, st1⟩ := newO X0 hx hZ hown (ww hw 5 rfl) (ww hw 6 rfl) (ww hw 7 rfl) e0 (g := (mkF m 185 #[vR a1, vI 6] [])) rfl (hb hby d1_185) (by decide) (by decide)
  obtain ⟨b1, g1⟩ : ∃ z, z = h0.size := ⟨_, rfl⟩
  rw [← g1] at A1 D1 st1
  have ne_a1_b1 := neB V_c.lt g1
  have sz_b1 := szB K0.1 g1
  have g_b1 := Nat.le_trans Z0 sz_b1
  have K1 := K0.ext E1
  have F_coder_b1 : FC Z h1 b1 := D1 (Or.inr (ww hw 31 rfl)) (ty := .byte) (by decide)
  have F_value_b1 : Fld Z h1 b1 "java/lang/String" "value" "[B" .null := D1 (Or.inr (ww hw 33 rfl)) (ty := (.array .byte)) (by decide)
  obtain ⟨T2, h2, k2, X2, e2, E2, A2, st2⟩ := newP X1 hx hZ (ww hw 0 rfl) e1 (g := (mkF m 191 #[vR a1, vI 6] [iI 6, iR b1, iR b1])) rfl (hb hby d1_191) rfl (by decide) (cap := 6) (by decide) (by decide) (by decide) (by decide)
  obtain ⟨b2, g2⟩ : ∃ z, z = h1.size := ⟨_, rfl⟩
  rw [← g2] at A2 st2
  have fk3 := (V_c.ext E1)
  have ne_a1_b2 := neB fk3.lt g2
  have ne_b1_b2 := neB A1.lt g2
  have sz_b2 := szB K1.1 g2
  have g_b2 := Nat.le_trans Z0 sz_b2
  have K2 := K1.ext E2
  have V2 : Arv Z h2 b2 k2 .char (6 : Int32) [(.int (0 : Int32)), (.int (0 : Int32)), (.int (0 : Int32)), (.int (0 : Int32)), (.int (0 : Int32)), (.int (0 : Int32))] (.int (0 : Int32)) := (Arv.new A2 (by decide)).pad (pad_rep [] (.int (0 : Int32)) 6)
  have fk4 := (fk3.ext E2)
  obtain ⟨cl5, Ar5, q5, S5, M5, H5, G5⟩ := id fk4
  have hin6 := inb_of (j := 0) S5 ⟨by decide, own_lt (by have e : (0 : Int32).toInt = 0 := rfl; omega)⟩
  have hat7 : cl5.slots[((0 : Int32)).toNatClampNeg]? = some (.int (CL.getD 0 0)) := Has.at H5 hin6 (own_bsget CL _)
  obtain ⟨cl8, Ar8, q8, S8, M8, H8, G8⟩ := id V2
  have hin9 := inb_of (j := 0) S8 ⟨by decide, by decide⟩
  obtain ⟨T10, h10, X10, e10, W10, st10⟩ := stC X2 hx hZ e2 Ar8 (j := 0) hin9 (g := (mkF m 198 #[vR a1, vI 6] [iI (CL.getD 0 0), iI 0, iR b2, iR b2, iR b1, iR b1])) rfl rfl (hb hby d1_198)
  have V10 : AC Z h10 b2 k2 (6 : Int32) [(nar .char (CL.getD 0 0)), 0, 0, 0, 0, 0] := Arv.set Ar8 q8 S8 M8 H8 G8 (fits_nar_char _) W10 0 rfl (Nat.le_of_ble_eq_true rfl)
  have K10 := K2.wr W10 (Or.inr sz_b2)
  have N10 := Fr.snoc X10 N0 g_b2
  have fk11 := (fk4.other W10 ne_a1_b2)
  obtain ⟨cl12, Ar12, q12, S12, M12, H12, G12⟩ := id fk11
  have hin13 := inb_of (j := 1) S12 ⟨by decide, own_lt (by have e : (1 : Int32).toInt = 1 := rfl; omega)⟩
  have hat14 : cl12.slots[((1 : Int32)).toNatClampNeg]? = some (.int (CL.getD 1 0)) := Has.at H12 hin13 (own_bsget CL _)
  obtain ⟨cl15, Ar15, q15, S15, M15, H15, G15⟩ := id V10
  have hin16 := inb_of (j := 1) S15 ⟨by decide, by decide⟩
  obtain ⟨T17, h17, X17, e17, W17, st17⟩ := stC X10 hx hZ e10 Ar15 (j := 1) hin16 (g := (mkF m 204 #[vR a1, vI 6] [iI (CL.getD 1 0), iI 1, iR b2, iR b2, iR b1, iR b1])) rfl rfl (hb hby d1_204)
  have V17 : AC Z h17 b2 k2 (6 : Int32) [(nar .char (CL.getD 0 0)), (nar .char (CL.getD 1 0)), 0, 0, 0, 0] := Arv.set Ar15 q15 S15 M15 H15 G15 (fits_nar_char _) W17 1 rfl (Nat.le_of_ble_eq_true rfl)
  have K17 := K10.wr W17 (Or.inr sz_b2)
  have N17 := Fr.snoc X17 N10 g_b2
  have fk18 := (fk11.other W17 ne_a1_b2)
  obtain ⟨cl19, Ar19, q19, S19, M19, H19, G19⟩ := id fk18
  have hin20 := inb_of (j := 2) S19 ⟨by decide, own_lt (by have e : (2 : Int32).toInt = 2 := rfl; omega)⟩
  have hat21 : cl19.slots[((2 : Int32)).toNatClampNeg]? = some (.int (CL.getD 2 0)) := Has.at H19 hin20 (own_bsget CL _)
  obtain ⟨cl22, Ar22, q22, S22, M22, H22, G22⟩ := id V17
  have hin23 := inb_of (j := 2) S22 ⟨by decide, by decide⟩
  obtain ⟨T24, h24, X24, e24, W24, st24⟩ := stC X17 hx hZ e17 Ar22 (j := 2) hin23 (g := (mkF m 210 #[vR a1, vI 6] [iI (CL.getD 2 0), iI 2, iR b2, iR b2, iR b1, iR b1])) rfl rfl (hb hby d1_210)
  have V24 : AC Z h24 b2 k2 (6 : Int32) [(nar .char (CL.getD 0 0)), (nar .char (CL.getD 1 0)), (nar .char (CL.getD 2 0)), 0, 0, 0] := Arv.set Ar22 q22 S22 M22 H22 G22 (fits_nar_char _) W24 2 rfl (Nat.le_of_ble_eq_true rfl)
  have K24 := K17.wr W24 (Or.inr sz_b2)
  have N24 := Fr.snoc X24 N17 g_b2
  have fk25 := (fk18.other W24 ne_a1_b2)
  obtain ⟨cl26, Ar26, q26, S26, M26, H26, G26⟩ := id fk25
  have hin27 := inb_of (j := 3) S26 ⟨by decide, own_lt (by have e : (3 : Int32).toInt = 3 := rfl; omega)⟩
  have hat28 : cl26.slots[((3 : Int32)).toNatClampNeg]? = some (.int (CL.getD 3 0)) := Has.at H26 hin27 (own_bsget CL _)
  obtain ⟨cl29, Ar29, q29, S29, M29, H29, G29⟩ := id V24
  have hin30 := inb_of (j := 3) S29 ⟨by decide, by decide⟩
  obtain ⟨T31, h31, X31, e31, W31, st31⟩ := stC X24 hx hZ e24 Ar29 (j := 3) hin30 (g := (mkF m 216 #[vR a1, vI 6] [iI (CL.getD 3 0), iI 3, iR b2, iR b2, iR b1, iR b1])) rfl rfl (hb hby d1_216)
  have V31 : AC Z h31 b2 k2 (6 : Int32) [(nar .char (CL.getD 0 0)), (nar .char (CL.getD 1 0)), (nar .char (CL.getD 2 0)), (nar .char (CL.getD 3 0)), 0, 0] := Arv.set Ar29 q29 S29 M29 H29 G29 (fits_nar_char _) W31 3 rfl (Nat.le_of_ble_eq_true rfl)
  have K31 := K24.wr W31 (Or.inr sz_b2)
  have N31 := Fr.snoc X31 N24 g_b2
  have fk32 := (fk25.other W31 ne_a1_b2)
  obtain ⟨cl33, Ar33, q33, S33, M33, H33, G33⟩ := id fk32
  have hin34 := inb_of (j := 4) S33 ⟨by decide, own_lt (by have e : (4 : Int32).toInt = 4 := rfl; omega)⟩
  have hat35 : cl33.slots[((4 : Int32)).toNatClampNeg]? = some (.int (CL.getD 4 0)) := Has.at H33 hin34 (own_bsget CL _)
  obtain ⟨cl36, Ar36, q36, S36, M36, H36, G36⟩ := id V31
  have hin37 := inb_of (j := 4) S36 ⟨by decide, by decide⟩
  obtain ⟨T38, h38, X38, e38, W38, st38⟩ := stC X31 hx hZ e31 Ar36 (j := 4) hin37 (g := (mkF m 222 #[vR a1, vI 6] [iI (CL.getD 4 0), iI 4, iR b2, iR b2, iR b1, iR b1])) rfl rfl (hb hby d1_222)
  have V38 : AC Z h38 b2 k2 (6 : Int32) [(nar .char (CL.getD 0 0)), (nar .char (CL.getD 1 0)), (nar .char (CL.getD 2 0)), (nar .char (CL.getD 3 0)), (nar .char (CL.getD 4 0)), 0] := Arv.set Ar36 q36 S36 M36 H36 G36 (fits_nar_char _) W38 4 rfl (Nat.le_of_ble_eq_true rfl)
  have K38 := K31.wr W38 (Or.inr sz_b2)
  have N38 := Fr.snoc X38 N31 g_b2
  have fk39 := (fk32.other W38 ne_a1_b2)
  obtain ⟨cl40, Ar40, q40, S40, M40, H40, G40⟩ := id fk39
  have hin41 := inb_of (j := 5) S40 ⟨by decide, own_lt (by have e : (5 : Int32).toInt = 5 := rfl; omega)⟩
  have hat42 : cl40.slots[((5 : Int32)).toNatClampNeg]? = some (.int (CL.getD 5 0)) := Has.at H40 hin41 (own_bsget CL _)
  obtain ⟨cl43, Ar43, q43, S43, M43, H43, G43⟩ := id V38
  have hin44 := inb_of (j := 5) S43 ⟨by decide, by decide⟩
  obtain ⟨T45, h45, X45, e45, W45, st45⟩ := stC X38 hx hZ e38 Ar43 (j := 5) hin44 (g := (mkF m 228 #[vR a1, vI 6] [iI (CL.getD 5 0), iI 5, iR b2, iR b2, iR b1, iR b1])) rfl rfl (hb hby d1_228)
  have V45 : AC Z h45 b2 k2 (6 : Int32) [(nar .char (CL.getD 0 0)), (nar .char (CL.getD 1 0)), (nar .char (CL.getD 2 0)), (nar .char (CL.getD 3 0)), (nar .char (CL.getD 4 0)), (nar .char (CL.getD 5 0))] := Arv.set Ar43 q43 S43 M43 H43 G43 (fits_nar_char _) W45 5 rfl (Nat.le_of_ble_eq_true rfl)
  have K45 := K38.wr W45 (Or.inr sz_b2)
  have N45 := Fr.snoc X45 N38 g_b2
  have fk47 := (((((((A1.ext E2).wr W10).wr W17).wr W24).wr W31).wr W38).wr W45)
  have fk48 := (((((((F_value_b1.ext E2).other W10 (Or.inl ne_b1_b2)).other W17 (Or.inl ne_b1_b2)).other W24 (Or.inl ne_b1_b2)).other W31 (Or.inl ne_b1_b2)).other W38 (Or.inl ne_b1_b2)).other W45 (Or.inl ne_b1_b2))
  have fk49 := (((((((F_coder_b1.ext E2).other W10 (Or.inl ne_b1_b2)).other W17 (Or.inl ne_b1_b2)).other W24 (Or.inl ne_b1_b2)).other W31 (Or.inl ne_b1_b2)).other W38 (Or.inl ne_b1_b2)).other W45 (Or.inl ne_b1_b2))
  have Oh50 := O0.keep K45 all0
  obtain ⟨_, _, ⟨T46, L46, k46, n46⟩, -, X46, ⟨Lc46, hQ46, l46, y46, z46⟩, st46⟩ := X45.specialBack hx (y := mn_9) rfl hown (mw hZ hw 8 rfl) (mw hZ hw 9 rfl) (mw hZ hw 10 rfl) (by decide) (backOf (W := 1) (rm2 l Z a0 hw [] b1 b2 (6 : Int32) k2 [(nar .char (CL.getD 0 0)), (nar .char (CL.getD 1 0)), (nar .char (CL.getD 2 0)), (nar .char (CL.getD 3 0)), (nar .char (CL.getD 4 0)), (nar .char (CL.getD 5 0))] cs h45 n0 (Nat.le_trans Z0 K45.1) Oh50 fk47 g_b1 fk48 fk49 V45 ne_b1_b2 rfl (by intro x hx; simp only [List.mem_cons, List.not_mem_nil, or_false] at hx; rcases hx with rfl | rfl | rfl | rfl | rfl | rfl <;> exact own_ncc (own_get8 hok (by omega))) ⟨by decide, by decide⟩ S_CS h_cs) hZ (ww hw 10 rfl) (ww hw 7 rfl) (by decide) (by decide)) (g := (mkF m 229 #[vR a1, vI 6] [iR b2, iR b1, iR b1])) rfl (by rw [hml]; rfl) (Steps.refl _) (a := b1) (argsL := [(.ref b2)]) (rest := [(.ref b1)]) (lenOf pd_31 rfl) rfl (wz rfl) (hb hby d1_229) (fun _ _ => ⟨rfl, e45, (by decide : 2 + 1 ≤ _), (by decide : 10 + 6 ≤ _)⟩)
  dsimp only [Pt.U, Pt.locs, Pt.cells, Pt.slots] at X46 l46 y46 z46 st46 hQ46
  subst l46 y46 z46
  obtain ⟨d46, kd46, rfl, N46q, K46q, E46q, C46q, F46q, V46q, z_d46⟩ := hQ46
  have fk51 := (fk39.other W45 ne_a1_b2)
  have ne_a1_d46 := neC fk51.lt z_d46
  have ne_b1_d46 := neC fk47.lt z_d46
  have ne_b2_d46 := neC V45.lt z_d46
  have sz_d46 := Nat.le_trans K45.1 z_d46
  have g_d46 := Nat.le_trans Z0 sz_d46
  have N46 := Fr.app N45 N46q
  have K46 : Keep h0 T46.heap [] := Keep.trans K45 K46q (allS (Or.inr sz_b1) all0)
  have S52_b1 := Safe.ext E1 R0.1 (Safe.new (Nat.le_of_eq g1.symm))
  have R52 := R0.trans (CHr.ext E1 R0.1)
  have S53_b1 := Safe.ext E2 R52.1 S52_b1
  have S53_b2 := Safe.ext E2 R52.1 (Safe.new (Nat.le_of_eq g2.symm))
  have R53 := R52.trans (CHr.ext E2 R52.1)
  have S54_b1 := Safe.wr W10 S53_b2 R53.1 S53_b1
  have S54_b2 := Safe.wr W10 S53_b2 R53.1 S53_b2
  have R54 := R53.trans (CHr.wr W10 S53_b2 R53.1)
  have S55_b1 := Safe.wr W17 S54_b2 R54.1 S54_b1
  have S55_b2 := Safe.wr W17 S54_b2 R54.1 S54_b2
  have R55 := R54.trans (CHr.wr W17 S54_b2 R54.1)
  have S56_b1 := Safe.wr W24 S55_b2 R55.1 S55_b1
  have S56_b2 := Safe.wr W24 S55_b2 R55.1 S55_b2
  have R56 := R55.trans (CHr.wr W24 S55_b2 R55.1)
  have S57_b1 := Safe.wr W31 S56_b2 R56.1 S56_b1
  have S57_b2 := Safe.wr W31 S56_b2 R56.1 S56_b2
  have R57 := R56.trans (CHr.wr W31 S56_b2 R56.1)
  have S58_b1 := Safe.wr W38 S57_b2 R57.1 S57_b1
  have S58_b2 := Safe.wr W38 S57_b2 R57.1 S57_b2
  have R58 := R57.trans (CHr.wr W38 S57_b2 R57.1)
  have S59_b1 := Safe.wr W45 S58_b2 R58.1 S58_b1
  have S59_b2 := Safe.wr W45 S58_b2 R58.1 S58_b2
  have R59 := R58.trans (CHr.wr W45 S58_b2 R58.1)
  have sq60 : ∀ x ∈ [b1], Safe Z consts_1 s.vm _ x := (sfS S59_b1 sf0)
  have S60_b1 := Safe.keep K46q sq60 R59.1 S59_b1
  have S60_b2 := Safe.keep K46q sq60 R59.1 S59_b2
  have S60_d46 := Safe.keep K46q sq60 R59.1 (Safe.new z_d46)
  have R60 := R59.trans (CHr.keep K46q sq60 R59.1)
  have hfin := R60.trans (CHv.at (s := s) (vm0 := s.vm) X46 hZ (own_EW hw) R60.1)
  obtain ⟨fs, hr, hrun, hended, hW, hsame⟩ := X46.leave (v := some (.ref b1)) (fun h => by rw [Bd.returns] at h; cases h)
  refine ⟨_, _, pre0 _ ?_, hrun, hended, _, _, rfl, ?_, (by rw [hh]; show CHr Z consts_1 s.vm h0 T46.vm T46.heap; exact hfin), ReturnedEndW.of_narrow ⟨_, rfl⟩ hW (hsame.mono (by decide) (by decide))⟩
  · refine XS.iloadN X0.here hx rfl (hb hby d1_0) rfl ?_
    refine XS.ifYes X0.here hx rfl (pc0 := 1) (pc' := 15) rfl (hb hby d1_1) rfl ((if0 _ _).trans (feq (by decide : ¬ ((6 : Int32) = (0 : Int32)))).2) (by decide) (by decide) ?_
    refine XS.iloadN X0.here hx rfl (hb hby d1_15) rfl ?_
    refine XS.iconst X0.here hx rfl (hb hby d1_16) ?_
    refine XS.icmpYes X0.here hx rfl (pc0 := 17) (pc' := 37) rfl (hb hby d1_17) rfl (feq (by decide : ¬ ((6 : Int32) = (1 : Int32)))).2 (by decide) (by decide) ?_
    refine XS.iloadN X0.here hx rfl (hb hby d1_37) rfl ?_
    show SA s₁ m 38 #[vR a1, vI 6] [iI 6]
    refine XS.iconst X0.here hx rfl (hb hby d1_38) ?_
    refine XS.icmpYes X0.here hx rfl (pc0 := 39) (pc' := 65) rfl (hb hby d1_39) rfl (feq (by decide : ¬ ((6 : Int32) = (2 : Int32)))).2 (by decide) (by decide) ?_
    refine XS.iloadN X0.here hx rfl (hb hby d1_65) rfl ?_
    refine XS.iconst X0.here hx rfl (hb hby d1_66) ?_
    refine XS.icmpYes X0.here hx rfl (pc0 := 67) (pc' := 99) rfl (hb hby d1_67) rfl (feq (by decide : ¬ ((6 : Int32) = (3 : Int32)))).2 (by decide) (by decide) ?_
    refine XS.iloadN X0.here hx rfl (hb hby d1_99) rfl ?_
    refine XS.iconst X0.here hx rfl (hb hby d1_100) ?_
    refine XS.icmpYes X0.here hx rfl (pc0 := 101) (pc' := 139) rfl (hb hby d1_101) rfl (feq (by decide : ¬ ((6 : Int32) = (4 : Int32)))).2 (by decide) (by decide) ?_
    show SA s₁ m 139 #[vR a1, vI 6] []
    refine XS.iloadN X0.here hx rfl (hb hby d1_139) rfl ?_
    refine XS.iconst X0.here hx rfl (hb hby d1_140) ?_
    refine XS.icmpYes X0.here hx rfl (pc0 := 141) (pc' := 185) rfl (hb hby d1_141) rfl (feq (by decide : ¬ ((6 : Int32) = (5 : Int32)))).2 (by decide) (by decide) ?_
    refine st1 _ ?_
    refine XS.dup X1.here hx rfl (hb hby d1_188) rfl rfl ?_
    refine XS.bipush X1.here hx rfl (hb hby d1_189) ?_
    refine st2 _ ?_
    refine XS.dup X2.here hx rfl (hb hby d1_193) rfl rfl ?_
    refine XS.iconst X2.here hx rfl (hb hby d1_194) ?_
    refine XS.aloadN X2.here hx rfl (hb hby d1_195) rfl rfl ?_
    refine XS.iconst X2.here hx rfl (hb hby d1_196) ?_
    refine X2.caload hx (j := 0) (v := (.int (CL.getD 0 0))) (by rw [e2]; exact Ar5.1) (State.isArrayOf_alike hZ.alike Ar5.2.1) Ar5.2.2 hin6 hat7 (g := (mkF m 197 #[vR a1, vI 6] [iI 0, iR a1, iI 0, iR b2, iR b2, iR b1, iR b1])) rfl rfl (hb hby d1_197) _ ?_
    refine st10 _ ?_
    refine XS.dup X10.here hx rfl (hb hby d1_199) rfl rfl ?_
    refine XS.iconst X10.here hx rfl (hb hby d1_200) ?_
    refine XS.aloadN X10.here hx rfl (hb hby d1_201) rfl rfl ?_
    refine XS.iconst X10.here hx rfl (hb hby d1_202) ?_
    refine X10.caload hx (j := 1) (v := (.int (CL.getD 1 0))) (by rw [e10]; exact Ar12.1) (State.isArrayOf_alike hZ.alike Ar12.2.1) Ar12.2.2 hin13 hat14 (g := (mkF m 203 #[vR a1, vI 6] [iI 1, iR a1, iI 1, iR b2, iR b2, iR b1, iR b1])) rfl rfl (hb hby d1_203) _ ?_
    refine st17 _ ?_
    refine XS.dup X17.here hx rfl (hb hby d1_205) rfl rfl ?_
    refine XS.iconst X17.here hx rfl (hb hby d1_206) ?_
    refine XS.aloadN X17.here hx rfl (hb hby d1_207) rfl rfl ?_
    refine XS.iconst X17.here hx rfl (hb hby d1_208) ?_
    refine X17.caload hx (j := 2) (v := (.int (CL.getD 2 0))) (by rw [e17]; exact Ar19.1) (State.isArrayOf_alike hZ.alike Ar19.2.1) Ar19.2.2 hin20 hat21 (g := (mkF m 209 #[vR a1, vI 6] [iI 2, iR a1, iI 2, iR b2, iR b2, iR b1, iR b1])) rfl rfl (hb hby d1_209) _ ?_
    refine st24 _ ?_
    refine XS.dup X24.here hx rfl (hb hby d1_211) rfl rfl ?_
    refine XS.iconst X24.here hx rfl (hb hby d1_212) ?_
    refine XS.aloadN X24.here hx rfl (hb hby d1_213) rfl rfl ?_
    refine XS.iconst X24.here hx rfl (hb hby d1_214) ?_
    refine X24.caload hx (j := 3) (v := (.int (CL.getD 3 0))) (by rw [e24]; exact Ar26.1) (State.isArrayOf_alike hZ.alike Ar26.2.1) Ar26.2.2 hin27 hat28 (g := (mkF m 215 #[vR a1, vI 6] [iI 3, iR a1, iI 3, iR b2, iR b2, iR b1, iR b1])) rfl rfl (hb hby d1_215) _ ?_
    refine st31 _ ?_
    refine XS.dup X31.here hx rfl (hb hby d1_217) rfl rfl ?_
    refine XS.iconst X31.here hx rfl (hb hby d1_218) ?_
    refine XS.aloadN X31.here hx rfl (hb hby d1_219) rfl rfl ?_
    refine XS.iconst X31.here hx rfl (hb hby d1_220) ?_
    refine X31.caload hx (j := 4) (v := (.int (CL.getD 4 0))) (by rw [e31]; exact Ar33.1) (State.isArrayOf_alike hZ.alike Ar33.2.1) Ar33.2.2 hin34 hat35 (g := (mkF m 221 #[vR a1, vI 6] [iI 4, iR a1, iI 4, iR b2, iR b2, iR b1, iR b1])) rfl rfl (hb hby d1_221) _ ?_
    refine st38 _ ?_
    refine XS.dup X38.here hx rfl (hb hby d1_223) rfl rfl ?_
    refine XS.iconst X38.here hx rfl (hb hby d1_224) ?_
    refine XS.aloadN X38.here hx rfl (hb hby d1_225) rfl rfl ?_
    refine XS.iconst X38.here hx rfl (hb hby d1_226) ?_
    refine X38.caload hx (j := 5) (v := (.int (CL.getD 5 0))) (by rw [e38]; exact Ar40.1) (State.isArrayOf_alike hZ.alike Ar40.2.1) Ar40.2.2 hin41 hat42 (g := (mkF m 227 #[vR a1, vI 6] [iI 5, iR a1, iI 5, iR b2, iR b2, iR b1, iR b1])) rfl rfl (hb hby d1_227) _ ?_
    refine st45 _ ?_
    refine st46.trans ?_
    show Steps _ _ _ (T46.setTop (mkF m 232 #[vR a1, vI 6] [iR b1])) _
    jvm_step X46.here [X46.here.top, hx, (hb hby d1_232), X46.method', Bd.returns, Value.isRef, FieldType.isReference]
    first | (intro acts; rw [hr _ acts rfl rfl rfl]) | rw [hr _ _ rfl rfl rfl]
    exact Steps.refl _
  · show Q1_6 Z a1 kc zc CL cs h0 n0 _ T46.heap _
    exact ⟨_, _, _, rfl, N46, K46, E46q, C46q, F46q, (by rw [own_tkE6 hl]; have q := V46q; rw [own_nc8 (own_get8 hok (i := 0) (by omega)), own_nc8 (own_get8 hok (i := 1) (by omega)), own_nc8 (own_get8 hok (i := 2) (by omega)), own_nc8 (own_get8 hok (i := 3) (by omega)), own_nc8 (own_get8 hok (i := 4) (by omega)), own_nc8 (own_get8 hok (i := 5) (by omega))] at q; exact q)⟩
def Q1 (Z : State) (a1 : Addr) (p2 : Int32) (kc : ClassId) (zc : Int32) (CL : List Int32) (cs : Int32) (h0 : Heap) (n0 : Nat) (v : Option Value) (h : Heap) (L : List Loc) : Prop := ∃ (o d : Addr) (ko : ClassId), v = some (.ref o) ∧ Fr n0 L ∧ Keep h0 h [] ∧ ES Z h o ∧ FC Z h o ∧ FV Z h o d ∧ AB Z h d ko p2 (own_tk2 CL p2)
theorem rm1 (l : Launch) (Z : State) (a0 : Array Value) (hw : HW a0 Z) (ws : List Jvm.Cond) (a1 : Addr) (p2 : Int32) (kc : ClassId) (zc : Int32) (CL : List Int32) (cs : Int32) (h0 : Heap) (n0 : Nat) (Z0 : n0 ≤ h0.size) (O0 : Old Z n0 h0) (V_c : AC Z h0 a1 kc zc CL) (hp : 0 ≤ p2.toInt ∧ p2.toInt ≤ 6) (hzc : p2.toInt ≤ zc.toInt) (hl : p2.toInt ≤ (CL.length : Int)) (hok : ∀ x ∈ CL, own_c8 x) (S_CS : SC Z cs) (h_cs : ¬ cs = (0 : Int32)) :
    MFh l mn_42 method_9_code 2 (some (.object "java/lang/String")) ws (Rm 4 6 16 66) #[(.ref a1), (.int p2)] Z h0 (Q1 Z a1 p2 kc zc CL cs h0 n0) := by
  obtain ⟨i, hi, rfl⟩ := own_ofNat p2 7 (by decide) hp.1 (by omega)
  rw [own_oN (by omega)] at hzc hl
  match i, hi with
  | 0, _ => exact rm1_0 l Z a0 hw ws a1 kc zc CL cs h0 n0 Z0 O0 V_c hzc (by omega) hok S_CS h_cs
  | 1, _ => exact rm1_1 l Z a0 hw ws a1 kc zc CL cs h0 n0 Z0 O0 V_c hzc (by omega) hok S_CS h_cs
  | 2, _ => exact rm1_2 l Z a0 hw ws a1 kc zc CL cs h0 n0 Z0 O0 V_c hzc (by omega) hok S_CS h_cs
  | 3, _ => exact rm1_3 l Z a0 hw ws a1 kc zc CL cs h0 n0 Z0 O0 V_c hzc (by omega) hok S_CS h_cs
  | 4, _ => exact rm1_4 l Z a0 hw ws a1 kc zc CL cs h0 n0 Z0 O0 V_c hzc (by omega) hok S_CS h_cs
  | 5, _ => exact rm1_5 l Z a0 hw ws a1 kc zc CL cs h0 n0 Z0 O0 V_c hzc (by omega) hok S_CS h_cs
  | 6, _ => exact rm1_6 l Z a0 hw ws a1 kc zc CL cs h0 n0 Z0 O0 V_c hzc (by omega) hok S_CS h_cs
def own_Q0 (n0 : Nat) (v : Option Value) (h : Heap) (L : List Loc) : Prop := v = some (.int (1 : Int32)) ∧ Fr n0 L
def own_PG (Z : State) (h : Heap) (B T : List Int32) (gv : Value) : Prop := (gv = .null ∧ own_cred B T = none) ∨ ∃ (W : List Int32) (go dg : Addr) (kg : ClassId) (zw : Int32), gv = .ref go ∧ ES Z h go ∧ FC Z h go ∧ FV Z h go dg ∧ AB Z h dg kg zw W ∧ zw.toInt = (W.length : Int) ∧ own_cred B T = some W
theorem own_t549 {p : Program} {l : Launch} {e : Env} {s : State} {m : MethodId} {below : List Frame} {meth : Method} {c : Code} {T0 : State} {locs : List Loc} {Z : State} {a0 : Array Value} {h0 hT : Heap} {n0 : Nat} {vmT : Vm} {kT : Nat} {p1 : Int32} {p2 : Int32} {p3 : Int32} {p4 : Int32} {cs : Int32} {fm : Value} {s_T s_I : Addr} {cl : Cell} {ca cb : Addr} {al nl sl f9 f10 f11 f12 f13 : Int32} {ka kb : ClassId} {AL SL : List Int32} {sa sb_ go dg : Addr} {kg : ClassId} {zw : Int32} {W : List Int32} {lo_ hi_ : Int32}
    (X0 : Stand p l e room_1 (s.setVm vmT) m #[(.int p1), (.int p2), (.int p3), (.int p4)] below meth c T0 locs 20 69) (hx : p.tables.exec = Jvm.exec) (hZ : Z.Warmed39 (s.setVm vmT).vm) (hw : HW a0 Z) (hby : c.code = code) (hml : c.maxLocals = 20) (hown : (s.setVm vmT).vm.findClass "com/example/cloud_to_core/cloudtocore/auth/HttpAuthorizationCredentialsPinLaw" = some m.cls) (hret : meth.sig.returnType = some .boolean) (hlocks : meth.locks = false) (e0 : T0.heap = hT) (Kt0 : Keep h0 hT []) (N0 : Fr n0 locs) (Z0 : n0 ≤ h0.size) (O0 : Old Z n0 h0) (hS0 : s.Since vmT kT) (hk0 : kT ≤ hT.size) (RT : CHr Z consts_1 s.vm h0 vmT hT) (hh : s.heap = h0) (V_a : AC Z hT ca ka (6 : Int32) AL) (E_go : ES Z hT go) (Fc_go : FC Z hT go) (Fv_go : FV Z hT go dg) (V_dg : AB Z hT dg kg zw W) (hzw : zw.toInt = (W.length : Int)) (hsm : ∀ i : Int32, ¬ i < (0 : Int32) → i < zw → (¬ (lo_ + i) < (0 : Int32) ∧ (lo_ + i) < (6 : Int32)) ∧ own_chr (W.getD i.toNatClampNeg 0) = AL.getD (lo_ + i).toNatClampNeg 0) (S_CS : SC Z cs) (h_cs : ¬ cs = (0 : Int32)) (S_F : SM Z fm) (h_fm : fm.isRef = true) (S_T : ST Z s_T) (TB : Tab Z Z.heap s_T cl .int (256 : Int32)) (hTb : HT cl) (S_I : SI Z s_I) (E_I : Exa Z Z.heap s_I "java/lang/CharacterDataLatin1") :
    ∃ s₂ o, Steps p.tables e below (T0.setTop (mkF m 549 #[vI p1, vI p2, vI p3, vI p4, vR ca, vR cb, vI al, vI nl, vI sl, vI f9, vI f10, vI f11, vI f12, vI f13, vR sa, vR sb_, vR go, vI 1, vI lo_, vI hi_] [])) s₂ ∧ s₂.status = .running ∧ Ended s₂ below o ∧ ∃ v L, o = .returned v ∧ own_Q0 n0 v s₂.heap L ∧ ReturnedEndW s o s₂ L room_1.cells room_1.slots := by
  have Oh2 := O0.keep Kt0 all0
  obtain ⟨_, _, ⟨T1, L1, k1, n1⟩, -, X1, ⟨Lc1, hQ1, l1, y1, z1⟩, st1⟩ := Jvm.LawKit.callS X0 hx (y := mn_41) hown (mw hZ hw 164 rfl) (mw hZ hw 165 rfl) (mw hZ hw 3 rfl) (mw hZ hw 166 rfl) (by decide) (backOf (W := 0) (rm37 l Z a0 hw [] go ca lo_ (0 : Int32) dg kg zw W ka AL cs fm hT n0 Oh2 E_go Fc_go Fv_go V_dg (own_nneg (by omega)) (own_tn hzw) V_a (by decide) hsm S_CS h_cs S_F h_fm) hZ (ww hw 166 rfl) (ww hw 3 rfl) (by decide) (by decide)) (g := (mkF m 556 #[vI p1, vI p2, vI p3, vI p4, vR ca, vR cb, vI al, vI nl, vI sl, vI f9, vI f10, vI f11, vI f12, vI f13, vR sa, vR sb_, vR go, vI 1, vI lo_, vI hi_] [iI 0, iI lo_, iR ca, iR go])) rfl (by rw [hml]; rfl) (argsL := [(.ref go), (.ref ca), (.int lo_), (.int (0 : Int32))]) (rest := []) (lenOf pd_32 rfl) rfl (wz rfl) (hb hby at_556) (fun _ _ => ⟨rfl, e0, (by decide : 20 + 0 ≤ _), (by decide : 69 + 0 ≤ _)⟩)
  dsimp only [Pt.U, Pt.locs, Pt.cells, Pt.slots] at X1 l1 y1 z1 st1 hQ1
  subst l1 y1 z1
  obtain ⟨rfl, rfl, e1⟩ := hQ1
  try rw [List.append_nil] at X1
  obtain ⟨_, _, ⟨T3, L3, k3, n3⟩, -, X3, ⟨Lc3, hQ3, l3, y3, z3⟩, st3⟩ := Jvm.LawKit.callS X1 hx (y := mn_41) hown (mw hZ hw 164 rfl) (mw hZ hw 165 rfl) (mw hZ hw 3 rfl) (mw hZ hw 166 rfl) (by decide) (backOf (W := 0) (rm37 l Z a0 hw [] go ca lo_ (1 : Int32) dg kg zw W ka AL cs fm hT n0 Oh2 E_go Fc_go Fv_go V_dg (own_nneg (by omega)) (own_tn hzw) V_a (by decide) hsm S_CS h_cs S_F h_fm) hZ (ww hw 166 rfl) (ww hw 3 rfl) (by decide) (by decide)) (g := (mkF m 569 #[vI p1, vI p2, vI p3, vI p4, vR ca, vR cb, vI al, vI nl, vI sl, vI f9, vI f10, vI f11, vI f12, vI f13, vR sa, vR sb_, vR go, vI 1, vI lo_, vI hi_] [iI 1, iI lo_, iR ca, iR go])) rfl (by rw [hml]; rfl) (argsL := [(.ref go), (.ref ca), (.int lo_), (.int (1 : Int32))]) (rest := []) (lenOf pd_32 rfl) rfl (wz rfl) (hb hby at_569) (fun _ _ => ⟨rfl, e1, (by decide : 20 + 0 ≤ _), (by decide : 69 + 0 ≤ _)⟩)
  dsimp only [Pt.U, Pt.locs, Pt.cells, Pt.slots] at X3 l3 y3 z3 st3 hQ3
  subst l3 y3 z3
  obtain ⟨rfl, rfl, e3⟩ := hQ3
  try rw [List.append_nil] at X3
  obtain ⟨_, _, ⟨T4, L4, k4, n4⟩, -, X4, ⟨Lc4, hQ4, l4, y4, z4⟩, st4⟩ := Jvm.LawKit.callS X3 hx (y := mn_41) hown (mw hZ hw 164 rfl) (mw hZ hw 165 rfl) (mw hZ hw 3 rfl) (mw hZ hw 166 rfl) (by decide) (backOf (W := 0) (rm37 l Z a0 hw [] go ca lo_ (2 : Int32) dg kg zw W ka AL cs fm hT n0 Oh2 E_go Fc_go Fv_go V_dg (own_nneg (by omega)) (own_tn hzw) V_a (by decide) hsm S_CS h_cs S_F h_fm) hZ (ww hw 166 rfl) (ww hw 3 rfl) (by decide) (by decide)) (g := (mkF m 582 #[vI p1, vI p2, vI p3, vI p4, vR ca, vR cb, vI al, vI nl, vI sl, vI f9, vI f10, vI f11, vI f12, vI f13, vR sa, vR sb_, vR go, vI 1, vI lo_, vI hi_] [iI 2, iI lo_, iR ca, iR go])) rfl (by rw [hml]; rfl) (argsL := [(.ref go), (.ref ca), (.int lo_), (.int (2 : Int32))]) (rest := []) (lenOf pd_32 rfl) rfl (wz rfl) (hb hby at_582) (fun _ _ => ⟨rfl, e3, (by decide : 20 + 0 ≤ _), (by decide : 69 + 0 ≤ _)⟩)
  dsimp only [Pt.U, Pt.locs, Pt.cells, Pt.slots] at X4 l4 y4 z4 st4 hQ4
  subst l4 y4 z4
  obtain ⟨rfl, rfl, e4⟩ := hQ4
  try rw [List.append_nil] at X4
  obtain ⟨_, _, ⟨T5, L5, k5, n5⟩, -, X5, ⟨Lc5, hQ5, l5, y5, z5⟩, st5⟩ := Jvm.LawKit.callS X4 hx (y := mn_41) hown (mw hZ hw 164 rfl) (mw hZ hw 165 rfl) (mw hZ hw 3 rfl) (mw hZ hw 166 rfl) (by decide) (backOf (W := 0) (rm37 l Z a0 hw [] go ca lo_ (3 : Int32) dg kg zw W ka AL cs fm hT n0 Oh2 E_go Fc_go Fv_go V_dg (own_nneg (by omega)) (own_tn hzw) V_a (by decide) hsm S_CS h_cs S_F h_fm) hZ (ww hw 166 rfl) (ww hw 3 rfl) (by decide) (by decide)) (g := (mkF m 595 #[vI p1, vI p2, vI p3, vI p4, vR ca, vR cb, vI al, vI nl, vI sl, vI f9, vI f10, vI f11, vI f12, vI f13, vR sa, vR sb_, vR go, vI 1, vI lo_, vI hi_] [iI 3, iI lo_, iR ca, iR go])) rfl (by rw [hml]; rfl) (argsL := [(.ref go), (.ref ca), (.int lo_), (.int (3 : Int32))]) (rest := []) (lenOf pd_32 rfl) rfl (wz rfl) (hb hby at_595) (fun _ _ => ⟨rfl, e4, (by decide : 20 + 0 ≤ _), (by decide : 69 + 0 ≤ _)⟩)
  dsimp only [Pt.U, Pt.locs, Pt.cells, Pt.slots] at X5 l5 y5 z5 st5 hQ5
  subst l5 y5 z5
  obtain ⟨rfl, rfl, e5⟩ := hQ5
  try rw [List.append_nil] at X5
  obtain ⟨_, _, ⟨T6, L6, k6, n6⟩, -, X6, ⟨Lc6, hQ6, l6, y6, z6⟩, st6⟩ := Jvm.LawKit.callS X5 hx (y := mn_41) hown (mw hZ hw 164 rfl) (mw hZ hw 165 rfl) (mw hZ hw 3 rfl) (mw hZ hw 166 rfl) (by decide) (backOf (W := 0) (rm37 l Z a0 hw [] go ca lo_ (4 : Int32) dg kg zw W ka AL cs fm hT n0 Oh2 E_go Fc_go Fv_go V_dg (own_nneg (by omega)) (own_tn hzw) V_a (by decide) hsm S_CS h_cs S_F h_fm) hZ (ww hw 166 rfl) (ww hw 3 rfl) (by decide) (by decide)) (g := (mkF m 608 #[vI p1, vI p2, vI p3, vI p4, vR ca, vR cb, vI al, vI nl, vI sl, vI f9, vI f10, vI f11, vI f12, vI f13, vR sa, vR sb_, vR go, vI 1, vI lo_, vI hi_] [iI 4, iI lo_, iR ca, iR go])) rfl (by rw [hml]; rfl) (argsL := [(.ref go), (.ref ca), (.int lo_), (.int (4 : Int32))]) (rest := []) (lenOf pd_32 rfl) rfl (wz rfl) (hb hby at_608) (fun _ _ => ⟨rfl, e5, (by decide : 20 + 0 ≤ _), (by decide : 69 + 0 ≤ _)⟩)
  dsimp only [Pt.U, Pt.locs, Pt.cells, Pt.slots] at X6 l6 y6 z6 st6 hQ6
  subst l6 y6 z6
  obtain ⟨rfl, rfl, e6⟩ := hQ6
  try rw [List.append_nil] at X6
  obtain ⟨_, _, ⟨T7, L7, k7, n7⟩, -, X7, ⟨Lc7, hQ7, l7, y7, z7⟩, st7⟩ := Jvm.LawKit.callS X6 hx (y := mn_41) hown (mw hZ hw 164 rfl) (mw hZ hw 165 rfl) (mw hZ hw 3 rfl) (mw hZ hw 166 rfl) (by decide) (backOf (W := 0) (rm37 l Z a0 hw [] go ca lo_ (5 : Int32) dg kg zw W ka AL cs fm hT n0 Oh2 E_go Fc_go Fv_go V_dg (own_nneg (by omega)) (own_tn hzw) V_a (by decide) hsm S_CS h_cs S_F h_fm) hZ (ww hw 166 rfl) (ww hw 3 rfl) (by decide) (by decide)) (g := (mkF m 621 #[vI p1, vI p2, vI p3, vI p4, vR ca, vR cb, vI al, vI nl, vI sl, vI f9, vI f10, vI f11, vI f12, vI f13, vR sa, vR sb_, vR go, vI 1, vI lo_, vI hi_] [iI 5, iI lo_, iR ca, iR go])) rfl (by rw [hml]; rfl) (argsL := [(.ref go), (.ref ca), (.int lo_), (.int (5 : Int32))]) (rest := []) (lenOf pd_32 rfl) rfl (wz rfl) (hb hby at_621) (fun _ _ => ⟨rfl, e6, (by decide : 20 + 0 ≤ _), (by decide : 69 + 0 ≤ _)⟩)
  dsimp only [Pt.U, Pt.locs, Pt.cells, Pt.slots] at X7 l7 y7 z7 st7 hQ7
  subst l7 y7 z7
  obtain ⟨rfl, rfl, e7⟩ := hQ7
  try rw [List.append_nil] at X7
  obtain ⟨fs, hr, hrun, hended, hEnd⟩ := X7.leaveW (s := s) hS0 (by rw [e7]; exact hk0) (v := some (.int (1 : Int32))) (fun h => by rw [hret] at h; cases h)
  refine ⟨_, _, ?_, hrun, hended, _, _, rfl, ?_, ⟨hEnd.1, hEnd.2.1, hEnd.2.2.1, hEnd.2.2.2.mono (by decide) (by decide)⟩⟩
  · refine XS.aload X0.here hx rfl (hb hby at_549) rfl rfl ?_
    refine XS.aload X0.here hx rfl (hb hby at_551) rfl rfl ?_
    refine XS.iload X0.here hx rfl (hb hby at_553) rfl ?_
    refine XS.iconst X0.here hx rfl (hb hby at_555) ?_
    refine st1 _ ?_
    refine XS.ifNo X1.here hx rfl (hb hby at_559) rfl ((if0 _ _).trans (feq (by decide : ¬ ((1 : Int32) = (0 : Int32)))).1) ?_
    refine XS.aload X1.here hx rfl (hb hby at_562) rfl rfl ?_
    refine XS.aload X1.here hx rfl (hb hby at_564) rfl rfl ?_
    refine XS.iload X1.here hx rfl (hb hby at_566) rfl ?_
    refine XS.iconst X1.here hx rfl (hb hby at_568) ?_
    refine st3 _ ?_
    refine XS.ifNo X3.here hx rfl (hb hby at_572) rfl ((if0 _ _).trans (feq (by decide : ¬ ((1 : Int32) = (0 : Int32)))).1) ?_
    refine XS.aload X3.here hx rfl (hb hby at_575) rfl rfl ?_
    refine XS.aload X3.here hx rfl (hb hby at_577) rfl rfl ?_
    refine XS.iload X3.here hx rfl (hb hby at_579) rfl ?_
    refine XS.iconst X3.here hx rfl (hb hby at_581) ?_
    refine st4 _ ?_
    refine XS.ifNo X4.here hx rfl (hb hby at_585) rfl ((if0 _ _).trans (feq (by decide : ¬ ((1 : Int32) = (0 : Int32)))).1) ?_
    refine XS.aload X4.here hx rfl (hb hby at_588) rfl rfl ?_
    refine XS.aload X4.here hx rfl (hb hby at_590) rfl rfl ?_
    refine XS.iload X4.here hx rfl (hb hby at_592) rfl ?_
    refine XS.iconst X4.here hx rfl (hb hby at_594) ?_
    refine st5 _ ?_
    refine XS.ifNo X5.here hx rfl (hb hby at_598) rfl ((if0 _ _).trans (feq (by decide : ¬ ((1 : Int32) = (0 : Int32)))).1) ?_
    refine XS.aload X5.here hx rfl (hb hby at_601) rfl rfl ?_
    refine XS.aload X5.here hx rfl (hb hby at_603) rfl rfl ?_
    refine XS.iload X5.here hx rfl (hb hby at_605) rfl ?_
    refine XS.iconst X5.here hx rfl (hb hby at_607) ?_
    refine st6 _ ?_
    refine XS.ifNo X6.here hx rfl (hb hby at_611) rfl ((if0 _ _).trans (feq (by decide : ¬ ((1 : Int32) = (0 : Int32)))).1) ?_
    refine XS.aload X6.here hx rfl (hb hby at_614) rfl rfl ?_
    refine XS.aload X6.here hx rfl (hb hby at_616) rfl rfl ?_
    refine XS.iload X6.here hx rfl (hb hby at_618) rfl ?_
    refine XS.iconst X6.here hx rfl (hb hby at_620) ?_
    refine st7 _ ?_
    refine XS.ifNo X7.here hx rfl (hb hby at_624) rfl ((if0 _ _).trans (feq (by decide : ¬ ((1 : Int32) = (0 : Int32)))).1) ?_
    refine XS.iconst X7.here hx rfl (hb hby at_627) ?_
    refine XS.goto X7.here hx rfl (pc0 := 628) (pc' := 632) rfl (hb hby at_628) (by decide) (by decide) ?_
    show Steps _ _ _ (T7.setTop (mkF m 632 #[vI p1, vI p2, vI p3, vI p4, vR ca, vR cb, vI al, vI nl, vI sl, vI f9, vI f10, vI f11, vI f12, vI f13, vR sa, vR sb_, vR go, vI 1, vI lo_, vI hi_] [iI 1])) _
    exact retN X7 hx (t := .boolean) hret (by simp) (hb hby at_632) hr
  · show own_Q0 n0 _ T7.heap _
    rw [e7]
    exact ⟨rfl, N0⟩
theorem own_t456s {p : Program} {l : Launch} {e : Env} {s : State} {m : MethodId} {below : List Frame} {meth : Method} {c : Code} {T0 : State} {locs : List Loc} {Z : State} {a0 : Array Value} {h0 hT : Heap} {n0 : Nat} {vmT : Vm} {kT : Nat} {p1 : Int32} {p2 : Int32} {p3 : Int32} {p4 : Int32} {cs : Int32} {fm : Value} {s_T s_I : Addr} {cl : Cell} {ca cb : Addr} {al nl sl f9 f10 f11 f12 f13 : Int32} {ka kb : ClassId} {AL SL : List Int32} {sa sb_ go dg : Addr} {kg : ClassId} {zw : Int32} {W : List Int32}
    (X0 : Stand p l e room_1 (s.setVm vmT) m #[(.int p1), (.int p2), (.int p3), (.int p4)] below meth c T0 locs 20 69) (hx : p.tables.exec = Jvm.exec) (hZ : Z.Warmed39 (s.setVm vmT).vm) (hw : HW a0 Z) (hby : c.code = code) (hml : c.maxLocals = 20) (hown : (s.setVm vmT).vm.findClass "com/example/cloud_to_core/cloudtocore/auth/HttpAuthorizationCredentialsPinLaw" = some m.cls) (hret : meth.sig.returnType = some .boolean) (hlocks : meth.locks = false) (e0 : T0.heap = hT) (Kt0 : Keep h0 hT []) (N0 : Fr n0 locs) (Z0 : n0 ≤ h0.size) (O0 : Old Z n0 h0) (hS0 : s.Since vmT kT) (hk0 : kT ≤ hT.size) (RT : CHr Z consts_1 s.vm h0 vmT hT) (hh : s.heap = h0) (V_a : AC Z hT ca ka (6 : Int32) AL) (E_go : ES Z hT go) (Fc_go : FC Z hT go) (Fv_go : FV Z hT go dg) (V_dg : AB Z hT dg kg zw W) (hA : AL.length = 6) (okA : ∀ x ∈ AL, own_c8 x) (ra : 0 ≤ al.toInt ∧ al.toInt ≤ 6) (rs : 0 ≤ sl.toInt ∧ sl.toInt ≤ 3) (hzw : zw.toInt = (W.length : Int)) (hle' : sl.toInt ≤ al.toInt) (hne : ¬ al = sl) (h32 : AL.getD sl.toNatClampNeg 0 = (32 : Int32)) (hW : W = own_strip ((own_tk2 AL al).drop sl.toNatClampNeg)) (S_CS : SC Z cs) (h_cs : ¬ cs = (0 : Int32)) (S_F : SM Z fm) (h_fm : fm.isRef = true) (S_T : ST Z s_T) (TB : Tab Z Z.heap s_T cl .int (256 : Int32)) (hTb : HT cl) (S_I : SI Z s_I) (E_I : Exa Z Z.heap s_I "java/lang/CharacterDataLatin1") :
    ∃ s₂ o, Steps p.tables e below (T0.setTop (mkF m 456 #[vI p1, vI p2, vI p3, vI p4, vR ca, vR cb, vI al, vI nl, vI sl, vI f9, vI f10, vI f11, vI f12, vI f13, vR sa, vR sb_, vR go, .unset, .unset, .unset] [])) s₂ ∧ s₂.status = .running ∧ Ended s₂ below o ∧ ∃ v L, o = .returned v ∧ own_Q0 n0 v s₂.heap L ∧ ReturnedEndW s o s₂ L room_1.cells room_1.slots := by
  have hh1 : ¬ (al = sl) := hne
  obtain ⟨cl2, Ar2, q2, S2, M2, H2, G2⟩ := id V_a
  have hin3 := inb_of (j := sl) S2 (own_in6 rs)
  have hat4 : cl2.slots[(sl).toNatClampNeg]? = some (.int (AL.getD sl.toNatClampNeg 0)) := Has.at H2 hin3 (own_bsget AL _)
  have hh5 : (AL.getD sl.toNatClampNeg 0) = (32 : Int32) := h32
  obtain ⟨_, _, ⟨T6, L6, k6, n6⟩, -, X6, ⟨Lc6, hQ6, l6, y6, z6⟩, st6⟩ := Jvm.LawKit.callS X0 hx (y := mn_39) hown (mw hZ hw 154 rfl) (mw hZ hw 155 rfl) (mw hZ hw 3 rfl) (mw hZ hw 156 rfl) (by decide) (backOf (W := 0) (rm34 l Z a0 hw [] ca sl al ka AL hT V_a) hZ (ww hw 156 rfl) (ww hw 3 rfl) (by decide) (by decide)) (g := (mkF m 502 #[vI p1, vI p2, vI p3, vI p4, vR ca, vR cb, vI al, vI nl, vI sl, vI f9, vI f10, vI f11, vI f12, vI f13, vR sa, vR sb_, vR go, vI 1, .unset, .unset] [iI al, iI sl, iR ca])) rfl (by rw [hml]; rfl) (argsL := [(.ref ca), (.int sl), (.int al)]) (rest := []) (lenOf pd_33 rfl) rfl (wz rfl) (hb hby at_502) (fun _ _ => ⟨rfl, e0, (by decide : 20 + 0 ≤ _), (by decide : 69 + 0 ≤ _)⟩)
  dsimp only [Pt.U, Pt.locs, Pt.cells, Pt.slots] at X6 l6 y6 z6 st6 hQ6
  subst l6 y6 z6
  obtain ⟨rfl, rfl, e6⟩ := hQ6
  try rw [List.append_nil] at X6
  obtain ⟨lo_, hlo_⟩ : ∃ z_ : Int32, z_ = (own_loF AL sl al) := ⟨_, rfl⟩
  have hlo : lo_.toInt = sl.toInt + (own_lw ((own_tk2 AL al).drop sl.toNatClampNeg) : Int) := by rw [hlo_]; exact own_loS hA okA rs ra hle'
  obtain ⟨_, _, ⟨T8, L8, k8, n8⟩, -, X8, ⟨Lc8, hQ8, l8, y8, z8⟩, st8⟩ := Jvm.LawKit.callS X6 hx (y := mn_40) hown (mw hZ hw 160 rfl) (mw hZ hw 161 rfl) (mw hZ hw 3 rfl) (mw hZ hw 162 rfl) (by decide) (backOf (W := 0) (rm36 l Z a0 hw [] ca sl al ka AL hT V_a) hZ (ww hw 162 rfl) (ww hw 3 rfl) (by decide) (by decide)) (g := (mkF m 513 #[vI p1, vI p2, vI p3, vI p4, vR ca, vR cb, vI al, vI nl, vI sl, vI f9, vI f10, vI f11, vI f12, vI f13, vR sa, vR sb_, vR go, vI 1, vI lo_, .unset] [iI al, iI sl, iR ca])) rfl (by rw [hml]; rfl) (argsL := [(.ref ca), (.int sl), (.int al)]) (rest := []) (lenOf pd_33 rfl) rfl (wz rfl) (hb hby at_513) (fun _ _ => ⟨rfl, e6, (by decide : 20 + 0 ≤ _), (by decide : 69 + 0 ≤ _)⟩)
  dsimp only [Pt.U, Pt.locs, Pt.cells, Pt.slots] at X8 l8 y8 z8 st8 hQ8
  subst l8 y8 z8
  obtain ⟨rfl, rfl, e8⟩ := hQ8
  try rw [List.append_nil] at X8
  obtain ⟨hi_, hhi_⟩ : ∃ z_ : Int32, z_ = (own_hiF AL sl al) := ⟨_, rfl⟩
  have hhi : hi_.toInt = sl.toInt + (own_hw ((own_tk2 AL al).drop sl.toNatClampNeg) ((own_tk2 AL al).drop sl.toNatClampNeg).length : Int) := by rw [hhi_]; exact own_hiS hA okA rs ra hle'
  have hsm := own_finC hA okA ra rs hW hlo hzw
  have pre11 : PP p e below (T8.setTop (mkF m 522 #[vI p1, vI p2, vI p3, vI p4, vR ca, vR cb, vI al, vI nl, vI sl, vI f9, vI f10, vI f11, vI f12, vI f13, vR sa, vR sb_, vR go, vI 1, vI lo_, vI hi_] [iI lo_, iI hi_])) (T0.setTop (mkF m 456 #[vI p1, vI p2, vI p3, vI p4, vR ca, vR cb, vI al, vI nl, vI sl, vI f9, vI f10, vI f11, vI f12, vI f13, vR sa, vR sb_, vR go, .unset, .unset, .unset] [])) := by
    intro t kt
    refine XS.iconst X0.here hx rfl (hb hby at_456) ?_
    refine XS.goto X0.here hx rfl (pc0 := 457) (pc' := 461) rfl (hb hby at_457) (by decide) (by decide) ?_
    refine XS.istore X0.here hx rfl (hb hby at_461) rfl (l' := #[vI p1, vI p2, vI p3, vI p4, vR ca, vR cb, vI al, vI nl, vI sl, vI f9, vI f10, vI f11, vI f12, vI f13, vR sa, vR sb_, vR go, vI 1, .unset, .unset]) rfl ?_
    refine XS.iload X0.here hx rfl (hb hby at_463) rfl ?_
    refine XS.ifNo X0.here hx rfl (hb hby at_465) rfl ((if0 _ _).trans (feq (by decide : ¬ ((1 : Int32) = (0 : Int32)))).1) ?_
    refine XS.iload X0.here hx rfl (hb hby at_468) rfl ?_
    show SA T0 m 470 #[vI p1, vI p2, vI p3, vI p4, vR ca, vR cb, vI al, vI nl, vI sl, vI f9, vI f10, vI f11, vI f12, vI f13, vR sa, vR sb_, vR go, vI 1, .unset, .unset] [iI al]
    refine XS.iload X0.here hx rfl (hb hby at_470) rfl ?_
    refine XS.icmpNo X0.here hx rfl (hb hby at_472) rfl (feq hh1).1 ?_
    refine XS.aload X0.here hx rfl (hb hby at_475) rfl rfl ?_
    refine XS.iload X0.here hx rfl (hb hby at_477) rfl ?_
    refine X0.caload hx (j := sl) (v := (.int (AL.getD sl.toNatClampNeg 0))) (by rw [e0]; exact Ar2.1) (State.isArrayOf_alike hZ.alike Ar2.2.1) Ar2.2.2 hin3 hat4 (g := (mkF m 479 #[vI p1, vI p2, vI p3, vI p4, vR ca, vR cb, vI al, vI nl, vI sl, vI f9, vI f10, vI f11, vI f12, vI f13, vR sa, vR sb_, vR go, vI 1, .unset, .unset] [iI sl, iR ca])) rfl rfl (hb hby at_479) _ ?_
    refine XS.bipush X0.here hx rfl (hb hby at_480) ?_
    refine XS.icmpYes X0.here hx rfl (pc0 := 482) (pc' := 496) rfl (hb hby at_482) rfl (teq hh5).1 (by decide) (by decide) ?_
    refine XS.aload X0.here hx rfl (hb hby at_496) rfl rfl ?_
    refine XS.iload X0.here hx rfl (hb hby at_498) rfl ?_
    refine XS.iload X0.here hx rfl (hb hby at_500) rfl ?_
    refine st6 _ ?_
    rw [← hlo_]
    refine XS.istore X6.here hx rfl (hb hby at_505) rfl (l' := #[vI p1, vI p2, vI p3, vI p4, vR ca, vR cb, vI al, vI nl, vI sl, vI f9, vI f10, vI f11, vI f12, vI f13, vR sa, vR sb_, vR go, vI 1, vI lo_, .unset]) rfl ?_
    refine XS.aload X6.here hx rfl (hb hby at_507) rfl rfl ?_
    refine XS.iload X6.here hx rfl (hb hby at_509) rfl ?_
    refine XS.iload X6.here hx rfl (hb hby at_511) rfl ?_
    refine st8 _ ?_
    rw [← hhi_]
    refine XS.istore X8.here hx rfl (hb hby at_516) rfl (l' := #[vI p1, vI p2, vI p3, vI p4, vR ca, vR cb, vI al, vI nl, vI sl, vI f9, vI f10, vI f11, vI f12, vI f13, vR sa, vR sb_, vR go, vI 1, vI lo_, vI hi_]) rfl ?_
    refine XS.iload X8.here hx rfl (hb hby at_518) rfl ?_
    refine XS.iload X8.here hx rfl (hb hby at_520) rfl ?_
    exact kt
  by_cases hc10 : hi_ < lo_
  · have Oh13 := O0.keep Kt0 all0
    obtain ⟨cq12, kq12, q12a, q12b, q12c⟩ := isOf hZ e8 E_go
    obtain ⟨_, _, ⟨T12, L12, k12, n12⟩, -, X12, ⟨Lc12, hQ12, l12, y12, z12⟩, st12⟩ := X8.virtualBack hx (y := mn_11) (z := mn_11) hown (mw hZ hw 163 rfl) (mw hZ hw 42 rfl) (notFace_of_selects (args := #[]) (mw hZ hw 44 rfl)) (mw hZ hw 44 rfl) (mw hZ hw 43 rfl) (by decide) (backOf (W := 0) (rm9 l Z a0 hw [] go dg kg zw W cs hT n0 Oh13 E_go Fc_go Fv_go V_dg (own_nneg (by omega)) (own_tn hzw) S_CS h_cs) hZ (ww hw 45 rfl) (ww hw 7 rfl) (by decide) (by decide)) q12a q12c (g := (mkF m 536 #[vI p1, vI p2, vI p3, vI p4, vR ca, vR cb, vI al, vI nl, vI sl, vI f9, vI f10, vI f11, vI f12, vI f13, vR sa, vR sb_, vR go, vI 1, vI lo_, vI lo_] [iR go])) rfl (by rw [hml]; rfl) (Steps.refl _) (argsL := []) (rest := []) (lenOf pd_10 rfl) rfl (wz rfl) (hb hby at_536) (fun _ _ => ⟨rfl, e8, (by decide : 20 + 0 ≤ _), (by decide : 69 + 0 ≤ _)⟩)
    dsimp only [Pt.U, Pt.locs, Pt.cells, Pt.slots] at X12 l12 y12 z12 st12 hQ12
    subst l12 y12 z12
    obtain ⟨rfl, rfl, e12⟩ := hQ12
    try rw [List.append_nil] at X12
    have hh14 : zw = (lo_ - lo_) := (own_finA hW hlo hhi hzw hc10)
    have pre15 : PP p e below (T12.setTop (mkF m 549 #[vI p1, vI p2, vI p3, vI p4, vR ca, vR cb, vI al, vI nl, vI sl, vI f9, vI f10, vI f11, vI f12, vI f13, vR sa, vR sb_, vR go, vI 1, vI lo_, vI lo_] [])) (T0.setTop (mkF m 456 #[vI p1, vI p2, vI p3, vI p4, vR ca, vR cb, vI al, vI nl, vI sl, vI f9, vI f10, vI f11, vI f12, vI f13, vR sa, vR sb_, vR go, .unset, .unset, .unset] [])) := by
      intro t kt
      refine pre11 t ?_
      refine XS.icmpNo X8.here hx rfl (hb hby at_522) rfl (tlt hc10).2.1 ?_
      refine XS.iload X8.here hx rfl (hb hby at_525) rfl ?_
      refine XS.istore X8.here hx rfl (hb hby at_527) rfl (l' := #[vI p1, vI p2, vI p3, vI p4, vR ca, vR cb, vI al, vI nl, vI sl, vI f9, vI f10, vI f11, vI f12, vI f13, vR sa, vR sb_, vR go, vI 1, vI lo_, vI lo_]) rfl ?_
      refine XS.aload X8.here hx rfl (hb hby at_529) rfl rfl ?_
      refine XS.ifnullNo X8.here hx rfl (hb hby at_531) rfl ?_
      refine XS.aload X8.here hx rfl (hb hby at_534) rfl rfl ?_
      show SA T8 m 536 #[vI p1, vI p2, vI p3, vI p4, vR ca, vR cb, vI al, vI nl, vI sl, vI f9, vI f10, vI f11, vI f12, vI f13, vR sa, vR sb_, vR go, vI 1, vI lo_, vI lo_] [iR go]
      refine st12.trans ?_
      refine XS.iload X12.here hx rfl (hb hby at_539) rfl ?_
      refine XS.iload X12.here hx rfl (hb hby at_541) rfl ?_
      refine XS.isub X12.here hx rfl (hb hby at_543) rfl ?_
      refine XS.icmpYes X12.here hx rfl (pc0 := 544) (pc' := 549) rfl (hb hby at_544) rfl (teq hh14).1 (by decide) (by decide) ?_
      exact kt
    obtain ⟨s₂, o₂, hs₂, hr₂⟩ := own_t549 (ca := ca) (cb := cb) (al := al) (nl := nl) (sl := sl) (f9 := f9) (f10 := f10) (f11 := f11) (f12 := f12) (f13 := f13) (ka := ka) (kb := kb) (AL := AL) (SL := SL) (sa := sa) (sb_ := sb_) (go := go) (dg := dg) (kg := kg) (zw := zw) (W := W) (lo_ := lo_) (hi_ := lo_) (s := s) (vmT := vmT) (X12.more (by decide) (by decide)) hx hZ hw hby hml hown hret hlocks e12 Kt0 N0 Z0 O0 hS0 hk0 RT hh V_a E_go Fc_go Fv_go V_dg hzw hsm S_CS h_cs S_F h_fm S_T TB hTb S_I E_I
    exact ⟨s₂, o₂, pre15 _ hs₂, hr₂⟩
  · have Oh17 := O0.keep Kt0 all0
    obtain ⟨cq16, kq16, q16a, q16b, q16c⟩ := isOf hZ e8 E_go
    obtain ⟨_, _, ⟨T16, L16, k16, n16⟩, -, X16, ⟨Lc16, hQ16, l16, y16, z16⟩, st16⟩ := X8.virtualBack hx (y := mn_11) (z := mn_11) hown (mw hZ hw 163 rfl) (mw hZ hw 42 rfl) (notFace_of_selects (args := #[]) (mw hZ hw 44 rfl)) (mw hZ hw 44 rfl) (mw hZ hw 43 rfl) (by decide) (backOf (W := 0) (rm9 l Z a0 hw [] go dg kg zw W cs hT n0 Oh17 E_go Fc_go Fv_go V_dg (own_nneg (by omega)) (own_tn hzw) S_CS h_cs) hZ (ww hw 45 rfl) (ww hw 7 rfl) (by decide) (by decide)) q16a q16c (g := (mkF m 536 #[vI p1, vI p2, vI p3, vI p4, vR ca, vR cb, vI al, vI nl, vI sl, vI f9, vI f10, vI f11, vI f12, vI f13, vR sa, vR sb_, vR go, vI 1, vI lo_, vI hi_] [iR go])) rfl (by rw [hml]; rfl) (Steps.refl _) (argsL := []) (rest := []) (lenOf pd_10 rfl) rfl (wz rfl) (hb hby at_536) (fun _ _ => ⟨rfl, e8, (by decide : 20 + 0 ≤ _), (by decide : 69 + 0 ≤ _)⟩)
    dsimp only [Pt.U, Pt.locs, Pt.cells, Pt.slots] at X16 l16 y16 z16 st16 hQ16
    subst l16 y16 z16
    obtain ⟨rfl, rfl, e16⟩ := hQ16
    try rw [List.append_nil] at X16
    have hh18 : zw = (hi_ - lo_) := (own_finB hW hlo hhi hzw hc10)
    have pre19 : PP p e below (T16.setTop (mkF m 549 #[vI p1, vI p2, vI p3, vI p4, vR ca, vR cb, vI al, vI nl, vI sl, vI f9, vI f10, vI f11, vI f12, vI f13, vR sa, vR sb_, vR go, vI 1, vI lo_, vI hi_] [])) (T0.setTop (mkF m 456 #[vI p1, vI p2, vI p3, vI p4, vR ca, vR cb, vI al, vI nl, vI sl, vI f9, vI f10, vI f11, vI f12, vI f13, vR sa, vR sb_, vR go, .unset, .unset, .unset] [])) := by
      intro t kt
      refine pre11 t ?_
      refine XS.icmpYes X8.here hx rfl (pc0 := 522) (pc' := 529) rfl (hb hby at_522) rfl (flt hc10).2.1 (by decide) (by decide) ?_
      refine XS.aload X8.here hx rfl (hb hby at_529) rfl rfl ?_
      refine XS.ifnullNo X8.here hx rfl (hb hby at_531) rfl ?_
      refine XS.aload X8.here hx rfl (hb hby at_534) rfl rfl ?_
      refine st16.trans ?_
      refine XS.iload X16.here hx rfl (hb hby at_539) rfl ?_
      refine XS.iload X16.here hx rfl (hb hby at_541) rfl ?_
      refine XS.isub X16.here hx rfl (hb hby at_543) rfl ?_
      refine XS.icmpYes X16.here hx rfl (pc0 := 544) (pc' := 549) rfl (hb hby at_544) rfl (teq hh18).1 (by decide) (by decide) ?_
      exact kt
    obtain ⟨s₂, o₂, hs₂, hr₂⟩ := own_t549 (ca := ca) (cb := cb) (al := al) (nl := nl) (sl := sl) (f9 := f9) (f10 := f10) (f11 := f11) (f12 := f12) (f13 := f13) (ka := ka) (kb := kb) (AL := AL) (SL := SL) (sa := sa) (sb_ := sb_) (go := go) (dg := dg) (kg := kg) (zw := zw) (W := W) (lo_ := lo_) (hi_ := hi_) (s := s) (vmT := vmT) (X16.more (by decide) (by decide)) hx hZ hw hby hml hown hret hlocks e16 Kt0 N0 Z0 O0 hS0 hk0 RT hh V_a E_go Fc_go Fv_go V_dg hzw hsm S_CS h_cs S_F h_fm S_T TB hTb S_I E_I
    exact ⟨s₂, o₂, pre19 _ hs₂, hr₂⟩
theorem own_t456n {p : Program} {l : Launch} {e : Env} {s : State} {m : MethodId} {below : List Frame} {meth : Method} {c : Code} {T0 : State} {locs : List Loc} {Z : State} {a0 : Array Value} {h0 hT : Heap} {n0 : Nat} {vmT : Vm} {kT : Nat} {p1 : Int32} {p2 : Int32} {p3 : Int32} {p4 : Int32} {cs : Int32} {fm : Value} {s_T s_I : Addr} {cl : Cell} {ca cb : Addr} {al nl sl f9 f10 f11 f12 f13 : Int32} {ka kb : ClassId} {AL SL : List Int32} {sa sb_ : Addr}
    (X0 : Stand p l e room_1 (s.setVm vmT) m #[(.int p1), (.int p2), (.int p3), (.int p4)] below meth c T0 locs 20 69) (hx : p.tables.exec = Jvm.exec) (hZ : Z.Warmed39 (s.setVm vmT).vm) (hw : HW a0 Z) (hby : c.code = code) (hml : c.maxLocals = 20) (hown : (s.setVm vmT).vm.findClass "com/example/cloud_to_core/cloudtocore/auth/HttpAuthorizationCredentialsPinLaw" = some m.cls) (hret : meth.sig.returnType = some .boolean) (hlocks : meth.locks = false) (e0 : T0.heap = hT) (Kt0 : Keep h0 hT []) (N0 : Fr n0 locs) (Z0 : n0 ≤ h0.size) (O0 : Old Z n0 h0) (hS0 : s.Since vmT kT) (hk0 : kT ≤ hT.size) (RT : CHr Z consts_1 s.vm h0 vmT hT) (hh : s.heap = h0) (V_a : AC Z hT ca ka (6 : Int32) AL) (hA : AL.length = 6) (okA : ∀ x ∈ AL, own_c8 x) (hS : SL.length = 3) (okS : ∀ x ∈ SL, own_c8 x) (ra : 0 ≤ al.toInt ∧ al.toInt ≤ 6) (rs : 0 ≤ sl.toInt ∧ sl.toInt ≤ 3) (hCn : own_cred (own_tk2 AL al) (own_tk2 SL sl) = none) (hle : ¬ al < sl) (hfq : own_fq AL SL sl) (S_CS : SC Z cs) (h_cs : ¬ cs = (0 : Int32)) (S_F : SM Z fm) (h_fm : fm.isRef = true) (S_T : ST Z s_T) (TB : Tab Z Z.heap s_T cl .int (256 : Int32)) (hTb : HT cl) (S_I : SI Z s_I) (E_I : Exa Z Z.heap s_I "java/lang/CharacterDataLatin1") :
    ∃ s₂ o, Steps p.tables e below (T0.setTop (mkF m 456 #[vI p1, vI p2, vI p3, vI p4, vR ca, vR cb, vI al, vI nl, vI sl, vI f9, vI f10, vI f11, vI f12, vI f13, vR sa, vR sb_, .val .null, .unset, .unset, .unset] [])) s₂ ∧ s₂.status = .running ∧ Ended s₂ below o ∧ ∃ v L, o = .returned v ∧ own_Q0 n0 v s₂.heap L ∧ ReturnedEndW s o s₂ L room_1.cells room_1.slots := by
  have pre2 : PP p e below (T0.setTop (mkF m 472 #[vI p1, vI p2, vI p3, vI p4, vR ca, vR cb, vI al, vI nl, vI sl, vI f9, vI f10, vI f11, vI f12, vI f13, vR sa, vR sb_, .val .null, vI 1, .unset, .unset] [iI sl, iI al])) (T0.setTop (mkF m 456 #[vI p1, vI p2, vI p3, vI p4, vR ca, vR cb, vI al, vI nl, vI sl, vI f9, vI f10, vI f11, vI f12, vI f13, vR sa, vR sb_, .val .null, .unset, .unset, .unset] [])) := by
    intro t kt
    refine XS.iconst X0.here hx rfl (hb hby at_456) ?_
    refine XS.goto X0.here hx rfl (pc0 := 457) (pc' := 461) rfl (hb hby at_457) (by decide) (by decide) ?_
    refine XS.istore X0.here hx rfl (hb hby at_461) rfl (l' := #[vI p1, vI p2, vI p3, vI p4, vR ca, vR cb, vI al, vI nl, vI sl, vI f9, vI f10, vI f11, vI f12, vI f13, vR sa, vR sb_, .val .null, vI 1, .unset, .unset]) rfl ?_
    refine XS.iload X0.here hx rfl (hb hby at_463) rfl ?_
    refine XS.ifNo X0.here hx rfl (hb hby at_465) rfl ((if0 _ _).trans (feq (by decide : ¬ ((1 : Int32) = (0 : Int32)))).1) ?_
    refine XS.iload X0.here hx rfl (hb hby at_468) rfl ?_
    show SA T0 m 470 #[vI p1, vI p2, vI p3, vI p4, vR ca, vR cb, vI al, vI nl, vI sl, vI f9, vI f10, vI f11, vI f12, vI f13, vR sa, vR sb_, .val .null, vI 1, .unset, .unset] [iI al]
    refine XS.iload X0.here hx rfl (hb hby at_470) rfl ?_
    exact kt
  by_cases hc1 : al = sl
  · obtain ⟨fs, hr, hrun, hended, hEnd⟩ := X0.leaveW (s := s) hS0 (by rw [e0]; exact hk0) (v := some (.int (1 : Int32))) (fun h => by rw [hret] at h; cases h)
    refine ⟨_, _, pre2 _ ?_, hrun, hended, _, _, rfl, ?_, ⟨hEnd.1, hEnd.2.1, hEnd.2.2.1, hEnd.2.2.2.mono (by decide) (by decide)⟩⟩
    · refine XS.icmpYes X0.here hx rfl (pc0 := 472) (pc' := 485) rfl (hb hby at_472) rfl (teq hc1).1 (by decide) (by decide) ?_
      refine XS.aload X0.here hx rfl (hb hby at_485) rfl rfl ?_
      refine XS.ifnonnullNo X0.here hx rfl (hb hby at_487) rfl ?_
      refine XS.iconst X0.here hx rfl (hb hby at_490) ?_
      refine XS.goto X0.here hx rfl (pc0 := 491) (pc' := 495) rfl (hb hby at_491) (by decide) (by decide) ?_
      show Steps _ _ _ (T0.setTop (mkF m 495 #[vI p1, vI p2, vI p3, vI p4, vR ca, vR cb, vI al, vI nl, vI sl, vI f9, vI f10, vI f11, vI f12, vI f13, vR sa, vR sb_, .val .null, vI 1, .unset, .unset] [iI 1])) _
      exact retN X0 hx (t := .boolean) hret (by simp) (hb hby at_495) hr
    · show own_Q0 n0 _ T0.heap _
      rw [e0]
      exact ⟨rfl, N0⟩
  · obtain ⟨cl3, Ar3, q3, S3, M3, H3, G3⟩ := id V_a
    have hin4 := inb_of (j := sl) S3 (own_in6 rs)
    have hat5 : cl3.slots[(sl).toNatClampNeg]? = some (.int (AL.getD sl.toNatClampNeg 0)) := Has.at H3 hin4 (own_bsget AL _)
    have pre7 : PP p e below (T0.setTop (mkF m 482 #[vI p1, vI p2, vI p3, vI p4, vR ca, vR cb, vI al, vI nl, vI sl, vI f9, vI f10, vI f11, vI f12, vI f13, vR sa, vR sb_, .val .null, vI 1, .unset, .unset] [iI 32, iI (AL.getD sl.toNatClampNeg 0)])) (T0.setTop (mkF m 456 #[vI p1, vI p2, vI p3, vI p4, vR ca, vR cb, vI al, vI nl, vI sl, vI f9, vI f10, vI f11, vI f12, vI f13, vR sa, vR sb_, .val .null, .unset, .unset, .unset] [])) := by
      intro t kt
      refine pre2 t ?_
      refine XS.icmpNo X0.here hx rfl (hb hby at_472) rfl (feq hc1).1 ?_
      refine XS.aload X0.here hx rfl (hb hby at_475) rfl rfl ?_
      refine XS.iload X0.here hx rfl (hb hby at_477) rfl ?_
      refine X0.caload hx (j := sl) (v := (.int (AL.getD sl.toNatClampNeg 0))) (by rw [e0]; exact Ar3.1) (State.isArrayOf_alike hZ.alike Ar3.2.1) Ar3.2.2 hin4 hat5 (g := (mkF m 479 #[vI p1, vI p2, vI p3, vI p4, vR ca, vR cb, vI al, vI nl, vI sl, vI f9, vI f10, vI f11, vI f12, vI f13, vR sa, vR sb_, .val .null, vI 1, .unset, .unset] [iI sl, iR ca])) rfl rfl (hb hby at_479) _ ?_
      refine XS.bipush X0.here hx rfl (hb hby at_480) ?_
      exact kt
    by_cases hc6 : (AL.getD sl.toNatClampNeg 0) = (32 : Int32)
    · exfalso; exact own_credD hA hS okA okS ra rs hCn hle hfq hc1 hc6
    · obtain ⟨fs, hr, hrun, hended, hEnd⟩ := X0.leaveW (s := s) hS0 (by rw [e0]; exact hk0) (v := some (.int (1 : Int32))) (fun h => by rw [hret] at h; cases h)
      refine ⟨_, _, pre7 _ ?_, hrun, hended, _, _, rfl, ?_, ⟨hEnd.1, hEnd.2.1, hEnd.2.2.1, hEnd.2.2.2.mono (by decide) (by decide)⟩⟩
      · refine XS.icmpNo X0.here hx rfl (hb hby at_482) rfl (feq hc6).1 ?_
        refine XS.aload X0.here hx rfl (hb hby at_485) rfl rfl ?_
        refine XS.ifnonnullNo X0.here hx rfl (hb hby at_487) rfl ?_
        refine XS.iconst X0.here hx rfl (hb hby at_490) ?_
        refine XS.goto X0.here hx rfl (pc0 := 491) (pc' := 495) rfl (hb hby at_491) (by decide) (by decide) ?_
        show Steps _ _ _ (T0.setTop (mkF m 495 #[vI p1, vI p2, vI p3, vI p4, vR ca, vR cb, vI al, vI nl, vI sl, vI f9, vI f10, vI f11, vI f12, vI f13, vR sa, vR sb_, .val .null, vI 1, .unset, .unset] [iI 1])) _
        exact retN X0 hx (t := .boolean) hret (by simp) (hb hby at_495) hr
      · show own_Q0 n0 _ T0.heap _
        rw [e0]
        exact ⟨rfl, N0⟩
theorem own_t456 {p : Program} {l : Launch} {e : Env} {s : State} {m : MethodId} {below : List Frame} {meth : Method} {c : Code} {T0 : State} {locs : List Loc} {Z : State} {a0 : Array Value} {h0 hT : Heap} {n0 : Nat} {vmT : Vm} {kT : Nat} {p1 : Int32} {p2 : Int32} {p3 : Int32} {p4 : Int32} {cs : Int32} {fm : Value} {s_T s_I : Addr} {cl : Cell} {ca cb : Addr} {al nl sl f9 f10 f11 f12 f13 : Int32} {ka kb : ClassId} {AL SL : List Int32} {sa sb_ : Addr} {gv : Value}
    (X0 : Stand p l e room_1 (s.setVm vmT) m #[(.int p1), (.int p2), (.int p3), (.int p4)] below meth c T0 locs 20 69) (hx : p.tables.exec = Jvm.exec) (hZ : Z.Warmed39 (s.setVm vmT).vm) (hw : HW a0 Z) (hby : c.code = code) (hml : c.maxLocals = 20) (hown : (s.setVm vmT).vm.findClass "com/example/cloud_to_core/cloudtocore/auth/HttpAuthorizationCredentialsPinLaw" = some m.cls) (hret : meth.sig.returnType = some .boolean) (hlocks : meth.locks = false) (e0 : T0.heap = hT) (Kt0 : Keep h0 hT []) (N0 : Fr n0 locs) (Z0 : n0 ≤ h0.size) (O0 : Old Z n0 h0) (hS0 : s.Since vmT kT) (hk0 : kT ≤ hT.size) (RT : CHr Z consts_1 s.vm h0 vmT hT) (hh : s.heap = h0) (V_a : AC Z hT ca ka (6 : Int32) AL) (V_b : AC Z hT cb kb (3 : Int32) SL) (hA : AL.length = 6) (okA : ∀ x ∈ AL, own_c8 x) (hS : SL.length = 3) (okS : ∀ x ∈ SL, own_c8 x) (ra : 0 ≤ al.toInt ∧ al.toInt ≤ 6) (rs : 0 ≤ sl.toInt ∧ sl.toInt ≤ 3) (hPG : own_PG Z hT (own_tk2 AL al) (own_tk2 SL sl) gv) (hle : ¬ al < sl) (hfq : own_fq AL SL sl) (S_CS : SC Z cs) (h_cs : ¬ cs = (0 : Int32)) (S_F : SM Z fm) (h_fm : fm.isRef = true) (S_T : ST Z s_T) (TB : Tab Z Z.heap s_T cl .int (256 : Int32)) (hTb : HT cl) (S_I : SI Z s_I) (E_I : Exa Z Z.heap s_I "java/lang/CharacterDataLatin1") :
    ∃ s₂ o, Steps p.tables e below (T0.setTop (mkF m 456 #[vI p1, vI p2, vI p3, vI p4, vR ca, vR cb, vI al, vI nl, vI sl, vI f9, vI f10, vI f11, vI f12, vI f13, vR sa, vR sb_, .val gv, .unset, .unset, .unset] [])) s₂ ∧ s₂.status = .running ∧ Ended s₂ below o ∧ ∃ v L, o = .returned v ∧ own_Q0 n0 v s₂.heap L ∧ ReturnedEndW s o s₂ L room_1.cells room_1.slots := by
  obtain ⟨rfl, hCn⟩ | ⟨W, go, dg, kg, zw, rfl, E_go, Fc_go, Fv_go, V_dg, hzw, hCs⟩ := hPG
  · exact own_t456n (kb := kb) (SL := SL) X0 hx hZ hw hby hml hown hret hlocks e0 Kt0 N0 Z0 O0 hS0 hk0 RT hh V_a hA okA hS okS ra rs hCn hle hfq S_CS h_cs S_F h_fm S_T TB hTb S_I E_I
  · obtain ⟨hle', -, hne, h32, hW⟩ := own_credS hA hS okA okS ra rs hCs
    exact own_t456s (kb := kb) (SL := SL) X0 hx hZ hw hby hml hown hret hlocks e0 Kt0 N0 Z0 O0 hS0 hk0 RT hh V_a E_go Fc_go Fv_go V_dg hA okA ra rs hzw hle' hne h32 hW S_CS h_cs S_F h_fm S_T TB hTb S_I E_I
theorem own_t460n {p : Program} {l : Launch} {e : Env} {s : State} {m : MethodId} {below : List Frame} {meth : Method} {c : Code} {T0 : State} {locs : List Loc} {Z : State} {a0 : Array Value} {h0 hT : Heap} {n0 : Nat} {vmT : Vm} {kT : Nat} {p1 : Int32} {p2 : Int32} {p3 : Int32} {p4 : Int32} {cs : Int32} {fm : Value} {s_T s_I : Addr} {cl : Cell} {ca cb : Addr} {al nl sl f9 f10 f11 f12 f13 : Int32} {ka kb : ClassId} {AL SL : List Int32} {sa sb_ : Addr}
    (X0 : Stand p l e room_1 (s.setVm vmT) m #[(.int p1), (.int p2), (.int p3), (.int p4)] below meth c T0 locs 20 69) (hx : p.tables.exec = Jvm.exec) (hZ : Z.Warmed39 (s.setVm vmT).vm) (hw : HW a0 Z) (hby : c.code = code) (hml : c.maxLocals = 20) (hown : (s.setVm vmT).vm.findClass "com/example/cloud_to_core/cloudtocore/auth/HttpAuthorizationCredentialsPinLaw" = some m.cls) (hret : meth.sig.returnType = some .boolean) (hlocks : meth.locks = false) (e0 : T0.heap = hT) (Kt0 : Keep h0 hT []) (N0 : Fr n0 locs) (Z0 : n0 ≤ h0.size) (O0 : Old Z n0 h0) (hS0 : s.Since vmT kT) (hk0 : kT ≤ hT.size) (RT : CHr Z consts_1 s.vm h0 vmT hT) (hh : s.heap = h0) (V_a : AC Z hT ca ka (6 : Int32) AL) (S_CS : SC Z cs) (h_cs : ¬ cs = (0 : Int32)) (S_F : SM Z fm) (h_fm : fm.isRef = true) (S_T : ST Z s_T) (TB : Tab Z Z.heap s_T cl .int (256 : Int32)) (hTb : HT cl) (S_I : SI Z s_I) (E_I : Exa Z Z.heap s_I "java/lang/CharacterDataLatin1") :
    ∃ s₂ o, Steps p.tables e below (T0.setTop (mkF m 460 #[vI p1, vI p2, vI p3, vI p4, vR ca, vR cb, vI al, vI nl, vI sl, vI f9, vI f10, vI f11, vI f12, vI f13, vR sa, vR sb_, .val .null, .unset, .unset, .unset] [])) s₂ ∧ s₂.status = .running ∧ Ended s₂ below o ∧ ∃ v L, o = .returned v ∧ own_Q0 n0 v s₂.heap L ∧ ReturnedEndW s o s₂ L room_1.cells room_1.slots := by
  obtain ⟨fs, hr, hrun, hended, hEnd⟩ := X0.leaveW (s := s) hS0 (by rw [e0]; exact hk0) (v := some (.int (1 : Int32))) (fun h => by rw [hret] at h; cases h)
  refine ⟨_, _, ?_, hrun, hended, _, _, rfl, ?_, ⟨hEnd.1, hEnd.2.1, hEnd.2.2.1, hEnd.2.2.2.mono (by decide) (by decide)⟩⟩
  · refine XS.iconst X0.here hx rfl (hb hby at_460) ?_
    refine XS.istore X0.here hx rfl (hb hby at_461) rfl (l' := #[vI p1, vI p2, vI p3, vI p4, vR ca, vR cb, vI al, vI nl, vI sl, vI f9, vI f10, vI f11, vI f12, vI f13, vR sa, vR sb_, .val .null, vI 0, .unset, .unset]) rfl ?_
    refine XS.iload X0.here hx rfl (hb hby at_463) rfl ?_
    refine XS.ifYes X0.here hx rfl (pc0 := 465) (pc' := 485) rfl (hb hby at_465) rfl ((if0 _ _).trans (teq (by decide : (0 : Int32) = (0 : Int32))).1) (by decide) (by decide) ?_
    refine XS.aload X0.here hx rfl (hb hby at_485) rfl rfl ?_
    refine XS.ifnonnullNo X0.here hx rfl (hb hby at_487) rfl ?_
    show SA T0 m 490 #[vI p1, vI p2, vI p3, vI p4, vR ca, vR cb, vI al, vI nl, vI sl, vI f9, vI f10, vI f11, vI f12, vI f13, vR sa, vR sb_, .val .null, vI 0, .unset, .unset] []
    refine XS.iconst X0.here hx rfl (hb hby at_490) ?_
    refine XS.goto X0.here hx rfl (pc0 := 491) (pc' := 495) rfl (hb hby at_491) (by decide) (by decide) ?_
    show Steps _ _ _ (T0.setTop (mkF m 495 #[vI p1, vI p2, vI p3, vI p4, vR ca, vR cb, vI al, vI nl, vI sl, vI f9, vI f10, vI f11, vI f12, vI f13, vR sa, vR sb_, .val .null, vI 0, .unset, .unset] [iI 1])) _
    exact retN X0 hx (t := .boolean) hret (by simp) (hb hby at_495) hr
  · show own_Q0 n0 _ T0.heap _
    rw [e0]
    exact ⟨rfl, N0⟩
theorem own_t460 {p : Program} {l : Launch} {e : Env} {s : State} {m : MethodId} {below : List Frame} {meth : Method} {c : Code} {T0 : State} {locs : List Loc} {Z : State} {a0 : Array Value} {h0 hT : Heap} {n0 : Nat} {vmT : Vm} {kT : Nat} {p1 : Int32} {p2 : Int32} {p3 : Int32} {p4 : Int32} {cs : Int32} {fm : Value} {s_T s_I : Addr} {cl : Cell} {ca cb : Addr} {al nl sl f9 f10 f11 f12 f13 : Int32} {ka kb : ClassId} {AL SL : List Int32} {sa sb_ : Addr} {gv : Value}
    (X0 : Stand p l e room_1 (s.setVm vmT) m #[(.int p1), (.int p2), (.int p3), (.int p4)] below meth c T0 locs 20 69) (hx : p.tables.exec = Jvm.exec) (hZ : Z.Warmed39 (s.setVm vmT).vm) (hw : HW a0 Z) (hby : c.code = code) (hml : c.maxLocals = 20) (hown : (s.setVm vmT).vm.findClass "com/example/cloud_to_core/cloudtocore/auth/HttpAuthorizationCredentialsPinLaw" = some m.cls) (hret : meth.sig.returnType = some .boolean) (hlocks : meth.locks = false) (e0 : T0.heap = hT) (Kt0 : Keep h0 hT []) (N0 : Fr n0 locs) (Z0 : n0 ≤ h0.size) (O0 : Old Z n0 h0) (hS0 : s.Since vmT kT) (hk0 : kT ≤ hT.size) (RT : CHr Z consts_1 s.vm h0 vmT hT) (hh : s.heap = h0) (V_a : AC Z hT ca ka (6 : Int32) AL) (V_b : AC Z hT cb kb (3 : Int32) SL) (hA : AL.length = 6) (okA : ∀ x ∈ AL, own_c8 x) (hS : SL.length = 3) (okS : ∀ x ∈ SL, own_c8 x) (ra : 0 ≤ al.toInt ∧ al.toInt ≤ 6) (rs : 0 ≤ sl.toInt ∧ sl.toInt ≤ 3) (hPG : own_PG Z hT (own_tk2 AL al) (own_tk2 SL sl) gv) (hno : ¬ al < sl → own_fq AL SL sl → False) (S_CS : SC Z cs) (h_cs : ¬ cs = (0 : Int32)) (S_F : SM Z fm) (h_fm : fm.isRef = true) (S_T : ST Z s_T) (TB : Tab Z Z.heap s_T cl .int (256 : Int32)) (hTb : HT cl) (S_I : SI Z s_I) (E_I : Exa Z Z.heap s_I "java/lang/CharacterDataLatin1") :
    ∃ s₂ o, Steps p.tables e below (T0.setTop (mkF m 460 #[vI p1, vI p2, vI p3, vI p4, vR ca, vR cb, vI al, vI nl, vI sl, vI f9, vI f10, vI f11, vI f12, vI f13, vR sa, vR sb_, .val gv, .unset, .unset, .unset] [])) s₂ ∧ s₂.status = .running ∧ Ended s₂ below o ∧ ∃ v L, o = .returned v ∧ own_Q0 n0 v s₂.heap L ∧ ReturnedEndW s o s₂ L room_1.cells room_1.slots := by
  obtain ⟨rfl, hCn⟩ | ⟨W, go, dg, kg, zw, rfl, E_go, Fc_go, Fv_go, V_dg, hzw, hCs⟩ := hPG
  · exact own_t460n (kb := kb) (SL := SL) X0 hx hZ hw hby hml hown hret hlocks e0 Kt0 N0 Z0 O0 hS0 hk0 RT hh V_a S_CS h_cs S_F h_fm S_T TB hTb S_I E_I
  · obtain ⟨hle', hfq, -, -, -⟩ := own_credS hA hS okA okS ra rs hCs
    exact (hno (own_nlt hle') hfq).elim
theorem own_t433 {p : Program} {l : Launch} {e : Env} {s : State} {m : MethodId} {below : List Frame} {meth : Method} {c : Code} {T0 : State} {locs : List Loc} {Z : State} {a0 : Array Value} {h0 hT : Heap} {n0 : Nat} {vmT : Vm} {kT : Nat} {p1 : Int32} {p2 : Int32} {p3 : Int32} {p4 : Int32} {cs : Int32} {fm : Value} {s_T s_I : Addr} {cl : Cell} {ca cb : Addr} {al nl sl f9 f10 f11 f12 f13 : Int32} {ka kb : ClassId} {AL SL : List Int32} {sa sb_ : Addr} {gv : Value}
    (X0 : Stand p l e room_1 (s.setVm vmT) m #[(.int p1), (.int p2), (.int p3), (.int p4)] below meth c T0 locs 20 69) (hx : p.tables.exec = Jvm.exec) (hZ : Z.Warmed39 (s.setVm vmT).vm) (hw : HW a0 Z) (hby : c.code = code) (hml : c.maxLocals = 20) (hown : (s.setVm vmT).vm.findClass "com/example/cloud_to_core/cloudtocore/auth/HttpAuthorizationCredentialsPinLaw" = some m.cls) (hret : meth.sig.returnType = some .boolean) (hlocks : meth.locks = false) (e0 : T0.heap = hT) (Kt0 : Keep h0 hT []) (N0 : Fr n0 locs) (Z0 : n0 ≤ h0.size) (O0 : Old Z n0 h0) (hS0 : s.Since vmT kT) (hk0 : kT ≤ hT.size) (RT : CHr Z consts_1 s.vm h0 vmT hT) (hh : s.heap = h0) (V_a : AC Z hT ca ka (6 : Int32) AL) (V_b : AC Z hT cb kb (3 : Int32) SL) (hA : AL.length = 6) (okA : ∀ x ∈ AL, own_c8 x) (hS : SL.length = 3) (okS : ∀ x ∈ SL, own_c8 x) (ra : 0 ≤ al.toInt ∧ al.toInt ≤ 6) (rs : 0 ≤ sl.toInt ∧ sl.toInt ≤ 3) (hPG : own_PG Z hT (own_tk2 AL al) (own_tk2 SL sl) gv) (hle : ¬ al < sl) (q0 : ¬ sl < (1 : Int32) → (own_fold (AL.getD 0 0)) = (own_fold (SL.getD 0 0))) (q1 : ¬ sl < (2 : Int32) → (own_fold (AL.getD 1 0)) = (own_fold (SL.getD 1 0))) (S_CS : SC Z cs) (h_cs : ¬ cs = (0 : Int32)) (S_F : SM Z fm) (h_fm : fm.isRef = true) (S_T : ST Z s_T) (TB : Tab Z Z.heap s_T cl .int (256 : Int32)) (hTb : HT cl) (S_I : SI Z s_I) (E_I : Exa Z Z.heap s_I "java/lang/CharacterDataLatin1") :
    ∃ s₂ o, Steps p.tables e below (T0.setTop (mkF m 433 #[vI p1, vI p2, vI p3, vI p4, vR ca, vR cb, vI al, vI nl, vI sl, vI f9, vI f10, vI f11, vI f12, vI f13, vR sa, vR sb_, .val gv, .unset, .unset, .unset] [])) s₂ ∧ s₂.status = .running ∧ Ended s₂ below o ∧ ∃ v L, o = .returned v ∧ own_Q0 n0 v s₂.heap L ∧ ReturnedEndW s o s₂ L room_1.cells room_1.slots := by
  have pre2 : PP p e below (T0.setTop (mkF m 436 #[vI p1, vI p2, vI p3, vI p4, vR ca, vR cb, vI al, vI nl, vI sl, vI f9, vI f10, vI f11, vI f12, vI f13, vR sa, vR sb_, .val gv, .unset, .unset, .unset] [iI 3, iI sl])) (T0.setTop (mkF m 433 #[vI p1, vI p2, vI p3, vI p4, vR ca, vR cb, vI al, vI nl, vI sl, vI f9, vI f10, vI f11, vI f12, vI f13, vR sa, vR sb_, .val gv, .unset, .unset, .unset] [])) := by
    intro t kt
    refine XS.iload X0.here hx rfl (hb hby at_433) rfl ?_
    refine XS.iconst X0.here hx rfl (hb hby at_435) ?_
    exact kt
  by_cases hc1 : sl < (3 : Int32)
  · have pre3 : PP p e below (T0.setTop (mkF m 456 #[vI p1, vI p2, vI p3, vI p4, vR ca, vR cb, vI al, vI nl, vI sl, vI f9, vI f10, vI f11, vI f12, vI f13, vR sa, vR sb_, .val gv, .unset, .unset, .unset] [])) (T0.setTop (mkF m 433 #[vI p1, vI p2, vI p3, vI p4, vR ca, vR cb, vI al, vI nl, vI sl, vI f9, vI f10, vI f11, vI f12, vI f13, vR sa, vR sb_, .val gv, .unset, .unset, .unset] [])) := by
      intro t kt
      refine pre2 t ?_
      refine XS.icmpYes X0.here hx rfl (pc0 := 436) (pc' := 456) rfl (hb hby at_436) rfl (tlt hc1).1 (by decide) (by decide) ?_
      exact kt
    obtain ⟨s₂, o₂, hs₂, hr₂⟩ := own_t456 (ca := ca) (cb := cb) (al := al) (nl := nl) (sl := sl) (f9 := f9) (f10 := f10) (f11 := f11) (f12 := f12) (f13 := f13) (ka := ka) (kb := kb) (AL := AL) (SL := SL) (sa := sa) (sb_ := sb_) (gv := gv) (s := s) (vmT := vmT) (X0.more (by decide) (by decide)) hx hZ hw hby hml hown hret hlocks e0 Kt0 N0 Z0 O0 hS0 hk0 RT hh V_a V_b hA okA hS okS ra rs hPG hle ⟨q0, q1, (fun q => absurd hc1 q)⟩ S_CS h_cs S_F h_fm S_T TB hTb S_I E_I
    exact ⟨s₂, o₂, pre3 _ hs₂, hr₂⟩
  · obtain ⟨cl4, Ar4, q4, S4, M4, H4, G4⟩ := id V_a
    have hin5 := inb_of (j := 2) S4 ⟨by decide, by decide⟩
    have hat6 : cl4.slots[((2 : Int32)).toNatClampNeg]? = some (.int (AL.getD 2 0)) := Has.at H4 hin5 (own_bsget AL _)
    obtain ⟨_, _, ⟨T7, L7, k7, n7⟩, -, X7, ⟨Lc7, hQ7, l7, y7, z7⟩, st7⟩ := Jvm.LawKit.callS X0 hx (y := mn_38) hown (mw hZ hw 187 rfl) (mw hZ hw 188 rfl) (mw hZ hw 3 rfl) (mw hZ hw 189 rfl) (by decide) (backOf (W := 0) (rm44 l Z a0 hw [] (AL.getD 2 0) hT ) hZ (ww hw 189 rfl) (ww hw 3 rfl) (by decide) (by decide)) (g := (mkF m 443 #[vI p1, vI p2, vI p3, vI p4, vR ca, vR cb, vI al, vI nl, vI sl, vI f9, vI f10, vI f11, vI f12, vI f13, vR sa, vR sb_, .val gv, .unset, .unset, .unset] [iI (AL.getD 2 0)])) rfl (by rw [hml]; rfl) (argsL := [(.int (AL.getD 2 0))]) (rest := []) (lenOf pd_34 rfl) rfl (wz rfl) (hb hby at_443) (fun _ _ => ⟨rfl, e0, (by decide : 20 + 0 ≤ _), (by decide : 69 + 0 ≤ _)⟩)
    dsimp only [Pt.U, Pt.locs, Pt.cells, Pt.slots] at X7 l7 y7 z7 st7 hQ7
    subst l7 y7 z7
    obtain ⟨rfl, rfl, e7⟩ := hQ7
    try rw [List.append_nil] at X7
    obtain ⟨cl8, Ar8, q8, S8, M8, H8, G8⟩ := id V_b
    have hin9 := inb_of (j := 2) S8 ⟨by decide, by decide⟩
    have hat10 : cl8.slots[((2 : Int32)).toNatClampNeg]? = some (.int (SL.getD 2 0)) := Has.at H8 hin9 (own_bsget SL _)
    obtain ⟨_, _, ⟨T11, L11, k11, n11⟩, -, X11, ⟨Lc11, hQ11, l11, y11, z11⟩, st11⟩ := Jvm.LawKit.callS X7 hx (y := mn_38) hown (mw hZ hw 187 rfl) (mw hZ hw 188 rfl) (mw hZ hw 3 rfl) (mw hZ hw 189 rfl) (by decide) (backOf (W := 1) (rm44 l Z a0 hw [] (SL.getD 2 0) hT ) hZ (ww hw 189 rfl) (ww hw 3 rfl) (by decide) (by decide)) (g := (mkF m 450 #[vI p1, vI p2, vI p3, vI p4, vR ca, vR cb, vI al, vI nl, vI sl, vI f9, vI f10, vI f11, vI f12, vI f13, vR sa, vR sb_, .val gv, .unset, .unset, .unset] [iI (SL.getD 2 0), iI (own_fold (AL.getD 2 0))])) rfl (by rw [hml]; rfl) (argsL := [(.int (SL.getD 2 0))]) (rest := [(.int (own_fold (AL.getD 2 0)))]) (lenOf pd_34 rfl) rfl (wz rfl) (hb hby at_450) (fun _ _ => ⟨rfl, e7, (by decide : 20 + 0 ≤ _), (by decide : 69 + 0 ≤ _)⟩)
    dsimp only [Pt.U, Pt.locs, Pt.cells, Pt.slots] at X11 l11 y11 z11 st11 hQ11
    subst l11 y11 z11
    obtain ⟨rfl, rfl, e11⟩ := hQ11
    try rw [List.append_nil] at X11
    have pre13 : PP p e below (T11.setTop (mkF m 453 #[vI p1, vI p2, vI p3, vI p4, vR ca, vR cb, vI al, vI nl, vI sl, vI f9, vI f10, vI f11, vI f12, vI f13, vR sa, vR sb_, .val gv, .unset, .unset, .unset] [iI (own_fold (SL.getD 2 0)), iI (own_fold (AL.getD 2 0))])) (T0.setTop (mkF m 433 #[vI p1, vI p2, vI p3, vI p4, vR ca, vR cb, vI al, vI nl, vI sl, vI f9, vI f10, vI f11, vI f12, vI f13, vR sa, vR sb_, .val gv, .unset, .unset, .unset] [])) := by
      intro t kt
      refine pre2 t ?_
      refine XS.icmpNo X0.here hx rfl (hb hby at_436) rfl (flt hc1).1 ?_
      refine XS.aload X0.here hx rfl (hb hby at_439) rfl rfl ?_
      refine XS.iconst X0.here hx rfl (hb hby at_441) ?_
      refine X0.caload hx (j := 2) (v := (.int (AL.getD 2 0))) (by rw [e0]; exact Ar4.1) (State.isArrayOf_alike hZ.alike Ar4.2.1) Ar4.2.2 hin5 hat6 (g := (mkF m 442 #[vI p1, vI p2, vI p3, vI p4, vR ca, vR cb, vI al, vI nl, vI sl, vI f9, vI f10, vI f11, vI f12, vI f13, vR sa, vR sb_, .val gv, .unset, .unset, .unset] [iI 2, iR ca])) rfl rfl (hb hby at_442) _ ?_
      refine st7 _ ?_
      refine XS.aload X7.here hx rfl (hb hby at_446) rfl rfl ?_
      refine XS.iconst X7.here hx rfl (hb hby at_448) ?_
      refine X7.caload hx (j := 2) (v := (.int (SL.getD 2 0))) (by rw [e7]; exact Ar8.1) (State.isArrayOf_alike hZ.alike Ar8.2.1) Ar8.2.2 hin9 hat10 (g := (mkF m 449 #[vI p1, vI p2, vI p3, vI p4, vR ca, vR cb, vI al, vI nl, vI sl, vI f9, vI f10, vI f11, vI f12, vI f13, vR sa, vR sb_, .val gv, .unset, .unset, .unset] [iI 2, iR cb, iI (own_fold (AL.getD 2 0))])) rfl rfl (hb hby at_449) _ ?_
      refine st11 _ ?_
      exact kt
    by_cases hc12 : (own_fold (AL.getD 2 0)) = (own_fold (SL.getD 2 0))
    · have pre14 : PP p e below (T11.setTop (mkF m 456 #[vI p1, vI p2, vI p3, vI p4, vR ca, vR cb, vI al, vI nl, vI sl, vI f9, vI f10, vI f11, vI f12, vI f13, vR sa, vR sb_, .val gv, .unset, .unset, .unset] [])) (T0.setTop (mkF m 433 #[vI p1, vI p2, vI p3, vI p4, vR ca, vR cb, vI al, vI nl, vI sl, vI f9, vI f10, vI f11, vI f12, vI f13, vR sa, vR sb_, .val gv, .unset, .unset, .unset] [])) := by
        intro t kt
        refine pre13 t ?_
        refine XS.icmpNo X11.here hx rfl (hb hby at_453) rfl (teq hc12).2 ?_
        exact kt
      obtain ⟨s₂, o₂, hs₂, hr₂⟩ := own_t456 (ca := ca) (cb := cb) (al := al) (nl := nl) (sl := sl) (f9 := f9) (f10 := f10) (f11 := f11) (f12 := f12) (f13 := f13) (ka := ka) (kb := kb) (AL := AL) (SL := SL) (sa := sa) (sb_ := sb_) (gv := gv) (s := s) (vmT := vmT) (X11.more (by decide) (by decide)) hx hZ hw hby hml hown hret hlocks e11 Kt0 N0 Z0 O0 hS0 hk0 RT hh V_a V_b hA okA hS okS ra rs hPG hle ⟨q0, q1, (fun _ => hc12)⟩ S_CS h_cs S_F h_fm S_T TB hTb S_I E_I
      exact ⟨s₂, o₂, pre14 _ hs₂, hr₂⟩
    · have pre15 : PP p e below (T11.setTop (mkF m 460 #[vI p1, vI p2, vI p3, vI p4, vR ca, vR cb, vI al, vI nl, vI sl, vI f9, vI f10, vI f11, vI f12, vI f13, vR sa, vR sb_, .val gv, .unset, .unset, .unset] [])) (T0.setTop (mkF m 433 #[vI p1, vI p2, vI p3, vI p4, vR ca, vR cb, vI al, vI nl, vI sl, vI f9, vI f10, vI f11, vI f12, vI f13, vR sa, vR sb_, .val gv, .unset, .unset, .unset] [])) := by
        intro t kt
        refine pre13 t ?_
        refine XS.icmpYes X11.here hx rfl (pc0 := 453) (pc' := 460) rfl (hb hby at_453) rfl (feq hc12).2 (by decide) (by decide) ?_
        exact kt
      obtain ⟨s₂, o₂, hs₂, hr₂⟩ := own_t460 (ca := ca) (cb := cb) (al := al) (nl := nl) (sl := sl) (f9 := f9) (f10 := f10) (f11 := f11) (f12 := f12) (f13 := f13) (ka := ka) (kb := kb) (AL := AL) (SL := SL) (sa := sa) (sb_ := sb_) (gv := gv) (s := s) (vmT := vmT) (X11.more (by decide) (by decide)) hx hZ hw hby hml hown hret hlocks e11 Kt0 N0 Z0 O0 hS0 hk0 RT hh V_a V_b hA okA hS okS ra rs hPG (fun _ hf => hc12 (hf.2.2 hc1)) S_CS h_cs S_F h_fm S_T TB hTb S_I E_I
      exact ⟨s₂, o₂, pre15 _ hs₂, hr₂⟩
theorem own_t410 {p : Program} {l : Launch} {e : Env} {s : State} {m : MethodId} {below : List Frame} {meth : Method} {c : Code} {T0 : State} {locs : List Loc} {Z : State} {a0 : Array Value} {h0 hT : Heap} {n0 : Nat} {vmT : Vm} {kT : Nat} {p1 : Int32} {p2 : Int32} {p3 : Int32} {p4 : Int32} {cs : Int32} {fm : Value} {s_T s_I : Addr} {cl : Cell} {ca cb : Addr} {al nl sl f9 f10 f11 f12 f13 : Int32} {ka kb : ClassId} {AL SL : List Int32} {sa sb_ : Addr} {gv : Value}
    (X0 : Stand p l e room_1 (s.setVm vmT) m #[(.int p1), (.int p2), (.int p3), (.int p4)] below meth c T0 locs 20 69) (hx : p.tables.exec = Jvm.exec) (hZ : Z.Warmed39 (s.setVm vmT).vm) (hw : HW a0 Z) (hby : c.code = code) (hml : c.maxLocals = 20) (hown : (s.setVm vmT).vm.findClass "com/example/cloud_to_core/cloudtocore/auth/HttpAuthorizationCredentialsPinLaw" = some m.cls) (hret : meth.sig.returnType = some .boolean) (hlocks : meth.locks = false) (e0 : T0.heap = hT) (Kt0 : Keep h0 hT []) (N0 : Fr n0 locs) (Z0 : n0 ≤ h0.size) (O0 : Old Z n0 h0) (hS0 : s.Since vmT kT) (hk0 : kT ≤ hT.size) (RT : CHr Z consts_1 s.vm h0 vmT hT) (hh : s.heap = h0) (V_a : AC Z hT ca ka (6 : Int32) AL) (V_b : AC Z hT cb kb (3 : Int32) SL) (hA : AL.length = 6) (okA : ∀ x ∈ AL, own_c8 x) (hS : SL.length = 3) (okS : ∀ x ∈ SL, own_c8 x) (ra : 0 ≤ al.toInt ∧ al.toInt ≤ 6) (rs : 0 ≤ sl.toInt ∧ sl.toInt ≤ 3) (hPG : own_PG Z hT (own_tk2 AL al) (own_tk2 SL sl) gv) (hle : ¬ al < sl) (q0 : ¬ sl < (1 : Int32) → (own_fold (AL.getD 0 0)) = (own_fold (SL.getD 0 0))) (S_CS : SC Z cs) (h_cs : ¬ cs = (0 : Int32)) (S_F : SM Z fm) (h_fm : fm.isRef = true) (S_T : ST Z s_T) (TB : Tab Z Z.heap s_T cl .int (256 : Int32)) (hTb : HT cl) (S_I : SI Z s_I) (E_I : Exa Z Z.heap s_I "java/lang/CharacterDataLatin1") :
    ∃ s₂ o, Steps p.tables e below (T0.setTop (mkF m 410 #[vI p1, vI p2, vI p3, vI p4, vR ca, vR cb, vI al, vI nl, vI sl, vI f9, vI f10, vI f11, vI f12, vI f13, vR sa, vR sb_, .val gv, .unset, .unset, .unset] [])) s₂ ∧ s₂.status = .running ∧ Ended s₂ below o ∧ ∃ v L, o = .returned v ∧ own_Q0 n0 v s₂.heap L ∧ ReturnedEndW s o s₂ L room_1.cells room_1.slots := by
  have pre2 : PP p e below (T0.setTop (mkF m 413 #[vI p1, vI p2, vI p3, vI p4, vR ca, vR cb, vI al, vI nl, vI sl, vI f9, vI f10, vI f11, vI f12, vI f13, vR sa, vR sb_, .val gv, .unset, .unset, .unset] [iI 2, iI sl])) (T0.setTop (mkF m 410 #[vI p1, vI p2, vI p3, vI p4, vR ca, vR cb, vI al, vI nl, vI sl, vI f9, vI f10, vI f11, vI f12, vI f13, vR sa, vR sb_, .val gv, .unset, .unset, .unset] [])) := by
    intro t kt
    refine XS.iload X0.here hx rfl (hb hby at_410) rfl ?_
    refine XS.iconst X0.here hx rfl (hb hby at_412) ?_
    exact kt
  by_cases hc1 : sl < (2 : Int32)
  · have pre3 : PP p e below (T0.setTop (mkF m 433 #[vI p1, vI p2, vI p3, vI p4, vR ca, vR cb, vI al, vI nl, vI sl, vI f9, vI f10, vI f11, vI f12, vI f13, vR sa, vR sb_, .val gv, .unset, .unset, .unset] [])) (T0.setTop (mkF m 410 #[vI p1, vI p2, vI p3, vI p4, vR ca, vR cb, vI al, vI nl, vI sl, vI f9, vI f10, vI f11, vI f12, vI f13, vR sa, vR sb_, .val gv, .unset, .unset, .unset] [])) := by
      intro t kt
      refine pre2 t ?_
      refine XS.icmpYes X0.here hx rfl (pc0 := 413) (pc' := 433) rfl (hb hby at_413) rfl (tlt hc1).1 (by decide) (by decide) ?_
      exact kt
    obtain ⟨s₂, o₂, hs₂, hr₂⟩ := own_t433 (ca := ca) (cb := cb) (al := al) (nl := nl) (sl := sl) (f9 := f9) (f10 := f10) (f11 := f11) (f12 := f12) (f13 := f13) (ka := ka) (kb := kb) (AL := AL) (SL := SL) (sa := sa) (sb_ := sb_) (gv := gv) (s := s) (vmT := vmT) (X0.more (by decide) (by decide)) hx hZ hw hby hml hown hret hlocks e0 Kt0 N0 Z0 O0 hS0 hk0 RT hh V_a V_b hA okA hS okS ra rs hPG hle q0 (fun q => absurd hc1 q) S_CS h_cs S_F h_fm S_T TB hTb S_I E_I
    exact ⟨s₂, o₂, pre3 _ hs₂, hr₂⟩
  · obtain ⟨cl4, Ar4, q4, S4, M4, H4, G4⟩ := id V_a
    have hin5 := inb_of (j := 1) S4 ⟨by decide, by decide⟩
    have hat6 : cl4.slots[((1 : Int32)).toNatClampNeg]? = some (.int (AL.getD 1 0)) := Has.at H4 hin5 (own_bsget AL _)
    obtain ⟨_, _, ⟨T7, L7, k7, n7⟩, -, X7, ⟨Lc7, hQ7, l7, y7, z7⟩, st7⟩ := Jvm.LawKit.callS X0 hx (y := mn_38) hown (mw hZ hw 187 rfl) (mw hZ hw 188 rfl) (mw hZ hw 3 rfl) (mw hZ hw 189 rfl) (by decide) (backOf (W := 0) (rm44 l Z a0 hw [] (AL.getD 1 0) hT ) hZ (ww hw 189 rfl) (ww hw 3 rfl) (by decide) (by decide)) (g := (mkF m 420 #[vI p1, vI p2, vI p3, vI p4, vR ca, vR cb, vI al, vI nl, vI sl, vI f9, vI f10, vI f11, vI f12, vI f13, vR sa, vR sb_, .val gv, .unset, .unset, .unset] [iI (AL.getD 1 0)])) rfl (by rw [hml]; rfl) (argsL := [(.int (AL.getD 1 0))]) (rest := []) (lenOf pd_34 rfl) rfl (wz rfl) (hb hby at_420) (fun _ _ => ⟨rfl, e0, (by decide : 20 + 0 ≤ _), (by decide : 69 + 0 ≤ _)⟩)
    dsimp only [Pt.U, Pt.locs, Pt.cells, Pt.slots] at X7 l7 y7 z7 st7 hQ7
    subst l7 y7 z7
    obtain ⟨rfl, rfl, e7⟩ := hQ7
    try rw [List.append_nil] at X7
    obtain ⟨cl8, Ar8, q8, S8, M8, H8, G8⟩ := id V_b
    have hin9 := inb_of (j := 1) S8 ⟨by decide, by decide⟩
    have hat10 : cl8.slots[((1 : Int32)).toNatClampNeg]? = some (.int (SL.getD 1 0)) := Has.at H8 hin9 (own_bsget SL _)
    obtain ⟨_, _, ⟨T11, L11, k11, n11⟩, -, X11, ⟨Lc11, hQ11, l11, y11, z11⟩, st11⟩ := Jvm.LawKit.callS X7 hx (y := mn_38) hown (mw hZ hw 187 rfl) (mw hZ hw 188 rfl) (mw hZ hw 3 rfl) (mw hZ hw 189 rfl) (by decide) (backOf (W := 1) (rm44 l Z a0 hw [] (SL.getD 1 0) hT ) hZ (ww hw 189 rfl) (ww hw 3 rfl) (by decide) (by decide)) (g := (mkF m 427 #[vI p1, vI p2, vI p3, vI p4, vR ca, vR cb, vI al, vI nl, vI sl, vI f9, vI f10, vI f11, vI f12, vI f13, vR sa, vR sb_, .val gv, .unset, .unset, .unset] [iI (SL.getD 1 0), iI (own_fold (AL.getD 1 0))])) rfl (by rw [hml]; rfl) (argsL := [(.int (SL.getD 1 0))]) (rest := [(.int (own_fold (AL.getD 1 0)))]) (lenOf pd_34 rfl) rfl (wz rfl) (hb hby at_427) (fun _ _ => ⟨rfl, e7, (by decide : 20 + 0 ≤ _), (by decide : 69 + 0 ≤ _)⟩)
    dsimp only [Pt.U, Pt.locs, Pt.cells, Pt.slots] at X11 l11 y11 z11 st11 hQ11
    subst l11 y11 z11
    obtain ⟨rfl, rfl, e11⟩ := hQ11
    try rw [List.append_nil] at X11
    have pre13 : PP p e below (T11.setTop (mkF m 430 #[vI p1, vI p2, vI p3, vI p4, vR ca, vR cb, vI al, vI nl, vI sl, vI f9, vI f10, vI f11, vI f12, vI f13, vR sa, vR sb_, .val gv, .unset, .unset, .unset] [iI (own_fold (SL.getD 1 0)), iI (own_fold (AL.getD 1 0))])) (T0.setTop (mkF m 410 #[vI p1, vI p2, vI p3, vI p4, vR ca, vR cb, vI al, vI nl, vI sl, vI f9, vI f10, vI f11, vI f12, vI f13, vR sa, vR sb_, .val gv, .unset, .unset, .unset] [])) := by
      intro t kt
      refine pre2 t ?_
      refine XS.icmpNo X0.here hx rfl (hb hby at_413) rfl (flt hc1).1 ?_
      refine XS.aload X0.here hx rfl (hb hby at_416) rfl rfl ?_
      refine XS.iconst X0.here hx rfl (hb hby at_418) ?_
      refine X0.caload hx (j := 1) (v := (.int (AL.getD 1 0))) (by rw [e0]; exact Ar4.1) (State.isArrayOf_alike hZ.alike Ar4.2.1) Ar4.2.2 hin5 hat6 (g := (mkF m 419 #[vI p1, vI p2, vI p3, vI p4, vR ca, vR cb, vI al, vI nl, vI sl, vI f9, vI f10, vI f11, vI f12, vI f13, vR sa, vR sb_, .val gv, .unset, .unset, .unset] [iI 1, iR ca])) rfl rfl (hb hby at_419) _ ?_
      refine st7 _ ?_
      refine XS.aload X7.here hx rfl (hb hby at_423) rfl rfl ?_
      refine XS.iconst X7.here hx rfl (hb hby at_425) ?_
      refine X7.caload hx (j := 1) (v := (.int (SL.getD 1 0))) (by rw [e7]; exact Ar8.1) (State.isArrayOf_alike hZ.alike Ar8.2.1) Ar8.2.2 hin9 hat10 (g := (mkF m 426 #[vI p1, vI p2, vI p3, vI p4, vR ca, vR cb, vI al, vI nl, vI sl, vI f9, vI f10, vI f11, vI f12, vI f13, vR sa, vR sb_, .val gv, .unset, .unset, .unset] [iI 1, iR cb, iI (own_fold (AL.getD 1 0))])) rfl rfl (hb hby at_426) _ ?_
      refine st11 _ ?_
      exact kt
    by_cases hc12 : (own_fold (AL.getD 1 0)) = (own_fold (SL.getD 1 0))
    · have pre14 : PP p e below (T11.setTop (mkF m 433 #[vI p1, vI p2, vI p3, vI p4, vR ca, vR cb, vI al, vI nl, vI sl, vI f9, vI f10, vI f11, vI f12, vI f13, vR sa, vR sb_, .val gv, .unset, .unset, .unset] [])) (T0.setTop (mkF m 410 #[vI p1, vI p2, vI p3, vI p4, vR ca, vR cb, vI al, vI nl, vI sl, vI f9, vI f10, vI f11, vI f12, vI f13, vR sa, vR sb_, .val gv, .unset, .unset, .unset] [])) := by
        intro t kt
        refine pre13 t ?_
        refine XS.icmpNo X11.here hx rfl (hb hby at_430) rfl (teq hc12).2 ?_
        exact kt
      obtain ⟨s₂, o₂, hs₂, hr₂⟩ := own_t433 (ca := ca) (cb := cb) (al := al) (nl := nl) (sl := sl) (f9 := f9) (f10 := f10) (f11 := f11) (f12 := f12) (f13 := f13) (ka := ka) (kb := kb) (AL := AL) (SL := SL) (sa := sa) (sb_ := sb_) (gv := gv) (s := s) (vmT := vmT) (X11.more (by decide) (by decide)) hx hZ hw hby hml hown hret hlocks e11 Kt0 N0 Z0 O0 hS0 hk0 RT hh V_a V_b hA okA hS okS ra rs hPG hle q0 (fun _ => hc12) S_CS h_cs S_F h_fm S_T TB hTb S_I E_I
      exact ⟨s₂, o₂, pre14 _ hs₂, hr₂⟩
    · have pre15 : PP p e below (T11.setTop (mkF m 460 #[vI p1, vI p2, vI p3, vI p4, vR ca, vR cb, vI al, vI nl, vI sl, vI f9, vI f10, vI f11, vI f12, vI f13, vR sa, vR sb_, .val gv, .unset, .unset, .unset] [])) (T0.setTop (mkF m 410 #[vI p1, vI p2, vI p3, vI p4, vR ca, vR cb, vI al, vI nl, vI sl, vI f9, vI f10, vI f11, vI f12, vI f13, vR sa, vR sb_, .val gv, .unset, .unset, .unset] [])) := by
        intro t kt
        refine pre13 t ?_
        refine XS.icmpYes X11.here hx rfl (pc0 := 430) (pc' := 460) rfl (hb hby at_430) rfl (feq hc12).2 (by decide) (by decide) ?_
        exact kt
      obtain ⟨s₂, o₂, hs₂, hr₂⟩ := own_t460 (ca := ca) (cb := cb) (al := al) (nl := nl) (sl := sl) (f9 := f9) (f10 := f10) (f11 := f11) (f12 := f12) (f13 := f13) (ka := ka) (kb := kb) (AL := AL) (SL := SL) (sa := sa) (sb_ := sb_) (gv := gv) (s := s) (vmT := vmT) (X11.more (by decide) (by decide)) hx hZ hw hby hml hown hret hlocks e11 Kt0 N0 Z0 O0 hS0 hk0 RT hh V_a V_b hA okA hS okS ra rs hPG (fun _ hf => hc12 (hf.2.1 hc1)) S_CS h_cs S_F h_fm S_T TB hTb S_I E_I
      exact ⟨s₂, o₂, pre15 _ hs₂, hr₂⟩
theorem own_t375 {p : Program} {l : Launch} {e : Env} {s : State} {m : MethodId} {below : List Frame} {meth : Method} {c : Code} {T0 : State} {locs : List Loc} {Z : State} {a0 : Array Value} {h0 hT : Heap} {n0 : Nat} {vmT : Vm} {kT : Nat} {p1 : Int32} {p2 : Int32} {p3 : Int32} {p4 : Int32} {cs : Int32} {fm : Value} {s_T s_I : Addr} {cl : Cell} {ca cb : Addr} {al nl sl f9 f10 f11 f12 f13 : Int32} {ka kb : ClassId} {AL SL : List Int32} {sa sb_ : Addr} {gv : Value}
    (X0 : Stand p l e room_1 (s.setVm vmT) m #[(.int p1), (.int p2), (.int p3), (.int p4)] below meth c T0 locs 20 69) (hx : p.tables.exec = Jvm.exec) (hZ : Z.Warmed39 (s.setVm vmT).vm) (hw : HW a0 Z) (hby : c.code = code) (hml : c.maxLocals = 20) (hown : (s.setVm vmT).vm.findClass "com/example/cloud_to_core/cloudtocore/auth/HttpAuthorizationCredentialsPinLaw" = some m.cls) (hret : meth.sig.returnType = some .boolean) (hlocks : meth.locks = false) (e0 : T0.heap = hT) (Kt0 : Keep h0 hT []) (N0 : Fr n0 locs) (Z0 : n0 ≤ h0.size) (O0 : Old Z n0 h0) (hS0 : s.Since vmT kT) (hk0 : kT ≤ hT.size) (RT : CHr Z consts_1 s.vm h0 vmT hT) (hh : s.heap = h0) (V_a : AC Z hT ca ka (6 : Int32) AL) (V_b : AC Z hT cb kb (3 : Int32) SL) (hA : AL.length = 6) (okA : ∀ x ∈ AL, own_c8 x) (hS : SL.length = 3) (okS : ∀ x ∈ SL, own_c8 x) (ra : 0 ≤ al.toInt ∧ al.toInt ≤ 6) (rs : 0 ≤ sl.toInt ∧ sl.toInt ≤ 3) (hPG : own_PG Z hT (own_tk2 AL al) (own_tk2 SL sl) gv) (hnl : nl = (0 : Int32)) (S_CS : SC Z cs) (h_cs : ¬ cs = (0 : Int32)) (S_F : SM Z fm) (h_fm : fm.isRef = true) (S_T : ST Z s_T) (TB : Tab Z Z.heap s_T cl .int (256 : Int32)) (hTb : HT cl) (S_I : SI Z s_I) (E_I : Exa Z Z.heap s_I "java/lang/CharacterDataLatin1") :
    ∃ s₂ o, Steps p.tables e below (T0.setTop (mkF m 375 #[vI p1, vI p2, vI p3, vI p4, vR ca, vR cb, vI al, vI nl, vI sl, vI f9, vI f10, vI f11, vI f12, vI f13, vR sa, vR sb_, .val gv, .unset, .unset, .unset] [])) s₂ ∧ s₂.status = .running ∧ Ended s₂ below o ∧ ∃ v L, o = .returned v ∧ own_Q0 n0 v s₂.heap L ∧ ReturnedEndW s o s₂ L room_1.cells room_1.slots := by
  have pre2 : PP p e below (T0.setTop (mkF m 384 #[vI p1, vI p2, vI p3, vI p4, vR ca, vR cb, vI al, vI nl, vI sl, vI f9, vI f10, vI f11, vI f12, vI f13, vR sa, vR sb_, .val gv, .unset, .unset, .unset] [iI al, iI sl])) (T0.setTop (mkF m 375 #[vI p1, vI p2, vI p3, vI p4, vR ca, vR cb, vI al, vI nl, vI sl, vI f9, vI f10, vI f11, vI f12, vI f13, vR sa, vR sb_, .val gv, .unset, .unset, .unset] [])) := by
    intro t kt
    refine XS.iload X0.here hx rfl (hb hby at_375) rfl ?_
    refine XS.ifNo X0.here hx rfl (hb hby at_377) rfl ((if0 _ _).trans (teq hnl).2) ?_
    refine XS.iload X0.here hx rfl (hb hby at_380) rfl ?_
    refine XS.iload X0.here hx rfl (hb hby at_382) rfl ?_
    exact kt
  by_cases hc1 : al < sl
  · have pre3 : PP p e below (T0.setTop (mkF m 460 #[vI p1, vI p2, vI p3, vI p4, vR ca, vR cb, vI al, vI nl, vI sl, vI f9, vI f10, vI f11, vI f12, vI f13, vR sa, vR sb_, .val gv, .unset, .unset, .unset] [])) (T0.setTop (mkF m 375 #[vI p1, vI p2, vI p3, vI p4, vR ca, vR cb, vI al, vI nl, vI sl, vI f9, vI f10, vI f11, vI f12, vI f13, vR sa, vR sb_, .val gv, .unset, .unset, .unset] [])) := by
      intro t kt
      refine pre2 t ?_
      refine XS.icmpYes X0.here hx rfl (pc0 := 384) (pc' := 460) rfl (hb hby at_384) rfl (tlt hc1).2.2.1 (by decide) (by decide) ?_
      exact kt
    obtain ⟨s₂, o₂, hs₂, hr₂⟩ := own_t460 (ca := ca) (cb := cb) (al := al) (nl := nl) (sl := sl) (f9 := f9) (f10 := f10) (f11 := f11) (f12 := f12) (f13 := f13) (ka := ka) (kb := kb) (AL := AL) (SL := SL) (sa := sa) (sb_ := sb_) (gv := gv) (s := s) (vmT := vmT) (X0.more (by decide) (by decide)) hx hZ hw hby hml hown hret hlocks e0 Kt0 N0 Z0 O0 hS0 hk0 RT hh V_a V_b hA okA hS okS ra rs hPG (fun hl _ => hl hc1) S_CS h_cs S_F h_fm S_T TB hTb S_I E_I
    exact ⟨s₂, o₂, pre3 _ hs₂, hr₂⟩
  · have pre5 : PP p e below (T0.setTop (mkF m 390 #[vI p1, vI p2, vI p3, vI p4, vR ca, vR cb, vI al, vI nl, vI sl, vI f9, vI f10, vI f11, vI f12, vI f13, vR sa, vR sb_, .val gv, .unset, .unset, .unset] [iI 1, iI sl])) (T0.setTop (mkF m 375 #[vI p1, vI p2, vI p3, vI p4, vR ca, vR cb, vI al, vI nl, vI sl, vI f9, vI f10, vI f11, vI f12, vI f13, vR sa, vR sb_, .val gv, .unset, .unset, .unset] [])) := by
      intro t kt
      refine pre2 t ?_
      refine XS.icmpNo X0.here hx rfl (hb hby at_384) rfl (flt hc1).2.2.1 ?_
      refine XS.iload X0.here hx rfl (hb hby at_387) rfl ?_
      refine XS.iconst X0.here hx rfl (hb hby at_389) ?_
      exact kt
    by_cases hc4 : sl < (1 : Int32)
    · have pre6 : PP p e below (T0.setTop (mkF m 410 #[vI p1, vI p2, vI p3, vI p4, vR ca, vR cb, vI al, vI nl, vI sl, vI f9, vI f10, vI f11, vI f12, vI f13, vR sa, vR sb_, .val gv, .unset, .unset, .unset] [])) (T0.setTop (mkF m 375 #[vI p1, vI p2, vI p3, vI p4, vR ca, vR cb, vI al, vI nl, vI sl, vI f9, vI f10, vI f11, vI f12, vI f13, vR sa, vR sb_, .val gv, .unset, .unset, .unset] [])) := by
        intro t kt
        refine pre5 t ?_
        refine XS.icmpYes X0.here hx rfl (pc0 := 390) (pc' := 410) rfl (hb hby at_390) rfl (tlt hc4).1 (by decide) (by decide) ?_
        exact kt
      obtain ⟨s₂, o₂, hs₂, hr₂⟩ := own_t410 (ca := ca) (cb := cb) (al := al) (nl := nl) (sl := sl) (f9 := f9) (f10 := f10) (f11 := f11) (f12 := f12) (f13 := f13) (ka := ka) (kb := kb) (AL := AL) (SL := SL) (sa := sa) (sb_ := sb_) (gv := gv) (s := s) (vmT := vmT) (X0.more (by decide) (by decide)) hx hZ hw hby hml hown hret hlocks e0 Kt0 N0 Z0 O0 hS0 hk0 RT hh V_a V_b hA okA hS okS ra rs hPG hc1 (fun q => absurd hc4 q) S_CS h_cs S_F h_fm S_T TB hTb S_I E_I
      exact ⟨s₂, o₂, pre6 _ hs₂, hr₂⟩
    · obtain ⟨cl7, Ar7, q7, S7, M7, H7, G7⟩ := id V_a
      have hin8 := inb_of (j := 0) S7 ⟨by decide, by decide⟩
      have hat9 : cl7.slots[((0 : Int32)).toNatClampNeg]? = some (.int (AL.getD 0 0)) := Has.at H7 hin8 (own_bsget AL _)
      obtain ⟨_, _, ⟨T10, L10, k10, n10⟩, -, X10, ⟨Lc10, hQ10, l10, y10, z10⟩, st10⟩ := Jvm.LawKit.callS X0 hx (y := mn_38) hown (mw hZ hw 187 rfl) (mw hZ hw 188 rfl) (mw hZ hw 3 rfl) (mw hZ hw 189 rfl) (by decide) (backOf (W := 0) (rm44 l Z a0 hw [] (AL.getD 0 0) hT ) hZ (ww hw 189 rfl) (ww hw 3 rfl) (by decide) (by decide)) (g := (mkF m 397 #[vI p1, vI p2, vI p3, vI p4, vR ca, vR cb, vI al, vI nl, vI sl, vI f9, vI f10, vI f11, vI f12, vI f13, vR sa, vR sb_, .val gv, .unset, .unset, .unset] [iI (AL.getD 0 0)])) rfl (by rw [hml]; rfl) (argsL := [(.int (AL.getD 0 0))]) (rest := []) (lenOf pd_34 rfl) rfl (wz rfl) (hb hby at_397) (fun _ _ => ⟨rfl, e0, (by decide : 20 + 0 ≤ _), (by decide : 69 + 0 ≤ _)⟩)
      dsimp only [Pt.U, Pt.locs, Pt.cells, Pt.slots] at X10 l10 y10 z10 st10 hQ10
      subst l10 y10 z10
      obtain ⟨rfl, rfl, e10⟩ := hQ10
      try rw [List.append_nil] at X10
      obtain ⟨cl11, Ar11, q11, S11, M11, H11, G11⟩ := id V_b
      have hin12 := inb_of (j := 0) S11 ⟨by decide, by decide⟩
      have hat13 : cl11.slots[((0 : Int32)).toNatClampNeg]? = some (.int (SL.getD 0 0)) := Has.at H11 hin12 (own_bsget SL _)
      obtain ⟨_, _, ⟨T14, L14, k14, n14⟩, -, X14, ⟨Lc14, hQ14, l14, y14, z14⟩, st14⟩ := Jvm.LawKit.callS X10 hx (y := mn_38) hown (mw hZ hw 187 rfl) (mw hZ hw 188 rfl) (mw hZ hw 3 rfl) (mw hZ hw 189 rfl) (by decide) (backOf (W := 1) (rm44 l Z a0 hw [] (SL.getD 0 0) hT ) hZ (ww hw 189 rfl) (ww hw 3 rfl) (by decide) (by decide)) (g := (mkF m 404 #[vI p1, vI p2, vI p3, vI p4, vR ca, vR cb, vI al, vI nl, vI sl, vI f9, vI f10, vI f11, vI f12, vI f13, vR sa, vR sb_, .val gv, .unset, .unset, .unset] [iI (SL.getD 0 0), iI (own_fold (AL.getD 0 0))])) rfl (by rw [hml]; rfl) (argsL := [(.int (SL.getD 0 0))]) (rest := [(.int (own_fold (AL.getD 0 0)))]) (lenOf pd_34 rfl) rfl (wz rfl) (hb hby at_404) (fun _ _ => ⟨rfl, e10, (by decide : 20 + 0 ≤ _), (by decide : 69 + 0 ≤ _)⟩)
      dsimp only [Pt.U, Pt.locs, Pt.cells, Pt.slots] at X14 l14 y14 z14 st14 hQ14
      subst l14 y14 z14
      obtain ⟨rfl, rfl, e14⟩ := hQ14
      try rw [List.append_nil] at X14
      have pre16 : PP p e below (T14.setTop (mkF m 407 #[vI p1, vI p2, vI p3, vI p4, vR ca, vR cb, vI al, vI nl, vI sl, vI f9, vI f10, vI f11, vI f12, vI f13, vR sa, vR sb_, .val gv, .unset, .unset, .unset] [iI (own_fold (SL.getD 0 0)), iI (own_fold (AL.getD 0 0))])) (T0.setTop (mkF m 375 #[vI p1, vI p2, vI p3, vI p4, vR ca, vR cb, vI al, vI nl, vI sl, vI f9, vI f10, vI f11, vI f12, vI f13, vR sa, vR sb_, .val gv, .unset, .unset, .unset] [])) := by
        intro t kt
        refine pre5 t ?_
        refine XS.icmpNo X0.here hx rfl (hb hby at_390) rfl (flt hc4).1 ?_
        refine XS.aload X0.here hx rfl (hb hby at_393) rfl rfl ?_
        refine XS.iconst X0.here hx rfl (hb hby at_395) ?_
        refine X0.caload hx (j := 0) (v := (.int (AL.getD 0 0))) (by rw [e0]; exact Ar7.1) (State.isArrayOf_alike hZ.alike Ar7.2.1) Ar7.2.2 hin8 hat9 (g := (mkF m 396 #[vI p1, vI p2, vI p3, vI p4, vR ca, vR cb, vI al, vI nl, vI sl, vI f9, vI f10, vI f11, vI f12, vI f13, vR sa, vR sb_, .val gv, .unset, .unset, .unset] [iI 0, iR ca])) rfl rfl (hb hby at_396) _ ?_
        refine st10 _ ?_
        refine XS.aload X10.here hx rfl (hb hby at_400) rfl rfl ?_
        refine XS.iconst X10.here hx rfl (hb hby at_402) ?_
        refine X10.caload hx (j := 0) (v := (.int (SL.getD 0 0))) (by rw [e10]; exact Ar11.1) (State.isArrayOf_alike hZ.alike Ar11.2.1) Ar11.2.2 hin12 hat13 (g := (mkF m 403 #[vI p1, vI p2, vI p3, vI p4, vR ca, vR cb, vI al, vI nl, vI sl, vI f9, vI f10, vI f11, vI f12, vI f13, vR sa, vR sb_, .val gv, .unset, .unset, .unset] [iI 0, iR cb, iI (own_fold (AL.getD 0 0))])) rfl rfl (hb hby at_403) _ ?_
        refine st14 _ ?_
        exact kt
      by_cases hc15 : (own_fold (AL.getD 0 0)) = (own_fold (SL.getD 0 0))
      · have pre17 : PP p e below (T14.setTop (mkF m 410 #[vI p1, vI p2, vI p3, vI p4, vR ca, vR cb, vI al, vI nl, vI sl, vI f9, vI f10, vI f11, vI f12, vI f13, vR sa, vR sb_, .val gv, .unset, .unset, .unset] [])) (T0.setTop (mkF m 375 #[vI p1, vI p2, vI p3, vI p4, vR ca, vR cb, vI al, vI nl, vI sl, vI f9, vI f10, vI f11, vI f12, vI f13, vR sa, vR sb_, .val gv, .unset, .unset, .unset] [])) := by
          intro t kt
          refine pre16 t ?_
          refine XS.icmpNo X14.here hx rfl (hb hby at_407) rfl (teq hc15).2 ?_
          exact kt
        obtain ⟨s₂, o₂, hs₂, hr₂⟩ := own_t410 (ca := ca) (cb := cb) (al := al) (nl := nl) (sl := sl) (f9 := f9) (f10 := f10) (f11 := f11) (f12 := f12) (f13 := f13) (ka := ka) (kb := kb) (AL := AL) (SL := SL) (sa := sa) (sb_ := sb_) (gv := gv) (s := s) (vmT := vmT) (X14.more (by decide) (by decide)) hx hZ hw hby hml hown hret hlocks e14 Kt0 N0 Z0 O0 hS0 hk0 RT hh V_a V_b hA okA hS okS ra rs hPG hc1 (fun _ => hc15) S_CS h_cs S_F h_fm S_T TB hTb S_I E_I
        exact ⟨s₂, o₂, pre17 _ hs₂, hr₂⟩
      · have pre18 : PP p e below (T14.setTop (mkF m 460 #[vI p1, vI p2, vI p3, vI p4, vR ca, vR cb, vI al, vI nl, vI sl, vI f9, vI f10, vI f11, vI f12, vI f13, vR sa, vR sb_, .val gv, .unset, .unset, .unset] [])) (T0.setTop (mkF m 375 #[vI p1, vI p2, vI p3, vI p4, vR ca, vR cb, vI al, vI nl, vI sl, vI f9, vI f10, vI f11, vI f12, vI f13, vR sa, vR sb_, .val gv, .unset, .unset, .unset] [])) := by
          intro t kt
          refine pre16 t ?_
          refine XS.icmpYes X14.here hx rfl (pc0 := 407) (pc' := 460) rfl (hb hby at_407) rfl (feq hc15).2 (by decide) (by decide) ?_
          exact kt
        obtain ⟨s₂, o₂, hs₂, hr₂⟩ := own_t460 (ca := ca) (cb := cb) (al := al) (nl := nl) (sl := sl) (f9 := f9) (f10 := f10) (f11 := f11) (f12 := f12) (f13 := f13) (ka := ka) (kb := kb) (AL := AL) (SL := SL) (sa := sa) (sb_ := sb_) (gv := gv) (s := s) (vmT := vmT) (X14.more (by decide) (by decide)) hx hZ hw hby hml hown hret hlocks e14 Kt0 N0 Z0 O0 hS0 hk0 RT hh V_a V_b hA okA hS okS ra rs hPG (fun _ hf => hc15 (hf.1 hc4)) S_CS h_cs S_F h_fm S_T TB hTb S_I E_I
        exact ⟨s₂, o₂, pre18 _ hs₂, hr₂⟩
theorem own_t366n {p : Program} {l : Launch} {e : Env} {s : State} {m : MethodId} {below : List Frame} {meth : Method} {c : Code} {T0 : State} {locs : List Loc} {Z : State} {a0 : Array Value} {h0 hT : Heap} {n0 : Nat} {vmT : Vm} {kT : Nat} {p1 : Int32} {p2 : Int32} {p3 : Int32} {p4 : Int32} {cs : Int32} {fm : Value} {s_T s_I : Addr} {cl : Cell} {ca cb : Addr} {al nl sl f9 f10 f11 f12 f13 : Int32} {ka kb : ClassId} {AL SL : List Int32} {sa da sb_ db : Addr} {kda kdb : ClassId}
    (X0 : Stand p l e room_1 (s.setVm vmT) m #[(.int p1), (.int p2), (.int p3), (.int p4)] below meth c T0 locs 14 41) (hx : p.tables.exec = Jvm.exec) (hZ : Z.Warmed39 (s.setVm vmT).vm) (hw : HW a0 Z) (hby : c.code = code) (hml : c.maxLocals = 20) (hown : (s.setVm vmT).vm.findClass "com/example/cloud_to_core/cloudtocore/auth/HttpAuthorizationCredentialsPinLaw" = some m.cls) (hret : meth.sig.returnType = some .boolean) (hlocks : meth.locks = false) (e0 : T0.heap = hT) (Kt0 : Keep h0 hT []) (N0 : Fr n0 locs) (Z0 : n0 ≤ h0.size) (O0 : Old Z n0 h0) (hS0 : s.Since vmT kT) (hk0 : kT ≤ hT.size) (RT : CHr Z consts_1 s.vm h0 vmT hT) (hh : s.heap = h0) (V_a : AC Z hT ca ka (6 : Int32) AL) (V_b : AC Z hT cb kb (3 : Int32) SL) (E_sa : ES Z hT sa) (Fc_sa : FC Z hT sa) (Fv_sa : FV Z hT sa da) (V_da : AB Z hT da kda al (own_tk2 AL al)) (E_sb_ : ES Z hT sb_) (Fc_sb_ : FC Z hT sb_) (Fv_sb_ : FV Z hT sb_ db) (V_db : AB Z hT db kdb sl (own_tk2 SL sl)) (hA : AL.length = 6) (okA : ∀ x ∈ AL, own_c8 x) (hS : SL.length = 3) (okS : ∀ x ∈ SL, own_c8 x) (ra : 0 ≤ al.toInt ∧ al.toInt ≤ 6) (rs : 0 ≤ sl.toInt ∧ sl.toInt ≤ 3) (hnl : nl = (0 : Int32)) (hCn : own_cred (own_tk2 AL al) (own_tk2 SL sl) = none) (S_CS : SC Z cs) (h_cs : ¬ cs = (0 : Int32)) (S_F : SM Z fm) (h_fm : fm.isRef = true) (S_T : ST Z s_T) (TB : Tab Z Z.heap s_T cl .int (256 : Int32)) (hTb : HT cl) (S_I : SI Z s_I) (E_I : Exa Z Z.heap s_I "java/lang/CharacterDataLatin1") :
    ∃ s₂ o, Steps p.tables e below (T0.setTop (mkF m 366 #[vI p1, vI p2, vI p3, vI p4, vR ca, vR cb, vI al, vI nl, vI sl, vI f9, vI f10, vI f11, vI f12, vI f13, vR sa, vR sb_, .unset, .unset, .unset, .unset] [])) s₂ ∧ s₂.status = .running ∧ Ended s₂ below o ∧ ∃ v L, o = .returned v ∧ own_Q0 n0 v s₂.heap L ∧ ReturnedEndW s o s₂ L room_1.cells room_1.slots := by
  have Oh2 := O0.keep Kt0 all0
  have pre3 : PP p e below (T0.setTop (mkF m 370 #[vI p1, vI p2, vI p3, vI p4, vR ca, vR cb, vI al, vI nl, vI sl, vI f9, vI f10, vI f11, vI f12, vI f13, vR sa, vR sb_, .unset, .unset, .unset, .unset] [iR sb_, iR sa])) (T0.setTop (mkF m 366 #[vI p1, vI p2, vI p3, vI p4, vR ca, vR cb, vI al, vI nl, vI sl, vI f9, vI f10, vI f11, vI f12, vI f13, vR sa, vR sb_, .unset, .unset, .unset, .unset] [])) := by
    intro t kt
    refine XS.aload X0.here hx rfl (hb hby at_366) rfl rfl ?_
    refine XS.aload X0.here hx rfl (hb hby at_368) rfl rfl ?_
    exact kt
  obtain ⟨_, _, ⟨T1, L1, k1, n1⟩, -, X1, hS1q, gr1, ⟨Lc1, hQ1, l1, y1, z1, C1⟩, st1⟩ := callSS (s := s.setVm vmT) X0 hx (y := mn_35) hown (mw hZ hw 34 rfl) (mw hZ hw 35 rfl) (mw hZ hw 36 rfl) (mw hZ hw 37 rfl) (by decide) (backOfSH (s := s) (vm0 := vmT) (W := 0) (rm8 l Z a0 hw [] sa sb_ da kda al (own_tk2 AL al) db kdb sl (own_tk2 SL sl) none cs fm s_T s_I cl hT n0 (Nat.le_trans Z0 Kt0.1) Oh2 E_sa Fc_sa Fv_sa V_da (own_nneg ra.1) (own_tkl (by omega)).symm E_sb_ Fc_sb_ Fv_sb_ V_db (own_nneg rs.1) (own_tkl (by omega)).symm (by rw [own_tkl (by omega)]; simp only [Int32.toNatClampNeg]; omega) (by rw [own_tkl (by omega)]; simp only [Int32.toNatClampNeg]; omega) hCn.symm S_CS h_cs S_F h_fm S_T TB hTb S_I E_I) hZ (ww hw 37 rfl) (ww hw 36 rfl) (by decide) (by decide) (own_EW hw) RT.1) (g := (mkF m 370 #[vI p1, vI p2, vI p3, vI p4, vR ca, vR cb, vI al, vI nl, vI sl, vI f9, vI f10, vI f11, vI f12, vI f13, vR sa, vR sb_, .unset, .unset, .unset, .unset] [iR sb_, iR sa])) rfl (by rw [hml]; rfl) (argsL := [(.ref sa), (.ref sb_)]) (rest := []) (lenOf pd_35 rfl) rfl (wz rfl) (hb hby at_370) (fun _ _ => ⟨rfl, e0, (by decide : 14 + 6 ≤ _), (by decide : 41 + 28 ≤ _)⟩)
  dsimp only [Pt.U, Pt.locs, Pt.cells, Pt.slots] at X1 hS1q gr1 l1 y1 z1 C1 st1 hQ1
  subst l1 y1 z1
  have hS1 := State.Since.trans hS0 hS1q (Nat.le_trans (by have q := hk0; rw [← e0] at q; exact q) gr1)
  have hZ : Z.Warmed39 (s.setVm T1.vm).vm := State.Warmed39.trans (t := s.setVm vmT) hZ hS1q.1
  have hown : (s.setVm T1.vm).vm.findClass "com/example/cloud_to_core/cloudtocore/auth/HttpAuthorizationCredentialsPinLaw" = some m.cls := by rw [show (s.setVm T1.vm).vm = T1.vm from rfl, hS1q.1.alike.findClass]; exact hown
  have R1 := RT.trans C1
  obtain ⟨rfl, N1q, K1q⟩ := own_QCn hQ1
  have N1 := Fr.app N0 N1q
  have K1 : Keep h0 T1.heap [] := Keep.trans Kt0 K1q all0
  have fk4 := (V_a.keep K1q nin0)
  have fk5 := (V_b.keep K1q nin0)
  have pre6 : PP p e below (T1.setTop (mkF m 375 #[vI p1, vI p2, vI p3, vI p4, vR ca, vR cb, vI al, vI nl, vI sl, vI f9, vI f10, vI f11, vI f12, vI f13, vR sa, vR sb_, .val .null, .unset, .unset, .unset] [])) (T0.setTop (mkF m 366 #[vI p1, vI p2, vI p3, vI p4, vR ca, vR cb, vI al, vI nl, vI sl, vI f9, vI f10, vI f11, vI f12, vI f13, vR sa, vR sb_, .unset, .unset, .unset, .unset] [])) := by
    intro t kt
    refine pre3 t ?_
    refine st1.trans ?_
    refine XS.astore X1.here hx rfl (hb hby at_373) rfl rfl (l' := #[vI p1, vI p2, vI p3, vI p4, vR ca, vR cb, vI al, vI nl, vI sl, vI f9, vI f10, vI f11, vI f12, vI f13, vR sa, vR sb_, .val .null, .unset, .unset, .unset]) rfl ?_
    exact kt
  obtain ⟨s₂, o₂, hs₂, hr₂⟩ := own_t375 (ca := ca) (cb := cb) (al := al) (nl := nl) (sl := sl) (f9 := f9) (f10 := f10) (f11 := f11) (f12 := f12) (f13 := f13) (ka := ka) (kb := kb) (AL := AL) (SL := SL) (sa := sa) (sb_ := sb_) (gv := .null) (s := s) (vmT := T1.vm) (X1.more (by decide) (by decide)) hx hZ hw hby hml hown hret hlocks (rfl : T1.heap = _) K1 N1 Z0 O0 hS1 (Nat.le_refl T1.heap.size) R1 hh fk4 fk5 hA okA hS okS ra rs (Or.inl ⟨rfl, hCn⟩) hnl S_CS h_cs S_F h_fm S_T TB hTb S_I E_I
  exact ⟨s₂, o₂, pre6 _ hs₂, hr₂⟩
theorem own_t366s {p : Program} {l : Launch} {e : Env} {s : State} {m : MethodId} {below : List Frame} {meth : Method} {c : Code} {T0 : State} {locs : List Loc} {Z : State} {a0 : Array Value} {h0 hT : Heap} {n0 : Nat} {vmT : Vm} {kT : Nat} {p1 : Int32} {p2 : Int32} {p3 : Int32} {p4 : Int32} {cs : Int32} {fm : Value} {s_T s_I : Addr} {cl : Cell} {ca cb : Addr} {al nl sl f9 f10 f11 f12 f13 : Int32} {ka kb : ClassId} {AL SL : List Int32} {sa da sb_ db : Addr} {kda kdb : ClassId} {W : List Int32}
    (X0 : Stand p l e room_1 (s.setVm vmT) m #[(.int p1), (.int p2), (.int p3), (.int p4)] below meth c T0 locs 14 41) (hx : p.tables.exec = Jvm.exec) (hZ : Z.Warmed39 (s.setVm vmT).vm) (hw : HW a0 Z) (hby : c.code = code) (hml : c.maxLocals = 20) (hown : (s.setVm vmT).vm.findClass "com/example/cloud_to_core/cloudtocore/auth/HttpAuthorizationCredentialsPinLaw" = some m.cls) (hret : meth.sig.returnType = some .boolean) (hlocks : meth.locks = false) (e0 : T0.heap = hT) (Kt0 : Keep h0 hT []) (N0 : Fr n0 locs) (Z0 : n0 ≤ h0.size) (O0 : Old Z n0 h0) (hS0 : s.Since vmT kT) (hk0 : kT ≤ hT.size) (RT : CHr Z consts_1 s.vm h0 vmT hT) (hh : s.heap = h0) (V_a : AC Z hT ca ka (6 : Int32) AL) (V_b : AC Z hT cb kb (3 : Int32) SL) (E_sa : ES Z hT sa) (Fc_sa : FC Z hT sa) (Fv_sa : FV Z hT sa da) (V_da : AB Z hT da kda al (own_tk2 AL al)) (E_sb_ : ES Z hT sb_) (Fc_sb_ : FC Z hT sb_) (Fv_sb_ : FV Z hT sb_ db) (V_db : AB Z hT db kdb sl (own_tk2 SL sl)) (hA : AL.length = 6) (okA : ∀ x ∈ AL, own_c8 x) (hS : SL.length = 3) (okS : ∀ x ∈ SL, own_c8 x) (ra : 0 ≤ al.toInt ∧ al.toInt ≤ 6) (rs : 0 ≤ sl.toInt ∧ sl.toInt ≤ 3) (hnl : nl = (0 : Int32)) (hCs : own_cred (own_tk2 AL al) (own_tk2 SL sl) = some W) (S_CS : SC Z cs) (h_cs : ¬ cs = (0 : Int32)) (S_F : SM Z fm) (h_fm : fm.isRef = true) (S_T : ST Z s_T) (TB : Tab Z Z.heap s_T cl .int (256 : Int32)) (hTb : HT cl) (S_I : SI Z s_I) (E_I : Exa Z Z.heap s_I "java/lang/CharacterDataLatin1") :
    ∃ s₂ o, Steps p.tables e below (T0.setTop (mkF m 366 #[vI p1, vI p2, vI p3, vI p4, vR ca, vR cb, vI al, vI nl, vI sl, vI f9, vI f10, vI f11, vI f12, vI f13, vR sa, vR sb_, .unset, .unset, .unset, .unset] [])) s₂ ∧ s₂.status = .running ∧ Ended s₂ below o ∧ ∃ v L, o = .returned v ∧ own_Q0 n0 v s₂.heap L ∧ ReturnedEndW s o s₂ L room_1.cells room_1.slots := by
  have Oh2 := O0.keep Kt0 all0
  have pre3 : PP p e below (T0.setTop (mkF m 370 #[vI p1, vI p2, vI p3, vI p4, vR ca, vR cb, vI al, vI nl, vI sl, vI f9, vI f10, vI f11, vI f12, vI f13, vR sa, vR sb_, .unset, .unset, .unset, .unset] [iR sb_, iR sa])) (T0.setTop (mkF m 366 #[vI p1, vI p2, vI p3, vI p4, vR ca, vR cb, vI al, vI nl, vI sl, vI f9, vI f10, vI f11, vI f12, vI f13, vR sa, vR sb_, .unset, .unset, .unset, .unset] [])) := by
    intro t kt
    refine XS.aload X0.here hx rfl (hb hby at_366) rfl rfl ?_
    refine XS.aload X0.here hx rfl (hb hby at_368) rfl rfl ?_
    exact kt
  obtain ⟨_, _, ⟨T1, L1, k1, n1⟩, -, X1, hS1q, gr1, ⟨Lc1, hQ1, l1, y1, z1, C1⟩, st1⟩ := callSS (s := s.setVm vmT) X0 hx (y := mn_35) hown (mw hZ hw 34 rfl) (mw hZ hw 35 rfl) (mw hZ hw 36 rfl) (mw hZ hw 37 rfl) (by decide) (backOfSH (s := s) (vm0 := vmT) (W := 0) (rm8 l Z a0 hw [] sa sb_ da kda al (own_tk2 AL al) db kdb sl (own_tk2 SL sl) (some W) cs fm s_T s_I cl hT n0 (Nat.le_trans Z0 Kt0.1) Oh2 E_sa Fc_sa Fv_sa V_da (own_nneg ra.1) (own_tkl (by omega)).symm E_sb_ Fc_sb_ Fv_sb_ V_db (own_nneg rs.1) (own_tkl (by omega)).symm (by rw [own_tkl (by omega)]; simp only [Int32.toNatClampNeg]; omega) (by rw [own_tkl (by omega)]; simp only [Int32.toNatClampNeg]; omega) hCs.symm S_CS h_cs S_F h_fm S_T TB hTb S_I E_I) hZ (ww hw 37 rfl) (ww hw 36 rfl) (by decide) (by decide) (own_EW hw) RT.1) (g := (mkF m 370 #[vI p1, vI p2, vI p3, vI p4, vR ca, vR cb, vI al, vI nl, vI sl, vI f9, vI f10, vI f11, vI f12, vI f13, vR sa, vR sb_, .unset, .unset, .unset, .unset] [iR sb_, iR sa])) rfl (by rw [hml]; rfl) (argsL := [(.ref sa), (.ref sb_)]) (rest := []) (lenOf pd_35 rfl) rfl (wz rfl) (hb hby at_370) (fun _ _ => ⟨rfl, e0, (by decide : 14 + 6 ≤ _), (by decide : 41 + 28 ≤ _)⟩)
  dsimp only [Pt.U, Pt.locs, Pt.cells, Pt.slots] at X1 hS1q gr1 l1 y1 z1 C1 st1 hQ1
  subst l1 y1 z1
  have hS1 := State.Since.trans hS0 hS1q (Nat.le_trans (by have q := hk0; rw [← e0] at q; exact q) gr1)
  have hZ : Z.Warmed39 (s.setVm T1.vm).vm := State.Warmed39.trans (t := s.setVm vmT) hZ hS1q.1
  have hown : (s.setVm T1.vm).vm.findClass "com/example/cloud_to_core/cloudtocore/auth/HttpAuthorizationCredentialsPinLaw" = some m.cls := by rw [show (s.setVm T1.vm).vm = T1.vm from rfl, hS1q.1.alike.findClass]; exact hown
  have R1 := RT.trans C1
  obtain ⟨o1, d1, kd1, zw, rfl, N1q, K1q, E1q, C1q, F1q, V1q, hzw⟩ := own_QCs hQ1
  have N1 := Fr.app N0 N1q
  have K1 : Keep h0 T1.heap [] := Keep.trans Kt0 K1q all0
  have fk4 := (V_a.keep K1q nin0)
  have fk5 := (V_b.keep K1q nin0)
  have pre6 : PP p e below (T1.setTop (mkF m 375 #[vI p1, vI p2, vI p3, vI p4, vR ca, vR cb, vI al, vI nl, vI sl, vI f9, vI f10, vI f11, vI f12, vI f13, vR sa, vR sb_, vR o1, .unset, .unset, .unset] [])) (T0.setTop (mkF m 366 #[vI p1, vI p2, vI p3, vI p4, vR ca, vR cb, vI al, vI nl, vI sl, vI f9, vI f10, vI f11, vI f12, vI f13, vR sa, vR sb_, .unset, .unset, .unset, .unset] [])) := by
    intro t kt
    refine pre3 t ?_
    refine st1.trans ?_
    refine XS.astore X1.here hx rfl (hb hby at_373) rfl rfl (l' := #[vI p1, vI p2, vI p3, vI p4, vR ca, vR cb, vI al, vI nl, vI sl, vI f9, vI f10, vI f11, vI f12, vI f13, vR sa, vR sb_, vR o1, .unset, .unset, .unset]) rfl ?_
    exact kt
  obtain ⟨s₂, o₂, hs₂, hr₂⟩ := own_t375 (ca := ca) (cb := cb) (al := al) (nl := nl) (sl := sl) (f9 := f9) (f10 := f10) (f11 := f11) (f12 := f12) (f13 := f13) (ka := ka) (kb := kb) (AL := AL) (SL := SL) (sa := sa) (sb_ := sb_) (gv := (.ref o1)) (s := s) (vmT := T1.vm) (X1.more (by decide) (by decide)) hx hZ hw hby hml hown hret hlocks (rfl : T1.heap = _) K1 N1 Z0 O0 hS1 (Nat.le_refl T1.heap.size) R1 hh fk4 fk5 hA okA hS okS ra rs (Or.inr ⟨W, o1, _, _, zw, rfl, E1q, C1q, F1q, V1q, hzw, hCs⟩) hnl S_CS h_cs S_F h_fm S_T TB hTb S_I E_I
  exact ⟨s₂, o₂, pre6 _ hs₂, hr₂⟩
theorem own_t339 {p : Program} {l : Launch} {e : Env} {s : State} {m : MethodId} {below : List Frame} {meth : Method} {c : Code} {T0 : State} {locs : List Loc} {Z : State} {a0 : Array Value} {h0 hT : Heap} {n0 : Nat} {vmT : Vm} {kT : Nat} {p1 : Int32} {p2 : Int32} {p3 : Int32} {p4 : Int32} {cs : Int32} {fm : Value} {s_T s_I : Addr} {cl : Cell} {ca cb : Addr} {al nl sl f9 f10 f11 f12 f13 : Int32} {ka kb : ClassId} {AL SL : List Int32}
    (X0 : Stand p l e room_1 (s.setVm vmT) m #[(.int p1), (.int p2), (.int p3), (.int p4)] below meth c T0 locs 2 9) (hx : p.tables.exec = Jvm.exec) (hZ : Z.Warmed39 (s.setVm vmT).vm) (hw : HW a0 Z) (hby : c.code = code) (hml : c.maxLocals = 20) (hown : (s.setVm vmT).vm.findClass "com/example/cloud_to_core/cloudtocore/auth/HttpAuthorizationCredentialsPinLaw" = some m.cls) (hret : meth.sig.returnType = some .boolean) (hlocks : meth.locks = false) (e0 : T0.heap = hT) (Kt0 : Keep h0 hT []) (N0 : Fr n0 locs) (Z0 : n0 ≤ h0.size) (O0 : Old Z n0 h0) (hS0 : s.Since vmT kT) (hk0 : kT ≤ hT.size) (RT : CHr Z consts_1 s.vm h0 vmT hT) (hh : s.heap = h0) (V_a : AC Z hT ca ka (6 : Int32) AL) (V_b : AC Z hT cb kb (3 : Int32) SL) (g_ca : n0 ≤ ca) (sz_ca : h0.size ≤ ca) (S_ca : Safe Z consts_1 vmT hT ca) (ne_ab : ca ≠ cb) (hA : AL.length = 6) (okA : ∀ x ∈ AL, own_c8 x) (hS : SL.length = 3) (okS : ∀ x ∈ SL, own_c8 x) (ra : 0 ≤ al.toInt ∧ al.toInt ≤ 6) (rs : 0 ≤ sl.toInt ∧ sl.toInt ≤ 3) (S_CS : SC Z cs) (h_cs : ¬ cs = (0 : Int32)) (S_F : SM Z fm) (h_fm : fm.isRef = true) (S_T : ST Z s_T) (TB : Tab Z Z.heap s_T cl .int (256 : Int32)) (hTb : HT cl) (S_I : SI Z s_I) (E_I : Exa Z Z.heap s_I "java/lang/CharacterDataLatin1") :
    ∃ s₂ o, Steps p.tables e below (T0.setTop (mkF m 339 #[vI p1, vI p2, vI p3, vI p4, vR ca, vR cb, vI al, vI nl, vI sl, vI f9, vI f10, vI f11, vI f12, vI f13, .unset, .unset, .unset, .unset, .unset, .unset] [])) s₂ ∧ s₂.status = .running ∧ Ended s₂ below o ∧ ∃ v L, o = .returned v ∧ own_Q0 n0 v s₂.heap L ∧ ReturnedEndW s o s₂ L room_1.cells room_1.slots := by
  have pre2 : PP p e below (T0.setTop (mkF m 341 #[vI p1, vI p2, vI p3, vI p4, vR ca, vR cb, vI al, vI nl, vI sl, vI f9, vI f10, vI f11, vI f12, vI f13, .unset, .unset, .unset, .unset, .unset, .unset] [iI nl])) (T0.setTop (mkF m 339 #[vI p1, vI p2, vI p3, vI p4, vR ca, vR cb, vI al, vI nl, vI sl, vI f9, vI f10, vI f11, vI f12, vI f13, .unset, .unset, .unset, .unset, .unset, .unset] [])) := by
    intro t kt
    refine XS.iload X0.here hx rfl (hb hby at_339) rfl ?_
    exact kt
  by_cases hc1 : nl = (0 : Int32)
  · have Oh4 := O0.keep Kt0 all0
    have pre5 : PP p e below (T0.setTop (mkF m 352 #[vI p1, vI p2, vI p3, vI p4, vR ca, vR cb, vI al, vI nl, vI sl, vI f9, vI f10, vI f11, vI f12, vI f13, .unset, .unset, .unset, .unset, .unset, .unset] [iI al, iR ca])) (T0.setTop (mkF m 339 #[vI p1, vI p2, vI p3, vI p4, vR ca, vR cb, vI al, vI nl, vI sl, vI f9, vI f10, vI f11, vI f12, vI f13, .unset, .unset, .unset, .unset, .unset, .unset] [])) := by
      intro t kt
      refine pre2 t ?_
      refine XS.ifYes X0.here hx rfl (pc0 := 341) (pc' := 348) rfl (hb hby at_341) rfl ((if0 _ _).trans (teq hc1).1) (by decide) (by decide) ?_
      refine XS.aload X0.here hx rfl (hb hby at_348) rfl rfl ?_
      refine XS.iload X0.here hx rfl (hb hby at_350) rfl ?_
      exact kt
    obtain ⟨_, _, ⟨T3, L3, k3, n3⟩, -, X3, hS3q, gr3, ⟨Lc3, hQ3, l3, y3, z3, C3⟩, st3⟩ := callSS (s := s.setVm vmT) X0 hx (y := mn_42) hown (mw hZ hw 1 rfl) (mw hZ hw 2 rfl) (mw hZ hw 3 rfl) (mw hZ hw 4 rfl) (by decide) (backOfSH (s := s) (vm0 := vmT) (W := 0) (rm1 l Z a0 hw [] ca al ka (6 : Int32) AL cs hT n0 (Nat.le_trans Z0 Kt0.1) Oh4 V_a ra (by have e : (6 : Int32).toInt = 6 := rfl; omega) (by omega) okA S_CS h_cs) hZ (ww hw 4 rfl) (ww hw 3 rfl) (by decide) (by decide) (own_EW hw) RT.1) (g := (mkF m 352 #[vI p1, vI p2, vI p3, vI p4, vR ca, vR cb, vI al, vI nl, vI sl, vI f9, vI f10, vI f11, vI f12, vI f13, .unset, .unset, .unset, .unset, .unset, .unset] [iI al, iR ca])) rfl (by rw [hml]; rfl) (argsL := [(.ref ca), (.int al)]) (rest := []) (lenOf pd_36 rfl) rfl (wz rfl) (hb hby at_352) (fun _ _ => ⟨rfl, e0, (by decide : 2 + 6 ≤ _), (by decide : 9 + 16 ≤ _)⟩)
    dsimp only [Pt.U, Pt.locs, Pt.cells, Pt.slots] at X3 hS3q gr3 l3 y3 z3 C3 st3 hQ3
    subst l3 y3 z3
    have hS3 := State.Since.trans hS0 hS3q (Nat.le_trans (by have q := hk0; rw [← e0] at q; exact q) gr3)
    have hZ : Z.Warmed39 (s.setVm T3.vm).vm := State.Warmed39.trans (t := s.setVm vmT) hZ hS3q.1
    have hown : (s.setVm T3.vm).vm.findClass "com/example/cloud_to_core/cloudtocore/auth/HttpAuthorizationCredentialsPinLaw" = some m.cls := by rw [show (s.setVm T3.vm).vm = T3.vm from rfl, hS3q.1.alike.findClass]; exact hown
    have R3 := RT.trans C3
    obtain ⟨o3, d3, kd3, rfl, N3q, K3q, E3q, C3q, F3q, V3q⟩ := hQ3
    have N3 := Fr.app N0 N3q
    have K3 : Keep h0 T3.heap [] := Keep.trans Kt0 K3q all0
    have fk7 := (V_b.keep K3q nin0)
    have Oh8 := O0.keep K3 all0
    have pre9 : PP p e below (T3.setTop (mkF m 361 #[vI p1, vI p2, vI p3, vI p4, vR ca, vR cb, vI al, vI nl, vI sl, vI f9, vI f10, vI f11, vI f12, vI f13, vR o3, .unset, .unset, .unset, .unset, .unset] [iI sl, iR cb])) (T0.setTop (mkF m 339 #[vI p1, vI p2, vI p3, vI p4, vR ca, vR cb, vI al, vI nl, vI sl, vI f9, vI f10, vI f11, vI f12, vI f13, .unset, .unset, .unset, .unset, .unset, .unset] [])) := by
      intro t kt
      refine pre5 t ?_
      refine st3.trans ?_
      refine XS.astore X3.here hx rfl (hb hby at_355) rfl rfl (l' := #[vI p1, vI p2, vI p3, vI p4, vR ca, vR cb, vI al, vI nl, vI sl, vI f9, vI f10, vI f11, vI f12, vI f13, vR o3, .unset, .unset, .unset, .unset, .unset]) rfl ?_
      refine XS.aload X3.here hx rfl (hb hby at_357) rfl rfl ?_
      refine XS.iload X3.here hx rfl (hb hby at_359) rfl ?_
      exact kt
    obtain ⟨_, _, ⟨T6, L6, k6, n6⟩, -, X6, hS6q, gr6, ⟨Lc6, hQ6, l6, y6, z6, C6⟩, st6⟩ := callSS (s := s.setVm T3.vm) X3 hx (y := mn_42) hown (mw hZ hw 1 rfl) (mw hZ hw 2 rfl) (mw hZ hw 3 rfl) (mw hZ hw 4 rfl) (by decide) (backOfSH (s := s) (vm0 := T3.vm) (W := 0) (rm1 l Z a0 hw [] cb sl kb (3 : Int32) SL cs T3.heap n0 (Nat.le_trans Z0 K3.1) Oh8 fk7 ⟨rs.1, by omega⟩ (by have e : (3 : Int32).toInt = 3 := rfl; omega) (by omega) okS S_CS h_cs) hZ (ww hw 4 rfl) (ww hw 3 rfl) (by decide) (by decide) (own_EW hw) R3.1) (g := (mkF m 361 #[vI p1, vI p2, vI p3, vI p4, vR ca, vR cb, vI al, vI nl, vI sl, vI f9, vI f10, vI f11, vI f12, vI f13, vR o3, .unset, .unset, .unset, .unset, .unset] [iI sl, iR cb])) rfl (by rw [hml]; rfl) (argsL := [(.ref cb), (.int sl)]) (rest := []) (lenOf pd_36 rfl) rfl (wz rfl) (hb hby at_361) (fun _ _ => ⟨rfl, rfl, (by decide : 8 + 6 ≤ _), (by decide : 25 + 16 ≤ _)⟩)
    dsimp only [Pt.U, Pt.locs, Pt.cells, Pt.slots] at X6 hS6q gr6 l6 y6 z6 C6 st6 hQ6
    subst l6 y6 z6
    have hS6 := State.Since.trans hS3 hS6q (Nat.le_trans (Nat.le_refl T3.heap.size) gr6)
    have hZ : Z.Warmed39 (s.setVm T6.vm).vm := State.Warmed39.trans (t := s.setVm T3.vm) hZ hS6q.1
    have hown : (s.setVm T6.vm).vm.findClass "com/example/cloud_to_core/cloudtocore/auth/HttpAuthorizationCredentialsPinLaw" = some m.cls := by rw [show (s.setVm T6.vm).vm = T6.vm from rfl, hS6q.1.alike.findClass]; exact hown
    have R6 := R3.trans C6
    obtain ⟨o6, d6, kd6, rfl, N6q, K6q, E6q, C6q, F6q, V6q⟩ := hQ6
    have N6 := Fr.app N3 N6q
    have K6 : Keep h0 T6.heap [] := Keep.trans K3 K6q all0
    have fk10 := ((V_a.keep K3q nin0).keep K6q nin0)
    have fk11 := (fk7.keep K6q nin0)
    have fk12 := (E3q.keep K6q)
    have fk13 := (C3q.keep K6q nin0)
    have fk14 := (F3q.keep K6q nin0)
    have fk15 := (V3q.keep K6q nin0)
    have pre16 : PP p e below (T6.setTop (mkF m 366 #[vI p1, vI p2, vI p3, vI p4, vR ca, vR cb, vI al, vI nl, vI sl, vI f9, vI f10, vI f11, vI f12, vI f13, vR o3, vR o6, .unset, .unset, .unset, .unset] [])) (T0.setTop (mkF m 339 #[vI p1, vI p2, vI p3, vI p4, vR ca, vR cb, vI al, vI nl, vI sl, vI f9, vI f10, vI f11, vI f12, vI f13, .unset, .unset, .unset, .unset, .unset, .unset] [])) := by
      intro t kt
      refine pre9 t ?_
      refine st6.trans ?_
      refine XS.astore X6.here hx rfl (hb hby at_364) rfl rfl (l' := #[vI p1, vI p2, vI p3, vI p4, vR ca, vR cb, vI al, vI nl, vI sl, vI f9, vI f10, vI f11, vI f12, vI f13, vR o3, vR o6, .unset, .unset, .unset, .unset]) rfl ?_
      exact kt
    obtain ⟨s₂, o₂, hs₂, hr₂⟩ := own_oc (own_cred (own_tk2 AL al) (own_tk2 SL sl)) (fun hq => own_t366n (ca := ca) (cb := cb) (al := al) (nl := nl) (sl := sl) (f9 := f9) (f10 := f10) (f11 := f11) (f12 := f12) (f13 := f13) (ka := ka) (kb := kb) (AL := AL) (SL := SL) (sa := o3) (da := d3) (sb_ := o6) (db := d6) (kda := kd3) (kdb := kd6) (s := s) (vmT := T6.vm) (X6.more (by decide) (by decide)) hx hZ hw hby hml hown hret hlocks (rfl : T6.heap = _) K6 N6 Z0 O0 hS6 (Nat.le_refl T6.heap.size) R6 hh fk10 fk11 fk12 fk13 fk14 fk15 E6q C6q F6q V6q hA okA hS okS ra rs hc1 hq S_CS h_cs S_F h_fm S_T TB hTb S_I E_I) (fun W hq => own_t366s (W := W) (ca := ca) (cb := cb) (al := al) (nl := nl) (sl := sl) (f9 := f9) (f10 := f10) (f11 := f11) (f12 := f12) (f13 := f13) (ka := ka) (kb := kb) (AL := AL) (SL := SL) (sa := o3) (da := d3) (sb_ := o6) (db := d6) (kda := kd3) (kdb := kd6) (s := s) (vmT := T6.vm) (X6.more (by decide) (by decide)) hx hZ hw hby hml hown hret hlocks (rfl : T6.heap = _) K6 N6 Z0 O0 hS6 (Nat.le_refl T6.heap.size) R6 hh fk10 fk11 fk12 fk13 fk14 fk15 E6q C6q F6q V6q hA okA hS okS ra rs hc1 hq S_CS h_cs S_F h_fm S_T TB hTb S_I E_I)
    exact ⟨s₂, o₂, pre16 _ hs₂, hr₂⟩
  · have Oh18 := O0.keep Kt0 all0
    have pre19 : PP p e below (T0.setTop (mkF m 361 #[vI p1, vI p2, vI p3, vI p4, vR ca, vR cb, vI al, vI nl, vI sl, vI f9, vI f10, vI f11, vI f12, vI f13, .val .null, .unset, .unset, .unset, .unset, .unset] [iI sl, iR cb])) (T0.setTop (mkF m 339 #[vI p1, vI p2, vI p3, vI p4, vR ca, vR cb, vI al, vI nl, vI sl, vI f9, vI f10, vI f11, vI f12, vI f13, .unset, .unset, .unset, .unset, .unset, .unset] [])) := by
      intro t kt
      refine pre2 t ?_
      refine XS.ifNo X0.here hx rfl (hb hby at_341) rfl ((if0 _ _).trans (feq hc1).1) ?_
      refine XS.aconstNull X0.here hx rfl (hb hby at_344) ?_
      refine XS.goto X0.here hx rfl (pc0 := 345) (pc' := 355) rfl (hb hby at_345) (by decide) (by decide) ?_
      refine XS.astore X0.here hx rfl (hb hby at_355) rfl rfl (l' := #[vI p1, vI p2, vI p3, vI p4, vR ca, vR cb, vI al, vI nl, vI sl, vI f9, vI f10, vI f11, vI f12, vI f13, .val .null, .unset, .unset, .unset, .unset, .unset]) rfl ?_
      refine XS.aload X0.here hx rfl (hb hby at_357) rfl rfl ?_
      refine XS.iload X0.here hx rfl (hb hby at_359) rfl ?_
      exact kt
    obtain ⟨_, _, ⟨T17, L17, k17, n17⟩, -, X17, hS17q, gr17, ⟨Lc17, hQ17, l17, y17, z17, C17⟩, st17⟩ := callSS (s := s.setVm vmT) X0 hx (y := mn_42) hown (mw hZ hw 1 rfl) (mw hZ hw 2 rfl) (mw hZ hw 3 rfl) (mw hZ hw 4 rfl) (by decide) (backOfSH (s := s) (vm0 := vmT) (W := 0) (rm1 l Z a0 hw [] cb sl kb (3 : Int32) SL cs hT n0 (Nat.le_trans Z0 Kt0.1) Oh18 V_b ⟨rs.1, by omega⟩ (by have e : (3 : Int32).toInt = 3 := rfl; omega) (by omega) okS S_CS h_cs) hZ (ww hw 4 rfl) (ww hw 3 rfl) (by decide) (by decide) (own_EW hw) RT.1) (g := (mkF m 361 #[vI p1, vI p2, vI p3, vI p4, vR ca, vR cb, vI al, vI nl, vI sl, vI f9, vI f10, vI f11, vI f12, vI f13, .val .null, .unset, .unset, .unset, .unset, .unset] [iI sl, iR cb])) rfl (by rw [hml]; rfl) (argsL := [(.ref cb), (.int sl)]) (rest := []) (lenOf pd_36 rfl) rfl (wz rfl) (hb hby at_361) (fun _ _ => ⟨rfl, e0, (by decide : 2 + 6 ≤ _), (by decide : 9 + 16 ≤ _)⟩)
    dsimp only [Pt.U, Pt.locs, Pt.cells, Pt.slots] at X17 hS17q gr17 l17 y17 z17 C17 st17 hQ17
    subst l17 y17 z17
    have hS17 := State.Since.trans hS0 hS17q (Nat.le_trans (by have q := hk0; rw [← e0] at q; exact q) gr17)
    have hZ : Z.Warmed39 (s.setVm T17.vm).vm := State.Warmed39.trans (t := s.setVm vmT) hZ hS17q.1
    have hown : (s.setVm T17.vm).vm.findClass "com/example/cloud_to_core/cloudtocore/auth/HttpAuthorizationCredentialsPinLaw" = some m.cls := by rw [show (s.setVm T17.vm).vm = T17.vm from rfl, hS17q.1.alike.findClass]; exact hown
    have R17 := RT.trans C17
    obtain ⟨o17, d17, kd17, rfl, N17q, K17q, E17q, C17q, F17q, V17q⟩ := hQ17
    have N17 := Fr.app N0 N17q
    have K17 : Keep h0 T17.heap [] := Keep.trans Kt0 K17q all0
    have Oh21 := O0.keep K17 all0
    have pre22 : PP p e below (T17.setTop (mkF m 370 #[vI p1, vI p2, vI p3, vI p4, vR ca, vR cb, vI al, vI nl, vI sl, vI f9, vI f10, vI f11, vI f12, vI f13, .val .null, vR o17, .unset, .unset, .unset, .unset] [iR o17, .null])) (T0.setTop (mkF m 339 #[vI p1, vI p2, vI p3, vI p4, vR ca, vR cb, vI al, vI nl, vI sl, vI f9, vI f10, vI f11, vI f12, vI f13, .unset, .unset, .unset, .unset, .unset, .unset] [])) := by
      intro t kt
      refine pre19 t ?_
      show SA T0 m 361 #[vI p1, vI p2, vI p3, vI p4, vR ca, vR cb, vI al, vI nl, vI sl, vI f9, vI f10, vI f11, vI f12, vI f13, .val .null, .unset, .unset, .unset, .unset, .unset] [iI sl, iR cb]
      refine st17.trans ?_
      refine XS.astore X17.here hx rfl (hb hby at_364) rfl rfl (l' := #[vI p1, vI p2, vI p3, vI p4, vR ca, vR cb, vI al, vI nl, vI sl, vI f9, vI f10, vI f11, vI f12, vI f13, .val .null, vR o17, .unset, .unset, .unset, .unset]) rfl ?_
      refine XS.aload X17.here hx rfl (hb hby at_366) rfl rfl ?_
      refine XS.aload X17.here hx rfl (hb hby at_368) rfl rfl ?_
      exact kt
    obtain ⟨_, _, ⟨T20, L20, k20, n20⟩, -, X20, hS20q, gr20, ⟨Lc20, hQ20, l20, y20, z20, C20⟩, st20⟩ := callSS (s := s.setVm T17.vm) X17 hx (y := mn_35) hown (mw hZ hw 34 rfl) (mw hZ hw 35 rfl) (mw hZ hw 36 rfl) (mw hZ hw 37 rfl) (by decide) (backOfSH (s := s) (vm0 := T17.vm) (W := 0) (rm8_nl l Z a0 hw [] o17 none cs fm s_T s_I cl T17.heap n0 (Nat.le_trans Z0 K17.1) Oh21 rfl S_CS h_cs S_F h_fm S_T TB hTb S_I E_I) hZ (ww hw 37 rfl) (ww hw 36 rfl) (by decide) (by decide) (own_EW hw) R17.1) (g := (mkF m 370 #[vI p1, vI p2, vI p3, vI p4, vR ca, vR cb, vI al, vI nl, vI sl, vI f9, vI f10, vI f11, vI f12, vI f13, .val .null, vR o17, .unset, .unset, .unset, .unset] [iR o17, .null])) rfl (by rw [hml]; rfl) (argsL := [.null, (.ref o17)]) (rest := []) (lenOf pd_35 rfl) rfl (wz rfl) (hb hby at_370) (fun _ _ => ⟨rfl, rfl, (by decide : 8 + 6 ≤ _), (by decide : 25 + 28 ≤ _)⟩)
    dsimp only [Pt.U, Pt.locs, Pt.cells, Pt.slots] at X20 hS20q gr20 l20 y20 z20 C20 st20 hQ20
    subst l20 y20 z20
    have hS20 := State.Since.trans hS17 hS20q (Nat.le_trans (Nat.le_refl T17.heap.size) gr20)
    have hZ : Z.Warmed39 (s.setVm T20.vm).vm := State.Warmed39.trans (t := s.setVm T17.vm) hZ hS20q.1
    have hown : (s.setVm T20.vm).vm.findClass "com/example/cloud_to_core/cloudtocore/auth/HttpAuthorizationCredentialsPinLaw" = some m.cls := by rw [show (s.setVm T20.vm).vm = T20.vm from rfl, hS20q.1.alike.findClass]; exact hown
    have R20 := R17.trans C20
    obtain ⟨rfl, N20q, K20q⟩ := own_QCn hQ20
    have N20 := Fr.app N17 N20q
    have K20 : Keep h0 T20.heap [] := Keep.trans K17 K20q all0
    obtain ⟨fs, hr, hrun, hended, hEnd⟩ := X20.leaveW (s := s) hS20 (Nat.le_refl T20.heap.size) (v := some (.int (1 : Int32))) (fun h => by rw [hret] at h; cases h)
    refine ⟨_, _, pre22 _ ?_, hrun, hended, _, _, rfl, ?_, ⟨hEnd.1, hEnd.2.1, hEnd.2.2.1, hEnd.2.2.2.mono (by decide) (by decide)⟩⟩
    · refine st20.trans ?_
      refine XS.astore X20.here hx rfl (hb hby at_373) rfl rfl (l' := #[vI p1, vI p2, vI p3, vI p4, vR ca, vR cb, vI al, vI nl, vI sl, vI f9, vI f10, vI f11, vI f12, vI f13, .val .null, vR o17, .val .null, .unset, .unset, .unset]) rfl ?_
      refine XS.iload X20.here hx rfl (hb hby at_375) rfl ?_
      refine XS.ifYes X20.here hx rfl (pc0 := 377) (pc' := 460) rfl (hb hby at_377) rfl ((if0 _ _).trans (feq hc1).2) (by decide) (by decide) ?_
      refine XS.iconst X20.here hx rfl (hb hby at_460) ?_
      refine XS.istore X20.here hx rfl (hb hby at_461) rfl (l' := #[vI p1, vI p2, vI p3, vI p4, vR ca, vR cb, vI al, vI nl, vI sl, vI f9, vI f10, vI f11, vI f12, vI f13, .val .null, vR o17, .val .null, vI 0, .unset, .unset]) rfl ?_
      refine XS.iload X20.here hx rfl (hb hby at_463) rfl ?_
      refine XS.ifYes X20.here hx rfl (pc0 := 465) (pc' := 485) rfl (hb hby at_465) rfl ((if0 _ _).trans (teq (by decide : (0 : Int32) = (0 : Int32))).1) (by decide) (by decide) ?_
      refine XS.aload X20.here hx rfl (hb hby at_485) rfl rfl ?_
      show SA T20 m 487 #[vI p1, vI p2, vI p3, vI p4, vR ca, vR cb, vI al, vI nl, vI sl, vI f9, vI f10, vI f11, vI f12, vI f13, .val .null, vR o17, .val .null, vI 0, .unset, .unset] [.null]
      refine XS.ifnonnullNo X20.here hx rfl (hb hby at_487) rfl ?_
      refine XS.iconst X20.here hx rfl (hb hby at_490) ?_
      refine XS.goto X20.here hx rfl (pc0 := 491) (pc' := 495) rfl (hb hby at_491) (by decide) (by decide) ?_
      show Steps _ _ _ (T20.setTop (mkF m 495 #[vI p1, vI p2, vI p3, vI p4, vR ca, vR cb, vI al, vI nl, vI sl, vI f9, vI f10, vI f11, vI f12, vI f13, .val .null, vR o17, .val .null, vI 0, .unset, .unset] [iI 1])) _
      exact retN X20 hx (t := .boolean) hret (by simp) (hb hby at_495) hr
    · show own_Q0 n0 _ T20.heap _
      exact ⟨rfl, N20⟩
theorem own_t327 {p : Program} {l : Launch} {e : Env} {s : State} {m : MethodId} {below : List Frame} {meth : Method} {c : Code} {T0 : State} {locs : List Loc} {Z : State} {a0 : Array Value} {h0 hT : Heap} {n0 : Nat} {vmT : Vm} {kT : Nat} {p1 : Int32} {p2 : Int32} {p3 : Int32} {p4 : Int32} {cs : Int32} {fm : Value} {s_T s_I : Addr} {cl : Cell} {ca cb : Addr} {al nl sl f9 f10 f11 f12 f13 : Int32} {ka kb : ClassId} {AL SL : List Int32}
    (X0 : Stand p l e room_1 (s.setVm vmT) m #[(.int p1), (.int p2), (.int p3), (.int p4)] below meth c T0 locs 2 9) (hx : p.tables.exec = Jvm.exec) (hZ : Z.Warmed39 (s.setVm vmT).vm) (hw : HW a0 Z) (hby : c.code = code) (hml : c.maxLocals = 20) (hown : (s.setVm vmT).vm.findClass "com/example/cloud_to_core/cloudtocore/auth/HttpAuthorizationCredentialsPinLaw" = some m.cls) (hret : meth.sig.returnType = some .boolean) (hlocks : meth.locks = false) (e0 : T0.heap = hT) (Kt0 : Keep h0 hT []) (N0 : Fr n0 locs) (Z0 : n0 ≤ h0.size) (O0 : Old Z n0 h0) (hS0 : s.Since vmT kT) (hk0 : kT ≤ hT.size) (RT : CHr Z consts_1 s.vm h0 vmT hT) (hh : s.heap = h0) (V_a : AC Z hT ca ka (6 : Int32) AL) (V_b : AC Z hT cb kb (3 : Int32) SL) (g_ca : n0 ≤ ca) (sz_ca : h0.size ≤ ca) (S_ca : Safe Z consts_1 vmT hT ca) (ne_ab : ca ≠ cb) (hA : AL.length = 6) (okA : ∀ x ∈ AL, own_c8 x) (hS : SL.length = 3) (okS : ∀ x ∈ SL, own_c8 x) (ra : 0 ≤ al.toInt ∧ al.toInt ≤ 6) (rs : 0 ≤ sl.toInt ∧ sl.toInt ≤ 3) (S_CS : SC Z cs) (h_cs : ¬ cs = (0 : Int32)) (S_F : SM Z fm) (h_fm : fm.isRef = true) (S_T : ST Z s_T) (TB : Tab Z Z.heap s_T cl .int (256 : Int32)) (hTb : HT cl) (S_I : SI Z s_I) (E_I : Exa Z Z.heap s_I "java/lang/CharacterDataLatin1") :
    ∃ s₂ o, Steps p.tables e below (T0.setTop (mkF m 327 #[vI p1, vI p2, vI p3, vI p4, vR ca, vR cb, vI al, vI nl, vI sl, vI f9, vI f10, vI f11, vI f12, vI f13, .unset, .unset, .unset, .unset, .unset, .unset] [])) s₂ ∧ s₂.status = .running ∧ Ended s₂ below o ∧ ∃ v L, o = .returned v ∧ own_Q0 n0 v s₂.heap L ∧ ReturnedEndW s o s₂ L room_1.cells room_1.slots := by
  have pre2 : PP p e below (T0.setTop (mkF m 329 #[vI p1, vI p2, vI p3, vI p4, vR ca, vR cb, vI al, vI nl, vI sl, vI f9, vI f10, vI f11, vI f12, vI f13, .unset, .unset, .unset, .unset, .unset, .unset] [iI f13])) (T0.setTop (mkF m 327 #[vI p1, vI p2, vI p3, vI p4, vR ca, vR cb, vI al, vI nl, vI sl, vI f9, vI f10, vI f11, vI f12, vI f13, .unset, .unset, .unset, .unset, .unset, .unset] [])) := by
    intro t kt
    refine XS.iload X0.here hx rfl (hb hby at_327) rfl ?_
    exact kt
  by_cases hc1 : f13 = (0 : Int32)
  · have pre3 : PP p e below (T0.setTop (mkF m 339 #[vI p1, vI p2, vI p3, vI p4, vR ca, vR cb, vI al, vI nl, vI sl, vI f9, vI f10, vI f11, vI f12, vI f13, .unset, .unset, .unset, .unset, .unset, .unset] [])) (T0.setTop (mkF m 327 #[vI p1, vI p2, vI p3, vI p4, vR ca, vR cb, vI al, vI nl, vI sl, vI f9, vI f10, vI f11, vI f12, vI f13, .unset, .unset, .unset, .unset, .unset, .unset] [])) := by
      intro t kt
      refine pre2 t ?_
      refine XS.ifYes X0.here hx rfl (pc0 := 329) (pc' := 339) rfl (hb hby at_329) rfl ((if0 _ _).trans (teq hc1).1) (by decide) (by decide) ?_
      exact kt
    obtain ⟨s₂, o₂, hs₂, hr₂⟩ := own_t339 (ca := ca) (cb := cb) (al := al) (nl := nl) (sl := sl) (f9 := f9) (f10 := f10) (f11 := f11) (f12 := f12) (f13 := f13) (ka := ka) (kb := kb) (AL := AL) (SL := SL) (s := s) (vmT := vmT) (X0.more (by decide) (by decide)) hx hZ hw hby hml hown hret hlocks e0 Kt0 N0 Z0 O0 hS0 hk0 RT hh V_a V_b g_ca sz_ca S_ca ne_ab hA okA hS okS ra rs S_CS h_cs S_F h_fm S_T TB hTb S_I E_I
    exact ⟨s₂, o₂, pre3 _ hs₂, hr₂⟩
  · obtain ⟨cl4, Ar4, q4, S4, M4, H4, G4⟩ := id V_a
    have hin5 := inb_of (j := sl) S4 (own_in6 rs)
    obtain ⟨T6, h6, X6, e6, W6, st6⟩ := stC X0 hx hZ e0 Ar4 (j := sl) hin5 (g := (mkF m 338 #[vI p1, vI p2, vI p3, vI p4, vR ca, vR cb, vI al, vI nl, vI sl, vI f9, vI f10, vI f11, vI f12, vI f13, .unset, .unset, .unset, .unset, .unset, .unset] [iI 32, iI sl, iR ca])) rfl rfl (hb hby at_338)
    have V6r := Arv.set Ar4 q4 S4 M4 H4 G4 (by decide) W6 _ rfl (by rw [List.length_map, hA]; exact own_in6n rs)
    have V6 : Arv Z h6 ca ka .char (6 : Int32) (own_bs (AL.set sl.toNatClampNeg (32 : Int32))) (.int (0 : Int32)) := by rw [← own_bsSet]; exact V6r
    have K6 : Keep h0 h6 [] := Kt0.wr W6 (Or.inr sz_ca)
    have N6 := Fr.snoc X6 N0 g_ca
    have fk7 := (V_b.other W6 (Ne.symm ne_ab))
    have S8_ca := Safe.wr W6 S_ca RT.1 S_ca
    have R8 := RT.trans (CHr.wr W6 S_ca RT.1)
    have pre9 : PP p e below (T6.setTop (mkF m 339 #[vI p1, vI p2, vI p3, vI p4, vR ca, vR cb, vI al, vI nl, vI sl, vI f9, vI f10, vI f11, vI f12, vI f13, .unset, .unset, .unset, .unset, .unset, .unset] [])) (T0.setTop (mkF m 327 #[vI p1, vI p2, vI p3, vI p4, vR ca, vR cb, vI al, vI nl, vI sl, vI f9, vI f10, vI f11, vI f12, vI f13, .unset, .unset, .unset, .unset, .unset, .unset] [])) := by
      intro t kt
      refine pre2 t ?_
      refine XS.ifNo X0.here hx rfl (hb hby at_329) rfl ((if0 _ _).trans (feq hc1).1) ?_
      refine XS.aload X0.here hx rfl (hb hby at_332) rfl rfl ?_
      refine XS.iload X0.here hx rfl (hb hby at_334) rfl ?_
      refine XS.bipush X0.here hx rfl (hb hby at_336) ?_
      refine st6 _ ?_
      exact kt
    obtain ⟨s₂, o₂, hs₂, hr₂⟩ := own_t339 (ca := ca) (cb := cb) (al := al) (nl := nl) (sl := sl) (f9 := f9) (f10 := f10) (f11 := f11) (f12 := f12) (f13 := f13) (ka := ka) (kb := kb) (AL := (AL.set sl.toNatClampNeg (32 : Int32))) (SL := SL) (s := s) (vmT := vmT) (X6.more (by decide) (by decide)) hx hZ hw hby hml hown hret hlocks e6 K6 N6 Z0 O0 hS0 (Nat.le_trans hk0 (Nat.le_of_eq W6.size.symm)) R8 hh V6 fk7 g_ca sz_ca S8_ca ne_ab (by rw [List.length_set]; exact hA) (own_okset okA _ own_c32) hS okS ra rs S_CS h_cs S_F h_fm S_T TB hTb S_I E_I
    exact ⟨s₂, o₂, pre9 _ hs₂, hr₂⟩
theorem own_t298 {p : Program} {l : Launch} {e : Env} {s : State} {m : MethodId} {below : List Frame} {meth : Method} {c : Code} {T0 : State} {locs : List Loc} {Z : State} {a0 : Array Value} {h0 hT : Heap} {n0 : Nat} {vmT : Vm} {kT : Nat} {p1 : Int32} {p2 : Int32} {p3 : Int32} {p4 : Int32} {cs : Int32} {fm : Value} {s_T s_I : Addr} {cl : Cell} {ca cb : Addr} {al nl sl f9 f10 f11 f12 f13 : Int32} {ka kb : ClassId} {AL SL : List Int32}
    (X0 : Stand p l e room_1 (s.setVm vmT) m #[(.int p1), (.int p2), (.int p3), (.int p4)] below meth c T0 locs 2 9) (hx : p.tables.exec = Jvm.exec) (hZ : Z.Warmed39 (s.setVm vmT).vm) (hw : HW a0 Z) (hby : c.code = code) (hml : c.maxLocals = 20) (hown : (s.setVm vmT).vm.findClass "com/example/cloud_to_core/cloudtocore/auth/HttpAuthorizationCredentialsPinLaw" = some m.cls) (hret : meth.sig.returnType = some .boolean) (hlocks : meth.locks = false) (e0 : T0.heap = hT) (Kt0 : Keep h0 hT []) (N0 : Fr n0 locs) (Z0 : n0 ≤ h0.size) (O0 : Old Z n0 h0) (hS0 : s.Since vmT kT) (hk0 : kT ≤ hT.size) (RT : CHr Z consts_1 s.vm h0 vmT hT) (hh : s.heap = h0) (V_a : AC Z hT ca ka (6 : Int32) AL) (V_b : AC Z hT cb kb (3 : Int32) SL) (g_ca : n0 ≤ ca) (sz_ca : h0.size ≤ ca) (S_ca : Safe Z consts_1 vmT hT ca) (ne_ab : ca ≠ cb) (hA : AL.length = 6) (okA : ∀ x ∈ AL, own_c8 x) (hS : SL.length = 3) (okS : ∀ x ∈ SL, own_c8 x) (ra : 0 ≤ al.toInt ∧ al.toInt ≤ 6) (rs : 0 ≤ sl.toInt ∧ sl.toInt ≤ 3) (S_CS : SC Z cs) (h_cs : ¬ cs = (0 : Int32)) (S_F : SM Z fm) (h_fm : fm.isRef = true) (S_T : ST Z s_T) (TB : Tab Z Z.heap s_T cl .int (256 : Int32)) (hTb : HT cl) (S_I : SI Z s_I) (E_I : Exa Z Z.heap s_I "java/lang/CharacterDataLatin1") :
    ∃ s₂ o, Steps p.tables e below (T0.setTop (mkF m 298 #[vI p1, vI p2, vI p3, vI p4, vR ca, vR cb, vI al, vI nl, vI sl, vI f9, vI f10, vI f11, vI f12, vI f13, .unset, .unset, .unset, .unset, .unset, .unset] [])) s₂ ∧ s₂.status = .running ∧ Ended s₂ below o ∧ ∃ v L, o = .returned v ∧ own_Q0 n0 v s₂.heap L ∧ ReturnedEndW s o s₂ L room_1.cells room_1.slots := by
  have pre2 : PP p e below (T0.setTop (mkF m 301 #[vI p1, vI p2, vI p3, vI p4, vR ca, vR cb, vI al, vI nl, vI sl, vI f9, vI f10, vI f11, vI f12, vI f13, .unset, .unset, .unset, .unset, .unset, .unset] [iI 2, iI sl])) (T0.setTop (mkF m 298 #[vI p1, vI p2, vI p3, vI p4, vR ca, vR cb, vI al, vI nl, vI sl, vI f9, vI f10, vI f11, vI f12, vI f13, .unset, .unset, .unset, .unset, .unset, .unset] [])) := by
    intro t kt
    refine XS.iload X0.here hx rfl (hb hby at_298) rfl ?_
    refine XS.iconst X0.here hx rfl (hb hby at_300) ?_
    exact kt
  by_cases hc1 : (2 : Int32) < sl
  · have pre4 : PP p e below (T0.setTop (mkF m 309 #[vI p1, vI p2, vI p3, vI p4, vR ca, vR cb, vI al, vI nl, vI sl, vI f9, vI f10, vI f11, vI f12, vI f13, .unset, .unset, .unset, .unset, .unset, .unset] [iI f12, iI 2, iR ca])) (T0.setTop (mkF m 298 #[vI p1, vI p2, vI p3, vI p4, vR ca, vR cb, vI al, vI nl, vI sl, vI f9, vI f10, vI f11, vI f12, vI f13, .unset, .unset, .unset, .unset, .unset, .unset] [])) := by
      intro t kt
      refine pre2 t ?_
      refine XS.icmpNo X0.here hx rfl (hb hby at_301) rfl (tlt hc1).2.2.2 ?_
      refine XS.aload X0.here hx rfl (hb hby at_304) rfl rfl ?_
      refine XS.iconst X0.here hx rfl (hb hby at_306) ?_
      refine XS.iload X0.here hx rfl (hb hby at_307) rfl ?_
      exact kt
    by_cases hc3 : f12 = (0 : Int32)
    · obtain ⟨cl5, Ar5, q5, S5, M5, H5, G5⟩ := id V_b
      have hin6 := inb_of (j := 2) S5 ⟨by decide, by decide⟩
      have hat7 : cl5.slots[((2 : Int32)).toNatClampNeg]? = some (.int (SL.getD 2 0)) := Has.at H5 hin6 (own_bsget SL _)
      obtain ⟨cl8, Ar8, q8, S8, M8, H8, G8⟩ := id V_a
      have hin9 := inb_of (j := 2) S8 ⟨by decide, by decide⟩
      obtain ⟨T10, h10, X10, e10, W10, st10⟩ := stC X0 hx hZ e0 Ar8 (j := 2) hin9 (g := (mkF m 326 #[vI p1, vI p2, vI p3, vI p4, vR ca, vR cb, vI al, vI nl, vI sl, vI f9, vI f10, vI f11, vI f12, vI f13, .unset, .unset, .unset, .unset, .unset, .unset] [iI (SL.getD 2 0), iI 2, iR ca])) rfl rfl (hb hby at_326)
      have V10r := Arv.set Ar8 q8 S8 M8 H8 G8 (fits_nar_char _) W10 _ rfl (by rw [List.length_map, hA]; decide)
      have V10 : Arv Z h10 ca ka .char (6 : Int32) (own_bs (AL.set (2 : Int32).toNatClampNeg (nar .char (SL.getD 2 0)))) (.int (0 : Int32)) := by rw [← own_bsSet]; exact V10r
      have K10 : Keep h0 h10 [] := Kt0.wr W10 (Or.inr sz_ca)
      have N10 := Fr.snoc X10 N0 g_ca
      have fk11 := (V_b.other W10 (Ne.symm ne_ab))
      have S12_ca := Safe.wr W10 S_ca RT.1 S_ca
      have R12 := RT.trans (CHr.wr W10 S_ca RT.1)
      have pre13 : PP p e below (T10.setTop (mkF m 327 #[vI p1, vI p2, vI p3, vI p4, vR ca, vR cb, vI al, vI nl, vI sl, vI f9, vI f10, vI f11, vI f12, vI f13, .unset, .unset, .unset, .unset, .unset, .unset] [])) (T0.setTop (mkF m 298 #[vI p1, vI p2, vI p3, vI p4, vR ca, vR cb, vI al, vI nl, vI sl, vI f9, vI f10, vI f11, vI f12, vI f13, .unset, .unset, .unset, .unset, .unset, .unset] [])) := by
        intro t kt
        refine pre4 t ?_
        refine XS.ifYes X0.here hx rfl (pc0 := 309) (pc' := 322) rfl (hb hby at_309) rfl ((if0 _ _).trans (teq hc3).1) (by decide) (by decide) ?_
        refine XS.aload X0.here hx rfl (hb hby at_322) rfl rfl ?_
        refine XS.iconst X0.here hx rfl (hb hby at_324) ?_
        refine X0.caload hx (j := 2) (v := (.int (SL.getD 2 0))) (by rw [e0]; exact Ar5.1) (State.isArrayOf_alike hZ.alike Ar5.2.1) Ar5.2.2 hin6 hat7 (g := (mkF m 325 #[vI p1, vI p2, vI p3, vI p4, vR ca, vR cb, vI al, vI nl, vI sl, vI f9, vI f10, vI f11, vI f12, vI f13, .unset, .unset, .unset, .unset, .unset, .unset] [iI 2, iR cb, iI 2, iR ca])) rfl rfl (hb hby at_325) _ ?_
        refine st10 _ ?_
        exact kt
      obtain ⟨s₂, o₂, hs₂, hr₂⟩ := own_t327 (ca := ca) (cb := cb) (al := al) (nl := nl) (sl := sl) (f9 := f9) (f10 := f10) (f11 := f11) (f12 := f12) (f13 := f13) (ka := ka) (kb := kb) (AL := (AL.set (2 : Int32).toNatClampNeg (nar .char (SL.getD 2 0)))) (SL := SL) (s := s) (vmT := vmT) (X10.more (by decide) (by decide)) hx hZ hw hby hml hown hret hlocks e10 K10 N10 Z0 O0 hS0 (Nat.le_trans hk0 (Nat.le_of_eq W10.size.symm)) R12 hh V10 fk11 g_ca sz_ca S12_ca ne_ab (by rw [List.length_set]; exact hA) (own_okset okA _ (own_ncc (own_gc okS (i := 2) (by omega)))) hS okS ra rs S_CS h_cs S_F h_fm S_T TB hTb S_I E_I
      exact ⟨s₂, o₂, pre13 _ hs₂, hr₂⟩
    · obtain ⟨cl14, Ar14, q14, S14, M14, H14, G14⟩ := id V_b
      have hin15 := inb_of (j := 2) S14 ⟨by decide, by decide⟩
      have hat16 : cl14.slots[((2 : Int32)).toNatClampNeg]? = some (.int (SL.getD 2 0)) := Has.at H14 hin15 (own_bsget SL _)
      obtain ⟨_, _, ⟨T17, L17, k17, n17⟩, -, X17, ⟨Lc17, hQ17, l17, y17, z17⟩, st17⟩ := Jvm.LawKit.callS X0 hx (y := mn_37) hown (mw hZ hw 181 rfl) (mw hZ hw 182 rfl) (mw hZ hw 3 rfl) (mw hZ hw 183 rfl) (by decide) (backOf (W := 2) (rm42 l Z a0 hw [] (SL.getD 2 0) hT ) hZ (ww hw 183 rfl) (ww hw 3 rfl) (by decide) (by decide)) (g := (mkF m 316 #[vI p1, vI p2, vI p3, vI p4, vR ca, vR cb, vI al, vI nl, vI sl, vI f9, vI f10, vI f11, vI f12, vI f13, .unset, .unset, .unset, .unset, .unset, .unset] [iI (SL.getD 2 0), iI 2, iR ca])) rfl (by rw [hml]; rfl) (argsL := [(.int (SL.getD 2 0))]) (rest := [(.int (2 : Int32)), (.ref ca)]) (lenOf pd_37 rfl) rfl (wz rfl) (hb hby at_316) (fun _ _ => ⟨rfl, e0, (by decide : 2 + 0 ≤ _), (by decide : 9 + 0 ≤ _)⟩)
      dsimp only [Pt.U, Pt.locs, Pt.cells, Pt.slots] at X17 l17 y17 z17 st17 hQ17
      subst l17 y17 z17
      obtain ⟨rfl, rfl, e17⟩ := hQ17
      try rw [List.append_nil] at X17
      obtain ⟨cl18, Ar18, q18, S18, M18, H18, G18⟩ := id V_a
      have hin19 := inb_of (j := 2) S18 ⟨by decide, by decide⟩
      obtain ⟨T20, h20, X20, e20, W20, st20⟩ := stC X17 hx hZ e17 Ar18 (j := 2) hin19 (g := (mkF m 326 #[vI p1, vI p2, vI p3, vI p4, vR ca, vR cb, vI al, vI nl, vI sl, vI f9, vI f10, vI f11, vI f12, vI f13, .unset, .unset, .unset, .unset, .unset, .unset] [iI (own_swap (SL.getD 2 0)), iI 2, iR ca])) rfl rfl (hb hby at_326)
      have V20r := Arv.set Ar18 q18 S18 M18 H18 G18 (fits_nar_char _) W20 _ rfl (by rw [List.length_map, hA]; decide)
      have V20 : Arv Z h20 ca ka .char (6 : Int32) (own_bs (AL.set (2 : Int32).toNatClampNeg (nar .char (own_swap (SL.getD 2 0))))) (.int (0 : Int32)) := by rw [← own_bsSet]; exact V20r
      have K20 : Keep h0 h20 [] := Kt0.wr W20 (Or.inr sz_ca)
      have N20 := Fr.snoc X20 N0 g_ca
      have fk21 := (V_b.other W20 (Ne.symm ne_ab))
      have S22_ca := Safe.wr W20 S_ca RT.1 S_ca
      have R22 := RT.trans (CHr.wr W20 S_ca RT.1)
      have pre23 : PP p e below (T20.setTop (mkF m 327 #[vI p1, vI p2, vI p3, vI p4, vR ca, vR cb, vI al, vI nl, vI sl, vI f9, vI f10, vI f11, vI f12, vI f13, .unset, .unset, .unset, .unset, .unset, .unset] [])) (T0.setTop (mkF m 298 #[vI p1, vI p2, vI p3, vI p4, vR ca, vR cb, vI al, vI nl, vI sl, vI f9, vI f10, vI f11, vI f12, vI f13, .unset, .unset, .unset, .unset, .unset, .unset] [])) := by
        intro t kt
        refine pre4 t ?_
        refine XS.ifNo X0.here hx rfl (hb hby at_309) rfl ((if0 _ _).trans (feq hc3).1) ?_
        refine XS.aload X0.here hx rfl (hb hby at_312) rfl rfl ?_
        refine XS.iconst X0.here hx rfl (hb hby at_314) ?_
        refine X0.caload hx (j := 2) (v := (.int (SL.getD 2 0))) (by rw [e0]; exact Ar14.1) (State.isArrayOf_alike hZ.alike Ar14.2.1) Ar14.2.2 hin15 hat16 (g := (mkF m 315 #[vI p1, vI p2, vI p3, vI p4, vR ca, vR cb, vI al, vI nl, vI sl, vI f9, vI f10, vI f11, vI f12, vI f13, .unset, .unset, .unset, .unset, .unset, .unset] [iI 2, iR cb, iI 2, iR ca])) rfl rfl (hb hby at_315) _ ?_
        refine st17 _ ?_
        refine XS.goto X17.here hx rfl (pc0 := 319) (pc' := 326) rfl (hb hby at_319) (by decide) (by decide) ?_
        refine st20 _ ?_
        exact kt
      obtain ⟨s₂, o₂, hs₂, hr₂⟩ := own_t327 (ca := ca) (cb := cb) (al := al) (nl := nl) (sl := sl) (f9 := f9) (f10 := f10) (f11 := f11) (f12 := f12) (f13 := f13) (ka := ka) (kb := kb) (AL := (AL.set (2 : Int32).toNatClampNeg (nar .char (own_swap (SL.getD 2 0))))) (SL := SL) (s := s) (vmT := vmT) (X20.more (by decide) (by decide)) hx hZ hw hby hml hown hret hlocks e20 K20 N20 Z0 O0 hS0 (Nat.le_trans hk0 (Nat.le_of_eq W20.size.symm)) R22 hh V20 fk21 g_ca sz_ca S22_ca ne_ab (by rw [List.length_set]; exact hA) (own_okset okA _ (own_swc (own_gc okS (i := 2) (by omega)))) hS okS ra rs S_CS h_cs S_F h_fm S_T TB hTb S_I E_I
      exact ⟨s₂, o₂, pre23 _ hs₂, hr₂⟩
  · have pre24 : PP p e below (T0.setTop (mkF m 327 #[vI p1, vI p2, vI p3, vI p4, vR ca, vR cb, vI al, vI nl, vI sl, vI f9, vI f10, vI f11, vI f12, vI f13, .unset, .unset, .unset, .unset, .unset, .unset] [])) (T0.setTop (mkF m 298 #[vI p1, vI p2, vI p3, vI p4, vR ca, vR cb, vI al, vI nl, vI sl, vI f9, vI f10, vI f11, vI f12, vI f13, .unset, .unset, .unset, .unset, .unset, .unset] [])) := by
      intro t kt
      refine pre2 t ?_
      refine XS.icmpYes X0.here hx rfl (pc0 := 301) (pc' := 327) rfl (hb hby at_301) rfl (flt hc1).2.2.2 (by decide) (by decide) ?_
      exact kt
    obtain ⟨s₂, o₂, hs₂, hr₂⟩ := own_t327 (ca := ca) (cb := cb) (al := al) (nl := nl) (sl := sl) (f9 := f9) (f10 := f10) (f11 := f11) (f12 := f12) (f13 := f13) (ka := ka) (kb := kb) (AL := AL) (SL := SL) (s := s) (vmT := vmT) (X0.more (by decide) (by decide)) hx hZ hw hby hml hown hret hlocks e0 Kt0 N0 Z0 O0 hS0 hk0 RT hh V_a V_b g_ca sz_ca S_ca ne_ab hA okA hS okS ra rs S_CS h_cs S_F h_fm S_T TB hTb S_I E_I
    exact ⟨s₂, o₂, pre24 _ hs₂, hr₂⟩
theorem own_t269 {p : Program} {l : Launch} {e : Env} {s : State} {m : MethodId} {below : List Frame} {meth : Method} {c : Code} {T0 : State} {locs : List Loc} {Z : State} {a0 : Array Value} {h0 hT : Heap} {n0 : Nat} {vmT : Vm} {kT : Nat} {p1 : Int32} {p2 : Int32} {p3 : Int32} {p4 : Int32} {cs : Int32} {fm : Value} {s_T s_I : Addr} {cl : Cell} {ca cb : Addr} {al nl sl f9 f10 f11 f12 f13 : Int32} {ka kb : ClassId} {AL SL : List Int32}
    (X0 : Stand p l e room_1 (s.setVm vmT) m #[(.int p1), (.int p2), (.int p3), (.int p4)] below meth c T0 locs 2 9) (hx : p.tables.exec = Jvm.exec) (hZ : Z.Warmed39 (s.setVm vmT).vm) (hw : HW a0 Z) (hby : c.code = code) (hml : c.maxLocals = 20) (hown : (s.setVm vmT).vm.findClass "com/example/cloud_to_core/cloudtocore/auth/HttpAuthorizationCredentialsPinLaw" = some m.cls) (hret : meth.sig.returnType = some .boolean) (hlocks : meth.locks = false) (e0 : T0.heap = hT) (Kt0 : Keep h0 hT []) (N0 : Fr n0 locs) (Z0 : n0 ≤ h0.size) (O0 : Old Z n0 h0) (hS0 : s.Since vmT kT) (hk0 : kT ≤ hT.size) (RT : CHr Z consts_1 s.vm h0 vmT hT) (hh : s.heap = h0) (V_a : AC Z hT ca ka (6 : Int32) AL) (V_b : AC Z hT cb kb (3 : Int32) SL) (g_ca : n0 ≤ ca) (sz_ca : h0.size ≤ ca) (S_ca : Safe Z consts_1 vmT hT ca) (ne_ab : ca ≠ cb) (hA : AL.length = 6) (okA : ∀ x ∈ AL, own_c8 x) (hS : SL.length = 3) (okS : ∀ x ∈ SL, own_c8 x) (ra : 0 ≤ al.toInt ∧ al.toInt ≤ 6) (rs : 0 ≤ sl.toInt ∧ sl.toInt ≤ 3) (S_CS : SC Z cs) (h_cs : ¬ cs = (0 : Int32)) (S_F : SM Z fm) (h_fm : fm.isRef = true) (S_T : ST Z s_T) (TB : Tab Z Z.heap s_T cl .int (256 : Int32)) (hTb : HT cl) (S_I : SI Z s_I) (E_I : Exa Z Z.heap s_I "java/lang/CharacterDataLatin1") :
    ∃ s₂ o, Steps p.tables e below (T0.setTop (mkF m 269 #[vI p1, vI p2, vI p3, vI p4, vR ca, vR cb, vI al, vI nl, vI sl, vI f9, vI f10, vI f11, vI f12, vI f13, .unset, .unset, .unset, .unset, .unset, .unset] [])) s₂ ∧ s₂.status = .running ∧ Ended s₂ below o ∧ ∃ v L, o = .returned v ∧ own_Q0 n0 v s₂.heap L ∧ ReturnedEndW s o s₂ L room_1.cells room_1.slots := by
  have pre2 : PP p e below (T0.setTop (mkF m 272 #[vI p1, vI p2, vI p3, vI p4, vR ca, vR cb, vI al, vI nl, vI sl, vI f9, vI f10, vI f11, vI f12, vI f13, .unset, .unset, .unset, .unset, .unset, .unset] [iI 1, iI sl])) (T0.setTop (mkF m 269 #[vI p1, vI p2, vI p3, vI p4, vR ca, vR cb, vI al, vI nl, vI sl, vI f9, vI f10, vI f11, vI f12, vI f13, .unset, .unset, .unset, .unset, .unset, .unset] [])) := by
    intro t kt
    refine XS.iload X0.here hx rfl (hb hby at_269) rfl ?_
    refine XS.iconst X0.here hx rfl (hb hby at_271) ?_
    exact kt
  by_cases hc1 : (1 : Int32) < sl
  · have pre4 : PP p e below (T0.setTop (mkF m 280 #[vI p1, vI p2, vI p3, vI p4, vR ca, vR cb, vI al, vI nl, vI sl, vI f9, vI f10, vI f11, vI f12, vI f13, .unset, .unset, .unset, .unset, .unset, .unset] [iI f11, iI 1, iR ca])) (T0.setTop (mkF m 269 #[vI p1, vI p2, vI p3, vI p4, vR ca, vR cb, vI al, vI nl, vI sl, vI f9, vI f10, vI f11, vI f12, vI f13, .unset, .unset, .unset, .unset, .unset, .unset] [])) := by
      intro t kt
      refine pre2 t ?_
      refine XS.icmpNo X0.here hx rfl (hb hby at_272) rfl (tlt hc1).2.2.2 ?_
      refine XS.aload X0.here hx rfl (hb hby at_275) rfl rfl ?_
      refine XS.iconst X0.here hx rfl (hb hby at_277) ?_
      refine XS.iload X0.here hx rfl (hb hby at_278) rfl ?_
      exact kt
    by_cases hc3 : f11 = (0 : Int32)
    · obtain ⟨cl5, Ar5, q5, S5, M5, H5, G5⟩ := id V_b
      have hin6 := inb_of (j := 1) S5 ⟨by decide, by decide⟩
      have hat7 : cl5.slots[((1 : Int32)).toNatClampNeg]? = some (.int (SL.getD 1 0)) := Has.at H5 hin6 (own_bsget SL _)
      obtain ⟨cl8, Ar8, q8, S8, M8, H8, G8⟩ := id V_a
      have hin9 := inb_of (j := 1) S8 ⟨by decide, by decide⟩
      obtain ⟨T10, h10, X10, e10, W10, st10⟩ := stC X0 hx hZ e0 Ar8 (j := 1) hin9 (g := (mkF m 297 #[vI p1, vI p2, vI p3, vI p4, vR ca, vR cb, vI al, vI nl, vI sl, vI f9, vI f10, vI f11, vI f12, vI f13, .unset, .unset, .unset, .unset, .unset, .unset] [iI (SL.getD 1 0), iI 1, iR ca])) rfl rfl (hb hby at_297)
      have V10r := Arv.set Ar8 q8 S8 M8 H8 G8 (fits_nar_char _) W10 _ rfl (by rw [List.length_map, hA]; decide)
      have V10 : Arv Z h10 ca ka .char (6 : Int32) (own_bs (AL.set (1 : Int32).toNatClampNeg (nar .char (SL.getD 1 0)))) (.int (0 : Int32)) := by rw [← own_bsSet]; exact V10r
      have K10 : Keep h0 h10 [] := Kt0.wr W10 (Or.inr sz_ca)
      have N10 := Fr.snoc X10 N0 g_ca
      have fk11 := (V_b.other W10 (Ne.symm ne_ab))
      have S12_ca := Safe.wr W10 S_ca RT.1 S_ca
      have R12 := RT.trans (CHr.wr W10 S_ca RT.1)
      have pre13 : PP p e below (T10.setTop (mkF m 298 #[vI p1, vI p2, vI p3, vI p4, vR ca, vR cb, vI al, vI nl, vI sl, vI f9, vI f10, vI f11, vI f12, vI f13, .unset, .unset, .unset, .unset, .unset, .unset] [])) (T0.setTop (mkF m 269 #[vI p1, vI p2, vI p3, vI p4, vR ca, vR cb, vI al, vI nl, vI sl, vI f9, vI f10, vI f11, vI f12, vI f13, .unset, .unset, .unset, .unset, .unset, .unset] [])) := by
        intro t kt
        refine pre4 t ?_
        refine XS.ifYes X0.here hx rfl (pc0 := 280) (pc' := 293) rfl (hb hby at_280) rfl ((if0 _ _).trans (teq hc3).1) (by decide) (by decide) ?_
        refine XS.aload X0.here hx rfl (hb hby at_293) rfl rfl ?_
        refine XS.iconst X0.here hx rfl (hb hby at_295) ?_
        refine X0.caload hx (j := 1) (v := (.int (SL.getD 1 0))) (by rw [e0]; exact Ar5.1) (State.isArrayOf_alike hZ.alike Ar5.2.1) Ar5.2.2 hin6 hat7 (g := (mkF m 296 #[vI p1, vI p2, vI p3, vI p4, vR ca, vR cb, vI al, vI nl, vI sl, vI f9, vI f10, vI f11, vI f12, vI f13, .unset, .unset, .unset, .unset, .unset, .unset] [iI 1, iR cb, iI 1, iR ca])) rfl rfl (hb hby at_296) _ ?_
        refine st10 _ ?_
        exact kt
      obtain ⟨s₂, o₂, hs₂, hr₂⟩ := own_t298 (ca := ca) (cb := cb) (al := al) (nl := nl) (sl := sl) (f9 := f9) (f10 := f10) (f11 := f11) (f12 := f12) (f13 := f13) (ka := ka) (kb := kb) (AL := (AL.set (1 : Int32).toNatClampNeg (nar .char (SL.getD 1 0)))) (SL := SL) (s := s) (vmT := vmT) (X10.more (by decide) (by decide)) hx hZ hw hby hml hown hret hlocks e10 K10 N10 Z0 O0 hS0 (Nat.le_trans hk0 (Nat.le_of_eq W10.size.symm)) R12 hh V10 fk11 g_ca sz_ca S12_ca ne_ab (by rw [List.length_set]; exact hA) (own_okset okA _ (own_ncc (own_gc okS (i := 1) (by omega)))) hS okS ra rs S_CS h_cs S_F h_fm S_T TB hTb S_I E_I
      exact ⟨s₂, o₂, pre13 _ hs₂, hr₂⟩
    · obtain ⟨cl14, Ar14, q14, S14, M14, H14, G14⟩ := id V_b
      have hin15 := inb_of (j := 1) S14 ⟨by decide, by decide⟩
      have hat16 : cl14.slots[((1 : Int32)).toNatClampNeg]? = some (.int (SL.getD 1 0)) := Has.at H14 hin15 (own_bsget SL _)
      obtain ⟨_, _, ⟨T17, L17, k17, n17⟩, -, X17, ⟨Lc17, hQ17, l17, y17, z17⟩, st17⟩ := Jvm.LawKit.callS X0 hx (y := mn_37) hown (mw hZ hw 181 rfl) (mw hZ hw 182 rfl) (mw hZ hw 3 rfl) (mw hZ hw 183 rfl) (by decide) (backOf (W := 2) (rm42 l Z a0 hw [] (SL.getD 1 0) hT ) hZ (ww hw 183 rfl) (ww hw 3 rfl) (by decide) (by decide)) (g := (mkF m 287 #[vI p1, vI p2, vI p3, vI p4, vR ca, vR cb, vI al, vI nl, vI sl, vI f9, vI f10, vI f11, vI f12, vI f13, .unset, .unset, .unset, .unset, .unset, .unset] [iI (SL.getD 1 0), iI 1, iR ca])) rfl (by rw [hml]; rfl) (argsL := [(.int (SL.getD 1 0))]) (rest := [(.int (1 : Int32)), (.ref ca)]) (lenOf pd_37 rfl) rfl (wz rfl) (hb hby at_287) (fun _ _ => ⟨rfl, e0, (by decide : 2 + 0 ≤ _), (by decide : 9 + 0 ≤ _)⟩)
      dsimp only [Pt.U, Pt.locs, Pt.cells, Pt.slots] at X17 l17 y17 z17 st17 hQ17
      subst l17 y17 z17
      obtain ⟨rfl, rfl, e17⟩ := hQ17
      try rw [List.append_nil] at X17
      obtain ⟨cl18, Ar18, q18, S18, M18, H18, G18⟩ := id V_a
      have hin19 := inb_of (j := 1) S18 ⟨by decide, by decide⟩
      obtain ⟨T20, h20, X20, e20, W20, st20⟩ := stC X17 hx hZ e17 Ar18 (j := 1) hin19 (g := (mkF m 297 #[vI p1, vI p2, vI p3, vI p4, vR ca, vR cb, vI al, vI nl, vI sl, vI f9, vI f10, vI f11, vI f12, vI f13, .unset, .unset, .unset, .unset, .unset, .unset] [iI (own_swap (SL.getD 1 0)), iI 1, iR ca])) rfl rfl (hb hby at_297)
      have V20r := Arv.set Ar18 q18 S18 M18 H18 G18 (fits_nar_char _) W20 _ rfl (by rw [List.length_map, hA]; decide)
      have V20 : Arv Z h20 ca ka .char (6 : Int32) (own_bs (AL.set (1 : Int32).toNatClampNeg (nar .char (own_swap (SL.getD 1 0))))) (.int (0 : Int32)) := by rw [← own_bsSet]; exact V20r
      have K20 : Keep h0 h20 [] := Kt0.wr W20 (Or.inr sz_ca)
      have N20 := Fr.snoc X20 N0 g_ca
      have fk21 := (V_b.other W20 (Ne.symm ne_ab))
      have S22_ca := Safe.wr W20 S_ca RT.1 S_ca
      have R22 := RT.trans (CHr.wr W20 S_ca RT.1)
      have pre23 : PP p e below (T20.setTop (mkF m 298 #[vI p1, vI p2, vI p3, vI p4, vR ca, vR cb, vI al, vI nl, vI sl, vI f9, vI f10, vI f11, vI f12, vI f13, .unset, .unset, .unset, .unset, .unset, .unset] [])) (T0.setTop (mkF m 269 #[vI p1, vI p2, vI p3, vI p4, vR ca, vR cb, vI al, vI nl, vI sl, vI f9, vI f10, vI f11, vI f12, vI f13, .unset, .unset, .unset, .unset, .unset, .unset] [])) := by
        intro t kt
        refine pre4 t ?_
        refine XS.ifNo X0.here hx rfl (hb hby at_280) rfl ((if0 _ _).trans (feq hc3).1) ?_
        refine XS.aload X0.here hx rfl (hb hby at_283) rfl rfl ?_
        refine XS.iconst X0.here hx rfl (hb hby at_285) ?_
        refine X0.caload hx (j := 1) (v := (.int (SL.getD 1 0))) (by rw [e0]; exact Ar14.1) (State.isArrayOf_alike hZ.alike Ar14.2.1) Ar14.2.2 hin15 hat16 (g := (mkF m 286 #[vI p1, vI p2, vI p3, vI p4, vR ca, vR cb, vI al, vI nl, vI sl, vI f9, vI f10, vI f11, vI f12, vI f13, .unset, .unset, .unset, .unset, .unset, .unset] [iI 1, iR cb, iI 1, iR ca])) rfl rfl (hb hby at_286) _ ?_
        refine st17 _ ?_
        refine XS.goto X17.here hx rfl (pc0 := 290) (pc' := 297) rfl (hb hby at_290) (by decide) (by decide) ?_
        refine st20 _ ?_
        exact kt
      obtain ⟨s₂, o₂, hs₂, hr₂⟩ := own_t298 (ca := ca) (cb := cb) (al := al) (nl := nl) (sl := sl) (f9 := f9) (f10 := f10) (f11 := f11) (f12 := f12) (f13 := f13) (ka := ka) (kb := kb) (AL := (AL.set (1 : Int32).toNatClampNeg (nar .char (own_swap (SL.getD 1 0))))) (SL := SL) (s := s) (vmT := vmT) (X20.more (by decide) (by decide)) hx hZ hw hby hml hown hret hlocks e20 K20 N20 Z0 O0 hS0 (Nat.le_trans hk0 (Nat.le_of_eq W20.size.symm)) R22 hh V20 fk21 g_ca sz_ca S22_ca ne_ab (by rw [List.length_set]; exact hA) (own_okset okA _ (own_swc (own_gc okS (i := 1) (by omega)))) hS okS ra rs S_CS h_cs S_F h_fm S_T TB hTb S_I E_I
      exact ⟨s₂, o₂, pre23 _ hs₂, hr₂⟩
  · have pre24 : PP p e below (T0.setTop (mkF m 298 #[vI p1, vI p2, vI p3, vI p4, vR ca, vR cb, vI al, vI nl, vI sl, vI f9, vI f10, vI f11, vI f12, vI f13, .unset, .unset, .unset, .unset, .unset, .unset] [])) (T0.setTop (mkF m 269 #[vI p1, vI p2, vI p3, vI p4, vR ca, vR cb, vI al, vI nl, vI sl, vI f9, vI f10, vI f11, vI f12, vI f13, .unset, .unset, .unset, .unset, .unset, .unset] [])) := by
      intro t kt
      refine pre2 t ?_
      refine XS.icmpYes X0.here hx rfl (pc0 := 272) (pc' := 298) rfl (hb hby at_272) rfl (flt hc1).2.2.2 (by decide) (by decide) ?_
      exact kt
    obtain ⟨s₂, o₂, hs₂, hr₂⟩ := own_t298 (ca := ca) (cb := cb) (al := al) (nl := nl) (sl := sl) (f9 := f9) (f10 := f10) (f11 := f11) (f12 := f12) (f13 := f13) (ka := ka) (kb := kb) (AL := AL) (SL := SL) (s := s) (vmT := vmT) (X0.more (by decide) (by decide)) hx hZ hw hby hml hown hret hlocks e0 Kt0 N0 Z0 O0 hS0 hk0 RT hh V_a V_b g_ca sz_ca S_ca ne_ab hA okA hS okS ra rs S_CS h_cs S_F h_fm S_T TB hTb S_I E_I
    exact ⟨s₂, o₂, pre24 _ hs₂, hr₂⟩
theorem own_t236 {p : Program} {l : Launch} {e : Env} {s : State} {m : MethodId} {below : List Frame} {meth : Method} {c : Code} {T0 : State} {locs : List Loc} {Z : State} {a0 : Array Value} {h0 hT : Heap} {n0 : Nat} {vmT : Vm} {kT : Nat} {p1 : Int32} {p2 : Int32} {p3 : Int32} {p4 : Int32} {cs : Int32} {fm : Value} {s_T s_I : Addr} {cl : Cell} {ca cb : Addr} {al nl sl f9 f10 f11 f12 f13 : Int32} {ka kb : ClassId} {AL SL : List Int32}
    (X0 : Stand p l e room_1 (s.setVm vmT) m #[(.int p1), (.int p2), (.int p3), (.int p4)] below meth c T0 locs 2 9) (hx : p.tables.exec = Jvm.exec) (hZ : Z.Warmed39 (s.setVm vmT).vm) (hw : HW a0 Z) (hby : c.code = code) (hml : c.maxLocals = 20) (hown : (s.setVm vmT).vm.findClass "com/example/cloud_to_core/cloudtocore/auth/HttpAuthorizationCredentialsPinLaw" = some m.cls) (hret : meth.sig.returnType = some .boolean) (hlocks : meth.locks = false) (e0 : T0.heap = hT) (Kt0 : Keep h0 hT []) (N0 : Fr n0 locs) (Z0 : n0 ≤ h0.size) (O0 : Old Z n0 h0) (hS0 : s.Since vmT kT) (hk0 : kT ≤ hT.size) (RT : CHr Z consts_1 s.vm h0 vmT hT) (hh : s.heap = h0) (V_a : AC Z hT ca ka (6 : Int32) AL) (V_b : AC Z hT cb kb (3 : Int32) SL) (g_ca : n0 ≤ ca) (sz_ca : h0.size ≤ ca) (S_ca : Safe Z consts_1 vmT hT ca) (ne_ab : ca ≠ cb) (hA : AL.length = 6) (okA : ∀ x ∈ AL, own_c8 x) (hS : SL.length = 3) (okS : ∀ x ∈ SL, own_c8 x) (ra : 0 ≤ al.toInt ∧ al.toInt ≤ 6) (rs : 0 ≤ sl.toInt ∧ sl.toInt ≤ 3) (S_CS : SC Z cs) (h_cs : ¬ cs = (0 : Int32)) (S_F : SM Z fm) (h_fm : fm.isRef = true) (S_T : ST Z s_T) (TB : Tab Z Z.heap s_T cl .int (256 : Int32)) (hTb : HT cl) (S_I : SI Z s_I) (E_I : Exa Z Z.heap s_I "java/lang/CharacterDataLatin1") :
    ∃ s₂ o, Steps p.tables e below (T0.setTop (mkF m 236 #[vI p1, vI p2, vI p3, vI p4, vR ca, vR cb, vI al, vI nl, vI sl, vI f9, vI f10, vI f11, vI f12, vI f13, .unset, .unset, .unset, .unset, .unset, .unset] [])) s₂ ∧ s₂.status = .running ∧ Ended s₂ below o ∧ ∃ v L, o = .returned v ∧ own_Q0 n0 v s₂.heap L ∧ ReturnedEndW s o s₂ L room_1.cells room_1.slots := by
  have pre2 : PP p e below (T0.setTop (mkF m 238 #[vI p1, vI p2, vI p3, vI p4, vR ca, vR cb, vI al, vI nl, vI sl, vI f9, vI f10, vI f11, vI f12, vI f13, .unset, .unset, .unset, .unset, .unset, .unset] [iI f9])) (T0.setTop (mkF m 236 #[vI p1, vI p2, vI p3, vI p4, vR ca, vR cb, vI al, vI nl, vI sl, vI f9, vI f10, vI f11, vI f12, vI f13, .unset, .unset, .unset, .unset, .unset, .unset] [])) := by
    intro t kt
    refine XS.iload X0.here hx rfl (hb hby at_236) rfl ?_
    exact kt
  by_cases hc1 : f9 = (0 : Int32)
  · have pre3 : PP p e below (T0.setTop (mkF m 327 #[vI p1, vI p2, vI p3, vI p4, vR ca, vR cb, vI al, vI nl, vI sl, vI f9, vI f10, vI f11, vI f12, vI f13, .unset, .unset, .unset, .unset, .unset, .unset] [])) (T0.setTop (mkF m 236 #[vI p1, vI p2, vI p3, vI p4, vR ca, vR cb, vI al, vI nl, vI sl, vI f9, vI f10, vI f11, vI f12, vI f13, .unset, .unset, .unset, .unset, .unset, .unset] [])) := by
      intro t kt
      refine pre2 t ?_
      refine XS.ifYes X0.here hx rfl (pc0 := 238) (pc' := 327) rfl (hb hby at_238) rfl ((if0 _ _).trans (teq hc1).1) (by decide) (by decide) ?_
      exact kt
    obtain ⟨s₂, o₂, hs₂, hr₂⟩ := own_t327 (ca := ca) (cb := cb) (al := al) (nl := nl) (sl := sl) (f9 := f9) (f10 := f10) (f11 := f11) (f12 := f12) (f13 := f13) (ka := ka) (kb := kb) (AL := AL) (SL := SL) (s := s) (vmT := vmT) (X0.more (by decide) (by decide)) hx hZ hw hby hml hown hret hlocks e0 Kt0 N0 Z0 O0 hS0 hk0 RT hh V_a V_b g_ca sz_ca S_ca ne_ab hA okA hS okS ra rs S_CS h_cs S_F h_fm S_T TB hTb S_I E_I
    exact ⟨s₂, o₂, pre3 _ hs₂, hr₂⟩
  · have pre5 : PP p e below (T0.setTop (mkF m 243 #[vI p1, vI p2, vI p3, vI p4, vR ca, vR cb, vI al, vI nl, vI sl, vI f9, vI f10, vI f11, vI f12, vI f13, .unset, .unset, .unset, .unset, .unset, .unset] [iI sl])) (T0.setTop (mkF m 236 #[vI p1, vI p2, vI p3, vI p4, vR ca, vR cb, vI al, vI nl, vI sl, vI f9, vI f10, vI f11, vI f12, vI f13, .unset, .unset, .unset, .unset, .unset, .unset] [])) := by
      intro t kt
      refine pre2 t ?_
      refine XS.ifNo X0.here hx rfl (hb hby at_238) rfl ((if0 _ _).trans (feq hc1).1) ?_
      refine XS.iload X0.here hx rfl (hb hby at_241) rfl ?_
      exact kt
    by_cases hc4 : (0 : Int32) < sl
    · have pre7 : PP p e below (T0.setTop (mkF m 251 #[vI p1, vI p2, vI p3, vI p4, vR ca, vR cb, vI al, vI nl, vI sl, vI f9, vI f10, vI f11, vI f12, vI f13, .unset, .unset, .unset, .unset, .unset, .unset] [iI f10, iI 0, iR ca])) (T0.setTop (mkF m 236 #[vI p1, vI p2, vI p3, vI p4, vR ca, vR cb, vI al, vI nl, vI sl, vI f9, vI f10, vI f11, vI f12, vI f13, .unset, .unset, .unset, .unset, .unset, .unset] [])) := by
        intro t kt
        refine pre5 t ?_
        refine XS.ifNo X0.here hx rfl (hb hby at_243) rfl ((if0 _ _).trans (tlt hc4).2.2.2) ?_
        refine XS.aload X0.here hx rfl (hb hby at_246) rfl rfl ?_
        refine XS.iconst X0.here hx rfl (hb hby at_248) ?_
        refine XS.iload X0.here hx rfl (hb hby at_249) rfl ?_
        exact kt
      by_cases hc6 : f10 = (0 : Int32)
      · obtain ⟨cl8, Ar8, q8, S8, M8, H8, G8⟩ := id V_b
        have hin9 := inb_of (j := 0) S8 ⟨by decide, by decide⟩
        have hat10 : cl8.slots[((0 : Int32)).toNatClampNeg]? = some (.int (SL.getD 0 0)) := Has.at H8 hin9 (own_bsget SL _)
        obtain ⟨cl11, Ar11, q11, S11, M11, H11, G11⟩ := id V_a
        have hin12 := inb_of (j := 0) S11 ⟨by decide, by decide⟩
        obtain ⟨T13, h13, X13, e13, W13, st13⟩ := stC X0 hx hZ e0 Ar11 (j := 0) hin12 (g := (mkF m 268 #[vI p1, vI p2, vI p3, vI p4, vR ca, vR cb, vI al, vI nl, vI sl, vI f9, vI f10, vI f11, vI f12, vI f13, .unset, .unset, .unset, .unset, .unset, .unset] [iI (SL.getD 0 0), iI 0, iR ca])) rfl rfl (hb hby at_268)
        have V13r := Arv.set Ar11 q11 S11 M11 H11 G11 (fits_nar_char _) W13 _ rfl (by rw [List.length_map, hA]; decide)
        have V13 : Arv Z h13 ca ka .char (6 : Int32) (own_bs (AL.set (0 : Int32).toNatClampNeg (nar .char (SL.getD 0 0)))) (.int (0 : Int32)) := by rw [← own_bsSet]; exact V13r
        have K13 : Keep h0 h13 [] := Kt0.wr W13 (Or.inr sz_ca)
        have N13 := Fr.snoc X13 N0 g_ca
        have fk14 := (V_b.other W13 (Ne.symm ne_ab))
        have S15_ca := Safe.wr W13 S_ca RT.1 S_ca
        have R15 := RT.trans (CHr.wr W13 S_ca RT.1)
        have pre16 : PP p e below (T13.setTop (mkF m 269 #[vI p1, vI p2, vI p3, vI p4, vR ca, vR cb, vI al, vI nl, vI sl, vI f9, vI f10, vI f11, vI f12, vI f13, .unset, .unset, .unset, .unset, .unset, .unset] [])) (T0.setTop (mkF m 236 #[vI p1, vI p2, vI p3, vI p4, vR ca, vR cb, vI al, vI nl, vI sl, vI f9, vI f10, vI f11, vI f12, vI f13, .unset, .unset, .unset, .unset, .unset, .unset] [])) := by
          intro t kt
          refine pre7 t ?_
          refine XS.ifYes X0.here hx rfl (pc0 := 251) (pc' := 264) rfl (hb hby at_251) rfl ((if0 _ _).trans (teq hc6).1) (by decide) (by decide) ?_
          refine XS.aload X0.here hx rfl (hb hby at_264) rfl rfl ?_
          refine XS.iconst X0.here hx rfl (hb hby at_266) ?_
          refine X0.caload hx (j := 0) (v := (.int (SL.getD 0 0))) (by rw [e0]; exact Ar8.1) (State.isArrayOf_alike hZ.alike Ar8.2.1) Ar8.2.2 hin9 hat10 (g := (mkF m 267 #[vI p1, vI p2, vI p3, vI p4, vR ca, vR cb, vI al, vI nl, vI sl, vI f9, vI f10, vI f11, vI f12, vI f13, .unset, .unset, .unset, .unset, .unset, .unset] [iI 0, iR cb, iI 0, iR ca])) rfl rfl (hb hby at_267) _ ?_
          refine st13 _ ?_
          exact kt
        obtain ⟨s₂, o₂, hs₂, hr₂⟩ := own_t269 (ca := ca) (cb := cb) (al := al) (nl := nl) (sl := sl) (f9 := f9) (f10 := f10) (f11 := f11) (f12 := f12) (f13 := f13) (ka := ka) (kb := kb) (AL := (AL.set (0 : Int32).toNatClampNeg (nar .char (SL.getD 0 0)))) (SL := SL) (s := s) (vmT := vmT) (X13.more (by decide) (by decide)) hx hZ hw hby hml hown hret hlocks e13 K13 N13 Z0 O0 hS0 (Nat.le_trans hk0 (Nat.le_of_eq W13.size.symm)) R15 hh V13 fk14 g_ca sz_ca S15_ca ne_ab (by rw [List.length_set]; exact hA) (own_okset okA _ (own_ncc (own_gc okS (i := 0) (by omega)))) hS okS ra rs S_CS h_cs S_F h_fm S_T TB hTb S_I E_I
        exact ⟨s₂, o₂, pre16 _ hs₂, hr₂⟩
      · obtain ⟨cl17, Ar17, q17, S17, M17, H17, G17⟩ := id V_b
        have hin18 := inb_of (j := 0) S17 ⟨by decide, by decide⟩
        have hat19 : cl17.slots[((0 : Int32)).toNatClampNeg]? = some (.int (SL.getD 0 0)) := Has.at H17 hin18 (own_bsget SL _)
        obtain ⟨_, _, ⟨T20, L20, k20, n20⟩, -, X20, ⟨Lc20, hQ20, l20, y20, z20⟩, st20⟩ := Jvm.LawKit.callS X0 hx (y := mn_37) hown (mw hZ hw 181 rfl) (mw hZ hw 182 rfl) (mw hZ hw 3 rfl) (mw hZ hw 183 rfl) (by decide) (backOf (W := 2) (rm42 l Z a0 hw [] (SL.getD 0 0) hT ) hZ (ww hw 183 rfl) (ww hw 3 rfl) (by decide) (by decide)) (g := (mkF m 258 #[vI p1, vI p2, vI p3, vI p4, vR ca, vR cb, vI al, vI nl, vI sl, vI f9, vI f10, vI f11, vI f12, vI f13, .unset, .unset, .unset, .unset, .unset, .unset] [iI (SL.getD 0 0), iI 0, iR ca])) rfl (by rw [hml]; rfl) (argsL := [(.int (SL.getD 0 0))]) (rest := [(.int (0 : Int32)), (.ref ca)]) (lenOf pd_37 rfl) rfl (wz rfl) (hb hby at_258) (fun _ _ => ⟨rfl, e0, (by decide : 2 + 0 ≤ _), (by decide : 9 + 0 ≤ _)⟩)
        dsimp only [Pt.U, Pt.locs, Pt.cells, Pt.slots] at X20 l20 y20 z20 st20 hQ20
        subst l20 y20 z20
        obtain ⟨rfl, rfl, e20⟩ := hQ20
        try rw [List.append_nil] at X20
        obtain ⟨cl21, Ar21, q21, S21, M21, H21, G21⟩ := id V_a
        have hin22 := inb_of (j := 0) S21 ⟨by decide, by decide⟩
        obtain ⟨T23, h23, X23, e23, W23, st23⟩ := stC X20 hx hZ e20 Ar21 (j := 0) hin22 (g := (mkF m 268 #[vI p1, vI p2, vI p3, vI p4, vR ca, vR cb, vI al, vI nl, vI sl, vI f9, vI f10, vI f11, vI f12, vI f13, .unset, .unset, .unset, .unset, .unset, .unset] [iI (own_swap (SL.getD 0 0)), iI 0, iR ca])) rfl rfl (hb hby at_268)
        have V23r := Arv.set Ar21 q21 S21 M21 H21 G21 (fits_nar_char _) W23 _ rfl (by rw [List.length_map, hA]; decide)
        have V23 : Arv Z h23 ca ka .char (6 : Int32) (own_bs (AL.set (0 : Int32).toNatClampNeg (nar .char (own_swap (SL.getD 0 0))))) (.int (0 : Int32)) := by rw [← own_bsSet]; exact V23r
        have K23 : Keep h0 h23 [] := Kt0.wr W23 (Or.inr sz_ca)
        have N23 := Fr.snoc X23 N0 g_ca
        have fk24 := (V_b.other W23 (Ne.symm ne_ab))
        have S25_ca := Safe.wr W23 S_ca RT.1 S_ca
        have R25 := RT.trans (CHr.wr W23 S_ca RT.1)
        have pre26 : PP p e below (T23.setTop (mkF m 269 #[vI p1, vI p2, vI p3, vI p4, vR ca, vR cb, vI al, vI nl, vI sl, vI f9, vI f10, vI f11, vI f12, vI f13, .unset, .unset, .unset, .unset, .unset, .unset] [])) (T0.setTop (mkF m 236 #[vI p1, vI p2, vI p3, vI p4, vR ca, vR cb, vI al, vI nl, vI sl, vI f9, vI f10, vI f11, vI f12, vI f13, .unset, .unset, .unset, .unset, .unset, .unset] [])) := by
          intro t kt
          refine pre7 t ?_
          refine XS.ifNo X0.here hx rfl (hb hby at_251) rfl ((if0 _ _).trans (feq hc6).1) ?_
          refine XS.aload X0.here hx rfl (hb hby at_254) rfl rfl ?_
          refine XS.iconst X0.here hx rfl (hb hby at_256) ?_
          refine X0.caload hx (j := 0) (v := (.int (SL.getD 0 0))) (by rw [e0]; exact Ar17.1) (State.isArrayOf_alike hZ.alike Ar17.2.1) Ar17.2.2 hin18 hat19 (g := (mkF m 257 #[vI p1, vI p2, vI p3, vI p4, vR ca, vR cb, vI al, vI nl, vI sl, vI f9, vI f10, vI f11, vI f12, vI f13, .unset, .unset, .unset, .unset, .unset, .unset] [iI 0, iR cb, iI 0, iR ca])) rfl rfl (hb hby at_257) _ ?_
          refine st20 _ ?_
          refine XS.goto X20.here hx rfl (pc0 := 261) (pc' := 268) rfl (hb hby at_261) (by decide) (by decide) ?_
          refine st23 _ ?_
          exact kt
        obtain ⟨s₂, o₂, hs₂, hr₂⟩ := own_t269 (ca := ca) (cb := cb) (al := al) (nl := nl) (sl := sl) (f9 := f9) (f10 := f10) (f11 := f11) (f12 := f12) (f13 := f13) (ka := ka) (kb := kb) (AL := (AL.set (0 : Int32).toNatClampNeg (nar .char (own_swap (SL.getD 0 0))))) (SL := SL) (s := s) (vmT := vmT) (X23.more (by decide) (by decide)) hx hZ hw hby hml hown hret hlocks e23 K23 N23 Z0 O0 hS0 (Nat.le_trans hk0 (Nat.le_of_eq W23.size.symm)) R25 hh V23 fk24 g_ca sz_ca S25_ca ne_ab (by rw [List.length_set]; exact hA) (own_okset okA _ (own_swc (own_gc okS (i := 0) (by omega)))) hS okS ra rs S_CS h_cs S_F h_fm S_T TB hTb S_I E_I
        exact ⟨s₂, o₂, pre26 _ hs₂, hr₂⟩
    · have pre27 : PP p e below (T0.setTop (mkF m 269 #[vI p1, vI p2, vI p3, vI p4, vR ca, vR cb, vI al, vI nl, vI sl, vI f9, vI f10, vI f11, vI f12, vI f13, .unset, .unset, .unset, .unset, .unset, .unset] [])) (T0.setTop (mkF m 236 #[vI p1, vI p2, vI p3, vI p4, vR ca, vR cb, vI al, vI nl, vI sl, vI f9, vI f10, vI f11, vI f12, vI f13, .unset, .unset, .unset, .unset, .unset, .unset] [])) := by
        intro t kt
        refine pre5 t ?_
        refine XS.ifYes X0.here hx rfl (pc0 := 243) (pc' := 269) rfl (hb hby at_243) rfl ((if0 _ _).trans (flt hc4).2.2.2) (by decide) (by decide) ?_
        exact kt
      obtain ⟨s₂, o₂, hs₂, hr₂⟩ := own_t269 (ca := ca) (cb := cb) (al := al) (nl := nl) (sl := sl) (f9 := f9) (f10 := f10) (f11 := f11) (f12 := f12) (f13 := f13) (ka := ka) (kb := kb) (AL := AL) (SL := SL) (s := s) (vmT := vmT) (X0.more (by decide) (by decide)) hx hZ hw hby hml hown hret hlocks e0 Kt0 N0 Z0 O0 hS0 hk0 RT hh V_a V_b g_ca sz_ca S_ca ne_ab hA okA hS okS ra rs S_CS h_cs S_F h_fm S_T TB hTb S_I E_I
      exact ⟨s₂, o₂, pre27 _ hs₂, hr₂⟩
theorem ef_0 (m : MethodId) (x0 : Int32) (x1 : Int32) (x2 : Int32) (x3 : Int32) : entryFrame m #[(.int x0), (.int x1), (.int x2), (.int x3)] maxLocals = mkF m 0 #[.val (.int x0), .val (.int x1), .val (.int x2), .val (.int x3), .unset, .unset, .unset, .unset, .unset, .unset, .unset, .unset, .unset, .unset, .unset, .unset, .unset, .unset, .unset, .unset] [] := by first | (simp [entryFrame, mkF, argsToLocals, Value.category, maxLocals]; done) | rfl
def Q0 (Z : State) (p1 : Int32) (p2 : Int32) (p3 : Int32) (p4 : Int32) (cs : Int32) (fm : Value) (s_T s_I : Addr) (cl : Cell) (h0 : Heap) (n0 : Nat) (v : Option Value) (h : Heap) (L : List Loc) : Prop := v = some (.int (1 : Int32)) ∧ Fr n0 L
theorem rm0 (l : Launch) (Z : State) (a0 : Array Value) (hw : HW a0 Z) (ws : List Jvm.Cond) (p1 : Int32) (p2 : Int32) (p3 : Int32) (p4 : Int32) (cs : Int32) (fm : Value) (s_T s_I : Addr) (cl : Cell) (h0 : Heap) (n0 : Nat) (Z0 : n0 ≤ h0.size) (O0 : Old Z n0 h0) (S_CS : SC Z cs) (h_cs : ¬ cs = (0 : Int32)) (S_F : SM Z fm) (h_fm : fm.isRef = true) (S_T : ST Z s_T) (TB : Tab Z Z.heap s_T cl .int (256 : Int32)) (hTb : HT cl) (S_I : SI Z s_I) (E_I : Exa Z Z.heap s_I "java/lang/CharacterDataLatin1") :
    MetFree l x (head1 (Jvm.Cond.code x code maxLocals ret :: ws) room_1) (fun a U => a = #[(.int p1), (.int p2), (.int p3), (.int p4)] ∧ Z.Warmed39 U.vm ∧ U.heap = h0 ∧ CHv Z consts_1 U.vm h0) (fun _ _ _ _ _ => True) (fun _ U o U' => ∃ v L, o = .returned v ∧ Q0 Z p1 p2 p3 p4 cs fm s_T s_I cl h0 n0 v U'.heap L ∧ ReturnedEndW U o U' L room_1.cells room_1.slots) := by
  refine MetFree.of_bodySF (plainFor_of_name pn_8) hisR ?_
  intro p e s m args below meth c s₁ Bd hml0 hP hK
  obtain ⟨rfl, hZ, hh, hC0⟩ := hP
  have hx := Bd.exec
  have hby := Bd.bytes
  have hml : c.maxLocals = 20 := hml0
  have hown := findClass_of_methodNamed Bd.named
  have X0 : Stand p l e room_1 s m _ below meth c _ [] 0 0 := Stand.of_body Bd
  have e0 : s₁.heap = h0 := by rw [← hh, Bd.state]; rfl
  have R0 := CHr.refl hC0
  have N0 := Fr.nil n0
  have K0 := Keep.refl h0 []
  have pre0 := cast0 (p := p) (e := e) (below := below) (T := s₁) (ef_0 m p1 p2 p3 p4)
  obtain ⟨T1, h1, k1, X1, e1, E1, A1, st1⟩ := newP X0 hx hZ (ww hw 0 rfl) e0 (g := (mkF m 2 #[vI p1, vI p2, vI p3, vI p4, .unset, .unset, .unset, .unset, .unset, .unset, .unset, .unset, .unset, .unset, .unset, .unset, .unset, .unset, .unset, .unset] [iI 6])) rfl (hb hby at_2) rfl (by decide) (cap := 6) (by decide) (by decide) (by decide) (by decide)
  obtain ⟨b1, g1⟩ : ∃ z, z = h0.size := ⟨_, rfl⟩
  rw [← g1] at A1 st1
  have sz_b1 := szB K0.1 g1
  have g_b1 := Nat.le_trans Z0 sz_b1
  have K1 := K0.ext E1
  have V1 : Arv Z h1 b1 k1 .char (6 : Int32) [(.int (0 : Int32)), (.int (0 : Int32)), (.int (0 : Int32)), (.int (0 : Int32)), (.int (0 : Int32)), (.int (0 : Int32))] (.int (0 : Int32)) := (Arv.new A1 (by decide)).pad (pad_rep [] (.int (0 : Int32)) 6)
  obtain ⟨cl2, Ar2, q2, S2, M2, H2, G2⟩ := id V1
  have hin3 := inb_of (j := 0) S2 ⟨by decide, by decide⟩
  obtain ⟨T4, h4, X4, e4, W4, st4⟩ := stC X1 hx hZ e1 Ar2 (j := 0) hin3 (g := (mkF m 15 #[vI p1, vI p2, vI p3, vI p4, vR b1, .unset, .unset, .unset, .unset, .unset, .unset, .unset, .unset, .unset, .unset, .unset, .unset, .unset, .unset, .unset] [iI (p1 &&& (255 : Int32)).toUInt32.toUInt16.toUInt32.toInt32, iI 0, iR b1])) rfl rfl (hb hby at_15)
  have V4 : AC Z h4 b1 k1 (6 : Int32) [(nar .char (p1 &&& (255 : Int32)).toUInt32.toUInt16.toUInt32.toInt32), 0, 0, 0, 0, 0] := Arv.set Ar2 q2 S2 M2 H2 G2 (fits_nar_char _) W4 0 rfl (Nat.le_of_ble_eq_true rfl)
  have K4 := K1.wr W4 (Or.inr sz_b1)
  have N4 := Fr.snoc X4 N0 g_b1
  obtain ⟨cl5, Ar5, q5, S5, M5, H5, G5⟩ := id V4
  have hin6 := inb_of (j := 1) S5 ⟨by decide, by decide⟩
  obtain ⟨T7, h7, X7, e7, W7, st7⟩ := stC X4 hx hZ e4 Ar5 (j := 1) hin6 (g := (mkF m 28 #[vI p1, vI p2, vI p3, vI p4, vR b1, .unset, .unset, .unset, .unset, .unset, .unset, .unset, .unset, .unset, .unset, .unset, .unset, .unset, .unset, .unset] [iI (((p1.toUInt32 >>> ((8 : Int32) &&& 31).toUInt32).toInt32) &&& (255 : Int32)).toUInt32.toUInt16.toUInt32.toInt32, iI 1, iR b1])) rfl rfl (hb hby at_28)
  have V7 : AC Z h7 b1 k1 (6 : Int32) [(nar .char (p1 &&& (255 : Int32)).toUInt32.toUInt16.toUInt32.toInt32), (nar .char (((p1.toUInt32 >>> ((8 : Int32) &&& 31).toUInt32).toInt32) &&& (255 : Int32)).toUInt32.toUInt16.toUInt32.toInt32), 0, 0, 0, 0] := Arv.set Ar5 q5 S5 M5 H5 G5 (fits_nar_char _) W7 1 rfl (Nat.le_of_ble_eq_true rfl)
  have K7 := K4.wr W7 (Or.inr sz_b1)
  have N7 := Fr.snoc X7 N4 g_b1
  obtain ⟨cl8, Ar8, q8, S8, M8, H8, G8⟩ := id V7
  have hin9 := inb_of (j := 2) S8 ⟨by decide, by decide⟩
  obtain ⟨T10, h10, X10, e10, W10, st10⟩ := stC X7 hx hZ e7 Ar8 (j := 2) hin9 (g := (mkF m 41 #[vI p1, vI p2, vI p3, vI p4, vR b1, .unset, .unset, .unset, .unset, .unset, .unset, .unset, .unset, .unset, .unset, .unset, .unset, .unset, .unset, .unset] [iI (((p1.toUInt32 >>> ((16 : Int32) &&& 31).toUInt32).toInt32) &&& (255 : Int32)).toUInt32.toUInt16.toUInt32.toInt32, iI 2, iR b1])) rfl rfl (hb hby at_41)
  have V10 : AC Z h10 b1 k1 (6 : Int32) [(nar .char (p1 &&& (255 : Int32)).toUInt32.toUInt16.toUInt32.toInt32), (nar .char (((p1.toUInt32 >>> ((8 : Int32) &&& 31).toUInt32).toInt32) &&& (255 : Int32)).toUInt32.toUInt16.toUInt32.toInt32), (nar .char (((p1.toUInt32 >>> ((16 : Int32) &&& 31).toUInt32).toInt32) &&& (255 : Int32)).toUInt32.toUInt16.toUInt32.toInt32), 0, 0, 0] := Arv.set Ar8 q8 S8 M8 H8 G8 (fits_nar_char _) W10 2 rfl (Nat.le_of_ble_eq_true rfl)
  have K10 := K7.wr W10 (Or.inr sz_b1)
  have N10 := Fr.snoc X10 N7 g_b1
  obtain ⟨cl11, Ar11, q11, S11, M11, H11, G11⟩ := id V10
  have hin12 := inb_of (j := 3) S11 ⟨by decide, by decide⟩
  obtain ⟨T13, h13, X13, e13, W13, st13⟩ := stC X10 hx hZ e10 Ar11 (j := 3) hin12 (g := (mkF m 54 #[vI p1, vI p2, vI p3, vI p4, vR b1, .unset, .unset, .unset, .unset, .unset, .unset, .unset, .unset, .unset, .unset, .unset, .unset, .unset, .unset, .unset] [iI (((p1.toUInt32 >>> ((24 : Int32) &&& 31).toUInt32).toInt32) &&& (255 : Int32)).toUInt32.toUInt16.toUInt32.toInt32, iI 3, iR b1])) rfl rfl (hb hby at_54)
  have V13 : AC Z h13 b1 k1 (6 : Int32) [(nar .char (p1 &&& (255 : Int32)).toUInt32.toUInt16.toUInt32.toInt32), (nar .char (((p1.toUInt32 >>> ((8 : Int32) &&& 31).toUInt32).toInt32) &&& (255 : Int32)).toUInt32.toUInt16.toUInt32.toInt32), (nar .char (((p1.toUInt32 >>> ((16 : Int32) &&& 31).toUInt32).toInt32) &&& (255 : Int32)).toUInt32.toUInt16.toUInt32.toInt32), (nar .char (((p1.toUInt32 >>> ((24 : Int32) &&& 31).toUInt32).toInt32) &&& (255 : Int32)).toUInt32.toUInt16.toUInt32.toInt32), 0, 0] := Arv.set Ar11 q11 S11 M11 H11 G11 (fits_nar_char _) W13 3 rfl (Nat.le_of_ble_eq_true rfl)
  have K13 := K10.wr W13 (Or.inr sz_b1)
  have N13 := Fr.snoc X13 N10 g_b1
  obtain ⟨cl14, Ar14, q14, S14, M14, H14, G14⟩ := id V13
  have hin15 := inb_of (j := 4) S14 ⟨by decide, by decide⟩
  obtain ⟨T16, h16, X16, e16, W16, st16⟩ := stC X13 hx hZ e13 Ar14 (j := 4) hin15 (g := (mkF m 64 #[vI p1, vI p2, vI p3, vI p4, vR b1, .unset, .unset, .unset, .unset, .unset, .unset, .unset, .unset, .unset, .unset, .unset, .unset, .unset, .unset, .unset] [iI (p2 &&& (255 : Int32)).toUInt32.toUInt16.toUInt32.toInt32, iI 4, iR b1])) rfl rfl (hb hby at_64)
  have V16 : AC Z h16 b1 k1 (6 : Int32) [(nar .char (p1 &&& (255 : Int32)).toUInt32.toUInt16.toUInt32.toInt32), (nar .char (((p1.toUInt32 >>> ((8 : Int32) &&& 31).toUInt32).toInt32) &&& (255 : Int32)).toUInt32.toUInt16.toUInt32.toInt32), (nar .char (((p1.toUInt32 >>> ((16 : Int32) &&& 31).toUInt32).toInt32) &&& (255 : Int32)).toUInt32.toUInt16.toUInt32.toInt32), (nar .char (((p1.toUInt32 >>> ((24 : Int32) &&& 31).toUInt32).toInt32) &&& (255 : Int32)).toUInt32.toUInt16.toUInt32.toInt32), (nar .char (p2 &&& (255 : Int32)).toUInt32.toUInt16.toUInt32.toInt32), 0] := Arv.set Ar14 q14 S14 M14 H14 G14 (fits_nar_char _) W16 4 rfl (Nat.le_of_ble_eq_true rfl)
  have K16 := K13.wr W16 (Or.inr sz_b1)
  have N16 := Fr.snoc X16 N13 g_b1
  obtain ⟨cl17, Ar17, q17, S17, M17, H17, G17⟩ := id V16
  have hin18 := inb_of (j := 5) S17 ⟨by decide, by decide⟩
  obtain ⟨T19, h19, X19, e19, W19, st19⟩ := stC X16 hx hZ e16 Ar17 (j := 5) hin18 (g := (mkF m 77 #[vI p1, vI p2, vI p3, vI p4, vR b1, .unset, .unset, .unset, .unset, .unset, .unset, .unset, .unset, .unset, .unset, .unset, .unset, .unset, .unset, .unset] [iI (((p2.toUInt32 >>> ((8 : Int32) &&& 31).toUInt32).toInt32) &&& (255 : Int32)).toUInt32.toUInt16.toUInt32.toInt32, iI 5, iR b1])) rfl rfl (hb hby at_77)
  have V19 : AC Z h19 b1 k1 (6 : Int32) [(nar .char (p1 &&& (255 : Int32)).toUInt32.toUInt16.toUInt32.toInt32), (nar .char (((p1.toUInt32 >>> ((8 : Int32) &&& 31).toUInt32).toInt32) &&& (255 : Int32)).toUInt32.toUInt16.toUInt32.toInt32), (nar .char (((p1.toUInt32 >>> ((16 : Int32) &&& 31).toUInt32).toInt32) &&& (255 : Int32)).toUInt32.toUInt16.toUInt32.toInt32), (nar .char (((p1.toUInt32 >>> ((24 : Int32) &&& 31).toUInt32).toInt32) &&& (255 : Int32)).toUInt32.toUInt16.toUInt32.toInt32), (nar .char (p2 &&& (255 : Int32)).toUInt32.toUInt16.toUInt32.toInt32), (nar .char (((p2.toUInt32 >>> ((8 : Int32) &&& 31).toUInt32).toInt32) &&& (255 : Int32)).toUInt32.toUInt16.toUInt32.toInt32)] := Arv.set Ar17 q17 S17 M17 H17 G17 (fits_nar_char _) W19 5 rfl (Nat.le_of_ble_eq_true rfl)
  have K19 := K16.wr W19 (Or.inr sz_b1)
  have N19 := Fr.snoc X19 N16 g_b1
  obtain ⟨T20, h20, k20, X20, e20, E20, A20, st20⟩ := newP X19 hx hZ (ww hw 0 rfl) e19 (g := (mkF m 79 #[vI p1, vI p2, vI p3, vI p4, vR b1, .unset, .unset, .unset, .unset, .unset, .unset, .unset, .unset, .unset, .unset, .unset, .unset, .unset, .unset, .unset] [iI 3])) rfl (hb hby at_79) rfl (by decide) (cap := 3) (by decide) (by decide) (by decide) (by decide)
  obtain ⟨b20, g20⟩ : ∃ z, z = h19.size := ⟨_, rfl⟩
  rw [← g20] at A20 st20
  have ne_b1_b20 := neB V19.lt g20
  have sz_b20 := szB K19.1 g20
  have g_b20 := Nat.le_trans Z0 sz_b20
  have K20 := K19.ext E20
  have V20 : Arv Z h20 b20 k20 .char (3 : Int32) [(.int (0 : Int32)), (.int (0 : Int32)), (.int (0 : Int32))] (.int (0 : Int32)) := (Arv.new A20 (by decide)).pad (pad_rep [] (.int (0 : Int32)) 3)
  obtain ⟨cl21, Ar21, q21, S21, M21, H21, G21⟩ := id V20
  have hin22 := inb_of (j := 0) S21 ⟨by decide, by decide⟩
  obtain ⟨T23, h23, X23, e23, W23, st23⟩ := stC X20 hx hZ e20 Ar21 (j := 0) hin22 (g := (mkF m 92 #[vI p1, vI p2, vI p3, vI p4, vR b1, vR b20, .unset, .unset, .unset, .unset, .unset, .unset, .unset, .unset, .unset, .unset, .unset, .unset, .unset, .unset] [iI (p3 &&& (255 : Int32)).toUInt32.toUInt16.toUInt32.toInt32, iI 0, iR b20])) rfl rfl (hb hby at_92)
  have V23 : AC Z h23 b20 k20 (3 : Int32) [(nar .char (p3 &&& (255 : Int32)).toUInt32.toUInt16.toUInt32.toInt32), 0, 0] := Arv.set Ar21 q21 S21 M21 H21 G21 (fits_nar_char _) W23 0 rfl (Nat.le_of_ble_eq_true rfl)
  have K23 := K20.wr W23 (Or.inr sz_b20)
  have N23 := Fr.snoc X23 N19 g_b20
  obtain ⟨cl24, Ar24, q24, S24, M24, H24, G24⟩ := id V23
  have hin25 := inb_of (j := 1) S24 ⟨by decide, by decide⟩
  obtain ⟨T26, h26, X26, e26, W26, st26⟩ := stC X23 hx hZ e23 Ar24 (j := 1) hin25 (g := (mkF m 105 #[vI p1, vI p2, vI p3, vI p4, vR b1, vR b20, .unset, .unset, .unset, .unset, .unset, .unset, .unset, .unset, .unset, .unset, .unset, .unset, .unset, .unset] [iI (((p3.toUInt32 >>> ((8 : Int32) &&& 31).toUInt32).toInt32) &&& (255 : Int32)).toUInt32.toUInt16.toUInt32.toInt32, iI 1, iR b20])) rfl rfl (hb hby at_105)
  have V26 : AC Z h26 b20 k20 (3 : Int32) [(nar .char (p3 &&& (255 : Int32)).toUInt32.toUInt16.toUInt32.toInt32), (nar .char (((p3.toUInt32 >>> ((8 : Int32) &&& 31).toUInt32).toInt32) &&& (255 : Int32)).toUInt32.toUInt16.toUInt32.toInt32), 0] := Arv.set Ar24 q24 S24 M24 H24 G24 (fits_nar_char _) W26 1 rfl (Nat.le_of_ble_eq_true rfl)
  have K26 := K23.wr W26 (Or.inr sz_b20)
  have N26 := Fr.snoc X26 N23 g_b20
  obtain ⟨cl27, Ar27, q27, S27, M27, H27, G27⟩ := id V26
  have hin28 := inb_of (j := 2) S27 ⟨by decide, by decide⟩
  obtain ⟨T29, h29, X29, e29, W29, st29⟩ := stC X26 hx hZ e26 Ar27 (j := 2) hin28 (g := (mkF m 118 #[vI p1, vI p2, vI p3, vI p4, vR b1, vR b20, .unset, .unset, .unset, .unset, .unset, .unset, .unset, .unset, .unset, .unset, .unset, .unset, .unset, .unset] [iI (((p3.toUInt32 >>> ((16 : Int32) &&& 31).toUInt32).toInt32) &&& (255 : Int32)).toUInt32.toUInt16.toUInt32.toInt32, iI 2, iR b20])) rfl rfl (hb hby at_118)
  have V29 : AC Z h29 b20 k20 (3 : Int32) [(nar .char (p3 &&& (255 : Int32)).toUInt32.toUInt16.toUInt32.toInt32), (nar .char (((p3.toUInt32 >>> ((8 : Int32) &&& 31).toUInt32).toInt32) &&& (255 : Int32)).toUInt32.toUInt16.toUInt32.toInt32), (nar .char (((p3.toUInt32 >>> ((16 : Int32) &&& 31).toUInt32).toInt32) &&& (255 : Int32)).toUInt32.toUInt16.toUInt32.toInt32)] := Arv.set Ar27 q27 S27 M27 H27 G27 (fits_nar_char _) W29 2 rfl (Nat.le_of_ble_eq_true rfl)
  have K29 := K26.wr W29 (Or.inr sz_b20)
  have N29 := Fr.snoc X29 N26 g_b20
  obtain ⟨al_, hal_⟩ : ∃ z_ : Int32, z_ = ((((p2.toUInt32 >>> ((16 : Int32) &&& 31).toUInt32).toInt32) &&& (127 : Int32)) % (7 : Int32)) := ⟨_, rfl⟩
  obtain ⟨v31, hv31⟩ : ∃ z : Int32, z = (if (((p2.toUInt32 >>> ((23 : Int32) &&& 31).toUInt32).toInt32) &&& (7 : Int32)) = (0 : Int32) then (1 : Int32) else (0 : Int32)) := ⟨_, rfl⟩
  obtain ⟨T32, X32, e32, st32⟩ : own_Mid X29 h29 (mkF m 138 #[vI p1, vI p2, vI p3, vI p4, vR b1, vR b20, vI al_, .unset, .unset, .unset, .unset, .unset, .unset, .unset, .unset, .unset, .unset, .unset, .unset, .unset] [iI (((p2.toUInt32 >>> ((23 : Int32) &&& 31).toUInt32).toInt32) &&& (7 : Int32))]) (mkF m 146 #[vI p1, vI p2, vI p3, vI p4, vR b1, vR b20, vI al_, .unset, .unset, .unset, .unset, .unset, .unset, .unset, .unset, .unset, .unset, .unset, .unset, .unset] [iI v31]) := by
    by_cases hc33 : (((p2.toUInt32 >>> ((23 : Int32) &&& 31).toUInt32).toInt32) &&& (7 : Int32)) = (0 : Int32)
    · refine ⟨T29, X29, e29, fun t kt => ?_⟩
      subst hv31
      simp only [if_pos hc33] at kt
      refine XS.ifNo X29.here hx rfl (hb hby at_138) rfl ((if0 _ _).trans (teq hc33).2) ?_
      refine XS.iconst X29.here hx rfl (hb hby at_141) ?_
      refine XS.goto X29.here hx rfl (pc0 := 142) (pc' := 146) rfl (hb hby at_142) (by decide) (by decide) ?_
      exact kt
    · refine ⟨T29, X29, e29, fun t kt => ?_⟩
      subst hv31
      simp only [if_neg hc33] at kt
      refine XS.ifYes X29.here hx rfl (pc0 := 138) (pc' := 145) rfl (hb hby at_138) rfl ((if0 _ _).trans (feq hc33).2) (by decide) (by decide) ?_
      refine XS.iconst X29.here hx rfl (hb hby at_145) ?_
      exact kt
  obtain ⟨sl_, hsl_⟩ : ∃ z_ : Int32, z_ = ((p4 &&& (127 : Int32)) % (4 : Int32)) := ⟨_, rfl⟩
  obtain ⟨v35, hv35⟩ : ∃ z : Int32, z = (if (((p4.toUInt32 >>> ((7 : Int32) &&& 31).toUInt32).toInt32) &&& (1 : Int32)) = (0 : Int32) then (0 : Int32) else (1 : Int32)) := ⟨_, rfl⟩
  obtain ⟨T36, X36, e36, st36⟩ : own_Mid X32 h29 (mkF m 162 #[vI p1, vI p2, vI p3, vI p4, vR b1, vR b20, vI al_, vI v31, vI sl_, .unset, .unset, .unset, .unset, .unset, .unset, .unset, .unset, .unset, .unset, .unset] [iI (((p4.toUInt32 >>> ((7 : Int32) &&& 31).toUInt32).toInt32) &&& (1 : Int32))]) (mkF m 170 #[vI p1, vI p2, vI p3, vI p4, vR b1, vR b20, vI al_, vI v31, vI sl_, .unset, .unset, .unset, .unset, .unset, .unset, .unset, .unset, .unset, .unset, .unset] [iI v35]) := by
    by_cases hc37 : (((p4.toUInt32 >>> ((7 : Int32) &&& 31).toUInt32).toInt32) &&& (1 : Int32)) = (0 : Int32)
    · refine ⟨T32, X32, e32, fun t kt => ?_⟩
      subst hv35
      simp only [if_pos hc37] at kt
      refine XS.ifYes X32.here hx rfl (pc0 := 162) (pc' := 169) rfl (hb hby at_162) rfl ((if0 _ _).trans (teq hc37).1) (by decide) (by decide) ?_
      refine XS.iconst X32.here hx rfl (hb hby at_169) ?_
      exact kt
    · refine ⟨T32, X32, e32, fun t kt => ?_⟩
      subst hv35
      simp only [if_neg hc37] at kt
      refine XS.ifNo X32.here hx rfl (hb hby at_162) rfl ((if0 _ _).trans (feq hc37).1) ?_
      refine XS.iconst X32.here hx rfl (hb hby at_165) ?_
      refine XS.goto X32.here hx rfl (pc0 := 166) (pc' := 170) rfl (hb hby at_166) (by decide) (by decide) ?_
      exact kt
  obtain ⟨v38, hv38⟩ : ∃ z : Int32, z = (if (((p4.toUInt32 >>> ((8 : Int32) &&& 31).toUInt32).toInt32) &&& (1 : Int32)) = (0 : Int32) then (0 : Int32) else (1 : Int32)) := ⟨_, rfl⟩
  obtain ⟨T39, X39, e39, st39⟩ : own_Mid X36 h29 (mkF m 178 #[vI p1, vI p2, vI p3, vI p4, vR b1, vR b20, vI al_, vI v31, vI sl_, vI v35, .unset, .unset, .unset, .unset, .unset, .unset, .unset, .unset, .unset, .unset] [iI (((p4.toUInt32 >>> ((8 : Int32) &&& 31).toUInt32).toInt32) &&& (1 : Int32))]) (mkF m 186 #[vI p1, vI p2, vI p3, vI p4, vR b1, vR b20, vI al_, vI v31, vI sl_, vI v35, .unset, .unset, .unset, .unset, .unset, .unset, .unset, .unset, .unset, .unset] [iI v38]) := by
    by_cases hc40 : (((p4.toUInt32 >>> ((8 : Int32) &&& 31).toUInt32).toInt32) &&& (1 : Int32)) = (0 : Int32)
    · refine ⟨T36, X36, e36, fun t kt => ?_⟩
      subst hv38
      simp only [if_pos hc40] at kt
      refine XS.ifYes X36.here hx rfl (pc0 := 178) (pc' := 185) rfl (hb hby at_178) rfl ((if0 _ _).trans (teq hc40).1) (by decide) (by decide) ?_
      refine XS.iconst X36.here hx rfl (hb hby at_185) ?_
      exact kt
    · refine ⟨T36, X36, e36, fun t kt => ?_⟩
      subst hv38
      simp only [if_neg hc40] at kt
      refine XS.ifNo X36.here hx rfl (hb hby at_178) rfl ((if0 _ _).trans (feq hc40).1) ?_
      refine XS.iconst X36.here hx rfl (hb hby at_181) ?_
      refine XS.goto X36.here hx rfl (pc0 := 182) (pc' := 186) rfl (hb hby at_182) (by decide) (by decide) ?_
      exact kt
  obtain ⟨v41, hv41⟩ : ∃ z : Int32, z = (if (((p4.toUInt32 >>> ((9 : Int32) &&& 31).toUInt32).toInt32) &&& (1 : Int32)) = (0 : Int32) then (0 : Int32) else (1 : Int32)) := ⟨_, rfl⟩
  obtain ⟨T42, X42, e42, st42⟩ : own_Mid X39 h29 (mkF m 194 #[vI p1, vI p2, vI p3, vI p4, vR b1, vR b20, vI al_, vI v31, vI sl_, vI v35, vI v38, .unset, .unset, .unset, .unset, .unset, .unset, .unset, .unset, .unset] [iI (((p4.toUInt32 >>> ((9 : Int32) &&& 31).toUInt32).toInt32) &&& (1 : Int32))]) (mkF m 202 #[vI p1, vI p2, vI p3, vI p4, vR b1, vR b20, vI al_, vI v31, vI sl_, vI v35, vI v38, .unset, .unset, .unset, .unset, .unset, .unset, .unset, .unset, .unset] [iI v41]) := by
    by_cases hc43 : (((p4.toUInt32 >>> ((9 : Int32) &&& 31).toUInt32).toInt32) &&& (1 : Int32)) = (0 : Int32)
    · refine ⟨T39, X39, e39, fun t kt => ?_⟩
      subst hv41
      simp only [if_pos hc43] at kt
      refine XS.ifYes X39.here hx rfl (pc0 := 194) (pc' := 201) rfl (hb hby at_194) rfl ((if0 _ _).trans (teq hc43).1) (by decide) (by decide) ?_
      refine XS.iconst X39.here hx rfl (hb hby at_201) ?_
      exact kt
    · refine ⟨T39, X39, e39, fun t kt => ?_⟩
      subst hv41
      simp only [if_neg hc43] at kt
      refine XS.ifNo X39.here hx rfl (hb hby at_194) rfl ((if0 _ _).trans (feq hc43).1) ?_
      refine XS.iconst X39.here hx rfl (hb hby at_197) ?_
      refine XS.goto X39.here hx rfl (pc0 := 198) (pc' := 202) rfl (hb hby at_198) (by decide) (by decide) ?_
      exact kt
  obtain ⟨v44, hv44⟩ : ∃ z : Int32, z = (if (((p4.toUInt32 >>> ((10 : Int32) &&& 31).toUInt32).toInt32) &&& (1 : Int32)) = (0 : Int32) then (0 : Int32) else (1 : Int32)) := ⟨_, rfl⟩
  obtain ⟨T45, X45, e45, st45⟩ : own_Mid X42 h29 (mkF m 210 #[vI p1, vI p2, vI p3, vI p4, vR b1, vR b20, vI al_, vI v31, vI sl_, vI v35, vI v38, vI v41, .unset, .unset, .unset, .unset, .unset, .unset, .unset, .unset] [iI (((p4.toUInt32 >>> ((10 : Int32) &&& 31).toUInt32).toInt32) &&& (1 : Int32))]) (mkF m 218 #[vI p1, vI p2, vI p3, vI p4, vR b1, vR b20, vI al_, vI v31, vI sl_, vI v35, vI v38, vI v41, .unset, .unset, .unset, .unset, .unset, .unset, .unset, .unset] [iI v44]) := by
    by_cases hc46 : (((p4.toUInt32 >>> ((10 : Int32) &&& 31).toUInt32).toInt32) &&& (1 : Int32)) = (0 : Int32)
    · refine ⟨T42, X42, e42, fun t kt => ?_⟩
      subst hv44
      simp only [if_pos hc46] at kt
      refine XS.ifYes X42.here hx rfl (pc0 := 210) (pc' := 217) rfl (hb hby at_210) rfl ((if0 _ _).trans (teq hc46).1) (by decide) (by decide) ?_
      refine XS.iconst X42.here hx rfl (hb hby at_217) ?_
      exact kt
    · refine ⟨T42, X42, e42, fun t kt => ?_⟩
      subst hv44
      simp only [if_neg hc46] at kt
      refine XS.ifNo X42.here hx rfl (hb hby at_210) rfl ((if0 _ _).trans (feq hc46).1) ?_
      refine XS.iconst X42.here hx rfl (hb hby at_213) ?_
      refine XS.goto X42.here hx rfl (pc0 := 214) (pc' := 218) rfl (hb hby at_214) (by decide) (by decide) ?_
      exact kt
  obtain ⟨v47, hv47⟩ : ∃ z : Int32, z = (if (((p4.toUInt32 >>> ((11 : Int32) &&& 31).toUInt32).toInt32) &&& (1 : Int32)) = (0 : Int32) then (0 : Int32) else (1 : Int32)) := ⟨_, rfl⟩
  obtain ⟨T48, X48, e48, st48⟩ : own_Mid X45 h29 (mkF m 226 #[vI p1, vI p2, vI p3, vI p4, vR b1, vR b20, vI al_, vI v31, vI sl_, vI v35, vI v38, vI v41, vI v44, .unset, .unset, .unset, .unset, .unset, .unset, .unset] [iI (((p4.toUInt32 >>> ((11 : Int32) &&& 31).toUInt32).toInt32) &&& (1 : Int32))]) (mkF m 234 #[vI p1, vI p2, vI p3, vI p4, vR b1, vR b20, vI al_, vI v31, vI sl_, vI v35, vI v38, vI v41, vI v44, .unset, .unset, .unset, .unset, .unset, .unset, .unset] [iI v47]) := by
    by_cases hc49 : (((p4.toUInt32 >>> ((11 : Int32) &&& 31).toUInt32).toInt32) &&& (1 : Int32)) = (0 : Int32)
    · refine ⟨T45, X45, e45, fun t kt => ?_⟩
      subst hv47
      simp only [if_pos hc49] at kt
      refine XS.ifYes X45.here hx rfl (pc0 := 226) (pc' := 233) rfl (hb hby at_226) rfl ((if0 _ _).trans (teq hc49).1) (by decide) (by decide) ?_
      refine XS.iconst X45.here hx rfl (hb hby at_233) ?_
      exact kt
    · refine ⟨T45, X45, e45, fun t kt => ?_⟩
      subst hv47
      simp only [if_neg hc49] at kt
      refine XS.ifNo X45.here hx rfl (hb hby at_226) rfl ((if0 _ _).trans (feq hc49).1) ?_
      refine XS.iconst X45.here hx rfl (hb hby at_229) ?_
      refine XS.goto X45.here hx rfl (pc0 := 230) (pc' := 234) rfl (hb hby at_230) (by decide) (by decide) ?_
      exact kt
  have fk50 := ((((V19.ext E20).other W23 ne_b1_b20).other W26 ne_b1_b20).other W29 ne_b1_b20)
  have S51_b1 := Safe.ext E1 R0.1 (Safe.new (Nat.le_of_eq g1.symm))
  have R51 := R0.trans (CHr.ext E1 R0.1)
  have S52_b1 := Safe.wr W4 S51_b1 R51.1 S51_b1
  have R52 := R51.trans (CHr.wr W4 S51_b1 R51.1)
  have S53_b1 := Safe.wr W7 S52_b1 R52.1 S52_b1
  have R53 := R52.trans (CHr.wr W7 S52_b1 R52.1)
  have S54_b1 := Safe.wr W10 S53_b1 R53.1 S53_b1
  have R54 := R53.trans (CHr.wr W10 S53_b1 R53.1)
  have S55_b1 := Safe.wr W13 S54_b1 R54.1 S54_b1
  have R55 := R54.trans (CHr.wr W13 S54_b1 R54.1)
  have S56_b1 := Safe.wr W16 S55_b1 R55.1 S55_b1
  have R56 := R55.trans (CHr.wr W16 S55_b1 R55.1)
  have S57_b1 := Safe.wr W19 S56_b1 R56.1 S56_b1
  have R57 := R56.trans (CHr.wr W19 S56_b1 R56.1)
  have S58_b1 := Safe.ext E20 R57.1 S57_b1
  have S58_b20 := Safe.ext E20 R57.1 (Safe.new (Nat.le_of_eq g20.symm))
  have R58 := R57.trans (CHr.ext E20 R57.1)
  have S59_b1 := Safe.wr W23 S58_b20 R58.1 S58_b1
  have S59_b20 := Safe.wr W23 S58_b20 R58.1 S58_b20
  have R59 := R58.trans (CHr.wr W23 S58_b20 R58.1)
  have S60_b1 := Safe.wr W26 S59_b20 R59.1 S59_b1
  have S60_b20 := Safe.wr W26 S59_b20 R59.1 S59_b20
  have R60 := R59.trans (CHr.wr W26 S59_b20 R59.1)
  have S61_b1 := Safe.wr W29 S60_b20 R60.1 S60_b1
  have S61_b20 := Safe.wr W29 S60_b20 R60.1 S60_b20
  have R61 := R60.trans (CHr.wr W29 S60_b20 R60.1)
  have pre62 : PP p e below (T48.setTop (mkF m 236 #[vI p1, vI p2, vI p3, vI p4, vR b1, vR b20, vI al_, vI v31, vI sl_, vI v35, vI v38, vI v41, vI v44, vI v47, .unset, .unset, .unset, .unset, .unset, .unset] [])) (s₁.setTop (entryFrame m #[(.int p1), (.int p2), (.int p3), (.int p4)] maxLocals)) := by
    intro t kt
    refine pre0 t ?_
    refine XS.bipush X0.here hx rfl (hb hby at_0) ?_
    refine st1 _ ?_
    refine XS.astore X1.here hx rfl (hb hby at_4) rfl rfl (l' := #[vI p1, vI p2, vI p3, vI p4, vR b1, .unset, .unset, .unset, .unset, .unset, .unset, .unset, .unset, .unset, .unset, .unset, .unset, .unset, .unset, .unset]) rfl ?_
    refine XS.aload X1.here hx rfl (hb hby at_6) rfl rfl ?_
    refine XS.iconst X1.here hx rfl (hb hby at_8) ?_
    refine XS.iloadN X1.here hx rfl (hb hby at_9) rfl ?_
    refine XS.sipush X1.here hx rfl (hb hby at_10) ?_
    refine XS.iand X1.here hx rfl (hb hby at_13) rfl ?_
    refine XS.i2c X1.here hx rfl (hb hby at_14) rfl ?_
    refine st4 _ ?_
    refine XS.aload X4.here hx rfl (hb hby at_16) rfl rfl ?_
    refine XS.iconst X4.here hx rfl (hb hby at_18) ?_
    refine XS.iloadN X4.here hx rfl (hb hby at_19) rfl ?_
    refine XS.bipush X4.here hx rfl (hb hby at_20) ?_
    refine XS.iushr X4.here hx rfl (hb hby at_22) rfl ?_
    refine XS.sipush X4.here hx rfl (hb hby at_23) ?_
    refine XS.iand X4.here hx rfl (hb hby at_26) rfl ?_
    refine XS.i2c X4.here hx rfl (hb hby at_27) rfl ?_
    show SA T4 m 28 #[vI p1, vI p2, vI p3, vI p4, vR b1, .unset, .unset, .unset, .unset, .unset, .unset, .unset, .unset, .unset, .unset, .unset, .unset, .unset, .unset, .unset] [iI (((p1.toUInt32 >>> ((8 : Int32) &&& 31).toUInt32).toInt32) &&& (255 : Int32)).toUInt32.toUInt16.toUInt32.toInt32, iI 1, iR b1]
    refine st7 _ ?_
    refine XS.aload X7.here hx rfl (hb hby at_29) rfl rfl ?_
    refine XS.iconst X7.here hx rfl (hb hby at_31) ?_
    refine XS.iloadN X7.here hx rfl (hb hby at_32) rfl ?_
    refine XS.bipush X7.here hx rfl (hb hby at_33) ?_
    refine XS.iushr X7.here hx rfl (hb hby at_35) rfl ?_
    refine XS.sipush X7.here hx rfl (hb hby at_36) ?_
    refine XS.iand X7.here hx rfl (hb hby at_39) rfl ?_
    refine XS.i2c X7.here hx rfl (hb hby at_40) rfl ?_
    show SA T7 m 41 #[vI p1, vI p2, vI p3, vI p4, vR b1, .unset, .unset, .unset, .unset, .unset, .unset, .unset, .unset, .unset, .unset, .unset, .unset, .unset, .unset, .unset] [iI (((p1.toUInt32 >>> ((16 : Int32) &&& 31).toUInt32).toInt32) &&& (255 : Int32)).toUInt32.toUInt16.toUInt32.toInt32, iI 2, iR b1]
    refine st10 _ ?_
    refine XS.aload X10.here hx rfl (hb hby at_42) rfl rfl ?_
    refine XS.iconst X10.here hx rfl (hb hby at_44) ?_
    refine XS.iloadN X10.here hx rfl (hb hby at_45) rfl ?_
    refine XS.bipush X10.here hx rfl (hb hby at_46) ?_
    refine XS.iushr X10.here hx rfl (hb hby at_48) rfl ?_
    refine XS.sipush X10.here hx rfl (hb hby at_49) ?_
    refine XS.iand X10.here hx rfl (hb hby at_52) rfl ?_
    refine XS.i2c X10.here hx rfl (hb hby at_53) rfl ?_
    show SA T10 m 54 #[vI p1, vI p2, vI p3, vI p4, vR b1, .unset, .unset, .unset, .unset, .unset, .unset, .unset, .unset, .unset, .unset, .unset, .unset, .unset, .unset, .unset] [iI (((p1.toUInt32 >>> ((24 : Int32) &&& 31).toUInt32).toInt32) &&& (255 : Int32)).toUInt32.toUInt16.toUInt32.toInt32, iI 3, iR b1]
    refine st13 _ ?_
    refine XS.aload X13.here hx rfl (hb hby at_55) rfl rfl ?_
    refine XS.iconst X13.here hx rfl (hb hby at_57) ?_
    refine XS.iloadN X13.here hx rfl (hb hby at_58) rfl ?_
    refine XS.sipush X13.here hx rfl (hb hby at_59) ?_
    refine XS.iand X13.here hx rfl (hb hby at_62) rfl ?_
    refine XS.i2c X13.here hx rfl (hb hby at_63) rfl ?_
    refine st16 _ ?_
    refine XS.aload X16.here hx rfl (hb hby at_65) rfl rfl ?_
    refine XS.iconst X16.here hx rfl (hb hby at_67) ?_
    refine XS.iloadN X16.here hx rfl (hb hby at_68) rfl ?_
    refine XS.bipush X16.here hx rfl (hb hby at_69) ?_
    refine XS.iushr X16.here hx rfl (hb hby at_71) rfl ?_
    refine XS.sipush X16.here hx rfl (hb hby at_72) ?_
    refine XS.iand X16.here hx rfl (hb hby at_75) rfl ?_
    refine XS.i2c X16.here hx rfl (hb hby at_76) rfl ?_
    show SA T16 m 77 #[vI p1, vI p2, vI p3, vI p4, vR b1, .unset, .unset, .unset, .unset, .unset, .unset, .unset, .unset, .unset, .unset, .unset, .unset, .unset, .unset, .unset] [iI (((p2.toUInt32 >>> ((8 : Int32) &&& 31).toUInt32).toInt32) &&& (255 : Int32)).toUInt32.toUInt16.toUInt32.toInt32, iI 5, iR b1]
    refine st19 _ ?_
    refine XS.iconst X19.here hx rfl (hb hby at_78) ?_
    refine st20 _ ?_
    refine XS.astore X20.here hx rfl (hb hby at_81) rfl rfl (l' := #[vI p1, vI p2, vI p3, vI p4, vR b1, vR b20, .unset, .unset, .unset, .unset, .unset, .unset, .unset, .unset, .unset, .unset, .unset, .unset, .unset, .unset]) rfl ?_
    refine XS.aload X20.here hx rfl (hb hby at_83) rfl rfl ?_
    refine XS.iconst X20.here hx rfl (hb hby at_85) ?_
    refine XS.iloadN X20.here hx rfl (hb hby at_86) rfl ?_
    refine XS.sipush X20.here hx rfl (hb hby at_87) ?_
    refine XS.iand X20.here hx rfl (hb hby at_90) rfl ?_
    refine XS.i2c X20.here hx rfl (hb hby at_91) rfl ?_
    refine st23 _ ?_
    refine XS.aload X23.here hx rfl (hb hby at_93) rfl rfl ?_
    refine XS.iconst X23.here hx rfl (hb hby at_95) ?_
    refine XS.iloadN X23.here hx rfl (hb hby at_96) rfl ?_
    refine XS.bipush X23.here hx rfl (hb hby at_97) ?_
    refine XS.iushr X23.here hx rfl (hb hby at_99) rfl ?_
    refine XS.sipush X23.here hx rfl (hb hby at_100) ?_
    refine XS.iand X23.here hx rfl (hb hby at_103) rfl ?_
    refine XS.i2c X23.here hx rfl (hb hby at_104) rfl ?_
    show SA T23 m 105 #[vI p1, vI p2, vI p3, vI p4, vR b1, vR b20, .unset, .unset, .unset, .unset, .unset, .unset, .unset, .unset, .unset, .unset, .unset, .unset, .unset, .unset] [iI (((p3.toUInt32 >>> ((8 : Int32) &&& 31).toUInt32).toInt32) &&& (255 : Int32)).toUInt32.toUInt16.toUInt32.toInt32, iI 1, iR b20]
    refine st26 _ ?_
    refine XS.aload X26.here hx rfl (hb hby at_106) rfl rfl ?_
    refine XS.iconst X26.here hx rfl (hb hby at_108) ?_
    refine XS.iloadN X26.here hx rfl (hb hby at_109) rfl ?_
    refine XS.bipush X26.here hx rfl (hb hby at_110) ?_
    refine XS.iushr X26.here hx rfl (hb hby at_112) rfl ?_
    refine XS.sipush X26.here hx rfl (hb hby at_113) ?_
    refine XS.iand X26.here hx rfl (hb hby at_116) rfl ?_
    refine XS.i2c X26.here hx rfl (hb hby at_117) rfl ?_
    show SA T26 m 118 #[vI p1, vI p2, vI p3, vI p4, vR b1, vR b20, .unset, .unset, .unset, .unset, .unset, .unset, .unset, .unset, .unset, .unset, .unset, .unset, .unset, .unset] [iI (((p3.toUInt32 >>> ((16 : Int32) &&& 31).toUInt32).toInt32) &&& (255 : Int32)).toUInt32.toUInt16.toUInt32.toInt32, iI 2, iR b20]
    refine st29 _ ?_
    refine XS.iloadN X29.here hx rfl (hb hby at_119) rfl ?_
    refine XS.bipush X29.here hx rfl (hb hby at_120) ?_
    refine XS.iushr X29.here hx rfl (hb hby at_122) rfl ?_
    refine XS.bipush X29.here hx rfl (hb hby at_123) ?_
    refine XS.iand X29.here hx rfl (hb hby at_125) rfl ?_
    refine XS.bipush X29.here hx rfl (hb hby at_126) ?_
    refine iremM X29 hx rfl (hb hby at_128) rfl (by decide) ?_
    show SA T29 m 129 #[vI p1, vI p2, vI p3, vI p4, vR b1, vR b20, .unset, .unset, .unset, .unset, .unset, .unset, .unset, .unset, .unset, .unset, .unset, .unset, .unset, .unset] [iI ((((p2.toUInt32 >>> ((16 : Int32) &&& 31).toUInt32).toInt32) &&& (127 : Int32)) % (7 : Int32))]
    rw [← hal_]
    refine XS.istore X29.here hx rfl (hb hby at_129) rfl (l' := #[vI p1, vI p2, vI p3, vI p4, vR b1, vR b20, vI al_, .unset, .unset, .unset, .unset, .unset, .unset, .unset, .unset, .unset, .unset, .unset, .unset, .unset]) rfl ?_
    refine XS.iloadN X29.here hx rfl (hb hby at_131) rfl ?_
    refine XS.bipush X29.here hx rfl (hb hby at_132) ?_
    refine XS.iushr X29.here hx rfl (hb hby at_134) rfl ?_
    refine XS.bipush X29.here hx rfl (hb hby at_135) ?_
    refine XS.iand X29.here hx rfl (hb hby at_137) rfl ?_
    refine st32 _ ?_
    refine XS.istore X32.here hx rfl (hb hby at_146) rfl (l' := #[vI p1, vI p2, vI p3, vI p4, vR b1, vR b20, vI al_, vI v31, .unset, .unset, .unset, .unset, .unset, .unset, .unset, .unset, .unset, .unset, .unset, .unset]) rfl ?_
    refine XS.iloadN X32.here hx rfl (hb hby at_148) rfl ?_
    refine XS.bipush X32.here hx rfl (hb hby at_149) ?_
    refine XS.iand X32.here hx rfl (hb hby at_151) rfl ?_
    refine XS.iconst X32.here hx rfl (hb hby at_152) ?_
    refine iremM X32 hx rfl (hb hby at_153) rfl (by decide) ?_
    show SA T32 m 154 #[vI p1, vI p2, vI p3, vI p4, vR b1, vR b20, vI al_, vI v31, .unset, .unset, .unset, .unset, .unset, .unset, .unset, .unset, .unset, .unset, .unset, .unset] [iI ((p4 &&& (127 : Int32)) % (4 : Int32))]
    rw [← hsl_]
    refine XS.istore X32.here hx rfl (hb hby at_154) rfl (l' := #[vI p1, vI p2, vI p3, vI p4, vR b1, vR b20, vI al_, vI v31, vI sl_, .unset, .unset, .unset, .unset, .unset, .unset, .unset, .unset, .unset, .unset, .unset]) rfl ?_
    refine XS.iloadN X32.here hx rfl (hb hby at_156) rfl ?_
    refine XS.bipush X32.here hx rfl (hb hby at_157) ?_
    refine XS.iushr X32.here hx rfl (hb hby at_159) rfl ?_
    refine XS.iconst X32.here hx rfl (hb hby at_160) ?_
    refine XS.iand X32.here hx rfl (hb hby at_161) rfl ?_
    refine st36 _ ?_
    refine XS.istore X36.here hx rfl (hb hby at_170) rfl (l' := #[vI p1, vI p2, vI p3, vI p4, vR b1, vR b20, vI al_, vI v31, vI sl_, vI v35, .unset, .unset, .unset, .unset, .unset, .unset, .unset, .unset, .unset, .unset]) rfl ?_
    refine XS.iloadN X36.here hx rfl (hb hby at_172) rfl ?_
    refine XS.bipush X36.here hx rfl (hb hby at_173) ?_
    refine XS.iushr X36.here hx rfl (hb hby at_175) rfl ?_
    refine XS.iconst X36.here hx rfl (hb hby at_176) ?_
    refine XS.iand X36.here hx rfl (hb hby at_177) rfl ?_
    refine st39 _ ?_
    refine XS.istore X39.here hx rfl (hb hby at_186) rfl (l' := #[vI p1, vI p2, vI p3, vI p4, vR b1, vR b20, vI al_, vI v31, vI sl_, vI v35, vI v38, .unset, .unset, .unset, .unset, .unset, .unset, .unset, .unset, .unset]) rfl ?_
    refine XS.iloadN X39.here hx rfl (hb hby at_188) rfl ?_
    refine XS.bipush X39.here hx rfl (hb hby at_189) ?_
    refine XS.iushr X39.here hx rfl (hb hby at_191) rfl ?_
    refine XS.iconst X39.here hx rfl (hb hby at_192) ?_
    refine XS.iand X39.here hx rfl (hb hby at_193) rfl ?_
    refine st42 _ ?_
    refine XS.istore X42.here hx rfl (hb hby at_202) rfl (l' := #[vI p1, vI p2, vI p3, vI p4, vR b1, vR b20, vI al_, vI v31, vI sl_, vI v35, vI v38, vI v41, .unset, .unset, .unset, .unset, .unset, .unset, .unset, .unset]) rfl ?_
    refine XS.iloadN X42.here hx rfl (hb hby at_204) rfl ?_
    refine XS.bipush X42.here hx rfl (hb hby at_205) ?_
    refine XS.iushr X42.here hx rfl (hb hby at_207) rfl ?_
    refine XS.iconst X42.here hx rfl (hb hby at_208) ?_
    refine XS.iand X42.here hx rfl (hb hby at_209) rfl ?_
    refine st45 _ ?_
    refine XS.istore X45.here hx rfl (hb hby at_218) rfl (l' := #[vI p1, vI p2, vI p3, vI p4, vR b1, vR b20, vI al_, vI v31, vI sl_, vI v35, vI v38, vI v41, vI v44, .unset, .unset, .unset, .unset, .unset, .unset, .unset]) rfl ?_
    refine XS.iloadN X45.here hx rfl (hb hby at_220) rfl ?_
    refine XS.bipush X45.here hx rfl (hb hby at_221) ?_
    refine XS.iushr X45.here hx rfl (hb hby at_223) rfl ?_
    refine XS.iconst X45.here hx rfl (hb hby at_224) ?_
    refine XS.iand X45.here hx rfl (hb hby at_225) rfl ?_
    refine st48 _ ?_
    refine XS.istore X48.here hx rfl (hb hby at_234) rfl (l' := #[vI p1, vI p2, vI p3, vI p4, vR b1, vR b20, vI al_, vI v31, vI sl_, vI v35, vI v38, vI v41, vI v44, vI v47, .unset, .unset, .unset, .unset, .unset, .unset]) rfl ?_
    exact kt
  obtain ⟨s₂, o₂, hs₂, hr₂⟩ := own_t236 (ca := b1) (cb := b20) (al := al_) (nl := v31) (sl := sl_) (f9 := v35) (f10 := v38) (f11 := v41) (f12 := v44) (f13 := v47) (ka := k1) (kb := k20) (AL := [(nar .char (p1 &&& (255 : Int32)).toUInt32.toUInt16.toUInt32.toInt32), (nar .char (((p1.toUInt32 >>> ((8 : Int32) &&& 31).toUInt32).toInt32) &&& (255 : Int32)).toUInt32.toUInt16.toUInt32.toInt32), (nar .char (((p1.toUInt32 >>> ((16 : Int32) &&& 31).toUInt32).toInt32) &&& (255 : Int32)).toUInt32.toUInt16.toUInt32.toInt32), (nar .char (((p1.toUInt32 >>> ((24 : Int32) &&& 31).toUInt32).toInt32) &&& (255 : Int32)).toUInt32.toUInt16.toUInt32.toInt32), (nar .char (p2 &&& (255 : Int32)).toUInt32.toUInt16.toUInt32.toInt32), (nar .char (((p2.toUInt32 >>> ((8 : Int32) &&& 31).toUInt32).toInt32) &&& (255 : Int32)).toUInt32.toUInt16.toUInt32.toInt32)]) (SL := [(nar .char (p3 &&& (255 : Int32)).toUInt32.toUInt16.toUInt32.toInt32), (nar .char (((p3.toUInt32 >>> ((8 : Int32) &&& 31).toUInt32).toInt32) &&& (255 : Int32)).toUInt32.toUInt16.toUInt32.toInt32), (nar .char (((p3.toUInt32 >>> ((16 : Int32) &&& 31).toUInt32).toInt32) &&& (255 : Int32)).toUInt32.toUInt16.toUInt32.toInt32)]) (s := s) (vmT := s.vm) (X48.more (by decide) (by decide)) hx hZ hw hby hml hown Bd.returns (by first | assumption | exact BodyLoose.notSynchronized (by assumption) | exact Body.notSynchronized (by assumption)) e48 K29 N29 Z0 O0 ((State.WarmedH.refl s).since 0) (Nat.zero_le _) R61 hh fk50 V29 g_b1 sz_b1 S61_b1 ne_b1_b20 rfl (by intro x hx; simp only [List.mem_cons, List.not_mem_nil, or_false] at hx; rcases hx with rfl | rfl | rfl | rfl | rfl | rfl <;> exact own_chr8 _) rfl (by intro x hx; simp only [List.mem_cons, List.not_mem_nil, or_false] at hx; rcases hx with rfl | rfl | rfl <;> exact own_chr8 _) (by rw [hal_]; exact own_rm7 _) (by rw [hsl_]; exact own_rm4 _) S_CS h_cs S_F h_fm S_T TB hTb S_I E_I
  exact ⟨s₂, o₂, pre62 _ hs₂, hr₂⟩
theorem own_eqInt {args : Array Value} {s : State} {idx : List Nat} {t : Term} {k : Int32} {x : Value} (e1 : t.eval args s none idx s = some x) (h : (Jvm.Cond.eq t (Term.int k)).value args s none s idx = some true) : x = .int k := by
  have e2 : (Term.int k).eval args s none idx s = some (.int k) := Term.int_eval k
  simp only [Cond.value, e1, e2] at h
  cases x <;> simp at h
  rw [h]
theorem own_len {args : Array Value} {s : State} {t : Term} {a : Addr} {cl : Cell} {ty : FieldType} {n : Int32} (ht : t.eval args s none [] s = some (.ref a)) (A : Arr s s.heap a cl ty) (h : (Jvm.Cond.eq (Term.length t) (Term.int n)).value args s none s [] = some true) : cl.slots.size < 2 ^ 31 ∧ cl.slots.size.toInt32 = n := by
  obtain ⟨x, y, e1, e2, -, -⟩ := cmp_v (Or.inl h)
  have hx := own_eqInt e1 h
  have ha : s.arrayAt? a = some cl := A.fin (Vm.Alike.refl _)
  by_cases hl : cl.slots.size < 2 ^ 31
  · have e3 := len_f (first := s) (o := none) (idx := []) ht ha hl
    have e4 := Option.some.inj (e3.symm.trans e1)
    rw [hx] at e4
    exact ⟨hl, Value.int.inj e4⟩
  · simp [Term.eval, ht, ha, hl] at e1
theorem own_elem {args : Array Value} {s : State} {idx : List Nat} {t k : Term} {a : Addr} {cl : Cell} {j b : Int32} (ht : t.eval args s none idx s = some (.ref a)) (hj : k.eval args s none idx s = some (.int j)) (hc : s.heap[a]? = some cl) (h : (Jvm.Cond.eq (Term.elem t k) (Term.int b)).value args s none s idx = some true) : cl.slots[j.toNatClampNeg]? = some (.int b) := by
  obtain ⟨x, y, e1, e2, -, -⟩ := cmp_v (Or.inl h)
  have hx := own_eqInt e1 h
  rw [← hx]
  exact (elem_in e1 ht hj hc).2
theorem own_or {args : Array Value} {s : State} {idx : List Nat} {c d : Jvm.Cond} (h : (Jvm.Cond.or c d).value args s none s idx = some true) : c.value args s none s idx = some true ∨ d.value args s none s idx = some true := by
  cases hc : c.value args s none s idx with
  | none => simp [Cond.value, hc] at h
  | some b =>
    cases b
    · rw [Cond.or_of_right hc] at h; exact Or.inr h
    · exact Or.inl rfl

theorem own_Aall : (List.range 256).map (fun i => Jvm.Cond.eq (Jvm.Term.elem (Jvm.Term.static "java/lang/CharacterDataLatin1" "A" "[I") (Jvm.Term.int (Int32.ofNat i))) (Jvm.Term.int (own_A.getD i 0))) = (jdkStatics_1.drop 17).take 256 := rfl
theorem own_Amem (i : Nat) (hi : i < 256) : Jvm.Cond.eq (Jvm.Term.elem (Jvm.Term.static "java/lang/CharacterDataLatin1" "A" "[I") (Jvm.Term.int (Int32.ofNat i))) (Jvm.Term.int (own_A.getD i 0)) ∈ jdkStatics_1 := by
  have h : _ ∈ (jdkStatics_1.drop 17).take 256 := own_Aall ▸ List.mem_map_of_mem (List.mem_range.mpr hi)
  exact List.mem_of_mem_drop (List.mem_of_mem_take h)
theorem comes_1 {Post : Tables → Env → Array Value → State → Outcome → State → Prop} (hpost : ∀ tb e args s v u, (limb_1_1.after args s (.returned v) u = true ∧ limb_1_2.after args s (.returned v) u = true ∧ True) → ReturnedEndW s (.returned v) u (Jvm.fieldLocs frame_1_writes args s ++ Jvm.arrayLocs frame_1_arrays args s ++ Jvm.staticLocs frame_1_statics s) 40 3264 → Post tb e args s (.returned v) u) :
    ArmFor flags0 classFile x code maxLocals ret World_1 tables_1 room_1 Calls_1 rest_1 Pre_1 Post := by
  intro l hfl _ _ p e ha hc hk s m args below hf hA hF happ hP
  obtain ⟨hcalls, hrest, hpre⟩ := hP
  obtain ⟨-, -, -, hnamed, -, -, -, hat⟩ := (Spec.applies_iff hf).mp happ
  obtain ⟨hg, hn⟩ := and_e (Cond.before_iff.mp (show (Jvm.Cond.and given_1 narrow_1).before args s = true from hpre))
  obtain ⟨gc, gr0⟩ := and_e hg
  obtain ⟨ga0, gr1⟩ := and_e gr0
  obtain ⟨ga1, gr2⟩ := and_e gr1
  obtain ⟨ga2, gr3⟩ := and_e gr2
  obtain ⟨w0, w1, w2, w3, rfl⟩ : ∃ w0 w1 w2 w3 : Value, args = #[w0, w1, w2, w3] := by
    have hs : args.size = 4 := by simpa [Cond.value, given_1] using gc
    obtain ⟨L⟩ := args
    match L, hs with
    | [w0, w1, w2, w3], _ => exact ⟨w0, w1, w2, w3, rfl⟩
  have hw := fun d (hd : d ∈ tables_1) => atoms_spec (ws := Jvm.Cond.code x code maxLocals ret :: tables_1) hat d (List.mem_cons_of_mem _ hd)
  have hfit : Fit s := fun {y c} hc i hi => by
    obtain ⟨ha, rfl⟩ := Array.getElem?_eq_some_iff.mp hc
    have q := List.all_eq_true.mp ((Array.all_eq_true_iff_forall_mem.mp hF) _ (Array.getElem_mem ha)) i (List.mem_range.mpr hi)
    simpa [Array.getElem?_eq_getElem hi] using q
  obtain ⟨hsets, hown0⟩ := atoms_of _ (rest_1_c_eq ▸ (show rest_1_c.before _ s = true from hrest))
  have hr0 := Cond.before_iff.mp hown0
  obtain ⟨i0, ei0⟩ := is_v ga0
  obtain rfl : w0 = (.int i0) := Option.some.inj ei0
  obtain ⟨i1, ei1⟩ := is_v ga1
  obtain rfl : w1 = (.int i1) := Option.some.inj ei1
  obtain ⟨i2, ei2⟩ := is_v ga2
  obtain rfl : w2 = (.int i2) := Option.some.inj ei2
  obtain ⟨i3, ei3⟩ := is_v gr3
  obtain rfl : w3 = (.int i3) := Option.some.inj ei3
  obtain ⟨cs, evCS⟩ := is_v (Cond.before_iff.mp (hsets _ (List.mem_of_getElem? (i := 1) rfl)))
  have S_CS : Sta s s.heap "java/lang/String" "COMPACT_STRINGS" "Z" (.int cs) := Sta.start evCS (Or.inl (hsets _ (List.mem_of_getElem? (i := 0) rfl)))
  have h_cs : ¬ cs = (0 : Int32) := fun q => by
    have q1 := not_v (Cond.before_iff.mp (hsets _ (List.mem_of_getElem? (i := 2) rfl)))
    rw [Cond.eq_ints evCS (Term.int_eval 0), q] at q1; exact absurd q1 (by simp)
  obtain ⟨fm, evF, h_fm⟩ := isR_v (Cond.before_iff.mp (hsets _ (List.mem_of_getElem? (i := 8) rfl)))
  have S_F : Sta s s.heap "jdk/internal/util/Preconditions" "SIOOBE_FORMATTER" "Ljava/util/function/BiFunction;" fm := Sta.start evF (Or.inl (hsets _ (List.mem_of_getElem? (i := 7) rfl)))
  have u11 := Cond.before_iff.mp (hsets _ (List.mem_of_getElem? (i := 11) rfl))
  obtain ⟨s_I, evI⟩ := exa_v u11
  have S_I : Sta s s.heap "java/lang/CharacterDataLatin1" "instance" "Ljava/lang/CharacterDataLatin1;" (.ref s_I) := Sta.start evI (Or.inl (hsets _ (List.mem_of_getElem? (i := 10) rfl)))
  have E_I : Exa s s.heap s_I "java/lang/CharacterDataLatin1" := Exa.start evI u11
  have u14 := Cond.before_iff.mp (hsets _ (List.mem_of_getElem? (i := 14) rfl))
  have u16 := Cond.before_iff.mp (hsets _ (List.mem_of_getElem? (i := 16) rfl))
  obtain ⟨s_T, evT⟩ := arr_v u14
  obtain ⟨cl, Ar⟩ := Arr.start evT u14
  obtain ⟨hl1, hl2⟩ := own_len evT Ar u16
  have S_T : Sta s s.heap "java/lang/CharacterDataLatin1" "A" "[I" (.ref s_T) := Sta.start evT (Or.inl (hsets _ (List.mem_of_getElem? (i := 13) rfl)))
  have TB : Tab s s.heap s_T cl .int (256 : Int32) := Tab.start hfit Ar (by simp) hl1 hl2 (by decide)
  have hTb : ∀ j : Int32, ¬ j < (0 : Int32) → j < (256 : Int32) → atv cl j = own_tb j := by
    intro j h0 h1
    rw [Int32.lt_iff_toInt_lt] at h0 h1
    have e0 : (0 : Int32).toInt = 0 := rfl
    have e1 : (256 : Int32).toInt = 256 := rfl
    obtain ⟨i, hi, rfl⟩ := own_ofNat j 256 (by decide) (by omega) (by omega)
    rw [own_tb, own_oC (by omega)]
    exact atv_of (own_elem evT (Term.int_eval _) Ar.1 (Cond.before_iff.mp (hsets _ (own_Amem i hi))))
  have hC0 : CHv s consts_1 s.vm s.heap := CHv.start (own_EW hw) hcalls.1 (hsets _ (List.mem_of_getElem? (i := 2) rfl)) (ww hw 23 rfl) (ww hw 6 rfl)
  obtain ⟨n, o, h1, h2, h3, _, L, rfl, Qv, hq⟩ := rm0 l s _ hw tables_1 i0 i1 i2 i3 cs fm s_T s_I cl s.heap s.heap.size (Nat.le_refl _) (Old.start s) S_CS h_cs S_F h_fm S_T TB hTb S_I E_I p e ha hc hk s m _ below hf ((Spec.applies_iff_loose hf).mp happ).1 ⟨rfl, State.Warmed39.refl s, rfl, hC0⟩ trivial
  obtain ⟨rfl, N⟩ := Qv
  refine ⟨n, _, h1, h2, h3, hpost _ _ _ _ _ _ ⟨Cond.after_iff.mpr rfl, Cond.after_iff.mpr (eq_i res_at (Term.int_eval (1)) rfl), trivial⟩ ⟨hq.1, hq.2.1, hq.2.2.1, (hq.2.2.2.sift fun y hy => Or.inr (N y hy)).mono (by decide) (by decide)⟩⟩
theorem main_1_1 : Claimed_1_1 := comes_1 fun _ _ _ _ _ _ h hF => ⟨h.1, hF⟩
theorem main_1_2 : Claimed_1_2 := comes_1 fun _ _ _ _ _ _ h hF => ⟨h.2.1, hF⟩
end Jvm.Pilot.@@N@@
namespace Jvm.Pilot.@@N@@
open Jvm Jvm.ClassFile Sem Op Lib Jvm.Free Jvm.Stand Jvm.Pilot.@@N@@.Jvm.D
/-! MADE BY PROGRAM (witnessworld.py) out of the Statement's table words and the real class files: 25 classes; the members and pool entries that the words name. The judged class is class 1, her method 1. -/
namespace start1
open Jvm.ClassFile
def u (s : String) : CpInfo := .utf8 (stringToUtf16 s)
/-- a pool by its gaps: so many unusable entries, then the entry; so many at the end -/
def gap : Nat → List CpInfo → List CpInfo
  | 0, r => r
  | n + 1, r => .unusable :: gap n r
def poolList (es : List (Nat × CpInfo)) (last : Nat) : List CpInfo := es.foldr (fun e r => gap e.1 (e.2 :: r)) (gap last [])
def pool (es : List (Nat × CpInfo)) (last : Nat) : Array CpInfo := ⟨poolList es last⟩
def fileOf (pool : Array CpInfo) (this : Nat) (attrs : Array Attribute := #[]) (ms : Array MethodInfo := #[]) (fl : Nat := 33) (sup : Nat := 0) (ifs : Array Nat := #[]) (fds : Array FieldInfo := #[]) : ClassFile where
  minorVersion := 0
  majorVersion := 65
  constantPool := pool
  accessFlags := fl
  thisClass := this
  superClass := sup
  interfaces := ifs
  fields := fds
  methods := ms
  attributes := attrs
def plain (name : String) (sup : Option ClassId) : Class where
  name := name
  kind := .ordinary
  loader := none
  accessFlags := 33
  super := sup
  interfaces := #[]
  cf := none
  fields := #[]
  methods := #[]
  instanceTypes := #[]
  staticTypes := #[]
  resolved := #[]
  callSites := []
  init := .initialized
  statics := none
  mirror := none

def pool0 : Array CpInfo := pool [(5, u "<init>"), (0, u "()V"), (1, .class_ 10), (1, u "java/lang/Object")] 113

def k0c0 : Code := ⟨0, 1, object_method_1_code, #[], #[]⟩
def k0m0 : Method := ⟨"<init>", "()V", ⟨[], none⟩, 1, some k0c0⟩
/-- java/lang/Object -/
def k0 : Class := { plain "java/lang/Object" none with
  accessFlags := 33
  interfaces := #[]
  cf := some (fileOf pool0 8 #[] #[⟨1, 5, 6, #[]⟩] 33 0 #[] #[])
  fields := #[]
  methods := #[k0m0]
  instanceTypes := #[]
  staticTypes := #[]
  resolved := Array.replicate 124 none
  statics := none }

def pool1 : Array CpInfo := pool [(2, .class_ 4), (1, u "java/lang/Object"), (0, u "<init>"), (0, u "()V"), (0, .methodref 8 9), (0, .class_ 10), (0, .nameAndType 11 12), (0, u "com/example/cloud_to_core/cloudtocore/auth/HttpAuthorizationCredentialsPinLaw"), (0, u "swap"), (0, u "(C)C"), (0, .methodref 8 14), (0, .nameAndType 15 16), (0, u "str"), (0, u "([CI)Ljava/lang/String;"), (0, .methodref 18 19), (0, .class_ 20), (0, .nameAndType 21 22), (0, u "com/example/cloud_to_core/cloudtocore/auth/HttpAuthorization"), (0, u "credentials"), (0, u "(Ljava/lang/String;Ljava/lang/String;)Ljava/lang/String;"), (0, .methodref 8 24), (0, .nameAndType 25 26), (0, u "fold"), (0, u "(C)I"), (0, .methodref 8 28), (0, .nameAndType 29 30), (0, u "lo"), (0, u "([CII)I"), (0, .methodref 8 32), (0, .nameAndType 33 30), (0, u "hi"), (0, .methodref 35 36), (0, .class_ 37), (0, .nameAndType 38 39), (0, u "java/lang/String"), (0, u "length"), (0, u "()I"), (0, .methodref 8 41), (0, .nameAndType 42 43), (0, u "at"), (0, u "(Ljava/lang/String;[CII)Z"), (0, .methodref 35 45), (0, .nameAndType 46 47), (0, u "charAt"), (0, u "(I)C"), (0, .methodref 8 49), (0, .nameAndType 50 51), (0, u "ws"), (0, u "(C)Z"), (0, .methodref 35 53), (0, .nameAndType 5 54), (0, u "([C)V"), (2, u "law"), (0, u "(IIII)Z")] 5

def k1m0 : Method := ⟨"<init>", "()V", ⟨[], none⟩, 2, none⟩
def k1c1 : Code := ⟨4, 20, code, #[], #[]⟩
def k1m1 : Method := ⟨"law", "(IIII)Z", ⟨[.int, .int, .int, .int], some .boolean⟩, 9, some k1c1⟩
def k1c2 : Code := ⟨4, 4, method_3_code, #[], #[]⟩
def k1m2 : Method := ⟨"at", "(Ljava/lang/String;[CII)Z", ⟨[(.object "java/lang/String"), (.array .char), .int, .int], some .boolean⟩, 10, some k1c2⟩
def k1c3 : Code := ⟨2, 1, method_4_code, #[], #[]⟩
def k1m3 : Method := ⟨"ws", "(C)Z", ⟨[.char], some .boolean⟩, 10, some k1c3⟩
def k1c4 : Code := ⟨2, 4, method_5_code, #[], #[]⟩
def k1m4 : Method := ⟨"lo", "([CII)I", ⟨[(.array .char), .int, .int], some .int⟩, 10, some k1c4⟩
def k1c5 : Code := ⟨2, 4, method_6_code, #[], #[]⟩
def k1m5 : Method := ⟨"hi", "([CII)I", ⟨[(.array .char), .int, .int], some .int⟩, 10, some k1c5⟩
def k1c6 : Code := ⟨2, 1, method_7_code, #[], #[]⟩
def k1m6 : Method := ⟨"fold", "(C)I", ⟨[.char], some .int⟩, 10, some k1c6⟩
def k1c7 : Code := ⟨2, 1, method_8_code, #[], #[]⟩
def k1m7 : Method := ⟨"swap", "(C)C", ⟨[.char], some .char⟩, 10, some k1c7⟩
def k1c8 : Code := ⟨7, 2, method_9_code, #[], #[]⟩
def k1m8 : Method := ⟨"str", "([CI)Ljava/lang/String;", ⟨[(.array .char), .int], some (.object "java/lang/String")⟩, 10, some k1c8⟩
/-- com/example/cloud_to_core/cloudtocore/auth/HttpAuthorizationCredentialsPinLaw -/
def k1 : Class := { plain "com/example/cloud_to_core/cloudtocore/auth/HttpAuthorizationCredentialsPinLaw" (some 0) with
  accessFlags := 49
  interfaces := #[]
  cf := some (fileOf pool1 8 #[] #[⟨2, 5, 6, #[]⟩, ⟨9, 57, 58, #[]⟩, ⟨10, 42, 43, #[]⟩, ⟨10, 50, 51, #[]⟩, ⟨10, 29, 30, #[]⟩, ⟨10, 33, 30, #[]⟩, ⟨10, 25, 26, #[]⟩, ⟨10, 11, 12, #[]⟩, ⟨10, 15, 16, #[]⟩] 49 2 #[] #[])
  fields := #[]
  methods := #[k1m0, k1m1, k1m2, k1m3, k1m4, k1m5, k1m6, k1m7, k1m8]
  instanceTypes := #[]
  staticTypes := #[]
  resolved := Array.replicate 64 none
  statics := none }

def pool2 : Array CpInfo := pool [(1, .class_ 2), (0, u "java/io/Serializable"), (0, .class_ 4), (0, u "java/lang/Object")] 2

/-- java/io/Serializable -/
def k2 : Class := { plain "java/io/Serializable" (some 0) with
  accessFlags := 1537
  interfaces := #[]
  cf := some (fileOf pool2 1 #[] #[] 1537 3 #[] #[])
  fields := #[]
  methods := #[]
  instanceTypes := #[]
  staticTypes := #[]
  resolved := Array.replicate 7 none
  statics := none }

def pool3 : Array CpInfo := pool [(1, .class_ 2), (0, u "java/lang/Comparable"), (0, .class_ 4), (0, u "java/lang/Object")] 7

/-- java/lang/Comparable -/
def k3 : Class := { plain "java/lang/Comparable" (some 0) with
  accessFlags := 1537
  interfaces := #[]
  cf := some (fileOf pool3 1 #[] #[] 1537 3 #[] #[])
  fields := #[]
  methods := #[]
  instanceTypes := #[]
  staticTypes := #[]
  resolved := Array.replicate 12 none
  statics := none }

def pool4 : Array CpInfo := pool [(2, .class_ 4), (1, u "java/lang/CharSequence"), (42, .class_ 48), (0, u "java/lang/CharSequence$1CodePointIterator"), (10, .class_ 60), (0, u "java/lang/CharSequence$1CharIterator"), (5, .class_ 67), (0, u "java/lang/Object")] 63

/-- java/lang/CharSequence -/
def k4 : Class := { plain "java/lang/CharSequence" (some 0) with
  accessFlags := 1537
  interfaces := #[]
  cf := some (fileOf pool4 2 #[.nestMembers #[47, 59]] #[] 1537 66 #[] #[])
  fields := #[]
  methods := #[]
  instanceTypes := #[]
  staticTypes := #[]
  resolved := Array.replicate 131 none
  statics := none }

def pool5 : Array CpInfo := pool [(1, .class_ 2), (0, u "java/lang/constant/Constable"), (0, .class_ 4), (0, u "java/lang/Object")] 6

/-- java/lang/constant/Constable -/
def k5 : Class := { plain "java/lang/constant/Constable" (some 0) with
  accessFlags := 1537
  interfaces := #[]
  cf := some (fileOf pool5 1 #[] #[] 1537 3 #[] #[])
  fields := #[]
  methods := #[]
  instanceTypes := #[]
  staticTypes := #[]
  resolved := Array.replicate 11 none
  statics := none }

def pool6 : Array CpInfo := pool [(1, .class_ 2), (0, u "java/lang/constant/ConstantDesc"), (0, .class_ 4), (0, u "java/lang/Object")] 32

/-- java/lang/constant/ConstantDesc -/
def k6 : Class := { plain "java/lang/constant/ConstantDesc" (some 0) with
  accessFlags := 1537
  interfaces := #[]
  cf := some (fileOf pool6 1 #[] #[] 1537 3 #[] #[])
  fields := #[]
  methods := #[]
  instanceTypes := #[]
  staticTypes := #[]
  resolved := Array.replicate 37 none
  statics := none }

def pool7 : Array CpInfo := pool [(1, .methodref 2 3), (0, .class_ 4), (0, .nameAndType 5 6), (0, u "java/lang/Object"), (0, u "<init>"), (0, u "()V"), (0, .string 8), (0, u ""), (0, .fieldref 10 11), (0, .class_ 12), (0, .nameAndType 13 14), (0, u "java/lang/String"), (0, u "value"), (0, u "[B"), (0, .fieldref 10 16), (0, .nameAndType 17 18), (0, u "coder"), (0, u "B"), (2, u "hash"), (0, u "I"), (2, u "hashIsZero"), (0, u "Z"), (0, .methodref 10 28), (0, .nameAndType 5 29), (0, u "([CIILjava/lang/Void;)V"), (8, .fieldref 10 39), (0, .nameAndType 40 26), (0, u "COMPACT_STRINGS"), (1, .class_ 44), (1, u "java/lang/StringUTF16"), (0, u "compress"), (1, .methodref 42 48), (0, .nameAndType 49 50), (0, u "coderFromArrayLen"), (0, u "([BI)B"), (56, .class_ 109), (1, u "java/lang/StringLatin1"), (32, u "()Z"), (34, .methodref 42 178), (0, .nameAndType 45 179), (0, u "([CII)[B"), (31, u "([BB)V"), (122, u "()I"), (0, .methodref 10 336), (0, .nameAndType 17 337), (0, u "()B"), (25, u "([BI)C"), (12, u "([BI[BII)I"), (14, u "(II)V"), (35, u "(I)C"), (36, u "()Ljava/lang/String;"), (27, .methodref 10 493), (0, .nameAndType 494 142), (0, u "isLatin1"), (0, .methodref 107 496), (0, .nameAndType 497 363), (0, u "charAt"), (3, u "checkIndex"), (3, .methodref 10 506), (0, .nameAndType 507 334), (0, u "length"), (5, u "checkFromToIndex"), (7, .methodref 10 522), (0, .nameAndType 523 524), (0, u "checkBoundsBeginEnd"), (0, u "(III)V"), (34, .class_ 561), (1, u "jdk/internal/util/ArraysSupport"), (0, u "mismatch"), (12, .class_ 576), (0, u "java/lang/CharSequence"), (7, u "regionMatches"), (0, u "(ZILjava/lang/String;II)Z"), (13, u "CASE_INSENSITIVE_ORDER"), (0, u "Ljava/util/Comparator;"), (6, .methodref 559 608), (0, .nameAndType 562 376), (4, .methodref 107 614), (0, .nameAndType 615 616), (0, u "regionMatchesCI"), (0, u "([BI[BII)Z"), (7, .methodref 10 625), (0, .nameAndType 626 627), (0, u "startsWith"), (0, u "(Ljava/lang/String;I)Z"), (53, .methodref 10 682), (0, .nameAndType 683 684), (0, u "substring"), (0, u "(II)Ljava/lang/String;"), (0, .methodref 107 686), (0, .nameAndType 687 688), (0, u "newString"), (0, u "([BII)Ljava/lang/String;"), (173, u "([B)Ljava/lang/String;"), (1, .methodref 107 865), (0, .nameAndType 866 862), (0, u "strip"), (25, u "(I)Ljava/lang/String;"), (117, u "([C)V"), (42, .fieldref 1054 1055), (0, .class_ 1056), (0, .nameAndType 1057 1058), (0, u "jdk/internal/util/Preconditions"), (0, u "SIOOBE_FORMATTER"), (0, u "Ljava/util/function/BiFunction;"), (0, .methodref 1054 1060), (0, .nameAndType 501 1061), (0, u "(IILjava/util/function/BiFunction;)I"), (0, .methodref 1054 1063), (0, .nameAndType 513 1064), (0, u "(IIILjava/util/function/BiFunction;)I"), (36, u "serialPersistentFields"), (0, u "[Ljava/io/ObjectStreamField;"), (0, .class_ 1104), (0, u "java/lang/String$CaseInsensitiveComparator"), (1, .class_ 1107), (0, u "java/io/Serializable"), (0, .class_ 1109), (0, u "java/lang/Comparable"), (0, .class_ 1111), (0, u "java/lang/constant/Constable"), (0, .class_ 1113), (0, u "java/lang/constant/ConstantDesc"), (2, u "serialVersionUID"), (0, u "J"), (3, u "REPL"), (0, u "C"), (2, u "LATIN1"), (1, u "UTF16"), (129, u "(Ljava/lang/String;)Z")] 193

def k7m0 : Method := ⟨"<init>", "()V", ⟨[], none⟩, 1, none⟩
def k7c1 : Code := ⟨5, 2, jdk_42_method_3_code, #[], #[]⟩
def k7m1 : Method := ⟨"<init>", "([C)V", ⟨[(.array .char)], none⟩, 1, some k7c1⟩
def k7c2 : Code := ⟨2, 1, jdk_42_method_54_code, #[], #[]⟩
def k7m2 : Method := ⟨"length", "()I", ⟨[], some .int⟩, 1, some k7c2⟩
def k7c3 : Code := ⟨2, 2, jdk_42_method_56_code, #[], #[]⟩
def k7m3 : Method := ⟨"charAt", "(I)C", ⟨[.int], some .char⟩, 1, some k7c3⟩
def k7c4 : Code := ⟨6, 9, jdk_42_method_74_code, #[], #[]⟩
def k7m4 : Method := ⟨"regionMatches", "(ZILjava/lang/String;II)Z", ⟨[.boolean, .int, (.object "java/lang/String"), .int, .int], some .boolean⟩, 1, some k7c4⟩
def k7c5 : Code := ⟨5, 8, jdk_42_method_75_code, #[], #[]⟩
def k7m5 : Method := ⟨"startsWith", "(Ljava/lang/String;I)Z", ⟨[(.object "java/lang/String"), .int], some .boolean⟩, 1, some k7c5⟩
def k7c6 : Code := ⟨3, 2, jdk_42_method_76_code, #[], #[]⟩
def k7m6 : Method := ⟨"startsWith", "(Ljava/lang/String;)Z", ⟨[(.object "java/lang/String")], some .boolean⟩, 1, some k7c6⟩
def k7c7 : Code := ⟨3, 2, jdk_42_method_91_code, #[], #[]⟩
def k7m7 : Method := ⟨"substring", "(I)Ljava/lang/String;", ⟨[.int], some (.object "java/lang/String")⟩, 1, some k7c7⟩
def k7c8 : Code := ⟨3, 5, jdk_42_method_92_code, #[], #[]⟩
def k7m8 : Method := ⟨"substring", "(II)Ljava/lang/String;", ⟨[.int, .int], some (.object "java/lang/String")⟩, 1, some k7c8⟩
def k7c9 : Code := ⟨1, 2, jdk_42_method_114_code, #[], #[]⟩
def k7m9 : Method := ⟨"strip", "()Ljava/lang/String;", ⟨[], some (.object "java/lang/String")⟩, 1, some k7c9⟩
def k7c10 : Code := ⟨4, 6, jdk_42_method_149_code, #[], #[]⟩
def k7m10 : Method := ⟨"<init>", "([CIILjava/lang/Void;)V", ⟨[(.array .char), .int, .int, (.object "java/lang/Void")], none⟩, 2, some k7c10⟩
def k7c11 : Code := ⟨2, 3, jdk_42_method_151_code, #[], #[]⟩
def k7m11 : Method := ⟨"<init>", "([BB)V", ⟨[(.array .byte), .byte], none⟩, 0, some k7c11⟩
def k7c12 : Code := ⟨1, 1, jdk_42_method_152_code, #[], #[]⟩
def k7m12 : Method := ⟨"coder", "()B", ⟨[], some .byte⟩, 0, some k7c12⟩
def k7c13 : Code := ⟨1, 1, jdk_42_method_154_code, #[], #[]⟩
def k7m13 : Method := ⟨"isLatin1", "()Z", ⟨[], some .boolean⟩, 0, some k7c13⟩
def k7c14 : Code := ⟨3, 2, jdk_42_method_155_code, #[], #[]⟩
def k7m14 : Method := ⟨"checkIndex", "(II)V", ⟨[.int, .int], none⟩, 8, some k7c14⟩
def k7c15 : Code := ⟨4, 3, jdk_42_method_158_code, #[], #[]⟩
def k7m15 : Method := ⟨"checkBoundsBeginEnd", "(III)V", ⟨[.int, .int, .int], none⟩, 8, some k7c15⟩
/-- java/lang/String -/
def k7 : Class := { plain "java/lang/String" (some 0) with
  accessFlags := 49
  interfaces := #[2, 3, 4, 5, 6]
  cf := some (fileOf pool7 10 #[.nestMembers #[1103]] #[⟨1, 5, 6, #[]⟩, ⟨1, 5, 1010, #[]⟩, ⟨1, 507, 334, #[]⟩, ⟨1, 497, 427, #[]⟩, ⟨1, 584, 585, #[]⟩, ⟨1, 626, 627, #[]⟩, ⟨1, 626, 1257, #[]⟩, ⟨1, 683, 892, #[]⟩, ⟨1, 683, 684, #[]⟩, ⟨1, 866, 464, #[]⟩, ⟨2, 5, 29, #[]⟩, ⟨0, 5, 211, #[]⟩, ⟨0, 17, 337, #[]⟩, ⟨0, 494, 142, #[]⟩, ⟨8, 501, 391, #[]⟩, ⟨8, 523, 524, #[]⟩] 49 2 #[1106, 1108, 575, 1110, 1112] #[⟨18, 13, 14, #[]⟩, ⟨18, 17, 18, #[]⟩, ⟨2, 21, 22, #[]⟩, ⟨2, 25, 26, #[]⟩, ⟨26, 1116, 1117, #[]⟩, ⟨24, 40, 26, #[]⟩, ⟨26, 1101, 1102, #[]⟩, ⟨26, 1121, 1122, #[]⟩, ⟨25, 599, 600, #[]⟩, ⟨24, 1125, 18, #[]⟩, ⟨24, 1127, 18, #[]⟩])
  fields := #[⟨"value", (.array .byte), 18, 0, 0⟩, ⟨"coder", .byte, 18, 1, 0⟩, ⟨"hash", .int, 2, 2, 0⟩, ⟨"hashIsZero", .boolean, 2, 3, 0⟩, ⟨"serialVersionUID", .long, 26, 0, 0⟩, ⟨"COMPACT_STRINGS", .boolean, 24, 1, 0⟩, ⟨"serialPersistentFields", (.array (.object "java/io/ObjectStreamField")), 26, 2, 0⟩, ⟨"REPL", .char, 26, 3, 0⟩, ⟨"CASE_INSENSITIVE_ORDER", (.object "java/util/Comparator"), 25, 4, 0⟩, ⟨"LATIN1", .byte, 24, 5, 0⟩, ⟨"UTF16", .byte, 24, 6, 0⟩]
  methods := #[k7m0, k7m1, k7m2, k7m3, k7m4, k7m5, k7m6, k7m7, k7m8, k7m9, k7m10, k7m11, k7m12, k7m13, k7m14, k7m15]
  instanceTypes := #[(.array .byte), .byte, .int, .boolean]
  staticTypes := #[.long, .boolean, (.array (.object "java/io/ObjectStreamField")), .char, (.object "java/util/Comparator"), .byte, .byte]
  resolved := Array.replicate 1451 none
  statics := some 0 }

def pool8 : Array CpInfo := pool [(6, .class_ 8), (1, u "java/lang/Object"), (0, u "<init>"), (0, u "()V"), (1, .class_ 14), (1, u "java/lang/StringUTF16"), (31, u "$assertionsDisabled"), (0, u "Z"), (13, u "HI_BYTE_SHIFT"), (0, u "I"), (2, u "LO_BYTE_SHIFT"), (49, .methodref 12 116), (0, .nameAndType 117 118), (0, u "compress"), (0, u "([CI[BII)I"), (3, u "([CII)[B"), (138, u "coderFromArrayLen"), (0, u "([BI)B"), (106, .class_ 371), (1, u "java/lang/StringUTF16$LinesSpliterator"), (58, u "MAX_LENGTH"), (196, .class_ 628), (0, u "java/lang/StringUTF16$CodePointsSpliterator"), (0, .class_ 630), (0, u "java/lang/StringUTF16$CharsSpliterator")] 4

def k8m0 : Method := ⟨"<init>", "()V", ⟨[], none⟩, 0, none⟩
def k8c1 : Code := ⟨2, 2, jdk_52_method_15_code, #[], #[]⟩
def k8m1 : Method := ⟨"coderFromArrayLen", "([BI)B", ⟨[(.array .byte), .int], some .byte⟩, 8, some k8c1⟩
def k8c2 : Code := ⟨5, 6, jdk_52_method_16_code, #[], #[]⟩
def k8m2 : Method := ⟨"compress", "([CII)[B", ⟨[(.array .char), .int, .int], some (.array .byte)⟩, 9, some k8c2⟩
def k8c3 : Code := ⟨3, 7, jdk_52_method_21_code, #[], #[]⟩
def k8m3 : Method := ⟨"compress", "([CI[BII)I", ⟨[(.array .char), .int, (.array .byte), .int, .int], some .int⟩, 9, some k8c3⟩
/-- java/lang/StringUTF16 -/
def k8 : Class := { plain "java/lang/StringUTF16" (some 0) with
  accessFlags := 48
  interfaces := #[]
  cf := some (fileOf pool8 12 #[.nestMembers #[627, 629, 369]] #[⟨0, 9, 10, #[]⟩, ⟨8, 261, 262, #[]⟩, ⟨9, 117, 122, #[]⟩, ⟨9, 117, 118, #[]⟩] 48 6 #[] #[⟨26, 61, 62, #[]⟩, ⟨26, 65, 62, #[]⟩, ⟨24, 430, 62, #[]⟩, ⟨4120, 46, 47, #[]⟩])
  fields := #[⟨"HI_BYTE_SHIFT", .int, 26, 0, 0⟩, ⟨"LO_BYTE_SHIFT", .int, 26, 1, 0⟩, ⟨"MAX_LENGTH", .int, 24, 2, 0⟩, ⟨"$assertionsDisabled", .boolean, 4120, 3, 0⟩]
  methods := #[k8m0, k8m1, k8m2, k8m3]
  instanceTypes := #[]
  staticTypes := #[.int, .int, .int, .boolean]
  resolved := Array.replicate 635 none
  statics := none }

def pool9 : Array CpInfo := pool [(2, .class_ 4), (1, u "java/lang/Object"), (0, u "<init>"), (0, u "()V"), (0, .methodref 8 9), (0, .class_ 10), (0, .nameAndType 11 12), (0, u "java/lang/String"), (0, u "length"), (0, u "()I"), (0, .methodref 8 14), (0, .nameAndType 15 16), (0, u "regionMatches"), (0, u "(ZILjava/lang/String;II)Z"), (0, .methodref 8 18), (0, .nameAndType 19 20), (0, u "substring"), (0, u "(I)Ljava/lang/String;"), (0, .string 22), (0, u " "), (0, .methodref 8 24), (0, .nameAndType 25 26), (0, u "startsWith"), (0, u "(Ljava/lang/String;)Z"), (0, .methodref 8 28), (0, .nameAndType 29 30), (0, u "strip"), (0, u "()Ljava/lang/String;"), (6, u "(Ljava/lang/String;Ljava/lang/String;)Ljava/lang/String;"), (0, .class_ 39), (0, u "com/example/cloud_to_core/cloudtocore/auth/HttpAuthorization"), (0, u "AUTHORIZATION"), (0, u "Ljava/lang/String;"), (3, u "WWW_AUTHENTICATE"), (2, u "REALM"), (4, u "credentials")] 21

def k9m0 : Method := ⟨"<init>", "()V", ⟨[], none⟩, 2, none⟩
def k9c1 : Code := ⟨6, 4, prog_1_method_2_code, #[], #[]⟩
def k9m1 : Method := ⟨"credentials", "(Ljava/lang/String;Ljava/lang/String;)Ljava/lang/String;", ⟨[(.object "java/lang/String"), (.object "java/lang/String")], some (.object "java/lang/String")⟩, 8, some k9c1⟩
/-- com/example/cloud_to_core/cloudtocore/auth/HttpAuthorization -/
def k9 : Class := { plain "com/example/cloud_to_core/cloudtocore/auth/HttpAuthorization" (some 0) with
  accessFlags := 48
  interfaces := #[]
  cf := some (fileOf pool9 38 #[] #[⟨2, 5, 6, #[]⟩, ⟨8, 53, 37, #[]⟩] 48 2 #[] #[⟨24, 40, 41, #[]⟩, ⟨24, 45, 41, #[]⟩, ⟨26, 48, 41, #[]⟩])
  fields := #[⟨"AUTHORIZATION", (.object "java/lang/String"), 24, 0, 0⟩, ⟨"WWW_AUTHENTICATE", (.object "java/lang/String"), 24, 1, 0⟩, ⟨"REALM", (.object "java/lang/String"), 26, 2, 0⟩]
  methods := #[k9m0, k9m1]
  instanceTypes := #[]
  staticTypes := #[(.object "java/lang/String"), (.object "java/lang/String"), (.object "java/lang/String")]
  resolved := Array.replicate 75 none
  statics := none }

def pool10 : Array CpInfo := pool [(1, .class_ 2), (0, u "java/lang/String"), (1, .class_ 6), (1, u "java/lang/Object"), (0, u "<init>"), (0, u "()V"), (0, .methodref 1 10), (0, .nameAndType 11 12), (0, u "checkIndex"), (0, u "(II)V"), (1, .class_ 16), (1, u "java/lang/StringLatin1"), (33, .methodref 14 51), (0, .nameAndType 52 53), (0, u "getChar"), (0, u "([BI)C"), (3, u "([B)I"), (8, .fieldref 67 68), (0, .class_ 69), (0, .nameAndType 70 71), (0, u "java/lang/CharacterDataLatin1"), (0, u "instance"), (0, u "Ljava/lang/CharacterDataLatin1;"), (19, u "(I)Z"), (20, .methodref 1 113), (0, .nameAndType 7 114), (0, u "([BB)V"), (6, u "$assertionsDisabled"), (0, u "Z"), (8, .class_ 133), (1, u "java/util/Arrays"), (17, .string 152), (0, u ""), (0, .methodref 67 154), (0, .nameAndType 155 156), (0, u "equalsIgnoreCase"), (0, u "(BB)Z"), (38, .nameAndType 196 197), (0, u "newString"), (0, u "([BII)Ljava/lang/String;"), (12, .methodref 14 195), (0, .methodref 67 212), (0, .nameAndType 213 91), (0, u "isWhitespace"), (0, .methodref 14 215), (0, .nameAndType 216 57), (0, u "indexOfNonWhitespace"), (0, .methodref 14 218), (0, .nameAndType 219 57), (0, u "lastIndexOfNonWhitespace"), (1, .class_ 223), (1, u "java/lang/StringLatin1$LinesSpliterator"), (8, .methodref 131 233), (0, .nameAndType 234 235), (0, u "copyOfRange"), (0, u "([BII)[B"), (16, u "charAt"), (87, u "regionMatchesCI"), (0, u "([BI[BII)Z"), (25, u "([B)Ljava/lang/String;"), (3, u "strip"), (18, .class_ 391), (0, u "java/lang/StringLatin1$CharsSpliterator")] 3

def k10m0 : Method := ⟨"<init>", "()V", ⟨[], none⟩, 0, none⟩
def k10c1 : Code := ⟨2, 2, jdk_43_method_2_code, #[], #[]⟩
def k10m1 : Method := ⟨"charAt", "([BI)C", ⟨[(.array .byte), .int], some .char⟩, 9, some k10c1⟩
def k10c2 : Code := ⟨2, 8, jdk_43_method_30_code, #[], #[]⟩
def k10m2 : Method := ⟨"regionMatchesCI", "([BI[BII)Z", ⟨[(.array .byte), .int, (.array .byte), .int, .int], some .boolean⟩, 9, some k10c2⟩
def k10c3 : Code := ⟨2, 4, jdk_43_method_37_code, #[], #[]⟩
def k10m3 : Method := ⟨"indexOfNonWhitespace", "([B)I", ⟨[(.array .byte)], some .int⟩, 9, some k10c3⟩
def k10c4 : Code := ⟨3, 4, jdk_43_method_38_code, #[], #[]⟩
def k10m4 : Method := ⟨"lastIndexOfNonWhitespace", "([B)I", ⟨[(.array .byte)], some .int⟩, 9, some k10c4⟩
def k10c5 : Code := ⟨4, 4, jdk_43_method_39_code, #[], #[]⟩
def k10m5 : Method := ⟨"strip", "([B)Ljava/lang/String;", ⟨[(.array .byte)], some (.object "java/lang/String")⟩, 9, some k10c5⟩
def k10c6 : Code := ⟨2, 2, jdk_43_method_44_code, #[], #[]⟩
def k10m6 : Method := ⟨"getChar", "([BI)C", ⟨[(.array .byte), .int], some .char⟩, 9, some k10c6⟩
def k10c7 : Code := ⟨6, 3, jdk_43_method_47_code, #[], #[]⟩
def k10m7 : Method := ⟨"newString", "([BII)Ljava/lang/String;", ⟨[(.array .byte), .int, .int], some (.object "java/lang/String")⟩, 9, some k10c7⟩
/-- java/lang/StringLatin1 -/
def k10 : Class := { plain "java/lang/StringLatin1" (some 0) with
  accessFlags := 48
  interfaces := #[]
  cf := some (fileOf pool10 14 #[.nestMembers #[390, 221]] #[⟨0, 7, 8, #[]⟩, ⟨9, 252, 53, #[]⟩, ⟨9, 340, 341, #[]⟩, ⟨9, 216, 57, #[]⟩, ⟨9, 219, 57, #[]⟩, ⟨9, 371, 367, #[]⟩, ⟨9, 52, 53, #[]⟩, ⟨9, 196, 197, #[]⟩] 48 4 #[] #[⟨4120, 121, 122, #[]⟩])
  fields := #[⟨"$assertionsDisabled", .boolean, 4120, 0, 0⟩]
  methods := #[k10m0, k10m1, k10m2, k10m3, k10m4, k10m5, k10m6, k10m7]
  instanceTypes := #[]
  staticTypes := #[.boolean]
  resolved := Array.replicate 395 none
  statics := none }

def pool11 : Array CpInfo := pool [(2, .class_ 4), (1, u "java/lang/Object"), (0, u "<init>"), (0, u "()V"), (17, .class_ 26), (1, u "jdk/internal/util/Preconditions"), (6, u "checkIndex"), (13, u "checkFromToIndex"), (7, .class_ 56), (0, u "jdk/internal/util/Preconditions$4"), (57, .class_ 115), (0, u "jdk/internal/util/Preconditions$1"), (7, u "SIOOBE_FORMATTER"), (0, u "Ljava/util/function/BiFunction;"), (0, .class_ 126), (0, u "jdk/internal/util/Preconditions$2"), (3, u "AIOOBE_FORMATTER"), (0, .class_ 132), (0, u "jdk/internal/util/Preconditions$3"), (3, u "IOOBE_FORMATTER"), (41, u "(IILjava/util/function/BiFunction;)I"), (4, u "(IIILjava/util/function/BiFunction;)I")] 10

def k11m0 : Method := ⟨"<init>", "()V", ⟨[], none⟩, 1, none⟩
def k11c1 : Code := ⟨3, 3, jdk_41_method_11_code, #[], #[]⟩
def k11m1 : Method := ⟨"checkIndex", "(IILjava/util/function/BiFunction;)I", ⟨[.int, .int, (.object "java/util/function/BiFunction")], some .int⟩, 9, some k11c1⟩
def k11c2 : Code := ⟨4, 4, jdk_41_method_12_code, #[], #[]⟩
def k11m2 : Method := ⟨"checkFromToIndex", "(IIILjava/util/function/BiFunction;)I", ⟨[.int, .int, .int, (.object "java/util/function/BiFunction")], some .int⟩, 9, some k11c2⟩
/-- jdk/internal/util/Preconditions -/
def k11 : Class := { plain "jdk/internal/util/Preconditions" (some 0) with
  accessFlags := 33
  interfaces := #[]
  cf := some (fileOf pool11 24 #[.nestMembers #[55, 131, 125, 114]] #[⟨1, 5, 6, #[]⟩, ⟨9, 33, 178, #[]⟩, ⟨9, 47, 183, #[]⟩] 33 2 #[] #[⟨25, 123, 124, #[]⟩, ⟨25, 130, 124, #[]⟩, ⟨25, 136, 124, #[]⟩])
  fields := #[⟨"SIOOBE_FORMATTER", (.object "java/util/function/BiFunction"), 25, 0, 0⟩, ⟨"AIOOBE_FORMATTER", (.object "java/util/function/BiFunction"), 25, 1, 0⟩, ⟨"IOOBE_FORMATTER", (.object "java/util/function/BiFunction"), 25, 2, 0⟩]
  methods := #[k11m0, k11m1, k11m2]
  instanceTypes := #[]
  staticTypes := #[(.object "java/util/function/BiFunction"), (.object "java/util/function/BiFunction"), (.object "java/util/function/BiFunction")]
  resolved := Array.replicate 194 none
  statics := some 1 }

def pool12 : Array CpInfo := pool [(9, u "<init>"), (6, .class_ 18), (1, u "java/lang/Object"), (0, u "()V"), (1, .class_ 23), (1, u "jdk/internal/util/ArraysSupport"), (0, u "LOG2_ARRAY_LONG_INDEX_SCALE"), (0, u "I"), (2, u "U"), (0, u "Ljdk/internal/misc/Unsafe;"), (8, u "BIG_ENDIAN"), (0, u "Z"), (8, u "LOG2_BYTE_BIT_SIZE"), (4, u "LOG2_ARRAY_INT_INDEX_SCALE"), (54, u "JLA"), (0, u "Ljdk/internal/access/JavaLangAccess;"), (11, u "LOG2_ARRAY_BOOLEAN_INDEX_SCALE"), (9, u "LOG2_ARRAY_BYTE_INDEX_SCALE"), (5, u "LOG2_ARRAY_CHAR_INDEX_SCALE"), (5, u "LOG2_ARRAY_SHORT_INDEX_SCALE"), (5, u "mismatch"), (12, u "LOG2_ARRAY_FLOAT_INDEX_SCALE"), (24, u "LOG2_ARRAY_DOUBLE_INDEX_SCALE"), (89, u "T_BOOLEAN"), (2, u "T_CHAR"), (1, u "T_FLOAT"), (1, u "T_DOUBLE"), (1, u "T_BYTE"), (1, u "T_SHORT"), (1, u "T_INT"), (1, u "T_LONG"), (1, u "SOFT_MAX_ARRAY_LENGTH"), (42, u "([BI[BII)I")] 40

def k12m0 : Method := ⟨"<init>", "()V", ⟨[], none⟩, 2, none⟩
def k12c1 : Code := ⟨8, 8, jdk_48_method_14_code, #[], #[]⟩
def k12m1 : Method := ⟨"mismatch", "([BI[BII)I", ⟨[(.array .byte), .int, (.array .byte), .int, .int], some .int⟩, 9, some k12c1⟩
/-- jdk/internal/util/ArraysSupport -/
def k12 : Class := { plain "jdk/internal/util/ArraysSupport" (some 0) with
  accessFlags := 33
  interfaces := #[]
  cf := some (fileOf pool12 21 #[] #[⟨2, 9, 19, #[]⟩, ⟨9, 149, 337, #[]⟩] 33 16 #[] #[⟨24, 28, 29, #[]⟩, ⟨26, 38, 39, #[]⟩, ⟨25, 121, 25, #[]⟩, ⟨25, 131, 25, #[]⟩, ⟨25, 137, 25, #[]⟩, ⟨25, 143, 25, #[]⟩, ⟨25, 53, 25, #[]⟩, ⟨25, 24, 25, #[]⟩, ⟨25, 162, 25, #[]⟩, ⟨25, 187, 25, #[]⟩, ⟨26, 48, 25, #[]⟩, ⟨25, 277, 25, #[]⟩, ⟨25, 280, 25, #[]⟩, ⟨25, 282, 25, #[]⟩, ⟨25, 284, 25, #[]⟩, ⟨25, 286, 25, #[]⟩, ⟨25, 288, 25, #[]⟩, ⟨25, 290, 25, #[]⟩, ⟨25, 292, 25, #[]⟩, ⟨26, 108, 109, #[]⟩, ⟨25, 294, 25, #[]⟩])
  fields := #[⟨"U", (.object "jdk/internal/misc/Unsafe"), 24, 0, 0⟩, ⟨"BIG_ENDIAN", .boolean, 26, 1, 0⟩, ⟨"LOG2_ARRAY_BOOLEAN_INDEX_SCALE", .int, 25, 2, 0⟩, ⟨"LOG2_ARRAY_BYTE_INDEX_SCALE", .int, 25, 3, 0⟩, ⟨"LOG2_ARRAY_CHAR_INDEX_SCALE", .int, 25, 4, 0⟩, ⟨"LOG2_ARRAY_SHORT_INDEX_SCALE", .int, 25, 5, 0⟩, ⟨"LOG2_ARRAY_INT_INDEX_SCALE", .int, 25, 6, 0⟩, ⟨"LOG2_ARRAY_LONG_INDEX_SCALE", .int, 25, 7, 0⟩, ⟨"LOG2_ARRAY_FLOAT_INDEX_SCALE", .int, 25, 8, 0⟩, ⟨"LOG2_ARRAY_DOUBLE_INDEX_SCALE", .int, 25, 9, 0⟩, ⟨"LOG2_BYTE_BIT_SIZE", .int, 26, 10, 0⟩, ⟨"T_BOOLEAN", .int, 25, 11, 0⟩, ⟨"T_CHAR", .int, 25, 12, 0⟩, ⟨"T_FLOAT", .int, 25, 13, 0⟩, ⟨"T_DOUBLE", .int, 25, 14, 0⟩, ⟨"T_BYTE", .int, 25, 15, 0⟩, ⟨"T_SHORT", .int, 25, 16, 0⟩, ⟨"T_INT", .int, 25, 17, 0⟩, ⟨"T_LONG", .int, 25, 18, 0⟩, ⟨"JLA", (.object "jdk/internal/access/JavaLangAccess"), 26, 19, 0⟩, ⟨"SOFT_MAX_ARRAY_LENGTH", .int, 25, 20, 0⟩]
  methods := #[k12m0, k12m1]
  instanceTypes := #[]
  staticTypes := #[(.object "jdk/internal/misc/Unsafe"), .boolean, .int, .int, .int, .int, .int, .int, .int, .int, .int, .int, .int, .int, .int, .int, .int, .int, .int, (.object "jdk/internal/access/JavaLangAccess"), .int]
  resolved := Array.replicate 378 none
  statics := none }

def pool13 : Array CpInfo := pool [(2, .class_ 4), (1, u "java/lang/Object"), (0, u "<init>"), (0, u "()V"), (1, .class_ 10), (1, u "java/lang/CharacterData")] 75

def k13m0 : Method := ⟨"<init>", "()V", ⟨[], none⟩, 0, none⟩
/-- java/lang/CharacterData -/
def k13 : Class := { plain "java/lang/CharacterData" (some 0) with
  accessFlags := 1056
  interfaces := #[]
  cf := some (fileOf pool13 8 #[] #[⟨0, 5, 6, #[]⟩] 1056 2 #[] #[])
  fields := #[]
  methods := #[k13m0]
  instanceTypes := #[]
  staticTypes := #[]
  resolved := Array.replicate 86 none
  statics := none }

def pool14 : Array CpInfo := pool [(1, .fieldref 2 3), (0, .class_ 4), (0, .nameAndType 5 6), (0, u "java/lang/CharacterDataLatin1"), (0, u "A"), (0, u "[I"), (2, u "B"), (0, u "[C"), (3, u "(I)I"), (0, .methodref 2 16), (0, .nameAndType 17 14), (0, u "getProperties"), (3, u "(I)Z"), (5, u "DIGITS"), (0, u "[B"), (8, u "sharpsMap"), (1, .class_ 41), (1, u "java/lang/CharacterData"), (0, u "<init>"), (0, u "()V"), (3, u "instance"), (0, u "Ljava/lang/CharacterDataLatin1;"), (66, u "equalsIgnoreCase"), (0, u "(BB)Z"), (10, u "isWhitespace")] 13

def k14c0 : Code := ⟨2, 4, jdk_116_method_1_code, #[], #[]⟩
def k14m0 : Method := ⟨"getProperties", "(I)I", ⟨[.int], some .int⟩, 0, some k14c0⟩
def k14c1 : Code := ⟨3, 3, jdk_116_method_22_code, #[], #[]⟩
def k14m1 : Method := ⟨"equalsIgnoreCase", "(BB)Z", ⟨[.byte, .byte], some .boolean⟩, 8, some k14c1⟩
def k14c2 : Code := ⟨2, 3, jdk_116_method_26_code, #[], #[]⟩
def k14m2 : Method := ⟨"isWhitespace", "(I)Z", ⟨[.int], some .boolean⟩, 0, some k14c2⟩
def k14m3 : Method := ⟨"<init>", "()V", ⟨[], none⟩, 2, none⟩
/-- java/lang/CharacterDataLatin1 -/
def k14 : Class := { plain "java/lang/CharacterDataLatin1" (some 13) with
  accessFlags := 32
  interfaces := #[]
  cf := some (fileOf pool14 2 #[] #[⟨0, 17, 14, #[]⟩, ⟨8, 115, 116, #[]⟩, ⟨0, 127, 21, #[]⟩, ⟨2, 42, 43, #[]⟩] 32 39 #[] #[⟨26, 27, 28, #[]⟩, ⟨8, 37, 10, #[]⟩, ⟨24, 47, 48, #[]⟩, ⟨24, 5, 6, #[]⟩, ⟨24, 9, 10, #[]⟩])
  fields := #[⟨"DIGITS", (.array .byte), 26, 0, 0⟩, ⟨"sharpsMap", (.array .char), 8, 1, 0⟩, ⟨"instance", (.object "java/lang/CharacterDataLatin1"), 24, 2, 0⟩, ⟨"A", (.array .int), 24, 3, 0⟩, ⟨"B", (.array .char), 24, 4, 0⟩]
  methods := #[k14m0, k14m1, k14m2, k14m3]
  instanceTypes := #[]
  staticTypes := #[(.array .byte), (.array .char), (.object "java/lang/CharacterDataLatin1"), (.array .int), (.array .char)]
  resolved := Array.replicate 141 none
  statics := some 2 }

def pool15 : Array CpInfo := pool [(2, .class_ 4), (1, u "java/lang/Object"), (0, u "<init>"), (0, u "()V"), (7, .class_ 16), (1, u "java/util/Arrays"), (57, .class_ 76), (1, u "java/util/Arrays$NaturalOrder"), (36, .class_ 115), (1, u "java/util/Arrays$LegacyMergeSort"), (1, u "Z"), (21, u "copyOfRange"), (10, .methodref 151 152), (0, .class_ 153), (0, .nameAndType 154 155), (0, u "java/lang/System"), (0, u "arraycopy"), (0, u "(Ljava/lang/Object;ILjava/lang/Object;II)V"), (148, .methodref 305 306), (0, .class_ 307), (0, .nameAndType 308 309), (0, u "java/lang/Math"), (0, u "min"), (0, u "(II)I"), (29, .methodref 14 340), (0, .nameAndType 341 342), (0, u "copyOfRangeByte"), (0, u "([BII)[B"), (0, .methodref 14 344), (0, .nameAndType 345 346), (0, u "checkLength"), (0, u "(II)V"), (28, .class_ 376), (0, u "java/util/Arrays$ArrayList"), (68, u "$assertionsDisabled"), (269, u "MIN_ARRAY_SORT_GRAN"), (0, u "I"), (2, u "INSERTIONSORT_THRESHOLD"), (255, .class_ 976), (0, u "java/util/Arrays$ArrayItr")] 52

def k15m0 : Method := ⟨"<init>", "()V", ⟨[], none⟩, 2, none⟩
def k15c1 : Code := ⟨4, 2, jdk_65_method_131_code, #[], #[]⟩
def k15m1 : Method := ⟨"checkLength", "(II)V", ⟨[.int, .int], none⟩, 10, some k15c1⟩
def k15c2 : Code := ⟨3, 3, jdk_65_method_132_code, #[], #[]⟩
def k15m2 : Method := ⟨"copyOfRange", "([BII)[B", ⟨[(.array .byte), .int, .int], some (.array .byte)⟩, 9, some k15c2⟩
def k15c3 : Code := ⟨6, 5, jdk_65_method_133_code, #[], #[]⟩
def k15m3 : Method := ⟨"copyOfRangeByte", "([BII)[B", ⟨[(.array .byte), .int, .int], some (.array .byte)⟩, 10, some k15c3⟩
/-- java/util/Arrays -/
def k15 : Class := { plain "java/util/Arrays" (some 0) with
  accessFlags := 49
  interfaces := #[]
  cf := some (fileOf pool15 14 #[.nestMembers #[975, 375, 113, 74]] #[⟨2, 5, 6, #[]⟩, ⟨10, 345, 346, #[]⟩, ⟨9, 139, 342, #[]⟩, ⟨10, 341, 342, #[]⟩] 49 2 #[] #[⟨26, 715, 716, #[]⟩, ⟨26, 719, 716, #[]⟩, ⟨4120, 445, 117, #[]⟩])
  fields := #[⟨"MIN_ARRAY_SORT_GRAN", .int, 26, 0, 0⟩, ⟨"INSERTIONSORT_THRESHOLD", .int, 26, 1, 0⟩, ⟨"$assertionsDisabled", .boolean, 4120, 2, 0⟩]
  methods := #[k15m0, k15m1, k15m2, k15m3]
  instanceTypes := #[]
  staticTypes := #[.int, .int, .boolean]
  resolved := Array.replicate 1029 none
  statics := none }

def pool16 : Array CpInfo := pool [(1, .class_ 2), (0, u "java/lang/Math"), (1, .class_ 6), (1, u "java/lang/Object"), (0, u "<init>"), (0, u "()V"), (89, .class_ 100), (1, u "java/lang/Math$RandomNumberGeneratorHolder"), (71, u "negativeZeroFloatBits"), (0, u "J"), (2, u "negativeZeroDoubleBits"), (24, u "min"), (43, u "$assertionsDisabled"), (0, u "Z"), (88, u "(II)I"), (2, u "twoToTheDoubleScaleDown"), (0, u "D"), (4, u "twoToTheDoubleScaleUp"), (9, u "E"), (3, u "PI"), (2, u "TAU"), (2, u "DEGREES_TO_RADIANS"), (0, u "RADIANS_TO_DEGREES")] 94

def k16m0 : Method := ⟨"<init>", "()V", ⟨[], none⟩, 2, none⟩
def k16c1 : Code := ⟨2, 2, jdk_29_method_69_code, #[], #[]⟩
def k16m1 : Method := ⟨"min", "(II)I", ⟨[.int, .int], some .int⟩, 9, some k16c1⟩
/-- java/lang/Math -/
def k16 : Class := { plain "java/lang/Math" (some 0) with
  accessFlags := 49
  interfaces := #[]
  cf := some (fileOf pool16 1 #[.nestMembers #[98]] #[⟨2, 7, 8, #[]⟩, ⟨9, 201, 335, #[]⟩] 49 4 #[] #[⟨25, 354, 339, #[]⟩, ⟨25, 358, 339, #[]⟩, ⟨25, 361, 339, #[]⟩, ⟨26, 364, 339, #[]⟩, ⟨26, 365, 339, #[]⟩, ⟨26, 172, 173, #[]⟩, ⟨26, 176, 173, #[]⟩, ⟨8, 344, 339, #[]⟩, ⟨8, 338, 339, #[]⟩, ⟨4120, 245, 246, #[]⟩])
  fields := #[⟨"E", .double, 25, 0, 0⟩, ⟨"PI", .double, 25, 1, 0⟩, ⟨"TAU", .double, 25, 2, 0⟩, ⟨"DEGREES_TO_RADIANS", .double, 26, 3, 0⟩, ⟨"RADIANS_TO_DEGREES", .double, 26, 4, 0⟩, ⟨"negativeZeroFloatBits", .long, 26, 5, 0⟩, ⟨"negativeZeroDoubleBits", .long, 26, 6, 0⟩, ⟨"twoToTheDoubleScaleUp", .double, 8, 7, 0⟩, ⟨"twoToTheDoubleScaleDown", .double, 8, 8, 0⟩, ⟨"$assertionsDisabled", .boolean, 4120, 9, 0⟩]
  methods := #[k16m0, k16m1]
  instanceTypes := #[]
  staticTypes := #[.double, .double, .double, .double, .double, .long, .long, .double, .double, .boolean]
  resolved := Array.replicate 460 none
  statics := none }

def pool17 : Array CpInfo := pool [(2, .class_ 4), (1, u "java/lang/Object"), (0, u "<init>"), (0, u "()V"), (1, .class_ 10), (1, u "java/lang/System"), (0, u "allowSecurityManager"), (0, u "I"), (16, u "cons"), (0, u "Ljava/io/Console;"), (77, .class_ 110), (1, u "java/lang/System$CallersHolder"), (43, u "initialErrStream"), (0, u "Ljava/io/PrintStream;"), (19, u "security"), (0, u "Ljava/lang/SecurityManager;"), (31, .class_ 209), (0, u "java/lang/System$1"), (7, u "props"), (0, u "Ljava/util/Properties;"), (2, u "lineSeparator"), (0, u "Ljava/lang/String;"), (96, .class_ 321), (1, u "java/lang/System$LoggerFinder"), (5, .class_ 328), (0, u "java/lang/System$Logger"), (67, u "err"), (2, u "out"), (91, u "notSupportedJnuEncoding"), (15, u "in"), (17, u "initialIn"), (0, u "Ljava/io/InputStream;"), (35, u "bootLayer"), (0, u "Ljava/lang/ModuleLayer;"), (99, .class_ 664), (0, u "java/lang/System$2"), (9, u "NEVER"), (2, u "MAYBE"), (49, u "arraycopy"), (0, u "(Ljava/lang/Object;ILjava/lang/Object;II)V"), (72, .class_ 802), (0, u "java/lang/System$Logger$Level")] 31

def k17m0 : Method := ⟨"<init>", "()V", ⟨[], none⟩, 2, none⟩
def k17m1 : Method := ⟨"arraycopy", "(Ljava/lang/Object;ILjava/lang/Object;II)V", ⟨[(.object "java/lang/Object"), .int, (.object "java/lang/Object"), .int, .int], none⟩, 265, none⟩
/-- java/lang/System -/
def k17 : Class := { plain "java/lang/System" (some 0) with
  accessFlags := 49
  interfaces := #[]
  cf := some (fileOf pool17 8 #[.nestMembers #[319, 327, 801, 108, 663, 208]] #[⟨2, 5, 6, #[]⟩, ⟨265, 727, 728, #[]⟩] 49 2 #[] #[⟨25, 507, 526, #[]⟩, ⟨25, 399, 155, #[]⟩, ⟨25, 396, 155, #[]⟩, ⟨10, 525, 526, #[]⟩, ⟨26, 674, 12, #[]⟩, ⟨26, 677, 12, #[]⟩, ⟨10, 11, 12, #[]⟩, ⟨74, 175, 176, #[]⟩, ⟨10, 491, 222, #[]⟩, ⟨74, 29, 30, #[]⟩, ⟨74, 154, 155, #[]⟩, ⟨10, 217, 218, #[]⟩, ⟨10, 221, 222, #[]⟩, ⟨8, 562, 563, #[]⟩])
  fields := #[⟨"in", (.object "java/io/InputStream"), 25, 0, 0⟩, ⟨"out", (.object "java/io/PrintStream"), 25, 1, 0⟩, ⟨"err", (.object "java/io/PrintStream"), 25, 2, 0⟩, ⟨"initialIn", (.object "java/io/InputStream"), 10, 3, 0⟩, ⟨"NEVER", .int, 26, 4, 0⟩, ⟨"MAYBE", .int, 26, 5, 0⟩, ⟨"allowSecurityManager", .int, 10, 6, 0⟩, ⟨"security", (.object "java/lang/SecurityManager"), 74, 7, 0⟩, ⟨"notSupportedJnuEncoding", (.object "java/lang/String"), 10, 8, 0⟩, ⟨"cons", (.object "java/io/Console"), 74, 9, 0⟩, ⟨"initialErrStream", (.object "java/io/PrintStream"), 74, 10, 0⟩, ⟨"props", (.object "java/util/Properties"), 10, 11, 0⟩, ⟨"lineSeparator", (.object "java/lang/String"), 10, 12, 0⟩, ⟨"bootLayer", (.object "java/lang/ModuleLayer"), 8, 13, 0⟩]
  methods := #[k17m0, k17m1]
  instanceTypes := #[]
  staticTypes := #[(.object "java/io/InputStream"), (.object "java/io/PrintStream"), (.object "java/io/PrintStream"), (.object "java/io/InputStream"), .int, .int, .int, (.object "java/lang/SecurityManager"), (.object "java/lang/String"), (.object "java/io/Console"), (.object "java/io/PrintStream"), (.object "java/util/Properties"), (.object "java/lang/String"), (.object "java/lang/ModuleLayer")]
  resolved := Array.replicate 834 none
  statics := none }

def pool18 : Array CpInfo := pool [(1, u "java/lang/Cloneable"), (0, .class_ 1), (0, u "java/lang/Object"), (0, .class_ 3)] 3

/-- java/lang/Cloneable -/
def k18 : Class := { plain "java/lang/Cloneable" (some 0) with
  accessFlags := 1537
  interfaces := #[]
  cf := some (fileOf pool18 2 #[] #[] 1537 4 #[] #[])
  fields := #[]
  methods := #[]
  instanceTypes := #[]
  staticTypes := #[]
  resolved := Array.replicate 8 none
  statics := none }

/-- the primitive byte -/
def k19 : Class := { plain "byte" none with kind := .primitive 'B', accessFlags := 0x411 }
/-- [B -/
def k20 : Class := { plain "[B" (some 0) with kind := .array 19 .byte, interfaces := #[18, 2], accessFlags := 1041 }

/-- the primitive char -/
def k21 : Class := { plain "char" none with kind := .primitive 'C', accessFlags := 0x411 }
/-- [C -/
def k22 : Class := { plain "[C" (some 0) with kind := .array 21 .char, interfaces := #[18, 2], accessFlags := 1041 }

/-- the primitive int -/
def k23 : Class := { plain "int" none with kind := .primitive 'I', accessFlags := 0x411 }
/-- [I -/
def k24 : Class := { plain "[I" (some 0) with kind := .array 23 .int, interfaces := #[18, 2], accessFlags := 1041 }

def heap : Heap := #[{ cls := 7, slots := #[.long 0, .int 1, .null, .int 0, .null, .int 0, .int 0], vm := .statics 7 },
  { cls := 11, slots := #[.null, .null, .null], vm := .statics 11 },
  { cls := 14, slots := #[.null, .null, .ref 3, .ref 4, .null], vm := .statics 14 },
  { cls := 14, slots := #[], vm := .none },
  { cls := 24, slots := #[.int 1207963663, .int 1207963663, .int 1207963663, .int 1207963663, .int 1207963663, .int 1207963663, .int 1207963663, .int 1207963663, .int 1207963663, .int 1476411407, .int 1342193679, .int 1476411407, .int 1610629135, .int 1342193679, .int 1207963663, .int 1207963663, .int 1207963663, .int 1207963663, .int 1207963663, .int 1207963663, .int 1207963663, .int 1207963663, .int 1207963663, .int 1207963663, .int 1207963663, .int 1207963663, .int 1207963663, .int 1207963663, .int 1342193679, .int 1342193679, .int 1342193679, .int 1476411407, .int 1610629132, .int 1744830488, .int 1744830488, .int 671088664, .int 671113242, .int 671088664, .int 1744830488, .int 1744830488, .int (-402653163), .int (-402653162), .int 1744830488, .int 536870937, .int 939524120, .int 536870932, .int 939524120, .int 939524120, .int 402667017, .int 402667017, .int 402667017, .int 402667017, .int 402667017, .int 402667017, .int 402667017, .int 402667017, .int 402667017, .int 402667017, .int 939524120, .int 1744830488, .int (-402653159), .int 1744830489, .int (-402653159), .int 1744830488, .int 1744830488, .int 8552417, .int 8552417, .int 8552417, .int 8552417, .int 8552417, .int 8552417, .int 8552417, .int 8552417, .int 8552417, .int 8552417, .int 8552417, .int 8552417, .int 8552417, .int 8552417, .int 8552417, .int 8552417, .int 8552417, .int 8552417, .int 8552417, .int 8552417, .int 8552417, .int 8552417, .int 8552417, .int 8552417, .int 8552417, .int 8552417, .int (-402653163), .int 1744830488, .int (-402653162), .int 1744830491, .int 1744850967, .int 1744830491, .int 8486882, .int 8486882, .int 8486882, .int 8486882, .int 8486882, .int 8486882, .int 8486882, .int 8486882, .int 8486882, .int 8486882, .int 8486882, .int 8486882, .int 8486882, .int 8486882, .int 8486882, .int 8486882, .int 8486882, .int 8486882, .int 8486882, .int 8486882, .int 8486882, .int 8486882, .int 8486882, .int 8486882, .int 8486882, .int 8486882, .int (-402653163), .int 1744830489, .int (-402653162), .int 1744830489, .int 1207963663, .int 1207963663, .int 1207963663, .int 1207963663, .int 1207963663, .int 1207963663, .int 1342181391, .int 1207963663, .int 1207963663, .int 1207963663, .int 1207963663, .int 1207963663, .int 1207963663, .int 1207963663, .int 1207963663, .int 1207963663, .int 1207963663, .int 1207963663, .int 1207963663, .int 1207963663, .int 1207963663, .int 1207963663, .int 1207963663, .int 1207963663, .int 1207963663, .int 1207963663, .int 1207963663, .int 1207963663, .int 1207963663, .int 1207963663, .int 1207963663, .int 1207963663, .int 1207963663, .int 939524108, .int 1744830488, .int 671113242, .int 671113242, .int 671113242, .int 671113242, .int 1744830492, .int 1744830488, .int 1744830491, .int 1744830492, .int 28677, .int (-402653155), .int 1744830489, .int 1207963664, .int 1744830492, .int 1744830491, .int 671088668, .int 671088665, .int 402654731, .int 402654731, .int 1744830491, .int 134049794, .int 1744830488, .int 1744830488, .int 1744830491, .int 402654475, .int 28677, .int (-402653154), .int 1744832523, .int 1744832523, .int 1744832523, .int 1744830488, .int 8548353, .int 8548353, .int 8548353, .int 8548353, .int 8548353, .int 8548353, .int 8548353, .int 8548353, .int 8548353, .int 8548353, .int 8548353, .int 8548353, .int 8548353, .int 8548353, .int 8548353, .int 8548353, .int 8548353, .int 8548353, .int 8548353, .int 8548353, .int 8548353, .int 8548353, .int 8548353, .int 1744830489, .int 8548353, .int 8548353, .int 8548353, .int 8548353, .int 8548353, .int 8548353, .int 8548353, .int 134049794, .int 8482818, .int 8482818, .int 8482818, .int 8482818, .int 8482818, .int 8482818, .int 8482818, .int 8482818, .int 8482818, .int 8482818, .int 8482818, .int 8482818, .int 8482818, .int 8482818, .int 8482818, .int 8482818, .int 8482818, .int 8482818, .int 8482818, .int 8482818, .int 8482818, .int 8482818, .int 8482818, .int 1744830489, .int 8482818, .int 8482818, .int 8482818, .int 8482818, .int 8482818, .int 8482818, .int 8482818, .int 102592514], vm := .none }]
def classes : Array Class := #[k0, k1, k2, k3, k4, k5, k6, k7, k8, k9, k10, k11, k12, k13, k14, k15, k16, k17, k18, k19, k20, k21, k22, k23, k24]
def interned : List (Array UInt16 × Addr) := []
def slotsUsed : Nat := 271
def theMethod : MethodId := ⟨1, 1⟩
def args0 : Array Value := #[.int 5, .int 7, .int 70, .int 9]
def aboutOver (below : List Frame) : State where
  vm := { classes := classes, interned := interned.toArray }
  heap := heap
  slotsUsed := slotsUsed
  threads := #[{ frames := .invoking theMethod args0 :: below }]
def below0 : List Frame := [.native { method := ⟨0, 0⟩, args := #[] }]
def about1 : State := aboutOver below0
def p0 : Program := .bare "" "" ""
def e0 : Env := launch0.env 0 0 0
theorem w_frames : about1.frames = Frame.invoking theMethod args0 :: below0 := rfl
theorem w_args : argsFit about1.vm theMethod args0 = true := by decide +kernel
theorem w_heap : heapFits about1 = true := by decide +kernel
theorem w_runnable : about1.curStatus? = some .runnable := by decide +kernel
theorem w_alone : about1.alone = true := by decide +kernel
theorem w_named : about1.methodNamed? x = some theMethod := by decide +kernel
theorem w_hears : about1.hears theMethod below0 = true := by decide +kernel
theorem w_ripe : about1.ripe theMethod args0 below0 = true := by decide +kernel
theorem w_running : about1.status = .running := rfl
theorem w_room : about1.hasRoom e0.platform room_1 = true :=
  launch0.hasRoom_least _ room_1 (by decide +kernel) (by decide +kernel) (by decide +kernel) (by decide +kernel) (by decide +kernel) (by decide +kernel)
theorem allAtoms_all (ts : List Jvm.Cond) (a : Array Jvm.Value) (st : Jvm.State) : (allAtoms ts).before a st = ts.all (fun c => c.before a st) := by
  induction ts with
  | nil => rfl
  | cons c t ih =>
    show (Jvm.Cond.and c (allAtoms t)).before a st = _
    rw [Jvm.Cond.before_and, ih, List.all_cons]
def words1 : List Jvm.Cond := Jvm.Cond.code x code maxLocals ret :: tables_1
/-- a 'code' word, met by the world's own term for the bytes: nothing is compared byte by byte -/
theorem code_word {y : MethodName} {bytes : ByteArray} {mx : Nat} {rt : Option FieldType} {a : Array Value} {s : State} {m : MethodId} {meth : Method} {c : Code} (h1 : s.methodNamed? y = some m) (h2 : s.vm.method? m = some meth) (h3 : meth.code = some c) (h4 : c.code = bytes)
    (h5 : (c.maxLocals == mx && c.exceptionTable.isEmpty && decide (c.maxStack ≤ mostOperands) && decide (meth.sig.returnType = rt) && !meth.locks && decide (parseMethodDescriptor y.desc = some meth.sig)) = true) : (Jvm.Cond.code y bytes mx rt).before a s = true := by
  simp only [Bool.and_eq_true, beq_iff_eq, Bool.not_eq_true', decide_eq_true_eq] at h5
  obtain ⟨⟨⟨⟨⟨g1, g2⟩, g3⟩, g4⟩, g5⟩, g6⟩ := h5
  simp [Cond.before, Cond.holds, Cond.value, h1, h2, h3, h4, g1, g2, g3, g4, g5, g6]
def isCode : Jvm.Cond → Bool
  | .code _ _ _ _ => true
  | _ => false
theorem all_split {L : List Jvm.Cond} {P : Jvm.Cond → Bool} (h1 : L.all (fun c => isCode c || P c) = true) (h2 : ∀ c ∈ L.filter isCode, P c = true) : L.all P = true := by
  refine List.all_eq_true.mpr fun c hc => ?_
  have h := List.all_eq_true.mp h1 c hc
  rcases Bool.eq_false_or_eq_true (isCode c) with hi | hi
  · exact h2 c (List.mem_filter.mpr ⟨hc, hi⟩)
  · simpa [hi] using h
abbrev W_0 : Jvm.Cond := Jvm.Cond.code x code maxLocals ret
abbrev W_1 : Jvm.Cond := Jvm.Cond.code mn_42 method_9_code 2 (some (.object "java/lang/String"))
abbrev W_2 : Jvm.Cond := Jvm.Cond.code mn_9 jdk_42_method_3_code 2 none
abbrev W_3 : Jvm.Cond := Jvm.Cond.code mn_8 jdk_42_method_149_code 6 none
abbrev W_4 : Jvm.Cond := Jvm.Cond.code ({ cls := "java/lang/Object", name := "<init>", desc := "()V" } : Jvm.MethodName) object_method_1_code 1 none
abbrev W_5 : Jvm.Cond := Jvm.Cond.code mn_6 jdk_52_method_16_code 6 (some (.array .byte))
abbrev W_6 : Jvm.Cond := Jvm.Cond.code mn_5 jdk_52_method_21_code 7 (some .int)
abbrev W_7 : Jvm.Cond := Jvm.Cond.code mn_7 jdk_52_method_15_code 2 (some .byte)
abbrev W_8 : Jvm.Cond := Jvm.Cond.code mn_35 prog_1_method_2_code 4 (some (.object "java/lang/String"))
abbrev W_9 : Jvm.Cond := Jvm.Cond.code mn_11 jdk_42_method_54_code 1 (some .int)
abbrev W_10 : Jvm.Cond := Jvm.Cond.code mn_10 jdk_42_method_152_code 1 (some .byte)
abbrev W_11 : Jvm.Cond := Jvm.Cond.code mn_14 jdk_42_method_74_code 9 (some .boolean)
abbrev W_12 : Jvm.Cond := Jvm.Cond.code mn_13 jdk_43_method_30_code 8 (some .boolean)
abbrev W_13 : Jvm.Cond := Jvm.Cond.code mn_24 jdk_42_method_91_code 2 (some (.object "java/lang/String"))
abbrev W_14 : Jvm.Cond := Jvm.Cond.code mn_23 jdk_42_method_92_code 5 (some (.object "java/lang/String"))
abbrev W_15 : Jvm.Cond := Jvm.Cond.code mn_22 jdk_42_method_158_code 3 none
abbrev W_16 : Jvm.Cond := Jvm.Cond.code mn_21 jdk_41_method_12_code 4 (some .int)
abbrev W_17 : Jvm.Cond := Jvm.Cond.code mn_27 jdk_42_method_76_code 2 (some .boolean)
abbrev W_18 : Jvm.Cond := Jvm.Cond.code mn_26 jdk_42_method_75_code 8 (some .boolean)
abbrev W_19 : Jvm.Cond := Jvm.Cond.code mn_25 jdk_48_method_14_code 8 (some .int)
abbrev W_20 : Jvm.Cond := Jvm.Cond.code mn_34 jdk_42_method_114_code 2 (some (.object "java/lang/String"))
abbrev W_21 : Jvm.Cond := Jvm.Cond.code mn_0 jdk_42_method_154_code 1 (some .boolean)
abbrev W_22 : Jvm.Cond := Jvm.Cond.code mn_33 jdk_43_method_39_code 4 (some (.object "java/lang/String"))
abbrev W_23 : Jvm.Cond := Jvm.Cond.code mn_31 jdk_43_method_37_code 4 (some .int)
abbrev W_24 : Jvm.Cond := Jvm.Cond.code mn_28 jdk_43_method_44_code 2 (some .char)
abbrev W_25 : Jvm.Cond := Jvm.Cond.code mn_30 jdk_116_method_26_code 3 (some .boolean)
abbrev W_26 : Jvm.Cond := Jvm.Cond.code mn_29 jdk_116_method_1_code 4 (some .int)
abbrev W_27 : Jvm.Cond := Jvm.Cond.code mn_32 jdk_43_method_38_code 4 (some .int)
abbrev W_28 : Jvm.Cond := Jvm.Cond.code mn_20 jdk_43_method_47_code 3 (some (.object "java/lang/String"))
abbrev W_29 : Jvm.Cond := Jvm.Cond.code mn_18 jdk_65_method_132_code 3 (some (.array .byte))
abbrev W_30 : Jvm.Cond := Jvm.Cond.code mn_17 jdk_65_method_133_code 5 (some (.array .byte))
abbrev W_31 : Jvm.Cond := Jvm.Cond.code mn_16 jdk_65_method_131_code 2 none
abbrev W_32 : Jvm.Cond := Jvm.Cond.code mn_15 jdk_29_method_69_code 2 (some .int)
abbrev W_33 : Jvm.Cond := Jvm.Cond.code mn_19 jdk_42_method_151_code 3 none
abbrev W_34 : Jvm.Cond := Jvm.Cond.code mn_39 method_5_code 4 (some .int)
abbrev W_35 : Jvm.Cond := Jvm.Cond.code mn_36 method_4_code 1 (some .boolean)
abbrev W_36 : Jvm.Cond := Jvm.Cond.code mn_40 method_6_code 4 (some .int)
abbrev W_37 : Jvm.Cond := Jvm.Cond.code mn_41 method_3_code 4 (some .boolean)
abbrev W_38 : Jvm.Cond := Jvm.Cond.code mn_4 jdk_42_method_56_code 2 (some .char)
abbrev W_39 : Jvm.Cond := Jvm.Cond.code mn_3 jdk_43_method_2_code 2 (some .char)
abbrev W_40 : Jvm.Cond := Jvm.Cond.code mn_2 jdk_42_method_155_code 2 none
abbrev W_41 : Jvm.Cond := Jvm.Cond.code mn_1 jdk_41_method_11_code 3 (some .int)
abbrev W_42 : Jvm.Cond := Jvm.Cond.code mn_37 method_8_code 1 (some .char)
abbrev W_43 : Jvm.Cond := Jvm.Cond.code mn_12 jdk_116_method_22_code 3 (some .boolean)
abbrev W_44 : Jvm.Cond := Jvm.Cond.code mn_38 method_7_code 1 (some .int)
theorem w_c0 : W_0.before args0 about1 = true := code_word (m := ⟨1, 1⟩) (meth := k1m1) (c := k1c1) (by decide +kernel) rfl rfl rfl (by decide +kernel)
theorem w_c1 : W_1.before args0 about1 = true := code_word (m := ⟨1, 8⟩) (meth := k1m8) (c := k1c8) (by decide +kernel) rfl rfl rfl (by decide +kernel)
theorem w_c2 : W_2.before args0 about1 = true := code_word (m := ⟨7, 1⟩) (meth := k7m1) (c := k7c1) (by decide +kernel) rfl rfl rfl (by decide +kernel)
theorem w_c3 : W_3.before args0 about1 = true := code_word (m := ⟨7, 10⟩) (meth := k7m10) (c := k7c10) (by decide +kernel) rfl rfl rfl (by decide +kernel)
theorem w_c4 : W_4.before args0 about1 = true := code_word (m := ⟨0, 0⟩) (meth := k0m0) (c := k0c0) (by decide +kernel) rfl rfl rfl (by decide +kernel)
theorem w_c5 : W_5.before args0 about1 = true := code_word (m := ⟨8, 2⟩) (meth := k8m2) (c := k8c2) (by decide +kernel) rfl rfl rfl (by decide +kernel)
theorem w_c6 : W_6.before args0 about1 = true := code_word (m := ⟨8, 3⟩) (meth := k8m3) (c := k8c3) (by decide +kernel) rfl rfl rfl (by decide +kernel)
theorem w_c7 : W_7.before args0 about1 = true := code_word (m := ⟨8, 1⟩) (meth := k8m1) (c := k8c1) (by decide +kernel) rfl rfl rfl (by decide +kernel)
theorem w_c8 : W_8.before args0 about1 = true := code_word (m := ⟨9, 1⟩) (meth := k9m1) (c := k9c1) (by decide +kernel) rfl rfl rfl (by decide +kernel)
theorem w_c9 : W_9.before args0 about1 = true := code_word (m := ⟨7, 2⟩) (meth := k7m2) (c := k7c2) (by decide +kernel) rfl rfl rfl (by decide +kernel)
theorem w_c10 : W_10.before args0 about1 = true := code_word (m := ⟨7, 12⟩) (meth := k7m12) (c := k7c12) (by decide +kernel) rfl rfl rfl (by decide +kernel)
theorem w_c11 : W_11.before args0 about1 = true := code_word (m := ⟨7, 4⟩) (meth := k7m4) (c := k7c4) (by decide +kernel) rfl rfl rfl (by decide +kernel)
theorem w_c12 : W_12.before args0 about1 = true := code_word (m := ⟨10, 2⟩) (meth := k10m2) (c := k10c2) (by decide +kernel) rfl rfl rfl (by decide +kernel)
theorem w_c13 : W_13.before args0 about1 = true := code_word (m := ⟨7, 7⟩) (meth := k7m7) (c := k7c7) (by decide +kernel) rfl rfl rfl (by decide +kernel)
theorem w_c14 : W_14.before args0 about1 = true := code_word (m := ⟨7, 8⟩) (meth := k7m8) (c := k7c8) (by decide +kernel) rfl rfl rfl (by decide +kernel)
theorem w_c15 : W_15.before args0 about1 = true := code_word (m := ⟨7, 15⟩) (meth := k7m15) (c := k7c15) (by decide +kernel) rfl rfl rfl (by decide +kernel)
theorem w_c16 : W_16.before args0 about1 = true := code_word (m := ⟨11, 2⟩) (meth := k11m2) (c := k11c2) (by decide +kernel) rfl rfl rfl (by decide +kernel)
theorem w_c17 : W_17.before args0 about1 = true := code_word (m := ⟨7, 6⟩) (meth := k7m6) (c := k7c6) (by decide +kernel) rfl rfl rfl (by decide +kernel)
theorem w_c18 : W_18.before args0 about1 = true := code_word (m := ⟨7, 5⟩) (meth := k7m5) (c := k7c5) (by decide +kernel) rfl rfl rfl (by decide +kernel)
theorem w_c19 : W_19.before args0 about1 = true := code_word (m := ⟨12, 1⟩) (meth := k12m1) (c := k12c1) (by decide +kernel) rfl rfl rfl (by decide +kernel)
theorem w_c20 : W_20.before args0 about1 = true := code_word (m := ⟨7, 9⟩) (meth := k7m9) (c := k7c9) (by decide +kernel) rfl rfl rfl (by decide +kernel)
theorem w_c21 : W_21.before args0 about1 = true := code_word (m := ⟨7, 13⟩) (meth := k7m13) (c := k7c13) (by decide +kernel) rfl rfl rfl (by decide +kernel)
theorem w_c22 : W_22.before args0 about1 = true := code_word (m := ⟨10, 5⟩) (meth := k10m5) (c := k10c5) (by decide +kernel) rfl rfl rfl (by decide +kernel)
theorem w_c23 : W_23.before args0 about1 = true := code_word (m := ⟨10, 3⟩) (meth := k10m3) (c := k10c3) (by decide +kernel) rfl rfl rfl (by decide +kernel)
theorem w_c24 : W_24.before args0 about1 = true := code_word (m := ⟨10, 6⟩) (meth := k10m6) (c := k10c6) (by decide +kernel) rfl rfl rfl (by decide +kernel)
theorem w_c25 : W_25.before args0 about1 = true := code_word (m := ⟨14, 2⟩) (meth := k14m2) (c := k14c2) (by decide +kernel) rfl rfl rfl (by decide +kernel)
theorem w_c26 : W_26.before args0 about1 = true := code_word (m := ⟨14, 0⟩) (meth := k14m0) (c := k14c0) (by decide +kernel) rfl rfl rfl (by decide +kernel)
theorem w_c27 : W_27.before args0 about1 = true := code_word (m := ⟨10, 4⟩) (meth := k10m4) (c := k10c4) (by decide +kernel) rfl rfl rfl (by decide +kernel)
theorem w_c28 : W_28.before args0 about1 = true := code_word (m := ⟨10, 7⟩) (meth := k10m7) (c := k10c7) (by decide +kernel) rfl rfl rfl (by decide +kernel)
theorem w_c29 : W_29.before args0 about1 = true := code_word (m := ⟨15, 2⟩) (meth := k15m2) (c := k15c2) (by decide +kernel) rfl rfl rfl (by decide +kernel)
theorem w_c30 : W_30.before args0 about1 = true := code_word (m := ⟨15, 3⟩) (meth := k15m3) (c := k15c3) (by decide +kernel) rfl rfl rfl (by decide +kernel)
theorem w_c31 : W_31.before args0 about1 = true := code_word (m := ⟨15, 1⟩) (meth := k15m1) (c := k15c1) (by decide +kernel) rfl rfl rfl (by decide +kernel)
theorem w_c32 : W_32.before args0 about1 = true := code_word (m := ⟨16, 1⟩) (meth := k16m1) (c := k16c1) (by decide +kernel) rfl rfl rfl (by decide +kernel)
theorem w_c33 : W_33.before args0 about1 = true := code_word (m := ⟨7, 11⟩) (meth := k7m11) (c := k7c11) (by decide +kernel) rfl rfl rfl (by decide +kernel)
theorem w_c34 : W_34.before args0 about1 = true := code_word (m := ⟨1, 4⟩) (meth := k1m4) (c := k1c4) (by decide +kernel) rfl rfl rfl (by decide +kernel)
theorem w_c35 : W_35.before args0 about1 = true := code_word (m := ⟨1, 3⟩) (meth := k1m3) (c := k1c3) (by decide +kernel) rfl rfl rfl (by decide +kernel)
theorem w_c36 : W_36.before args0 about1 = true := code_word (m := ⟨1, 5⟩) (meth := k1m5) (c := k1c5) (by decide +kernel) rfl rfl rfl (by decide +kernel)
theorem w_c37 : W_37.before args0 about1 = true := code_word (m := ⟨1, 2⟩) (meth := k1m2) (c := k1c2) (by decide +kernel) rfl rfl rfl (by decide +kernel)
theorem w_c38 : W_38.before args0 about1 = true := code_word (m := ⟨7, 3⟩) (meth := k7m3) (c := k7c3) (by decide +kernel) rfl rfl rfl (by decide +kernel)
theorem w_c39 : W_39.before args0 about1 = true := code_word (m := ⟨10, 1⟩) (meth := k10m1) (c := k10c1) (by decide +kernel) rfl rfl rfl (by decide +kernel)
theorem w_c40 : W_40.before args0 about1 = true := code_word (m := ⟨7, 14⟩) (meth := k7m14) (c := k7c14) (by decide +kernel) rfl rfl rfl (by decide +kernel)
theorem w_c41 : W_41.before args0 about1 = true := code_word (m := ⟨11, 1⟩) (meth := k11m1) (c := k11c1) (by decide +kernel) rfl rfl rfl (by decide +kernel)
theorem w_c42 : W_42.before args0 about1 = true := code_word (m := ⟨1, 7⟩) (meth := k1m7) (c := k1c7) (by decide +kernel) rfl rfl rfl (by decide +kernel)
theorem w_c43 : W_43.before args0 about1 = true := code_word (m := ⟨14, 1⟩) (meth := k14m1) (c := k14c1) (by decide +kernel) rfl rfl rfl (by decide +kernel)
theorem w_c44 : W_44.before args0 about1 = true := code_word (m := ⟨1, 6⟩) (meth := k1m6) (c := k1c6) (by decide +kernel) rfl rfl rfl (by decide +kernel)
def codes1 : List Jvm.Cond := [W_0, W_1, W_2, W_3, W_4, W_5, W_6, W_7, W_8, W_9, W_10, W_11, W_12, W_13, W_14, W_15, W_16, W_17, W_18, W_19, W_20, W_21, W_22, W_23, W_24, W_25, W_26, W_27, W_28, W_29, W_30, W_31, W_32, W_33, W_34, W_35, W_36, W_37, W_38, W_39, W_40, W_41, W_42, W_43, W_44]
theorem codes_eq : words1.filter isCode = codes1 := rfl
theorem w_codes : ∀ c ∈ words1.filter isCode, c.before args0 about1 = true := by
  rw [codes_eq]
  intro c hc
  simp only [codes1, List.mem_cons, List.not_mem_nil, or_false] at hc
  rcases hc with rfl | rfl | rfl | rfl | rfl | rfl | rfl | rfl | rfl | rfl | rfl | rfl | rfl | rfl | rfl | rfl | rfl | rfl | rfl | rfl | rfl | rfl | rfl | rfl | rfl | rfl | rfl | rfl | rfl | rfl | rfl | rfl | rfl | rfl | rfl | rfl | rfl | rfl | rfl | rfl | rfl | rfl | rfl | rfl | rfl
  · exact w_c0
  · exact w_c1
  · exact w_c2
  · exact w_c3
  · exact w_c4
  · exact w_c5
  · exact w_c6
  · exact w_c7
  · exact w_c8
  · exact w_c9
  · exact w_c10
  · exact w_c11
  · exact w_c12
  · exact w_c13
  · exact w_c14
  · exact w_c15
  · exact w_c16
  · exact w_c17
  · exact w_c18
  · exact w_c19
  · exact w_c20
  · exact w_c21
  · exact w_c22
  · exact w_c23
  · exact w_c24
  · exact w_c25
  · exact w_c26
  · exact w_c27
  · exact w_c28
  · exact w_c29
  · exact w_c30
  · exact w_c31
  · exact w_c32
  · exact w_c33
  · exact w_c34
  · exact w_c35
  · exact w_c36
  · exact w_c37
  · exact w_c38
  · exact w_c39
  · exact w_c40
  · exact w_c41
  · exact w_c42
  · exact w_c43
  · exact w_c44
theorem w_t1 : (words1.take 24).all (fun c => isCode c || c.before args0 about1) = true := by decide +kernel
theorem w_t2 : ((words1.drop 24).take 24).all (fun c => isCode c || c.before args0 about1) = true := by decide +kernel
theorem w_t3 : (((words1.drop 24).drop 24).take 24).all (fun c => isCode c || c.before args0 about1) = true := by decide +kernel
theorem w_t4 : ((((words1.drop 24).drop 24).drop 24).take 24).all (fun c => isCode c || c.before args0 about1) = true := by decide +kernel
theorem w_t5 : (((((words1.drop 24).drop 24).drop 24).drop 24).take 24).all (fun c => isCode c || c.before args0 about1) = true := by decide +kernel
theorem w_t6 : ((((((words1.drop 24).drop 24).drop 24).drop 24).drop 24).take 24).all (fun c => isCode c || c.before args0 about1) = true := by decide +kernel
theorem w_t7 : (((((((words1.drop 24).drop 24).drop 24).drop 24).drop 24).drop 24).take 24).all (fun c => isCode c || c.before args0 about1) = true := by decide +kernel
theorem w_t8 : ((((((((words1.drop 24).drop 24).drop 24).drop 24).drop 24).drop 24).drop 24).take 24).all (fun c => isCode c || c.before args0 about1) = true := by decide +kernel
theorem w_t9 : ((((((((words1.drop 24).drop 24).drop 24).drop 24).drop 24).drop 24).drop 24).drop 24).all (fun c => isCode c || c.before args0 about1) = true := by decide +kernel
theorem w_tables : (allAtoms (Jvm.Cond.code x code maxLocals ret :: tables_1)).before args0 about1 = true := by
  rw [allAtoms_all]
  show words1.all (fun c => c.before args0 about1) = true
  refine all_split ?_ w_codes
  rw [← List.take_append_drop 24 words1, List.all_append, w_t1, ← List.take_append_drop 24 (words1.drop 24), List.all_append, w_t2, ← List.take_append_drop 24 ((words1.drop 24).drop 24), List.all_append, w_t3, ← List.take_append_drop 24 (((words1.drop 24).drop 24).drop 24), List.all_append, w_t4, ← List.take_append_drop 24 ((((words1.drop 24).drop 24).drop 24).drop 24), List.all_append, w_t5, ← List.take_append_drop 24 (((((words1.drop 24).drop 24).drop 24).drop 24).drop 24), List.all_append, w_t6, ← List.take_append_drop 24 ((((((words1.drop 24).drop 24).drop 24).drop 24).drop 24).drop 24), List.all_append, w_t7, ← List.take_append_drop 24 (((((((words1.drop 24).drop 24).drop 24).drop 24).drop 24).drop 24).drop 24), List.all_append, w_t8, w_t9]
  rfl
theorem w_rest : rest_1_c.before args0 about1 = true := by decide +kernel
theorem w_case : (Jvm.Cond.and given_1 narrow_1).before args0 about1 = true := by decide +kernel
theorem w_consts : constsHeld consts_1 about1 := Jvm.Lit.constsHeldB_iff.mp (by decide +kernel)
theorem w_applies : (headSpec (Jvm.Cond.code x code maxLocals ret :: tables_1) room_1).applies x e0.platform about1 = true :=
  (Spec.applies_iff w_frames).mpr ⟨w_running, w_runnable, w_alone, w_named, w_hears, w_ripe, w_room, w_tables⟩
theorem atStart : AtStart classFile x code maxLocals ret World_1 tables_1 room_1 Calls_1 rest_1 Pre_1 launch0 p0 e0 about1 theMethod args0 below0 :=
  ⟨lists_1, trivial, launch0.admits_env _ _ _, launch0.least_env, fairChoices_fair.cas, fairChoices_fair.clock, w_frames, w_args, w_heap, w_applies, ⟨w_consts, trivial⟩, w_rest, w_case⟩
end start1
theorem witness_1 : WitnessClaimed_1 := ⟨start1.p0, start1.e0, start1.about1, start1.theMethod, start1.args0, start1.below0, start1.atStart⟩
end Jvm.Pilot.@@N@@
