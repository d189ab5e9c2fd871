import JvmDerived
import JvmDerived.Pilot.@@N@@Statement
import JvmDerived.Pilot.@@N@@Code
set_option linter.unusedVariables false
set_option linter.unusedSimpArgs false
namespace Jvm.RoadKit
open Sem ClassFile Op Lib Jvm.Stand Jvm.Free Jvm.LawKit
section New
variable {p : Program} {l : Launch} {e : Env} {R : Room} {s : State} {m : MethodId} {args : Array Value} {below : List Frame} {meth : Method} {c : Code} {T : State} {locs : List Loc} {cells slots : Nat}
theorem retI (X : Stand p l e R s m args below meth c T locs cells slots) (hx : p.tables.exec = Jvm.exec) {pc : Nat} {Ls : Array Slot} {z : Int32} {rest : List Value} (hret : meth.sig.returnType = some .int) (hd : decode c.code pc = .ok (.ireturn, 1)) {fs : List Frame}
    (hl : ∀ (f : JFrame) (acts : List Action), f.method = m → f.locked = none → f.entered = [] → (doReturn e (T.setTop f) acts (some (.int z))).1 = T.setFrames fs) : Steps p.tables e below (T.setTop (mkF m pc Ls (.int z :: rest))) (T.setFrames fs) := by
  have hm' : T.vm.method? m = some meth := X.method'
  have hn : narrow .int (.int z) = .int z := rfl
  show Steps p.tables e below (T.setTop { method := m, pc := pc, locals := Ls, stack := _ :: rest, locked := none }) _
  jvm_step X.here [X.here.top, hx, hd, hm', hret, hn]
  first | (intro acts; rw [hl _ acts rfl rfl rfl]) | rw [hl _ _ rfl rfl rfl]
  exact Steps.refl _
abbrev vI (x : Int32) : Slot := .val (.int x)
abbrev vJ (x : Int64) : Slot := .val (.long x)
abbrev vR (x : Addr) : Slot := .val (.ref x)
abbrev iI (x : Int32) : Value := .int x
abbrev iJ (x : Int64) : Value := .long x
abbrev iR (x : Addr) : Value := .ref x
/-- from one frame to another over the same heap -/
def own_Mid (X : Stand p l e R s m args below meth c T locs cells slots) (h : Heap) (F F' : JFrame) : Prop :=
  ∃ T', Stand p l e R s m args below meth c T' locs cells slots ∧ T'.heap = h ∧ ∀ t, Steps p.tables e below (T'.setTop F') t → Steps p.tables e below (T.setTop F) t
end New
end Jvm.RoadKit
namespace Jvm.Pilot.@@N@@
open Jvm Jvm.ClassFile Sem Op Lib Jvm.Free Jvm.Stand Jvm.LawKit Jvm.RoadKit Bundle Jvm.Pilot.@@N@@.Jvm.D
theorem pd_0 : parseMethodDescriptor "([CI[BII)I" = some ⟨[(.array .char), .int, (.array .byte), .int, .int], some .int⟩ := by decide +kernel
theorem pd_1 : parseMethodDescriptor "([CII)[B" = some ⟨[(.array .char), .int, .int], some (.array .byte)⟩ := by decide +kernel
theorem pd_2 : parseMethodDescriptor "([BI)B" = some ⟨[(.array .byte), .int], some .byte⟩ := by decide +kernel
theorem pd_3 : parseMethodDescriptor "([CIILjava/lang/Void;)V" = some ⟨[(.array .char), .int, .int, (.object "java/lang/Void")], none⟩ := by decide +kernel
theorem pd_4 : parseMethodDescriptor "([B[B)Z" = some ⟨[(.array .byte), (.array .byte)], some .boolean⟩ := by decide +kernel
theorem pd_5 : parseMethodDescriptor "()[Lcom/example/plainjson/cli/Command;" = some ⟨[], some (.array (.object "com/example/plainjson/cli/Command"))⟩ := by decide +kernel
theorem pd_6 : parseMethodDescriptor "(Ljava/lang/Object;)Z" = some ⟨[(.object "java/lang/Object")], some .boolean⟩ := by decide +kernel
theorem pd_7 : parseMethodDescriptor "([C)V" = some ⟨[(.array .char)], none⟩ := by decide +kernel
theorem pd_8 : parseMethodDescriptor "(Ljava/lang/String;)Lcom/example/plainjson/cli/Command;" = some ⟨[(.object "java/lang/String")], some (.object "com/example/plainjson/cli/Command")⟩ := by decide +kernel

theorem own_fldEq {s : State} {args : Array Value} {t : Term} {a : Addr} {C n d : String} {k : Int32} (ht : t.eval args s none [] s = some (.ref a)) (h : (Jvm.Cond.eq (Term.field t C n d) (Term.int k)).value args s none s [] = some true) : Fld s s.heap a C n d (.int k) := by
  obtain ⟨x, y, e1, e2, -, -⟩ := cmp_v (Or.inl h)
  have e3 : (Term.int k).eval args s none [] s = some (.int k) := Term.int_eval k
  obtain rfl : y = .int k := Option.some.inj (e2.symm.trans e3)
  have hx : x = .int k := by
    simp only [Cond.value, e1, e2] at h
    cases x <;> simp at h
    rw [h]
  subst hx
  exact Fld.start ((fld_at ht).symm.trans e1)

theorem own_rem (x y : Int32) (d : Int) (hy : y.toInt = d) (hd : 0 < d) : 0 ≤ ((x &&& 2147483647) % y).toInt ∧ ((x &&& 2147483647) % y).toInt < d := by
  have h0 : 0 ≤ (x &&& 2147483647).toInt := (c_and x 2147483647 (by decide)).1
  rw [(c_irem (x &&& 2147483647) y d hy).1 h0]
  exact ⟨Int.emod_nonneg _ (by omega), Int.emod_lt_of_pos _ hd⟩

theorem own_small3 (v : Int32) (h0 : 0 ≤ v.toInt) (h1 : v.toInt < 3) : v = 0 ∨ v = 1 ∨ v = 2 := by
  have h : v.toInt = 0 ∨ v.toInt = 1 ∨ v.toInt = 2 := by omega
  rcases h with h | h | h
  · exact Or.inl (Int32.toInt_inj.mp (h.trans (by decide)))
  · exact Or.inr (Or.inl (Int32.toInt_inj.mp (h.trans (by decide))))
  · exact Or.inr (Or.inr ((Int32.toInt_inj.mp (h.trans (by decide)))))

theorem own_eqInt {args : Array Value} {s : State} {idx : List Nat} {t : Term} {k : Int32} {x : Value} (e1 : t.eval args s none idx s = some x) (h : (Jvm.Cond.eq t (Term.int k)).value args s none s idx = some true) : x = .int k := by
  have e2 : (Term.int k).eval args s none idx s = some (.int k) := Term.int_eval k
  simp only [Cond.value, e1, e2] at h
  cases x <;> simp at h
  rw [h]
theorem own_len {args : Array Value} {s : State} {t : Term} {a : Addr} {cl : Cell} {ty : FieldType} {n : Int32} (ht : t.eval args s none [] s = some (.ref a)) (A : Arr s s.heap a cl ty) (h : (Jvm.Cond.eq (Term.length t) (Term.int n)).value args s none s [] = some true) : cl.slots.size < 2 ^ 31 ∧ cl.slots.size.toInt32 = n := by
  obtain ⟨x, y, e1, e2, -, -⟩ := cmp_v (Or.inl h)
  have hx := own_eqInt e1 h
  have ha : s.arrayAt? a = some cl := A.fin (Vm.Alike.refl _)
  by_cases hl : cl.slots.size < 2 ^ 31
  · have e3 := len_f (first := s) (o := none) (idx := []) ht ha hl
    have e4 := Option.some.inj (e3.symm.trans e1)
    rw [hx] at e4
    exact ⟨hl, Value.int.inj e4⟩
  · simp [Term.eval, ht, ha, hl] at e1
theorem own_elem {args : Array Value} {s : State} {idx : List Nat} {t k : Term} {a : Addr} {cl : Cell} {j b : Int32} (ht : t.eval args s none idx s = some (.ref a)) (hj : k.eval args s none idx s = some (.int j)) (hc : s.heap[a]? = some cl) (h : (Jvm.Cond.eq (Term.elem t k) (Term.int b)).value args s none s idx = some true) : cl.slots[j.toNatClampNeg]? = some (.int b) := by
  obtain ⟨x, y, e1, e2, -, -⟩ := cmp_v (Or.inl h)
  have hx := own_eqInt e1 h
  rw [← hx]
  exact (elem_in e1 ht hj hc).2
theorem own_or {args : Array Value} {s : State} {idx : List Nat} {c d : Jvm.Cond} (h : (Jvm.Cond.or c d).value args s none s idx = some true) : c.value args s none s idx = some true ∨ d.value args s none s idx = some true := by
  cases hc : c.value args s none s idx with
  | none => simp [Cond.value, hc] at h
  | some b =>
    cases b
    · rw [Cond.or_of_right hc] at h; exact Or.inr h
    · exact Or.inl rfl

theorem d5_0 : decode jdk_52_method_21_code 0 = .ok (.iconst 0, 1) := by decide +kernel
theorem d5_1 : decode jdk_52_method_21_code 1 = .ok (.istore 5, 2) := by decide +kernel
theorem d5_3 : decode jdk_52_method_21_code 3 = .ok (.iload 5, 2) := by decide +kernel
theorem d5_5 : decode jdk_52_method_21_code 5 = .ok (.iload 4, 2) := by decide +kernel
theorem d5_7 : decode jdk_52_method_21_code 7 = .ok (.if_icmp .ge 37, 3) := by decide +kernel
theorem d5_10 : decode jdk_52_method_21_code 10 = .ok (.aload_n 0, 1) := by decide +kernel
theorem d5_11 : decode jdk_52_method_21_code 11 = .ok (.iload_n 1, 1) := by decide +kernel
theorem d5_12 : decode jdk_52_method_21_code 12 = .ok (.caload, 1) := by decide +kernel
theorem d5_13 : decode jdk_52_method_21_code 13 = .ok (.istore 6, 2) := by decide +kernel
theorem d5_15 : decode jdk_52_method_21_code 15 = .ok (.iload 6, 2) := by decide +kernel
theorem d5_17 : decode jdk_52_method_21_code 17 = .ok (.sipush 255, 3) := by decide +kernel
theorem d5_20 : decode jdk_52_method_21_code 20 = .ok (.if_icmp .le 6, 3) := by decide +kernel
theorem d5_26 : decode jdk_52_method_21_code 26 = .ok (.aload_n 2, 1) := by decide +kernel
theorem d5_27 : decode jdk_52_method_21_code 27 = .ok (.iload_n 3, 1) := by decide +kernel
theorem d5_28 : decode jdk_52_method_21_code 28 = .ok (.iload 6, 2) := by decide +kernel
theorem d5_30 : decode jdk_52_method_21_code 30 = .ok (.i2b, 1) := by decide +kernel
theorem d5_31 : decode jdk_52_method_21_code 31 = .ok (.bastore, 1) := by decide +kernel
theorem d5_32 : decode jdk_52_method_21_code 32 = .ok (.iinc 1 1, 3) := by decide +kernel
theorem d5_35 : decode jdk_52_method_21_code 35 = .ok (.iinc 3 1, 3) := by decide +kernel
theorem d5_38 : decode jdk_52_method_21_code 38 = .ok (.iinc 5 1, 3) := by decide +kernel
theorem d5_41 : decode jdk_52_method_21_code 41 = .ok (.goto (-38), 3) := by decide +kernel
theorem d5_44 : decode jdk_52_method_21_code 44 = .ok (.iload 4, 2) := by decide +kernel
theorem d5_46 : decode jdk_52_method_21_code 46 = .ok (.ireturn, 1) := by decide +kernel
theorem pn_0 : plainName "java/lang/StringUTF16" = true := by first | (simp [plainName, overriddenIn]; done) | decide +kernel
theorem ef_5_VALIDATE (m : MethodId) (x0 : Addr) (x2 : Addr) : entryFrame m #[(.ref x0), (.int (0 : Int32)), (.ref x2), (.int (0 : Int32)), (.int (8 : Int32))] 7 = mkF m 0 #[.val (.ref x0), .val (.int (0 : Int32)), .val (.ref x2), .val (.int (0 : Int32)), .val (.int (8 : Int32)), .unset, .unset] [] := by first | (simp [entryFrame, mkF, argsToLocals, Value.category]; done) | rfl
def Q5_VALIDATE (Z : State) (a1 : Addr) (a3 : Addr) (kc kb : ClassId) (h0 : Heap) (n0 : Nat) (v : Option Value) (h : Heap) (L : List Loc) : Prop := v = some (.int (8 : Int32)) ∧ Fr n0 L ∧ Keep h0 h [a3] ∧ Arv Z h a3 kb .byte (8 : Int32) [(.int (118 : Int32)), (.int (97 : Int32)), (.int (108 : Int32)), (.int (105 : Int32)), (.int (100 : Int32)), (.int (97 : Int32)), (.int (116 : Int32)), (.int (101 : Int32))] (.int (0 : Int32))
set_option maxRecDepth 65536 in
set_option maxHeartbeats 40000000 in
theorem rm5_VALIDATE (l : Launch) (Z : State) (a0 : Array Value) (hw : ∀ d ∈ tables_1, d.before a0 Z = true) (ws : List Jvm.Cond) (a1 : Addr) (a3 : Addr) (kc kb : ClassId) (h0 : Heap) (n0 : Nat) (Z0 : n0 ≤ h0.size) (V_c : Arv Z h0 a1 kc .char (8 : Int32) [(.int (118 : Int32)), (.int (97 : Int32)), (.int (108 : Int32)), (.int (105 : Int32)), (.int (100 : Int32)), (.int (97 : Int32)), (.int (116 : Int32)), (.int (101 : Int32))] (.int (0 : Int32))) (V_b : Arv Z h0 a3 kb .byte (8 : Int32) [(.int (0 : Int32)), (.int (0 : Int32)), (.int (0 : Int32)), (.int (0 : Int32)), (.int (0 : Int32)), (.int (0 : Int32)), (.int (0 : Int32)), (.int (0 : Int32))] (.int (0 : Int32))) (ne_a1_a3 : a1 ≠ a3) (g_a3 : n0 ≤ a3) :
    MetFree l (⟨"java/lang/StringUTF16", "compress", "([CI[BII)I"⟩ : MethodName) (head1 (Jvm.Cond.code (⟨"java/lang/StringUTF16", "compress", "([CI[BII)I"⟩ : MethodName) jdk_52_method_21_code 7 (some .int) :: ws) ({ frames := 0, cells := 0, slots := 0, locals := 0 } : Room)) (fun a U => a = #[(.ref a1), (.int (0 : Int32)), (.ref a3), (.int (0 : Int32)), (.int (8 : Int32))] ∧ Z.Warmed39 U.vm ∧ U.heap = h0) (fun _ _ _ _ _ => True) (fun _ U o U' => ∃ v L, o = .returned v ∧ Q5_VALIDATE Z a1 a3 kc kb h0 n0 v U'.heap L ∧ FrameEnd U o U' L ({ frames := 0, cells := 0, slots := 0, locals := 0 } : Room).cells ({ frames := 0, cells := 0, slots := 0, locals := 0 } : Room).slots) := by
  refine MetFree.of_bodySF (plainFor_of_name pn_0) hisR ?_
  intro p e s m args below meth c s₁ Bd hml0 hP hK
  obtain ⟨rfl, hZ, hh⟩ := hP
  have hx := Bd.exec
  have hby := Bd.bytes
  have hml : c.maxLocals = 7 := hml0
  have hown : s.vm.findClass "java/lang/StringUTF16" = some m.cls := findClass_of_methodNamed Bd.named
  have hnm := (name_of_methodNamed Bd.named Bd.method).1
  have X0 : Stand p l e ({ frames := 0, cells := 0, slots := 0, locals := 0 } : Room) s m #[(.ref a1), (.int (0 : Int32)), (.ref a3), (.int (0 : Int32)), (.int (8 : Int32))] below meth c s₁ [] 0 0 := Stand.of_body Bd
  have e0 : s₁.heap = h0 := by rw [← hh, Bd.state]; rfl
  have N0 := Fr.nil n0
  have K0 := Keep.refl h0 [a3]
  have pre0 : ∀ t, Steps p.tables e below (s₁.setTop (mkF m 0 #[.val (.ref a1), .val (.int (0 : Int32)), .val (.ref a3), .val (.int (0 : Int32)), .val (.int (8 : Int32)), .unset, .unset] [])) t → Steps p.tables e below (s₁.setTop (entryFrame m #[(.ref a1), (.int (0 : Int32)), (.ref a3), (.int (0 : Int32)), (.int (8 : Int32))] 7)) t := fun t k => castTop (ef_5_VALIDATE m a1 a3) k
  obtain ⟨cl1, Ar1, q1, S1, M1, H1, G1⟩ := id V_c
  have hin2 : ¬ ((0 : Int32) < 0 ∨ cl1.slots.size ≤ ((0 : Int32)).toNatClampNeg) := inb_of S1 ⟨by decide, by decide⟩
  have hat3 : cl1.slots[((0 : Int32)).toNatClampNeg]? = some (.int (118 : Int32)) := Has.at H1 hin2 rfl
  obtain ⟨cl4, Ar4, q4, S4, M4, H4, G4⟩ := id V_b
  have hin5 : ¬ ((0 : Int32) < 0 ∨ cl4.slots.size ≤ ((0 : Int32)).toNatClampNeg) := inb_of S4 ⟨by decide, by decide⟩
  obtain ⟨T6, h6, X6, e6, W6, st6⟩ := stB X0 hx hZ e0 Ar4 (j := (0 : Int32)) hin5 (g := (mkF m 31 #[vR a1, vI 0, vR a3, vI 0, vI 8, vI 0, vI 118] [iI 118, iI 0, iR a3])) rfl rfl (hb hby d5_31)
  have V6 : Arv Z h6 a3 kb .byte (8 : Int32) [(.int (118 : Int32)), (.int (0 : Int32)), (.int (0 : Int32)), (.int (0 : Int32)), (.int (0 : Int32)), (.int (0 : Int32)), (.int (0 : Int32)), (.int (0 : Int32))] (.int (0 : Int32)) := Arv.set Ar4 q4 S4 M4 H4 G4 (by decide) W6 0 rfl (Nat.le_of_ble_eq_true rfl)
  have K6 : Keep h0 h6 [a3] := K0.wr W6 (Or.inl (List.mem_of_getElem? (i := 0) rfl))
  have N6 := Fr.snoc X6 N0 g_a3
  have fk7 := (V_c.other W6 ne_a1_a3)
  obtain ⟨cl8, Ar8, q8, S8, M8, H8, G8⟩ := id fk7
  have hin9 : ¬ ((1 : Int32) < 0 ∨ cl8.slots.size ≤ ((1 : Int32)).toNatClampNeg) := inb_of S8 ⟨by decide, by decide⟩
  have hat10 : cl8.slots[((1 : Int32)).toNatClampNeg]? = some (.int (97 : Int32)) := Has.at H8 hin9 rfl
  obtain ⟨cl11, Ar11, q11, S11, M11, H11, G11⟩ := id V6
  have hin12 : ¬ ((1 : Int32) < 0 ∨ cl11.slots.size ≤ ((1 : Int32)).toNatClampNeg) := inb_of S11 ⟨by decide, by decide⟩
  obtain ⟨T13, h13, X13, e13, W13, st13⟩ := stB X6 hx hZ e6 Ar11 (j := (1 : Int32)) hin12 (g := (mkF m 31 #[vR a1, vI 1, vR a3, vI 1, vI 8, vI 1, vI 97] [iI 97, iI 1, iR a3])) rfl rfl (hb hby d5_31)
  have V13 : Arv Z h13 a3 kb .byte (8 : Int32) [(.int (118 : Int32)), (.int (97 : Int32)), (.int (0 : Int32)), (.int (0 : Int32)), (.int (0 : Int32)), (.int (0 : Int32)), (.int (0 : Int32)), (.int (0 : Int32))] (.int (0 : Int32)) := Arv.set Ar11 q11 S11 M11 H11 G11 (by decide) W13 1 rfl (Nat.le_of_ble_eq_true rfl)
  have K13 : Keep h0 h13 [a3] := K6.wr W13 (Or.inl (List.mem_of_getElem? (i := 0) rfl))
  have N13 := Fr.snoc X13 N6 g_a3
  have fk14 := (fk7.other W13 ne_a1_a3)
  obtain ⟨cl15, Ar15, q15, S15, M15, H15, G15⟩ := id fk14
  have hin16 : ¬ ((2 : Int32) < 0 ∨ cl15.slots.size ≤ ((2 : Int32)).toNatClampNeg) := inb_of S15 ⟨by decide, by decide⟩
  have hat17 : cl15.slots[((2 : Int32)).toNatClampNeg]? = some (.int (108 : Int32)) := Has.at H15 hin16 rfl
  obtain ⟨cl18, Ar18, q18, S18, M18, H18, G18⟩ := id V13
  have hin19 : ¬ ((2 : Int32) < 0 ∨ cl18.slots.size ≤ ((2 : Int32)).toNatClampNeg) := inb_of S18 ⟨by decide, by decide⟩
  obtain ⟨T20, h20, X20, e20, W20, st20⟩ := stB X13 hx hZ e13 Ar18 (j := (2 : Int32)) hin19 (g := (mkF m 31 #[vR a1, vI 2, vR a3, vI 2, vI 8, vI 2, vI 108] [iI 108, iI 2, iR a3])) rfl rfl (hb hby d5_31)
  have V20 : Arv Z h20 a3 kb .byte (8 : Int32) [(.int (118 : Int32)), (.int (97 : Int32)), (.int (108 : Int32)), (.int (0 : Int32)), (.int (0 : Int32)), (.int (0 : Int32)), (.int (0 : Int32)), (.int (0 : Int32))] (.int (0 : Int32)) := Arv.set Ar18 q18 S18 M18 H18 G18 (by decide) W20 2 rfl (Nat.le_of_ble_eq_true rfl)
  have K20 : Keep h0 h20 [a3] := K13.wr W20 (Or.inl (List.mem_of_getElem? (i := 0) rfl))
  have N20 := Fr.snoc X20 N13 g_a3
  have fk21 := (fk14.other W20 ne_a1_a3)
  obtain ⟨cl22, Ar22, q22, S22, M22, H22, G22⟩ := id fk21
  have hin23 : ¬ ((3 : Int32) < 0 ∨ cl22.slots.size ≤ ((3 : Int32)).toNatClampNeg) := inb_of S22 ⟨by decide, by decide⟩
  have hat24 : cl22.slots[((3 : Int32)).toNatClampNeg]? = some (.int (105 : Int32)) := Has.at H22 hin23 rfl
  obtain ⟨cl25, Ar25, q25, S25, M25, H25, G25⟩ := id V20
  have hin26 : ¬ ((3 : Int32) < 0 ∨ cl25.slots.size ≤ ((3 : Int32)).toNatClampNeg) := inb_of S25 ⟨by decide, by decide⟩
  obtain ⟨T27, h27, X27, e27, W27, st27⟩ := stB X20 hx hZ e20 Ar25 (j := (3 : Int32)) hin26 (g := (mkF m 31 #[vR a1, vI 3, vR a3, vI 3, vI 8, vI 3, vI 105] [iI 105, iI 3, iR a3])) rfl rfl (hb hby d5_31)
  have V27 : Arv Z h27 a3 kb .byte (8 : Int32) [(.int (118 : Int32)), (.int (97 : Int32)), (.int (108 : Int32)), (.int (105 : Int32)), (.int (0 : Int32)), (.int (0 : Int32)), (.int (0 : Int32)), (.int (0 : Int32))] (.int (0 : Int32)) := Arv.set Ar25 q25 S25 M25 H25 G25 (by decide) W27 3 rfl (Nat.le_of_ble_eq_true rfl)
  have K27 : Keep h0 h27 [a3] := K20.wr W27 (Or.inl (List.mem_of_getElem? (i := 0) rfl))
  have N27 := Fr.snoc X27 N20 g_a3
  have fk28 := (fk21.other W27 ne_a1_a3)
  obtain ⟨cl29, Ar29, q29, S29, M29, H29, G29⟩ := id fk28
  have hin30 : ¬ ((4 : Int32) < 0 ∨ cl29.slots.size ≤ ((4 : Int32)).toNatClampNeg) := inb_of S29 ⟨by decide, by decide⟩
  have hat31 : cl29.slots[((4 : Int32)).toNatClampNeg]? = some (.int (100 : Int32)) := Has.at H29 hin30 rfl
  obtain ⟨cl32, Ar32, q32, S32, M32, H32, G32⟩ := id V27
  have hin33 : ¬ ((4 : Int32) < 0 ∨ cl32.slots.size ≤ ((4 : Int32)).toNatClampNeg) := inb_of S32 ⟨by decide, by decide⟩
  obtain ⟨T34, h34, X34, e34, W34, st34⟩ := stB X27 hx hZ e27 Ar32 (j := (4 : Int32)) hin33 (g := (mkF m 31 #[vR a1, vI 4, vR a3, vI 4, vI 8, vI 4, vI 100] [iI 100, iI 4, iR a3])) rfl rfl (hb hby d5_31)
  have V34 : Arv Z h34 a3 kb .byte (8 : Int32) [(.int (118 : Int32)), (.int (97 : Int32)), (.int (108 : Int32)), (.int (105 : Int32)), (.int (100 : Int32)), (.int (0 : Int32)), (.int (0 : Int32)), (.int (0 : Int32))] (.int (0 : Int32)) := Arv.set Ar32 q32 S32 M32 H32 G32 (by decide) W34 4 rfl (Nat.le_of_ble_eq_true rfl)
  have K34 : Keep h0 h34 [a3] := K27.wr W34 (Or.inl (List.mem_of_getElem? (i := 0) rfl))
  have N34 := Fr.snoc X34 N27 g_a3
  have fk35 := (fk28.other W34 ne_a1_a3)
  obtain ⟨cl36, Ar36, q36, S36, M36, H36, G36⟩ := id fk35
  have hin37 : ¬ ((5 : Int32) < 0 ∨ cl36.slots.size ≤ ((5 : Int32)).toNatClampNeg) := inb_of S36 ⟨by decide, by decide⟩
  have hat38 : cl36.slots[((5 : Int32)).toNatClampNeg]? = some (.int (97 : Int32)) := Has.at H36 hin37 rfl
  obtain ⟨cl39, Ar39, q39, S39, M39, H39, G39⟩ := id V34
  have hin40 : ¬ ((5 : Int32) < 0 ∨ cl39.slots.size ≤ ((5 : Int32)).toNatClampNeg) := inb_of S39 ⟨by decide, by decide⟩
  obtain ⟨T41, h41, X41, e41, W41, st41⟩ := stB X34 hx hZ e34 Ar39 (j := (5 : Int32)) hin40 (g := (mkF m 31 #[vR a1, vI 5, vR a3, vI 5, vI 8, vI 5, vI 97] [iI 97, iI 5, iR a3])) rfl rfl (hb hby d5_31)
  have V41 : Arv Z h41 a3 kb .byte (8 : Int32) [(.int (118 : Int32)), (.int (97 : Int32)), (.int (108 : Int32)), (.int (105 : Int32)), (.int (100 : Int32)), (.int (97 : Int32)), (.int (0 : Int32)), (.int (0 : Int32))] (.int (0 : Int32)) := Arv.set Ar39 q39 S39 M39 H39 G39 (by decide) W41 5 rfl (Nat.le_of_ble_eq_true rfl)
  have K41 : Keep h0 h41 [a3] := K34.wr W41 (Or.inl (List.mem_of_getElem? (i := 0) rfl))
  have N41 := Fr.snoc X41 N34 g_a3
  have fk42 := (fk35.other W41 ne_a1_a3)
  obtain ⟨cl43, Ar43, q43, S43, M43, H43, G43⟩ := id fk42
  have hin44 : ¬ ((6 : Int32) < 0 ∨ cl43.slots.size ≤ ((6 : Int32)).toNatClampNeg) := inb_of S43 ⟨by decide, by decide⟩
  have hat45 : cl43.slots[((6 : Int32)).toNatClampNeg]? = some (.int (116 : Int32)) := Has.at H43 hin44 rfl
  obtain ⟨cl46, Ar46, q46, S46, M46, H46, G46⟩ := id V41
  have hin47 : ¬ ((6 : Int32) < 0 ∨ cl46.slots.size ≤ ((6 : Int32)).toNatClampNeg) := inb_of S46 ⟨by decide, by decide⟩
  obtain ⟨T48, h48, X48, e48, W48, st48⟩ := stB X41 hx hZ e41 Ar46 (j := (6 : Int32)) hin47 (g := (mkF m 31 #[vR a1, vI 6, vR a3, vI 6, vI 8, vI 6, vI 116] [iI 116, iI 6, iR a3])) rfl rfl (hb hby d5_31)
  have V48 : Arv Z h48 a3 kb .byte (8 : Int32) [(.int (118 : Int32)), (.int (97 : Int32)), (.int (108 : Int32)), (.int (105 : Int32)), (.int (100 : Int32)), (.int (97 : Int32)), (.int (116 : Int32)), (.int (0 : Int32))] (.int (0 : Int32)) := Arv.set Ar46 q46 S46 M46 H46 G46 (by decide) W48 6 rfl (Nat.le_of_ble_eq_true rfl)
  have K48 : Keep h0 h48 [a3] := K41.wr W48 (Or.inl (List.mem_of_getElem? (i := 0) rfl))
  have N48 := Fr.snoc X48 N41 g_a3
  have fk49 := (fk42.other W48 ne_a1_a3)
  obtain ⟨cl50, Ar50, q50, S50, M50, H50, G50⟩ := id fk49
  have hin51 : ¬ ((7 : Int32) < 0 ∨ cl50.slots.size ≤ ((7 : Int32)).toNatClampNeg) := inb_of S50 ⟨by decide, by decide⟩
  have hat52 : cl50.slots[((7 : Int32)).toNatClampNeg]? = some (.int (101 : Int32)) := Has.at H50 hin51 rfl
  obtain ⟨cl53, Ar53, q53, S53, M53, H53, G53⟩ := id V48
  have hin54 : ¬ ((7 : Int32) < 0 ∨ cl53.slots.size ≤ ((7 : Int32)).toNatClampNeg) := inb_of S53 ⟨by decide, by decide⟩
  obtain ⟨T55, h55, X55, e55, W55, st55⟩ := stB X48 hx hZ e48 Ar53 (j := (7 : Int32)) hin54 (g := (mkF m 31 #[vR a1, vI 7, vR a3, vI 7, vI 8, vI 7, vI 101] [iI 101, iI 7, iR a3])) rfl rfl (hb hby d5_31)
  have V55 : Arv Z h55 a3 kb .byte (8 : Int32) [(.int (118 : Int32)), (.int (97 : Int32)), (.int (108 : Int32)), (.int (105 : Int32)), (.int (100 : Int32)), (.int (97 : Int32)), (.int (116 : Int32)), (.int (101 : Int32))] (.int (0 : Int32)) := Arv.set Ar53 q53 S53 M53 H53 G53 (by decide) W55 7 rfl (Nat.le_of_ble_eq_true rfl)
  have K55 : Keep h0 h55 [a3] := K48.wr W55 (Or.inl (List.mem_of_getElem? (i := 0) rfl))
  have N55 := Fr.snoc X55 N48 g_a3
  obtain ⟨fs, hr, hrun, hended, hW, hsame⟩ := X55.leave (v := some (.int (8 : Int32))) (fun h => by rw [Bd.returns] at h; cases h)
  refine ⟨_, _, pre0 _ ?_, hrun, hended, _, _, rfl, ?_, ⟨_, rfl⟩, hW, hsame.mono (by decide) (by decide)⟩
  · show Steps _ _ _ (s₁.setTop (mkF m 0 #[vR a1, vI 0, vR a3, vI 0, vI 8, .unset, .unset] [])) _
    refine XS.iconst X0.here hx rfl (hb hby d5_0) ?_
    show Steps _ _ _ (s₁.setTop (mkF m 1 #[vR a1, vI 0, vR a3, vI 0, vI 8, .unset, .unset] [iI 0])) _
    refine XS.istore X0.here hx rfl (hb hby d5_1) rfl (l' := #[vR a1, vI 0, vR a3, vI 0, vI 8, vI 0, .unset]) rfl ?_
    show Steps _ _ _ (s₁.setTop (mkF m 3 #[vR a1, vI 0, vR a3, vI 0, vI 8, vI 0, .unset] [])) _
    refine XS.iload X0.here hx rfl (hb hby d5_3) rfl ?_
    show Steps _ _ _ (s₁.setTop (mkF m 5 #[vR a1, vI 0, vR a3, vI 0, vI 8, vI 0, .unset] [iI 0])) _
    refine XS.iload X0.here hx rfl (hb hby d5_5) rfl ?_
    show Steps _ _ _ (s₁.setTop (mkF m 7 #[vR a1, vI 0, vR a3, vI 0, vI 8, vI 0, .unset] [iI 8, iI 0])) _
    refine XS.icmpNo X0.here hx rfl (hb hby d5_7) rfl (tlt (by decide : (0 : Int32) < (8 : Int32))).2.1 ?_
    show Steps _ _ _ (s₁.setTop (mkF m 10 #[vR a1, vI 0, vR a3, vI 0, vI 8, vI 0, .unset] [])) _
    refine XS.aloadN X0.here hx rfl (hb hby d5_10) rfl rfl ?_
    show Steps _ _ _ (s₁.setTop (mkF m 11 #[vR a1, vI 0, vR a3, vI 0, vI 8, vI 0, .unset] [iR a1])) _
    refine XS.iloadN X0.here hx rfl (hb hby d5_11) rfl ?_
    show Steps _ _ _ (s₁.setTop (mkF m 12 #[vR a1, vI 0, vR a3, vI 0, vI 8, vI 0, .unset] [iI 0, iR a1])) _
    refine X0.caload hx (j := (0 : Int32)) (v := (.int (118 : Int32))) (by rw [e0]; exact Ar1.1) (State.isArrayOf_alike hZ.alike Ar1.2.1) Ar1.2.2 hin2 hat3 (g := (mkF m 12 #[vR a1, vI 0, vR a3, vI 0, vI 8, vI 0, .unset] [iI 0, iR a1])) rfl rfl (hb hby d5_12) _ ?_
    show Steps _ _ _ (s₁.setTop (mkF m 13 #[vR a1, vI 0, vR a3, vI 0, vI 8, vI 0, .unset] [iI 118])) _
    refine XS.istore X0.here hx rfl (hb hby d5_13) rfl (l' := #[vR a1, vI 0, vR a3, vI 0, vI 8, vI 0, vI 118]) rfl ?_
    show Steps _ _ _ (s₁.setTop (mkF m 15 #[vR a1, vI 0, vR a3, vI 0, vI 8, vI 0, vI 118] [])) _
    refine XS.iload X0.here hx rfl (hb hby d5_15) rfl ?_
    show Steps _ _ _ (s₁.setTop (mkF m 17 #[vR a1, vI 0, vR a3, vI 0, vI 8, vI 0, vI 118] [iI 118])) _
    refine XS.sipush X0.here hx rfl (hb hby d5_17) ?_
    show Steps _ _ _ (s₁.setTop (mkF m 20 #[vR a1, vI 0, vR a3, vI 0, vI 8, vI 0, vI 118] [iI 255, iI 118])) _
    refine XS.icmpYes X0.here hx rfl (pc0 := 20) (pc' := 26) rfl (hb hby d5_20) rfl (flt (by decide : ¬ ((255 : Int32) < (118 : Int32)))).2.2.2 (by decide) (by decide) ?_
    show Steps _ _ _ (s₁.setTop (mkF m 26 #[vR a1, vI 0, vR a3, vI 0, vI 8, vI 0, vI 118] [])) _
    refine XS.aloadN X0.here hx rfl (hb hby d5_26) rfl rfl ?_
    show Steps _ _ _ (s₁.setTop (mkF m 27 #[vR a1, vI 0, vR a3, vI 0, vI 8, vI 0, vI 118] [iR a3])) _
    refine XS.iloadN X0.here hx rfl (hb hby d5_27) rfl ?_
    show Steps _ _ _ (s₁.setTop (mkF m 28 #[vR a1, vI 0, vR a3, vI 0, vI 8, vI 0, vI 118] [iI 0, iR a3])) _
    refine XS.iload X0.here hx rfl (hb hby d5_28) rfl ?_
    show Steps _ _ _ (s₁.setTop (mkF m 30 #[vR a1, vI 0, vR a3, vI 0, vI 8, vI 0, vI 118] [iI 118, iI 0, iR a3])) _
    refine XS.i2b X0.here hx rfl (hb hby d5_30) rfl ?_
    rw [(by decide : (118 : Int32).toInt8.toInt32 = (118 : Int32))]
    show Steps _ _ _ (s₁.setTop (mkF m 31 #[vR a1, vI 0, vR a3, vI 0, vI 8, vI 0, vI 118] [iI 118, iI 0, iR a3])) _
    refine st6 _ ?_
    show Steps _ _ _ (T6.setTop (mkF m 32 #[vR a1, vI 0, vR a3, vI 0, vI 8, vI 0, vI 118] [])) _
    refine XS.iinc X6.here hx rfl (hb hby d5_32) rfl (l' := #[vR a1, vI ((0 : Int32) + (1 : Int32)), vR a3, vI 0, vI 8, vI 0, vI 118]) rfl ?_
    rw [(by decide : ((0 : Int32) + (1 : Int32)) = (1 : Int32))]
    show Steps _ _ _ (T6.setTop (mkF m 35 #[vR a1, vI 1, vR a3, vI 0, vI 8, vI 0, vI 118] [])) _
    refine XS.iinc X6.here hx rfl (hb hby d5_35) rfl (l' := #[vR a1, vI 1, vR a3, vI ((0 : Int32) + (1 : Int32)), vI 8, vI 0, vI 118]) rfl ?_
    rw [(by decide : ((0 : Int32) + (1 : Int32)) = (1 : Int32))]
    show Steps _ _ _ (T6.setTop (mkF m 38 #[vR a1, vI 1, vR a3, vI 1, vI 8, vI 0, vI 118] [])) _
    refine XS.iinc X6.here hx rfl (hb hby d5_38) rfl (l' := #[vR a1, vI 1, vR a3, vI 1, vI 8, vI ((0 : Int32) + (1 : Int32)), vI 118]) rfl ?_
    rw [(by decide : ((0 : Int32) + (1 : Int32)) = (1 : Int32))]
    show Steps _ _ _ (T6.setTop (mkF m 41 #[vR a1, vI 1, vR a3, vI 1, vI 8, vI 1, vI 118] [])) _
    refine XS.goto X6.here hx rfl (pc0 := 41) (pc' := 3) rfl (hb hby d5_41) (by decide) (by decide) ?_
    show Steps _ _ _ (T6.setTop (mkF m 3 #[vR a1, vI 1, vR a3, vI 1, vI 8, vI 1, vI 118] [])) _
    refine XS.iload X6.here hx rfl (hb hby d5_3) rfl ?_
    show Steps _ _ _ (T6.setTop (mkF m 5 #[vR a1, vI 1, vR a3, vI 1, vI 8, vI 1, vI 118] [iI 1])) _
    refine XS.iload X6.here hx rfl (hb hby d5_5) rfl ?_
    show Steps _ _ _ (T6.setTop (mkF m 7 #[vR a1, vI 1, vR a3, vI 1, vI 8, vI 1, vI 118] [iI 8, iI 1])) _
    refine XS.icmpNo X6.here hx rfl (hb hby d5_7) rfl (tlt (by decide : (1 : Int32) < (8 : Int32))).2.1 ?_
    show Steps _ _ _ (T6.setTop (mkF m 10 #[vR a1, vI 1, vR a3, vI 1, vI 8, vI 1, vI 118] [])) _
    refine XS.aloadN X6.here hx rfl (hb hby d5_10) rfl rfl ?_
    show Steps _ _ _ (T6.setTop (mkF m 11 #[vR a1, vI 1, vR a3, vI 1, vI 8, vI 1, vI 118] [iR a1])) _
    refine XS.iloadN X6.here hx rfl (hb hby d5_11) rfl ?_
    show Steps _ _ _ (T6.setTop (mkF m 12 #[vR a1, vI 1, vR a3, vI 1, vI 8, vI 1, vI 118] [iI 1, iR a1])) _
    refine X6.caload hx (j := (1 : Int32)) (v := (.int (97 : Int32))) (by rw [e6]; exact Ar8.1) (State.isArrayOf_alike hZ.alike Ar8.2.1) Ar8.2.2 hin9 hat10 (g := (mkF m 12 #[vR a1, vI 1, vR a3, vI 1, vI 8, vI 1, vI 118] [iI 1, iR a1])) rfl rfl (hb hby d5_12) _ ?_
    show Steps _ _ _ (T6.setTop (mkF m 13 #[vR a1, vI 1, vR a3, vI 1, vI 8, vI 1, vI 118] [iI 97])) _
    refine XS.istore X6.here hx rfl (hb hby d5_13) rfl (l' := #[vR a1, vI 1, vR a3, vI 1, vI 8, vI 1, vI 97]) rfl ?_
    show Steps _ _ _ (T6.setTop (mkF m 15 #[vR a1, vI 1, vR a3, vI 1, vI 8, vI 1, vI 97] [])) _
    refine XS.iload X6.here hx rfl (hb hby d5_15) rfl ?_
    show Steps _ _ _ (T6.setTop (mkF m 17 #[vR a1, vI 1, vR a3, vI 1, vI 8, vI 1, vI 97] [iI 97])) _
    refine XS.sipush X6.here hx rfl (hb hby d5_17) ?_
    show Steps _ _ _ (T6.setTop (mkF m 20 #[vR a1, vI 1, vR a3, vI 1, vI 8, vI 1, vI 97] [iI 255, iI 97])) _
    refine XS.icmpYes X6.here hx rfl (pc0 := 20) (pc' := 26) rfl (hb hby d5_20) rfl (flt (by decide : ¬ ((255 : Int32) < (97 : Int32)))).2.2.2 (by decide) (by decide) ?_
    show Steps _ _ _ (T6.setTop (mkF m 26 #[vR a1, vI 1, vR a3, vI 1, vI 8, vI 1, vI 97] [])) _
    refine XS.aloadN X6.here hx rfl (hb hby d5_26) rfl rfl ?_
    show Steps _ _ _ (T6.setTop (mkF m 27 #[vR a1, vI 1, vR a3, vI 1, vI 8, vI 1, vI 97] [iR a3])) _
    refine XS.iloadN X6.here hx rfl (hb hby d5_27) rfl ?_
    show Steps _ _ _ (T6.setTop (mkF m 28 #[vR a1, vI 1, vR a3, vI 1, vI 8, vI 1, vI 97] [iI 1, iR a3])) _
    refine XS.iload X6.here hx rfl (hb hby d5_28) rfl ?_
    show Steps _ _ _ (T6.setTop (mkF m 30 #[vR a1, vI 1, vR a3, vI 1, vI 8, vI 1, vI 97] [iI 97, iI 1, iR a3])) _
    refine XS.i2b X6.here hx rfl (hb hby d5_30) rfl ?_
    rw [(by decide : (97 : Int32).toInt8.toInt32 = (97 : Int32))]
    show Steps _ _ _ (T6.setTop (mkF m 31 #[vR a1, vI 1, vR a3, vI 1, vI 8, vI 1, vI 97] [iI 97, iI 1, iR a3])) _
    refine st13 _ ?_
    show Steps _ _ _ (T13.setTop (mkF m 32 #[vR a1, vI 1, vR a3, vI 1, vI 8, vI 1, vI 97] [])) _
    refine XS.iinc X13.here hx rfl (hb hby d5_32) rfl (l' := #[vR a1, vI ((1 : Int32) + (1 : Int32)), vR a3, vI 1, vI 8, vI 1, vI 97]) rfl ?_
    rw [(by decide : ((1 : Int32) + (1 : Int32)) = (2 : Int32))]
    show Steps _ _ _ (T13.setTop (mkF m 35 #[vR a1, vI 2, vR a3, vI 1, vI 8, vI 1, vI 97] [])) _
    refine XS.iinc X13.here hx rfl (hb hby d5_35) rfl (l' := #[vR a1, vI 2, vR a3, vI ((1 : Int32) + (1 : Int32)), vI 8, vI 1, vI 97]) rfl ?_
    rw [(by decide : ((1 : Int32) + (1 : Int32)) = (2 : Int32))]
    show Steps _ _ _ (T13.setTop (mkF m 38 #[vR a1, vI 2, vR a3, vI 2, vI 8, vI 1, vI 97] [])) _
    refine XS.iinc X13.here hx rfl (hb hby d5_38) rfl (l' := #[vR a1, vI 2, vR a3, vI 2, vI 8, vI ((1 : Int32) + (1 : Int32)), vI 97]) rfl ?_
    rw [(by decide : ((1 : Int32) + (1 : Int32)) = (2 : Int32))]
    show Steps _ _ _ (T13.setTop (mkF m 41 #[vR a1, vI 2, vR a3, vI 2, vI 8, vI 2, vI 97] [])) _
    refine XS.goto X13.here hx rfl (pc0 := 41) (pc' := 3) rfl (hb hby d5_41) (by decide) (by decide) ?_
    show Steps _ _ _ (T13.setTop (mkF m 3 #[vR a1, vI 2, vR a3, vI 2, vI 8, vI 2, vI 97] [])) _
    refine XS.iload X13.here hx rfl (hb hby d5_3) rfl ?_
    show Steps _ _ _ (T13.setTop (mkF m 5 #[vR a1, vI 2, vR a3, vI 2, vI 8, vI 2, vI 97] [iI 2])) _
    refine XS.iload X13.here hx rfl (hb hby d5_5) rfl ?_
    show Steps _ _ _ (T13.setTop (mkF m 7 #[vR a1, vI 2, vR a3, vI 2, vI 8, vI 2, vI 97] [iI 8, iI 2])) _
    refine XS.icmpNo X13.here hx rfl (hb hby d5_7) rfl (tlt (by decide : (2 : Int32) < (8 : Int32))).2.1 ?_
    show Steps _ _ _ (T13.setTop (mkF m 10 #[vR a1, vI 2, vR a3, vI 2, vI 8, vI 2, vI 97] [])) _
    refine XS.aloadN X13.here hx rfl (hb hby d5_10) rfl rfl ?_
    show Steps _ _ _ (T13.setTop (mkF m 11 #[vR a1, vI 2, vR a3, vI 2, vI 8, vI 2, vI 97] [iR a1])) _
    refine XS.iloadN X13.here hx rfl (hb hby d5_11) rfl ?_
    show Steps _ _ _ (T13.setTop (mkF m 12 #[vR a1, vI 2, vR a3, vI 2, vI 8, vI 2, vI 97] [iI 2, iR a1])) _
    refine X13.caload hx (j := (2 : Int32)) (v := (.int (108 : Int32))) (by rw [e13]; exact Ar15.1) (State.isArrayOf_alike hZ.alike Ar15.2.1) Ar15.2.2 hin16 hat17 (g := (mkF m 12 #[vR a1, vI 2, vR a3, vI 2, vI 8, vI 2, vI 97] [iI 2, iR a1])) rfl rfl (hb hby d5_12) _ ?_
    show Steps _ _ _ (T13.setTop (mkF m 13 #[vR a1, vI 2, vR a3, vI 2, vI 8, vI 2, vI 97] [iI 108])) _
    refine XS.istore X13.here hx rfl (hb hby d5_13) rfl (l' := #[vR a1, vI 2, vR a3, vI 2, vI 8, vI 2, vI 108]) rfl ?_
    show Steps _ _ _ (T13.setTop (mkF m 15 #[vR a1, vI 2, vR a3, vI 2, vI 8, vI 2, vI 108] [])) _
    refine XS.iload X13.here hx rfl (hb hby d5_15) rfl ?_
    show Steps _ _ _ (T13.setTop (mkF m 17 #[vR a1, vI 2, vR a3, vI 2, vI 8, vI 2, vI 108] [iI 108])) _
    refine XS.sipush X13.here hx rfl (hb hby d5_17) ?_
    show Steps _ _ _ (T13.setTop (mkF m 20 #[vR a1, vI 2, vR a3, vI 2, vI 8, vI 2, vI 108] [iI 255, iI 108])) _
    refine XS.icmpYes X13.here hx rfl (pc0 := 20) (pc' := 26) rfl (hb hby d5_20) rfl (flt (by decide : ¬ ((255 : Int32) < (108 : Int32)))).2.2.2 (by decide) (by decide) ?_
    show Steps _ _ _ (T13.setTop (mkF m 26 #[vR a1, vI 2, vR a3, vI 2, vI 8, vI 2, vI 108] [])) _
    refine XS.aloadN X13.here hx rfl (hb hby d5_26) rfl rfl ?_
    show Steps _ _ _ (T13.setTop (mkF m 27 #[vR a1, vI 2, vR a3, vI 2, vI 8, vI 2, vI 108] [iR a3])) _
    refine XS.iloadN X13.here hx rfl (hb hby d5_27) rfl ?_
    show Steps _ _ _ (T13.setTop (mkF m 28 #[vR a1, vI 2, vR a3, vI 2, vI 8, vI 2, vI 108] [iI 2, iR a3])) _
    refine XS.iload X13.here hx rfl (hb hby d5_28) rfl ?_
    show Steps _ _ _ (T13.setTop (mkF m 30 #[vR a1, vI 2, vR a3, vI 2, vI 8, vI 2, vI 108] [iI 108, iI 2, iR a3])) _
    refine XS.i2b X13.here hx rfl (hb hby d5_30) rfl ?_
    rw [(by decide : (108 : Int32).toInt8.toInt32 = (108 : Int32))]
    show Steps _ _ _ (T13.setTop (mkF m 31 #[vR a1, vI 2, vR a3, vI 2, vI 8, vI 2, vI 108] [iI 108, iI 2, iR a3])) _
    refine st20 _ ?_
    show Steps _ _ _ (T20.setTop (mkF m 32 #[vR a1, vI 2, vR a3, vI 2, vI 8, vI 2, vI 108] [])) _
    refine XS.iinc X20.here hx rfl (hb hby d5_32) rfl (l' := #[vR a1, vI ((2 : Int32) + (1 : Int32)), vR a3, vI 2, vI 8, vI 2, vI 108]) rfl ?_
    rw [(by decide : ((2 : Int32) + (1 : Int32)) = (3 : Int32))]
    show Steps _ _ _ (T20.setTop (mkF m 35 #[vR a1, vI 3, vR a3, vI 2, vI 8, vI 2, vI 108] [])) _
    refine XS.iinc X20.here hx rfl (hb hby d5_35) rfl (l' := #[vR a1, vI 3, vR a3, vI ((2 : Int32) + (1 : Int32)), vI 8, vI 2, vI 108]) rfl ?_
    rw [(by decide : ((2 : Int32) + (1 : Int32)) = (3 : Int32))]
    show Steps _ _ _ (T20.setTop (mkF m 38 #[vR a1, vI 3, vR a3, vI 3, vI 8, vI 2, vI 108] [])) _
    refine XS.iinc X20.here hx rfl (hb hby d5_38) rfl (l' := #[vR a1, vI 3, vR a3, vI 3, vI 8, vI ((2 : Int32) + (1 : Int32)), vI 108]) rfl ?_
    rw [(by decide : ((2 : Int32) + (1 : Int32)) = (3 : Int32))]
    show Steps _ _ _ (T20.setTop (mkF m 41 #[vR a1, vI 3, vR a3, vI 3, vI 8, vI 3, vI 108] [])) _
    refine XS.goto X20.here hx rfl (pc0 := 41) (pc' := 3) rfl (hb hby d5_41) (by decide) (by decide) ?_
    show Steps _ _ _ (T20.setTop (mkF m 3 #[vR a1, vI 3, vR a3, vI 3, vI 8, vI 3, vI 108] [])) _
    refine XS.iload X20.here hx rfl (hb hby d5_3) rfl ?_
    show Steps _ _ _ (T20.setTop (mkF m 5 #[vR a1, vI 3, vR a3, vI 3, vI 8, vI 3, vI 108] [iI 3])) _
    refine XS.iload X20.here hx rfl (hb hby d5_5) rfl ?_
    show Steps _ _ _ (T20.setTop (mkF m 7 #[vR a1, vI 3, vR a3, vI 3, vI 8, vI 3, vI 108] [iI 8, iI 3])) _
    refine XS.icmpNo X20.here hx rfl (hb hby d5_7) rfl (tlt (by decide : (3 : Int32) < (8 : Int32))).2.1 ?_
    show Steps _ _ _ (T20.setTop (mkF m 10 #[vR a1, vI 3, vR a3, vI 3, vI 8, vI 3, vI 108] [])) _
    refine XS.aloadN X20.here hx rfl (hb hby d5_10) rfl rfl ?_
    show Steps _ _ _ (T20.setTop (mkF m 11 #[vR a1, vI 3, vR a3, vI 3, vI 8, vI 3, vI 108] [iR a1])) _
    refine XS.iloadN X20.here hx rfl (hb hby d5_11) rfl ?_
    show Steps _ _ _ (T20.setTop (mkF m 12 #[vR a1, vI 3, vR a3, vI 3, vI 8, vI 3, vI 108] [iI 3, iR a1])) _
    refine X20.caload hx (j := (3 : Int32)) (v := (.int (105 : Int32))) (by rw [e20]; exact Ar22.1) (State.isArrayOf_alike hZ.alike Ar22.2.1) Ar22.2.2 hin23 hat24 (g := (mkF m 12 #[vR a1, vI 3, vR a3, vI 3, vI 8, vI 3, vI 108] [iI 3, iR a1])) rfl rfl (hb hby d5_12) _ ?_
    show Steps _ _ _ (T20.setTop (mkF m 13 #[vR a1, vI 3, vR a3, vI 3, vI 8, vI 3, vI 108] [iI 105])) _
    refine XS.istore X20.here hx rfl (hb hby d5_13) rfl (l' := #[vR a1, vI 3, vR a3, vI 3, vI 8, vI 3, vI 105]) rfl ?_
    show Steps _ _ _ (T20.setTop (mkF m 15 #[vR a1, vI 3, vR a3, vI 3, vI 8, vI 3, vI 105] [])) _
    refine XS.iload X20.here hx rfl (hb hby d5_15) rfl ?_
    show Steps _ _ _ (T20.setTop (mkF m 17 #[vR a1, vI 3, vR a3, vI 3, vI 8, vI 3, vI 105] [iI 105])) _
    refine XS.sipush X20.here hx rfl (hb hby d5_17) ?_
    show Steps _ _ _ (T20.setTop (mkF m 20 #[vR a1, vI 3, vR a3, vI 3, vI 8, vI 3, vI 105] [iI 255, iI 105])) _
    refine XS.icmpYes X20.here hx rfl (pc0 := 20) (pc' := 26) rfl (hb hby d5_20) rfl (flt (by decide : ¬ ((255 : Int32) < (105 : Int32)))).2.2.2 (by decide) (by decide) ?_
    show Steps _ _ _ (T20.setTop (mkF m 26 #[vR a1, vI 3, vR a3, vI 3, vI 8, vI 3, vI 105] [])) _
    refine XS.aloadN X20.here hx rfl (hb hby d5_26) rfl rfl ?_
    show Steps _ _ _ (T20.setTop (mkF m 27 #[vR a1, vI 3, vR a3, vI 3, vI 8, vI 3, vI 105] [iR a3])) _
    refine XS.iloadN X20.here hx rfl (hb hby d5_27) rfl ?_
    show Steps _ _ _ (T20.setTop (mkF m 28 #[vR a1, vI 3, vR a3, vI 3, vI 8, vI 3, vI 105] [iI 3, iR a3])) _
    refine XS.iload X20.here hx rfl (hb hby d5_28) rfl ?_
    show Steps _ _ _ (T20.setTop (mkF m 30 #[vR a1, vI 3, vR a3, vI 3, vI 8, vI 3, vI 105] [iI 105, iI 3, iR a3])) _
    refine XS.i2b X20.here hx rfl (hb hby d5_30) rfl ?_
    rw [(by decide : (105 : Int32).toInt8.toInt32 = (105 : Int32))]
    show Steps _ _ _ (T20.setTop (mkF m 31 #[vR a1, vI 3, vR a3, vI 3, vI 8, vI 3, vI 105] [iI 105, iI 3, iR a3])) _
    refine st27 _ ?_
    show Steps _ _ _ (T27.setTop (mkF m 32 #[vR a1, vI 3, vR a3, vI 3, vI 8, vI 3, vI 105] [])) _
    refine XS.iinc X27.here hx rfl (hb hby d5_32) rfl (l' := #[vR a1, vI ((3 : Int32) + (1 : Int32)), vR a3, vI 3, vI 8, vI 3, vI 105]) rfl ?_
    rw [(by decide : ((3 : Int32) + (1 : Int32)) = (4 : Int32))]
    show Steps _ _ _ (T27.setTop (mkF m 35 #[vR a1, vI 4, vR a3, vI 3, vI 8, vI 3, vI 105] [])) _
    refine XS.iinc X27.here hx rfl (hb hby d5_35) rfl (l' := #[vR a1, vI 4, vR a3, vI ((3 : Int32) + (1 : Int32)), vI 8, vI 3, vI 105]) rfl ?_
    rw [(by decide : ((3 : Int32) + (1 : Int32)) = (4 : Int32))]
    show Steps _ _ _ (T27.setTop (mkF m 38 #[vR a1, vI 4, vR a3, vI 4, vI 8, vI 3, vI 105] [])) _
    refine XS.iinc X27.here hx rfl (hb hby d5_38) rfl (l' := #[vR a1, vI 4, vR a3, vI 4, vI 8, vI ((3 : Int32) + (1 : Int32)), vI 105]) rfl ?_
    rw [(by decide : ((3 : Int32) + (1 : Int32)) = (4 : Int32))]
    show Steps _ _ _ (T27.setTop (mkF m 41 #[vR a1, vI 4, vR a3, vI 4, vI 8, vI 4, vI 105] [])) _
    refine XS.goto X27.here hx rfl (pc0 := 41) (pc' := 3) rfl (hb hby d5_41) (by decide) (by decide) ?_
    show Steps _ _ _ (T27.setTop (mkF m 3 #[vR a1, vI 4, vR a3, vI 4, vI 8, vI 4, vI 105] [])) _
    refine XS.iload X27.here hx rfl (hb hby d5_3) rfl ?_
    show Steps _ _ _ (T27.setTop (mkF m 5 #[vR a1, vI 4, vR a3, vI 4, vI 8, vI 4, vI 105] [iI 4])) _
    refine XS.iload X27.here hx rfl (hb hby d5_5) rfl ?_
    show Steps _ _ _ (T27.setTop (mkF m 7 #[vR a1, vI 4, vR a3, vI 4, vI 8, vI 4, vI 105] [iI 8, iI 4])) _
    refine XS.icmpNo X27.here hx rfl (hb hby d5_7) rfl (tlt (by decide : (4 : Int32) < (8 : Int32))).2.1 ?_
    show Steps _ _ _ (T27.setTop (mkF m 10 #[vR a1, vI 4, vR a3, vI 4, vI 8, vI 4, vI 105] [])) _
    refine XS.aloadN X27.here hx rfl (hb hby d5_10) rfl rfl ?_
    show Steps _ _ _ (T27.setTop (mkF m 11 #[vR a1, vI 4, vR a3, vI 4, vI 8, vI 4, vI 105] [iR a1])) _
    refine XS.iloadN X27.here hx rfl (hb hby d5_11) rfl ?_
    show Steps _ _ _ (T27.setTop (mkF m 12 #[vR a1, vI 4, vR a3, vI 4, vI 8, vI 4, vI 105] [iI 4, iR a1])) _
    refine X27.caload hx (j := (4 : Int32)) (v := (.int (100 : Int32))) (by rw [e27]; exact Ar29.1) (State.isArrayOf_alike hZ.alike Ar29.2.1) Ar29.2.2 hin30 hat31 (g := (mkF m 12 #[vR a1, vI 4, vR a3, vI 4, vI 8, vI 4, vI 105] [iI 4, iR a1])) rfl rfl (hb hby d5_12) _ ?_
    show Steps _ _ _ (T27.setTop (mkF m 13 #[vR a1, vI 4, vR a3, vI 4, vI 8, vI 4, vI 105] [iI 100])) _
    refine XS.istore X27.here hx rfl (hb hby d5_13) rfl (l' := #[vR a1, vI 4, vR a3, vI 4, vI 8, vI 4, vI 100]) rfl ?_
    show Steps _ _ _ (T27.setTop (mkF m 15 #[vR a1, vI 4, vR a3, vI 4, vI 8, vI 4, vI 100] [])) _
    refine XS.iload X27.here hx rfl (hb hby d5_15) rfl ?_
    show Steps _ _ _ (T27.setTop (mkF m 17 #[vR a1, vI 4, vR a3, vI 4, vI 8, vI 4, vI 100] [iI 100])) _
    refine XS.sipush X27.here hx rfl (hb hby d5_17) ?_
    show Steps _ _ _ (T27.setTop (mkF m 20 #[vR a1, vI 4, vR a3, vI 4, vI 8, vI 4, vI 100] [iI 255, iI 100])) _
    refine XS.icmpYes X27.here hx rfl (pc0 := 20) (pc' := 26) rfl (hb hby d5_20) rfl (flt (by decide : ¬ ((255 : Int32) < (100 : Int32)))).2.2.2 (by decide) (by decide) ?_
    show Steps _ _ _ (T27.setTop (mkF m 26 #[vR a1, vI 4, vR a3, vI 4, vI 8, vI 4, vI 100] [])) _
    refine XS.aloadN X27.here hx rfl (hb hby d5_26) rfl rfl ?_
    show Steps _ _ _ (T27.setTop (mkF m 27 #[vR a1, vI 4, vR a3, vI 4, vI 8, vI 4, vI 100] [iR a3])) _
    refine XS.iloadN X27.here hx rfl (hb hby d5_27) rfl ?_
    show Steps _ _ _ (T27.setTop (mkF m 28 #[vR a1, vI 4, vR a3, vI 4, vI 8, vI 4, vI 100] [iI 4, iR a3])) _
    refine XS.iload X27.here hx rfl (hb hby d5_28) rfl ?_
    show Steps _ _ _ (T27.setTop (mkF m 30 #[vR a1, vI 4, vR a3, vI 4, vI 8, vI 4, vI 100] [iI 100, iI 4, iR a3])) _
    refine XS.i2b X27.here hx rfl (hb hby d5_30) rfl ?_
    rw [(by decide : (100 : Int32).toInt8.toInt32 = (100 : Int32))]
    show Steps _ _ _ (T27.setTop (mkF m 31 #[vR a1, vI 4, vR a3, vI 4, vI 8, vI 4, vI 100] [iI 100, iI 4, iR a3])) _
    refine st34 _ ?_
    show Steps _ _ _ (T34.setTop (mkF m 32 #[vR a1, vI 4, vR a3, vI 4, vI 8, vI 4, vI 100] [])) _
    refine XS.iinc X34.here hx rfl (hb hby d5_32) rfl (l' := #[vR a1, vI ((4 : Int32) + (1 : Int32)), vR a3, vI 4, vI 8, vI 4, vI 100]) rfl ?_
    rw [(by decide : ((4 : Int32) + (1 : Int32)) = (5 : Int32))]
    show Steps _ _ _ (T34.setTop (mkF m 35 #[vR a1, vI 5, vR a3, vI 4, vI 8, vI 4, vI 100] [])) _
    refine XS.iinc X34.here hx rfl (hb hby d5_35) rfl (l' := #[vR a1, vI 5, vR a3, vI ((4 : Int32) + (1 : Int32)), vI 8, vI 4, vI 100]) rfl ?_
    rw [(by decide : ((4 : Int32) + (1 : Int32)) = (5 : Int32))]
    show Steps _ _ _ (T34.setTop (mkF m 38 #[vR a1, vI 5, vR a3, vI 5, vI 8, vI 4, vI 100] [])) _
    refine XS.iinc X34.here hx rfl (hb hby d5_38) rfl (l' := #[vR a1, vI 5, vR a3, vI 5, vI 8, vI ((4 : Int32) + (1 : Int32)), vI 100]) rfl ?_
    rw [(by decide : ((4 : Int32) + (1 : Int32)) = (5 : Int32))]
    show Steps _ _ _ (T34.setTop (mkF m 41 #[vR a1, vI 5, vR a3, vI 5, vI 8, vI 5, vI 100] [])) _
    refine XS.goto X34.here hx rfl (pc0 := 41) (pc' := 3) rfl (hb hby d5_41) (by decide) (by decide) ?_
    show Steps _ _ _ (T34.setTop (mkF m 3 #[vR a1, vI 5, vR a3, vI 5, vI 8, vI 5, vI 100] [])) _
    refine XS.iload X34.here hx rfl (hb hby d5_3) rfl ?_
    show Steps _ _ _ (T34.setTop (mkF m 5 #[vR a1, vI 5, vR a3, vI 5, vI 8, vI 5, vI 100] [iI 5])) _
    refine XS.iload X34.here hx rfl (hb hby d5_5) rfl ?_
    show Steps _ _ _ (T34.setTop (mkF m 7 #[vR a1, vI 5, vR a3, vI 5, vI 8, vI 5, vI 100] [iI 8, iI 5])) _
    refine XS.icmpNo X34.here hx rfl (hb hby d5_7) rfl (tlt (by decide : (5 : Int32) < (8 : Int32))).2.1 ?_
    show Steps _ _ _ (T34.setTop (mkF m 10 #[vR a1, vI 5, vR a3, vI 5, vI 8, vI 5, vI 100] [])) _
    refine XS.aloadN X34.here hx rfl (hb hby d5_10) rfl rfl ?_
    show Steps _ _ _ (T34.setTop (mkF m 11 #[vR a1, vI 5, vR a3, vI 5, vI 8, vI 5, vI 100] [iR a1])) _
    refine XS.iloadN X34.here hx rfl (hb hby d5_11) rfl ?_
    show Steps _ _ _ (T34.setTop (mkF m 12 #[vR a1, vI 5, vR a3, vI 5, vI 8, vI 5, vI 100] [iI 5, iR a1])) _
    refine X34.caload hx (j := (5 : Int32)) (v := (.int (97 : Int32))) (by rw [e34]; exact Ar36.1) (State.isArrayOf_alike hZ.alike Ar36.2.1) Ar36.2.2 hin37 hat38 (g := (mkF m 12 #[vR a1, vI 5, vR a3, vI 5, vI 8, vI 5, vI 100] [iI 5, iR a1])) rfl rfl (hb hby d5_12) _ ?_
    show Steps _ _ _ (T34.setTop (mkF m 13 #[vR a1, vI 5, vR a3, vI 5, vI 8, vI 5, vI 100] [iI 97])) _
    refine XS.istore X34.here hx rfl (hb hby d5_13) rfl (l' := #[vR a1, vI 5, vR a3, vI 5, vI 8, vI 5, vI 97]) rfl ?_
    show Steps _ _ _ (T34.setTop (mkF m 15 #[vR a1, vI 5, vR a3, vI 5, vI 8, vI 5, vI 97] [])) _
    refine XS.iload X34.here hx rfl (hb hby d5_15) rfl ?_
    show Steps _ _ _ (T34.setTop (mkF m 17 #[vR a1, vI 5, vR a3, vI 5, vI 8, vI 5, vI 97] [iI 97])) _
    refine XS.sipush X34.here hx rfl (hb hby d5_17) ?_
    show Steps _ _ _ (T34.setTop (mkF m 20 #[vR a1, vI 5, vR a3, vI 5, vI 8, vI 5, vI 97] [iI 255, iI 97])) _
    refine XS.icmpYes X34.here hx rfl (pc0 := 20) (pc' := 26) rfl (hb hby d5_20) rfl (flt (by decide : ¬ ((255 : Int32) < (97 : Int32)))).2.2.2 (by decide) (by decide) ?_
    show Steps _ _ _ (T34.setTop (mkF m 26 #[vR a1, vI 5, vR a3, vI 5, vI 8, vI 5, vI 97] [])) _
    refine XS.aloadN X34.here hx rfl (hb hby d5_26) rfl rfl ?_
    show Steps _ _ _ (T34.setTop (mkF m 27 #[vR a1, vI 5, vR a3, vI 5, vI 8, vI 5, vI 97] [iR a3])) _
    refine XS.iloadN X34.here hx rfl (hb hby d5_27) rfl ?_
    show Steps _ _ _ (T34.setTop (mkF m 28 #[vR a1, vI 5, vR a3, vI 5, vI 8, vI 5, vI 97] [iI 5, iR a3])) _
    refine XS.iload X34.here hx rfl (hb hby d5_28) rfl ?_
    show Steps _ _ _ (T34.setTop (mkF m 30 #[vR a1, vI 5, vR a3, vI 5, vI 8, vI 5, vI 97] [iI 97, iI 5, iR a3])) _
    refine XS.i2b X34.here hx rfl (hb hby d5_30) rfl ?_
    rw [(by decide : (97 : Int32).toInt8.toInt32 = (97 : Int32))]
    show Steps _ _ _ (T34.setTop (mkF m 31 #[vR a1, vI 5, vR a3, vI 5, vI 8, vI 5, vI 97] [iI 97, iI 5, iR a3])) _
    refine st41 _ ?_
    show Steps _ _ _ (T41.setTop (mkF m 32 #[vR a1, vI 5, vR a3, vI 5, vI 8, vI 5, vI 97] [])) _
    refine XS.iinc X41.here hx rfl (hb hby d5_32) rfl (l' := #[vR a1, vI ((5 : Int32) + (1 : Int32)), vR a3, vI 5, vI 8, vI 5, vI 97]) rfl ?_
    rw [(by decide : ((5 : Int32) + (1 : Int32)) = (6 : Int32))]
    show Steps _ _ _ (T41.setTop (mkF m 35 #[vR a1, vI 6, vR a3, vI 5, vI 8, vI 5, vI 97] [])) _
    refine XS.iinc X41.here hx rfl (hb hby d5_35) rfl (l' := #[vR a1, vI 6, vR a3, vI ((5 : Int32) + (1 : Int32)), vI 8, vI 5, vI 97]) rfl ?_
    rw [(by decide : ((5 : Int32) + (1 : Int32)) = (6 : Int32))]
    show Steps _ _ _ (T41.setTop (mkF m 38 #[vR a1, vI 6, vR a3, vI 6, vI 8, vI 5, vI 97] [])) _
    refine XS.iinc X41.here hx rfl (hb hby d5_38) rfl (l' := #[vR a1, vI 6, vR a3, vI 6, vI 8, vI ((5 : Int32) + (1 : Int32)), vI 97]) rfl ?_
    rw [(by decide : ((5 : Int32) + (1 : Int32)) = (6 : Int32))]
    show Steps _ _ _ (T41.setTop (mkF m 41 #[vR a1, vI 6, vR a3, vI 6, vI 8, vI 6, vI 97] [])) _
    refine XS.goto X41.here hx rfl (pc0 := 41) (pc' := 3) rfl (hb hby d5_41) (by decide) (by decide) ?_
    show Steps _ _ _ (T41.setTop (mkF m 3 #[vR a1, vI 6, vR a3, vI 6, vI 8, vI 6, vI 97] [])) _
    refine XS.iload X41.here hx rfl (hb hby d5_3) rfl ?_
    show Steps _ _ _ (T41.setTop (mkF m 5 #[vR a1, vI 6, vR a3, vI 6, vI 8, vI 6, vI 97] [iI 6])) _
    refine XS.iload X41.here hx rfl (hb hby d5_5) rfl ?_
    show Steps _ _ _ (T41.setTop (mkF m 7 #[vR a1, vI 6, vR a3, vI 6, vI 8, vI 6, vI 97] [iI 8, iI 6])) _
    refine XS.icmpNo X41.here hx rfl (hb hby d5_7) rfl (tlt (by decide : (6 : Int32) < (8 : Int32))).2.1 ?_
    show Steps _ _ _ (T41.setTop (mkF m 10 #[vR a1, vI 6, vR a3, vI 6, vI 8, vI 6, vI 97] [])) _
    refine XS.aloadN X41.here hx rfl (hb hby d5_10) rfl rfl ?_
    show Steps _ _ _ (T41.setTop (mkF m 11 #[vR a1, vI 6, vR a3, vI 6, vI 8, vI 6, vI 97] [iR a1])) _
    refine XS.iloadN X41.here hx rfl (hb hby d5_11) rfl ?_
    show Steps _ _ _ (T41.setTop (mkF m 12 #[vR a1, vI 6, vR a3, vI 6, vI 8, vI 6, vI 97] [iI 6, iR a1])) _
    refine X41.caload hx (j := (6 : Int32)) (v := (.int (116 : Int32))) (by rw [e41]; exact Ar43.1) (State.isArrayOf_alike hZ.alike Ar43.2.1) Ar43.2.2 hin44 hat45 (g := (mkF m 12 #[vR a1, vI 6, vR a3, vI 6, vI 8, vI 6, vI 97] [iI 6, iR a1])) rfl rfl (hb hby d5_12) _ ?_
    show Steps _ _ _ (T41.setTop (mkF m 13 #[vR a1, vI 6, vR a3, vI 6, vI 8, vI 6, vI 97] [iI 116])) _
    refine XS.istore X41.here hx rfl (hb hby d5_13) rfl (l' := #[vR a1, vI 6, vR a3, vI 6, vI 8, vI 6, vI 116]) rfl ?_
    show Steps _ _ _ (T41.setTop (mkF m 15 #[vR a1, vI 6, vR a3, vI 6, vI 8, vI 6, vI 116] [])) _
    refine XS.iload X41.here hx rfl (hb hby d5_15) rfl ?_
    show Steps _ _ _ (T41.setTop (mkF m 17 #[vR a1, vI 6, vR a3, vI 6, vI 8, vI 6, vI 116] [iI 116])) _
    refine XS.sipush X41.here hx rfl (hb hby d5_17) ?_
    show Steps _ _ _ (T41.setTop (mkF m 20 #[vR a1, vI 6, vR a3, vI 6, vI 8, vI 6, vI 116] [iI 255, iI 116])) _
    refine XS.icmpYes X41.here hx rfl (pc0 := 20) (pc' := 26) rfl (hb hby d5_20) rfl (flt (by decide : ¬ ((255 : Int32) < (116 : Int32)))).2.2.2 (by decide) (by decide) ?_
    show Steps _ _ _ (T41.setTop (mkF m 26 #[vR a1, vI 6, vR a3, vI 6, vI 8, vI 6, vI 116] [])) _
    refine XS.aloadN X41.here hx rfl (hb hby d5_26) rfl rfl ?_
    show Steps _ _ _ (T41.setTop (mkF m 27 #[vR a1, vI 6, vR a3, vI 6, vI 8, vI 6, vI 116] [iR a3])) _
    refine XS.iloadN X41.here hx rfl (hb hby d5_27) rfl ?_
    show Steps _ _ _ (T41.setTop (mkF m 28 #[vR a1, vI 6, vR a3, vI 6, vI 8, vI 6, vI 116] [iI 6, iR a3])) _
    refine XS.iload X41.here hx rfl (hb hby d5_28) rfl ?_
    show Steps _ _ _ (T41.setTop (mkF m 30 #[vR a1, vI 6, vR a3, vI 6, vI 8, vI 6, vI 116] [iI 116, iI 6, iR a3])) _
    refine XS.i2b X41.here hx rfl (hb hby d5_30) rfl ?_
    rw [(by decide : (116 : Int32).toInt8.toInt32 = (116 : Int32))]
    show Steps _ _ _ (T41.setTop (mkF m 31 #[vR a1, vI 6, vR a3, vI 6, vI 8, vI 6, vI 116] [iI 116, iI 6, iR a3])) _
    refine st48 _ ?_
    show Steps _ _ _ (T48.setTop (mkF m 32 #[vR a1, vI 6, vR a3, vI 6, vI 8, vI 6, vI 116] [])) _
    refine XS.iinc X48.here hx rfl (hb hby d5_32) rfl (l' := #[vR a1, vI ((6 : Int32) + (1 : Int32)), vR a3, vI 6, vI 8, vI 6, vI 116]) rfl ?_
    rw [(by decide : ((6 : Int32) + (1 : Int32)) = (7 : Int32))]
    show Steps _ _ _ (T48.setTop (mkF m 35 #[vR a1, vI 7, vR a3, vI 6, vI 8, vI 6, vI 116] [])) _
    refine XS.iinc X48.here hx rfl (hb hby d5_35) rfl (l' := #[vR a1, vI 7, vR a3, vI ((6 : Int32) + (1 : Int32)), vI 8, vI 6, vI 116]) rfl ?_
    rw [(by decide : ((6 : Int32) + (1 : Int32)) = (7 : Int32))]
    show Steps _ _ _ (T48.setTop (mkF m 38 #[vR a1, vI 7, vR a3, vI 7, vI 8, vI 6, vI 116] [])) _
    refine XS.iinc X48.here hx rfl (hb hby d5_38) rfl (l' := #[vR a1, vI 7, vR a3, vI 7, vI 8, vI ((6 : Int32) + (1 : Int32)), vI 116]) rfl ?_
    rw [(by decide : ((6 : Int32) + (1 : Int32)) = (7 : Int32))]
    show Steps _ _ _ (T48.setTop (mkF m 41 #[vR a1, vI 7, vR a3, vI 7, vI 8, vI 7, vI 116] [])) _
    refine XS.goto X48.here hx rfl (pc0 := 41) (pc' := 3) rfl (hb hby d5_41) (by decide) (by decide) ?_
    show Steps _ _ _ (T48.setTop (mkF m 3 #[vR a1, vI 7, vR a3, vI 7, vI 8, vI 7, vI 116] [])) _
    refine XS.iload X48.here hx rfl (hb hby d5_3) rfl ?_
    show Steps _ _ _ (T48.setTop (mkF m 5 #[vR a1, vI 7, vR a3, vI 7, vI 8, vI 7, vI 116] [iI 7])) _
    refine XS.iload X48.here hx rfl (hb hby d5_5) rfl ?_
    show Steps _ _ _ (T48.setTop (mkF m 7 #[vR a1, vI 7, vR a3, vI 7, vI 8, vI 7, vI 116] [iI 8, iI 7])) _
    refine XS.icmpNo X48.here hx rfl (hb hby d5_7) rfl (tlt (by decide : (7 : Int32) < (8 : Int32))).2.1 ?_
    show Steps _ _ _ (T48.setTop (mkF m 10 #[vR a1, vI 7, vR a3, vI 7, vI 8, vI 7, vI 116] [])) _
    refine XS.aloadN X48.here hx rfl (hb hby d5_10) rfl rfl ?_
    show Steps _ _ _ (T48.setTop (mkF m 11 #[vR a1, vI 7, vR a3, vI 7, vI 8, vI 7, vI 116] [iR a1])) _
    refine XS.iloadN X48.here hx rfl (hb hby d5_11) rfl ?_
    show Steps _ _ _ (T48.setTop (mkF m 12 #[vR a1, vI 7, vR a3, vI 7, vI 8, vI 7, vI 116] [iI 7, iR a1])) _
    refine X48.caload hx (j := (7 : Int32)) (v := (.int (101 : Int32))) (by rw [e48]; exact Ar50.1) (State.isArrayOf_alike hZ.alike Ar50.2.1) Ar50.2.2 hin51 hat52 (g := (mkF m 12 #[vR a1, vI 7, vR a3, vI 7, vI 8, vI 7, vI 116] [iI 7, iR a1])) rfl rfl (hb hby d5_12) _ ?_
    show Steps _ _ _ (T48.setTop (mkF m 13 #[vR a1, vI 7, vR a3, vI 7, vI 8, vI 7, vI 116] [iI 101])) _
    refine XS.istore X48.here hx rfl (hb hby d5_13) rfl (l' := #[vR a1, vI 7, vR a3, vI 7, vI 8, vI 7, vI 101]) rfl ?_
    show Steps _ _ _ (T48.setTop (mkF m 15 #[vR a1, vI 7, vR a3, vI 7, vI 8, vI 7, vI 101] [])) _
    refine XS.iload X48.here hx rfl (hb hby d5_15) rfl ?_
    show Steps _ _ _ (T48.setTop (mkF m 17 #[vR a1, vI 7, vR a3, vI 7, vI 8, vI 7, vI 101] [iI 101])) _
    refine XS.sipush X48.here hx rfl (hb hby d5_17) ?_
    show Steps _ _ _ (T48.setTop (mkF m 20 #[vR a1, vI 7, vR a3, vI 7, vI 8, vI 7, vI 101] [iI 255, iI 101])) _
    refine XS.icmpYes X48.here hx rfl (pc0 := 20) (pc' := 26) rfl (hb hby d5_20) rfl (flt (by decide : ¬ ((255 : Int32) < (101 : Int32)))).2.2.2 (by decide) (by decide) ?_
    show Steps _ _ _ (T48.setTop (mkF m 26 #[vR a1, vI 7, vR a3, vI 7, vI 8, vI 7, vI 101] [])) _
    refine XS.aloadN X48.here hx rfl (hb hby d5_26) rfl rfl ?_
    show Steps _ _ _ (T48.setTop (mkF m 27 #[vR a1, vI 7, vR a3, vI 7, vI 8, vI 7, vI 101] [iR a3])) _
    refine XS.iloadN X48.here hx rfl (hb hby d5_27) rfl ?_
    show Steps _ _ _ (T48.setTop (mkF m 28 #[vR a1, vI 7, vR a3, vI 7, vI 8, vI 7, vI 101] [iI 7, iR a3])) _
    refine XS.iload X48.here hx rfl (hb hby d5_28) rfl ?_
    show Steps _ _ _ (T48.setTop (mkF m 30 #[vR a1, vI 7, vR a3, vI 7, vI 8, vI 7, vI 101] [iI 101, iI 7, iR a3])) _
    refine XS.i2b X48.here hx rfl (hb hby d5_30) rfl ?_
    rw [(by decide : (101 : Int32).toInt8.toInt32 = (101 : Int32))]
    show Steps _ _ _ (T48.setTop (mkF m 31 #[vR a1, vI 7, vR a3, vI 7, vI 8, vI 7, vI 101] [iI 101, iI 7, iR a3])) _
    refine st55 _ ?_
    show Steps _ _ _ (T55.setTop (mkF m 32 #[vR a1, vI 7, vR a3, vI 7, vI 8, vI 7, vI 101] [])) _
    refine XS.iinc X55.here hx rfl (hb hby d5_32) rfl (l' := #[vR a1, vI ((7 : Int32) + (1 : Int32)), vR a3, vI 7, vI 8, vI 7, vI 101]) rfl ?_
    rw [(by decide : ((7 : Int32) + (1 : Int32)) = (8 : Int32))]
    show Steps _ _ _ (T55.setTop (mkF m 35 #[vR a1, vI 8, vR a3, vI 7, vI 8, vI 7, vI 101] [])) _
    refine XS.iinc X55.here hx rfl (hb hby d5_35) rfl (l' := #[vR a1, vI 8, vR a3, vI ((7 : Int32) + (1 : Int32)), vI 8, vI 7, vI 101]) rfl ?_
    rw [(by decide : ((7 : Int32) + (1 : Int32)) = (8 : Int32))]
    show Steps _ _ _ (T55.setTop (mkF m 38 #[vR a1, vI 8, vR a3, vI 8, vI 8, vI 7, vI 101] [])) _
    refine XS.iinc X55.here hx rfl (hb hby d5_38) rfl (l' := #[vR a1, vI 8, vR a3, vI 8, vI 8, vI ((7 : Int32) + (1 : Int32)), vI 101]) rfl ?_
    rw [(by decide : ((7 : Int32) + (1 : Int32)) = (8 : Int32))]
    show Steps _ _ _ (T55.setTop (mkF m 41 #[vR a1, vI 8, vR a3, vI 8, vI 8, vI 8, vI 101] [])) _
    refine XS.goto X55.here hx rfl (pc0 := 41) (pc' := 3) rfl (hb hby d5_41) (by decide) (by decide) ?_
    show Steps _ _ _ (T55.setTop (mkF m 3 #[vR a1, vI 8, vR a3, vI 8, vI 8, vI 8, vI 101] [])) _
    refine XS.iload X55.here hx rfl (hb hby d5_3) rfl ?_
    show Steps _ _ _ (T55.setTop (mkF m 5 #[vR a1, vI 8, vR a3, vI 8, vI 8, vI 8, vI 101] [iI 8])) _
    refine XS.iload X55.here hx rfl (hb hby d5_5) rfl ?_
    show Steps _ _ _ (T55.setTop (mkF m 7 #[vR a1, vI 8, vR a3, vI 8, vI 8, vI 8, vI 101] [iI 8, iI 8])) _
    refine XS.icmpYes X55.here hx rfl (pc0 := 7) (pc' := 44) rfl (hb hby d5_7) rfl (flt (by decide : ¬ ((8 : Int32) < (8 : Int32)))).2.1 (by decide) (by decide) ?_
    show Steps _ _ _ (T55.setTop (mkF m 44 #[vR a1, vI 8, vR a3, vI 8, vI 8, vI 8, vI 101] [])) _
    refine XS.iload X55.here hx rfl (hb hby d5_44) rfl ?_
    show Steps _ _ _ (T55.setTop (mkF m 46 #[vR a1, vI 8, vR a3, vI 8, vI 8, vI 8, vI 101] [iI 8])) _
    exact retI X55 hx Bd.returns (hb hby d5_46) hr
  · show Q5_VALIDATE Z a1 a3 kc kb h0 n0 _ T55.heap _
    rw [e55]
    exact ⟨rfl, N55, K55, V55⟩
theorem d4_0 : decode jdk_52_method_16_code 0 = .ok (.iload_n 2, 1) := by decide +kernel
theorem d4_1 : decode jdk_52_method_16_code 1 = .ok (.newarray .byte, 2) := by decide +kernel
theorem d4_3 : decode jdk_52_method_16_code 3 = .ok (.astore_n 3, 1) := by decide +kernel
theorem d4_4 : decode jdk_52_method_16_code 4 = .ok (.aload_n 0, 1) := by decide +kernel
theorem d4_5 : decode jdk_52_method_16_code 5 = .ok (.iload_n 1, 1) := by decide +kernel
theorem d4_6 : decode jdk_52_method_16_code 6 = .ok (.aload_n 3, 1) := by decide +kernel
theorem d4_7 : decode jdk_52_method_16_code 7 = .ok (.iconst 0, 1) := by decide +kernel
theorem d4_8 : decode jdk_52_method_16_code 8 = .ok (.iload_n 2, 1) := by decide +kernel
theorem d4_9 : decode jdk_52_method_16_code 9 = .ok (.invokestatic 115, 3) := by decide +kernel
theorem d4_12 : decode jdk_52_method_16_code 12 = .ok (.istore 4, 2) := by decide +kernel
theorem d4_14 : decode jdk_52_method_16_code 14 = .ok (.iload 4, 2) := by decide +kernel
theorem d4_16 : decode jdk_52_method_16_code 16 = .ok (.iload_n 2, 1) := by decide +kernel
theorem d4_17 : decode jdk_52_method_16_code 17 = .ok (.if_icmp .eq 40, 3) := by decide +kernel
theorem d4_57 : decode jdk_52_method_16_code 57 = .ok (.aload_n 3, 1) := by decide +kernel
theorem d4_58 : decode jdk_52_method_16_code 58 = .ok (.areturn, 1) := by decide +kernel
theorem ef_4_VALIDATE (m : MethodId) (x0 : Addr) : entryFrame m #[(.ref x0), (.int (0 : Int32)), (.int (8 : Int32))] 6 = mkF m 0 #[.val (.ref x0), .val (.int (0 : Int32)), .val (.int (8 : Int32)), .unset, .unset, .unset] [] := by first | (simp [entryFrame, mkF, argsToLocals, Value.category]; done) | rfl
def Q4_VALIDATE (Z : State) (a1 : Addr) (kc : ClassId) (h0 : Heap) (n0 : Nat) (v : Option Value) (h : Heap) (L : List Loc) : Prop := ∃ (b : Addr) (kb : ClassId), v = some (.ref b) ∧ Fr n0 L ∧ Keep h0 h [] ∧ Arv Z h b kb .byte (8 : Int32) [(.int (118 : Int32)), (.int (97 : Int32)), (.int (108 : Int32)), (.int (105 : Int32)), (.int (100 : Int32)), (.int (97 : Int32)), (.int (116 : Int32)), (.int (101 : Int32))] (.int (0 : Int32)) ∧ h0.size ≤ b
set_option maxRecDepth 65536 in
set_option maxHeartbeats 40000000 in
theorem rm4_VALIDATE (l : Launch) (Z : State) (a0 : Array Value) (hw : ∀ d ∈ tables_1, d.before a0 Z = true) (ws : List Jvm.Cond) (a1 : Addr) (kc : ClassId) (h0 : Heap) (n0 : Nat) (Z0 : n0 ≤ h0.size) (V_c : Arv Z h0 a1 kc .char (8 : Int32) [(.int (118 : Int32)), (.int (97 : Int32)), (.int (108 : Int32)), (.int (105 : Int32)), (.int (100 : Int32)), (.int (97 : Int32)), (.int (116 : Int32)), (.int (101 : Int32))] (.int (0 : Int32))) :
    MetFree l (⟨"java/lang/StringUTF16", "compress", "([CII)[B"⟩ : MethodName) (head1 (Jvm.Cond.code (⟨"java/lang/StringUTF16", "compress", "([CII)[B"⟩ : MethodName) jdk_52_method_16_code 6 (some (.array .byte)) :: ws) ({ frames := 1, cells := 1, slots := 8, locals := 18 } : Room)) (fun a U => a = #[(.ref a1), (.int (0 : Int32)), (.int (8 : Int32))] ∧ Z.Warmed39 U.vm ∧ U.heap = h0) (fun _ _ _ _ _ => True) (fun _ U o U' => ∃ v L, o = .returned v ∧ Q4_VALIDATE Z a1 kc h0 n0 v U'.heap L ∧ FrameEnd U o U' L ({ frames := 1, cells := 1, slots := 8, locals := 18 } : Room).cells ({ frames := 1, cells := 1, slots := 8, locals := 18 } : Room).slots) := by
  refine MetFree.of_bodySF (plainFor_of_name pn_0) hisR ?_
  intro p e s m args below meth c s₁ Bd hml0 hP hK
  obtain ⟨rfl, hZ, hh⟩ := hP
  have hx := Bd.exec
  have hby := Bd.bytes
  have hml : c.maxLocals = 6 := hml0
  have hown : s.vm.findClass "java/lang/StringUTF16" = some m.cls := findClass_of_methodNamed Bd.named
  have hnm := (name_of_methodNamed Bd.named Bd.method).1
  have X0 : Stand p l e ({ frames := 1, cells := 1, slots := 8, locals := 18 } : Room) s m #[(.ref a1), (.int (0 : Int32)), (.int (8 : Int32))] below meth c s₁ [] 0 0 := Stand.of_body Bd
  have e0 : s₁.heap = h0 := by rw [← hh, Bd.state]; rfl
  have N0 := Fr.nil n0
  have K0 := Keep.refl h0 []
  have pre0 : ∀ t, Steps p.tables e below (s₁.setTop (mkF m 0 #[.val (.ref a1), .val (.int (0 : Int32)), .val (.int (8 : Int32)), .unset, .unset, .unset] [])) t → Steps p.tables e below (s₁.setTop (entryFrame m #[(.ref a1), (.int (0 : Int32)), (.int (8 : Int32))] 6)) t := fun t k => castTop (ef_4_VALIDATE m a1) k
  obtain ⟨T1, h1, k1, X1, e1, E1, A1, st1⟩ := newP X0 hx hZ (hw _ (List.mem_of_getElem? (i := 20) rfl)) e0 (g := (mkF m 1 #[vR a1, vI 0, vI 8, .unset, .unset, .unset] [iI 8])) rfl (hb hby d4_1) rfl (by decide) (cap := 8) (by decide) (by decide) (by decide) (by decide)
  obtain ⟨b1, g1⟩ : ∃ z, z = h0.size := ⟨_, rfl⟩
  rw [← g1] at A1 st1
  have ne_a1_b1 : a1 ≠ b1 := Nat.ne_of_lt (Nat.lt_of_lt_of_le V_c.lt (Nat.le_of_eq g1.symm))
  have sz_b1 : h0.size ≤ b1 := Nat.le_trans K0.1 (Nat.le_of_eq g1.symm)
  have g_b1 : n0 ≤ b1 := Nat.le_trans Z0 sz_b1
  have K1 : Keep h0 h1 [] := K0.ext E1
  have V1 : Arv Z h1 b1 k1 .byte (8 : Int32) [(.int (0 : Int32)), (.int (0 : Int32)), (.int (0 : Int32)), (.int (0 : Int32)), (.int (0 : Int32)), (.int (0 : Int32)), (.int (0 : Int32)), (.int (0 : Int32))] (.int (0 : Int32)) := (Arv.new A1 (by decide)).pad (pad_rep [] (.int (0 : Int32)) 8)
  have fk3 := (V_c.ext E1)
  obtain ⟨_, _, ⟨T2, L2, k2, n2⟩, -, X2, ⟨Lc2, hQ2, l2, y2, z2⟩, st2⟩ := Jvm.LawKit.callS X1 hx (y := (⟨"java/lang/StringUTF16", "compress", "([CI[BII)I"⟩ : MethodName)) hown (mvT hZ (hw _ (List.mem_of_getElem? (i := 21) rfl))) (mvT hZ (hw _ (List.mem_of_getElem? (i := 22) rfl))) (mvT hZ (hw _ (List.mem_of_getElem? (i := 18) rfl))) (mvT hZ (hw _ (List.mem_of_getElem? (i := 23) rfl))) (by decide) (backOf (W := 0) (rm5_VALIDATE l Z a0 hw [] a1 b1 kc k1  h1 n0 (Nat.le_trans Z0 K1.1) fk3 V1 ne_a1_b1 g_b1 ) hZ (hw _ (List.mem_of_getElem? (i := 23) rfl)) (hw _ (List.mem_of_getElem? (i := 18) rfl)) (by decide) (by decide)) (g := (mkF m 9 #[vR a1, vI 0, vI 8, vR b1, .unset, .unset] [iI 8, iI 0, iR b1, iI 0, iR a1])) rfl (by rw [hml]; rfl) (argsL := [(.ref a1), (.int (0 : Int32)), (.ref b1), (.int (0 : Int32)), (.int (8 : Int32))]) (rest := []) (lenOf pd_0 rfl) rfl (by show 2 * 0 + _ ≤ _; exact Nat.le_of_eq rfl) (hb hby d4_9) (fun _ _ => ⟨rfl, e1, (by decide : 1 + 0 ≤ _), (by decide : 8 + 0 ≤ _)⟩)
  dsimp only [Pt.U, Pt.locs, Pt.cells, Pt.slots] at X2 l2 y2 z2 st2 hQ2
  subst l2 y2 z2
  obtain ⟨rfl, N2q, K2q, V2q⟩ := hQ2
  have N2 := Fr.app N0 N2q
  have K2 : Keep h0 T2.heap [] := Keep.trans K1 K2q (allS (Or.inr sz_b1) all0)
  obtain ⟨fs, hr, hrun, hended, hW, hsame⟩ := X2.leave (v := some (.ref b1)) (fun h => by rw [Bd.returns] at h; cases h)
  refine ⟨_, _, pre0 _ ?_, hrun, hended, _, _, rfl, ?_, ⟨_, rfl⟩, hW, hsame.mono (by decide) (by decide)⟩
  · show Steps _ _ _ (s₁.setTop (mkF m 0 #[vR a1, vI 0, vI 8, .unset, .unset, .unset] [])) _
    refine XS.iloadN X0.here hx rfl (hb hby d4_0) rfl ?_
    show Steps _ _ _ (s₁.setTop (mkF m 1 #[vR a1, vI 0, vI 8, .unset, .unset, .unset] [iI 8])) _
    refine st1 _ ?_
    show Steps _ _ _ (T1.setTop (mkF m 3 #[vR a1, vI 0, vI 8, .unset, .unset, .unset] [iR b1])) _
    refine XS.astoreN X1.here hx rfl (hb hby d4_3) rfl rfl (l' := #[vR a1, vI 0, vI 8, vR b1, .unset, .unset]) rfl ?_
    show Steps _ _ _ (T1.setTop (mkF m 4 #[vR a1, vI 0, vI 8, vR b1, .unset, .unset] [])) _
    refine XS.aloadN X1.here hx rfl (hb hby d4_4) rfl rfl ?_
    show Steps _ _ _ (T1.setTop (mkF m 5 #[vR a1, vI 0, vI 8, vR b1, .unset, .unset] [iR a1])) _
    refine XS.iloadN X1.here hx rfl (hb hby d4_5) rfl ?_
    show Steps _ _ _ (T1.setTop (mkF m 6 #[vR a1, vI 0, vI 8, vR b1, .unset, .unset] [iI 0, iR a1])) _
    refine XS.aloadN X1.here hx rfl (hb hby d4_6) rfl rfl ?_
    show Steps _ _ _ (T1.setTop (mkF m 7 #[vR a1, vI 0, vI 8, vR b1, .unset, .unset] [iR b1, iI 0, iR a1])) _
    refine XS.iconst X1.here hx rfl (hb hby d4_7) ?_
    show Steps _ _ _ (T1.setTop (mkF m 8 #[vR a1, vI 0, vI 8, vR b1, .unset, .unset] [iI 0, iR b1, iI 0, iR a1])) _
    refine XS.iloadN X1.here hx rfl (hb hby d4_8) rfl ?_
    show Steps _ _ _ (T1.setTop (mkF m 9 #[vR a1, vI 0, vI 8, vR b1, .unset, .unset] [iI 8, iI 0, iR b1, iI 0, iR a1])) _
    refine st2 _ ?_
    show Steps _ _ _ (T2.setTop (mkF m 12 #[vR a1, vI 0, vI 8, vR b1, .unset, .unset] [iI 8])) _
    refine XS.istore X2.here hx rfl (hb hby d4_12) rfl (l' := #[vR a1, vI 0, vI 8, vR b1, vI 8, .unset]) rfl ?_
    show Steps _ _ _ (T2.setTop (mkF m 14 #[vR a1, vI 0, vI 8, vR b1, vI 8, .unset] [])) _
    refine XS.iload X2.here hx rfl (hb hby d4_14) rfl ?_
    show Steps _ _ _ (T2.setTop (mkF m 16 #[vR a1, vI 0, vI 8, vR b1, vI 8, .unset] [iI 8])) _
    refine XS.iloadN X2.here hx rfl (hb hby d4_16) rfl ?_
    show Steps _ _ _ (T2.setTop (mkF m 17 #[vR a1, vI 0, vI 8, vR b1, vI 8, .unset] [iI 8, iI 8])) _
    refine XS.icmpYes X2.here hx rfl (pc0 := 17) (pc' := 57) rfl (hb hby d4_17) rfl (teq (by decide : (8 : Int32) = (8 : Int32))).1 (by decide) (by decide) ?_
    show Steps _ _ _ (T2.setTop (mkF m 57 #[vR a1, vI 0, vI 8, vR b1, vI 8, .unset] [])) _
    refine XS.aloadN X2.here hx rfl (hb hby d4_57) rfl rfl ?_
    show Steps _ _ _ (T2.setTop (mkF m 58 #[vR a1, vI 0, vI 8, vR b1, vI 8, .unset] [iR b1])) _
    jvm_step X2.here [X2.here.top, hx, (hb hby d4_58), X2.method', Bd.returns, Value.isRef, FieldType.isReference]
    first | (intro acts; rw [hr _ acts rfl rfl rfl]) | rw [hr _ _ rfl rfl rfl]
    exact Steps.refl _
  · show Q4_VALIDATE Z a1 kc h0 n0 _ T2.heap _
    exact ⟨_, _, rfl, N2, K2, V2q, sz_b1⟩
theorem d6_0 : decode jdk_52_method_15_code 0 = .ok (.iload_n 1, 1) := by decide +kernel
theorem d6_1 : decode jdk_52_method_15_code 1 = .ok (.aload_n 0, 1) := by decide +kernel
theorem d6_2 : decode jdk_52_method_15_code 2 = .ok (.arraylength, 1) := by decide +kernel
theorem d6_3 : decode jdk_52_method_15_code 3 = .ok (.isub, 1) := by decide +kernel
theorem d6_4 : decode jdk_52_method_15_code 4 = .ok (.bipush 31, 2) := by decide +kernel
theorem d6_6 : decode jdk_52_method_15_code 6 = .ok (.iushr, 1) := by decide +kernel
theorem d6_7 : decode jdk_52_method_15_code 7 = .ok (.i2b, 1) := by decide +kernel
theorem d6_8 : decode jdk_52_method_15_code 8 = .ok (.ireturn, 1) := by decide +kernel
theorem ef_6_VALIDATE (m : MethodId) (x0 : Addr) : entryFrame m #[(.ref x0), (.int (8 : Int32))] 2 = mkF m 0 #[.val (.ref x0), .val (.int (8 : Int32))] [] := by first | (simp [entryFrame, mkF, argsToLocals, Value.category]; done) | rfl
def Q6_VALIDATE (Z : State) (a1 : Addr) (kb : ClassId) (h0 : Heap) (v : Option Value) (h : Heap) (L : List Loc) : Prop := v = some (.int (0 : Int32)) ∧ L = [] ∧ h = h0
set_option maxRecDepth 65536 in
set_option maxHeartbeats 40000000 in
theorem rm6_VALIDATE (l : Launch) (Z : State) (a0 : Array Value) (hw : ∀ d ∈ tables_1, d.before a0 Z = true) (ws : List Jvm.Cond) (a1 : Addr) (kb : ClassId) (h0 : Heap) (V_b : Arv Z h0 a1 kb .byte (8 : Int32) [(.int (118 : Int32)), (.int (97 : Int32)), (.int (108 : Int32)), (.int (105 : Int32)), (.int (100 : Int32)), (.int (97 : Int32)), (.int (116 : Int32)), (.int (101 : Int32))] (.int (0 : Int32))) :
    MetFree l (⟨"java/lang/StringUTF16", "coderFromArrayLen", "([BI)B"⟩ : MethodName) (head1 (Jvm.Cond.code (⟨"java/lang/StringUTF16", "coderFromArrayLen", "([BI)B"⟩ : MethodName) jdk_52_method_15_code 2 (some .byte) :: ws) ({ frames := 0, cells := 0, slots := 0, locals := 0 } : Room)) (fun a U => a = #[(.ref a1), (.int (8 : Int32))] ∧ Z.Warmed39 U.vm ∧ U.heap = h0) (fun _ _ _ _ _ => True) (fun _ U o U' => ∃ v L, o = .returned v ∧ Q6_VALIDATE Z a1 kb h0 v U'.heap L ∧ FrameEnd U o U' L ({ frames := 0, cells := 0, slots := 0, locals := 0 } : Room).cells ({ frames := 0, cells := 0, slots := 0, locals := 0 } : Room).slots) := by
  refine MetFree.of_bodySF (plainFor_of_name pn_0) hisR ?_
  intro p e s m args below meth c s₁ Bd hml0 hP hK
  obtain ⟨rfl, hZ, hh⟩ := hP
  have hx := Bd.exec
  have hby := Bd.bytes
  have hml : c.maxLocals = 2 := hml0
  have hown : s.vm.findClass "java/lang/StringUTF16" = some m.cls := findClass_of_methodNamed Bd.named
  have hnm := (name_of_methodNamed Bd.named Bd.method).1
  have X0 : Stand p l e ({ frames := 0, cells := 0, slots := 0, locals := 0 } : Room) s m #[(.ref a1), (.int (8 : Int32))] below meth c s₁ [] 0 0 := Stand.of_body Bd
  have e0 : s₁.heap = h0 := by rw [← hh, Bd.state]; rfl
  have pre0 : ∀ t, Steps p.tables e below (s₁.setTop (mkF m 0 #[.val (.ref a1), .val (.int (8 : Int32))] [])) t → Steps p.tables e below (s₁.setTop (entryFrame m #[(.ref a1), (.int (8 : Int32))] 2)) t := fun t k => castTop (ef_6_VALIDATE m a1) k
  obtain ⟨cl1, Ar1, q1, S1, M1, H1, G1⟩ := id V_b
  obtain ⟨fs, hr, hrun, hended, hW, hsame⟩ := X0.leave (v := some (.int (0 : Int32))) (fun h => by rw [Bd.returns] at h; cases h)
  refine ⟨_, _, pre0 _ ?_, hrun, hended, _, _, rfl, ?_, ⟨_, rfl⟩, hW, hsame.mono (by decide) (by decide)⟩
  · show Steps _ _ _ (s₁.setTop (mkF m 0 #[vR a1, vI 8] [])) _
    refine XS.iloadN X0.here hx rfl (hb hby d6_0) rfl ?_
    show Steps _ _ _ (s₁.setTop (mkF m 1 #[vR a1, vI 8] [iI 8])) _
    refine XS.aloadN X0.here hx rfl (hb hby d6_1) rfl rfl ?_
    show Steps _ _ _ (s₁.setTop (mkF m 2 #[vR a1, vI 8] [iR a1, iI 8])) _
    refine X0.arraylength hx (by rw [e0]; exact Ar1.1) (State.isArrayOf_alike hZ.alike Ar1.2.1) (g := (mkF m 2 #[vR a1, vI 8] [iR a1, iI 8])) rfl rfl (hb hby d6_2) _ ?_
    rw [len_of S1 M1]
    show Steps _ _ _ (s₁.setTop (mkF m 3 #[vR a1, vI 8] [iI 8, iI 8])) _
    refine XS.isub X0.here hx rfl (hb hby d6_3) rfl ?_
    rw [(by decide : ((8 : Int32) - (8 : Int32)) = (0 : Int32))]
    show Steps _ _ _ (s₁.setTop (mkF m 4 #[vR a1, vI 8] [iI 0])) _
    refine XS.bipush X0.here hx rfl (hb hby d6_4) ?_
    show Steps _ _ _ (s₁.setTop (mkF m 6 #[vR a1, vI 8] [iI 31, iI 0])) _
    refine XS.iushr X0.here hx rfl (hb hby d6_6) rfl ?_
    rw [(by decide : (((0 : Int32).toUInt32 >>> ((31 : Int32) &&& 31).toUInt32).toInt32) = (0 : Int32))]
    show Steps _ _ _ (s₁.setTop (mkF m 7 #[vR a1, vI 8] [iI 0])) _
    refine XS.i2b X0.here hx rfl (hb hby d6_7) rfl ?_
    rw [(by decide : (0 : Int32).toInt8.toInt32 = (0 : Int32))]
    show Steps _ _ _ (s₁.setTop (mkF m 8 #[vR a1, vI 8] [iI 0])) _
    exact retN X0 hx (t := .byte) Bd.returns (by simp) (hb hby d6_8) hr
  · show Q6_VALIDATE Z a1 kb h0 _ s₁.heap _
    rw [e0]
    exact ⟨rfl, rfl, rfl⟩
theorem d2_0 : decode jdk_42_method_149_code 0 = .ok (.aload_n 0, 1) := by decide +kernel
theorem d2_1 : decode jdk_42_method_149_code 1 = .ok (.invokespecial 1, 3) := by decide +kernel
theorem d2_4 : decode jdk_42_method_149_code 4 = .ok (.iload_n 3, 1) := by decide +kernel
theorem d2_5 : decode jdk_42_method_149_code 5 = .ok (.ifCond .ne 22, 3) := by decide +kernel
theorem d2_27 : decode jdk_42_method_149_code 27 = .ok (.getstatic 38, 3) := by decide +kernel
theorem d2_30 : decode jdk_42_method_149_code 30 = .ok (.ifCond .eq 28, 3) := by decide +kernel
theorem d2_33 : decode jdk_42_method_149_code 33 = .ok (.aload_n 1, 1) := by decide +kernel
theorem d2_34 : decode jdk_42_method_149_code 34 = .ok (.iload_n 2, 1) := by decide +kernel
theorem d2_35 : decode jdk_42_method_149_code 35 = .ok (.iload_n 3, 1) := by decide +kernel
theorem d2_36 : decode jdk_42_method_149_code 36 = .ok (.invokestatic 177, 3) := by decide +kernel
theorem d2_39 : decode jdk_42_method_149_code 39 = .ok (.astore 5, 2) := by decide +kernel
theorem d2_41 : decode jdk_42_method_149_code 41 = .ok (.aload_n 0, 1) := by decide +kernel
theorem d2_42 : decode jdk_42_method_149_code 42 = .ok (.aload 5, 2) := by decide +kernel
theorem d2_44 : decode jdk_42_method_149_code 44 = .ok (.iload_n 3, 1) := by decide +kernel
theorem d2_45 : decode jdk_42_method_149_code 45 = .ok (.invokestatic 47, 3) := by decide +kernel
theorem d2_48 : decode jdk_42_method_149_code 48 = .ok (.putfield 15, 3) := by decide +kernel
theorem d2_51 : decode jdk_42_method_149_code 51 = .ok (.aload_n 0, 1) := by decide +kernel
theorem d2_52 : decode jdk_42_method_149_code 52 = .ok (.aload 5, 2) := by decide +kernel
theorem d2_54 : decode jdk_42_method_149_code 54 = .ok (.putfield 9, 3) := by decide +kernel
theorem d2_57 : decode jdk_42_method_149_code 57 = .ok (.return_, 1) := by decide +kernel
theorem pn_1 : plainName "java/lang/String" = true := by first | (simp [plainName, overriddenIn]; done) | decide +kernel
theorem ef_2_VALIDATE (m : MethodId) (x0 : Addr) (x1 : Addr) : entryFrame m #[(.ref x0), (.ref x1), (.int (0 : Int32)), (.int (8 : Int32)), .null] 6 = mkF m 0 #[.val (.ref x0), .val (.ref x1), .val (.int (0 : Int32)), .val (.int (8 : Int32)), .val .null, .unset] [] := by first | (simp [entryFrame, mkF, argsToLocals, Value.category]; done) | rfl
def Q2_VALIDATE (Z : State) (a1 : Addr) (a2 : Addr) (kc : ClassId) (cs : Int32) (h0 : Heap) (n0 : Nat) (v : Option Value) (h : Heap) (L : List Loc) : Prop := ∃ (b : Addr) (kb : ClassId), v = none ∧ Fr n0 L ∧ Keep h0 h [a1] ∧ Exa Z h a1 "java/lang/String" ∧ Fld Z h a1 "java/lang/String" "coder" "B" (.int (0 : Int32)) ∧ Fld Z h a1 "java/lang/String" "value" "[B" (.ref b) ∧ Arv Z h b kb .byte (8 : Int32) [(.int (118 : Int32)), (.int (97 : Int32)), (.int (108 : Int32)), (.int (105 : Int32)), (.int (100 : Int32)), (.int (97 : Int32)), (.int (116 : Int32)), (.int (101 : Int32))] (.int (0 : Int32)) ∧ h0.size ≤ b
set_option maxRecDepth 65536 in
set_option maxHeartbeats 40000000 in
theorem rm2_VALIDATE (l : Launch) (Z : State) (a0 : Array Value) (hw : ∀ d ∈ tables_1, d.before a0 Z = true) (ws : List Jvm.Cond) (a1 : Addr) (a2 : Addr) (kc : ClassId) (cs : Int32) (h0 : Heap) (n0 : Nat) (Z0 : n0 ≤ h0.size) (O0 : Old Z n0 h0) (E_a1 : Exa Z h0 a1 "java/lang/String") (g_a1 : n0 ≤ a1) (F_v : Fld Z h0 a1 "java/lang/String" "value" "[B" .null) (F_c : Fld Z h0 a1 "java/lang/String" "coder" "B" (.int (0 : Int32))) (V_c : Arv Z h0 a2 kc .char (8 : Int32) [(.int (118 : Int32)), (.int (97 : Int32)), (.int (108 : Int32)), (.int (105 : Int32)), (.int (100 : Int32)), (.int (97 : Int32)), (.int (116 : Int32)), (.int (101 : Int32))] (.int (0 : Int32))) (ne_a1_a2 : a1 ≠ a2) (S_CS : Sta Z Z.heap "java/lang/String" "COMPACT_STRINGS" "Z" (.int cs)) (h_cs : ¬ cs = (0 : Int32)) :
    MetFree l (⟨"java/lang/String", "<init>", "([CIILjava/lang/Void;)V"⟩ : MethodName) (head1 (Jvm.Cond.code (⟨"java/lang/String", "<init>", "([CIILjava/lang/Void;)V"⟩ : MethodName) jdk_42_method_149_code 6 none :: ws) ({ frames := 2, cells := 1, slots := 8, locals := 35 } : Room)) (fun a U => a = #[(.ref a1), (.ref a2), (.int (0 : Int32)), (.int (8 : Int32)), .null] ∧ Z.Warmed39 U.vm ∧ U.heap = h0) (fun _ _ _ _ _ => True) (fun _ U o U' => ∃ v L, o = .returned v ∧ Q2_VALIDATE Z a1 a2 kc cs h0 n0 v U'.heap L ∧ FrameEnd U o U' L ({ frames := 2, cells := 1, slots := 8, locals := 35 } : Room).cells ({ frames := 2, cells := 1, slots := 8, locals := 35 } : Room).slots) := by
  refine MetFree.of_bodySF (plainFor_of_name pn_1) hisR ?_
  intro p e s m args below meth c s₁ Bd hml0 hP hK
  obtain ⟨rfl, hZ, hh⟩ := hP
  have hx := Bd.exec
  have hby := Bd.bytes
  have hml : c.maxLocals = 6 := hml0
  have hown : s.vm.findClass "java/lang/String" = some m.cls := findClass_of_methodNamed Bd.named
  have hnm := (name_of_methodNamed Bd.named Bd.method).1
  have X0 : Stand p l e ({ frames := 2, cells := 1, slots := 8, locals := 35 } : Room) s m #[(.ref a1), (.ref a2), (.int (0 : Int32)), (.int (8 : Int32)), .null] below meth c s₁ [] 0 0 := Stand.of_body Bd
  have e0 : s₁.heap = h0 := by rw [← hh, Bd.state]; rfl
  have N0 := Fr.nil n0
  have K0 := Keep.refl h0 [a1]
  have pre0 : ∀ t, Steps p.tables e below (s₁.setTop (mkF m 0 #[.val (.ref a1), .val (.ref a2), .val (.int (0 : Int32)), .val (.int (8 : Int32)), .val .null, .unset] [])) t → Steps p.tables e below (s₁.setTop (entryFrame m #[(.ref a1), (.ref a2), (.int (0 : Int32)), (.int (8 : Int32)), .null] 6)) t := fun t k => castTop (ef_2_VALIDATE m a1 a2) k
  obtain ⟨T1, X1, e1, st1⟩ := initO X0 hx hZ hown (hw _ (List.mem_of_getElem? (i := 12) rfl)) (hw _ (List.mem_of_getElem? (i := 13) rfl)) (hw _ (List.mem_of_getElem? (i := 14) rfl)) e0 (g := (mkF m 1 #[vR a1, vR a2, vI 0, vI 8, .val .null, .unset] [iR a1])) rfl (by rw [hml]; rfl) rfl (hb hby d2_1) (by decide) (W := 0) (by show 2 * 0 + _ ≤ _; exact Nat.le_of_eq rfl) (by decide)
  obtain ⟨T2, X2, e2, st2⟩ := getS2 X1 hx hZ hown (host := "") (Or.inl (hw _ (List.mem_of_getElem? (i := 15) rfl))) Via.refl e1 (S_CS.ext O0.2) (g := (mkF m 27 #[vR a1, vR a2, vI 0, vI 8, .val .null, .unset] [])) rfl (hb hby d2_27)
  obtain ⟨_, _, ⟨T3, L3, k3, n3⟩, -, X3, ⟨Lc3, hQ3, l3, y3, z3⟩, st3⟩ := Jvm.LawKit.callS X2 hx (y := (⟨"java/lang/StringUTF16", "compress", "([CII)[B"⟩ : MethodName)) hown (mvT hZ (hw _ (List.mem_of_getElem? (i := 16) rfl))) (mvT hZ (hw _ (List.mem_of_getElem? (i := 17) rfl))) (mvT hZ (hw _ (List.mem_of_getElem? (i := 18) rfl))) (mvT hZ (hw _ (List.mem_of_getElem? (i := 19) rfl))) (by decide) (backOf (W := 0) (rm4_VALIDATE l Z a0 hw [] a2 kc  h0 n0 (Nat.le_trans Z0 K0.1) V_c ) hZ (hw _ (List.mem_of_getElem? (i := 19) rfl)) (hw _ (List.mem_of_getElem? (i := 18) rfl)) (by decide) (by decide)) (g := (mkF m 36 #[vR a1, vR a2, vI 0, vI 8, .val .null, .unset] [iI 8, iI 0, iR a2])) rfl (by rw [hml]; rfl) (argsL := [(.ref a2), (.int (0 : Int32)), (.int (8 : Int32))]) (rest := []) (lenOf pd_1 rfl) rfl (by show 2 * 0 + _ ≤ _; exact Nat.le_of_eq rfl) (hb hby d2_36) (fun _ _ => ⟨rfl, e2, (by decide : 0 + 1 ≤ _), (by decide : 0 + 8 ≤ _)⟩)
  dsimp only [Pt.U, Pt.locs, Pt.cells, Pt.slots] at X3 l3 y3 z3 st3 hQ3
  subst l3 y3 z3
  obtain ⟨d3, kd3, rfl, N3q, K3q, V3q, z_d3⟩ := hQ3
  have ne_a1_d3 : a1 ≠ d3 := Nat.ne_of_lt (Nat.lt_of_lt_of_le E_a1.lt z_d3)
  have ne_a2_d3 : a2 ≠ d3 := Nat.ne_of_lt (Nat.lt_of_lt_of_le V_c.lt z_d3)
  have sz_d3 : h0.size ≤ d3 := Nat.le_trans K0.1 z_d3
  have g_d3 : n0 ≤ d3 := Nat.le_trans Z0 sz_d3
  have N3 := Fr.app N0 N3q
  have K3 : Keep h0 T3.heap [a1] := Keep.trans K0 K3q all0
  obtain ⟨_, _, ⟨T4, L4, k4, n4⟩, -, X4, ⟨Lc4, hQ4, l4, y4, z4⟩, st4⟩ := Jvm.LawKit.callS X3 hx (y := (⟨"java/lang/StringUTF16", "coderFromArrayLen", "([BI)B"⟩ : MethodName)) hown (mvT hZ (hw _ (List.mem_of_getElem? (i := 24) rfl))) (mvT hZ (hw _ (List.mem_of_getElem? (i := 25) rfl))) (mvT hZ (hw _ (List.mem_of_getElem? (i := 18) rfl))) (mvT hZ (hw _ (List.mem_of_getElem? (i := 26) rfl))) (by decide) (backOf (W := 1) (rm6_VALIDATE l Z a0 hw [] d3 kd3  T3.heap V3q) hZ (hw _ (List.mem_of_getElem? (i := 26) rfl)) (hw _ (List.mem_of_getElem? (i := 18) rfl)) (by decide) (by decide)) (g := (mkF m 45 #[vR a1, vR a2, vI 0, vI 8, .val .null, vR d3] [iI 8, iR d3, iR a1])) rfl (by rw [hml]; rfl) (argsL := [(.ref d3), (.int (8 : Int32))]) (rest := [(.ref a1)]) (lenOf pd_2 rfl) rfl (by show 2 * 0 + _ ≤ _; exact Nat.le_of_eq rfl) (hb hby d2_45) (fun _ _ => ⟨rfl, rfl, (by decide : 1 + 0 ≤ _), (by decide : 8 + 0 ≤ _)⟩)
  dsimp only [Pt.U, Pt.locs, Pt.cells, Pt.slots] at X4 l4 y4 z4 st4 hQ4
  subst l4 y4 z4
  obtain ⟨rfl, rfl, e4⟩ := hQ4
  try rw [List.append_nil] at X4
  have fk5 := (F_c.keep K3q nin0)
  have fk6 := (E_a1.keep K3q)
  obtain ⟨T7, h7, X7, e7, W7, st7⟩ := putFN X4 hx hZ hown (hw _ (List.mem_of_getElem? (i := 27) rfl)) Via.refl e4 fk5 fk6 (Or.inr ⟨(hw _ (List.mem_of_getElem? (i := 28) rfl)), rfl, hnm⟩) (hw _ (List.mem_of_getElem? (i := 2) rfl)) (ty := .byte) (v' := (.int (0 : Int32))) (by decide) rfl (by decide) (g := (mkF m 48 #[vR a1, vR a2, vI 0, vI 8, .val .null, vR d3] [iI 0, iR a1])) rfl rfl (hb hby d2_48)
  have Fw7 := fk5.same W7
  have K7 : Keep h0 h7 [a1] := K3.wr W7 (Or.inl (List.mem_of_getElem? (i := 0) rfl))
  have N7 := Fr.snoc X7 N3 g_a1
  have fk8 := ((F_v.keep K3q nin0).other W7 (Or.inr (slot_ne (Or.inr (hw _ (List.mem_of_getElem? (i := 30) rfl))) (Or.inr (hw _ (List.mem_of_getElem? (i := 28) rfl))) (by decide) (t := (.array .byte)) (t' := .byte) (by decide) (by decide))))
  have fk9 := (fk6.wr W7)
  obtain ⟨T10, h10, X10, e10, W10, st10⟩ := putF X7 hx hZ hown (host := "") (Or.inl (hw _ (List.mem_of_getElem? (i := 29) rfl))) Via.refl e7 fk8 fk9 (Or.inr ⟨(hw _ (List.mem_of_getElem? (i := 30) rfl)), rfl, hnm⟩) (hw _ (List.mem_of_getElem? (i := 2) rfl)) (ty := (.array .byte)) (by decide) rfl rfl (g := (mkF m 54 #[vR a1, vR a2, vI 0, vI 8, .val .null, vR d3] [iR d3, iR a1])) rfl rfl (hb hby d2_54)
  have Fw10 := fk8.same W10
  have K10 : Keep h0 h10 [a1] := K7.wr W10 (Or.inl (List.mem_of_getElem? (i := 0) rfl))
  have N10 := Fr.snoc X10 N7 g_a1
  obtain ⟨fs, hr, hrun, hended, hW, hsame⟩ := X10.leave (v := none) (fun _ => rfl)
  have fk11 := (fk9.wr W10)
  have fk12 := (Fw7.other W10 (Or.inr (slot_ne (Or.inr (hw _ (List.mem_of_getElem? (i := 28) rfl))) (Or.inr (hw _ (List.mem_of_getElem? (i := 30) rfl))) (by decide) (t := .byte) (t' := (.array .byte)) (by decide) (by decide))))
  have fk13 := ((V3q.other W7 (Ne.symm ne_a1_d3)).other W10 (Ne.symm ne_a1_d3))
  refine ⟨_, _, pre0 _ ?_, hrun, hended, _, _, rfl, ?_, ⟨_, rfl⟩, hW, hsame.mono (by decide) (by decide)⟩
  · show Steps _ _ _ (s₁.setTop (mkF m 0 #[vR a1, vR a2, vI 0, vI 8, .val .null, .unset] [])) _
    refine XS.aloadN X0.here hx rfl (hb hby d2_0) rfl rfl ?_
    show Steps _ _ _ (s₁.setTop (mkF m 1 #[vR a1, vR a2, vI 0, vI 8, .val .null, .unset] [iR a1])) _
    refine st1 _ ?_
    show Steps _ _ _ (T1.setTop (mkF m 4 #[vR a1, vR a2, vI 0, vI 8, .val .null, .unset] [])) _
    refine XS.iloadN X1.here hx rfl (hb hby d2_4) rfl ?_
    show Steps _ _ _ (T1.setTop (mkF m 5 #[vR a1, vR a2, vI 0, vI 8, .val .null, .unset] [iI 8])) _
    refine XS.ifYes X1.here hx rfl (pc0 := 5) (pc' := 27) rfl (hb hby d2_5) rfl ((if0 _ _).trans (feq (by decide : ¬ ((8 : Int32) = (0 : Int32)))).2) (by decide) (by decide) ?_
    show Steps _ _ _ (T1.setTop (mkF m 27 #[vR a1, vR a2, vI 0, vI 8, .val .null, .unset] [])) _
    refine st2 _ ?_
    show Steps _ _ _ (T2.setTop (mkF m 30 #[vR a1, vR a2, vI 0, vI 8, .val .null, .unset] [iI cs])) _
    refine XS.ifNo X2.here hx rfl (hb hby d2_30) rfl ((if0 _ _).trans (feq h_cs).1) ?_
    show Steps _ _ _ (T2.setTop (mkF m 33 #[vR a1, vR a2, vI 0, vI 8, .val .null, .unset] [])) _
    refine XS.aloadN X2.here hx rfl (hb hby d2_33) rfl rfl ?_
    show Steps _ _ _ (T2.setTop (mkF m 34 #[vR a1, vR a2, vI 0, vI 8, .val .null, .unset] [iR a2])) _
    refine XS.iloadN X2.here hx rfl (hb hby d2_34) rfl ?_
    show Steps _ _ _ (T2.setTop (mkF m 35 #[vR a1, vR a2, vI 0, vI 8, .val .null, .unset] [iI 0, iR a2])) _
    refine XS.iloadN X2.here hx rfl (hb hby d2_35) rfl ?_
    show Steps _ _ _ (T2.setTop (mkF m 36 #[vR a1, vR a2, vI 0, vI 8, .val .null, .unset] [iI 8, iI 0, iR a2])) _
    refine st3 _ ?_
    show Steps _ _ _ (T3.setTop (mkF m 39 #[vR a1, vR a2, vI 0, vI 8, .val .null, .unset] [iR d3])) _
    refine XS.astore X3.here hx rfl (hb hby d2_39) rfl rfl (l' := #[vR a1, vR a2, vI 0, vI 8, .val .null, vR d3]) rfl ?_
    show Steps _ _ _ (T3.setTop (mkF m 41 #[vR a1, vR a2, vI 0, vI 8, .val .null, vR d3] [])) _
    refine XS.aloadN X3.here hx rfl (hb hby d2_41) rfl rfl ?_
    show Steps _ _ _ (T3.setTop (mkF m 42 #[vR a1, vR a2, vI 0, vI 8, .val .null, vR d3] [iR a1])) _
    refine XS.aload X3.here hx rfl (hb hby d2_42) rfl rfl ?_
    show Steps _ _ _ (T3.setTop (mkF m 44 #[vR a1, vR a2, vI 0, vI 8, .val .null, vR d3] [iR d3, iR a1])) _
    refine XS.iloadN X3.here hx rfl (hb hby d2_44) rfl ?_
    show Steps _ _ _ (T3.setTop (mkF m 45 #[vR a1, vR a2, vI 0, vI 8, .val .null, vR d3] [iI 8, iR d3, iR a1])) _
    refine st4 _ ?_
    show Steps _ _ _ (T4.setTop (mkF m 48 #[vR a1, vR a2, vI 0, vI 8, .val .null, vR d3] [iI 0, iR a1])) _
    refine st7 _ ?_
    show Steps _ _ _ (T7.setTop (mkF m 51 #[vR a1, vR a2, vI 0, vI 8, .val .null, vR d3] [])) _
    refine XS.aloadN X7.here hx rfl (hb hby d2_51) rfl rfl ?_
    show Steps _ _ _ (T7.setTop (mkF m 52 #[vR a1, vR a2, vI 0, vI 8, .val .null, vR d3] [iR a1])) _
    refine XS.aload X7.here hx rfl (hb hby d2_52) rfl rfl ?_
    show Steps _ _ _ (T7.setTop (mkF m 54 #[vR a1, vR a2, vI 0, vI 8, .val .null, vR d3] [iR d3, iR a1])) _
    refine st10 _ ?_
    show Steps _ _ _ (T10.setTop (mkF m 57 #[vR a1, vR a2, vI 0, vI 8, .val .null, vR d3] [])) _
    exact X10.returnOut hx Bd.returns (hb hby d2_57) hr
  · show Q2_VALIDATE Z a1 a2 kc cs h0 n0 _ T10.heap _
    rw [e10]
    exact ⟨_, _, rfl, N10, K10, fk11, fk12, Fw10, fk13, sz_d3⟩
theorem d1_0 : decode jdk_42_method_3_code 0 = .ok (.aload_n 0, 1) := by decide +kernel
theorem d1_1 : decode jdk_42_method_3_code 1 = .ok (.aload_n 1, 1) := by decide +kernel
theorem d1_2 : decode jdk_42_method_3_code 2 = .ok (.iconst 0, 1) := by decide +kernel
theorem d1_3 : decode jdk_42_method_3_code 3 = .ok (.aload_n 1, 1) := by decide +kernel
theorem d1_4 : decode jdk_42_method_3_code 4 = .ok (.arraylength, 1) := by decide +kernel
theorem d1_5 : decode jdk_42_method_3_code 5 = .ok (.aconst_null, 1) := by decide +kernel
theorem d1_6 : decode jdk_42_method_3_code 6 = .ok (.invokespecial 27, 3) := by decide +kernel
theorem d1_9 : decode jdk_42_method_3_code 9 = .ok (.return_, 1) := by decide +kernel
theorem ef_1_VALIDATE (m : MethodId) (x0 : Addr) (x1 : Addr) : entryFrame m #[(.ref x0), (.ref x1)] 2 = mkF m 0 #[.val (.ref x0), .val (.ref x1)] [] := by first | (simp [entryFrame, mkF, argsToLocals, Value.category]; done) | rfl
def Q1_VALIDATE (Z : State) (a1 : Addr) (a2 : Addr) (kc : ClassId) (cs : Int32) (h0 : Heap) (n0 : Nat) (v : Option Value) (h : Heap) (L : List Loc) : Prop := ∃ (b : Addr) (kb : ClassId), v = none ∧ Fr n0 L ∧ Keep h0 h [a1] ∧ Exa Z h a1 "java/lang/String" ∧ Fld Z h a1 "java/lang/String" "coder" "B" (.int (0 : Int32)) ∧ Fld Z h a1 "java/lang/String" "value" "[B" (.ref b) ∧ Arv Z h b kb .byte (8 : Int32) [(.int (118 : Int32)), (.int (97 : Int32)), (.int (108 : Int32)), (.int (105 : Int32)), (.int (100 : Int32)), (.int (97 : Int32)), (.int (116 : Int32)), (.int (101 : Int32))] (.int (0 : Int32)) ∧ h0.size ≤ b
set_option maxRecDepth 65536 in
set_option maxHeartbeats 40000000 in
theorem rm1_VALIDATE (l : Launch) (Z : State) (a0 : Array Value) (hw : ∀ d ∈ tables_1, d.before a0 Z = true) (ws : List Jvm.Cond) (a1 : Addr) (a2 : Addr) (kc : ClassId) (cs : Int32) (h0 : Heap) (n0 : Nat) (Z0 : n0 ≤ h0.size) (O0 : Old Z n0 h0) (E_a1 : Exa Z h0 a1 "java/lang/String") (g_a1 : n0 ≤ a1) (F_v : Fld Z h0 a1 "java/lang/String" "value" "[B" .null) (F_c : Fld Z h0 a1 "java/lang/String" "coder" "B" (.int (0 : Int32))) (V_c : Arv Z h0 a2 kc .char (8 : Int32) [(.int (118 : Int32)), (.int (97 : Int32)), (.int (108 : Int32)), (.int (105 : Int32)), (.int (100 : Int32)), (.int (97 : Int32)), (.int (116 : Int32)), (.int (101 : Int32))] (.int (0 : Int32))) (ne_a1_a2 : a1 ≠ a2) (S_CS : Sta Z Z.heap "java/lang/String" "COMPACT_STRINGS" "Z" (.int cs)) (h_cs : ¬ cs = (0 : Int32)) :
    MetFree l (⟨"java/lang/String", "<init>", "([C)V"⟩ : MethodName) (head1 (Jvm.Cond.code (⟨"java/lang/String", "<init>", "([C)V"⟩ : MethodName) jdk_42_method_3_code 2 none :: ws) ({ frames := 3, cells := 1, slots := 8, locals := 52 } : Room)) (fun a U => a = #[(.ref a1), (.ref a2)] ∧ Z.Warmed39 U.vm ∧ U.heap = h0) (fun _ _ _ _ _ => True) (fun _ U o U' => ∃ v L, o = .returned v ∧ Q1_VALIDATE Z a1 a2 kc cs h0 n0 v U'.heap L ∧ FrameEnd U o U' L ({ frames := 3, cells := 1, slots := 8, locals := 52 } : Room).cells ({ frames := 3, cells := 1, slots := 8, locals := 52 } : Room).slots) := by
  refine MetFree.of_bodySF (plainFor_of_name pn_1) hisR ?_
  intro p e s m args below meth c s₁ Bd hml0 hP hK
  obtain ⟨rfl, hZ, hh⟩ := hP
  have hx := Bd.exec
  have hby := Bd.bytes
  have hml : c.maxLocals = 2 := hml0
  have hown : s.vm.findClass "java/lang/String" = some m.cls := findClass_of_methodNamed Bd.named
  have hnm := (name_of_methodNamed Bd.named Bd.method).1
  have X0 : Stand p l e ({ frames := 3, cells := 1, slots := 8, locals := 52 } : Room) s m #[(.ref a1), (.ref a2)] below meth c s₁ [] 0 0 := Stand.of_body Bd
  have e0 : s₁.heap = h0 := by rw [← hh, Bd.state]; rfl
  have N0 := Fr.nil n0
  have K0 := Keep.refl h0 [a1]
  have pre0 : ∀ t, Steps p.tables e below (s₁.setTop (mkF m 0 #[.val (.ref a1), .val (.ref a2)] [])) t → Steps p.tables e below (s₁.setTop (entryFrame m #[(.ref a1), (.ref a2)] 2)) t := fun t k => castTop (ef_1_VALIDATE m a1 a2) k
  obtain ⟨cl1, Ar1, q1, S1, M1, H1, G1⟩ := id V_c
  obtain ⟨_, _, ⟨T2, L2, k2, n2⟩, -, X2, ⟨Lc2, hQ2, l2, y2, z2⟩, st2⟩ := X0.specialBack hx (y := (⟨"java/lang/String", "<init>", "([CIILjava/lang/Void;)V"⟩ : MethodName)) rfl hown (mvT hZ (hw _ (List.mem_of_getElem? (i := 8) rfl))) (mvT hZ (hw _ (List.mem_of_getElem? (i := 9) rfl))) (mvT hZ (hw _ (List.mem_of_getElem? (i := 11) rfl))) (by decide) (backOf (W := 0) (rm2_VALIDATE l Z a0 hw [] a1 a2 kc  cs h0 n0 (Nat.le_trans Z0 K0.1) O0 E_a1 g_a1 F_v F_c V_c ne_a1_a2  S_CS h_cs) hZ (hw _ (List.mem_of_getElem? (i := 11) rfl)) (hw _ (List.mem_of_getElem? (i := 3) rfl)) (by decide) (by decide)) (g := (mkF m 6 #[vR a1, vR a2] [.null, iI 8, iI 0, iR a2, iR a1])) rfl (by rw [hml]; rfl) (Steps.refl _) (a := a1) (argsL := [(.ref a2), (.int (0 : Int32)), (.int (8 : Int32)), .null]) (rest := []) (lenOf pd_3 rfl) rfl (by show 2 * 0 + _ ≤ _; exact Nat.le_of_eq rfl) (hb hby d1_6) (fun _ _ => ⟨rfl, e0, (by decide : 0 + 1 ≤ _), (by decide : 0 + 8 ≤ _)⟩)
  dsimp only [Pt.U, Pt.locs, Pt.cells, Pt.slots] at X2 l2 y2 z2 st2 hQ2
  subst l2 y2 z2
  obtain ⟨d2, kd2, rfl, N2q, K2q, E2q, C2q, F2q, V2q, z_d2⟩ := hQ2
  have ne_a1_d2 : a1 ≠ d2 := Nat.ne_of_lt (Nat.lt_of_lt_of_le E_a1.lt z_d2)
  have ne_a2_d2 : a2 ≠ d2 := Nat.ne_of_lt (Nat.lt_of_lt_of_le V_c.lt z_d2)
  have sz_d2 : h0.size ≤ d2 := Nat.le_trans K0.1 z_d2
  have g_d2 : n0 ≤ d2 := Nat.le_trans Z0 sz_d2
  have N2 := Fr.app N0 N2q
  have K2 : Keep h0 T2.heap [a1] := Keep.trans K0 K2q (allS (Or.inl (List.mem_of_getElem? (i := 0) rfl)) all0)
  obtain ⟨fs, hr, hrun, hended, hW, hsame⟩ := X2.leave (v := none) (fun _ => rfl)
  refine ⟨_, _, pre0 _ ?_, hrun, hended, _, _, rfl, ?_, ⟨_, rfl⟩, hW, hsame.mono (by decide) (by decide)⟩
  · show Steps _ _ _ (s₁.setTop (mkF m 0 #[vR a1, vR a2] [])) _
    refine XS.aloadN X0.here hx rfl (hb hby d1_0) rfl rfl ?_
    show Steps _ _ _ (s₁.setTop (mkF m 1 #[vR a1, vR a2] [iR a1])) _
    refine XS.aloadN X0.here hx rfl (hb hby d1_1) rfl rfl ?_
    show Steps _ _ _ (s₁.setTop (mkF m 2 #[vR a1, vR a2] [iR a2, iR a1])) _
    refine XS.iconst X0.here hx rfl (hb hby d1_2) ?_
    show Steps _ _ _ (s₁.setTop (mkF m 3 #[vR a1, vR a2] [iI 0, iR a2, iR a1])) _
    refine XS.aloadN X0.here hx rfl (hb hby d1_3) rfl rfl ?_
    show Steps _ _ _ (s₁.setTop (mkF m 4 #[vR a1, vR a2] [iR a2, iI 0, iR a2, iR a1])) _
    refine X0.arraylength hx (by rw [e0]; exact Ar1.1) (State.isArrayOf_alike hZ.alike Ar1.2.1) (g := (mkF m 4 #[vR a1, vR a2] [iR a2, iI 0, iR a2, iR a1])) rfl rfl (hb hby d1_4) _ ?_
    rw [len_of S1 M1]
    show Steps _ _ _ (s₁.setTop (mkF m 5 #[vR a1, vR a2] [iI 8, iI 0, iR a2, iR a1])) _
    refine XS.aconstNull X0.here hx rfl (hb hby d1_5) ?_
    show Steps _ _ _ (s₁.setTop (mkF m 6 #[vR a1, vR a2] [.null, iI 8, iI 0, iR a2, iR a1])) _
    refine st2.trans ?_
    show Steps _ _ _ (T2.setTop (mkF m 9 #[vR a1, vR a2] [])) _
    exact X2.returnOut hx Bd.returns (hb hby d1_9) hr
  · show Q1_VALIDATE Z a1 a2 kc cs h0 n0 _ T2.heap _
    exact ⟨_, _, rfl, N2, K2, E2q, C2q, F2q, V2q, sz_d2⟩
theorem ef_5_FORMAT (m : MethodId) (x0 : Addr) (x2 : Addr) : entryFrame m #[(.ref x0), (.int (0 : Int32)), (.ref x2), (.int (0 : Int32)), (.int (6 : Int32))] 7 = mkF m 0 #[.val (.ref x0), .val (.int (0 : Int32)), .val (.ref x2), .val (.int (0 : Int32)), .val (.int (6 : Int32)), .unset, .unset] [] := by first | (simp [entryFrame, mkF, argsToLocals, Value.category]; done) | rfl
def Q5_FORMAT (Z : State) (a1 : Addr) (a3 : Addr) (kc kb : ClassId) (h0 : Heap) (n0 : Nat) (v : Option Value) (h : Heap) (L : List Loc) : Prop := v = some (.int (6 : Int32)) ∧ Fr n0 L ∧ Keep h0 h [a3] ∧ Arv Z h a3 kb .byte (6 : Int32) [(.int (102 : Int32)), (.int (111 : Int32)), (.int (114 : Int32)), (.int (109 : Int32)), (.int (97 : Int32)), (.int (116 : Int32))] (.int (0 : Int32))
set_option maxRecDepth 65536 in
set_option maxHeartbeats 40000000 in
theorem rm5_FORMAT (l : Launch) (Z : State) (a0 : Array Value) (hw : ∀ d ∈ tables_1, d.before a0 Z = true) (ws : List Jvm.Cond) (a1 : Addr) (a3 : Addr) (kc kb : ClassId) (h0 : Heap) (n0 : Nat) (Z0 : n0 ≤ h0.size) (V_c : Arv Z h0 a1 kc .char (6 : Int32) [(.int (102 : Int32)), (.int (111 : Int32)), (.int (114 : Int32)), (.int (109 : Int32)), (.int (97 : Int32)), (.int (116 : Int32))] (.int (0 : Int32))) (V_b : Arv Z h0 a3 kb .byte (6 : Int32) [(.int (0 : Int32)), (.int (0 : Int32)), (.int (0 : Int32)), (.int (0 : Int32)), (.int (0 : Int32)), (.int (0 : Int32))] (.int (0 : Int32))) (ne_a1_a3 : a1 ≠ a3) (g_a3 : n0 ≤ a3) :
    MetFree l (⟨"java/lang/StringUTF16", "compress", "([CI[BII)I"⟩ : MethodName) (head1 (Jvm.Cond.code (⟨"java/lang/StringUTF16", "compress", "([CI[BII)I"⟩ : MethodName) jdk_52_method_21_code 7 (some .int) :: ws) ({ frames := 0, cells := 0, slots := 0, locals := 0 } : Room)) (fun a U => a = #[(.ref a1), (.int (0 : Int32)), (.ref a3), (.int (0 : Int32)), (.int (6 : Int32))] ∧ Z.Warmed39 U.vm ∧ U.heap = h0) (fun _ _ _ _ _ => True) (fun _ U o U' => ∃ v L, o = .returned v ∧ Q5_FORMAT Z a1 a3 kc kb h0 n0 v U'.heap L ∧ FrameEnd U o U' L ({ frames := 0, cells := 0, slots := 0, locals := 0 } : Room).cells ({ frames := 0, cells := 0, slots := 0, locals := 0 } : Room).slots) := by
  refine MetFree.of_bodySF (plainFor_of_name pn_0) hisR ?_
  intro p e s m args below meth c s₁ Bd hml0 hP hK
  obtain ⟨rfl, hZ, hh⟩ := hP
  have hx := Bd.exec
  have hby := Bd.bytes
  have hml : c.maxLocals = 7 := hml0
  have hown : s.vm.findClass "java/lang/StringUTF16" = some m.cls := findClass_of_methodNamed Bd.named
  have hnm := (name_of_methodNamed Bd.named Bd.method).1
  have X0 : Stand p l e ({ frames := 0, cells := 0, slots := 0, locals := 0 } : Room) s m #[(.ref a1), (.int (0 : Int32)), (.ref a3), (.int (0 : Int32)), (.int (6 : Int32))] below meth c s₁ [] 0 0 := Stand.of_body Bd
  have e0 : s₁.heap = h0 := by rw [← hh, Bd.state]; rfl
  have N0 := Fr.nil n0
  have K0 := Keep.refl h0 [a3]
  have pre0 : ∀ t, Steps p.tables e below (s₁.setTop (mkF m 0 #[.val (.ref a1), .val (.int (0 : Int32)), .val (.ref a3), .val (.int (0 : Int32)), .val (.int (6 : Int32)), .unset, .unset] [])) t → Steps p.tables e below (s₁.setTop (entryFrame m #[(.ref a1), (.int (0 : Int32)), (.ref a3), (.int (0 : Int32)), (.int (6 : Int32))] 7)) t := fun t k => castTop (ef_5_FORMAT m a1 a3) k
  obtain ⟨cl1, Ar1, q1, S1, M1, H1, G1⟩ := id V_c
  have hin2 : ¬ ((0 : Int32) < 0 ∨ cl1.slots.size ≤ ((0 : Int32)).toNatClampNeg) := inb_of S1 ⟨by decide, by decide⟩
  have hat3 : cl1.slots[((0 : Int32)).toNatClampNeg]? = some (.int (102 : Int32)) := Has.at H1 hin2 rfl
  obtain ⟨cl4, Ar4, q4, S4, M4, H4, G4⟩ := id V_b
  have hin5 : ¬ ((0 : Int32) < 0 ∨ cl4.slots.size ≤ ((0 : Int32)).toNatClampNeg) := inb_of S4 ⟨by decide, by decide⟩
  obtain ⟨T6, h6, X6, e6, W6, st6⟩ := stB X0 hx hZ e0 Ar4 (j := (0 : Int32)) hin5 (g := (mkF m 31 #[vR a1, vI 0, vR a3, vI 0, vI 6, vI 0, vI 102] [iI 102, iI 0, iR a3])) rfl rfl (hb hby d5_31)
  have V6 : Arv Z h6 a3 kb .byte (6 : Int32) [(.int (102 : Int32)), (.int (0 : Int32)), (.int (0 : Int32)), (.int (0 : Int32)), (.int (0 : Int32)), (.int (0 : Int32))] (.int (0 : Int32)) := Arv.set Ar4 q4 S4 M4 H4 G4 (by decide) W6 0 rfl (Nat.le_of_ble_eq_true rfl)
  have K6 : Keep h0 h6 [a3] := K0.wr W6 (Or.inl (List.mem_of_getElem? (i := 0) rfl))
  have N6 := Fr.snoc X6 N0 g_a3
  have fk7 := (V_c.other W6 ne_a1_a3)
  obtain ⟨cl8, Ar8, q8, S8, M8, H8, G8⟩ := id fk7
  have hin9 : ¬ ((1 : Int32) < 0 ∨ cl8.slots.size ≤ ((1 : Int32)).toNatClampNeg) := inb_of S8 ⟨by decide, by decide⟩
  have hat10 : cl8.slots[((1 : Int32)).toNatClampNeg]? = some (.int (111 : Int32)) := Has.at H8 hin9 rfl
  obtain ⟨cl11, Ar11, q11, S11, M11, H11, G11⟩ := id V6
  have hin12 : ¬ ((1 : Int32) < 0 ∨ cl11.slots.size ≤ ((1 : Int32)).toNatClampNeg) := inb_of S11 ⟨by decide, by decide⟩
  obtain ⟨T13, h13, X13, e13, W13, st13⟩ := stB X6 hx hZ e6 Ar11 (j := (1 : Int32)) hin12 (g := (mkF m 31 #[vR a1, vI 1, vR a3, vI 1, vI 6, vI 1, vI 111] [iI 111, iI 1, iR a3])) rfl rfl (hb hby d5_31)
  have V13 : Arv Z h13 a3 kb .byte (6 : Int32) [(.int (102 : Int32)), (.int (111 : Int32)), (.int (0 : Int32)), (.int (0 : Int32)), (.int (0 : Int32)), (.int (0 : Int32))] (.int (0 : Int32)) := Arv.set Ar11 q11 S11 M11 H11 G11 (by decide) W13 1 rfl (Nat.le_of_ble_eq_true rfl)
  have K13 : Keep h0 h13 [a3] := K6.wr W13 (Or.inl (List.mem_of_getElem? (i := 0) rfl))
  have N13 := Fr.snoc X13 N6 g_a3
  have fk14 := (fk7.other W13 ne_a1_a3)
  obtain ⟨cl15, Ar15, q15, S15, M15, H15, G15⟩ := id fk14
  have hin16 : ¬ ((2 : Int32) < 0 ∨ cl15.slots.size ≤ ((2 : Int32)).toNatClampNeg) := inb_of S15 ⟨by decide, by decide⟩
  have hat17 : cl15.slots[((2 : Int32)).toNatClampNeg]? = some (.int (114 : Int32)) := Has.at H15 hin16 rfl
  obtain ⟨cl18, Ar18, q18, S18, M18, H18, G18⟩ := id V13
  have hin19 : ¬ ((2 : Int32) < 0 ∨ cl18.slots.size ≤ ((2 : Int32)).toNatClampNeg) := inb_of S18 ⟨by decide, by decide⟩
  obtain ⟨T20, h20, X20, e20, W20, st20⟩ := stB X13 hx hZ e13 Ar18 (j := (2 : Int32)) hin19 (g := (mkF m 31 #[vR a1, vI 2, vR a3, vI 2, vI 6, vI 2, vI 114] [iI 114, iI 2, iR a3])) rfl rfl (hb hby d5_31)
  have V20 : Arv Z h20 a3 kb .byte (6 : Int32) [(.int (102 : Int32)), (.int (111 : Int32)), (.int (114 : Int32)), (.int (0 : Int32)), (.int (0 : Int32)), (.int (0 : Int32))] (.int (0 : Int32)) := Arv.set Ar18 q18 S18 M18 H18 G18 (by decide) W20 2 rfl (Nat.le_of_ble_eq_true rfl)
  have K20 : Keep h0 h20 [a3] := K13.wr W20 (Or.inl (List.mem_of_getElem? (i := 0) rfl))
  have N20 := Fr.snoc X20 N13 g_a3
  have fk21 := (fk14.other W20 ne_a1_a3)
  obtain ⟨cl22, Ar22, q22, S22, M22, H22, G22⟩ := id fk21
  have hin23 : ¬ ((3 : Int32) < 0 ∨ cl22.slots.size ≤ ((3 : Int32)).toNatClampNeg) := inb_of S22 ⟨by decide, by decide⟩
  have hat24 : cl22.slots[((3 : Int32)).toNatClampNeg]? = some (.int (109 : Int32)) := Has.at H22 hin23 rfl
  obtain ⟨cl25, Ar25, q25, S25, M25, H25, G25⟩ := id V20
  have hin26 : ¬ ((3 : Int32) < 0 ∨ cl25.slots.size ≤ ((3 : Int32)).toNatClampNeg) := inb_of S25 ⟨by decide, by decide⟩
  obtain ⟨T27, h27, X27, e27, W27, st27⟩ := stB X20 hx hZ e20 Ar25 (j := (3 : Int32)) hin26 (g := (mkF m 31 #[vR a1, vI 3, vR a3, vI 3, vI 6, vI 3, vI 109] [iI 109, iI 3, iR a3])) rfl rfl (hb hby d5_31)
  have V27 : Arv Z h27 a3 kb .byte (6 : Int32) [(.int (102 : Int32)), (.int (111 : Int32)), (.int (114 : Int32)), (.int (109 : Int32)), (.int (0 : Int32)), (.int (0 : Int32))] (.int (0 : Int32)) := Arv.set Ar25 q25 S25 M25 H25 G25 (by decide) W27 3 rfl (Nat.le_of_ble_eq_true rfl)
  have K27 : Keep h0 h27 [a3] := K20.wr W27 (Or.inl (List.mem_of_getElem? (i := 0) rfl))
  have N27 := Fr.snoc X27 N20 g_a3
  have fk28 := (fk21.other W27 ne_a1_a3)
  obtain ⟨cl29, Ar29, q29, S29, M29, H29, G29⟩ := id fk28
  have hin30 : ¬ ((4 : Int32) < 0 ∨ cl29.slots.size ≤ ((4 : Int32)).toNatClampNeg) := inb_of S29 ⟨by decide, by decide⟩
  have hat31 : cl29.slots[((4 : Int32)).toNatClampNeg]? = some (.int (97 : Int32)) := Has.at H29 hin30 rfl
  obtain ⟨cl32, Ar32, q32, S32, M32, H32, G32⟩ := id V27
  have hin33 : ¬ ((4 : Int32) < 0 ∨ cl32.slots.size ≤ ((4 : Int32)).toNatClampNeg) := inb_of S32 ⟨by decide, by decide⟩
  obtain ⟨T34, h34, X34, e34, W34, st34⟩ := stB X27 hx hZ e27 Ar32 (j := (4 : Int32)) hin33 (g := (mkF m 31 #[vR a1, vI 4, vR a3, vI 4, vI 6, vI 4, vI 97] [iI 97, iI 4, iR a3])) rfl rfl (hb hby d5_31)
  have V34 : Arv Z h34 a3 kb .byte (6 : Int32) [(.int (102 : Int32)), (.int (111 : Int32)), (.int (114 : Int32)), (.int (109 : Int32)), (.int (97 : Int32)), (.int (0 : Int32))] (.int (0 : Int32)) := Arv.set Ar32 q32 S32 M32 H32 G32 (by decide) W34 4 rfl (Nat.le_of_ble_eq_true rfl)
  have K34 : Keep h0 h34 [a3] := K27.wr W34 (Or.inl (List.mem_of_getElem? (i := 0) rfl))
  have N34 := Fr.snoc X34 N27 g_a3
  have fk35 := (fk28.other W34 ne_a1_a3)
  obtain ⟨cl36, Ar36, q36, S36, M36, H36, G36⟩ := id fk35
  have hin37 : ¬ ((5 : Int32) < 0 ∨ cl36.slots.size ≤ ((5 : Int32)).toNatClampNeg) := inb_of S36 ⟨by decide, by decide⟩
  have hat38 : cl36.slots[((5 : Int32)).toNatClampNeg]? = some (.int (116 : Int32)) := Has.at H36 hin37 rfl
  obtain ⟨cl39, Ar39, q39, S39, M39, H39, G39⟩ := id V34
  have hin40 : ¬ ((5 : Int32) < 0 ∨ cl39.slots.size ≤ ((5 : Int32)).toNatClampNeg) := inb_of S39 ⟨by decide, by decide⟩
  obtain ⟨T41, h41, X41, e41, W41, st41⟩ := stB X34 hx hZ e34 Ar39 (j := (5 : Int32)) hin40 (g := (mkF m 31 #[vR a1, vI 5, vR a3, vI 5, vI 6, vI 5, vI 116] [iI 116, iI 5, iR a3])) rfl rfl (hb hby d5_31)
  have V41 : Arv Z h41 a3 kb .byte (6 : Int32) [(.int (102 : Int32)), (.int (111 : Int32)), (.int (114 : Int32)), (.int (109 : Int32)), (.int (97 : Int32)), (.int (116 : Int32))] (.int (0 : Int32)) := Arv.set Ar39 q39 S39 M39 H39 G39 (by decide) W41 5 rfl (Nat.le_of_ble_eq_true rfl)
  have K41 : Keep h0 h41 [a3] := K34.wr W41 (Or.inl (List.mem_of_getElem? (i := 0) rfl))
  have N41 := Fr.snoc X41 N34 g_a3
  obtain ⟨fs, hr, hrun, hended, hW, hsame⟩ := X41.leave (v := some (.int (6 : Int32))) (fun h => by rw [Bd.returns] at h; cases h)
  refine ⟨_, _, pre0 _ ?_, hrun, hended, _, _, rfl, ?_, ⟨_, rfl⟩, hW, hsame.mono (by decide) (by decide)⟩
  · show Steps _ _ _ (s₁.setTop (mkF m 0 #[vR a1, vI 0, vR a3, vI 0, vI 6, .unset, .unset] [])) _
    refine XS.iconst X0.here hx rfl (hb hby d5_0) ?_
    show Steps _ _ _ (s₁.setTop (mkF m 1 #[vR a1, vI 0, vR a3, vI 0, vI 6, .unset, .unset] [iI 0])) _
    refine XS.istore X0.here hx rfl (hb hby d5_1) rfl (l' := #[vR a1, vI 0, vR a3, vI 0, vI 6, vI 0, .unset]) rfl ?_
    show Steps _ _ _ (s₁.setTop (mkF m 3 #[vR a1, vI 0, vR a3, vI 0, vI 6, vI 0, .unset] [])) _
    refine XS.iload X0.here hx rfl (hb hby d5_3) rfl ?_
    show Steps _ _ _ (s₁.setTop (mkF m 5 #[vR a1, vI 0, vR a3, vI 0, vI 6, vI 0, .unset] [iI 0])) _
    refine XS.iload X0.here hx rfl (hb hby d5_5) rfl ?_
    show Steps _ _ _ (s₁.setTop (mkF m 7 #[vR a1, vI 0, vR a3, vI 0, vI 6, vI 0, .unset] [iI 6, iI 0])) _
    refine XS.icmpNo X0.here hx rfl (hb hby d5_7) rfl (tlt (by decide : (0 : Int32) < (6 : Int32))).2.1 ?_
    show Steps _ _ _ (s₁.setTop (mkF m 10 #[vR a1, vI 0, vR a3, vI 0, vI 6, vI 0, .unset] [])) _
    refine XS.aloadN X0.here hx rfl (hb hby d5_10) rfl rfl ?_
    show Steps _ _ _ (s₁.setTop (mkF m 11 #[vR a1, vI 0, vR a3, vI 0, vI 6, vI 0, .unset] [iR a1])) _
    refine XS.iloadN X0.here hx rfl (hb hby d5_11) rfl ?_
    show Steps _ _ _ (s₁.setTop (mkF m 12 #[vR a1, vI 0, vR a3, vI 0, vI 6, vI 0, .unset] [iI 0, iR a1])) _
    refine X0.caload hx (j := (0 : Int32)) (v := (.int (102 : Int32))) (by rw [e0]; exact Ar1.1) (State.isArrayOf_alike hZ.alike Ar1.2.1) Ar1.2.2 hin2 hat3 (g := (mkF m 12 #[vR a1, vI 0, vR a3, vI 0, vI 6, vI 0, .unset] [iI 0, iR a1])) rfl rfl (hb hby d5_12) _ ?_
    show Steps _ _ _ (s₁.setTop (mkF m 13 #[vR a1, vI 0, vR a3, vI 0, vI 6, vI 0, .unset] [iI 102])) _
    refine XS.istore X0.here hx rfl (hb hby d5_13) rfl (l' := #[vR a1, vI 0, vR a3, vI 0, vI 6, vI 0, vI 102]) rfl ?_
    show Steps _ _ _ (s₁.setTop (mkF m 15 #[vR a1, vI 0, vR a3, vI 0, vI 6, vI 0, vI 102] [])) _
    refine XS.iload X0.here hx rfl (hb hby d5_15) rfl ?_
    show Steps _ _ _ (s₁.setTop (mkF m 17 #[vR a1, vI 0, vR a3, vI 0, vI 6, vI 0, vI 102] [iI 102])) _
    refine XS.sipush X0.here hx rfl (hb hby d5_17) ?_
    show Steps _ _ _ (s₁.setTop (mkF m 20 #[vR a1, vI 0, vR a3, vI 0, vI 6, vI 0, vI 102] [iI 255, iI 102])) _
    refine XS.icmpYes X0.here hx rfl (pc0 := 20) (pc' := 26) rfl (hb hby d5_20) rfl (flt (by decide : ¬ ((255 : Int32) < (102 : Int32)))).2.2.2 (by decide) (by decide) ?_
    show Steps _ _ _ (s₁.setTop (mkF m 26 #[vR a1, vI 0, vR a3, vI 0, vI 6, vI 0, vI 102] [])) _
    refine XS.aloadN X0.here hx rfl (hb hby d5_26) rfl rfl ?_
    show Steps _ _ _ (s₁.setTop (mkF m 27 #[vR a1, vI 0, vR a3, vI 0, vI 6, vI 0, vI 102] [iR a3])) _
    refine XS.iloadN X0.here hx rfl (hb hby d5_27) rfl ?_
    show Steps _ _ _ (s₁.setTop (mkF m 28 #[vR a1, vI 0, vR a3, vI 0, vI 6, vI 0, vI 102] [iI 0, iR a3])) _
    refine XS.iload X0.here hx rfl (hb hby d5_28) rfl ?_
    show Steps _ _ _ (s₁.setTop (mkF m 30 #[vR a1, vI 0, vR a3, vI 0, vI 6, vI 0, vI 102] [iI 102, iI 0, iR a3])) _
    refine XS.i2b X0.here hx rfl (hb hby d5_30) rfl ?_
    rw [(by decide : (102 : Int32).toInt8.toInt32 = (102 : Int32))]
    show Steps _ _ _ (s₁.setTop (mkF m 31 #[vR a1, vI 0, vR a3, vI 0, vI 6, vI 0, vI 102] [iI 102, iI 0, iR a3])) _
    refine st6 _ ?_
    show Steps _ _ _ (T6.setTop (mkF m 32 #[vR a1, vI 0, vR a3, vI 0, vI 6, vI 0, vI 102] [])) _
    refine XS.iinc X6.here hx rfl (hb hby d5_32) rfl (l' := #[vR a1, vI ((0 : Int32) + (1 : Int32)), vR a3, vI 0, vI 6, vI 0, vI 102]) rfl ?_
    rw [(by decide : ((0 : Int32) + (1 : Int32)) = (1 : Int32))]
    show Steps _ _ _ (T6.setTop (mkF m 35 #[vR a1, vI 1, vR a3, vI 0, vI 6, vI 0, vI 102] [])) _
    refine XS.iinc X6.here hx rfl (hb hby d5_35) rfl (l' := #[vR a1, vI 1, vR a3, vI ((0 : Int32) + (1 : Int32)), vI 6, vI 0, vI 102]) rfl ?_
    rw [(by decide : ((0 : Int32) + (1 : Int32)) = (1 : Int32))]
    show Steps _ _ _ (T6.setTop (mkF m 38 #[vR a1, vI 1, vR a3, vI 1, vI 6, vI 0, vI 102] [])) _
    refine XS.iinc X6.here hx rfl (hb hby d5_38) rfl (l' := #[vR a1, vI 1, vR a3, vI 1, vI 6, vI ((0 : Int32) + (1 : Int32)), vI 102]) rfl ?_
    rw [(by decide : ((0 : Int32) + (1 : Int32)) = (1 : Int32))]
    show Steps _ _ _ (T6.setTop (mkF m 41 #[vR a1, vI 1, vR a3, vI 1, vI 6, vI 1, vI 102] [])) _
    refine XS.goto X6.here hx rfl (pc0 := 41) (pc' := 3) rfl (hb hby d5_41) (by decide) (by decide) ?_
    show Steps _ _ _ (T6.setTop (mkF m 3 #[vR a1, vI 1, vR a3, vI 1, vI 6, vI 1, vI 102] [])) _
    refine XS.iload X6.here hx rfl (hb hby d5_3) rfl ?_
    show Steps _ _ _ (T6.setTop (mkF m 5 #[vR a1, vI 1, vR a3, vI 1, vI 6, vI 1, vI 102] [iI 1])) _
    refine XS.iload X6.here hx rfl (hb hby d5_5) rfl ?_
    show Steps _ _ _ (T6.setTop (mkF m 7 #[vR a1, vI 1, vR a3, vI 1, vI 6, vI 1, vI 102] [iI 6, iI 1])) _
    refine XS.icmpNo X6.here hx rfl (hb hby d5_7) rfl (tlt (by decide : (1 : Int32) < (6 : Int32))).2.1 ?_
    show Steps _ _ _ (T6.setTop (mkF m 10 #[vR a1, vI 1, vR a3, vI 1, vI 6, vI 1, vI 102] [])) _
    refine XS.aloadN X6.here hx rfl (hb hby d5_10) rfl rfl ?_
    show Steps _ _ _ (T6.setTop (mkF m 11 #[vR a1, vI 1, vR a3, vI 1, vI 6, vI 1, vI 102] [iR a1])) _
    refine XS.iloadN X6.here hx rfl (hb hby d5_11) rfl ?_
    show Steps _ _ _ (T6.setTop (mkF m 12 #[vR a1, vI 1, vR a3, vI 1, vI 6, vI 1, vI 102] [iI 1, iR a1])) _
    refine X6.caload hx (j := (1 : Int32)) (v := (.int (111 : Int32))) (by rw [e6]; exact Ar8.1) (State.isArrayOf_alike hZ.alike Ar8.2.1) Ar8.2.2 hin9 hat10 (g := (mkF m 12 #[vR a1, vI 1, vR a3, vI 1, vI 6, vI 1, vI 102] [iI 1, iR a1])) rfl rfl (hb hby d5_12) _ ?_
    show Steps _ _ _ (T6.setTop (mkF m 13 #[vR a1, vI 1, vR a3, vI 1, vI 6, vI 1, vI 102] [iI 111])) _
    refine XS.istore X6.here hx rfl (hb hby d5_13) rfl (l' := #[vR a1, vI 1, vR a3, vI 1, vI 6, vI 1, vI 111]) rfl ?_
    show Steps _ _ _ (T6.setTop (mkF m 15 #[vR a1, vI 1, vR a3, vI 1, vI 6, vI 1, vI 111] [])) _
    refine XS.iload X6.here hx rfl (hb hby d5_15) rfl ?_
    show Steps _ _ _ (T6.setTop (mkF m 17 #[vR a1, vI 1, vR a3, vI 1, vI 6, vI 1, vI 111] [iI 111])) _
    refine XS.sipush X6.here hx rfl (hb hby d5_17) ?_
    show Steps _ _ _ (T6.setTop (mkF m 20 #[vR a1, vI 1, vR a3, vI 1, vI 6, vI 1, vI 111] [iI 255, iI 111])) _
    refine XS.icmpYes X6.here hx rfl (pc0 := 20) (pc' := 26) rfl (hb hby d5_20) rfl (flt (by decide : ¬ ((255 : Int32) < (111 : Int32)))).2.2.2 (by decide) (by decide) ?_
    show Steps _ _ _ (T6.setTop (mkF m 26 #[vR a1, vI 1, vR a3, vI 1, vI 6, vI 1, vI 111] [])) _
    refine XS.aloadN X6.here hx rfl (hb hby d5_26) rfl rfl ?_
    show Steps _ _ _ (T6.setTop (mkF m 27 #[vR a1, vI 1, vR a3, vI 1, vI 6, vI 1, vI 111] [iR a3])) _
    refine XS.iloadN X6.here hx rfl (hb hby d5_27) rfl ?_
    show Steps _ _ _ (T6.setTop (mkF m 28 #[vR a1, vI 1, vR a3, vI 1, vI 6, vI 1, vI 111] [iI 1, iR a3])) _
    refine XS.iload X6.here hx rfl (hb hby d5_28) rfl ?_
    show Steps _ _ _ (T6.setTop (mkF m 30 #[vR a1, vI 1, vR a3, vI 1, vI 6, vI 1, vI 111] [iI 111, iI 1, iR a3])) _
    refine XS.i2b X6.here hx rfl (hb hby d5_30) rfl ?_
    rw [(by decide : (111 : Int32).toInt8.toInt32 = (111 : Int32))]
    show Steps _ _ _ (T6.setTop (mkF m 31 #[vR a1, vI 1, vR a3, vI 1, vI 6, vI 1, vI 111] [iI 111, iI 1, iR a3])) _
    refine st13 _ ?_
    show Steps _ _ _ (T13.setTop (mkF m 32 #[vR a1, vI 1, vR a3, vI 1, vI 6, vI 1, vI 111] [])) _
    refine XS.iinc X13.here hx rfl (hb hby d5_32) rfl (l' := #[vR a1, vI ((1 : Int32) + (1 : Int32)), vR a3, vI 1, vI 6, vI 1, vI 111]) rfl ?_
    rw [(by decide : ((1 : Int32) + (1 : Int32)) = (2 : Int32))]
    show Steps _ _ _ (T13.setTop (mkF m 35 #[vR a1, vI 2, vR a3, vI 1, vI 6, vI 1, vI 111] [])) _
    refine XS.iinc X13.here hx rfl (hb hby d5_35) rfl (l' := #[vR a1, vI 2, vR a3, vI ((1 : Int32) + (1 : Int32)), vI 6, vI 1, vI 111]) rfl ?_
    rw [(by decide : ((1 : Int32) + (1 : Int32)) = (2 : Int32))]
    show Steps _ _ _ (T13.setTop (mkF m 38 #[vR a1, vI 2, vR a3, vI 2, vI 6, vI 1, vI 111] [])) _
    refine XS.iinc X13.here hx rfl (hb hby d5_38) rfl (l' := #[vR a1, vI 2, vR a3, vI 2, vI 6, vI ((1 : Int32) + (1 : Int32)), vI 111]) rfl ?_
    rw [(by decide : ((1 : Int32) + (1 : Int32)) = (2 : Int32))]
    show Steps _ _ _ (T13.setTop (mkF m 41 #[vR a1, vI 2, vR a3, vI 2, vI 6, vI 2, vI 111] [])) _
    refine XS.goto X13.here hx rfl (pc0 := 41) (pc' := 3) rfl (hb hby d5_41) (by decide) (by decide) ?_
    show Steps _ _ _ (T13.setTop (mkF m 3 #[vR a1, vI 2, vR a3, vI 2, vI 6, vI 2, vI 111] [])) _
    refine XS.iload X13.here hx rfl (hb hby d5_3) rfl ?_
    show Steps _ _ _ (T13.setTop (mkF m 5 #[vR a1, vI 2, vR a3, vI 2, vI 6, vI 2, vI 111] [iI 2])) _
    refine XS.iload X13.here hx rfl (hb hby d5_5) rfl ?_
    show Steps _ _ _ (T13.setTop (mkF m 7 #[vR a1, vI 2, vR a3, vI 2, vI 6, vI 2, vI 111] [iI 6, iI 2])) _
    refine XS.icmpNo X13.here hx rfl (hb hby d5_7) rfl (tlt (by decide : (2 : Int32) < (6 : Int32))).2.1 ?_
    show Steps _ _ _ (T13.setTop (mkF m 10 #[vR a1, vI 2, vR a3, vI 2, vI 6, vI 2, vI 111] [])) _
    refine XS.aloadN X13.here hx rfl (hb hby d5_10) rfl rfl ?_
    show Steps _ _ _ (T13.setTop (mkF m 11 #[vR a1, vI 2, vR a3, vI 2, vI 6, vI 2, vI 111] [iR a1])) _
    refine XS.iloadN X13.here hx rfl (hb hby d5_11) rfl ?_
    show Steps _ _ _ (T13.setTop (mkF m 12 #[vR a1, vI 2, vR a3, vI 2, vI 6, vI 2, vI 111] [iI 2, iR a1])) _
    refine X13.caload hx (j := (2 : Int32)) (v := (.int (114 : Int32))) (by rw [e13]; exact Ar15.1) (State.isArrayOf_alike hZ.alike Ar15.2.1) Ar15.2.2 hin16 hat17 (g := (mkF m 12 #[vR a1, vI 2, vR a3, vI 2, vI 6, vI 2, vI 111] [iI 2, iR a1])) rfl rfl (hb hby d5_12) _ ?_
    show Steps _ _ _ (T13.setTop (mkF m 13 #[vR a1, vI 2, vR a3, vI 2, vI 6, vI 2, vI 111] [iI 114])) _
    refine XS.istore X13.here hx rfl (hb hby d5_13) rfl (l' := #[vR a1, vI 2, vR a3, vI 2, vI 6, vI 2, vI 114]) rfl ?_
    show Steps _ _ _ (T13.setTop (mkF m 15 #[vR a1, vI 2, vR a3, vI 2, vI 6, vI 2, vI 114] [])) _
    refine XS.iload X13.here hx rfl (hb hby d5_15) rfl ?_
    show Steps _ _ _ (T13.setTop (mkF m 17 #[vR a1, vI 2, vR a3, vI 2, vI 6, vI 2, vI 114] [iI 114])) _
    refine XS.sipush X13.here hx rfl (hb hby d5_17) ?_
    show Steps _ _ _ (T13.setTop (mkF m 20 #[vR a1, vI 2, vR a3, vI 2, vI 6, vI 2, vI 114] [iI 255, iI 114])) _
    refine XS.icmpYes X13.here hx rfl (pc0 := 20) (pc' := 26) rfl (hb hby d5_20) rfl (flt (by decide : ¬ ((255 : Int32) < (114 : Int32)))).2.2.2 (by decide) (by decide) ?_
    show Steps _ _ _ (T13.setTop (mkF m 26 #[vR a1, vI 2, vR a3, vI 2, vI 6, vI 2, vI 114] [])) _
    refine XS.aloadN X13.here hx rfl (hb hby d5_26) rfl rfl ?_
    show Steps _ _ _ (T13.setTop (mkF m 27 #[vR a1, vI 2, vR a3, vI 2, vI 6, vI 2, vI 114] [iR a3])) _
    refine XS.iloadN X13.here hx rfl (hb hby d5_27) rfl ?_
    show Steps _ _ _ (T13.setTop (mkF m 28 #[vR a1, vI 2, vR a3, vI 2, vI 6, vI 2, vI 114] [iI 2, iR a3])) _
    refine XS.iload X13.here hx rfl (hb hby d5_28) rfl ?_
    show Steps _ _ _ (T13.setTop (mkF m 30 #[vR a1, vI 2, vR a3, vI 2, vI 6, vI 2, vI 114] [iI 114, iI 2, iR a3])) _
    refine XS.i2b X13.here hx rfl (hb hby d5_30) rfl ?_
    rw [(by decide : (114 : Int32).toInt8.toInt32 = (114 : Int32))]
    show Steps _ _ _ (T13.setTop (mkF m 31 #[vR a1, vI 2, vR a3, vI 2, vI 6, vI 2, vI 114] [iI 114, iI 2, iR a3])) _
    refine st20 _ ?_
    show Steps _ _ _ (T20.setTop (mkF m 32 #[vR a1, vI 2, vR a3, vI 2, vI 6, vI 2, vI 114] [])) _
    refine XS.iinc X20.here hx rfl (hb hby d5_32) rfl (l' := #[vR a1, vI ((2 : Int32) + (1 : Int32)), vR a3, vI 2, vI 6, vI 2, vI 114]) rfl ?_
    rw [(by decide : ((2 : Int32) + (1 : Int32)) = (3 : Int32))]
    show Steps _ _ _ (T20.setTop (mkF m 35 #[vR a1, vI 3, vR a3, vI 2, vI 6, vI 2, vI 114] [])) _
    refine XS.iinc X20.here hx rfl (hb hby d5_35) rfl (l' := #[vR a1, vI 3, vR a3, vI ((2 : Int32) + (1 : Int32)), vI 6, vI 2, vI 114]) rfl ?_
    rw [(by decide : ((2 : Int32) + (1 : Int32)) = (3 : Int32))]
    show Steps _ _ _ (T20.setTop (mkF m 38 #[vR a1, vI 3, vR a3, vI 3, vI 6, vI 2, vI 114] [])) _
    refine XS.iinc X20.here hx rfl (hb hby d5_38) rfl (l' := #[vR a1, vI 3, vR a3, vI 3, vI 6, vI ((2 : Int32) + (1 : Int32)), vI 114]) rfl ?_
    rw [(by decide : ((2 : Int32) + (1 : Int32)) = (3 : Int32))]
    show Steps _ _ _ (T20.setTop (mkF m 41 #[vR a1, vI 3, vR a3, vI 3, vI 6, vI 3, vI 114] [])) _
    refine XS.goto X20.here hx rfl (pc0 := 41) (pc' := 3) rfl (hb hby d5_41) (by decide) (by decide) ?_
    show Steps _ _ _ (T20.setTop (mkF m 3 #[vR a1, vI 3, vR a3, vI 3, vI 6, vI 3, vI 114] [])) _
    refine XS.iload X20.here hx rfl (hb hby d5_3) rfl ?_
    show Steps _ _ _ (T20.setTop (mkF m 5 #[vR a1, vI 3, vR a3, vI 3, vI 6, vI 3, vI 114] [iI 3])) _
    refine XS.iload X20.here hx rfl (hb hby d5_5) rfl ?_
    show Steps _ _ _ (T20.setTop (mkF m 7 #[vR a1, vI 3, vR a3, vI 3, vI 6, vI 3, vI 114] [iI 6, iI 3])) _
    refine XS.icmpNo X20.here hx rfl (hb hby d5_7) rfl (tlt (by decide : (3 : Int32) < (6 : Int32))).2.1 ?_
    show Steps _ _ _ (T20.setTop (mkF m 10 #[vR a1, vI 3, vR a3, vI 3, vI 6, vI 3, vI 114] [])) _
    refine XS.aloadN X20.here hx rfl (hb hby d5_10) rfl rfl ?_
    show Steps _ _ _ (T20.setTop (mkF m 11 #[vR a1, vI 3, vR a3, vI 3, vI 6, vI 3, vI 114] [iR a1])) _
    refine XS.iloadN X20.here hx rfl (hb hby d5_11) rfl ?_
    show Steps _ _ _ (T20.setTop (mkF m 12 #[vR a1, vI 3, vR a3, vI 3, vI 6, vI 3, vI 114] [iI 3, iR a1])) _
    refine X20.caload hx (j := (3 : Int32)) (v := (.int (109 : Int32))) (by rw [e20]; exact Ar22.1) (State.isArrayOf_alike hZ.alike Ar22.2.1) Ar22.2.2 hin23 hat24 (g := (mkF m 12 #[vR a1, vI 3, vR a3, vI 3, vI 6, vI 3, vI 114] [iI 3, iR a1])) rfl rfl (hb hby d5_12) _ ?_
    show Steps _ _ _ (T20.setTop (mkF m 13 #[vR a1, vI 3, vR a3, vI 3, vI 6, vI 3, vI 114] [iI 109])) _
    refine XS.istore X20.here hx rfl (hb hby d5_13) rfl (l' := #[vR a1, vI 3, vR a3, vI 3, vI 6, vI 3, vI 109]) rfl ?_
    show Steps _ _ _ (T20.setTop (mkF m 15 #[vR a1, vI 3, vR a3, vI 3, vI 6, vI 3, vI 109] [])) _
    refine XS.iload X20.here hx rfl (hb hby d5_15) rfl ?_
    show Steps _ _ _ (T20.setTop (mkF m 17 #[vR a1, vI 3, vR a3, vI 3, vI 6, vI 3, vI 109] [iI 109])) _
    refine XS.sipush X20.here hx rfl (hb hby d5_17) ?_
    show Steps _ _ _ (T20.setTop (mkF m 20 #[vR a1, vI 3, vR a3, vI 3, vI 6, vI 3, vI 109] [iI 255, iI 109])) _
    refine XS.icmpYes X20.here hx rfl (pc0 := 20) (pc' := 26) rfl (hb hby d5_20) rfl (flt (by decide : ¬ ((255 : Int32) < (109 : Int32)))).2.2.2 (by decide) (by decide) ?_
    show Steps _ _ _ (T20.setTop (mkF m 26 #[vR a1, vI 3, vR a3, vI 3, vI 6, vI 3, vI 109] [])) _
    refine XS.aloadN X20.here hx rfl (hb hby d5_26) rfl rfl ?_
    show Steps _ _ _ (T20.setTop (mkF m 27 #[vR a1, vI 3, vR a3, vI 3, vI 6, vI 3, vI 109] [iR a3])) _
    refine XS.iloadN X20.here hx rfl (hb hby d5_27) rfl ?_
    show Steps _ _ _ (T20.setTop (mkF m 28 #[vR a1, vI 3, vR a3, vI 3, vI 6, vI 3, vI 109] [iI 3, iR a3])) _
    refine XS.iload X20.here hx rfl (hb hby d5_28) rfl ?_
    show Steps _ _ _ (T20.setTop (mkF m 30 #[vR a1, vI 3, vR a3, vI 3, vI 6, vI 3, vI 109] [iI 109, iI 3, iR a3])) _
    refine XS.i2b X20.here hx rfl (hb hby d5_30) rfl ?_
    rw [(by decide : (109 : Int32).toInt8.toInt32 = (109 : Int32))]
    show Steps _ _ _ (T20.setTop (mkF m 31 #[vR a1, vI 3, vR a3, vI 3, vI 6, vI 3, vI 109] [iI 109, iI 3, iR a3])) _
    refine st27 _ ?_
    show Steps _ _ _ (T27.setTop (mkF m 32 #[vR a1, vI 3, vR a3, vI 3, vI 6, vI 3, vI 109] [])) _
    refine XS.iinc X27.here hx rfl (hb hby d5_32) rfl (l' := #[vR a1, vI ((3 : Int32) + (1 : Int32)), vR a3, vI 3, vI 6, vI 3, vI 109]) rfl ?_
    rw [(by decide : ((3 : Int32) + (1 : Int32)) = (4 : Int32))]
    show Steps _ _ _ (T27.setTop (mkF m 35 #[vR a1, vI 4, vR a3, vI 3, vI 6, vI 3, vI 109] [])) _
    refine XS.iinc X27.here hx rfl (hb hby d5_35) rfl (l' := #[vR a1, vI 4, vR a3, vI ((3 : Int32) + (1 : Int32)), vI 6, vI 3, vI 109]) rfl ?_
    rw [(by decide : ((3 : Int32) + (1 : Int32)) = (4 : Int32))]
    show Steps _ _ _ (T27.setTop (mkF m 38 #[vR a1, vI 4, vR a3, vI 4, vI 6, vI 3, vI 109] [])) _
    refine XS.iinc X27.here hx rfl (hb hby d5_38) rfl (l' := #[vR a1, vI 4, vR a3, vI 4, vI 6, vI ((3 : Int32) + (1 : Int32)), vI 109]) rfl ?_
    rw [(by decide : ((3 : Int32) + (1 : Int32)) = (4 : Int32))]
    show Steps _ _ _ (T27.setTop (mkF m 41 #[vR a1, vI 4, vR a3, vI 4, vI 6, vI 4, vI 109] [])) _
    refine XS.goto X27.here hx rfl (pc0 := 41) (pc' := 3) rfl (hb hby d5_41) (by decide) (by decide) ?_
    show Steps _ _ _ (T27.setTop (mkF m 3 #[vR a1, vI 4, vR a3, vI 4, vI 6, vI 4, vI 109] [])) _
    refine XS.iload X27.here hx rfl (hb hby d5_3) rfl ?_
    show Steps _ _ _ (T27.setTop (mkF m 5 #[vR a1, vI 4, vR a3, vI 4, vI 6, vI 4, vI 109] [iI 4])) _
    refine XS.iload X27.here hx rfl (hb hby d5_5) rfl ?_
    show Steps _ _ _ (T27.setTop (mkF m 7 #[vR a1, vI 4, vR a3, vI 4, vI 6, vI 4, vI 109] [iI 6, iI 4])) _
    refine XS.icmpNo X27.here hx rfl (hb hby d5_7) rfl (tlt (by decide : (4 : Int32) < (6 : Int32))).2.1 ?_
    show Steps _ _ _ (T27.setTop (mkF m 10 #[vR a1, vI 4, vR a3, vI 4, vI 6, vI 4, vI 109] [])) _
    refine XS.aloadN X27.here hx rfl (hb hby d5_10) rfl rfl ?_
    show Steps _ _ _ (T27.setTop (mkF m 11 #[vR a1, vI 4, vR a3, vI 4, vI 6, vI 4, vI 109] [iR a1])) _
    refine XS.iloadN X27.here hx rfl (hb hby d5_11) rfl ?_
    show Steps _ _ _ (T27.setTop (mkF m 12 #[vR a1, vI 4, vR a3, vI 4, vI 6, vI 4, vI 109] [iI 4, iR a1])) _
    refine X27.caload hx (j := (4 : Int32)) (v := (.int (97 : Int32))) (by rw [e27]; exact Ar29.1) (State.isArrayOf_alike hZ.alike Ar29.2.1) Ar29.2.2 hin30 hat31 (g := (mkF m 12 #[vR a1, vI 4, vR a3, vI 4, vI 6, vI 4, vI 109] [iI 4, iR a1])) rfl rfl (hb hby d5_12) _ ?_
    show Steps _ _ _ (T27.setTop (mkF m 13 #[vR a1, vI 4, vR a3, vI 4, vI 6, vI 4, vI 109] [iI 97])) _
    refine XS.istore X27.here hx rfl (hb hby d5_13) rfl (l' := #[vR a1, vI 4, vR a3, vI 4, vI 6, vI 4, vI 97]) rfl ?_
    show Steps _ _ _ (T27.setTop (mkF m 15 #[vR a1, vI 4, vR a3, vI 4, vI 6, vI 4, vI 97] [])) _
    refine XS.iload X27.here hx rfl (hb hby d5_15) rfl ?_
    show Steps _ _ _ (T27.setTop (mkF m 17 #[vR a1, vI 4, vR a3, vI 4, vI 6, vI 4, vI 97] [iI 97])) _
    refine XS.sipush X27.here hx rfl (hb hby d5_17) ?_
    show Steps _ _ _ (T27.setTop (mkF m 20 #[vR a1, vI 4, vR a3, vI 4, vI 6, vI 4, vI 97] [iI 255, iI 97])) _
    refine XS.icmpYes X27.here hx rfl (pc0 := 20) (pc' := 26) rfl (hb hby d5_20) rfl (flt (by decide : ¬ ((255 : Int32) < (97 : Int32)))).2.2.2 (by decide) (by decide) ?_
    show Steps _ _ _ (T27.setTop (mkF m 26 #[vR a1, vI 4, vR a3, vI 4, vI 6, vI 4, vI 97] [])) _
    refine XS.aloadN X27.here hx rfl (hb hby d5_26) rfl rfl ?_
    show Steps _ _ _ (T27.setTop (mkF m 27 #[vR a1, vI 4, vR a3, vI 4, vI 6, vI 4, vI 97] [iR a3])) _
    refine XS.iloadN X27.here hx rfl (hb hby d5_27) rfl ?_
    show Steps _ _ _ (T27.setTop (mkF m 28 #[vR a1, vI 4, vR a3, vI 4, vI 6, vI 4, vI 97] [iI 4, iR a3])) _
    refine XS.iload X27.here hx rfl (hb hby d5_28) rfl ?_
    show Steps _ _ _ (T27.setTop (mkF m 30 #[vR a1, vI 4, vR a3, vI 4, vI 6, vI 4, vI 97] [iI 97, iI 4, iR a3])) _
    refine XS.i2b X27.here hx rfl (hb hby d5_30) rfl ?_
    rw [(by decide : (97 : Int32).toInt8.toInt32 = (97 : Int32))]
    show Steps _ _ _ (T27.setTop (mkF m 31 #[vR a1, vI 4, vR a3, vI 4, vI 6, vI 4, vI 97] [iI 97, iI 4, iR a3])) _
    refine st34 _ ?_
    show Steps _ _ _ (T34.setTop (mkF m 32 #[vR a1, vI 4, vR a3, vI 4, vI 6, vI 4, vI 97] [])) _
    refine XS.iinc X34.here hx rfl (hb hby d5_32) rfl (l' := #[vR a1, vI ((4 : Int32) + (1 : Int32)), vR a3, vI 4, vI 6, vI 4, vI 97]) rfl ?_
    rw [(by decide : ((4 : Int32) + (1 : Int32)) = (5 : Int32))]
    show Steps _ _ _ (T34.setTop (mkF m 35 #[vR a1, vI 5, vR a3, vI 4, vI 6, vI 4, vI 97] [])) _
    refine XS.iinc X34.here hx rfl (hb hby d5_35) rfl (l' := #[vR a1, vI 5, vR a3, vI ((4 : Int32) + (1 : Int32)), vI 6, vI 4, vI 97]) rfl ?_
    rw [(by decide : ((4 : Int32) + (1 : Int32)) = (5 : Int32))]
    show Steps _ _ _ (T34.setTop (mkF m 38 #[vR a1, vI 5, vR a3, vI 5, vI 6, vI 4, vI 97] [])) _
    refine XS.iinc X34.here hx rfl (hb hby d5_38) rfl (l' := #[vR a1, vI 5, vR a3, vI 5, vI 6, vI ((4 : Int32) + (1 : Int32)), vI 97]) rfl ?_
    rw [(by decide : ((4 : Int32) + (1 : Int32)) = (5 : Int32))]
    show Steps _ _ _ (T34.setTop (mkF m 41 #[vR a1, vI 5, vR a3, vI 5, vI 6, vI 5, vI 97] [])) _
    refine XS.goto X34.here hx rfl (pc0 := 41) (pc' := 3) rfl (hb hby d5_41) (by decide) (by decide) ?_
    show Steps _ _ _ (T34.setTop (mkF m 3 #[vR a1, vI 5, vR a3, vI 5, vI 6, vI 5, vI 97] [])) _
    refine XS.iload X34.here hx rfl (hb hby d5_3) rfl ?_
    show Steps _ _ _ (T34.setTop (mkF m 5 #[vR a1, vI 5, vR a3, vI 5, vI 6, vI 5, vI 97] [iI 5])) _
    refine XS.iload X34.here hx rfl (hb hby d5_5) rfl ?_
    show Steps _ _ _ (T34.setTop (mkF m 7 #[vR a1, vI 5, vR a3, vI 5, vI 6, vI 5, vI 97] [iI 6, iI 5])) _
    refine XS.icmpNo X34.here hx rfl (hb hby d5_7) rfl (tlt (by decide : (5 : Int32) < (6 : Int32))).2.1 ?_
    show Steps _ _ _ (T34.setTop (mkF m 10 #[vR a1, vI 5, vR a3, vI 5, vI 6, vI 5, vI 97] [])) _
    refine XS.aloadN X34.here hx rfl (hb hby d5_10) rfl rfl ?_
    show Steps _ _ _ (T34.setTop (mkF m 11 #[vR a1, vI 5, vR a3, vI 5, vI 6, vI 5, vI 97] [iR a1])) _
    refine XS.iloadN X34.here hx rfl (hb hby d5_11) rfl ?_
    show Steps _ _ _ (T34.setTop (mkF m 12 #[vR a1, vI 5, vR a3, vI 5, vI 6, vI 5, vI 97] [iI 5, iR a1])) _
    refine X34.caload hx (j := (5 : Int32)) (v := (.int (116 : Int32))) (by rw [e34]; exact Ar36.1) (State.isArrayOf_alike hZ.alike Ar36.2.1) Ar36.2.2 hin37 hat38 (g := (mkF m 12 #[vR a1, vI 5, vR a3, vI 5, vI 6, vI 5, vI 97] [iI 5, iR a1])) rfl rfl (hb hby d5_12) _ ?_
    show Steps _ _ _ (T34.setTop (mkF m 13 #[vR a1, vI 5, vR a3, vI 5, vI 6, vI 5, vI 97] [iI 116])) _
    refine XS.istore X34.here hx rfl (hb hby d5_13) rfl (l' := #[vR a1, vI 5, vR a3, vI 5, vI 6, vI 5, vI 116]) rfl ?_
    show Steps _ _ _ (T34.setTop (mkF m 15 #[vR a1, vI 5, vR a3, vI 5, vI 6, vI 5, vI 116] [])) _
    refine XS.iload X34.here hx rfl (hb hby d5_15) rfl ?_
    show Steps _ _ _ (T34.setTop (mkF m 17 #[vR a1, vI 5, vR a3, vI 5, vI 6, vI 5, vI 116] [iI 116])) _
    refine XS.sipush X34.here hx rfl (hb hby d5_17) ?_
    show Steps _ _ _ (T34.setTop (mkF m 20 #[vR a1, vI 5, vR a3, vI 5, vI 6, vI 5, vI 116] [iI 255, iI 116])) _
    refine XS.icmpYes X34.here hx rfl (pc0 := 20) (pc' := 26) rfl (hb hby d5_20) rfl (flt (by decide : ¬ ((255 : Int32) < (116 : Int32)))).2.2.2 (by decide) (by decide) ?_
    show Steps _ _ _ (T34.setTop (mkF m 26 #[vR a1, vI 5, vR a3, vI 5, vI 6, vI 5, vI 116] [])) _
    refine XS.aloadN X34.here hx rfl (hb hby d5_26) rfl rfl ?_
    show Steps _ _ _ (T34.setTop (mkF m 27 #[vR a1, vI 5, vR a3, vI 5, vI 6, vI 5, vI 116] [iR a3])) _
    refine XS.iloadN X34.here hx rfl (hb hby d5_27) rfl ?_
    show Steps _ _ _ (T34.setTop (mkF m 28 #[vR a1, vI 5, vR a3, vI 5, vI 6, vI 5, vI 116] [iI 5, iR a3])) _
    refine XS.iload X34.here hx rfl (hb hby d5_28) rfl ?_
    show Steps _ _ _ (T34.setTop (mkF m 30 #[vR a1, vI 5, vR a3, vI 5, vI 6, vI 5, vI 116] [iI 116, iI 5, iR a3])) _
    refine XS.i2b X34.here hx rfl (hb hby d5_30) rfl ?_
    rw [(by decide : (116 : Int32).toInt8.toInt32 = (116 : Int32))]
    show Steps _ _ _ (T34.setTop (mkF m 31 #[vR a1, vI 5, vR a3, vI 5, vI 6, vI 5, vI 116] [iI 116, iI 5, iR a3])) _
    refine st41 _ ?_
    show Steps _ _ _ (T41.setTop (mkF m 32 #[vR a1, vI 5, vR a3, vI 5, vI 6, vI 5, vI 116] [])) _
    refine XS.iinc X41.here hx rfl (hb hby d5_32) rfl (l' := #[vR a1, vI ((5 : Int32) + (1 : Int32)), vR a3, vI 5, vI 6, vI 5, vI 116]) rfl ?_
    rw [(by decide : ((5 : Int32) + (1 : Int32)) = (6 : Int32))]
    show Steps _ _ _ (T41.setTop (mkF m 35 #[vR a1, vI 6, vR a3, vI 5, vI 6, vI 5, vI 116] [])) _
    refine XS.iinc X41.here hx rfl (hb hby d5_35) rfl (l' := #[vR a1, vI 6, vR a3, vI ((5 : Int32) + (1 : Int32)), vI 6, vI 5, vI 116]) rfl ?_
    rw [(by decide : ((5 : Int32) + (1 : Int32)) = (6 : Int32))]
    show Steps _ _ _ (T41.setTop (mkF m 38 #[vR a1, vI 6, vR a3, vI 6, vI 6, vI 5, vI 116] [])) _
    refine XS.iinc X41.here hx rfl (hb hby d5_38) rfl (l' := #[vR a1, vI 6, vR a3, vI 6, vI 6, vI ((5 : Int32) + (1 : Int32)), vI 116]) rfl ?_
    rw [(by decide : ((5 : Int32) + (1 : Int32)) = (6 : Int32))]
    show Steps _ _ _ (T41.setTop (mkF m 41 #[vR a1, vI 6, vR a3, vI 6, vI 6, vI 6, vI 116] [])) _
    refine XS.goto X41.here hx rfl (pc0 := 41) (pc' := 3) rfl (hb hby d5_41) (by decide) (by decide) ?_
    show Steps _ _ _ (T41.setTop (mkF m 3 #[vR a1, vI 6, vR a3, vI 6, vI 6, vI 6, vI 116] [])) _
    refine XS.iload X41.here hx rfl (hb hby d5_3) rfl ?_
    show Steps _ _ _ (T41.setTop (mkF m 5 #[vR a1, vI 6, vR a3, vI 6, vI 6, vI 6, vI 116] [iI 6])) _
    refine XS.iload X41.here hx rfl (hb hby d5_5) rfl ?_
    show Steps _ _ _ (T41.setTop (mkF m 7 #[vR a1, vI 6, vR a3, vI 6, vI 6, vI 6, vI 116] [iI 6, iI 6])) _
    refine XS.icmpYes X41.here hx rfl (pc0 := 7) (pc' := 44) rfl (hb hby d5_7) rfl (flt (by decide : ¬ ((6 : Int32) < (6 : Int32)))).2.1 (by decide) (by decide) ?_
    show Steps _ _ _ (T41.setTop (mkF m 44 #[vR a1, vI 6, vR a3, vI 6, vI 6, vI 6, vI 116] [])) _
    refine XS.iload X41.here hx rfl (hb hby d5_44) rfl ?_
    show Steps _ _ _ (T41.setTop (mkF m 46 #[vR a1, vI 6, vR a3, vI 6, vI 6, vI 6, vI 116] [iI 6])) _
    exact retI X41 hx Bd.returns (hb hby d5_46) hr
  · show Q5_FORMAT Z a1 a3 kc kb h0 n0 _ T41.heap _
    rw [e41]
    exact ⟨rfl, N41, K41, V41⟩
theorem ef_4_FORMAT (m : MethodId) (x0 : Addr) : entryFrame m #[(.ref x0), (.int (0 : Int32)), (.int (6 : Int32))] 6 = mkF m 0 #[.val (.ref x0), .val (.int (0 : Int32)), .val (.int (6 : Int32)), .unset, .unset, .unset] [] := by first | (simp [entryFrame, mkF, argsToLocals, Value.category]; done) | rfl
def Q4_FORMAT (Z : State) (a1 : Addr) (kc : ClassId) (h0 : Heap) (n0 : Nat) (v : Option Value) (h : Heap) (L : List Loc) : Prop := ∃ (b : Addr) (kb : ClassId), v = some (.ref b) ∧ Fr n0 L ∧ Keep h0 h [] ∧ Arv Z h b kb .byte (6 : Int32) [(.int (102 : Int32)), (.int (111 : Int32)), (.int (114 : Int32)), (.int (109 : Int32)), (.int (97 : Int32)), (.int (116 : Int32))] (.int (0 : Int32)) ∧ h0.size ≤ b
set_option maxRecDepth 65536 in
set_option maxHeartbeats 40000000 in
theorem rm4_FORMAT (l : Launch) (Z : State) (a0 : Array Value) (hw : ∀ d ∈ tables_1, d.before a0 Z = true) (ws : List Jvm.Cond) (a1 : Addr) (kc : ClassId) (h0 : Heap) (n0 : Nat) (Z0 : n0 ≤ h0.size) (V_c : Arv Z h0 a1 kc .char (6 : Int32) [(.int (102 : Int32)), (.int (111 : Int32)), (.int (114 : Int32)), (.int (109 : Int32)), (.int (97 : Int32)), (.int (116 : Int32))] (.int (0 : Int32))) :
    MetFree l (⟨"java/lang/StringUTF16", "compress", "([CII)[B"⟩ : MethodName) (head1 (Jvm.Cond.code (⟨"java/lang/StringUTF16", "compress", "([CII)[B"⟩ : MethodName) jdk_52_method_16_code 6 (some (.array .byte)) :: ws) ({ frames := 1, cells := 1, slots := 6, locals := 18 } : Room)) (fun a U => a = #[(.ref a1), (.int (0 : Int32)), (.int (6 : Int32))] ∧ Z.Warmed39 U.vm ∧ U.heap = h0) (fun _ _ _ _ _ => True) (fun _ U o U' => ∃ v L, o = .returned v ∧ Q4_FORMAT Z a1 kc h0 n0 v U'.heap L ∧ FrameEnd U o U' L ({ frames := 1, cells := 1, slots := 6, locals := 18 } : Room).cells ({ frames := 1, cells := 1, slots := 6, locals := 18 } : Room).slots) := by
  refine MetFree.of_bodySF (plainFor_of_name pn_0) hisR ?_
  intro p e s m args below meth c s₁ Bd hml0 hP hK
  obtain ⟨rfl, hZ, hh⟩ := hP
  have hx := Bd.exec
  have hby := Bd.bytes
  have hml : c.maxLocals = 6 := hml0
  have hown : s.vm.findClass "java/lang/StringUTF16" = some m.cls := findClass_of_methodNamed Bd.named
  have hnm := (name_of_methodNamed Bd.named Bd.method).1
  have X0 : Stand p l e ({ frames := 1, cells := 1, slots := 6, locals := 18 } : Room) s m #[(.ref a1), (.int (0 : Int32)), (.int (6 : Int32))] below meth c s₁ [] 0 0 := Stand.of_body Bd
  have e0 : s₁.heap = h0 := by rw [← hh, Bd.state]; rfl
  have N0 := Fr.nil n0
  have K0 := Keep.refl h0 []
  have pre0 : ∀ t, Steps p.tables e below (s₁.setTop (mkF m 0 #[.val (.ref a1), .val (.int (0 : Int32)), .val (.int (6 : Int32)), .unset, .unset, .unset] [])) t → Steps p.tables e below (s₁.setTop (entryFrame m #[(.ref a1), (.int (0 : Int32)), (.int (6 : Int32))] 6)) t := fun t k => castTop (ef_4_FORMAT m a1) k
  obtain ⟨T1, h1, k1, X1, e1, E1, A1, st1⟩ := newP X0 hx hZ (hw _ (List.mem_of_getElem? (i := 20) rfl)) e0 (g := (mkF m 1 #[vR a1, vI 0, vI 6, .unset, .unset, .unset] [iI 6])) rfl (hb hby d4_1) rfl (by decide) (cap := 6) (by decide) (by decide) (by decide) (by decide)
  obtain ⟨b1, g1⟩ : ∃ z, z = h0.size := ⟨_, rfl⟩
  rw [← g1] at A1 st1
  have ne_a1_b1 : a1 ≠ b1 := Nat.ne_of_lt (Nat.lt_of_lt_of_le V_c.lt (Nat.le_of_eq g1.symm))
  have sz_b1 : h0.size ≤ b1 := Nat.le_trans K0.1 (Nat.le_of_eq g1.symm)
  have g_b1 : n0 ≤ b1 := Nat.le_trans Z0 sz_b1
  have K1 : Keep h0 h1 [] := K0.ext E1
  have V1 : Arv Z h1 b1 k1 .byte (6 : Int32) [(.int (0 : Int32)), (.int (0 : Int32)), (.int (0 : Int32)), (.int (0 : Int32)), (.int (0 : Int32)), (.int (0 : Int32))] (.int (0 : Int32)) := (Arv.new A1 (by decide)).pad (pad_rep [] (.int (0 : Int32)) 6)
  have fk3 := (V_c.ext E1)
  obtain ⟨_, _, ⟨T2, L2, k2, n2⟩, -, X2, ⟨Lc2, hQ2, l2, y2, z2⟩, st2⟩ := Jvm.LawKit.callS X1 hx (y := (⟨"java/lang/StringUTF16", "compress", "([CI[BII)I"⟩ : MethodName)) hown (mvT hZ (hw _ (List.mem_of_getElem? (i := 21) rfl))) (mvT hZ (hw _ (List.mem_of_getElem? (i := 22) rfl))) (mvT hZ (hw _ (List.mem_of_getElem? (i := 18) rfl))) (mvT hZ (hw _ (List.mem_of_getElem? (i := 23) rfl))) (by decide) (backOf (W := 0) (rm5_FORMAT l Z a0 hw [] a1 b1 kc k1  h1 n0 (Nat.le_trans Z0 K1.1) fk3 V1 ne_a1_b1 g_b1 ) hZ (hw _ (List.mem_of_getElem? (i := 23) rfl)) (hw _ (List.mem_of_getElem? (i := 18) rfl)) (by decide) (by decide)) (g := (mkF m 9 #[vR a1, vI 0, vI 6, vR b1, .unset, .unset] [iI 6, iI 0, iR b1, iI 0, iR a1])) rfl (by rw [hml]; rfl) (argsL := [(.ref a1), (.int (0 : Int32)), (.ref b1), (.int (0 : Int32)), (.int (6 : Int32))]) (rest := []) (lenOf pd_0 rfl) rfl (by show 2 * 0 + _ ≤ _; exact Nat.le_of_eq rfl) (hb hby d4_9) (fun _ _ => ⟨rfl, e1, (by decide : 1 + 0 ≤ _), (by decide : 6 + 0 ≤ _)⟩)
  dsimp only [Pt.U, Pt.locs, Pt.cells, Pt.slots] at X2 l2 y2 z2 st2 hQ2
  subst l2 y2 z2
  obtain ⟨rfl, N2q, K2q, V2q⟩ := hQ2
  have N2 := Fr.app N0 N2q
  have K2 : Keep h0 T2.heap [] := Keep.trans K1 K2q (allS (Or.inr sz_b1) all0)
  obtain ⟨fs, hr, hrun, hended, hW, hsame⟩ := X2.leave (v := some (.ref b1)) (fun h => by rw [Bd.returns] at h; cases h)
  refine ⟨_, _, pre0 _ ?_, hrun, hended, _, _, rfl, ?_, ⟨_, rfl⟩, hW, hsame.mono (by decide) (by decide)⟩
  · show Steps _ _ _ (s₁.setTop (mkF m 0 #[vR a1, vI 0, vI 6, .unset, .unset, .unset] [])) _
    refine XS.iloadN X0.here hx rfl (hb hby d4_0) rfl ?_
    show Steps _ _ _ (s₁.setTop (mkF m 1 #[vR a1, vI 0, vI 6, .unset, .unset, .unset] [iI 6])) _
    refine st1 _ ?_
    show Steps _ _ _ (T1.setTop (mkF m 3 #[vR a1, vI 0, vI 6, .unset, .unset, .unset] [iR b1])) _
    refine XS.astoreN X1.here hx rfl (hb hby d4_3) rfl rfl (l' := #[vR a1, vI 0, vI 6, vR b1, .unset, .unset]) rfl ?_
    show Steps _ _ _ (T1.setTop (mkF m 4 #[vR a1, vI 0, vI 6, vR b1, .unset, .unset] [])) _
    refine XS.aloadN X1.here hx rfl (hb hby d4_4) rfl rfl ?_
    show Steps _ _ _ (T1.setTop (mkF m 5 #[vR a1, vI 0, vI 6, vR b1, .unset, .unset] [iR a1])) _
    refine XS.iloadN X1.here hx rfl (hb hby d4_5) rfl ?_
    show Steps _ _ _ (T1.setTop (mkF m 6 #[vR a1, vI 0, vI 6, vR b1, .unset, .unset] [iI 0, iR a1])) _
    refine XS.aloadN X1.here hx rfl (hb hby d4_6) rfl rfl ?_
    show Steps _ _ _ (T1.setTop (mkF m 7 #[vR a1, vI 0, vI 6, vR b1, .unset, .unset] [iR b1, iI 0, iR a1])) _
    refine XS.iconst X1.here hx rfl (hb hby d4_7) ?_
    show Steps _ _ _ (T1.setTop (mkF m 8 #[vR a1, vI 0, vI 6, vR b1, .unset, .unset] [iI 0, iR b1, iI 0, iR a1])) _
    refine XS.iloadN X1.here hx rfl (hb hby d4_8) rfl ?_
    show Steps _ _ _ (T1.setTop (mkF m 9 #[vR a1, vI 0, vI 6, vR b1, .unset, .unset] [iI 6, iI 0, iR b1, iI 0, iR a1])) _
    refine st2 _ ?_
    show Steps _ _ _ (T2.setTop (mkF m 12 #[vR a1, vI 0, vI 6, vR b1, .unset, .unset] [iI 6])) _
    refine XS.istore X2.here hx rfl (hb hby d4_12) rfl (l' := #[vR a1, vI 0, vI 6, vR b1, vI 6, .unset]) rfl ?_
    show Steps _ _ _ (T2.setTop (mkF m 14 #[vR a1, vI 0, vI 6, vR b1, vI 6, .unset] [])) _
    refine XS.iload X2.here hx rfl (hb hby d4_14) rfl ?_
    show Steps _ _ _ (T2.setTop (mkF m 16 #[vR a1, vI 0, vI 6, vR b1, vI 6, .unset] [iI 6])) _
    refine XS.iloadN X2.here hx rfl (hb hby d4_16) rfl ?_
    show Steps _ _ _ (T2.setTop (mkF m 17 #[vR a1, vI 0, vI 6, vR b1, vI 6, .unset] [iI 6, iI 6])) _
    refine XS.icmpYes X2.here hx rfl (pc0 := 17) (pc' := 57) rfl (hb hby d4_17) rfl (teq (by decide : (6 : Int32) = (6 : Int32))).1 (by decide) (by decide) ?_
    show Steps _ _ _ (T2.setTop (mkF m 57 #[vR a1, vI 0, vI 6, vR b1, vI 6, .unset] [])) _
    refine XS.aloadN X2.here hx rfl (hb hby d4_57) rfl rfl ?_
    show Steps _ _ _ (T2.setTop (mkF m 58 #[vR a1, vI 0, vI 6, vR b1, vI 6, .unset] [iR b1])) _
    jvm_step X2.here [X2.here.top, hx, (hb hby d4_58), X2.method', Bd.returns, Value.isRef, FieldType.isReference]
    first | (intro acts; rw [hr _ acts rfl rfl rfl]) | rw [hr _ _ rfl rfl rfl]
    exact Steps.refl _
  · show Q4_FORMAT Z a1 kc h0 n0 _ T2.heap _
    exact ⟨_, _, rfl, N2, K2, V2q, sz_b1⟩
theorem ef_6_FORMAT (m : MethodId) (x0 : Addr) : entryFrame m #[(.ref x0), (.int (6 : Int32))] 2 = mkF m 0 #[.val (.ref x0), .val (.int (6 : Int32))] [] := by first | (simp [entryFrame, mkF, argsToLocals, Value.category]; done) | rfl
def Q6_FORMAT (Z : State) (a1 : Addr) (kb : ClassId) (h0 : Heap) (v : Option Value) (h : Heap) (L : List Loc) : Prop := v = some (.int (0 : Int32)) ∧ L = [] ∧ h = h0
set_option maxRecDepth 65536 in
set_option maxHeartbeats 40000000 in
theorem rm6_FORMAT (l : Launch) (Z : State) (a0 : Array Value) (hw : ∀ d ∈ tables_1, d.before a0 Z = true) (ws : List Jvm.Cond) (a1 : Addr) (kb : ClassId) (h0 : Heap) (V_b : Arv Z h0 a1 kb .byte (6 : Int32) [(.int (102 : Int32)), (.int (111 : Int32)), (.int (114 : Int32)), (.int (109 : Int32)), (.int (97 : Int32)), (.int (116 : Int32))] (.int (0 : Int32))) :
    MetFree l (⟨"java/lang/StringUTF16", "coderFromArrayLen", "([BI)B"⟩ : MethodName) (head1 (Jvm.Cond.code (⟨"java/lang/StringUTF16", "coderFromArrayLen", "([BI)B"⟩ : MethodName) jdk_52_method_15_code 2 (some .byte) :: ws) ({ frames := 0, cells := 0, slots := 0, locals := 0 } : Room)) (fun a U => a = #[(.ref a1), (.int (6 : Int32))] ∧ Z.Warmed39 U.vm ∧ U.heap = h0) (fun _ _ _ _ _ => True) (fun _ U o U' => ∃ v L, o = .returned v ∧ Q6_FORMAT Z a1 kb h0 v U'.heap L ∧ FrameEnd U o U' L ({ frames := 0, cells := 0, slots := 0, locals := 0 } : Room).cells ({ frames := 0, cells := 0, slots := 0, locals := 0 } : Room).slots) := by
  refine MetFree.of_bodySF (plainFor_of_name pn_0) hisR ?_
  intro p e s m args below meth c s₁ Bd hml0 hP hK
  obtain ⟨rfl, hZ, hh⟩ := hP
  have hx := Bd.exec
  have hby := Bd.bytes
  have hml : c.maxLocals = 2 := hml0
  have hown : s.vm.findClass "java/lang/StringUTF16" = some m.cls := findClass_of_methodNamed Bd.named
  have hnm := (name_of_methodNamed Bd.named Bd.method).1
  have X0 : Stand p l e ({ frames := 0, cells := 0, slots := 0, locals := 0 } : Room) s m #[(.ref a1), (.int (6 : Int32))] below meth c s₁ [] 0 0 := Stand.of_body Bd
  have e0 : s₁.heap = h0 := by rw [← hh, Bd.state]; rfl
  have pre0 : ∀ t, Steps p.tables e below (s₁.setTop (mkF m 0 #[.val (.ref a1), .val (.int (6 : Int32))] [])) t → Steps p.tables e below (s₁.setTop (entryFrame m #[(.ref a1), (.int (6 : Int32))] 2)) t := fun t k => castTop (ef_6_FORMAT m a1) k
  obtain ⟨cl1, Ar1, q1, S1, M1, H1, G1⟩ := id V_b
  obtain ⟨fs, hr, hrun, hended, hW, hsame⟩ := X0.leave (v := some (.int (0 : Int32))) (fun h => by rw [Bd.returns] at h; cases h)
  refine ⟨_, _, pre0 _ ?_, hrun, hended, _, _, rfl, ?_, ⟨_, rfl⟩, hW, hsame.mono (by decide) (by decide)⟩
  · show Steps _ _ _ (s₁.setTop (mkF m 0 #[vR a1, vI 6] [])) _
    refine XS.iloadN X0.here hx rfl (hb hby d6_0) rfl ?_
    show Steps _ _ _ (s₁.setTop (mkF m 1 #[vR a1, vI 6] [iI 6])) _
    refine XS.aloadN X0.here hx rfl (hb hby d6_1) rfl rfl ?_
    show Steps _ _ _ (s₁.setTop (mkF m 2 #[vR a1, vI 6] [iR a1, iI 6])) _
    refine X0.arraylength hx (by rw [e0]; exact Ar1.1) (State.isArrayOf_alike hZ.alike Ar1.2.1) (g := (mkF m 2 #[vR a1, vI 6] [iR a1, iI 6])) rfl rfl (hb hby d6_2) _ ?_
    rw [len_of S1 M1]
    show Steps _ _ _ (s₁.setTop (mkF m 3 #[vR a1, vI 6] [iI 6, iI 6])) _
    refine XS.isub X0.here hx rfl (hb hby d6_3) rfl ?_
    rw [(by decide : ((6 : Int32) - (6 : Int32)) = (0 : Int32))]
    show Steps _ _ _ (s₁.setTop (mkF m 4 #[vR a1, vI 6] [iI 0])) _
    refine XS.bipush X0.here hx rfl (hb hby d6_4) ?_
    show Steps _ _ _ (s₁.setTop (mkF m 6 #[vR a1, vI 6] [iI 31, iI 0])) _
    refine XS.iushr X0.here hx rfl (hb hby d6_6) rfl ?_
    rw [(by decide : (((0 : Int32).toUInt32 >>> ((31 : Int32) &&& 31).toUInt32).toInt32) = (0 : Int32))]
    show Steps _ _ _ (s₁.setTop (mkF m 7 #[vR a1, vI 6] [iI 0])) _
    refine XS.i2b X0.here hx rfl (hb hby d6_7) rfl ?_
    rw [(by decide : (0 : Int32).toInt8.toInt32 = (0 : Int32))]
    show Steps _ _ _ (s₁.setTop (mkF m 8 #[vR a1, vI 6] [iI 0])) _
    exact retN X0 hx (t := .byte) Bd.returns (by simp) (hb hby d6_8) hr
  · show Q6_FORMAT Z a1 kb h0 _ s₁.heap _
    rw [e0]
    exact ⟨rfl, rfl, rfl⟩
theorem ef_2_FORMAT (m : MethodId) (x0 : Addr) (x1 : Addr) : entryFrame m #[(.ref x0), (.ref x1), (.int (0 : Int32)), (.int (6 : Int32)), .null] 6 = mkF m 0 #[.val (.ref x0), .val (.ref x1), .val (.int (0 : Int32)), .val (.int (6 : Int32)), .val .null, .unset] [] := by first | (simp [entryFrame, mkF, argsToLocals, Value.category]; done) | rfl
def Q2_FORMAT (Z : State) (a1 : Addr) (a2 : Addr) (kc : ClassId) (cs : Int32) (h0 : Heap) (n0 : Nat) (v : Option Value) (h : Heap) (L : List Loc) : Prop := ∃ (b : Addr) (kb : ClassId), v = none ∧ Fr n0 L ∧ Keep h0 h [a1] ∧ Exa Z h a1 "java/lang/String" ∧ Fld Z h a1 "java/lang/String" "coder" "B" (.int (0 : Int32)) ∧ Fld Z h a1 "java/lang/String" "value" "[B" (.ref b) ∧ Arv Z h b kb .byte (6 : Int32) [(.int (102 : Int32)), (.int (111 : Int32)), (.int (114 : Int32)), (.int (109 : Int32)), (.int (97 : Int32)), (.int (116 : Int32))] (.int (0 : Int32)) ∧ h0.size ≤ b
set_option maxRecDepth 65536 in
set_option maxHeartbeats 40000000 in
theorem rm2_FORMAT (l : Launch) (Z : State) (a0 : Array Value) (hw : ∀ d ∈ tables_1, d.before a0 Z = true) (ws : List Jvm.Cond) (a1 : Addr) (a2 : Addr) (kc : ClassId) (cs : Int32) (h0 : Heap) (n0 : Nat) (Z0 : n0 ≤ h0.size) (O0 : Old Z n0 h0) (E_a1 : Exa Z h0 a1 "java/lang/String") (g_a1 : n0 ≤ a1) (F_v : Fld Z h0 a1 "java/lang/String" "value" "[B" .null) (F_c : Fld Z h0 a1 "java/lang/String" "coder" "B" (.int (0 : Int32))) (V_c : Arv Z h0 a2 kc .char (6 : Int32) [(.int (102 : Int32)), (.int (111 : Int32)), (.int (114 : Int32)), (.int (109 : Int32)), (.int (97 : Int32)), (.int (116 : Int32))] (.int (0 : Int32))) (ne_a1_a2 : a1 ≠ a2) (S_CS : Sta Z Z.heap "java/lang/String" "COMPACT_STRINGS" "Z" (.int cs)) (h_cs : ¬ cs = (0 : Int32)) :
    MetFree l (⟨"java/lang/String", "<init>", "([CIILjava/lang/Void;)V"⟩ : MethodName) (head1 (Jvm.Cond.code (⟨"java/lang/String", "<init>", "([CIILjava/lang/Void;)V"⟩ : MethodName) jdk_42_method_149_code 6 none :: ws) ({ frames := 2, cells := 1, slots := 6, locals := 35 } : Room)) (fun a U => a = #[(.ref a1), (.ref a2), (.int (0 : Int32)), (.int (6 : Int32)), .null] ∧ Z.Warmed39 U.vm ∧ U.heap = h0) (fun _ _ _ _ _ => True) (fun _ U o U' => ∃ v L, o = .returned v ∧ Q2_FORMAT Z a1 a2 kc cs h0 n0 v U'.heap L ∧ FrameEnd U o U' L ({ frames := 2, cells := 1, slots := 6, locals := 35 } : Room).cells ({ frames := 2, cells := 1, slots := 6, locals := 35 } : Room).slots) := by
  refine MetFree.of_bodySF (plainFor_of_name pn_1) hisR ?_
  intro p e s m args below meth c s₁ Bd hml0 hP hK
  obtain ⟨rfl, hZ, hh⟩ := hP
  have hx := Bd.exec
  have hby := Bd.bytes
  have hml : c.maxLocals = 6 := hml0
  have hown : s.vm.findClass "java/lang/String" = some m.cls := findClass_of_methodNamed Bd.named
  have hnm := (name_of_methodNamed Bd.named Bd.method).1
  have X0 : Stand p l e ({ frames := 2, cells := 1, slots := 6, locals := 35 } : Room) s m #[(.ref a1), (.ref a2), (.int (0 : Int32)), (.int (6 : Int32)), .null] below meth c s₁ [] 0 0 := Stand.of_body Bd
  have e0 : s₁.heap = h0 := by rw [← hh, Bd.state]; rfl
  have N0 := Fr.nil n0
  have K0 := Keep.refl h0 [a1]
  have pre0 : ∀ t, Steps p.tables e below (s₁.setTop (mkF m 0 #[.val (.ref a1), .val (.ref a2), .val (.int (0 : Int32)), .val (.int (6 : Int32)), .val .null, .unset] [])) t → Steps p.tables e below (s₁.setTop (entryFrame m #[(.ref a1), (.ref a2), (.int (0 : Int32)), (.int (6 : Int32)), .null] 6)) t := fun t k => castTop (ef_2_FORMAT m a1 a2) k
  obtain ⟨T1, X1, e1, st1⟩ := initO X0 hx hZ hown (hw _ (List.mem_of_getElem? (i := 12) rfl)) (hw _ (List.mem_of_getElem? (i := 13) rfl)) (hw _ (List.mem_of_getElem? (i := 14) rfl)) e0 (g := (mkF m 1 #[vR a1, vR a2, vI 0, vI 6, .val .null, .unset] [iR a1])) rfl (by rw [hml]; rfl) rfl (hb hby d2_1) (by decide) (W := 0) (by show 2 * 0 + _ ≤ _; exact Nat.le_of_eq rfl) (by decide)
  obtain ⟨T2, X2, e2, st2⟩ := getS2 X1 hx hZ hown (host := "") (Or.inl (hw _ (List.mem_of_getElem? (i := 15) rfl))) Via.refl e1 (S_CS.ext O0.2) (g := (mkF m 27 #[vR a1, vR a2, vI 0, vI 6, .val .null, .unset] [])) rfl (hb hby d2_27)
  obtain ⟨_, _, ⟨T3, L3, k3, n3⟩, -, X3, ⟨Lc3, hQ3, l3, y3, z3⟩, st3⟩ := Jvm.LawKit.callS X2 hx (y := (⟨"java/lang/StringUTF16", "compress", "([CII)[B"⟩ : MethodName)) hown (mvT hZ (hw _ (List.mem_of_getElem? (i := 16) rfl))) (mvT hZ (hw _ (List.mem_of_getElem? (i := 17) rfl))) (mvT hZ (hw _ (List.mem_of_getElem? (i := 18) rfl))) (mvT hZ (hw _ (List.mem_of_getElem? (i := 19) rfl))) (by decide) (backOf (W := 0) (rm4_FORMAT l Z a0 hw [] a2 kc  h0 n0 (Nat.le_trans Z0 K0.1) V_c ) hZ (hw _ (List.mem_of_getElem? (i := 19) rfl)) (hw _ (List.mem_of_getElem? (i := 18) rfl)) (by decide) (by decide)) (g := (mkF m 36 #[vR a1, vR a2, vI 0, vI 6, .val .null, .unset] [iI 6, iI 0, iR a2])) rfl (by rw [hml]; rfl) (argsL := [(.ref a2), (.int (0 : Int32)), (.int (6 : Int32))]) (rest := []) (lenOf pd_1 rfl) rfl (by show 2 * 0 + _ ≤ _; exact Nat.le_of_eq rfl) (hb hby d2_36) (fun _ _ => ⟨rfl, e2, (by decide : 0 + 1 ≤ _), (by decide : 0 + 6 ≤ _)⟩)
  dsimp only [Pt.U, Pt.locs, Pt.cells, Pt.slots] at X3 l3 y3 z3 st3 hQ3
  subst l3 y3 z3
  obtain ⟨d3, kd3, rfl, N3q, K3q, V3q, z_d3⟩ := hQ3
  have ne_a1_d3 : a1 ≠ d3 := Nat.ne_of_lt (Nat.lt_of_lt_of_le E_a1.lt z_d3)
  have ne_a2_d3 : a2 ≠ d3 := Nat.ne_of_lt (Nat.lt_of_lt_of_le V_c.lt z_d3)
  have sz_d3 : h0.size ≤ d3 := Nat.le_trans K0.1 z_d3
  have g_d3 : n0 ≤ d3 := Nat.le_trans Z0 sz_d3
  have N3 := Fr.app N0 N3q
  have K3 : Keep h0 T3.heap [a1] := Keep.trans K0 K3q all0
  obtain ⟨_, _, ⟨T4, L4, k4, n4⟩, -, X4, ⟨Lc4, hQ4, l4, y4, z4⟩, st4⟩ := Jvm.LawKit.callS X3 hx (y := (⟨"java/lang/StringUTF16", "coderFromArrayLen", "([BI)B"⟩ : MethodName)) hown (mvT hZ (hw _ (List.mem_of_getElem? (i := 24) rfl))) (mvT hZ (hw _ (List.mem_of_getElem? (i := 25) rfl))) (mvT hZ (hw _ (List.mem_of_getElem? (i := 18) rfl))) (mvT hZ (hw _ (List.mem_of_getElem? (i := 26) rfl))) (by decide) (backOf (W := 1) (rm6_FORMAT l Z a0 hw [] d3 kd3  T3.heap V3q) hZ (hw _ (List.mem_of_getElem? (i := 26) rfl)) (hw _ (List.mem_of_getElem? (i := 18) rfl)) (by decide) (by decide)) (g := (mkF m 45 #[vR a1, vR a2, vI 0, vI 6, .val .null, vR d3] [iI 6, iR d3, iR a1])) rfl (by rw [hml]; rfl) (argsL := [(.ref d3), (.int (6 : Int32))]) (rest := [(.ref a1)]) (lenOf pd_2 rfl) rfl (by show 2 * 0 + _ ≤ _; exact Nat.le_of_eq rfl) (hb hby d2_45) (fun _ _ => ⟨rfl, rfl, (by decide : 1 + 0 ≤ _), (by decide : 6 + 0 ≤ _)⟩)
  dsimp only [Pt.U, Pt.locs, Pt.cells, Pt.slots] at X4 l4 y4 z4 st4 hQ4
  subst l4 y4 z4
  obtain ⟨rfl, rfl, e4⟩ := hQ4
  try rw [List.append_nil] at X4
  have fk5 := (F_c.keep K3q nin0)
  have fk6 := (E_a1.keep K3q)
  obtain ⟨T7, h7, X7, e7, W7, st7⟩ := putFN X4 hx hZ hown (hw _ (List.mem_of_getElem? (i := 27) rfl)) Via.refl e4 fk5 fk6 (Or.inr ⟨(hw _ (List.mem_of_getElem? (i := 28) rfl)), rfl, hnm⟩) (hw _ (List.mem_of_getElem? (i := 2) rfl)) (ty := .byte) (v' := (.int (0 : Int32))) (by decide) rfl (by decide) (g := (mkF m 48 #[vR a1, vR a2, vI 0, vI 6, .val .null, vR d3] [iI 0, iR a1])) rfl rfl (hb hby d2_48)
  have Fw7 := fk5.same W7
  have K7 : Keep h0 h7 [a1] := K3.wr W7 (Or.inl (List.mem_of_getElem? (i := 0) rfl))
  have N7 := Fr.snoc X7 N3 g_a1
  have fk8 := ((F_v.keep K3q nin0).other W7 (Or.inr (slot_ne (Or.inr (hw _ (List.mem_of_getElem? (i := 30) rfl))) (Or.inr (hw _ (List.mem_of_getElem? (i := 28) rfl))) (by decide) (t := (.array .byte)) (t' := .byte) (by decide) (by decide))))
  have fk9 := (fk6.wr W7)
  obtain ⟨T10, h10, X10, e10, W10, st10⟩ := putF X7 hx hZ hown (host := "") (Or.inl (hw _ (List.mem_of_getElem? (i := 29) rfl))) Via.refl e7 fk8 fk9 (Or.inr ⟨(hw _ (List.mem_of_getElem? (i := 30) rfl)), rfl, hnm⟩) (hw _ (List.mem_of_getElem? (i := 2) rfl)) (ty := (.array .byte)) (by decide) rfl rfl (g := (mkF m 54 #[vR a1, vR a2, vI 0, vI 6, .val .null, vR d3] [iR d3, iR a1])) rfl rfl (hb hby d2_54)
  have Fw10 := fk8.same W10
  have K10 : Keep h0 h10 [a1] := K7.wr W10 (Or.inl (List.mem_of_getElem? (i := 0) rfl))
  have N10 := Fr.snoc X10 N7 g_a1
  obtain ⟨fs, hr, hrun, hended, hW, hsame⟩ := X10.leave (v := none) (fun _ => rfl)
  have fk11 := (fk9.wr W10)
  have fk12 := (Fw7.other W10 (Or.inr (slot_ne (Or.inr (hw _ (List.mem_of_getElem? (i := 28) rfl))) (Or.inr (hw _ (List.mem_of_getElem? (i := 30) rfl))) (by decide) (t := .byte) (t' := (.array .byte)) (by decide) (by decide))))
  have fk13 := ((V3q.other W7 (Ne.symm ne_a1_d3)).other W10 (Ne.symm ne_a1_d3))
  refine ⟨_, _, pre0 _ ?_, hrun, hended, _, _, rfl, ?_, ⟨_, rfl⟩, hW, hsame.mono (by decide) (by decide)⟩
  · show Steps _ _ _ (s₁.setTop (mkF m 0 #[vR a1, vR a2, vI 0, vI 6, .val .null, .unset] [])) _
    refine XS.aloadN X0.here hx rfl (hb hby d2_0) rfl rfl ?_
    show Steps _ _ _ (s₁.setTop (mkF m 1 #[vR a1, vR a2, vI 0, vI 6, .val .null, .unset] [iR a1])) _
    refine st1 _ ?_
    show Steps _ _ _ (T1.setTop (mkF m 4 #[vR a1, vR a2, vI 0, vI 6, .val .null, .unset] [])) _
    refine XS.iloadN X1.here hx rfl (hb hby d2_4) rfl ?_
    show Steps _ _ _ (T1.setTop (mkF m 5 #[vR a1, vR a2, vI 0, vI 6, .val .null, .unset] [iI 6])) _
    refine XS.ifYes X1.here hx rfl (pc0 := 5) (pc' := 27) rfl (hb hby d2_5) rfl ((if0 _ _).trans (feq (by decide : ¬ ((6 : Int32) = (0 : Int32)))).2) (by decide) (by decide) ?_
    show Steps _ _ _ (T1.setTop (mkF m 27 #[vR a1, vR a2, vI 0, vI 6, .val .null, .unset] [])) _
    refine st2 _ ?_
    show Steps _ _ _ (T2.setTop (mkF m 30 #[vR a1, vR a2, vI 0, vI 6, .val .null, .unset] [iI cs])) _
    refine XS.ifNo X2.here hx rfl (hb hby d2_30) rfl ((if0 _ _).trans (feq h_cs).1) ?_
    show Steps _ _ _ (T2.setTop (mkF m 33 #[vR a1, vR a2, vI 0, vI 6, .val .null, .unset] [])) _
    refine XS.aloadN X2.here hx rfl (hb hby d2_33) rfl rfl ?_
    show Steps _ _ _ (T2.setTop (mkF m 34 #[vR a1, vR a2, vI 0, vI 6, .val .null, .unset] [iR a2])) _
    refine XS.iloadN X2.here hx rfl (hb hby d2_34) rfl ?_
    show Steps _ _ _ (T2.setTop (mkF m 35 #[vR a1, vR a2, vI 0, vI 6, .val .null, .unset] [iI 0, iR a2])) _
    refine XS.iloadN X2.here hx rfl (hb hby d2_35) rfl ?_
    show Steps _ _ _ (T2.setTop (mkF m 36 #[vR a1, vR a2, vI 0, vI 6, .val .null, .unset] [iI 6, iI 0, iR a2])) _
    refine st3 _ ?_
    show Steps _ _ _ (T3.setTop (mkF m 39 #[vR a1, vR a2, vI 0, vI 6, .val .null, .unset] [iR d3])) _
    refine XS.astore X3.here hx rfl (hb hby d2_39) rfl rfl (l' := #[vR a1, vR a2, vI 0, vI 6, .val .null, vR d3]) rfl ?_
    show Steps _ _ _ (T3.setTop (mkF m 41 #[vR a1, vR a2, vI 0, vI 6, .val .null, vR d3] [])) _
    refine XS.aloadN X3.here hx rfl (hb hby d2_41) rfl rfl ?_
    show Steps _ _ _ (T3.setTop (mkF m 42 #[vR a1, vR a2, vI 0, vI 6, .val .null, vR d3] [iR a1])) _
    refine XS.aload X3.here hx rfl (hb hby d2_42) rfl rfl ?_
    show Steps _ _ _ (T3.setTop (mkF m 44 #[vR a1, vR a2, vI 0, vI 6, .val .null, vR d3] [iR d3, iR a1])) _
    refine XS.iloadN X3.here hx rfl (hb hby d2_44) rfl ?_
    show Steps _ _ _ (T3.setTop (mkF m 45 #[vR a1, vR a2, vI 0, vI 6, .val .null, vR d3] [iI 6, iR d3, iR a1])) _
    refine st4 _ ?_
    show Steps _ _ _ (T4.setTop (mkF m 48 #[vR a1, vR a2, vI 0, vI 6, .val .null, vR d3] [iI 0, iR a1])) _
    refine st7 _ ?_
    show Steps _ _ _ (T7.setTop (mkF m 51 #[vR a1, vR a2, vI 0, vI 6, .val .null, vR d3] [])) _
    refine XS.aloadN X7.here hx rfl (hb hby d2_51) rfl rfl ?_
    show Steps _ _ _ (T7.setTop (mkF m 52 #[vR a1, vR a2, vI 0, vI 6, .val .null, vR d3] [iR a1])) _
    refine XS.aload X7.here hx rfl (hb hby d2_52) rfl rfl ?_
    show Steps _ _ _ (T7.setTop (mkF m 54 #[vR a1, vR a2, vI 0, vI 6, .val .null, vR d3] [iR d3, iR a1])) _
    refine st10 _ ?_
    show Steps _ _ _ (T10.setTop (mkF m 57 #[vR a1, vR a2, vI 0, vI 6, .val .null, vR d3] [])) _
    exact X10.returnOut hx Bd.returns (hb hby d2_57) hr
  · show Q2_FORMAT Z a1 a2 kc cs h0 n0 _ T10.heap _
    rw [e10]
    exact ⟨_, _, rfl, N10, K10, fk11, fk12, Fw10, fk13, sz_d3⟩
theorem ef_1_FORMAT (m : MethodId) (x0 : Addr) (x1 : Addr) : entryFrame m #[(.ref x0), (.ref x1)] 2 = mkF m 0 #[.val (.ref x0), .val (.ref x1)] [] := by first | (simp [entryFrame, mkF, argsToLocals, Value.category]; done) | rfl
def Q1_FORMAT (Z : State) (a1 : Addr) (a2 : Addr) (kc : ClassId) (cs : Int32) (h0 : Heap) (n0 : Nat) (v : Option Value) (h : Heap) (L : List Loc) : Prop := ∃ (b : Addr) (kb : ClassId), v = none ∧ Fr n0 L ∧ Keep h0 h [a1] ∧ Exa Z h a1 "java/lang/String" ∧ Fld Z h a1 "java/lang/String" "coder" "B" (.int (0 : Int32)) ∧ Fld Z h a1 "java/lang/String" "value" "[B" (.ref b) ∧ Arv Z h b kb .byte (6 : Int32) [(.int (102 : Int32)), (.int (111 : Int32)), (.int (114 : Int32)), (.int (109 : Int32)), (.int (97 : Int32)), (.int (116 : Int32))] (.int (0 : Int32)) ∧ h0.size ≤ b
set_option maxRecDepth 65536 in
set_option maxHeartbeats 40000000 in
theorem rm1_FORMAT (l : Launch) (Z : State) (a0 : Array Value) (hw : ∀ d ∈ tables_1, d.before a0 Z = true) (ws : List Jvm.Cond) (a1 : Addr) (a2 : Addr) (kc : ClassId) (cs : Int32) (h0 : Heap) (n0 : Nat) (Z0 : n0 ≤ h0.size) (O0 : Old Z n0 h0) (E_a1 : Exa Z h0 a1 "java/lang/String") (g_a1 : n0 ≤ a1) (F_v : Fld Z h0 a1 "java/lang/String" "value" "[B" .null) (F_c : Fld Z h0 a1 "java/lang/String" "coder" "B" (.int (0 : Int32))) (V_c : Arv Z h0 a2 kc .char (6 : Int32) [(.int (102 : Int32)), (.int (111 : Int32)), (.int (114 : Int32)), (.int (109 : Int32)), (.int (97 : Int32)), (.int (116 : Int32))] (.int (0 : Int32))) (ne_a1_a2 : a1 ≠ a2) (S_CS : Sta Z Z.heap "java/lang/String" "COMPACT_STRINGS" "Z" (.int cs)) (h_cs : ¬ cs = (0 : Int32)) :
    MetFree l (⟨"java/lang/String", "<init>", "([C)V"⟩ : MethodName) (head1 (Jvm.Cond.code (⟨"java/lang/String", "<init>", "([C)V"⟩ : MethodName) jdk_42_method_3_code 2 none :: ws) ({ frames := 3, cells := 1, slots := 6, locals := 52 } : Room)) (fun a U => a = #[(.ref a1), (.ref a2)] ∧ Z.Warmed39 U.vm ∧ U.heap = h0) (fun _ _ _ _ _ => True) (fun _ U o U' => ∃ v L, o = .returned v ∧ Q1_FORMAT Z a1 a2 kc cs h0 n0 v U'.heap L ∧ FrameEnd U o U' L ({ frames := 3, cells := 1, slots := 6, locals := 52 } : Room).cells ({ frames := 3, cells := 1, slots := 6, locals := 52 } : Room).slots) := by
  refine MetFree.of_bodySF (plainFor_of_name pn_1) hisR ?_
  intro p e s m args below meth c s₁ Bd hml0 hP hK
  obtain ⟨rfl, hZ, hh⟩ := hP
  have hx := Bd.exec
  have hby := Bd.bytes
  have hml : c.maxLocals = 2 := hml0
  have hown : s.vm.findClass "java/lang/String" = some m.cls := findClass_of_methodNamed Bd.named
  have hnm := (name_of_methodNamed Bd.named Bd.method).1
  have X0 : Stand p l e ({ frames := 3, cells := 1, slots := 6, locals := 52 } : Room) s m #[(.ref a1), (.ref a2)] below meth c s₁ [] 0 0 := Stand.of_body Bd
  have e0 : s₁.heap = h0 := by rw [← hh, Bd.state]; rfl
  have N0 := Fr.nil n0
  have K0 := Keep.refl h0 [a1]
  have pre0 : ∀ t, Steps p.tables e below (s₁.setTop (mkF m 0 #[.val (.ref a1), .val (.ref a2)] [])) t → Steps p.tables e below (s₁.setTop (entryFrame m #[(.ref a1), (.ref a2)] 2)) t := fun t k => castTop (ef_1_FORMAT m a1 a2) k
  obtain ⟨cl1, Ar1, q1, S1, M1, H1, G1⟩ := id V_c
  obtain ⟨_, _, ⟨T2, L2, k2, n2⟩, -, X2, ⟨Lc2, hQ2, l2, y2, z2⟩, st2⟩ := X0.specialBack hx (y := (⟨"java/lang/String", "<init>", "([CIILjava/lang/Void;)V"⟩ : MethodName)) rfl hown (mvT hZ (hw _ (List.mem_of_getElem? (i := 8) rfl))) (mvT hZ (hw _ (List.mem_of_getElem? (i := 9) rfl))) (mvT hZ (hw _ (List.mem_of_getElem? (i := 11) rfl))) (by decide) (backOf (W := 0) (rm2_FORMAT l Z a0 hw [] a1 a2 kc  cs h0 n0 (Nat.le_trans Z0 K0.1) O0 E_a1 g_a1 F_v F_c V_c ne_a1_a2  S_CS h_cs) hZ (hw _ (List.mem_of_getElem? (i := 11) rfl)) (hw _ (List.mem_of_getElem? (i := 3) rfl)) (by decide) (by decide)) (g := (mkF m 6 #[vR a1, vR a2] [.null, iI 6, iI 0, iR a2, iR a1])) rfl (by rw [hml]; rfl) (Steps.refl _) (a := a1) (argsL := [(.ref a2), (.int (0 : Int32)), (.int (6 : Int32)), .null]) (rest := []) (lenOf pd_3 rfl) rfl (by show 2 * 0 + _ ≤ _; exact Nat.le_of_eq rfl) (hb hby d1_6) (fun _ _ => ⟨rfl, e0, (by decide : 0 + 1 ≤ _), (by decide : 0 + 6 ≤ _)⟩)
  dsimp only [Pt.U, Pt.locs, Pt.cells, Pt.slots] at X2 l2 y2 z2 st2 hQ2
  subst l2 y2 z2
  obtain ⟨d2, kd2, rfl, N2q, K2q, E2q, C2q, F2q, V2q, z_d2⟩ := hQ2
  have ne_a1_d2 : a1 ≠ d2 := Nat.ne_of_lt (Nat.lt_of_lt_of_le E_a1.lt z_d2)
  have ne_a2_d2 : a2 ≠ d2 := Nat.ne_of_lt (Nat.lt_of_lt_of_le V_c.lt z_d2)
  have sz_d2 : h0.size ≤ d2 := Nat.le_trans K0.1 z_d2
  have g_d2 : n0 ≤ d2 := Nat.le_trans Z0 sz_d2
  have N2 := Fr.app N0 N2q
  have K2 : Keep h0 T2.heap [a1] := Keep.trans K0 K2q (allS (Or.inl (List.mem_of_getElem? (i := 0) rfl)) all0)
  obtain ⟨fs, hr, hrun, hended, hW, hsame⟩ := X2.leave (v := none) (fun _ => rfl)
  refine ⟨_, _, pre0 _ ?_, hrun, hended, _, _, rfl, ?_, ⟨_, rfl⟩, hW, hsame.mono (by decide) (by decide)⟩
  · show Steps _ _ _ (s₁.setTop (mkF m 0 #[vR a1, vR a2] [])) _
    refine XS.aloadN X0.here hx rfl (hb hby d1_0) rfl rfl ?_
    show Steps _ _ _ (s₁.setTop (mkF m 1 #[vR a1, vR a2] [iR a1])) _
    refine XS.aloadN X0.here hx rfl (hb hby d1_1) rfl rfl ?_
    show Steps _ _ _ (s₁.setTop (mkF m 2 #[vR a1, vR a2] [iR a2, iR a1])) _
    refine XS.iconst X0.here hx rfl (hb hby d1_2) ?_
    show Steps _ _ _ (s₁.setTop (mkF m 3 #[vR a1, vR a2] [iI 0, iR a2, iR a1])) _
    refine XS.aloadN X0.here hx rfl (hb hby d1_3) rfl rfl ?_
    show Steps _ _ _ (s₁.setTop (mkF m 4 #[vR a1, vR a2] [iR a2, iI 0, iR a2, iR a1])) _
    refine X0.arraylength hx (by rw [e0]; exact Ar1.1) (State.isArrayOf_alike hZ.alike Ar1.2.1) (g := (mkF m 4 #[vR a1, vR a2] [iR a2, iI 0, iR a2, iR a1])) rfl rfl (hb hby d1_4) _ ?_
    rw [len_of S1 M1]
    show Steps _ _ _ (s₁.setTop (mkF m 5 #[vR a1, vR a2] [iI 6, iI 0, iR a2, iR a1])) _
    refine XS.aconstNull X0.here hx rfl (hb hby d1_5) ?_
    show Steps _ _ _ (s₁.setTop (mkF m 6 #[vR a1, vR a2] [.null, iI 6, iI 0, iR a2, iR a1])) _
    refine st2.trans ?_
    show Steps _ _ _ (T2.setTop (mkF m 9 #[vR a1, vR a2] [])) _
    exact X2.returnOut hx Bd.returns (hb hby d1_9) hr
  · show Q1_FORMAT Z a1 a2 kc cs h0 n0 _ T2.heap _
    exact ⟨_, _, rfl, N2, K2, E2q, C2q, F2q, V2q, sz_d2⟩
theorem ef_5_GET (m : MethodId) (x0 : Addr) (x2 : Addr) : entryFrame m #[(.ref x0), (.int (0 : Int32)), (.ref x2), (.int (0 : Int32)), (.int (3 : Int32))] 7 = mkF m 0 #[.val (.ref x0), .val (.int (0 : Int32)), .val (.ref x2), .val (.int (0 : Int32)), .val (.int (3 : Int32)), .unset, .unset] [] := by first | (simp [entryFrame, mkF, argsToLocals, Value.category]; done) | rfl
def Q5_GET (Z : State) (a1 : Addr) (a3 : Addr) (kc kb : ClassId) (h0 : Heap) (n0 : Nat) (v : Option Value) (h : Heap) (L : List Loc) : Prop := v = some (.int (3 : Int32)) ∧ Fr n0 L ∧ Keep h0 h [a3] ∧ Arv Z h a3 kb .byte (3 : Int32) [(.int (103 : Int32)), (.int (101 : Int32)), (.int (116 : Int32))] (.int (0 : Int32))
set_option maxRecDepth 65536 in
set_option maxHeartbeats 40000000 in
theorem rm5_GET (l : Launch) (Z : State) (a0 : Array Value) (hw : ∀ d ∈ tables_1, d.before a0 Z = true) (ws : List Jvm.Cond) (a1 : Addr) (a3 : Addr) (kc kb : ClassId) (h0 : Heap) (n0 : Nat) (Z0 : n0 ≤ h0.size) (V_c : Arv Z h0 a1 kc .char (3 : Int32) [(.int (103 : Int32)), (.int (101 : Int32)), (.int (116 : Int32))] (.int (0 : Int32))) (V_b : Arv Z h0 a3 kb .byte (3 : Int32) [(.int (0 : Int32)), (.int (0 : Int32)), (.int (0 : Int32))] (.int (0 : Int32))) (ne_a1_a3 : a1 ≠ a3) (g_a3 : n0 ≤ a3) :
    MetFree l (⟨"java/lang/StringUTF16", "compress", "([CI[BII)I"⟩ : MethodName) (head1 (Jvm.Cond.code (⟨"java/lang/StringUTF16", "compress", "([CI[BII)I"⟩ : MethodName) jdk_52_method_21_code 7 (some .int) :: ws) ({ frames := 0, cells := 0, slots := 0, locals := 0 } : Room)) (fun a U => a = #[(.ref a1), (.int (0 : Int32)), (.ref a3), (.int (0 : Int32)), (.int (3 : Int32))] ∧ Z.Warmed39 U.vm ∧ U.heap = h0) (fun _ _ _ _ _ => True) (fun _ U o U' => ∃ v L, o = .returned v ∧ Q5_GET Z a1 a3 kc kb h0 n0 v U'.heap L ∧ FrameEnd U o U' L ({ frames := 0, cells := 0, slots := 0, locals := 0 } : Room).cells ({ frames := 0, cells := 0, slots := 0, locals := 0 } : Room).slots) := by
  refine MetFree.of_bodySF (plainFor_of_name pn_0) hisR ?_
  intro p e s m args below meth c s₁ Bd hml0 hP hK
  obtain ⟨rfl, hZ, hh⟩ := hP
  have hx := Bd.exec
  have hby := Bd.bytes
  have hml : c.maxLocals = 7 := hml0
  have hown : s.vm.findClass "java/lang/StringUTF16" = some m.cls := findClass_of_methodNamed Bd.named
  have hnm := (name_of_methodNamed Bd.named Bd.method).1
  have X0 : Stand p l e ({ frames := 0, cells := 0, slots := 0, locals := 0 } : Room) s m #[(.ref a1), (.int (0 : Int32)), (.ref a3), (.int (0 : Int32)), (.int (3 : Int32))] below meth c s₁ [] 0 0 := Stand.of_body Bd
  have e0 : s₁.heap = h0 := by rw [← hh, Bd.state]; rfl
  have N0 := Fr.nil n0
  have K0 := Keep.refl h0 [a3]
  have pre0 : ∀ t, Steps p.tables e below (s₁.setTop (mkF m 0 #[.val (.ref a1), .val (.int (0 : Int32)), .val (.ref a3), .val (.int (0 : Int32)), .val (.int (3 : Int32)), .unset, .unset] [])) t → Steps p.tables e below (s₁.setTop (entryFrame m #[(.ref a1), (.int (0 : Int32)), (.ref a3), (.int (0 : Int32)), (.int (3 : Int32))] 7)) t := fun t k => castTop (ef_5_GET m a1 a3) k
  obtain ⟨cl1, Ar1, q1, S1, M1, H1, G1⟩ := id V_c
  have hin2 : ¬ ((0 : Int32) < 0 ∨ cl1.slots.size ≤ ((0 : Int32)).toNatClampNeg) := inb_of S1 ⟨by decide, by decide⟩
  have hat3 : cl1.slots[((0 : Int32)).toNatClampNeg]? = some (.int (103 : Int32)) := Has.at H1 hin2 rfl
  obtain ⟨cl4, Ar4, q4, S4, M4, H4, G4⟩ := id V_b
  have hin5 : ¬ ((0 : Int32) < 0 ∨ cl4.slots.size ≤ ((0 : Int32)).toNatClampNeg) := inb_of S4 ⟨by decide, by decide⟩
  obtain ⟨T6, h6, X6, e6, W6, st6⟩ := stB X0 hx hZ e0 Ar4 (j := (0 : Int32)) hin5 (g := (mkF m 31 #[vR a1, vI 0, vR a3, vI 0, vI 3, vI 0, vI 103] [iI 103, iI 0, iR a3])) rfl rfl (hb hby d5_31)
  have V6 : Arv Z h6 a3 kb .byte (3 : Int32) [(.int (103 : Int32)), (.int (0 : Int32)), (.int (0 : Int32))] (.int (0 : Int32)) := Arv.set Ar4 q4 S4 M4 H4 G4 (by decide) W6 0 rfl (Nat.le_of_ble_eq_true rfl)
  have K6 : Keep h0 h6 [a3] := K0.wr W6 (Or.inl (List.mem_of_getElem? (i := 0) rfl))
  have N6 := Fr.snoc X6 N0 g_a3
  have fk7 := (V_c.other W6 ne_a1_a3)
  obtain ⟨cl8, Ar8, q8, S8, M8, H8, G8⟩ := id fk7
  have hin9 : ¬ ((1 : Int32) < 0 ∨ cl8.slots.size ≤ ((1 : Int32)).toNatClampNeg) := inb_of S8 ⟨by decide, by decide⟩
  have hat10 : cl8.slots[((1 : Int32)).toNatClampNeg]? = some (.int (101 : Int32)) := Has.at H8 hin9 rfl
  obtain ⟨cl11, Ar11, q11, S11, M11, H11, G11⟩ := id V6
  have hin12 : ¬ ((1 : Int32) < 0 ∨ cl11.slots.size ≤ ((1 : Int32)).toNatClampNeg) := inb_of S11 ⟨by decide, by decide⟩
  obtain ⟨T13, h13, X13, e13, W13, st13⟩ := stB X6 hx hZ e6 Ar11 (j := (1 : Int32)) hin12 (g := (mkF m 31 #[vR a1, vI 1, vR a3, vI 1, vI 3, vI 1, vI 101] [iI 101, iI 1, iR a3])) rfl rfl (hb hby d5_31)
  have V13 : Arv Z h13 a3 kb .byte (3 : Int32) [(.int (103 : Int32)), (.int (101 : Int32)), (.int (0 : Int32))] (.int (0 : Int32)) := Arv.set Ar11 q11 S11 M11 H11 G11 (by decide) W13 1 rfl (Nat.le_of_ble_eq_true rfl)
  have K13 : Keep h0 h13 [a3] := K6.wr W13 (Or.inl (List.mem_of_getElem? (i := 0) rfl))
  have N13 := Fr.snoc X13 N6 g_a3
  have fk14 := (fk7.other W13 ne_a1_a3)
  obtain ⟨cl15, Ar15, q15, S15, M15, H15, G15⟩ := id fk14
  have hin16 : ¬ ((2 : Int32) < 0 ∨ cl15.slots.size ≤ ((2 : Int32)).toNatClampNeg) := inb_of S15 ⟨by decide, by decide⟩
  have hat17 : cl15.slots[((2 : Int32)).toNatClampNeg]? = some (.int (116 : Int32)) := Has.at H15 hin16 rfl
  obtain ⟨cl18, Ar18, q18, S18, M18, H18, G18⟩ := id V13
  have hin19 : ¬ ((2 : Int32) < 0 ∨ cl18.slots.size ≤ ((2 : Int32)).toNatClampNeg) := inb_of S18 ⟨by decide, by decide⟩
  obtain ⟨T20, h20, X20, e20, W20, st20⟩ := stB X13 hx hZ e13 Ar18 (j := (2 : Int32)) hin19 (g := (mkF m 31 #[vR a1, vI 2, vR a3, vI 2, vI 3, vI 2, vI 116] [iI 116, iI 2, iR a3])) rfl rfl (hb hby d5_31)
  have V20 : Arv Z h20 a3 kb .byte (3 : Int32) [(.int (103 : Int32)), (.int (101 : Int32)), (.int (116 : Int32))] (.int (0 : Int32)) := Arv.set Ar18 q18 S18 M18 H18 G18 (by decide) W20 2 rfl (Nat.le_of_ble_eq_true rfl)
  have K20 : Keep h0 h20 [a3] := K13.wr W20 (Or.inl (List.mem_of_getElem? (i := 0) rfl))
  have N20 := Fr.snoc X20 N13 g_a3
  obtain ⟨fs, hr, hrun, hended, hW, hsame⟩ := X20.leave (v := some (.int (3 : Int32))) (fun h => by rw [Bd.returns] at h; cases h)
  refine ⟨_, _, pre0 _ ?_, hrun, hended, _, _, rfl, ?_, ⟨_, rfl⟩, hW, hsame.mono (by decide) (by decide)⟩
  · show Steps _ _ _ (s₁.setTop (mkF m 0 #[vR a1, vI 0, vR a3, vI 0, vI 3, .unset, .unset] [])) _
    refine XS.iconst X0.here hx rfl (hb hby d5_0) ?_
    show Steps _ _ _ (s₁.setTop (mkF m 1 #[vR a1, vI 0, vR a3, vI 0, vI 3, .unset, .unset] [iI 0])) _
    refine XS.istore X0.here hx rfl (hb hby d5_1) rfl (l' := #[vR a1, vI 0, vR a3, vI 0, vI 3, vI 0, .unset]) rfl ?_
    show Steps _ _ _ (s₁.setTop (mkF m 3 #[vR a1, vI 0, vR a3, vI 0, vI 3, vI 0, .unset] [])) _
    refine XS.iload X0.here hx rfl (hb hby d5_3) rfl ?_
    show Steps _ _ _ (s₁.setTop (mkF m 5 #[vR a1, vI 0, vR a3, vI 0, vI 3, vI 0, .unset] [iI 0])) _
    refine XS.iload X0.here hx rfl (hb hby d5_5) rfl ?_
    show Steps _ _ _ (s₁.setTop (mkF m 7 #[vR a1, vI 0, vR a3, vI 0, vI 3, vI 0, .unset] [iI 3, iI 0])) _
    refine XS.icmpNo X0.here hx rfl (hb hby d5_7) rfl (tlt (by decide : (0 : Int32) < (3 : Int32))).2.1 ?_
    show Steps _ _ _ (s₁.setTop (mkF m 10 #[vR a1, vI 0, vR a3, vI 0, vI 3, vI 0, .unset] [])) _
    refine XS.aloadN X0.here hx rfl (hb hby d5_10) rfl rfl ?_
    show Steps _ _ _ (s₁.setTop (mkF m 11 #[vR a1, vI 0, vR a3, vI 0, vI 3, vI 0, .unset] [iR a1])) _
    refine XS.iloadN X0.here hx rfl (hb hby d5_11) rfl ?_
    show Steps _ _ _ (s₁.setTop (mkF m 12 #[vR a1, vI 0, vR a3, vI 0, vI 3, vI 0, .unset] [iI 0, iR a1])) _
    refine X0.caload hx (j := (0 : Int32)) (v := (.int (103 : Int32))) (by rw [e0]; exact Ar1.1) (State.isArrayOf_alike hZ.alike Ar1.2.1) Ar1.2.2 hin2 hat3 (g := (mkF m 12 #[vR a1, vI 0, vR a3, vI 0, vI 3, vI 0, .unset] [iI 0, iR a1])) rfl rfl (hb hby d5_12) _ ?_
    show Steps _ _ _ (s₁.setTop (mkF m 13 #[vR a1, vI 0, vR a3, vI 0, vI 3, vI 0, .unset] [iI 103])) _
    refine XS.istore X0.here hx rfl (hb hby d5_13) rfl (l' := #[vR a1, vI 0, vR a3, vI 0, vI 3, vI 0, vI 103]) rfl ?_
    show Steps _ _ _ (s₁.setTop (mkF m 15 #[vR a1, vI 0, vR a3, vI 0, vI 3, vI 0, vI 103] [])) _
    refine XS.iload X0.here hx rfl (hb hby d5_15) rfl ?_
    show Steps _ _ _ (s₁.setTop (mkF m 17 #[vR a1, vI 0, vR a3, vI 0, vI 3, vI 0, vI 103] [iI 103])) _
    refine XS.sipush X0.here hx rfl (hb hby d5_17) ?_
    show Steps _ _ _ (s₁.setTop (mkF m 20 #[vR a1, vI 0, vR a3, vI 0, vI 3, vI 0, vI 103] [iI 255, iI 103])) _
    refine XS.icmpYes X0.here hx rfl (pc0 := 20) (pc' := 26) rfl (hb hby d5_20) rfl (flt (by decide : ¬ ((255 : Int32) < (103 : Int32)))).2.2.2 (by decide) (by decide) ?_
    show Steps _ _ _ (s₁.setTop (mkF m 26 #[vR a1, vI 0, vR a3, vI 0, vI 3, vI 0, vI 103] [])) _
    refine XS.aloadN X0.here hx rfl (hb hby d5_26) rfl rfl ?_
    show Steps _ _ _ (s₁.setTop (mkF m 27 #[vR a1, vI 0, vR a3, vI 0, vI 3, vI 0, vI 103] [iR a3])) _
    refine XS.iloadN X0.here hx rfl (hb hby d5_27) rfl ?_
    show Steps _ _ _ (s₁.setTop (mkF m 28 #[vR a1, vI 0, vR a3, vI 0, vI 3, vI 0, vI 103] [iI 0, iR a3])) _
    refine XS.iload X0.here hx rfl (hb hby d5_28) rfl ?_
    show Steps _ _ _ (s₁.setTop (mkF m 30 #[vR a1, vI 0, vR a3, vI 0, vI 3, vI 0, vI 103] [iI 103, iI 0, iR a3])) _
    refine XS.i2b X0.here hx rfl (hb hby d5_30) rfl ?_
    rw [(by decide : (103 : Int32).toInt8.toInt32 = (103 : Int32))]
    show Steps _ _ _ (s₁.setTop (mkF m 31 #[vR a1, vI 0, vR a3, vI 0, vI 3, vI 0, vI 103] [iI 103, iI 0, iR a3])) _
    refine st6 _ ?_
    show Steps _ _ _ (T6.setTop (mkF m 32 #[vR a1, vI 0, vR a3, vI 0, vI 3, vI 0, vI 103] [])) _
    refine XS.iinc X6.here hx rfl (hb hby d5_32) rfl (l' := #[vR a1, vI ((0 : Int32) + (1 : Int32)), vR a3, vI 0, vI 3, vI 0, vI 103]) rfl ?_
    rw [(by decide : ((0 : Int32) + (1 : Int32)) = (1 : Int32))]
    show Steps _ _ _ (T6.setTop (mkF m 35 #[vR a1, vI 1, vR a3, vI 0, vI 3, vI 0, vI 103] [])) _
    refine XS.iinc X6.here hx rfl (hb hby d5_35) rfl (l' := #[vR a1, vI 1, vR a3, vI ((0 : Int32) + (1 : Int32)), vI 3, vI 0, vI 103]) rfl ?_
    rw [(by decide : ((0 : Int32) + (1 : Int32)) = (1 : Int32))]
    show Steps _ _ _ (T6.setTop (mkF m 38 #[vR a1, vI 1, vR a3, vI 1, vI 3, vI 0, vI 103] [])) _
    refine XS.iinc X6.here hx rfl (hb hby d5_38) rfl (l' := #[vR a1, vI 1, vR a3, vI 1, vI 3, vI ((0 : Int32) + (1 : Int32)), vI 103]) rfl ?_
    rw [(by decide : ((0 : Int32) + (1 : Int32)) = (1 : Int32))]
    show Steps _ _ _ (T6.setTop (mkF m 41 #[vR a1, vI 1, vR a3, vI 1, vI 3, vI 1, vI 103] [])) _
    refine XS.goto X6.here hx rfl (pc0 := 41) (pc' := 3) rfl (hb hby d5_41) (by decide) (by decide) ?_
    show Steps _ _ _ (T6.setTop (mkF m 3 #[vR a1, vI 1, vR a3, vI 1, vI 3, vI 1, vI 103] [])) _
    refine XS.iload X6.here hx rfl (hb hby d5_3) rfl ?_
    show Steps _ _ _ (T6.setTop (mkF m 5 #[vR a1, vI 1, vR a3, vI 1, vI 3, vI 1, vI 103] [iI 1])) _
    refine XS.iload X6.here hx rfl (hb hby d5_5) rfl ?_
    show Steps _ _ _ (T6.setTop (mkF m 7 #[vR a1, vI 1, vR a3, vI 1, vI 3, vI 1, vI 103] [iI 3, iI 1])) _
    refine XS.icmpNo X6.here hx rfl (hb hby d5_7) rfl (tlt (by decide : (1 : Int32) < (3 : Int32))).2.1 ?_
    show Steps _ _ _ (T6.setTop (mkF m 10 #[vR a1, vI 1, vR a3, vI 1, vI 3, vI 1, vI 103] [])) _
    refine XS.aloadN X6.here hx rfl (hb hby d5_10) rfl rfl ?_
    show Steps _ _ _ (T6.setTop (mkF m 11 #[vR a1, vI 1, vR a3, vI 1, vI 3, vI 1, vI 103] [iR a1])) _
    refine XS.iloadN X6.here hx rfl (hb hby d5_11) rfl ?_
    show Steps _ _ _ (T6.setTop (mkF m 12 #[vR a1, vI 1, vR a3, vI 1, vI 3, vI 1, vI 103] [iI 1, iR a1])) _
    refine X6.caload hx (j := (1 : Int32)) (v := (.int (101 : Int32))) (by rw [e6]; exact Ar8.1) (State.isArrayOf_alike hZ.alike Ar8.2.1) Ar8.2.2 hin9 hat10 (g := (mkF m 12 #[vR a1, vI 1, vR a3, vI 1, vI 3, vI 1, vI 103] [iI 1, iR a1])) rfl rfl (hb hby d5_12) _ ?_
    show Steps _ _ _ (T6.setTop (mkF m 13 #[vR a1, vI 1, vR a3, vI 1, vI 3, vI 1, vI 103] [iI 101])) _
    refine XS.istore X6.here hx rfl (hb hby d5_13) rfl (l' := #[vR a1, vI 1, vR a3, vI 1, vI 3, vI 1, vI 101]) rfl ?_
    show Steps _ _ _ (T6.setTop (mkF m 15 #[vR a1, vI 1, vR a3, vI 1, vI 3, vI 1, vI 101] [])) _
    refine XS.iload X6.here hx rfl (hb hby d5_15) rfl ?_
    show Steps _ _ _ (T6.setTop (mkF m 17 #[vR a1, vI 1, vR a3, vI 1, vI 3, vI 1, vI 101] [iI 101])) _
    refine XS.sipush X6.here hx rfl (hb hby d5_17) ?_
    show Steps _ _ _ (T6.setTop (mkF m 20 #[vR a1, vI 1, vR a3, vI 1, vI 3, vI 1, vI 101] [iI 255, iI 101])) _
    refine XS.icmpYes X6.here hx rfl (pc0 := 20) (pc' := 26) rfl (hb hby d5_20) rfl (flt (by decide : ¬ ((255 : Int32) < (101 : Int32)))).2.2.2 (by decide) (by decide) ?_
    show Steps _ _ _ (T6.setTop (mkF m 26 #[vR a1, vI 1, vR a3, vI 1, vI 3, vI 1, vI 101] [])) _
    refine XS.aloadN X6.here hx rfl (hb hby d5_26) rfl rfl ?_
    show Steps _ _ _ (T6.setTop (mkF m 27 #[vR a1, vI 1, vR a3, vI 1, vI 3, vI 1, vI 101] [iR a3])) _
    refine XS.iloadN X6.here hx rfl (hb hby d5_27) rfl ?_
    show Steps _ _ _ (T6.setTop (mkF m 28 #[vR a1, vI 1, vR a3, vI 1, vI 3, vI 1, vI 101] [iI 1, iR a3])) _
    refine XS.iload X6.here hx rfl (hb hby d5_28) rfl ?_
    show Steps _ _ _ (T6.setTop (mkF m 30 #[vR a1, vI 1, vR a3, vI 1, vI 3, vI 1, vI 101] [iI 101, iI 1, iR a3])) _
    refine XS.i2b X6.here hx rfl (hb hby d5_30) rfl ?_
    rw [(by decide : (101 : Int32).toInt8.toInt32 = (101 : Int32))]
    show Steps _ _ _ (T6.setTop (mkF m 31 #[vR a1, vI 1, vR a3, vI 1, vI 3, vI 1, vI 101] [iI 101, iI 1, iR a3])) _
    refine st13 _ ?_
    show Steps _ _ _ (T13.setTop (mkF m 32 #[vR a1, vI 1, vR a3, vI 1, vI 3, vI 1, vI 101] [])) _
    refine XS.iinc X13.here hx rfl (hb hby d5_32) rfl (l' := #[vR a1, vI ((1 : Int32) + (1 : Int32)), vR a3, vI 1, vI 3, vI 1, vI 101]) rfl ?_
    rw [(by decide : ((1 : Int32) + (1 : Int32)) = (2 : Int32))]
    show Steps _ _ _ (T13.setTop (mkF m 35 #[vR a1, vI 2, vR a3, vI 1, vI 3, vI 1, vI 101] [])) _
    refine XS.iinc X13.here hx rfl (hb hby d5_35) rfl (l' := #[vR a1, vI 2, vR a3, vI ((1 : Int32) + (1 : Int32)), vI 3, vI 1, vI 101]) rfl ?_
    rw [(by decide : ((1 : Int32) + (1 : Int32)) = (2 : Int32))]
    show Steps _ _ _ (T13.setTop (mkF m 38 #[vR a1, vI 2, vR a3, vI 2, vI 3, vI 1, vI 101] [])) _
    refine XS.iinc X13.here hx rfl (hb hby d5_38) rfl (l' := #[vR a1, vI 2, vR a3, vI 2, vI 3, vI ((1 : Int32) + (1 : Int32)), vI 101]) rfl ?_
    rw [(by decide : ((1 : Int32) + (1 : Int32)) = (2 : Int32))]
    show Steps _ _ _ (T13.setTop (mkF m 41 #[vR a1, vI 2, vR a3, vI 2, vI 3, vI 2, vI 101] [])) _
    refine XS.goto X13.here hx rfl (pc0 := 41) (pc' := 3) rfl (hb hby d5_41) (by decide) (by decide) ?_
    show Steps _ _ _ (T13.setTop (mkF m 3 #[vR a1, vI 2, vR a3, vI 2, vI 3, vI 2, vI 101] [])) _
    refine XS.iload X13.here hx rfl (hb hby d5_3) rfl ?_
    show Steps _ _ _ (T13.setTop (mkF m 5 #[vR a1, vI 2, vR a3, vI 2, vI 3, vI 2, vI 101] [iI 2])) _
    refine XS.iload X13.here hx rfl (hb hby d5_5) rfl ?_
    show Steps _ _ _ (T13.setTop (mkF m 7 #[vR a1, vI 2, vR a3, vI 2, vI 3, vI 2, vI 101] [iI 3, iI 2])) _
    refine XS.icmpNo X13.here hx rfl (hb hby d5_7) rfl (tlt (by decide : (2 : Int32) < (3 : Int32))).2.1 ?_
    show Steps _ _ _ (T13.setTop (mkF m 10 #[vR a1, vI 2, vR a3, vI 2, vI 3, vI 2, vI 101] [])) _
    refine XS.aloadN X13.here hx rfl (hb hby d5_10) rfl rfl ?_
    show Steps _ _ _ (T13.setTop (mkF m 11 #[vR a1, vI 2, vR a3, vI 2, vI 3, vI 2, vI 101] [iR a1])) _
    refine XS.iloadN X13.here hx rfl (hb hby d5_11) rfl ?_
    show Steps _ _ _ (T13.setTop (mkF m 12 #[vR a1, vI 2, vR a3, vI 2, vI 3, vI 2, vI 101] [iI 2, iR a1])) _
    refine X13.caload hx (j := (2 : Int32)) (v := (.int (116 : Int32))) (by rw [e13]; exact Ar15.1) (State.isArrayOf_alike hZ.alike Ar15.2.1) Ar15.2.2 hin16 hat17 (g := (mkF m 12 #[vR a1, vI 2, vR a3, vI 2, vI 3, vI 2, vI 101] [iI 2, iR a1])) rfl rfl (hb hby d5_12) _ ?_
    show Steps _ _ _ (T13.setTop (mkF m 13 #[vR a1, vI 2, vR a3, vI 2, vI 3, vI 2, vI 101] [iI 116])) _
    refine XS.istore X13.here hx rfl (hb hby d5_13) rfl (l' := #[vR a1, vI 2, vR a3, vI 2, vI 3, vI 2, vI 116]) rfl ?_
    show Steps _ _ _ (T13.setTop (mkF m 15 #[vR a1, vI 2, vR a3, vI 2, vI 3, vI 2, vI 116] [])) _
    refine XS.iload X13.here hx rfl (hb hby d5_15) rfl ?_
    show Steps _ _ _ (T13.setTop (mkF m 17 #[vR a1, vI 2, vR a3, vI 2, vI 3, vI 2, vI 116] [iI 116])) _
    refine XS.sipush X13.here hx rfl (hb hby d5_17) ?_
    show Steps _ _ _ (T13.setTop (mkF m 20 #[vR a1, vI 2, vR a3, vI 2, vI 3, vI 2, vI 116] [iI 255, iI 116])) _
    refine XS.icmpYes X13.here hx rfl (pc0 := 20) (pc' := 26) rfl (hb hby d5_20) rfl (flt (by decide : ¬ ((255 : Int32) < (116 : Int32)))).2.2.2 (by decide) (by decide) ?_
    show Steps _ _ _ (T13.setTop (mkF m 26 #[vR a1, vI 2, vR a3, vI 2, vI 3, vI 2, vI 116] [])) _
    refine XS.aloadN X13.here hx rfl (hb hby d5_26) rfl rfl ?_
    show Steps _ _ _ (T13.setTop (mkF m 27 #[vR a1, vI 2, vR a3, vI 2, vI 3, vI 2, vI 116] [iR a3])) _
    refine XS.iloadN X13.here hx rfl (hb hby d5_27) rfl ?_
    show Steps _ _ _ (T13.setTop (mkF m 28 #[vR a1, vI 2, vR a3, vI 2, vI 3, vI 2, vI 116] [iI 2, iR a3])) _
    refine XS.iload X13.here hx rfl (hb hby d5_28) rfl ?_
    show Steps _ _ _ (T13.setTop (mkF m 30 #[vR a1, vI 2, vR a3, vI 2, vI 3, vI 2, vI 116] [iI 116, iI 2, iR a3])) _
    refine XS.i2b X13.here hx rfl (hb hby d5_30) rfl ?_
    rw [(by decide : (116 : Int32).toInt8.toInt32 = (116 : Int32))]
    show Steps _ _ _ (T13.setTop (mkF m 31 #[vR a1, vI 2, vR a3, vI 2, vI 3, vI 2, vI 116] [iI 116, iI 2, iR a3])) _
    refine st20 _ ?_
    show Steps _ _ _ (T20.setTop (mkF m 32 #[vR a1, vI 2, vR a3, vI 2, vI 3, vI 2, vI 116] [])) _
    refine XS.iinc X20.here hx rfl (hb hby d5_32) rfl (l' := #[vR a1, vI ((2 : Int32) + (1 : Int32)), vR a3, vI 2, vI 3, vI 2, vI 116]) rfl ?_
    rw [(by decide : ((2 : Int32) + (1 : Int32)) = (3 : Int32))]
    show Steps _ _ _ (T20.setTop (mkF m 35 #[vR a1, vI 3, vR a3, vI 2, vI 3, vI 2, vI 116] [])) _
    refine XS.iinc X20.here hx rfl (hb hby d5_35) rfl (l' := #[vR a1, vI 3, vR a3, vI ((2 : Int32) + (1 : Int32)), vI 3, vI 2, vI 116]) rfl ?_
    rw [(by decide : ((2 : Int32) + (1 : Int32)) = (3 : Int32))]
    show Steps _ _ _ (T20.setTop (mkF m 38 #[vR a1, vI 3, vR a3, vI 3, vI 3, vI 2, vI 116] [])) _
    refine XS.iinc X20.here hx rfl (hb hby d5_38) rfl (l' := #[vR a1, vI 3, vR a3, vI 3, vI 3, vI ((2 : Int32) + (1 : Int32)), vI 116]) rfl ?_
    rw [(by decide : ((2 : Int32) + (1 : Int32)) = (3 : Int32))]
    show Steps _ _ _ (T20.setTop (mkF m 41 #[vR a1, vI 3, vR a3, vI 3, vI 3, vI 3, vI 116] [])) _
    refine XS.goto X20.here hx rfl (pc0 := 41) (pc' := 3) rfl (hb hby d5_41) (by decide) (by decide) ?_
    show Steps _ _ _ (T20.setTop (mkF m 3 #[vR a1, vI 3, vR a3, vI 3, vI 3, vI 3, vI 116] [])) _
    refine XS.iload X20.here hx rfl (hb hby d5_3) rfl ?_
    show Steps _ _ _ (T20.setTop (mkF m 5 #[vR a1, vI 3, vR a3, vI 3, vI 3, vI 3, vI 116] [iI 3])) _
    refine XS.iload X20.here hx rfl (hb hby d5_5) rfl ?_
    show Steps _ _ _ (T20.setTop (mkF m 7 #[vR a1, vI 3, vR a3, vI 3, vI 3, vI 3, vI 116] [iI 3, iI 3])) _
    refine XS.icmpYes X20.here hx rfl (pc0 := 7) (pc' := 44) rfl (hb hby d5_7) rfl (flt (by decide : ¬ ((3 : Int32) < (3 : Int32)))).2.1 (by decide) (by decide) ?_
    show Steps _ _ _ (T20.setTop (mkF m 44 #[vR a1, vI 3, vR a3, vI 3, vI 3, vI 3, vI 116] [])) _
    refine XS.iload X20.here hx rfl (hb hby d5_44) rfl ?_
    show Steps _ _ _ (T20.setTop (mkF m 46 #[vR a1, vI 3, vR a3, vI 3, vI 3, vI 3, vI 116] [iI 3])) _
    exact retI X20 hx Bd.returns (hb hby d5_46) hr
  · show Q5_GET Z a1 a3 kc kb h0 n0 _ T20.heap _
    rw [e20]
    exact ⟨rfl, N20, K20, V20⟩
theorem ef_4_GET (m : MethodId) (x0 : Addr) : entryFrame m #[(.ref x0), (.int (0 : Int32)), (.int (3 : Int32))] 6 = mkF m 0 #[.val (.ref x0), .val (.int (0 : Int32)), .val (.int (3 : Int32)), .unset, .unset, .unset] [] := by first | (simp [entryFrame, mkF, argsToLocals, Value.category]; done) | rfl
def Q4_GET (Z : State) (a1 : Addr) (kc : ClassId) (h0 : Heap) (n0 : Nat) (v : Option Value) (h : Heap) (L : List Loc) : Prop := ∃ (b : Addr) (kb : ClassId), v = some (.ref b) ∧ Fr n0 L ∧ Keep h0 h [] ∧ Arv Z h b kb .byte (3 : Int32) [(.int (103 : Int32)), (.int (101 : Int32)), (.int (116 : Int32))] (.int (0 : Int32)) ∧ h0.size ≤ b
set_option maxRecDepth 65536 in
set_option maxHeartbeats 40000000 in
theorem rm4_GET (l : Launch) (Z : State) (a0 : Array Value) (hw : ∀ d ∈ tables_1, d.before a0 Z = true) (ws : List Jvm.Cond) (a1 : Addr) (kc : ClassId) (h0 : Heap) (n0 : Nat) (Z0 : n0 ≤ h0.size) (V_c : Arv Z h0 a1 kc .char (3 : Int32) [(.int (103 : Int32)), (.int (101 : Int32)), (.int (116 : Int32))] (.int (0 : Int32))) :
    MetFree l (⟨"java/lang/StringUTF16", "compress", "([CII)[B"⟩ : MethodName) (head1 (Jvm.Cond.code (⟨"java/lang/StringUTF16", "compress", "([CII)[B"⟩ : MethodName) jdk_52_method_16_code 6 (some (.array .byte)) :: ws) ({ frames := 1, cells := 1, slots := 3, locals := 18 } : Room)) (fun a U => a = #[(.ref a1), (.int (0 : Int32)), (.int (3 : Int32))] ∧ Z.Warmed39 U.vm ∧ U.heap = h0) (fun _ _ _ _ _ => True) (fun _ U o U' => ∃ v L, o = .returned v ∧ Q4_GET Z a1 kc h0 n0 v U'.heap L ∧ FrameEnd U o U' L ({ frames := 1, cells := 1, slots := 3, locals := 18 } : Room).cells ({ frames := 1, cells := 1, slots := 3, locals := 18 } : Room).slots) := by
  refine MetFree.of_bodySF (plainFor_of_name pn_0) hisR ?_
  intro p e s m args below meth c s₁ Bd hml0 hP hK
  obtain ⟨rfl, hZ, hh⟩ := hP
  have hx := Bd.exec
  have hby := Bd.bytes
  have hml : c.maxLocals = 6 := hml0
  have hown : s.vm.findClass "java/lang/StringUTF16" = some m.cls := findClass_of_methodNamed Bd.named
  have hnm := (name_of_methodNamed Bd.named Bd.method).1
  have X0 : Stand p l e ({ frames := 1, cells := 1, slots := 3, locals := 18 } : Room) s m #[(.ref a1), (.int (0 : Int32)), (.int (3 : Int32))] below meth c s₁ [] 0 0 := Stand.of_body Bd
  have e0 : s₁.heap = h0 := by rw [← hh, Bd.state]; rfl
  have N0 := Fr.nil n0
  have K0 := Keep.refl h0 []
  have pre0 : ∀ t, Steps p.tables e below (s₁.setTop (mkF m 0 #[.val (.ref a1), .val (.int (0 : Int32)), .val (.int (3 : Int32)), .unset, .unset, .unset] [])) t → Steps p.tables e below (s₁.setTop (entryFrame m #[(.ref a1), (.int (0 : Int32)), (.int (3 : Int32))] 6)) t := fun t k => castTop (ef_4_GET m a1) k
  obtain ⟨T1, h1, k1, X1, e1, E1, A1, st1⟩ := newP X0 hx hZ (hw _ (List.mem_of_getElem? (i := 20) rfl)) e0 (g := (mkF m 1 #[vR a1, vI 0, vI 3, .unset, .unset, .unset] [iI 3])) rfl (hb hby d4_1) rfl (by decide) (cap := 3) (by decide) (by decide) (by decide) (by decide)
  obtain ⟨b1, g1⟩ : ∃ z, z = h0.size := ⟨_, rfl⟩
  rw [← g1] at A1 st1
  have ne_a1_b1 : a1 ≠ b1 := Nat.ne_of_lt (Nat.lt_of_lt_of_le V_c.lt (Nat.le_of_eq g1.symm))
  have sz_b1 : h0.size ≤ b1 := Nat.le_trans K0.1 (Nat.le_of_eq g1.symm)
  have g_b1 : n0 ≤ b1 := Nat.le_trans Z0 sz_b1
  have K1 : Keep h0 h1 [] := K0.ext E1
  have V1 : Arv Z h1 b1 k1 .byte (3 : Int32) [(.int (0 : Int32)), (.int (0 : Int32)), (.int (0 : Int32))] (.int (0 : Int32)) := (Arv.new A1 (by decide)).pad (pad_rep [] (.int (0 : Int32)) 3)
  have fk3 := (V_c.ext E1)
  obtain ⟨_, _, ⟨T2, L2, k2, n2⟩, -, X2, ⟨Lc2, hQ2, l2, y2, z2⟩, st2⟩ := Jvm.LawKit.callS X1 hx (y := (⟨"java/lang/StringUTF16", "compress", "([CI[BII)I"⟩ : MethodName)) hown (mvT hZ (hw _ (List.mem_of_getElem? (i := 21) rfl))) (mvT hZ (hw _ (List.mem_of_getElem? (i := 22) rfl))) (mvT hZ (hw _ (List.mem_of_getElem? (i := 18) rfl))) (mvT hZ (hw _ (List.mem_of_getElem? (i := 23) rfl))) (by decide) (backOf (W := 0) (rm5_GET l Z a0 hw [] a1 b1 kc k1  h1 n0 (Nat.le_trans Z0 K1.1) fk3 V1 ne_a1_b1 g_b1 ) hZ (hw _ (List.mem_of_getElem? (i := 23) rfl)) (hw _ (List.mem_of_getElem? (i := 18) rfl)) (by decide) (by decide)) (g := (mkF m 9 #[vR a1, vI 0, vI 3, vR b1, .unset, .unset] [iI 3, iI 0, iR b1, iI 0, iR a1])) rfl (by rw [hml]; rfl) (argsL := [(.ref a1), (.int (0 : Int32)), (.ref b1), (.int (0 : Int32)), (.int (3 : Int32))]) (rest := []) (lenOf pd_0 rfl) rfl (by show 2 * 0 + _ ≤ _; exact Nat.le_of_eq rfl) (hb hby d4_9) (fun _ _ => ⟨rfl, e1, (by decide : 1 + 0 ≤ _), (by decide : 3 + 0 ≤ _)⟩)
  dsimp only [Pt.U, Pt.locs, Pt.cells, Pt.slots] at X2 l2 y2 z2 st2 hQ2
  subst l2 y2 z2
  obtain ⟨rfl, N2q, K2q, V2q⟩ := hQ2
  have N2 := Fr.app N0 N2q
  have K2 : Keep h0 T2.heap [] := Keep.trans K1 K2q (allS (Or.inr sz_b1) all0)
  obtain ⟨fs, hr, hrun, hended, hW, hsame⟩ := X2.leave (v := some (.ref b1)) (fun h => by rw [Bd.returns] at h; cases h)
  refine ⟨_, _, pre0 _ ?_, hrun, hended, _, _, rfl, ?_, ⟨_, rfl⟩, hW, hsame.mono (by decide) (by decide)⟩
  · show Steps _ _ _ (s₁.setTop (mkF m 0 #[vR a1, vI 0, vI 3, .unset, .unset, .unset] [])) _
    refine XS.iloadN X0.here hx rfl (hb hby d4_0) rfl ?_
    show Steps _ _ _ (s₁.setTop (mkF m 1 #[vR a1, vI 0, vI 3, .unset, .unset, .unset] [iI 3])) _
    refine st1 _ ?_
    show Steps _ _ _ (T1.setTop (mkF m 3 #[vR a1, vI 0, vI 3, .unset, .unset, .unset] [iR b1])) _
    refine XS.astoreN X1.here hx rfl (hb hby d4_3) rfl rfl (l' := #[vR a1, vI 0, vI 3, vR b1, .unset, .unset]) rfl ?_
    show Steps _ _ _ (T1.setTop (mkF m 4 #[vR a1, vI 0, vI 3, vR b1, .unset, .unset] [])) _
    refine XS.aloadN X1.here hx rfl (hb hby d4_4) rfl rfl ?_
    show Steps _ _ _ (T1.setTop (mkF m 5 #[vR a1, vI 0, vI 3, vR b1, .unset, .unset] [iR a1])) _
    refine XS.iloadN X1.here hx rfl (hb hby d4_5) rfl ?_
    show Steps _ _ _ (T1.setTop (mkF m 6 #[vR a1, vI 0, vI 3, vR b1, .unset, .unset] [iI 0, iR a1])) _
    refine XS.aloadN X1.here hx rfl (hb hby d4_6) rfl rfl ?_
    show Steps _ _ _ (T1.setTop (mkF m 7 #[vR a1, vI 0, vI 3, vR b1, .unset, .unset] [iR b1, iI 0, iR a1])) _
    refine XS.iconst X1.here hx rfl (hb hby d4_7) ?_
    show Steps _ _ _ (T1.setTop (mkF m 8 #[vR a1, vI 0, vI 3, vR b1, .unset, .unset] [iI 0, iR b1, iI 0, iR a1])) _
    refine XS.iloadN X1.here hx rfl (hb hby d4_8) rfl ?_
    show Steps _ _ _ (T1.setTop (mkF m 9 #[vR a1, vI 0, vI 3, vR b1, .unset, .unset] [iI 3, iI 0, iR b1, iI 0, iR a1])) _
    refine st2 _ ?_
    show Steps _ _ _ (T2.setTop (mkF m 12 #[vR a1, vI 0, vI 3, vR b1, .unset, .unset] [iI 3])) _
    refine XS.istore X2.here hx rfl (hb hby d4_12) rfl (l' := #[vR a1, vI 0, vI 3, vR b1, vI 3, .unset]) rfl ?_
    show Steps _ _ _ (T2.setTop (mkF m 14 #[vR a1, vI 0, vI 3, vR b1, vI 3, .unset] [])) _
    refine XS.iload X2.here hx rfl (hb hby d4_14) rfl ?_
    show Steps _ _ _ (T2.setTop (mkF m 16 #[vR a1, vI 0, vI 3, vR b1, vI 3, .unset] [iI 3])) _
    refine XS.iloadN X2.here hx rfl (hb hby d4_16) rfl ?_
    show Steps _ _ _ (T2.setTop (mkF m 17 #[vR a1, vI 0, vI 3, vR b1, vI 3, .unset] [iI 3, iI 3])) _
    refine XS.icmpYes X2.here hx rfl (pc0 := 17) (pc' := 57) rfl (hb hby d4_17) rfl (teq (by decide : (3 : Int32) = (3 : Int32))).1 (by decide) (by decide) ?_
    show Steps _ _ _ (T2.setTop (mkF m 57 #[vR a1, vI 0, vI 3, vR b1, vI 3, .unset] [])) _
    refine XS.aloadN X2.here hx rfl (hb hby d4_57) rfl rfl ?_
    show Steps _ _ _ (T2.setTop (mkF m 58 #[vR a1, vI 0, vI 3, vR b1, vI 3, .unset] [iR b1])) _
    jvm_step X2.here [X2.here.top, hx, (hb hby d4_58), X2.method', Bd.returns, Value.isRef, FieldType.isReference]
    first | (intro acts; rw [hr _ acts rfl rfl rfl]) | rw [hr _ _ rfl rfl rfl]
    exact Steps.refl _
  · show Q4_GET Z a1 kc h0 n0 _ T2.heap _
    exact ⟨_, _, rfl, N2, K2, V2q, sz_b1⟩
theorem ef_6_GET (m : MethodId) (x0 : Addr) : entryFrame m #[(.ref x0), (.int (3 : Int32))] 2 = mkF m 0 #[.val (.ref x0), .val (.int (3 : Int32))] [] := by first | (simp [entryFrame, mkF, argsToLocals, Value.category]; done) | rfl
def Q6_GET (Z : State) (a1 : Addr) (kb : ClassId) (h0 : Heap) (v : Option Value) (h : Heap) (L : List Loc) : Prop := v = some (.int (0 : Int32)) ∧ L = [] ∧ h = h0
set_option maxRecDepth 65536 in
set_option maxHeartbeats 40000000 in
theorem rm6_GET (l : Launch) (Z : State) (a0 : Array Value) (hw : ∀ d ∈ tables_1, d.before a0 Z = true) (ws : List Jvm.Cond) (a1 : Addr) (kb : ClassId) (h0 : Heap) (V_b : Arv Z h0 a1 kb .byte (3 : Int32) [(.int (103 : Int32)), (.int (101 : Int32)), (.int (116 : Int32))] (.int (0 : Int32))) :
    MetFree l (⟨"java/lang/StringUTF16", "coderFromArrayLen", "([BI)B"⟩ : MethodName) (head1 (Jvm.Cond.code (⟨"java/lang/StringUTF16", "coderFromArrayLen", "([BI)B"⟩ : MethodName) jdk_52_method_15_code 2 (some .byte) :: ws) ({ frames := 0, cells := 0, slots := 0, locals := 0 } : Room)) (fun a U => a = #[(.ref a1), (.int (3 : Int32))] ∧ Z.Warmed39 U.vm ∧ U.heap = h0) (fun _ _ _ _ _ => True) (fun _ U o U' => ∃ v L, o = .returned v ∧ Q6_GET Z a1 kb h0 v U'.heap L ∧ FrameEnd U o U' L ({ frames := 0, cells := 0, slots := 0, locals := 0 } : Room).cells ({ frames := 0, cells := 0, slots := 0, locals := 0 } : Room).slots) := by
  refine MetFree.of_bodySF (plainFor_of_name pn_0) hisR ?_
  intro p e s m args below meth c s₁ Bd hml0 hP hK
  obtain ⟨rfl, hZ, hh⟩ := hP
  have hx := Bd.exec
  have hby := Bd.bytes
  have hml : c.maxLocals = 2 := hml0
  have hown : s.vm.findClass "java/lang/StringUTF16" = some m.cls := findClass_of_methodNamed Bd.named
  have hnm := (name_of_methodNamed Bd.named Bd.method).1
  have X0 : Stand p l e ({ frames := 0, cells := 0, slots := 0, locals := 0 } : Room) s m #[(.ref a1), (.int (3 : Int32))] below meth c s₁ [] 0 0 := Stand.of_body Bd
  have e0 : s₁.heap = h0 := by rw [← hh, Bd.state]; rfl
  have pre0 : ∀ t, Steps p.tables e below (s₁.setTop (mkF m 0 #[.val (.ref a1), .val (.int (3 : Int32))] [])) t → Steps p.tables e below (s₁.setTop (entryFrame m #[(.ref a1), (.int (3 : Int32))] 2)) t := fun t k => castTop (ef_6_GET m a1) k
  obtain ⟨cl1, Ar1, q1, S1, M1, H1, G1⟩ := id V_b
  obtain ⟨fs, hr, hrun, hended, hW, hsame⟩ := X0.leave (v := some (.int (0 : Int32))) (fun h => by rw [Bd.returns] at h; cases h)
  refine ⟨_, _, pre0 _ ?_, hrun, hended, _, _, rfl, ?_, ⟨_, rfl⟩, hW, hsame.mono (by decide) (by decide)⟩
  · show Steps _ _ _ (s₁.setTop (mkF m 0 #[vR a1, vI 3] [])) _
    refine XS.iloadN X0.here hx rfl (hb hby d6_0) rfl ?_
    show Steps _ _ _ (s₁.setTop (mkF m 1 #[vR a1, vI 3] [iI 3])) _
    refine XS.aloadN X0.here hx rfl (hb hby d6_1) rfl rfl ?_
    show Steps _ _ _ (s₁.setTop (mkF m 2 #[vR a1, vI 3] [iR a1, iI 3])) _
    refine X0.arraylength hx (by rw [e0]; exact Ar1.1) (State.isArrayOf_alike hZ.alike Ar1.2.1) (g := (mkF m 2 #[vR a1, vI 3] [iR a1, iI 3])) rfl rfl (hb hby d6_2) _ ?_
    rw [len_of S1 M1]
    show Steps _ _ _ (s₁.setTop (mkF m 3 #[vR a1, vI 3] [iI 3, iI 3])) _
    refine XS.isub X0.here hx rfl (hb hby d6_3) rfl ?_
    rw [(by decide : ((3 : Int32) - (3 : Int32)) = (0 : Int32))]
    show Steps _ _ _ (s₁.setTop (mkF m 4 #[vR a1, vI 3] [iI 0])) _
    refine XS.bipush X0.here hx rfl (hb hby d6_4) ?_
    show Steps _ _ _ (s₁.setTop (mkF m 6 #[vR a1, vI 3] [iI 31, iI 0])) _
    refine XS.iushr X0.here hx rfl (hb hby d6_6) rfl ?_
    rw [(by decide : (((0 : Int32).toUInt32 >>> ((31 : Int32) &&& 31).toUInt32).toInt32) = (0 : Int32))]
    show Steps _ _ _ (s₁.setTop (mkF m 7 #[vR a1, vI 3] [iI 0])) _
    refine XS.i2b X0.here hx rfl (hb hby d6_7) rfl ?_
    rw [(by decide : (0 : Int32).toInt8.toInt32 = (0 : Int32))]
    show Steps _ _ _ (s₁.setTop (mkF m 8 #[vR a1, vI 3] [iI 0])) _
    exact retN X0 hx (t := .byte) Bd.returns (by simp) (hb hby d6_8) hr
  · show Q6_GET Z a1 kb h0 _ s₁.heap _
    rw [e0]
    exact ⟨rfl, rfl, rfl⟩
theorem ef_2_GET (m : MethodId) (x0 : Addr) (x1 : Addr) : entryFrame m #[(.ref x0), (.ref x1), (.int (0 : Int32)), (.int (3 : Int32)), .null] 6 = mkF m 0 #[.val (.ref x0), .val (.ref x1), .val (.int (0 : Int32)), .val (.int (3 : Int32)), .val .null, .unset] [] := by first | (simp [entryFrame, mkF, argsToLocals, Value.category]; done) | rfl
def Q2_GET (Z : State) (a1 : Addr) (a2 : Addr) (kc : ClassId) (cs : Int32) (h0 : Heap) (n0 : Nat) (v : Option Value) (h : Heap) (L : List Loc) : Prop := ∃ (b : Addr) (kb : ClassId), v = none ∧ Fr n0 L ∧ Keep h0 h [a1] ∧ Exa Z h a1 "java/lang/String" ∧ Fld Z h a1 "java/lang/String" "coder" "B" (.int (0 : Int32)) ∧ Fld Z h a1 "java/lang/String" "value" "[B" (.ref b) ∧ Arv Z h b kb .byte (3 : Int32) [(.int (103 : Int32)), (.int (101 : Int32)), (.int (116 : Int32))] (.int (0 : Int32)) ∧ h0.size ≤ b
set_option maxRecDepth 65536 in
set_option maxHeartbeats 40000000 in
theorem rm2_GET (l : Launch) (Z : State) (a0 : Array Value) (hw : ∀ d ∈ tables_1, d.before a0 Z = true) (ws : List Jvm.Cond) (a1 : Addr) (a2 : Addr) (kc : ClassId) (cs : Int32) (h0 : Heap) (n0 : Nat) (Z0 : n0 ≤ h0.size) (O0 : Old Z n0 h0) (E_a1 : Exa Z h0 a1 "java/lang/String") (g_a1 : n0 ≤ a1) (F_v : Fld Z h0 a1 "java/lang/String" "value" "[B" .null) (F_c : Fld Z h0 a1 "java/lang/String" "coder" "B" (.int (0 : Int32))) (V_c : Arv Z h0 a2 kc .char (3 : Int32) [(.int (103 : Int32)), (.int (101 : Int32)), (.int (116 : Int32))] (.int (0 : Int32))) (ne_a1_a2 : a1 ≠ a2) (S_CS : Sta Z Z.heap "java/lang/String" "COMPACT_STRINGS" "Z" (.int cs)) (h_cs : ¬ cs = (0 : Int32)) :
    MetFree l (⟨"java/lang/String", "<init>", "([CIILjava/lang/Void;)V"⟩ : MethodName) (head1 (Jvm.Cond.code (⟨"java/lang/String", "<init>", "([CIILjava/lang/Void;)V"⟩ : MethodName) jdk_42_method_149_code 6 none :: ws) ({ frames := 2, cells := 1, slots := 3, locals := 35 } : Room)) (fun a U => a = #[(.ref a1), (.ref a2), (.int (0 : Int32)), (.int (3 : Int32)), .null] ∧ Z.Warmed39 U.vm ∧ U.heap = h0) (fun _ _ _ _ _ => True) (fun _ U o U' => ∃ v L, o = .returned v ∧ Q2_GET Z a1 a2 kc cs h0 n0 v U'.heap L ∧ FrameEnd U o U' L ({ frames := 2, cells := 1, slots := 3, locals := 35 } : Room).cells ({ frames := 2, cells := 1, slots := 3, locals := 35 } : Room).slots) := by
  refine MetFree.of_bodySF (plainFor_of_name pn_1) hisR ?_
  intro p e s m args below meth c s₁ Bd hml0 hP hK
  obtain ⟨rfl, hZ, hh⟩ := hP
  have hx := Bd.exec
  have hby := Bd.bytes
  have hml : c.maxLocals = 6 := hml0
  have hown : s.vm.findClass "java/lang/String" = some m.cls := findClass_of_methodNamed Bd.named
  have hnm := (name_of_methodNamed Bd.named Bd.method).1
  have X0 : Stand p l e ({ frames := 2, cells := 1, slots := 3, locals := 35 } : Room) s m #[(.ref a1), (.ref a2), (.int (0 : Int32)), (.int (3 : Int32)), .null] below meth c s₁ [] 0 0 := Stand.of_body Bd
  have e0 : s₁.heap = h0 := by rw [← hh, Bd.state]; rfl
  have N0 := Fr.nil n0
  have K0 := Keep.refl h0 [a1]
  have pre0 : ∀ t, Steps p.tables e below (s₁.setTop (mkF m 0 #[.val (.ref a1), .val (.ref a2), .val (.int (0 : Int32)), .val (.int (3 : Int32)), .val .null, .unset] [])) t → Steps p.tables e below (s₁.setTop (entryFrame m #[(.ref a1), (.ref a2), (.int (0 : Int32)), (.int (3 : Int32)), .null] 6)) t := fun t k => castTop (ef_2_GET m a1 a2) k
  obtain ⟨T1, X1, e1, st1⟩ := initO X0 hx hZ hown (hw _ (List.mem_of_getElem? (i := 12) rfl)) (hw _ (List.mem_of_getElem? (i := 13) rfl)) (hw _ (List.mem_of_getElem? (i := 14) rfl)) e0 (g := (mkF m 1 #[vR a1, vR a2, vI 0, vI 3, .val .null, .unset] [iR a1])) rfl (by rw [hml]; rfl) rfl (hb hby d2_1) (by decide) (W := 0) (by show 2 * 0 + _ ≤ _; exact Nat.le_of_eq rfl) (by decide)
  obtain ⟨T2, X2, e2, st2⟩ := getS2 X1 hx hZ hown (host := "") (Or.inl (hw _ (List.mem_of_getElem? (i := 15) rfl))) Via.refl e1 (S_CS.ext O0.2) (g := (mkF m 27 #[vR a1, vR a2, vI 0, vI 3, .val .null, .unset] [])) rfl (hb hby d2_27)
  obtain ⟨_, _, ⟨T3, L3, k3, n3⟩, -, X3, ⟨Lc3, hQ3, l3, y3, z3⟩, st3⟩ := Jvm.LawKit.callS X2 hx (y := (⟨"java/lang/StringUTF16", "compress", "([CII)[B"⟩ : MethodName)) hown (mvT hZ (hw _ (List.mem_of_getElem? (i := 16) rfl))) (mvT hZ (hw _ (List.mem_of_getElem? (i := 17) rfl))) (mvT hZ (hw _ (List.mem_of_getElem? (i := 18) rfl))) (mvT hZ (hw _ (List.mem_of_getElem? (i := 19) rfl))) (by decide) (backOf (W := 0) (rm4_GET l Z a0 hw [] a2 kc  h0 n0 (Nat.le_trans Z0 K0.1) V_c ) hZ (hw _ (List.mem_of_getElem? (i := 19) rfl)) (hw _ (List.mem_of_getElem? (i := 18) rfl)) (by decide) (by decide)) (g := (mkF m 36 #[vR a1, vR a2, vI 0, vI 3, .val .null, .unset] [iI 3, iI 0, iR a2])) rfl (by rw [hml]; rfl) (argsL := [(.ref a2), (.int (0 : Int32)), (.int (3 : Int32))]) (rest := []) (lenOf pd_1 rfl) rfl (by show 2 * 0 + _ ≤ _; exact Nat.le_of_eq rfl) (hb hby d2_36) (fun _ _ => ⟨rfl, e2, (by decide : 0 + 1 ≤ _), (by decide : 0 + 3 ≤ _)⟩)
  dsimp only [Pt.U, Pt.locs, Pt.cells, Pt.slots] at X3 l3 y3 z3 st3 hQ3
  subst l3 y3 z3
  obtain ⟨d3, kd3, rfl, N3q, K3q, V3q, z_d3⟩ := hQ3
  have ne_a1_d3 : a1 ≠ d3 := Nat.ne_of_lt (Nat.lt_of_lt_of_le E_a1.lt z_d3)
  have ne_a2_d3 : a2 ≠ d3 := Nat.ne_of_lt (Nat.lt_of_lt_of_le V_c.lt z_d3)
  have sz_d3 : h0.size ≤ d3 := Nat.le_trans K0.1 z_d3
  have g_d3 : n0 ≤ d3 := Nat.le_trans Z0 sz_d3
  have N3 := Fr.app N0 N3q
  have K3 : Keep h0 T3.heap [a1] := Keep.trans K0 K3q all0
  obtain ⟨_, _, ⟨T4, L4, k4, n4⟩, -, X4, ⟨Lc4, hQ4, l4, y4, z4⟩, st4⟩ := Jvm.LawKit.callS X3 hx (y := (⟨"java/lang/StringUTF16", "coderFromArrayLen", "([BI)B"⟩ : MethodName)) hown (mvT hZ (hw _ (List.mem_of_getElem? (i := 24) rfl))) (mvT hZ (hw _ (List.mem_of_getElem? (i := 25) rfl))) (mvT hZ (hw _ (List.mem_of_getElem? (i := 18) rfl))) (mvT hZ (hw _ (List.mem_of_getElem? (i := 26) rfl))) (by decide) (backOf (W := 1) (rm6_GET l Z a0 hw [] d3 kd3  T3.heap V3q) hZ (hw _ (List.mem_of_getElem? (i := 26) rfl)) (hw _ (List.mem_of_getElem? (i := 18) rfl)) (by decide) (by decide)) (g := (mkF m 45 #[vR a1, vR a2, vI 0, vI 3, .val .null, vR d3] [iI 3, iR d3, iR a1])) rfl (by rw [hml]; rfl) (argsL := [(.ref d3), (.int (3 : Int32))]) (rest := [(.ref a1)]) (lenOf pd_2 rfl) rfl (by show 2 * 0 + _ ≤ _; exact Nat.le_of_eq rfl) (hb hby d2_45) (fun _ _ => ⟨rfl, rfl, (by decide : 1 + 0 ≤ _), (by decide : 3 + 0 ≤ _)⟩)
  dsimp only [Pt.U, Pt.locs, Pt.cells, Pt.slots] at X4 l4 y4 z4 st4 hQ4
  subst l4 y4 z4
  obtain ⟨rfl, rfl, e4⟩ := hQ4
  try rw [List.append_nil] at X4
  have fk5 := (F_c.keep K3q nin0)
  have fk6 := (E_a1.keep K3q)
  obtain ⟨T7, h7, X7, e7, W7, st7⟩ := putFN X4 hx hZ hown (hw _ (List.mem_of_getElem? (i := 27) rfl)) Via.refl e4 fk5 fk6 (Or.inr ⟨(hw _ (List.mem_of_getElem? (i := 28) rfl)), rfl, hnm⟩) (hw _ (List.mem_of_getElem? (i := 2) rfl)) (ty := .byte) (v' := (.int (0 : Int32))) (by decide) rfl (by decide) (g := (mkF m 48 #[vR a1, vR a2, vI 0, vI 3, .val .null, vR d3] [iI 0, iR a1])) rfl rfl (hb hby d2_48)
  have Fw7 := fk5.same W7
  have K7 : Keep h0 h7 [a1] := K3.wr W7 (Or.inl (List.mem_of_getElem? (i := 0) rfl))
  have N7 := Fr.snoc X7 N3 g_a1
  have fk8 := ((F_v.keep K3q nin0).other W7 (Or.inr (slot_ne (Or.inr (hw _ (List.mem_of_getElem? (i := 30) rfl))) (Or.inr (hw _ (List.mem_of_getElem? (i := 28) rfl))) (by decide) (t := (.array .byte)) (t' := .byte) (by decide) (by decide))))
  have fk9 := (fk6.wr W7)
  obtain ⟨T10, h10, X10, e10, W10, st10⟩ := putF X7 hx hZ hown (host := "") (Or.inl (hw _ (List.mem_of_getElem? (i := 29) rfl))) Via.refl e7 fk8 fk9 (Or.inr ⟨(hw _ (List.mem_of_getElem? (i := 30) rfl)), rfl, hnm⟩) (hw _ (List.mem_of_getElem? (i := 2) rfl)) (ty := (.array .byte)) (by decide) rfl rfl (g := (mkF m 54 #[vR a1, vR a2, vI 0, vI 3, .val .null, vR d3] [iR d3, iR a1])) rfl rfl (hb hby d2_54)
  have Fw10 := fk8.same W10
  have K10 : Keep h0 h10 [a1] := K7.wr W10 (Or.inl (List.mem_of_getElem? (i := 0) rfl))
  have N10 := Fr.snoc X10 N7 g_a1
  obtain ⟨fs, hr, hrun, hended, hW, hsame⟩ := X10.leave (v := none) (fun _ => rfl)
  have fk11 := (fk9.wr W10)
  have fk12 := (Fw7.other W10 (Or.inr (slot_ne (Or.inr (hw _ (List.mem_of_getElem? (i := 28) rfl))) (Or.inr (hw _ (List.mem_of_getElem? (i := 30) rfl))) (by decide) (t := .byte) (t' := (.array .byte)) (by decide) (by decide))))
  have fk13 := ((V3q.other W7 (Ne.symm ne_a1_d3)).other W10 (Ne.symm ne_a1_d3))
  refine ⟨_, _, pre0 _ ?_, hrun, hended, _, _, rfl, ?_, ⟨_, rfl⟩, hW, hsame.mono (by decide) (by decide)⟩
  · show Steps _ _ _ (s₁.setTop (mkF m 0 #[vR a1, vR a2, vI 0, vI 3, .val .null, .unset] [])) _
    refine XS.aloadN X0.here hx rfl (hb hby d2_0) rfl rfl ?_
    show Steps _ _ _ (s₁.setTop (mkF m 1 #[vR a1, vR a2, vI 0, vI 3, .val .null, .unset] [iR a1])) _
    refine st1 _ ?_
    show Steps _ _ _ (T1.setTop (mkF m 4 #[vR a1, vR a2, vI 0, vI 3, .val .null, .unset] [])) _
    refine XS.iloadN X1.here hx rfl (hb hby d2_4) rfl ?_
    show Steps _ _ _ (T1.setTop (mkF m 5 #[vR a1, vR a2, vI 0, vI 3, .val .null, .unset] [iI 3])) _
    refine XS.ifYes X1.here hx rfl (pc0 := 5) (pc' := 27) rfl (hb hby d2_5) rfl ((if0 _ _).trans (feq (by decide : ¬ ((3 : Int32) = (0 : Int32)))).2) (by decide) (by decide) ?_
    show Steps _ _ _ (T1.setTop (mkF m 27 #[vR a1, vR a2, vI 0, vI 3, .val .null, .unset] [])) _
    refine st2 _ ?_
    show Steps _ _ _ (T2.setTop (mkF m 30 #[vR a1, vR a2, vI 0, vI 3, .val .null, .unset] [iI cs])) _
    refine XS.ifNo X2.here hx rfl (hb hby d2_30) rfl ((if0 _ _).trans (feq h_cs).1) ?_
    show Steps _ _ _ (T2.setTop (mkF m 33 #[vR a1, vR a2, vI 0, vI 3, .val .null, .unset] [])) _
    refine XS.aloadN X2.here hx rfl (hb hby d2_33) rfl rfl ?_
    show Steps _ _ _ (T2.setTop (mkF m 34 #[vR a1, vR a2, vI 0, vI 3, .val .null, .unset] [iR a2])) _
    refine XS.iloadN X2.here hx rfl (hb hby d2_34) rfl ?_
    show Steps _ _ _ (T2.setTop (mkF m 35 #[vR a1, vR a2, vI 0, vI 3, .val .null, .unset] [iI 0, iR a2])) _
    refine XS.iloadN X2.here hx rfl (hb hby d2_35) rfl ?_
    show Steps _ _ _ (T2.setTop (mkF m 36 #[vR a1, vR a2, vI 0, vI 3, .val .null, .unset] [iI 3, iI 0, iR a2])) _
    refine st3 _ ?_
    show Steps _ _ _ (T3.setTop (mkF m 39 #[vR a1, vR a2, vI 0, vI 3, .val .null, .unset] [iR d3])) _
    refine XS.astore X3.here hx rfl (hb hby d2_39) rfl rfl (l' := #[vR a1, vR a2, vI 0, vI 3, .val .null, vR d3]) rfl ?_
    show Steps _ _ _ (T3.setTop (mkF m 41 #[vR a1, vR a2, vI 0, vI 3, .val .null, vR d3] [])) _
    refine XS.aloadN X3.here hx rfl (hb hby d2_41) rfl rfl ?_
    show Steps _ _ _ (T3.setTop (mkF m 42 #[vR a1, vR a2, vI 0, vI 3, .val .null, vR d3] [iR a1])) _
    refine XS.aload X3.here hx rfl (hb hby d2_42) rfl rfl ?_
    show Steps _ _ _ (T3.setTop (mkF m 44 #[vR a1, vR a2, vI 0, vI 3, .val .null, vR d3] [iR d3, iR a1])) _
    refine XS.iloadN X3.here hx rfl (hb hby d2_44) rfl ?_
    show Steps _ _ _ (T3.setTop (mkF m 45 #[vR a1, vR a2, vI 0, vI 3, .val .null, vR d3] [iI 3, iR d3, iR a1])) _
    refine st4 _ ?_
    show Steps _ _ _ (T4.setTop (mkF m 48 #[vR a1, vR a2, vI 0, vI 3, .val .null, vR d3] [iI 0, iR a1])) _
    refine st7 _ ?_
    show Steps _ _ _ (T7.setTop (mkF m 51 #[vR a1, vR a2, vI 0, vI 3, .val .null, vR d3] [])) _
    refine XS.aloadN X7.here hx rfl (hb hby d2_51) rfl rfl ?_
    show Steps _ _ _ (T7.setTop (mkF m 52 #[vR a1, vR a2, vI 0, vI 3, .val .null, vR d3] [iR a1])) _
    refine XS.aload X7.here hx rfl (hb hby d2_52) rfl rfl ?_
    show Steps _ _ _ (T7.setTop (mkF m 54 #[vR a1, vR a2, vI 0, vI 3, .val .null, vR d3] [iR d3, iR a1])) _
    refine st10 _ ?_
    show Steps _ _ _ (T10.setTop (mkF m 57 #[vR a1, vR a2, vI 0, vI 3, .val .null, vR d3] [])) _
    exact X10.returnOut hx Bd.returns (hb hby d2_57) hr
  · show Q2_GET Z a1 a2 kc cs h0 n0 _ T10.heap _
    rw [e10]
    exact ⟨_, _, rfl, N10, K10, fk11, fk12, Fw10, fk13, sz_d3⟩
theorem ef_1_GET (m : MethodId) (x0 : Addr) (x1 : Addr) : entryFrame m #[(.ref x0), (.ref x1)] 2 = mkF m 0 #[.val (.ref x0), .val (.ref x1)] [] := by first | (simp [entryFrame, mkF, argsToLocals, Value.category]; done) | rfl
def Q1_GET (Z : State) (a1 : Addr) (a2 : Addr) (kc : ClassId) (cs : Int32) (h0 : Heap) (n0 : Nat) (v : Option Value) (h : Heap) (L : List Loc) : Prop := ∃ (b : Addr) (kb : ClassId), v = none ∧ Fr n0 L ∧ Keep h0 h [a1] ∧ Exa Z h a1 "java/lang/String" ∧ Fld Z h a1 "java/lang/String" "coder" "B" (.int (0 : Int32)) ∧ Fld Z h a1 "java/lang/String" "value" "[B" (.ref b) ∧ Arv Z h b kb .byte (3 : Int32) [(.int (103 : Int32)), (.int (101 : Int32)), (.int (116 : Int32))] (.int (0 : Int32)) ∧ h0.size ≤ b
set_option maxRecDepth 65536 in
set_option maxHeartbeats 40000000 in
theorem rm1_GET (l : Launch) (Z : State) (a0 : Array Value) (hw : ∀ d ∈ tables_1, d.before a0 Z = true) (ws : List Jvm.Cond) (a1 : Addr) (a2 : Addr) (kc : ClassId) (cs : Int32) (h0 : Heap) (n0 : Nat) (Z0 : n0 ≤ h0.size) (O0 : Old Z n0 h0) (E_a1 : Exa Z h0 a1 "java/lang/String") (g_a1 : n0 ≤ a1) (F_v : Fld Z h0 a1 "java/lang/String" "value" "[B" .null) (F_c : Fld Z h0 a1 "java/lang/String" "coder" "B" (.int (0 : Int32))) (V_c : Arv Z h0 a2 kc .char (3 : Int32) [(.int (103 : Int32)), (.int (101 : Int32)), (.int (116 : Int32))] (.int (0 : Int32))) (ne_a1_a2 : a1 ≠ a2) (S_CS : Sta Z Z.heap "java/lang/String" "COMPACT_STRINGS" "Z" (.int cs)) (h_cs : ¬ cs = (0 : Int32)) :
    MetFree l (⟨"java/lang/String", "<init>", "([C)V"⟩ : MethodName) (head1 (Jvm.Cond.code (⟨"java/lang/String", "<init>", "([C)V"⟩ : MethodName) jdk_42_method_3_code 2 none :: ws) ({ frames := 3, cells := 1, slots := 3, locals := 52 } : Room)) (fun a U => a = #[(.ref a1), (.ref a2)] ∧ Z.Warmed39 U.vm ∧ U.heap = h0) (fun _ _ _ _ _ => True) (fun _ U o U' => ∃ v L, o = .returned v ∧ Q1_GET Z a1 a2 kc cs h0 n0 v U'.heap L ∧ FrameEnd U o U' L ({ frames := 3, cells := 1, slots := 3, locals := 52 } : Room).cells ({ frames := 3, cells := 1, slots := 3, locals := 52 } : Room).slots) := by
  refine MetFree.of_bodySF (plainFor_of_name pn_1) hisR ?_
  intro p e s m args below meth c s₁ Bd hml0 hP hK
  obtain ⟨rfl, hZ, hh⟩ := hP
  have hx := Bd.exec
  have hby := Bd.bytes
  have hml : c.maxLocals = 2 := hml0
  have hown : s.vm.findClass "java/lang/String" = some m.cls := findClass_of_methodNamed Bd.named
  have hnm := (name_of_methodNamed Bd.named Bd.method).1
  have X0 : Stand p l e ({ frames := 3, cells := 1, slots := 3, locals := 52 } : Room) s m #[(.ref a1), (.ref a2)] below meth c s₁ [] 0 0 := Stand.of_body Bd
  have e0 : s₁.heap = h0 := by rw [← hh, Bd.state]; rfl
  have N0 := Fr.nil n0
  have K0 := Keep.refl h0 [a1]
  have pre0 : ∀ t, Steps p.tables e below (s₁.setTop (mkF m 0 #[.val (.ref a1), .val (.ref a2)] [])) t → Steps p.tables e below (s₁.setTop (entryFrame m #[(.ref a1), (.ref a2)] 2)) t := fun t k => castTop (ef_1_GET m a1 a2) k
  obtain ⟨cl1, Ar1, q1, S1, M1, H1, G1⟩ := id V_c
  obtain ⟨_, _, ⟨T2, L2, k2, n2⟩, -, X2, ⟨Lc2, hQ2, l2, y2, z2⟩, st2⟩ := X0.specialBack hx (y := (⟨"java/lang/String", "<init>", "([CIILjava/lang/Void;)V"⟩ : MethodName)) rfl hown (mvT hZ (hw _ (List.mem_of_getElem? (i := 8) rfl))) (mvT hZ (hw _ (List.mem_of_getElem? (i := 9) rfl))) (mvT hZ (hw _ (List.mem_of_getElem? (i := 11) rfl))) (by decide) (backOf (W := 0) (rm2_GET l Z a0 hw [] a1 a2 kc  cs h0 n0 (Nat.le_trans Z0 K0.1) O0 E_a1 g_a1 F_v F_c V_c ne_a1_a2  S_CS h_cs) hZ (hw _ (List.mem_of_getElem? (i := 11) rfl)) (hw _ (List.mem_of_getElem? (i := 3) rfl)) (by decide) (by decide)) (g := (mkF m 6 #[vR a1, vR a2] [.null, iI 3, iI 0, iR a2, iR a1])) rfl (by rw [hml]; rfl) (Steps.refl _) (a := a1) (argsL := [(.ref a2), (.int (0 : Int32)), (.int (3 : Int32)), .null]) (rest := []) (lenOf pd_3 rfl) rfl (by show 2 * 0 + _ ≤ _; exact Nat.le_of_eq rfl) (hb hby d1_6) (fun _ _ => ⟨rfl, e0, (by decide : 0 + 1 ≤ _), (by decide : 0 + 3 ≤ _)⟩)
  dsimp only [Pt.U, Pt.locs, Pt.cells, Pt.slots] at X2 l2 y2 z2 st2 hQ2
  subst l2 y2 z2
  obtain ⟨d2, kd2, rfl, N2q, K2q, E2q, C2q, F2q, V2q, z_d2⟩ := hQ2
  have ne_a1_d2 : a1 ≠ d2 := Nat.ne_of_lt (Nat.lt_of_lt_of_le E_a1.lt z_d2)
  have ne_a2_d2 : a2 ≠ d2 := Nat.ne_of_lt (Nat.lt_of_lt_of_le V_c.lt z_d2)
  have sz_d2 : h0.size ≤ d2 := Nat.le_trans K0.1 z_d2
  have g_d2 : n0 ≤ d2 := Nat.le_trans Z0 sz_d2
  have N2 := Fr.app N0 N2q
  have K2 : Keep h0 T2.heap [a1] := Keep.trans K0 K2q (allS (Or.inl (List.mem_of_getElem? (i := 0) rfl)) all0)
  obtain ⟨fs, hr, hrun, hended, hW, hsame⟩ := X2.leave (v := none) (fun _ => rfl)
  refine ⟨_, _, pre0 _ ?_, hrun, hended, _, _, rfl, ?_, ⟨_, rfl⟩, hW, hsame.mono (by decide) (by decide)⟩
  · show Steps _ _ _ (s₁.setTop (mkF m 0 #[vR a1, vR a2] [])) _
    refine XS.aloadN X0.here hx rfl (hb hby d1_0) rfl rfl ?_
    show Steps _ _ _ (s₁.setTop (mkF m 1 #[vR a1, vR a2] [iR a1])) _
    refine XS.aloadN X0.here hx rfl (hb hby d1_1) rfl rfl ?_
    show Steps _ _ _ (s₁.setTop (mkF m 2 #[vR a1, vR a2] [iR a2, iR a1])) _
    refine XS.iconst X0.here hx rfl (hb hby d1_2) ?_
    show Steps _ _ _ (s₁.setTop (mkF m 3 #[vR a1, vR a2] [iI 0, iR a2, iR a1])) _
    refine XS.aloadN X0.here hx rfl (hb hby d1_3) rfl rfl ?_
    show Steps _ _ _ (s₁.setTop (mkF m 4 #[vR a1, vR a2] [iR a2, iI 0, iR a2, iR a1])) _
    refine X0.arraylength hx (by rw [e0]; exact Ar1.1) (State.isArrayOf_alike hZ.alike Ar1.2.1) (g := (mkF m 4 #[vR a1, vR a2] [iR a2, iI 0, iR a2, iR a1])) rfl rfl (hb hby d1_4) _ ?_
    rw [len_of S1 M1]
    show Steps _ _ _ (s₁.setTop (mkF m 5 #[vR a1, vR a2] [iI 3, iI 0, iR a2, iR a1])) _
    refine XS.aconstNull X0.here hx rfl (hb hby d1_5) ?_
    show Steps _ _ _ (s₁.setTop (mkF m 6 #[vR a1, vR a2] [.null, iI 3, iI 0, iR a2, iR a1])) _
    refine st2.trans ?_
    show Steps _ _ _ (T2.setTop (mkF m 9 #[vR a1, vR a2] [])) _
    exact X2.returnOut hx Bd.returns (hb hby d1_9) hr
  · show Q1_GET Z a1 a2 kc cs h0 n0 _ T2.heap _
    exact ⟨_, _, rfl, N2, K2, E2q, C2q, F2q, V2q, sz_d2⟩
theorem d10_0 : decode jdk_43_method_13_code 0 = .ok (.aload_n 0, 1) := by decide +kernel
theorem d10_1 : decode jdk_43_method_13_code 1 = .ok (.arraylength, 1) := by decide +kernel
theorem d10_2 : decode jdk_43_method_13_code 2 = .ok (.aload_n 1, 1) := by decide +kernel
theorem d10_3 : decode jdk_43_method_13_code 3 = .ok (.arraylength, 1) := by decide +kernel
theorem d10_4 : decode jdk_43_method_13_code 4 = .ok (.if_icmp .ne 30, 3) := by decide +kernel
theorem d10_7 : decode jdk_43_method_13_code 7 = .ok (.iconst 0, 1) := by decide +kernel
theorem d10_8 : decode jdk_43_method_13_code 8 = .ok (.istore_n 2, 1) := by decide +kernel
theorem d10_9 : decode jdk_43_method_13_code 9 = .ok (.iload_n 2, 1) := by decide +kernel
theorem d10_10 : decode jdk_43_method_13_code 10 = .ok (.aload_n 0, 1) := by decide +kernel
theorem d10_11 : decode jdk_43_method_13_code 11 = .ok (.arraylength, 1) := by decide +kernel
theorem d10_12 : decode jdk_43_method_13_code 12 = .ok (.if_icmp .ge 20, 3) := by decide +kernel
theorem d10_15 : decode jdk_43_method_13_code 15 = .ok (.aload_n 0, 1) := by decide +kernel
theorem d10_16 : decode jdk_43_method_13_code 16 = .ok (.iload_n 2, 1) := by decide +kernel
theorem d10_17 : decode jdk_43_method_13_code 17 = .ok (.baload, 1) := by decide +kernel
theorem d10_18 : decode jdk_43_method_13_code 18 = .ok (.aload_n 1, 1) := by decide +kernel
theorem d10_19 : decode jdk_43_method_13_code 19 = .ok (.iload_n 2, 1) := by decide +kernel
theorem d10_20 : decode jdk_43_method_13_code 20 = .ok (.baload, 1) := by decide +kernel
theorem d10_21 : decode jdk_43_method_13_code 21 = .ok (.if_icmp .eq 5, 3) := by decide +kernel
theorem d10_26 : decode jdk_43_method_13_code 26 = .ok (.iinc 2 1, 3) := by decide +kernel
theorem d10_29 : decode jdk_43_method_13_code 29 = .ok (.goto (-20), 3) := by decide +kernel
theorem d10_32 : decode jdk_43_method_13_code 32 = .ok (.iconst 1, 1) := by decide +kernel
theorem d10_33 : decode jdk_43_method_13_code 33 = .ok (.ireturn, 1) := by decide +kernel
theorem pn_2 : plainName "java/lang/StringLatin1" = true := by first | (simp [plainName, overriddenIn]; done) | decide +kernel
theorem ef_10_VALIDATE_VALIDATE (m : MethodId) (x0 : Addr) (x1 : Addr) : entryFrame m #[(.ref x0), (.ref x1)] 3 = mkF m 0 #[.val (.ref x0), .val (.ref x1), .unset] [] := by first | (simp [entryFrame, mkF, argsToLocals, Value.category]; done) | rfl
def Q10_VALIDATE_VALIDATE (Z : State) (a1 : Addr) (a2 : Addr) (k1 k2 : ClassId) (h0 : Heap) (v : Option Value) (h : Heap) (L : List Loc) : Prop := v = some (.int (1 : Int32)) ∧ L = [] ∧ h = h0
set_option maxRecDepth 65536 in
set_option maxHeartbeats 40000000 in
theorem rm10_VALIDATE_VALIDATE (l : Launch) (Z : State) (a0 : Array Value) (hw : ∀ d ∈ tables_1, d.before a0 Z = true) (ws : List Jvm.Cond) (a1 : Addr) (a2 : Addr) (k1 k2 : ClassId) (h0 : Heap) (V_1 : Arv Z h0 a1 k1 .byte (8 : Int32) [(.int (118 : Int32)), (.int (97 : Int32)), (.int (108 : Int32)), (.int (105 : Int32)), (.int (100 : Int32)), (.int (97 : Int32)), (.int (116 : Int32)), (.int (101 : Int32))] (.int (0 : Int32))) (V_2 : Arv Z h0 a2 k2 .byte (8 : Int32) [(.int (118 : Int32)), (.int (97 : Int32)), (.int (108 : Int32)), (.int (105 : Int32)), (.int (100 : Int32)), (.int (97 : Int32)), (.int (116 : Int32)), (.int (101 : Int32))] (.int (0 : Int32))) :
    MetFree l (⟨"java/lang/StringLatin1", "equals", "([B[B)Z"⟩ : MethodName) (head1 (Jvm.Cond.code (⟨"java/lang/StringLatin1", "equals", "([B[B)Z"⟩ : MethodName) jdk_43_method_13_code 3 (some .boolean) :: ws) ({ frames := 0, cells := 0, slots := 0, locals := 0 } : Room)) (fun a U => a = #[(.ref a1), (.ref a2)] ∧ Z.Warmed39 U.vm ∧ U.heap = h0) (fun _ _ _ _ _ => True) (fun _ U o U' => ∃ v L, o = .returned v ∧ Q10_VALIDATE_VALIDATE Z a1 a2 k1 k2 h0 v U'.heap L ∧ FrameEnd U o U' L ({ frames := 0, cells := 0, slots := 0, locals := 0 } : Room).cells ({ frames := 0, cells := 0, slots := 0, locals := 0 } : Room).slots) := by
  refine MetFree.of_bodySF (plainFor_of_name pn_2) hisR ?_
  intro p e s m args below meth c s₁ Bd hml0 hP hK
  obtain ⟨rfl, hZ, hh⟩ := hP
  have hx := Bd.exec
  have hby := Bd.bytes
  have hml : c.maxLocals = 3 := hml0
  have hown : s.vm.findClass "java/lang/StringLatin1" = some m.cls := findClass_of_methodNamed Bd.named
  have hnm := (name_of_methodNamed Bd.named Bd.method).1
  have X0 : Stand p l e ({ frames := 0, cells := 0, slots := 0, locals := 0 } : Room) s m #[(.ref a1), (.ref a2)] below meth c s₁ [] 0 0 := Stand.of_body Bd
  have e0 : s₁.heap = h0 := by rw [← hh, Bd.state]; rfl
  have pre0 : ∀ t, Steps p.tables e below (s₁.setTop (mkF m 0 #[.val (.ref a1), .val (.ref a2), .unset] [])) t → Steps p.tables e below (s₁.setTop (entryFrame m #[(.ref a1), (.ref a2)] 3)) t := fun t k => castTop (ef_10_VALIDATE_VALIDATE m a1 a2) k
  obtain ⟨cl1, Ar1, q1, S1, M1, H1, G1⟩ := id V_1
  obtain ⟨cl2, Ar2, q2, S2, M2, H2, G2⟩ := id V_2
  have hin3 : ¬ ((0 : Int32) < 0 ∨ cl1.slots.size ≤ ((0 : Int32)).toNatClampNeg) := inb_of S1 ⟨by decide, by decide⟩
  have hat4 : cl1.slots[((0 : Int32)).toNatClampNeg]? = some (.int (118 : Int32)) := Has.at H1 hin3 rfl
  have hin5 : ¬ ((0 : Int32) < 0 ∨ cl2.slots.size ≤ ((0 : Int32)).toNatClampNeg) := inb_of S2 ⟨by decide, by decide⟩
  have hat6 : cl2.slots[((0 : Int32)).toNatClampNeg]? = some (.int (118 : Int32)) := Has.at H2 hin5 rfl
  have hin7 : ¬ ((1 : Int32) < 0 ∨ cl1.slots.size ≤ ((1 : Int32)).toNatClampNeg) := inb_of S1 ⟨by decide, by decide⟩
  have hat8 : cl1.slots[((1 : Int32)).toNatClampNeg]? = some (.int (97 : Int32)) := Has.at H1 hin7 rfl
  have hin9 : ¬ ((1 : Int32) < 0 ∨ cl2.slots.size ≤ ((1 : Int32)).toNatClampNeg) := inb_of S2 ⟨by decide, by decide⟩
  have hat10 : cl2.slots[((1 : Int32)).toNatClampNeg]? = some (.int (97 : Int32)) := Has.at H2 hin9 rfl
  have hin11 : ¬ ((2 : Int32) < 0 ∨ cl1.slots.size ≤ ((2 : Int32)).toNatClampNeg) := inb_of S1 ⟨by decide, by decide⟩
  have hat12 : cl1.slots[((2 : Int32)).toNatClampNeg]? = some (.int (108 : Int32)) := Has.at H1 hin11 rfl
  have hin13 : ¬ ((2 : Int32) < 0 ∨ cl2.slots.size ≤ ((2 : Int32)).toNatClampNeg) := inb_of S2 ⟨by decide, by decide⟩
  have hat14 : cl2.slots[((2 : Int32)).toNatClampNeg]? = some (.int (108 : Int32)) := Has.at H2 hin13 rfl
  have hin15 : ¬ ((3 : Int32) < 0 ∨ cl1.slots.size ≤ ((3 : Int32)).toNatClampNeg) := inb_of S1 ⟨by decide, by decide⟩
  have hat16 : cl1.slots[((3 : Int32)).toNatClampNeg]? = some (.int (105 : Int32)) := Has.at H1 hin15 rfl
  have hin17 : ¬ ((3 : Int32) < 0 ∨ cl2.slots.size ≤ ((3 : Int32)).toNatClampNeg) := inb_of S2 ⟨by decide, by decide⟩
  have hat18 : cl2.slots[((3 : Int32)).toNatClampNeg]? = some (.int (105 : Int32)) := Has.at H2 hin17 rfl
  have hin19 : ¬ ((4 : Int32) < 0 ∨ cl1.slots.size ≤ ((4 : Int32)).toNatClampNeg) := inb_of S1 ⟨by decide, by decide⟩
  have hat20 : cl1.slots[((4 : Int32)).toNatClampNeg]? = some (.int (100 : Int32)) := Has.at H1 hin19 rfl
  have hin21 : ¬ ((4 : Int32) < 0 ∨ cl2.slots.size ≤ ((4 : Int32)).toNatClampNeg) := inb_of S2 ⟨by decide, by decide⟩
  have hat22 : cl2.slots[((4 : Int32)).toNatClampNeg]? = some (.int (100 : Int32)) := Has.at H2 hin21 rfl
  have hin23 : ¬ ((5 : Int32) < 0 ∨ cl1.slots.size ≤ ((5 : Int32)).toNatClampNeg) := inb_of S1 ⟨by decide, by decide⟩
  have hat24 : cl1.slots[((5 : Int32)).toNatClampNeg]? = some (.int (97 : Int32)) := Has.at H1 hin23 rfl
  have hin25 : ¬ ((5 : Int32) < 0 ∨ cl2.slots.size ≤ ((5 : Int32)).toNatClampNeg) := inb_of S2 ⟨by decide, by decide⟩
  have hat26 : cl2.slots[((5 : Int32)).toNatClampNeg]? = some (.int (97 : Int32)) := Has.at H2 hin25 rfl
  have hin27 : ¬ ((6 : Int32) < 0 ∨ cl1.slots.size ≤ ((6 : Int32)).toNatClampNeg) := inb_of S1 ⟨by decide, by decide⟩
  have hat28 : cl1.slots[((6 : Int32)).toNatClampNeg]? = some (.int (116 : Int32)) := Has.at H1 hin27 rfl
  have hin29 : ¬ ((6 : Int32) < 0 ∨ cl2.slots.size ≤ ((6 : Int32)).toNatClampNeg) := inb_of S2 ⟨by decide, by decide⟩
  have hat30 : cl2.slots[((6 : Int32)).toNatClampNeg]? = some (.int (116 : Int32)) := Has.at H2 hin29 rfl
  have hin31 : ¬ ((7 : Int32) < 0 ∨ cl1.slots.size ≤ ((7 : Int32)).toNatClampNeg) := inb_of S1 ⟨by decide, by decide⟩
  have hat32 : cl1.slots[((7 : Int32)).toNatClampNeg]? = some (.int (101 : Int32)) := Has.at H1 hin31 rfl
  have hin33 : ¬ ((7 : Int32) < 0 ∨ cl2.slots.size ≤ ((7 : Int32)).toNatClampNeg) := inb_of S2 ⟨by decide, by decide⟩
  have hat34 : cl2.slots[((7 : Int32)).toNatClampNeg]? = some (.int (101 : Int32)) := Has.at H2 hin33 rfl
  obtain ⟨fs, hr, hrun, hended, hW, hsame⟩ := X0.leave (v := some (.int (1 : Int32))) (fun h => by rw [Bd.returns] at h; cases h)
  refine ⟨_, _, pre0 _ ?_, hrun, hended, _, _, rfl, ?_, ⟨_, rfl⟩, hW, hsame.mono (by decide) (by decide)⟩
  · show Steps _ _ _ (s₁.setTop (mkF m 0 #[vR a1, vR a2, .unset] [])) _
    refine XS.aloadN X0.here hx rfl (hb hby d10_0) rfl rfl ?_
    show Steps _ _ _ (s₁.setTop (mkF m 1 #[vR a1, vR a2, .unset] [iR a1])) _
    refine X0.arraylength hx (by rw [e0]; exact Ar1.1) (State.isArrayOf_alike hZ.alike Ar1.2.1) (g := (mkF m 1 #[vR a1, vR a2, .unset] [iR a1])) rfl rfl (hb hby d10_1) _ ?_
    rw [len_of S1 M1]
    show Steps _ _ _ (s₁.setTop (mkF m 2 #[vR a1, vR a2, .unset] [iI 8])) _
    refine XS.aloadN X0.here hx rfl (hb hby d10_2) rfl rfl ?_
    show Steps _ _ _ (s₁.setTop (mkF m 3 #[vR a1, vR a2, .unset] [iR a2, iI 8])) _
    refine X0.arraylength hx (by rw [e0]; exact Ar2.1) (State.isArrayOf_alike hZ.alike Ar2.2.1) (g := (mkF m 3 #[vR a1, vR a2, .unset] [iR a2, iI 8])) rfl rfl (hb hby d10_3) _ ?_
    rw [len_of S2 M2]
    show Steps _ _ _ (s₁.setTop (mkF m 4 #[vR a1, vR a2, .unset] [iI 8, iI 8])) _
    refine XS.icmpNo X0.here hx rfl (hb hby d10_4) rfl (teq (by decide : (8 : Int32) = (8 : Int32))).2 ?_
    show Steps _ _ _ (s₁.setTop (mkF m 7 #[vR a1, vR a2, .unset] [])) _
    refine XS.iconst X0.here hx rfl (hb hby d10_7) ?_
    show Steps _ _ _ (s₁.setTop (mkF m 8 #[vR a1, vR a2, .unset] [iI 0])) _
    refine XS.istoreN X0.here hx rfl (hb hby d10_8) rfl (l' := #[vR a1, vR a2, vI 0]) rfl ?_
    show Steps _ _ _ (s₁.setTop (mkF m 9 #[vR a1, vR a2, vI 0] [])) _
    refine XS.iloadN X0.here hx rfl (hb hby d10_9) rfl ?_
    show Steps _ _ _ (s₁.setTop (mkF m 10 #[vR a1, vR a2, vI 0] [iI 0])) _
    refine XS.aloadN X0.here hx rfl (hb hby d10_10) rfl rfl ?_
    show Steps _ _ _ (s₁.setTop (mkF m 11 #[vR a1, vR a2, vI 0] [iR a1, iI 0])) _
    refine X0.arraylength hx (by rw [e0]; exact Ar1.1) (State.isArrayOf_alike hZ.alike Ar1.2.1) (g := (mkF m 11 #[vR a1, vR a2, vI 0] [iR a1, iI 0])) rfl rfl (hb hby d10_11) _ ?_
    rw [len_of S1 M1]
    show Steps _ _ _ (s₁.setTop (mkF m 12 #[vR a1, vR a2, vI 0] [iI 8, iI 0])) _
    refine XS.icmpNo X0.here hx rfl (hb hby d10_12) rfl (tlt (by decide : (0 : Int32) < (8 : Int32))).2.1 ?_
    show Steps _ _ _ (s₁.setTop (mkF m 15 #[vR a1, vR a2, vI 0] [])) _
    refine XS.aloadN X0.here hx rfl (hb hby d10_15) rfl rfl ?_
    show Steps _ _ _ (s₁.setTop (mkF m 16 #[vR a1, vR a2, vI 0] [iR a1])) _
    refine XS.iloadN X0.here hx rfl (hb hby d10_16) rfl ?_
    show Steps _ _ _ (s₁.setTop (mkF m 17 #[vR a1, vR a2, vI 0] [iI 0, iR a1])) _
    refine X0.baloadBytes hx (j := (0 : Int32)) (v := (.int (118 : Int32))) (by rw [e0]; exact Ar1.1) (State.isArrayOf_alike hZ.alike Ar1.2.1) Ar1.2.2 hin3 hat4 (g := (mkF m 17 #[vR a1, vR a2, vI 0] [iI 0, iR a1])) rfl rfl (hb hby d10_17) _ ?_
    show Steps _ _ _ (s₁.setTop (mkF m 18 #[vR a1, vR a2, vI 0] [iI 118])) _
    refine XS.aloadN X0.here hx rfl (hb hby d10_18) rfl rfl ?_
    show Steps _ _ _ (s₁.setTop (mkF m 19 #[vR a1, vR a2, vI 0] [iR a2, iI 118])) _
    refine XS.iloadN X0.here hx rfl (hb hby d10_19) rfl ?_
    show Steps _ _ _ (s₁.setTop (mkF m 20 #[vR a1, vR a2, vI 0] [iI 0, iR a2, iI 118])) _
    refine X0.baloadBytes hx (j := (0 : Int32)) (v := (.int (118 : Int32))) (by rw [e0]; exact Ar2.1) (State.isArrayOf_alike hZ.alike Ar2.2.1) Ar2.2.2 hin5 hat6 (g := (mkF m 20 #[vR a1, vR a2, vI 0] [iI 0, iR a2, iI 118])) rfl rfl (hb hby d10_20) _ ?_
    show Steps _ _ _ (s₁.setTop (mkF m 21 #[vR a1, vR a2, vI 0] [iI 118, iI 118])) _
    refine XS.icmpYes X0.here hx rfl (pc0 := 21) (pc' := 26) rfl (hb hby d10_21) rfl (teq (by decide : (118 : Int32) = (118 : Int32))).1 (by decide) (by decide) ?_
    show Steps _ _ _ (s₁.setTop (mkF m 26 #[vR a1, vR a2, vI 0] [])) _
    refine XS.iinc X0.here hx rfl (hb hby d10_26) rfl (l' := #[vR a1, vR a2, vI ((0 : Int32) + (1 : Int32))]) rfl ?_
    rw [(by decide : ((0 : Int32) + (1 : Int32)) = (1 : Int32))]
    show Steps _ _ _ (s₁.setTop (mkF m 29 #[vR a1, vR a2, vI 1] [])) _
    refine XS.goto X0.here hx rfl (pc0 := 29) (pc' := 9) rfl (hb hby d10_29) (by decide) (by decide) ?_
    show Steps _ _ _ (s₁.setTop (mkF m 9 #[vR a1, vR a2, vI 1] [])) _
    refine XS.iloadN X0.here hx rfl (hb hby d10_9) rfl ?_
    show Steps _ _ _ (s₁.setTop (mkF m 10 #[vR a1, vR a2, vI 1] [iI 1])) _
    refine XS.aloadN X0.here hx rfl (hb hby d10_10) rfl rfl ?_
    show Steps _ _ _ (s₁.setTop (mkF m 11 #[vR a1, vR a2, vI 1] [iR a1, iI 1])) _
    refine X0.arraylength hx (by rw [e0]; exact Ar1.1) (State.isArrayOf_alike hZ.alike Ar1.2.1) (g := (mkF m 11 #[vR a1, vR a2, vI 1] [iR a1, iI 1])) rfl rfl (hb hby d10_11) _ ?_
    rw [len_of S1 M1]
    show Steps _ _ _ (s₁.setTop (mkF m 12 #[vR a1, vR a2, vI 1] [iI 8, iI 1])) _
    refine XS.icmpNo X0.here hx rfl (hb hby d10_12) rfl (tlt (by decide : (1 : Int32) < (8 : Int32))).2.1 ?_
    show Steps _ _ _ (s₁.setTop (mkF m 15 #[vR a1, vR a2, vI 1] [])) _
    refine XS.aloadN X0.here hx rfl (hb hby d10_15) rfl rfl ?_
    show Steps _ _ _ (s₁.setTop (mkF m 16 #[vR a1, vR a2, vI 1] [iR a1])) _
    refine XS.iloadN X0.here hx rfl (hb hby d10_16) rfl ?_
    show Steps _ _ _ (s₁.setTop (mkF m 17 #[vR a1, vR a2, vI 1] [iI 1, iR a1])) _
    refine X0.baloadBytes hx (j := (1 : Int32)) (v := (.int (97 : Int32))) (by rw [e0]; exact Ar1.1) (State.isArrayOf_alike hZ.alike Ar1.2.1) Ar1.2.2 hin7 hat8 (g := (mkF m 17 #[vR a1, vR a2, vI 1] [iI 1, iR a1])) rfl rfl (hb hby d10_17) _ ?_
    show Steps _ _ _ (s₁.setTop (mkF m 18 #[vR a1, vR a2, vI 1] [iI 97])) _
    refine XS.aloadN X0.here hx rfl (hb hby d10_18) rfl rfl ?_
    show Steps _ _ _ (s₁.setTop (mkF m 19 #[vR a1, vR a2, vI 1] [iR a2, iI 97])) _
    refine XS.iloadN X0.here hx rfl (hb hby d10_19) rfl ?_
    show Steps _ _ _ (s₁.setTop (mkF m 20 #[vR a1, vR a2, vI 1] [iI 1, iR a2, iI 97])) _
    refine X0.baloadBytes hx (j := (1 : Int32)) (v := (.int (97 : Int32))) (by rw [e0]; exact Ar2.1) (State.isArrayOf_alike hZ.alike Ar2.2.1) Ar2.2.2 hin9 hat10 (g := (mkF m 20 #[vR a1, vR a2, vI 1] [iI 1, iR a2, iI 97])) rfl rfl (hb hby d10_20) _ ?_
    show Steps _ _ _ (s₁.setTop (mkF m 21 #[vR a1, vR a2, vI 1] [iI 97, iI 97])) _
    refine XS.icmpYes X0.here hx rfl (pc0 := 21) (pc' := 26) rfl (hb hby d10_21) rfl (teq (by decide : (97 : Int32) = (97 : Int32))).1 (by decide) (by decide) ?_
    show Steps _ _ _ (s₁.setTop (mkF m 26 #[vR a1, vR a2, vI 1] [])) _
    refine XS.iinc X0.here hx rfl (hb hby d10_26) rfl (l' := #[vR a1, vR a2, vI ((1 : Int32) + (1 : Int32))]) rfl ?_
    rw [(by decide : ((1 : Int32) + (1 : Int32)) = (2 : Int32))]
    show Steps _ _ _ (s₁.setTop (mkF m 29 #[vR a1, vR a2, vI 2] [])) _
    refine XS.goto X0.here hx rfl (pc0 := 29) (pc' := 9) rfl (hb hby d10_29) (by decide) (by decide) ?_
    show Steps _ _ _ (s₁.setTop (mkF m 9 #[vR a1, vR a2, vI 2] [])) _
    refine XS.iloadN X0.here hx rfl (hb hby d10_9) rfl ?_
    show Steps _ _ _ (s₁.setTop (mkF m 10 #[vR a1, vR a2, vI 2] [iI 2])) _
    refine XS.aloadN X0.here hx rfl (hb hby d10_10) rfl rfl ?_
    show Steps _ _ _ (s₁.setTop (mkF m 11 #[vR a1, vR a2, vI 2] [iR a1, iI 2])) _
    refine X0.arraylength hx (by rw [e0]; exact Ar1.1) (State.isArrayOf_alike hZ.alike Ar1.2.1) (g := (mkF m 11 #[vR a1, vR a2, vI 2] [iR a1, iI 2])) rfl rfl (hb hby d10_11) _ ?_
    rw [len_of S1 M1]
    show Steps _ _ _ (s₁.setTop (mkF m 12 #[vR a1, vR a2, vI 2] [iI 8, iI 2])) _
    refine XS.icmpNo X0.here hx rfl (hb hby d10_12) rfl (tlt (by decide : (2 : Int32) < (8 : Int32))).2.1 ?_
    show Steps _ _ _ (s₁.setTop (mkF m 15 #[vR a1, vR a2, vI 2] [])) _
    refine XS.aloadN X0.here hx rfl (hb hby d10_15) rfl rfl ?_
    show Steps _ _ _ (s₁.setTop (mkF m 16 #[vR a1, vR a2, vI 2] [iR a1])) _
    refine XS.iloadN X0.here hx rfl (hb hby d10_16) rfl ?_
    show Steps _ _ _ (s₁.setTop (mkF m 17 #[vR a1, vR a2, vI 2] [iI 2, iR a1])) _
    refine X0.baloadBytes hx (j := (2 : Int32)) (v := (.int (108 : Int32))) (by rw [e0]; exact Ar1.1) (State.isArrayOf_alike hZ.alike Ar1.2.1) Ar1.2.2 hin11 hat12 (g := (mkF m 17 #[vR a1, vR a2, vI 2] [iI 2, iR a1])) rfl rfl (hb hby d10_17) _ ?_
    show Steps _ _ _ (s₁.setTop (mkF m 18 #[vR a1, vR a2, vI 2] [iI 108])) _
    refine XS.aloadN X0.here hx rfl (hb hby d10_18) rfl rfl ?_
    show Steps _ _ _ (s₁.setTop (mkF m 19 #[vR a1, vR a2, vI 2] [iR a2, iI 108])) _
    refine XS.iloadN X0.here hx rfl (hb hby d10_19) rfl ?_
    show Steps _ _ _ (s₁.setTop (mkF m 20 #[vR a1, vR a2, vI 2] [iI 2, iR a2, iI 108])) _
    refine X0.baloadBytes hx (j := (2 : Int32)) (v := (.int (108 : Int32))) (by rw [e0]; exact Ar2.1) (State.isArrayOf_alike hZ.alike Ar2.2.1) Ar2.2.2 hin13 hat14 (g := (mkF m 20 #[vR a1, vR a2, vI 2] [iI 2, iR a2, iI 108])) rfl rfl (hb hby d10_20) _ ?_
    show Steps _ _ _ (s₁.setTop (mkF m 21 #[vR a1, vR a2, vI 2] [iI 108, iI 108])) _
    refine XS.icmpYes X0.here hx rfl (pc0 := 21) (pc' := 26) rfl (hb hby d10_21) rfl (teq (by decide : (108 : Int32) = (108 : Int32))).1 (by decide) (by decide) ?_
    show Steps _ _ _ (s₁.setTop (mkF m 26 #[vR a1, vR a2, vI 2] [])) _
    refine XS.iinc X0.here hx rfl (hb hby d10_26) rfl (l' := #[vR a1, vR a2, vI ((2 : Int32) + (1 : Int32))]) rfl ?_
    rw [(by decide : ((2 : Int32) + (1 : Int32)) = (3 : Int32))]
    show Steps _ _ _ (s₁.setTop (mkF m 29 #[vR a1, vR a2, vI 3] [])) _
    refine XS.goto X0.here hx rfl (pc0 := 29) (pc' := 9) rfl (hb hby d10_29) (by decide) (by decide) ?_
    show Steps _ _ _ (s₁.setTop (mkF m 9 #[vR a1, vR a2, vI 3] [])) _
    refine XS.iloadN X0.here hx rfl (hb hby d10_9) rfl ?_
    show Steps _ _ _ (s₁.setTop (mkF m 10 #[vR a1, vR a2, vI 3] [iI 3])) _
    refine XS.aloadN X0.here hx rfl (hb hby d10_10) rfl rfl ?_
    show Steps _ _ _ (s₁.setTop (mkF m 11 #[vR a1, vR a2, vI 3] [iR a1, iI 3])) _
    refine X0.arraylength hx (by rw [e0]; exact Ar1.1) (State.isArrayOf_alike hZ.alike Ar1.2.1) (g := (mkF m 11 #[vR a1, vR a2, vI 3] [iR a1, iI 3])) rfl rfl (hb hby d10_11) _ ?_
    rw [len_of S1 M1]
    show Steps _ _ _ (s₁.setTop (mkF m 12 #[vR a1, vR a2, vI 3] [iI 8, iI 3])) _
    refine XS.icmpNo X0.here hx rfl (hb hby d10_12) rfl (tlt (by decide : (3 : Int32) < (8 : Int32))).2.1 ?_
    show Steps _ _ _ (s₁.setTop (mkF m 15 #[vR a1, vR a2, vI 3] [])) _
    refine XS.aloadN X0.here hx rfl (hb hby d10_15) rfl rfl ?_
    show Steps _ _ _ (s₁.setTop (mkF m 16 #[vR a1, vR a2, vI 3] [iR a1])) _
    refine XS.iloadN X0.here hx rfl (hb hby d10_16) rfl ?_
    show Steps _ _ _ (s₁.setTop (mkF m 17 #[vR a1, vR a2, vI 3] [iI 3, iR a1])) _
    refine X0.baloadBytes hx (j := (3 : Int32)) (v := (.int (105 : Int32))) (by rw [e0]; exact Ar1.1) (State.isArrayOf_alike hZ.alike Ar1.2.1) Ar1.2.2 hin15 hat16 (g := (mkF m 17 #[vR a1, vR a2, vI 3] [iI 3, iR a1])) rfl rfl (hb hby d10_17) _ ?_
    show Steps _ _ _ (s₁.setTop (mkF m 18 #[vR a1, vR a2, vI 3] [iI 105])) _
    refine XS.aloadN X0.here hx rfl (hb hby d10_18) rfl rfl ?_
    show Steps _ _ _ (s₁.setTop (mkF m 19 #[vR a1, vR a2, vI 3] [iR a2, iI 105])) _
    refine XS.iloadN X0.here hx rfl (hb hby d10_19) rfl ?_
    show Steps _ _ _ (s₁.setTop (mkF m 20 #[vR a1, vR a2, vI 3] [iI 3, iR a2, iI 105])) _
    refine X0.baloadBytes hx (j := (3 : Int32)) (v := (.int (105 : Int32))) (by rw [e0]; exact Ar2.1) (State.isArrayOf_alike hZ.alike Ar2.2.1) Ar2.2.2 hin17 hat18 (g := (mkF m 20 #[vR a1, vR a2, vI 3] [iI 3, iR a2, iI 105])) rfl rfl (hb hby d10_20) _ ?_
    show Steps _ _ _ (s₁.setTop (mkF m 21 #[vR a1, vR a2, vI 3] [iI 105, iI 105])) _
    refine XS.icmpYes X0.here hx rfl (pc0 := 21) (pc' := 26) rfl (hb hby d10_21) rfl (teq (by decide : (105 : Int32) = (105 : Int32))).1 (by decide) (by decide) ?_
    show Steps _ _ _ (s₁.setTop (mkF m 26 #[vR a1, vR a2, vI 3] [])) _
    refine XS.iinc X0.here hx rfl (hb hby d10_26) rfl (l' := #[vR a1, vR a2, vI ((3 : Int32) + (1 : Int32))]) rfl ?_
    rw [(by decide : ((3 : Int32) + (1 : Int32)) = (4 : Int32))]
    show Steps _ _ _ (s₁.setTop (mkF m 29 #[vR a1, vR a2, vI 4] [])) _
    refine XS.goto X0.here hx rfl (pc0 := 29) (pc' := 9) rfl (hb hby d10_29) (by decide) (by decide) ?_
    show Steps _ _ _ (s₁.setTop (mkF m 9 #[vR a1, vR a2, vI 4] [])) _
    refine XS.iloadN X0.here hx rfl (hb hby d10_9) rfl ?_
    show Steps _ _ _ (s₁.setTop (mkF m 10 #[vR a1, vR a2, vI 4] [iI 4])) _
    refine XS.aloadN X0.here hx rfl (hb hby d10_10) rfl rfl ?_
    show Steps _ _ _ (s₁.setTop (mkF m 11 #[vR a1, vR a2, vI 4] [iR a1, iI 4])) _
    refine X0.arraylength hx (by rw [e0]; exact Ar1.1) (State.isArrayOf_alike hZ.alike Ar1.2.1) (g := (mkF m 11 #[vR a1, vR a2, vI 4] [iR a1, iI 4])) rfl rfl (hb hby d10_11) _ ?_
    rw [len_of S1 M1]
    show Steps _ _ _ (s₁.setTop (mkF m 12 #[vR a1, vR a2, vI 4] [iI 8, iI 4])) _
    refine XS.icmpNo X0.here hx rfl (hb hby d10_12) rfl (tlt (by decide : (4 : Int32) < (8 : Int32))).2.1 ?_
    show Steps _ _ _ (s₁.setTop (mkF m 15 #[vR a1, vR a2, vI 4] [])) _
    refine XS.aloadN X0.here hx rfl (hb hby d10_15) rfl rfl ?_
    show Steps _ _ _ (s₁.setTop (mkF m 16 #[vR a1, vR a2, vI 4] [iR a1])) _
    refine XS.iloadN X0.here hx rfl (hb hby d10_16) rfl ?_
    show Steps _ _ _ (s₁.setTop (mkF m 17 #[vR a1, vR a2, vI 4] [iI 4, iR a1])) _
    refine X0.baloadBytes hx (j := (4 : Int32)) (v := (.int (100 : Int32))) (by rw [e0]; exact Ar1.1) (State.isArrayOf_alike hZ.alike Ar1.2.1) Ar1.2.2 hin19 hat20 (g := (mkF m 17 #[vR a1, vR a2, vI 4] [iI 4, iR a1])) rfl rfl (hb hby d10_17) _ ?_
    show Steps _ _ _ (s₁.setTop (mkF m 18 #[vR a1, vR a2, vI 4] [iI 100])) _
    refine XS.aloadN X0.here hx rfl (hb hby d10_18) rfl rfl ?_
    show Steps _ _ _ (s₁.setTop (mkF m 19 #[vR a1, vR a2, vI 4] [iR a2, iI 100])) _
    refine XS.iloadN X0.here hx rfl (hb hby d10_19) rfl ?_
    show Steps _ _ _ (s₁.setTop (mkF m 20 #[vR a1, vR a2, vI 4] [iI 4, iR a2, iI 100])) _
    refine X0.baloadBytes hx (j := (4 : Int32)) (v := (.int (100 : Int32))) (by rw [e0]; exact Ar2.1) (State.isArrayOf_alike hZ.alike Ar2.2.1) Ar2.2.2 hin21 hat22 (g := (mkF m 20 #[vR a1, vR a2, vI 4] [iI 4, iR a2, iI 100])) rfl rfl (hb hby d10_20) _ ?_
    show Steps _ _ _ (s₁.setTop (mkF m 21 #[vR a1, vR a2, vI 4] [iI 100, iI 100])) _
    refine XS.icmpYes X0.here hx rfl (pc0 := 21) (pc' := 26) rfl (hb hby d10_21) rfl (teq (by decide : (100 : Int32) = (100 : Int32))).1 (by decide) (by decide) ?_
    show Steps _ _ _ (s₁.setTop (mkF m 26 #[vR a1, vR a2, vI 4] [])) _
    refine XS.iinc X0.here hx rfl (hb hby d10_26) rfl (l' := #[vR a1, vR a2, vI ((4 : Int32) + (1 : Int32))]) rfl ?_
    rw [(by decide : ((4 : Int32) + (1 : Int32)) = (5 : Int32))]
    show Steps _ _ _ (s₁.setTop (mkF m 29 #[vR a1, vR a2, vI 5] [])) _
    refine XS.goto X0.here hx rfl (pc0 := 29) (pc' := 9) rfl (hb hby d10_29) (by decide) (by decide) ?_
    show Steps _ _ _ (s₁.setTop (mkF m 9 #[vR a1, vR a2, vI 5] [])) _
    refine XS.iloadN X0.here hx rfl (hb hby d10_9) rfl ?_
    show Steps _ _ _ (s₁.setTop (mkF m 10 #[vR a1, vR a2, vI 5] [iI 5])) _
    refine XS.aloadN X0.here hx rfl (hb hby d10_10) rfl rfl ?_
    show Steps _ _ _ (s₁.setTop (mkF m 11 #[vR a1, vR a2, vI 5] [iR a1, iI 5])) _
    refine X0.arraylength hx (by rw [e0]; exact Ar1.1) (State.isArrayOf_alike hZ.alike Ar1.2.1) (g := (mkF m 11 #[vR a1, vR a2, vI 5] [iR a1, iI 5])) rfl rfl (hb hby d10_11) _ ?_
    rw [len_of S1 M1]
    show Steps _ _ _ (s₁.setTop (mkF m 12 #[vR a1, vR a2, vI 5] [iI 8, iI 5])) _
    refine XS.icmpNo X0.here hx rfl (hb hby d10_12) rfl (tlt (by decide : (5 : Int32) < (8 : Int32))).2.1 ?_
    show Steps _ _ _ (s₁.setTop (mkF m 15 #[vR a1, vR a2, vI 5] [])) _
    refine XS.aloadN X0.here hx rfl (hb hby d10_15) rfl rfl ?_
    show Steps _ _ _ (s₁.setTop (mkF m 16 #[vR a1, vR a2, vI 5] [iR a1])) _
    refine XS.iloadN X0.here hx rfl (hb hby d10_16) rfl ?_
    show Steps _ _ _ (s₁.setTop (mkF m 17 #[vR a1, vR a2, vI 5] [iI 5, iR a1])) _
    refine X0.baloadBytes hx (j := (5 : Int32)) (v := (.int (97 : Int32))) (by rw [e0]; exact Ar1.1) (State.isArrayOf_alike hZ.alike Ar1.2.1) Ar1.2.2 hin23 hat24 (g := (mkF m 17 #[vR a1, vR a2, vI 5] [iI 5, iR a1])) rfl rfl (hb hby d10_17) _ ?_
    show Steps _ _ _ (s₁.setTop (mkF m 18 #[vR a1, vR a2, vI 5] [iI 97])) _
    refine XS.aloadN X0.here hx rfl (hb hby d10_18) rfl rfl ?_
    show Steps _ _ _ (s₁.setTop (mkF m 19 #[vR a1, vR a2, vI 5] [iR a2, iI 97])) _
    refine XS.iloadN X0.here hx rfl (hb hby d10_19) rfl ?_
    show Steps _ _ _ (s₁.setTop (mkF m 20 #[vR a1, vR a2, vI 5] [iI 5, iR a2, iI 97])) _
    refine X0.baloadBytes hx (j := (5 : Int32)) (v := (.int (97 : Int32))) (by rw [e0]; exact Ar2.1) (State.isArrayOf_alike hZ.alike Ar2.2.1) Ar2.2.2 hin25 hat26 (g := (mkF m 20 #[vR a1, vR a2, vI 5] [iI 5, iR a2, iI 97])) rfl rfl (hb hby d10_20) _ ?_
    show Steps _ _ _ (s₁.setTop (mkF m 21 #[vR a1, vR a2, vI 5] [iI 97, iI 97])) _
    refine XS.icmpYes X0.here hx rfl (pc0 := 21) (pc' := 26) rfl (hb hby d10_21) rfl (teq (by decide : (97 : Int32) = (97 : Int32))).1 (by decide) (by decide) ?_
    show Steps _ _ _ (s₁.setTop (mkF m 26 #[vR a1, vR a2, vI 5] [])) _
    refine XS.iinc X0.here hx rfl (hb hby d10_26) rfl (l' := #[vR a1, vR a2, vI ((5 : Int32) + (1 : Int32))]) rfl ?_
    rw [(by decide : ((5 : Int32) + (1 : Int32)) = (6 : Int32))]
    show Steps _ _ _ (s₁.setTop (mkF m 29 #[vR a1, vR a2, vI 6] [])) _
    refine XS.goto X0.here hx rfl (pc0 := 29) (pc' := 9) rfl (hb hby d10_29) (by decide) (by decide) ?_
    show Steps _ _ _ (s₁.setTop (mkF m 9 #[vR a1, vR a2, vI 6] [])) _
    refine XS.iloadN X0.here hx rfl (hb hby d10_9) rfl ?_
    show Steps _ _ _ (s₁.setTop (mkF m 10 #[vR a1, vR a2, vI 6] [iI 6])) _
    refine XS.aloadN X0.here hx rfl (hb hby d10_10) rfl rfl ?_
    show Steps _ _ _ (s₁.setTop (mkF m 11 #[vR a1, vR a2, vI 6] [iR a1, iI 6])) _
    refine X0.arraylength hx (by rw [e0]; exact Ar1.1) (State.isArrayOf_alike hZ.alike Ar1.2.1) (g := (mkF m 11 #[vR a1, vR a2, vI 6] [iR a1, iI 6])) rfl rfl (hb hby d10_11) _ ?_
    rw [len_of S1 M1]
    show Steps _ _ _ (s₁.setTop (mkF m 12 #[vR a1, vR a2, vI 6] [iI 8, iI 6])) _
    refine XS.icmpNo X0.here hx rfl (hb hby d10_12) rfl (tlt (by decide : (6 : Int32) < (8 : Int32))).2.1 ?_
    show Steps _ _ _ (s₁.setTop (mkF m 15 #[vR a1, vR a2, vI 6] [])) _
    refine XS.aloadN X0.here hx rfl (hb hby d10_15) rfl rfl ?_
    show Steps _ _ _ (s₁.setTop (mkF m 16 #[vR a1, vR a2, vI 6] [iR a1])) _
    refine XS.iloadN X0.here hx rfl (hb hby d10_16) rfl ?_
    show Steps _ _ _ (s₁.setTop (mkF m 17 #[vR a1, vR a2, vI 6] [iI 6, iR a1])) _
    refine X0.baloadBytes hx (j := (6 : Int32)) (v := (.int (116 : Int32))) (by rw [e0]; exact Ar1.1) (State.isArrayOf_alike hZ.alike Ar1.2.1) Ar1.2.2 hin27 hat28 (g := (mkF m 17 #[vR a1, vR a2, vI 6] [iI 6, iR a1])) rfl rfl (hb hby d10_17) _ ?_
    show Steps _ _ _ (s₁.setTop (mkF m 18 #[vR a1, vR a2, vI 6] [iI 116])) _
    refine XS.aloadN X0.here hx rfl (hb hby d10_18) rfl rfl ?_
    show Steps _ _ _ (s₁.setTop (mkF m 19 #[vR a1, vR a2, vI 6] [iR a2, iI 116])) _
    refine XS.iloadN X0.here hx rfl (hb hby d10_19) rfl ?_
    show Steps _ _ _ (s₁.setTop (mkF m 20 #[vR a1, vR a2, vI 6] [iI 6, iR a2, iI 116])) _
    refine X0.baloadBytes hx (j := (6 : Int32)) (v := (.int (116 : Int32))) (by rw [e0]; exact Ar2.1) (State.isArrayOf_alike hZ.alike Ar2.2.1) Ar2.2.2 hin29 hat30 (g := (mkF m 20 #[vR a1, vR a2, vI 6] [iI 6, iR a2, iI 116])) rfl rfl (hb hby d10_20) _ ?_
    show Steps _ _ _ (s₁.setTop (mkF m 21 #[vR a1, vR a2, vI 6] [iI 116, iI 116])) _
    refine XS.icmpYes X0.here hx rfl (pc0 := 21) (pc' := 26) rfl (hb hby d10_21) rfl (teq (by decide : (116 : Int32) = (116 : Int32))).1 (by decide) (by decide) ?_
    show Steps _ _ _ (s₁.setTop (mkF m 26 #[vR a1, vR a2, vI 6] [])) _
    refine XS.iinc X0.here hx rfl (hb hby d10_26) rfl (l' := #[vR a1, vR a2, vI ((6 : Int32) + (1 : Int32))]) rfl ?_
    rw [(by decide : ((6 : Int32) + (1 : Int32)) = (7 : Int32))]
    show Steps _ _ _ (s₁.setTop (mkF m 29 #[vR a1, vR a2, vI 7] [])) _
    refine XS.goto X0.here hx rfl (pc0 := 29) (pc' := 9) rfl (hb hby d10_29) (by decide) (by decide) ?_
    show Steps _ _ _ (s₁.setTop (mkF m 9 #[vR a1, vR a2, vI 7] [])) _
    refine XS.iloadN X0.here hx rfl (hb hby d10_9) rfl ?_
    show Steps _ _ _ (s₁.setTop (mkF m 10 #[vR a1, vR a2, vI 7] [iI 7])) _
    refine XS.aloadN X0.here hx rfl (hb hby d10_10) rfl rfl ?_
    show Steps _ _ _ (s₁.setTop (mkF m 11 #[vR a1, vR a2, vI 7] [iR a1, iI 7])) _
    refine X0.arraylength hx (by rw [e0]; exact Ar1.1) (State.isArrayOf_alike hZ.alike Ar1.2.1) (g := (mkF m 11 #[vR a1, vR a2, vI 7] [iR a1, iI 7])) rfl rfl (hb hby d10_11) _ ?_
    rw [len_of S1 M1]
    show Steps _ _ _ (s₁.setTop (mkF m 12 #[vR a1, vR a2, vI 7] [iI 8, iI 7])) _
    refine XS.icmpNo X0.here hx rfl (hb hby d10_12) rfl (tlt (by decide : (7 : Int32) < (8 : Int32))).2.1 ?_
    show Steps _ _ _ (s₁.setTop (mkF m 15 #[vR a1, vR a2, vI 7] [])) _
    refine XS.aloadN X0.here hx rfl (hb hby d10_15) rfl rfl ?_
    show Steps _ _ _ (s₁.setTop (mkF m 16 #[vR a1, vR a2, vI 7] [iR a1])) _
    refine XS.iloadN X0.here hx rfl (hb hby d10_16) rfl ?_
    show Steps _ _ _ (s₁.setTop (mkF m 17 #[vR a1, vR a2, vI 7] [iI 7, iR a1])) _
    refine X0.baloadBytes hx (j := (7 : Int32)) (v := (.int (101 : Int32))) (by rw [e0]; exact Ar1.1) (State.isArrayOf_alike hZ.alike Ar1.2.1) Ar1.2.2 hin31 hat32 (g := (mkF m 17 #[vR a1, vR a2, vI 7] [iI 7, iR a1])) rfl rfl (hb hby d10_17) _ ?_
    show Steps _ _ _ (s₁.setTop (mkF m 18 #[vR a1, vR a2, vI 7] [iI 101])) _
    refine XS.aloadN X0.here hx rfl (hb hby d10_18) rfl rfl ?_
    show Steps _ _ _ (s₁.setTop (mkF m 19 #[vR a1, vR a2, vI 7] [iR a2, iI 101])) _
    refine XS.iloadN X0.here hx rfl (hb hby d10_19) rfl ?_
    show Steps _ _ _ (s₁.setTop (mkF m 20 #[vR a1, vR a2, vI 7] [iI 7, iR a2, iI 101])) _
    refine X0.baloadBytes hx (j := (7 : Int32)) (v := (.int (101 : Int32))) (by rw [e0]; exact Ar2.1) (State.isArrayOf_alike hZ.alike Ar2.2.1) Ar2.2.2 hin33 hat34 (g := (mkF m 20 #[vR a1, vR a2, vI 7] [iI 7, iR a2, iI 101])) rfl rfl (hb hby d10_20) _ ?_
    show Steps _ _ _ (s₁.setTop (mkF m 21 #[vR a1, vR a2, vI 7] [iI 101, iI 101])) _
    refine XS.icmpYes X0.here hx rfl (pc0 := 21) (pc' := 26) rfl (hb hby d10_21) rfl (teq (by decide : (101 : Int32) = (101 : Int32))).1 (by decide) (by decide) ?_
    show Steps _ _ _ (s₁.setTop (mkF m 26 #[vR a1, vR a2, vI 7] [])) _
    refine XS.iinc X0.here hx rfl (hb hby d10_26) rfl (l' := #[vR a1, vR a2, vI ((7 : Int32) + (1 : Int32))]) rfl ?_
    rw [(by decide : ((7 : Int32) + (1 : Int32)) = (8 : Int32))]
    show Steps _ _ _ (s₁.setTop (mkF m 29 #[vR a1, vR a2, vI 8] [])) _
    refine XS.goto X0.here hx rfl (pc0 := 29) (pc' := 9) rfl (hb hby d10_29) (by decide) (by decide) ?_
    show Steps _ _ _ (s₁.setTop (mkF m 9 #[vR a1, vR a2, vI 8] [])) _
    refine XS.iloadN X0.here hx rfl (hb hby d10_9) rfl ?_
    show Steps _ _ _ (s₁.setTop (mkF m 10 #[vR a1, vR a2, vI 8] [iI 8])) _
    refine XS.aloadN X0.here hx rfl (hb hby d10_10) rfl rfl ?_
    show Steps _ _ _ (s₁.setTop (mkF m 11 #[vR a1, vR a2, vI 8] [iR a1, iI 8])) _
    refine X0.arraylength hx (by rw [e0]; exact Ar1.1) (State.isArrayOf_alike hZ.alike Ar1.2.1) (g := (mkF m 11 #[vR a1, vR a2, vI 8] [iR a1, iI 8])) rfl rfl (hb hby d10_11) _ ?_
    rw [len_of S1 M1]
    show Steps _ _ _ (s₁.setTop (mkF m 12 #[vR a1, vR a2, vI 8] [iI 8, iI 8])) _
    refine XS.icmpYes X0.here hx rfl (pc0 := 12) (pc' := 32) rfl (hb hby d10_12) rfl (flt (by decide : ¬ ((8 : Int32) < (8 : Int32)))).2.1 (by decide) (by decide) ?_
    show Steps _ _ _ (s₁.setTop (mkF m 32 #[vR a1, vR a2, vI 8] [])) _
    refine XS.iconst X0.here hx rfl (hb hby d10_32) ?_
    show Steps _ _ _ (s₁.setTop (mkF m 33 #[vR a1, vR a2, vI 8] [iI 1])) _
    exact retN X0 hx (t := .boolean) Bd.returns (by simp) (hb hby d10_33) hr
  · show Q10_VALIDATE_VALIDATE Z a1 a2 k1 k2 h0 _ s₁.heap _
    rw [e0]
    exact ⟨rfl, rfl, rfl⟩
theorem d9_0 : decode jdk_42_method_66_code 0 = .ok (.aload_n 0, 1) := by decide +kernel
theorem d9_1 : decode jdk_42_method_66_code 1 = .ok (.aload_n 1, 1) := by decide +kernel
theorem d9_2 : decode jdk_42_method_66_code 2 = .ok (.if_acmp .ne 5, 3) := by decide +kernel
theorem d9_7 : decode jdk_42_method_66_code 7 = .ok (.aload_n 1, 1) := by decide +kernel
theorem d9_8 : decode jdk_42_method_66_code 8 = .ok (.instanceof 10, 3) := by decide +kernel
theorem d9_11 : decode jdk_42_method_66_code 11 = .ok (.ifCond .eq 43, 3) := by decide +kernel
theorem d9_14 : decode jdk_42_method_66_code 14 = .ok (.aload_n 1, 1) := by decide +kernel
theorem d9_15 : decode jdk_42_method_66_code 15 = .ok (.checkcast 10, 3) := by decide +kernel
theorem d9_18 : decode jdk_42_method_66_code 18 = .ok (.astore_n 2, 1) := by decide +kernel
theorem d9_19 : decode jdk_42_method_66_code 19 = .ok (.getstatic 38, 3) := by decide +kernel
theorem d9_22 : decode jdk_42_method_66_code 22 = .ok (.ifCond .eq 14, 3) := by decide +kernel
theorem d9_25 : decode jdk_42_method_66_code 25 = .ok (.aload_n 0, 1) := by decide +kernel
theorem d9_26 : decode jdk_42_method_66_code 26 = .ok (.getfield 15, 3) := by decide +kernel
theorem d9_29 : decode jdk_42_method_66_code 29 = .ok (.aload_n 2, 1) := by decide +kernel
theorem d9_30 : decode jdk_42_method_66_code 30 = .ok (.getfield 15, 3) := by decide +kernel
theorem d9_33 : decode jdk_42_method_66_code 33 = .ok (.if_icmp .ne 21, 3) := by decide +kernel
theorem d9_36 : decode jdk_42_method_66_code 36 = .ok (.aload_n 0, 1) := by decide +kernel
theorem d9_37 : decode jdk_42_method_66_code 37 = .ok (.getfield 9, 3) := by decide +kernel
theorem d9_40 : decode jdk_42_method_66_code 40 = .ok (.aload_n 2, 1) := by decide +kernel
theorem d9_41 : decode jdk_42_method_66_code 41 = .ok (.getfield 9, 3) := by decide +kernel
theorem d9_44 : decode jdk_42_method_66_code 44 = .ok (.invokestatic 541, 3) := by decide +kernel
theorem d9_47 : decode jdk_42_method_66_code 47 = .ok (.ifCond .eq 7, 3) := by decide +kernel
theorem d9_50 : decode jdk_42_method_66_code 50 = .ok (.iconst 1, 1) := by decide +kernel
theorem d9_51 : decode jdk_42_method_66_code 51 = .ok (.goto 4, 3) := by decide +kernel
theorem d9_55 : decode jdk_42_method_66_code 55 = .ok (.ireturn, 1) := by decide +kernel
theorem ef_9_VALIDATE_VALIDATE (m : MethodId) (x0 : Addr) (x1 : Addr) : entryFrame m #[(.ref x0), (.ref x1)] 3 = mkF m 0 #[.val (.ref x0), .val (.ref x1), .unset] [] := by first | (simp [entryFrame, mkF, argsToLocals, Value.category]; done) | rfl
def Q9_VALIDATE_VALIDATE (Z : State) (a1 : Addr) (a2 : Addr) (d1 d2 : Addr) (k1 k2 : ClassId) (cs : Int32) (h0 : Heap) (v : Option Value) (h : Heap) (L : List Loc) : Prop := v = some (.int (1 : Int32)) ∧ L = [] ∧ h = h0
set_option maxRecDepth 65536 in
set_option maxHeartbeats 40000000 in
theorem rm9_VALIDATE_VALIDATE (l : Launch) (Z : State) (a0 : Array Value) (hw : ∀ d ∈ tables_1, d.before a0 Z = true) (ws : List Jvm.Cond) (a1 : Addr) (a2 : Addr) (d1 d2 : Addr) (k1 k2 : ClassId) (cs : Int32) (h0 : Heap) (n0 : Nat) (O0 : Old Z n0 h0) (E_a1 : Exa Z h0 a1 "java/lang/String") (C_a1 : Fld Z h0 a1 "java/lang/String" "coder" "B" (.int (0 : Int32))) (W_a1 : Fld Z h0 a1 "java/lang/String" "value" "[B" (.ref d1)) (V_1 : Arv Z h0 d1 k1 .byte (8 : Int32) [(.int (118 : Int32)), (.int (97 : Int32)), (.int (108 : Int32)), (.int (105 : Int32)), (.int (100 : Int32)), (.int (97 : Int32)), (.int (116 : Int32)), (.int (101 : Int32))] (.int (0 : Int32))) (E_a2 : Exa Z h0 a2 "java/lang/String") (C_a2 : Fld Z h0 a2 "java/lang/String" "coder" "B" (.int (0 : Int32))) (W_a2 : Fld Z h0 a2 "java/lang/String" "value" "[B" (.ref d2)) (V_2 : Arv Z h0 d2 k2 .byte (8 : Int32) [(.int (118 : Int32)), (.int (97 : Int32)), (.int (108 : Int32)), (.int (105 : Int32)), (.int (100 : Int32)), (.int (97 : Int32)), (.int (116 : Int32)), (.int (101 : Int32))] (.int (0 : Int32))) (ne_a1_a2 : a1 ≠ a2) (S_CS : Sta Z Z.heap "java/lang/String" "COMPACT_STRINGS" "Z" (.int cs)) (h_cs : ¬ cs = (0 : Int32)) :
    MetFree l (⟨"java/lang/String", "equals", "(Ljava/lang/Object;)Z"⟩ : MethodName) (head1 (Jvm.Cond.code (⟨"java/lang/String", "equals", "(Ljava/lang/Object;)Z"⟩ : MethodName) jdk_42_method_66_code 3 (some .boolean) :: ws) ({ frames := 1, cells := 0, slots := 0, locals := 14 } : Room)) (fun a U => a = #[(.ref a1), (.ref a2)] ∧ Z.Warmed39 U.vm ∧ U.heap = h0) (fun _ _ _ _ _ => True) (fun _ U o U' => ∃ v L, o = .returned v ∧ Q9_VALIDATE_VALIDATE Z a1 a2 d1 d2 k1 k2 cs h0 v U'.heap L ∧ FrameEnd U o U' L ({ frames := 1, cells := 0, slots := 0, locals := 14 } : Room).cells ({ frames := 1, cells := 0, slots := 0, locals := 14 } : Room).slots) := by
  refine MetFree.of_bodySF (plainFor_of_name pn_1) hisR ?_
  intro p e s m args below meth c s₁ Bd hml0 hP hK
  obtain ⟨rfl, hZ, hh⟩ := hP
  have hx := Bd.exec
  have hby := Bd.bytes
  have hml : c.maxLocals = 3 := hml0
  have hown : s.vm.findClass "java/lang/String" = some m.cls := findClass_of_methodNamed Bd.named
  have hnm := (name_of_methodNamed Bd.named Bd.method).1
  have X0 : Stand p l e ({ frames := 1, cells := 0, slots := 0, locals := 14 } : Room) s m #[(.ref a1), (.ref a2)] below meth c s₁ [] 0 0 := Stand.of_body Bd
  have e0 : s₁.heap = h0 := by rw [← hh, Bd.state]; rfl
  have pre0 : ∀ t, Steps p.tables e below (s₁.setTop (mkF m 0 #[.val (.ref a1), .val (.ref a2), .unset] [])) t → Steps p.tables e below (s₁.setTop (entryFrame m #[(.ref a1), (.ref a2)] 3)) t := fun t k => castTop (ef_9_VALIDATE_VALIDATE m a1 a2) k
  obtain ⟨T1, X1, e1, st1⟩ := instY X0 hx hZ hown (hw _ (List.mem_of_getElem? (i := 61) rfl)) e0 (Ins.self E_a2) (g := (mkF m 8 #[vR a1, vR a2, .unset] [iR a2])) rfl rfl (hb hby d9_8)
  obtain ⟨T2, X2, e2, st2⟩ := castY X1 hx hZ hown (hw _ (List.mem_of_getElem? (i := 61) rfl)) e1 (Ins.self E_a2) (g := (mkF m 15 #[vR a1, vR a2, .unset] [iR a2])) rfl rfl (hb hby d9_15)
  obtain ⟨T3, X3, e3, st3⟩ := getS2 X2 hx hZ hown (host := "") (Or.inl (hw _ (List.mem_of_getElem? (i := 15) rfl))) Via.refl e2 (S_CS.ext O0.2) (g := (mkF m 19 #[vR a1, vR a2, vR a2] [])) rfl (hb hby d9_19)
  obtain ⟨T4, X4, e4, st4⟩ := getF X3 hx hZ hown (host := "") (Or.inl (hw _ (List.mem_of_getElem? (i := 27) rfl))) Via.refl e3 C_a1 (g := (mkF m 26 #[vR a1, vR a2, vR a2] [iR a1])) rfl rfl (hb hby d9_26)
  obtain ⟨T5, X5, e5, st5⟩ := getF X4 hx hZ hown (host := "") (Or.inl (hw _ (List.mem_of_getElem? (i := 27) rfl))) Via.refl e4 C_a2 (g := (mkF m 30 #[vR a1, vR a2, vR a2] [iR a2, iI 0])) rfl rfl (hb hby d9_30)
  obtain ⟨T6, X6, e6, st6⟩ := getF X5 hx hZ hown (host := "") (Or.inl (hw _ (List.mem_of_getElem? (i := 29) rfl))) Via.refl e5 W_a1 (g := (mkF m 37 #[vR a1, vR a2, vR a2] [iR a1])) rfl rfl (hb hby d9_37)
  obtain ⟨T7, X7, e7, st7⟩ := getF X6 hx hZ hown (host := "") (Or.inl (hw _ (List.mem_of_getElem? (i := 29) rfl))) Via.refl e6 W_a2 (g := (mkF m 41 #[vR a1, vR a2, vR a2] [iR a2, iR d1])) rfl rfl (hb hby d9_41)
  obtain ⟨_, _, ⟨T8, L8, k8, n8⟩, -, X8, ⟨Lc8, hQ8, l8, y8, z8⟩, st8⟩ := Jvm.LawKit.callS X7 hx (y := (⟨"java/lang/StringLatin1", "equals", "([B[B)Z"⟩ : MethodName)) hown (mvT hZ (hw _ (List.mem_of_getElem? (i := 62) rfl))) (mvT hZ (hw _ (List.mem_of_getElem? (i := 63) rfl))) (mvT hZ (hw _ (List.mem_of_getElem? (i := 64) rfl))) (mvT hZ (hw _ (List.mem_of_getElem? (i := 65) rfl))) (by decide) (backOf (W := 0) (rm10_VALIDATE_VALIDATE l Z a0 hw [] d1 d2 k1 k2 h0 V_1 V_2) hZ (hw _ (List.mem_of_getElem? (i := 65) rfl)) (hw _ (List.mem_of_getElem? (i := 64) rfl)) (by decide) (by decide)) (g := (mkF m 44 #[vR a1, vR a2, vR a2] [iR d2, iR d1])) rfl (by rw [hml]; rfl) (argsL := [(.ref d1), (.ref d2)]) (rest := []) (lenOf pd_4 rfl) rfl (by show 2 * 0 + _ ≤ _; exact Nat.le_of_eq rfl) (hb hby d9_44) (fun _ _ => ⟨rfl, e7, (by decide : 0 + 0 ≤ _), (by decide : 0 + 0 ≤ _)⟩)
  dsimp only [Pt.U, Pt.locs, Pt.cells, Pt.slots] at X8 l8 y8 z8 st8 hQ8
  subst l8 y8 z8
  obtain ⟨rfl, rfl, e8⟩ := hQ8
  try rw [List.append_nil] at X8
  obtain ⟨fs, hr, hrun, hended, hW, hsame⟩ := X8.leave (v := some (.int (1 : Int32))) (fun h => by rw [Bd.returns] at h; cases h)
  refine ⟨_, _, pre0 _ ?_, hrun, hended, _, _, rfl, ?_, ⟨_, rfl⟩, hW, hsame.mono (by decide) (by decide)⟩
  · show Steps _ _ _ (s₁.setTop (mkF m 0 #[vR a1, vR a2, .unset] [])) _
    refine XS.aloadN X0.here hx rfl (hb hby d9_0) rfl rfl ?_
    show Steps _ _ _ (s₁.setTop (mkF m 1 #[vR a1, vR a2, .unset] [iR a1])) _
    refine XS.aloadN X0.here hx rfl (hb hby d9_1) rfl rfl ?_
    show Steps _ _ _ (s₁.setTop (mkF m 2 #[vR a1, vR a2, .unset] [iR a2, iR a1])) _
    refine Jvm.RoadKit.acmp (g := (mkF m 2 #[vR a1, vR a2, .unset] [iR a2, iR a1])) X0 hx rfl rfl rfl (pc0 := 2) (pc' := 7) (same := false) rfl (hb hby d9_2) rfl (decide_eq_false fun q => ne_a1_a2 (Value.ref.inj q)) (by decide) (by decide) ?_
    show Steps _ _ _ (s₁.setTop (mkF m 7 #[vR a1, vR a2, .unset] [])) _
    refine XS.aloadN X0.here hx rfl (hb hby d9_7) rfl rfl ?_
    show Steps _ _ _ (s₁.setTop (mkF m 8 #[vR a1, vR a2, .unset] [iR a2])) _
    refine st1 _ ?_
    show Steps _ _ _ (T1.setTop (mkF m 11 #[vR a1, vR a2, .unset] [iI 1])) _
    refine XS.ifNo X1.here hx rfl (hb hby d9_11) rfl ((if0 _ _).trans (feq (by decide : ¬ ((1 : Int32) = (0 : Int32)))).1) ?_
    show Steps _ _ _ (T1.setTop (mkF m 14 #[vR a1, vR a2, .unset] [])) _
    refine XS.aloadN X1.here hx rfl (hb hby d9_14) rfl rfl ?_
    show Steps _ _ _ (T1.setTop (mkF m 15 #[vR a1, vR a2, .unset] [iR a2])) _
    refine st2 _ ?_
    show Steps _ _ _ (T2.setTop (mkF m 18 #[vR a1, vR a2, .unset] [iR a2])) _
    refine XS.astoreN X2.here hx rfl (hb hby d9_18) rfl rfl (l' := #[vR a1, vR a2, vR a2]) rfl ?_
    show Steps _ _ _ (T2.setTop (mkF m 19 #[vR a1, vR a2, vR a2] [])) _
    refine st3 _ ?_
    show Steps _ _ _ (T3.setTop (mkF m 22 #[vR a1, vR a2, vR a2] [iI cs])) _
    refine XS.ifNo X3.here hx rfl (hb hby d9_22) rfl ((if0 _ _).trans (feq h_cs).1) ?_
    show Steps _ _ _ (T3.setTop (mkF m 25 #[vR a1, vR a2, vR a2] [])) _
    refine XS.aloadN X3.here hx rfl (hb hby d9_25) rfl rfl ?_
    show Steps _ _ _ (T3.setTop (mkF m 26 #[vR a1, vR a2, vR a2] [iR a1])) _
    refine st4 _ ?_
    show Steps _ _ _ (T4.setTop (mkF m 29 #[vR a1, vR a2, vR a2] [iI 0])) _
    refine XS.aloadN X4.here hx rfl (hb hby d9_29) rfl rfl ?_
    show Steps _ _ _ (T4.setTop (mkF m 30 #[vR a1, vR a2, vR a2] [iR a2, iI 0])) _
    refine st5 _ ?_
    show Steps _ _ _ (T5.setTop (mkF m 33 #[vR a1, vR a2, vR a2] [iI 0, iI 0])) _
    refine XS.icmpNo X5.here hx rfl (hb hby d9_33) rfl (teq (by decide : (0 : Int32) = (0 : Int32))).2 ?_
    show Steps _ _ _ (T5.setTop (mkF m 36 #[vR a1, vR a2, vR a2] [])) _
    refine XS.aloadN X5.here hx rfl (hb hby d9_36) rfl rfl ?_
    show Steps _ _ _ (T5.setTop (mkF m 37 #[vR a1, vR a2, vR a2] [iR a1])) _
    refine st6 _ ?_
    show Steps _ _ _ (T6.setTop (mkF m 40 #[vR a1, vR a2, vR a2] [iR d1])) _
    refine XS.aloadN X6.here hx rfl (hb hby d9_40) rfl rfl ?_
    show Steps _ _ _ (T6.setTop (mkF m 41 #[vR a1, vR a2, vR a2] [iR a2, iR d1])) _
    refine st7 _ ?_
    show Steps _ _ _ (T7.setTop (mkF m 44 #[vR a1, vR a2, vR a2] [iR d2, iR d1])) _
    refine st8 _ ?_
    show Steps _ _ _ (T8.setTop (mkF m 47 #[vR a1, vR a2, vR a2] [iI 1])) _
    refine XS.ifNo X8.here hx rfl (hb hby d9_47) rfl ((if0 _ _).trans (feq (by decide : ¬ ((1 : Int32) = (0 : Int32)))).1) ?_
    show Steps _ _ _ (T8.setTop (mkF m 50 #[vR a1, vR a2, vR a2] [])) _
    refine XS.iconst X8.here hx rfl (hb hby d9_50) ?_
    show Steps _ _ _ (T8.setTop (mkF m 51 #[vR a1, vR a2, vR a2] [iI 1])) _
    refine XS.goto X8.here hx rfl (pc0 := 51) (pc' := 55) rfl (hb hby d9_51) (by decide) (by decide) ?_
    show Steps _ _ _ (T8.setTop (mkF m 55 #[vR a1, vR a2, vR a2] [iI 1])) _
    exact retN X8 hx (t := .boolean) Bd.returns (by simp) (hb hby d9_55) hr
  · show Q9_VALIDATE_VALIDATE Z a1 a2 d1 d2 k1 k2 cs h0 _ T8.heap _
    rw [e8]
    exact ⟨rfl, rfl, rfl⟩
theorem d10_34 : decode jdk_43_method_13_code 34 = .ok (.iconst 0, 1) := by decide +kernel
theorem d10_35 : decode jdk_43_method_13_code 35 = .ok (.ireturn, 1) := by decide +kernel
theorem ef_10_VALIDATE_FORMAT (m : MethodId) (x0 : Addr) (x1 : Addr) : entryFrame m #[(.ref x0), (.ref x1)] 3 = mkF m 0 #[.val (.ref x0), .val (.ref x1), .unset] [] := by first | (simp [entryFrame, mkF, argsToLocals, Value.category]; done) | rfl
def Q10_VALIDATE_FORMAT (Z : State) (a1 : Addr) (a2 : Addr) (k1 k2 : ClassId) (h0 : Heap) (v : Option Value) (h : Heap) (L : List Loc) : Prop := v = some (.int (0 : Int32)) ∧ L = [] ∧ h = h0
set_option maxRecDepth 65536 in
set_option maxHeartbeats 40000000 in
theorem rm10_VALIDATE_FORMAT (l : Launch) (Z : State) (a0 : Array Value) (hw : ∀ d ∈ tables_1, d.before a0 Z = true) (ws : List Jvm.Cond) (a1 : Addr) (a2 : Addr) (k1 k2 : ClassId) (h0 : Heap) (V_1 : Arv Z h0 a1 k1 .byte (8 : Int32) [(.int (118 : Int32)), (.int (97 : Int32)), (.int (108 : Int32)), (.int (105 : Int32)), (.int (100 : Int32)), (.int (97 : Int32)), (.int (116 : Int32)), (.int (101 : Int32))] (.int (0 : Int32))) (V_2 : Arv Z h0 a2 k2 .byte (6 : Int32) [(.int (102 : Int32)), (.int (111 : Int32)), (.int (114 : Int32)), (.int (109 : Int32)), (.int (97 : Int32)), (.int (116 : Int32))] (.int (0 : Int32))) :
    MetFree l (⟨"java/lang/StringLatin1", "equals", "([B[B)Z"⟩ : MethodName) (head1 (Jvm.Cond.code (⟨"java/lang/StringLatin1", "equals", "([B[B)Z"⟩ : MethodName) jdk_43_method_13_code 3 (some .boolean) :: ws) ({ frames := 0, cells := 0, slots := 0, locals := 0 } : Room)) (fun a U => a = #[(.ref a1), (.ref a2)] ∧ Z.Warmed39 U.vm ∧ U.heap = h0) (fun _ _ _ _ _ => True) (fun _ U o U' => ∃ v L, o = .returned v ∧ Q10_VALIDATE_FORMAT Z a1 a2 k1 k2 h0 v U'.heap L ∧ FrameEnd U o U' L ({ frames := 0, cells := 0, slots := 0, locals := 0 } : Room).cells ({ frames := 0, cells := 0, slots := 0, locals := 0 } : Room).slots) := by
  refine MetFree.of_bodySF (plainFor_of_name pn_2) hisR ?_
  intro p e s m args below meth c s₁ Bd hml0 hP hK
  obtain ⟨rfl, hZ, hh⟩ := hP
  have hx := Bd.exec
  have hby := Bd.bytes
  have hml : c.maxLocals = 3 := hml0
  have hown : s.vm.findClass "java/lang/StringLatin1" = some m.cls := findClass_of_methodNamed Bd.named
  have hnm := (name_of_methodNamed Bd.named Bd.method).1
  have X0 : Stand p l e ({ frames := 0, cells := 0, slots := 0, locals := 0 } : Room) s m #[(.ref a1), (.ref a2)] below meth c s₁ [] 0 0 := Stand.of_body Bd
  have e0 : s₁.heap = h0 := by rw [← hh, Bd.state]; rfl
  have pre0 : ∀ t, Steps p.tables e below (s₁.setTop (mkF m 0 #[.val (.ref a1), .val (.ref a2), .unset] [])) t → Steps p.tables e below (s₁.setTop (entryFrame m #[(.ref a1), (.ref a2)] 3)) t := fun t k => castTop (ef_10_VALIDATE_FORMAT m a1 a2) k
  obtain ⟨cl1, Ar1, q1, S1, M1, H1, G1⟩ := id V_1
  obtain ⟨cl2, Ar2, q2, S2, M2, H2, G2⟩ := id V_2
  obtain ⟨fs, hr, hrun, hended, hW, hsame⟩ := X0.leave (v := some (.int (0 : Int32))) (fun h => by rw [Bd.returns] at h; cases h)
  refine ⟨_, _, pre0 _ ?_, hrun, hended, _, _, rfl, ?_, ⟨_, rfl⟩, hW, hsame.mono (by decide) (by decide)⟩
  · show Steps _ _ _ (s₁.setTop (mkF m 0 #[vR a1, vR a2, .unset] [])) _
    refine XS.aloadN X0.here hx rfl (hb hby d10_0) rfl rfl ?_
    show Steps _ _ _ (s₁.setTop (mkF m 1 #[vR a1, vR a2, .unset] [iR a1])) _
    refine X0.arraylength hx (by rw [e0]; exact Ar1.1) (State.isArrayOf_alike hZ.alike Ar1.2.1) (g := (mkF m 1 #[vR a1, vR a2, .unset] [iR a1])) rfl rfl (hb hby d10_1) _ ?_
    rw [len_of S1 M1]
    show Steps _ _ _ (s₁.setTop (mkF m 2 #[vR a1, vR a2, .unset] [iI 8])) _
    refine XS.aloadN X0.here hx rfl (hb hby d10_2) rfl rfl ?_
    show Steps _ _ _ (s₁.setTop (mkF m 3 #[vR a1, vR a2, .unset] [iR a2, iI 8])) _
    refine X0.arraylength hx (by rw [e0]; exact Ar2.1) (State.isArrayOf_alike hZ.alike Ar2.2.1) (g := (mkF m 3 #[vR a1, vR a2, .unset] [iR a2, iI 8])) rfl rfl (hb hby d10_3) _ ?_
    rw [len_of S2 M2]
    show Steps _ _ _ (s₁.setTop (mkF m 4 #[vR a1, vR a2, .unset] [iI 6, iI 8])) _
    refine XS.icmpYes X0.here hx rfl (pc0 := 4) (pc' := 34) rfl (hb hby d10_4) rfl (feq (by decide : ¬ ((8 : Int32) = (6 : Int32)))).2 (by decide) (by decide) ?_
    show Steps _ _ _ (s₁.setTop (mkF m 34 #[vR a1, vR a2, .unset] [])) _
    refine XS.iconst X0.here hx rfl (hb hby d10_34) ?_
    show Steps _ _ _ (s₁.setTop (mkF m 35 #[vR a1, vR a2, .unset] [iI 0])) _
    exact retN X0 hx (t := .boolean) Bd.returns (by simp) (hb hby d10_35) hr
  · show Q10_VALIDATE_FORMAT Z a1 a2 k1 k2 h0 _ s₁.heap _
    rw [e0]
    exact ⟨rfl, rfl, rfl⟩
theorem d9_54 : decode jdk_42_method_66_code 54 = .ok (.iconst 0, 1) := by decide +kernel
theorem ef_9_VALIDATE_FORMAT (m : MethodId) (x0 : Addr) (x1 : Addr) : entryFrame m #[(.ref x0), (.ref x1)] 3 = mkF m 0 #[.val (.ref x0), .val (.ref x1), .unset] [] := by first | (simp [entryFrame, mkF, argsToLocals, Value.category]; done) | rfl
def Q9_VALIDATE_FORMAT (Z : State) (a1 : Addr) (a2 : Addr) (d1 d2 : Addr) (k1 k2 : ClassId) (cs : Int32) (h0 : Heap) (v : Option Value) (h : Heap) (L : List Loc) : Prop := v = some (.int (0 : Int32)) ∧ L = [] ∧ h = h0
set_option maxRecDepth 65536 in
set_option maxHeartbeats 40000000 in
theorem rm9_VALIDATE_FORMAT (l : Launch) (Z : State) (a0 : Array Value) (hw : ∀ d ∈ tables_1, d.before a0 Z = true) (ws : List Jvm.Cond) (a1 : Addr) (a2 : Addr) (d1 d2 : Addr) (k1 k2 : ClassId) (cs : Int32) (h0 : Heap) (n0 : Nat) (O0 : Old Z n0 h0) (E_a1 : Exa Z h0 a1 "java/lang/String") (C_a1 : Fld Z h0 a1 "java/lang/String" "coder" "B" (.int (0 : Int32))) (W_a1 : Fld Z h0 a1 "java/lang/String" "value" "[B" (.ref d1)) (V_1 : Arv Z h0 d1 k1 .byte (8 : Int32) [(.int (118 : Int32)), (.int (97 : Int32)), (.int (108 : Int32)), (.int (105 : Int32)), (.int (100 : Int32)), (.int (97 : Int32)), (.int (116 : Int32)), (.int (101 : Int32))] (.int (0 : Int32))) (E_a2 : Exa Z h0 a2 "java/lang/String") (C_a2 : Fld Z h0 a2 "java/lang/String" "coder" "B" (.int (0 : Int32))) (W_a2 : Fld Z h0 a2 "java/lang/String" "value" "[B" (.ref d2)) (V_2 : Arv Z h0 d2 k2 .byte (6 : Int32) [(.int (102 : Int32)), (.int (111 : Int32)), (.int (114 : Int32)), (.int (109 : Int32)), (.int (97 : Int32)), (.int (116 : Int32))] (.int (0 : Int32))) (ne_a1_a2 : a1 ≠ a2) (S_CS : Sta Z Z.heap "java/lang/String" "COMPACT_STRINGS" "Z" (.int cs)) (h_cs : ¬ cs = (0 : Int32)) :
    MetFree l (⟨"java/lang/String", "equals", "(Ljava/lang/Object;)Z"⟩ : MethodName) (head1 (Jvm.Cond.code (⟨"java/lang/String", "equals", "(Ljava/lang/Object;)Z"⟩ : MethodName) jdk_42_method_66_code 3 (some .boolean) :: ws) ({ frames := 1, cells := 0, slots := 0, locals := 14 } : Room)) (fun a U => a = #[(.ref a1), (.ref a2)] ∧ Z.Warmed39 U.vm ∧ U.heap = h0) (fun _ _ _ _ _ => True) (fun _ U o U' => ∃ v L, o = .returned v ∧ Q9_VALIDATE_FORMAT Z a1 a2 d1 d2 k1 k2 cs h0 v U'.heap L ∧ FrameEnd U o U' L ({ frames := 1, cells := 0, slots := 0, locals := 14 } : Room).cells ({ frames := 1, cells := 0, slots := 0, locals := 14 } : Room).slots) := by
  refine MetFree.of_bodySF (plainFor_of_name pn_1) hisR ?_
  intro p e s m args below meth c s₁ Bd hml0 hP hK
  obtain ⟨rfl, hZ, hh⟩ := hP
  have hx := Bd.exec
  have hby := Bd.bytes
  have hml : c.maxLocals = 3 := hml0
  have hown : s.vm.findClass "java/lang/String" = some m.cls := findClass_of_methodNamed Bd.named
  have hnm := (name_of_methodNamed Bd.named Bd.method).1
  have X0 : Stand p l e ({ frames := 1, cells := 0, slots := 0, locals := 14 } : Room) s m #[(.ref a1), (.ref a2)] below meth c s₁ [] 0 0 := Stand.of_body Bd
  have e0 : s₁.heap = h0 := by rw [← hh, Bd.state]; rfl
  have pre0 : ∀ t, Steps p.tables e below (s₁.setTop (mkF m 0 #[.val (.ref a1), .val (.ref a2), .unset] [])) t → Steps p.tables e below (s₁.setTop (entryFrame m #[(.ref a1), (.ref a2)] 3)) t := fun t k => castTop (ef_9_VALIDATE_FORMAT m a1 a2) k
  obtain ⟨T1, X1, e1, st1⟩ := instY X0 hx hZ hown (hw _ (List.mem_of_getElem? (i := 61) rfl)) e0 (Ins.self E_a2) (g := (mkF m 8 #[vR a1, vR a2, .unset] [iR a2])) rfl rfl (hb hby d9_8)
  obtain ⟨T2, X2, e2, st2⟩ := castY X1 hx hZ hown (hw _ (List.mem_of_getElem? (i := 61) rfl)) e1 (Ins.self E_a2) (g := (mkF m 15 #[vR a1, vR a2, .unset] [iR a2])) rfl rfl (hb hby d9_15)
  obtain ⟨T3, X3, e3, st3⟩ := getS2 X2 hx hZ hown (host := "") (Or.inl (hw _ (List.mem_of_getElem? (i := 15) rfl))) Via.refl e2 (S_CS.ext O0.2) (g := (mkF m 19 #[vR a1, vR a2, vR a2] [])) rfl (hb hby d9_19)
  obtain ⟨T4, X4, e4, st4⟩ := getF X3 hx hZ hown (host := "") (Or.inl (hw _ (List.mem_of_getElem? (i := 27) rfl))) Via.refl e3 C_a1 (g := (mkF m 26 #[vR a1, vR a2, vR a2] [iR a1])) rfl rfl (hb hby d9_26)
  obtain ⟨T5, X5, e5, st5⟩ := getF X4 hx hZ hown (host := "") (Or.inl (hw _ (List.mem_of_getElem? (i := 27) rfl))) Via.refl e4 C_a2 (g := (mkF m 30 #[vR a1, vR a2, vR a2] [iR a2, iI 0])) rfl rfl (hb hby d9_30)
  obtain ⟨T6, X6, e6, st6⟩ := getF X5 hx hZ hown (host := "") (Or.inl (hw _ (List.mem_of_getElem? (i := 29) rfl))) Via.refl e5 W_a1 (g := (mkF m 37 #[vR a1, vR a2, vR a2] [iR a1])) rfl rfl (hb hby d9_37)
  obtain ⟨T7, X7, e7, st7⟩ := getF X6 hx hZ hown (host := "") (Or.inl (hw _ (List.mem_of_getElem? (i := 29) rfl))) Via.refl e6 W_a2 (g := (mkF m 41 #[vR a1, vR a2, vR a2] [iR a2, iR d1])) rfl rfl (hb hby d9_41)
  obtain ⟨_, _, ⟨T8, L8, k8, n8⟩, -, X8, ⟨Lc8, hQ8, l8, y8, z8⟩, st8⟩ := Jvm.LawKit.callS X7 hx (y := (⟨"java/lang/StringLatin1", "equals", "([B[B)Z"⟩ : MethodName)) hown (mvT hZ (hw _ (List.mem_of_getElem? (i := 62) rfl))) (mvT hZ (hw _ (List.mem_of_getElem? (i := 63) rfl))) (mvT hZ (hw _ (List.mem_of_getElem? (i := 64) rfl))) (mvT hZ (hw _ (List.mem_of_getElem? (i := 65) rfl))) (by decide) (backOf (W := 0) (rm10_VALIDATE_FORMAT l Z a0 hw [] d1 d2 k1 k2 h0 V_1 V_2) hZ (hw _ (List.mem_of_getElem? (i := 65) rfl)) (hw _ (List.mem_of_getElem? (i := 64) rfl)) (by decide) (by decide)) (g := (mkF m 44 #[vR a1, vR a2, vR a2] [iR d2, iR d1])) rfl (by rw [hml]; rfl) (argsL := [(.ref d1), (.ref d2)]) (rest := []) (lenOf pd_4 rfl) rfl (by show 2 * 0 + _ ≤ _; exact Nat.le_of_eq rfl) (hb hby d9_44) (fun _ _ => ⟨rfl, e7, (by decide : 0 + 0 ≤ _), (by decide : 0 + 0 ≤ _)⟩)
  dsimp only [Pt.U, Pt.locs, Pt.cells, Pt.slots] at X8 l8 y8 z8 st8 hQ8
  subst l8 y8 z8
  obtain ⟨rfl, rfl, e8⟩ := hQ8
  try rw [List.append_nil] at X8
  obtain ⟨fs, hr, hrun, hended, hW, hsame⟩ := X8.leave (v := some (.int (0 : Int32))) (fun h => by rw [Bd.returns] at h; cases h)
  refine ⟨_, _, pre0 _ ?_, hrun, hended, _, _, rfl, ?_, ⟨_, rfl⟩, hW, hsame.mono (by decide) (by decide)⟩
  · show Steps _ _ _ (s₁.setTop (mkF m 0 #[vR a1, vR a2, .unset] [])) _
    refine XS.aloadN X0.here hx rfl (hb hby d9_0) rfl rfl ?_
    show Steps _ _ _ (s₁.setTop (mkF m 1 #[vR a1, vR a2, .unset] [iR a1])) _
    refine XS.aloadN X0.here hx rfl (hb hby d9_1) rfl rfl ?_
    show Steps _ _ _ (s₁.setTop (mkF m 2 #[vR a1, vR a2, .unset] [iR a2, iR a1])) _
    refine Jvm.RoadKit.acmp (g := (mkF m 2 #[vR a1, vR a2, .unset] [iR a2, iR a1])) X0 hx rfl rfl rfl (pc0 := 2) (pc' := 7) (same := false) rfl (hb hby d9_2) rfl (decide_eq_false fun q => ne_a1_a2 (Value.ref.inj q)) (by decide) (by decide) ?_
    show Steps _ _ _ (s₁.setTop (mkF m 7 #[vR a1, vR a2, .unset] [])) _
    refine XS.aloadN X0.here hx rfl (hb hby d9_7) rfl rfl ?_
    show Steps _ _ _ (s₁.setTop (mkF m 8 #[vR a1, vR a2, .unset] [iR a2])) _
    refine st1 _ ?_
    show Steps _ _ _ (T1.setTop (mkF m 11 #[vR a1, vR a2, .unset] [iI 1])) _
    refine XS.ifNo X1.here hx rfl (hb hby d9_11) rfl ((if0 _ _).trans (feq (by decide : ¬ ((1 : Int32) = (0 : Int32)))).1) ?_
    show Steps _ _ _ (T1.setTop (mkF m 14 #[vR a1, vR a2, .unset] [])) _
    refine XS.aloadN X1.here hx rfl (hb hby d9_14) rfl rfl ?_
    show Steps _ _ _ (T1.setTop (mkF m 15 #[vR a1, vR a2, .unset] [iR a2])) _
    refine st2 _ ?_
    show Steps _ _ _ (T2.setTop (mkF m 18 #[vR a1, vR a2, .unset] [iR a2])) _
    refine XS.astoreN X2.here hx rfl (hb hby d9_18) rfl rfl (l' := #[vR a1, vR a2, vR a2]) rfl ?_
    show Steps _ _ _ (T2.setTop (mkF m 19 #[vR a1, vR a2, vR a2] [])) _
    refine st3 _ ?_
    show Steps _ _ _ (T3.setTop (mkF m 22 #[vR a1, vR a2, vR a2] [iI cs])) _
    refine XS.ifNo X3.here hx rfl (hb hby d9_22) rfl ((if0 _ _).trans (feq h_cs).1) ?_
    show Steps _ _ _ (T3.setTop (mkF m 25 #[vR a1, vR a2, vR a2] [])) _
    refine XS.aloadN X3.here hx rfl (hb hby d9_25) rfl rfl ?_
    show Steps _ _ _ (T3.setTop (mkF m 26 #[vR a1, vR a2, vR a2] [iR a1])) _
    refine st4 _ ?_
    show Steps _ _ _ (T4.setTop (mkF m 29 #[vR a1, vR a2, vR a2] [iI 0])) _
    refine XS.aloadN X4.here hx rfl (hb hby d9_29) rfl rfl ?_
    show Steps _ _ _ (T4.setTop (mkF m 30 #[vR a1, vR a2, vR a2] [iR a2, iI 0])) _
    refine st5 _ ?_
    show Steps _ _ _ (T5.setTop (mkF m 33 #[vR a1, vR a2, vR a2] [iI 0, iI 0])) _
    refine XS.icmpNo X5.here hx rfl (hb hby d9_33) rfl (teq (by decide : (0 : Int32) = (0 : Int32))).2 ?_
    show Steps _ _ _ (T5.setTop (mkF m 36 #[vR a1, vR a2, vR a2] [])) _
    refine XS.aloadN X5.here hx rfl (hb hby d9_36) rfl rfl ?_
    show Steps _ _ _ (T5.setTop (mkF m 37 #[vR a1, vR a2, vR a2] [iR a1])) _
    refine st6 _ ?_
    show Steps _ _ _ (T6.setTop (mkF m 40 #[vR a1, vR a2, vR a2] [iR d1])) _
    refine XS.aloadN X6.here hx rfl (hb hby d9_40) rfl rfl ?_
    show Steps _ _ _ (T6.setTop (mkF m 41 #[vR a1, vR a2, vR a2] [iR a2, iR d1])) _
    refine st7 _ ?_
    show Steps _ _ _ (T7.setTop (mkF m 44 #[vR a1, vR a2, vR a2] [iR d2, iR d1])) _
    refine st8 _ ?_
    show Steps _ _ _ (T8.setTop (mkF m 47 #[vR a1, vR a2, vR a2] [iI 0])) _
    refine XS.ifYes X8.here hx rfl (pc0 := 47) (pc' := 54) rfl (hb hby d9_47) rfl ((if0 _ _).trans (teq (by decide : (0 : Int32) = (0 : Int32))).1) (by decide) (by decide) ?_
    show Steps _ _ _ (T8.setTop (mkF m 54 #[vR a1, vR a2, vR a2] [])) _
    refine XS.iconst X8.here hx rfl (hb hby d9_54) ?_
    show Steps _ _ _ (T8.setTop (mkF m 55 #[vR a1, vR a2, vR a2] [iI 0])) _
    exact retN X8 hx (t := .boolean) Bd.returns (by simp) (hb hby d9_55) hr
  · show Q9_VALIDATE_FORMAT Z a1 a2 d1 d2 k1 k2 cs h0 _ T8.heap _
    rw [e8]
    exact ⟨rfl, rfl, rfl⟩
theorem ef_10_VALIDATE_GET (m : MethodId) (x0 : Addr) (x1 : Addr) : entryFrame m #[(.ref x0), (.ref x1)] 3 = mkF m 0 #[.val (.ref x0), .val (.ref x1), .unset] [] := by first | (simp [entryFrame, mkF, argsToLocals, Value.category]; done) | rfl
def Q10_VALIDATE_GET (Z : State) (a1 : Addr) (a2 : Addr) (k1 k2 : ClassId) (h0 : Heap) (v : Option Value) (h : Heap) (L : List Loc) : Prop := v = some (.int (0 : Int32)) ∧ L = [] ∧ h = h0
set_option maxRecDepth 65536 in
set_option maxHeartbeats 40000000 in
theorem rm10_VALIDATE_GET (l : Launch) (Z : State) (a0 : Array Value) (hw : ∀ d ∈ tables_1, d.before a0 Z = true) (ws : List Jvm.Cond) (a1 : Addr) (a2 : Addr) (k1 k2 : ClassId) (h0 : Heap) (V_1 : Arv Z h0 a1 k1 .byte (8 : Int32) [(.int (118 : Int32)), (.int (97 : Int32)), (.int (108 : Int32)), (.int (105 : Int32)), (.int (100 : Int32)), (.int (97 : Int32)), (.int (116 : Int32)), (.int (101 : Int32))] (.int (0 : Int32))) (V_2 : Arv Z h0 a2 k2 .byte (3 : Int32) [(.int (103 : Int32)), (.int (101 : Int32)), (.int (116 : Int32))] (.int (0 : Int32))) :
    MetFree l (⟨"java/lang/StringLatin1", "equals", "([B[B)Z"⟩ : MethodName) (head1 (Jvm.Cond.code (⟨"java/lang/StringLatin1", "equals", "([B[B)Z"⟩ : MethodName) jdk_43_method_13_code 3 (some .boolean) :: ws) ({ frames := 0, cells := 0, slots := 0, locals := 0 } : Room)) (fun a U => a = #[(.ref a1), (.ref a2)] ∧ Z.Warmed39 U.vm ∧ U.heap = h0) (fun _ _ _ _ _ => True) (fun _ U o U' => ∃ v L, o = .returned v ∧ Q10_VALIDATE_GET Z a1 a2 k1 k2 h0 v U'.heap L ∧ FrameEnd U o U' L ({ frames := 0, cells := 0, slots := 0, locals := 0 } : Room).cells ({ frames := 0, cells := 0, slots := 0, locals := 0 } : Room).slots) := by
  refine MetFree.of_bodySF (plainFor_of_name pn_2) hisR ?_
  intro p e s m args below meth c s₁ Bd hml0 hP hK
  obtain ⟨rfl, hZ, hh⟩ := hP
  have hx := Bd.exec
  have hby := Bd.bytes
  have hml : c.maxLocals = 3 := hml0
  have hown : s.vm.findClass "java/lang/StringLatin1" = some m.cls := findClass_of_methodNamed Bd.named
  have hnm := (name_of_methodNamed Bd.named Bd.method).1
  have X0 : Stand p l e ({ frames := 0, cells := 0, slots := 0, locals := 0 } : Room) s m #[(.ref a1), (.ref a2)] below meth c s₁ [] 0 0 := Stand.of_body Bd
  have e0 : s₁.heap = h0 := by rw [← hh, Bd.state]; rfl
  have pre0 : ∀ t, Steps p.tables e below (s₁.setTop (mkF m 0 #[.val (.ref a1), .val (.ref a2), .unset] [])) t → Steps p.tables e below (s₁.setTop (entryFrame m #[(.ref a1), (.ref a2)] 3)) t := fun t k => castTop (ef_10_VALIDATE_GET m a1 a2) k
  obtain ⟨cl1, Ar1, q1, S1, M1, H1, G1⟩ := id V_1
  obtain ⟨cl2, Ar2, q2, S2, M2, H2, G2⟩ := id V_2
  obtain ⟨fs, hr, hrun, hended, hW, hsame⟩ := X0.leave (v := some (.int (0 : Int32))) (fun h => by rw [Bd.returns] at h; cases h)
  refine ⟨_, _, pre0 _ ?_, hrun, hended, _, _, rfl, ?_, ⟨_, rfl⟩, hW, hsame.mono (by decide) (by decide)⟩
  · show Steps _ _ _ (s₁.setTop (mkF m 0 #[vR a1, vR a2, .unset] [])) _
    refine XS.aloadN X0.here hx rfl (hb hby d10_0) rfl rfl ?_
    show Steps _ _ _ (s₁.setTop (mkF m 1 #[vR a1, vR a2, .unset] [iR a1])) _
    refine X0.arraylength hx (by rw [e0]; exact Ar1.1) (State.isArrayOf_alike hZ.alike Ar1.2.1) (g := (mkF m 1 #[vR a1, vR a2, .unset] [iR a1])) rfl rfl (hb hby d10_1) _ ?_
    rw [len_of S1 M1]
    show Steps _ _ _ (s₁.setTop (mkF m 2 #[vR a1, vR a2, .unset] [iI 8])) _
    refine XS.aloadN X0.here hx rfl (hb hby d10_2) rfl rfl ?_
    show Steps _ _ _ (s₁.setTop (mkF m 3 #[vR a1, vR a2, .unset] [iR a2, iI 8])) _
    refine X0.arraylength hx (by rw [e0]; exact Ar2.1) (State.isArrayOf_alike hZ.alike Ar2.2.1) (g := (mkF m 3 #[vR a1, vR a2, .unset] [iR a2, iI 8])) rfl rfl (hb hby d10_3) _ ?_
    rw [len_of S2 M2]
    show Steps _ _ _ (s₁.setTop (mkF m 4 #[vR a1, vR a2, .unset] [iI 3, iI 8])) _
    refine XS.icmpYes X0.here hx rfl (pc0 := 4) (pc' := 34) rfl (hb hby d10_4) rfl (feq (by decide : ¬ ((8 : Int32) = (3 : Int32)))).2 (by decide) (by decide) ?_
    show Steps _ _ _ (s₁.setTop (mkF m 34 #[vR a1, vR a2, .unset] [])) _
    refine XS.iconst X0.here hx rfl (hb hby d10_34) ?_
    show Steps _ _ _ (s₁.setTop (mkF m 35 #[vR a1, vR a2, .unset] [iI 0])) _
    exact retN X0 hx (t := .boolean) Bd.returns (by simp) (hb hby d10_35) hr
  · show Q10_VALIDATE_GET Z a1 a2 k1 k2 h0 _ s₁.heap _
    rw [e0]
    exact ⟨rfl, rfl, rfl⟩
theorem ef_9_VALIDATE_GET (m : MethodId) (x0 : Addr) (x1 : Addr) : entryFrame m #[(.ref x0), (.ref x1)] 3 = mkF m 0 #[.val (.ref x0), .val (.ref x1), .unset] [] := by first | (simp [entryFrame, mkF, argsToLocals, Value.category]; done) | rfl
def Q9_VALIDATE_GET (Z : State) (a1 : Addr) (a2 : Addr) (d1 d2 : Addr) (k1 k2 : ClassId) (cs : Int32) (h0 : Heap) (v : Option Value) (h : Heap) (L : List Loc) : Prop := v = some (.int (0 : Int32)) ∧ L = [] ∧ h = h0
set_option maxRecDepth 65536 in
set_option maxHeartbeats 40000000 in
theorem rm9_VALIDATE_GET (l : Launch) (Z : State) (a0 : Array Value) (hw : ∀ d ∈ tables_1, d.before a0 Z = true) (ws : List Jvm.Cond) (a1 : Addr) (a2 : Addr) (d1 d2 : Addr) (k1 k2 : ClassId) (cs : Int32) (h0 : Heap) (n0 : Nat) (O0 : Old Z n0 h0) (E_a1 : Exa Z h0 a1 "java/lang/String") (C_a1 : Fld Z h0 a1 "java/lang/String" "coder" "B" (.int (0 : Int32))) (W_a1 : Fld Z h0 a1 "java/lang/String" "value" "[B" (.ref d1)) (V_1 : Arv Z h0 d1 k1 .byte (8 : Int32) [(.int (118 : Int32)), (.int (97 : Int32)), (.int (108 : Int32)), (.int (105 : Int32)), (.int (100 : Int32)), (.int (97 : Int32)), (.int (116 : Int32)), (.int (101 : Int32))] (.int (0 : Int32))) (E_a2 : Exa Z h0 a2 "java/lang/String") (C_a2 : Fld Z h0 a2 "java/lang/String" "coder" "B" (.int (0 : Int32))) (W_a2 : Fld Z h0 a2 "java/lang/String" "value" "[B" (.ref d2)) (V_2 : Arv Z h0 d2 k2 .byte (3 : Int32) [(.int (103 : Int32)), (.int (101 : Int32)), (.int (116 : Int32))] (.int (0 : Int32))) (ne_a1_a2 : a1 ≠ a2) (S_CS : Sta Z Z.heap "java/lang/String" "COMPACT_STRINGS" "Z" (.int cs)) (h_cs : ¬ cs = (0 : Int32)) :
    MetFree l (⟨"java/lang/String", "equals", "(Ljava/lang/Object;)Z"⟩ : MethodName) (head1 (Jvm.Cond.code (⟨"java/lang/String", "equals", "(Ljava/lang/Object;)Z"⟩ : MethodName) jdk_42_method_66_code 3 (some .boolean) :: ws) ({ frames := 1, cells := 0, slots := 0, locals := 14 } : Room)) (fun a U => a = #[(.ref a1), (.ref a2)] ∧ Z.Warmed39 U.vm ∧ U.heap = h0) (fun _ _ _ _ _ => True) (fun _ U o U' => ∃ v L, o = .returned v ∧ Q9_VALIDATE_GET Z a1 a2 d1 d2 k1 k2 cs h0 v U'.heap L ∧ FrameEnd U o U' L ({ frames := 1, cells := 0, slots := 0, locals := 14 } : Room).cells ({ frames := 1, cells := 0, slots := 0, locals := 14 } : Room).slots) := by
  refine MetFree.of_bodySF (plainFor_of_name pn_1) hisR ?_
  intro p e s m args below meth c s₁ Bd hml0 hP hK
  obtain ⟨rfl, hZ, hh⟩ := hP
  have hx := Bd.exec
  have hby := Bd.bytes
  have hml : c.maxLocals = 3 := hml0
  have hown : s.vm.findClass "java/lang/String" = some m.cls := findClass_of_methodNamed Bd.named
  have hnm := (name_of_methodNamed Bd.named Bd.method).1
  have X0 : Stand p l e ({ frames := 1, cells := 0, slots := 0, locals := 14 } : Room) s m #[(.ref a1), (.ref a2)] below meth c s₁ [] 0 0 := Stand.of_body Bd
  have e0 : s₁.heap = h0 := by rw [← hh, Bd.state]; rfl
  have pre0 : ∀ t, Steps p.tables e below (s₁.setTop (mkF m 0 #[.val (.ref a1), .val (.ref a2), .unset] [])) t → Steps p.tables e below (s₁.setTop (entryFrame m #[(.ref a1), (.ref a2)] 3)) t := fun t k => castTop (ef_9_VALIDATE_GET m a1 a2) k
  obtain ⟨T1, X1, e1, st1⟩ := instY X0 hx hZ hown (hw _ (List.mem_of_getElem? (i := 61) rfl)) e0 (Ins.self E_a2) (g := (mkF m 8 #[vR a1, vR a2, .unset] [iR a2])) rfl rfl (hb hby d9_8)
  obtain ⟨T2, X2, e2, st2⟩ := castY X1 hx hZ hown (hw _ (List.mem_of_getElem? (i := 61) rfl)) e1 (Ins.self E_a2) (g := (mkF m 15 #[vR a1, vR a2, .unset] [iR a2])) rfl rfl (hb hby d9_15)
  obtain ⟨T3, X3, e3, st3⟩ := getS2 X2 hx hZ hown (host := "") (Or.inl (hw _ (List.mem_of_getElem? (i := 15) rfl))) Via.refl e2 (S_CS.ext O0.2) (g := (mkF m 19 #[vR a1, vR a2, vR a2] [])) rfl (hb hby d9_19)
  obtain ⟨T4, X4, e4, st4⟩ := getF X3 hx hZ hown (host := "") (Or.inl (hw _ (List.mem_of_getElem? (i := 27) rfl))) Via.refl e3 C_a1 (g := (mkF m 26 #[vR a1, vR a2, vR a2] [iR a1])) rfl rfl (hb hby d9_26)
  obtain ⟨T5, X5, e5, st5⟩ := getF X4 hx hZ hown (host := "") (Or.inl (hw _ (List.mem_of_getElem? (i := 27) rfl))) Via.refl e4 C_a2 (g := (mkF m 30 #[vR a1, vR a2, vR a2] [iR a2, iI 0])) rfl rfl (hb hby d9_30)
  obtain ⟨T6, X6, e6, st6⟩ := getF X5 hx hZ hown (host := "") (Or.inl (hw _ (List.mem_of_getElem? (i := 29) rfl))) Via.refl e5 W_a1 (g := (mkF m 37 #[vR a1, vR a2, vR a2] [iR a1])) rfl rfl (hb hby d9_37)
  obtain ⟨T7, X7, e7, st7⟩ := getF X6 hx hZ hown (host := "") (Or.inl (hw _ (List.mem_of_getElem? (i := 29) rfl))) Via.refl e6 W_a2 (g := (mkF m 41 #[vR a1, vR a2, vR a2] [iR a2, iR d1])) rfl rfl (hb hby d9_41)
  obtain ⟨_, _, ⟨T8, L8, k8, n8⟩, -, X8, ⟨Lc8, hQ8, l8, y8, z8⟩, st8⟩ := Jvm.LawKit.callS X7 hx (y := (⟨"java/lang/StringLatin1", "equals", "([B[B)Z"⟩ : MethodName)) hown (mvT hZ (hw _ (List.mem_of_getElem? (i := 62) rfl))) (mvT hZ (hw _ (List.mem_of_getElem? (i := 63) rfl))) (mvT hZ (hw _ (List.mem_of_getElem? (i := 64) rfl))) (mvT hZ (hw _ (List.mem_of_getElem? (i := 65) rfl))) (by decide) (backOf (W := 0) (rm10_VALIDATE_GET l Z a0 hw [] d1 d2 k1 k2 h0 V_1 V_2) hZ (hw _ (List.mem_of_getElem? (i := 65) rfl)) (hw _ (List.mem_of_getElem? (i := 64) rfl)) (by decide) (by decide)) (g := (mkF m 44 #[vR a1, vR a2, vR a2] [iR d2, iR d1])) rfl (by rw [hml]; rfl) (argsL := [(.ref d1), (.ref d2)]) (rest := []) (lenOf pd_4 rfl) rfl (by show 2 * 0 + _ ≤ _; exact Nat.le_of_eq rfl) (hb hby d9_44) (fun _ _ => ⟨rfl, e7, (by decide : 0 + 0 ≤ _), (by decide : 0 + 0 ≤ _)⟩)
  dsimp only [Pt.U, Pt.locs, Pt.cells, Pt.slots] at X8 l8 y8 z8 st8 hQ8
  subst l8 y8 z8
  obtain ⟨rfl, rfl, e8⟩ := hQ8
  try rw [List.append_nil] at X8
  obtain ⟨fs, hr, hrun, hended, hW, hsame⟩ := X8.leave (v := some (.int (0 : Int32))) (fun h => by rw [Bd.returns] at h; cases h)
  refine ⟨_, _, pre0 _ ?_, hrun, hended, _, _, rfl, ?_, ⟨_, rfl⟩, hW, hsame.mono (by decide) (by decide)⟩
  · show Steps _ _ _ (s₁.setTop (mkF m 0 #[vR a1, vR a2, .unset] [])) _
    refine XS.aloadN X0.here hx rfl (hb hby d9_0) rfl rfl ?_
    show Steps _ _ _ (s₁.setTop (mkF m 1 #[vR a1, vR a2, .unset] [iR a1])) _
    refine XS.aloadN X0.here hx rfl (hb hby d9_1) rfl rfl ?_
    show Steps _ _ _ (s₁.setTop (mkF m 2 #[vR a1, vR a2, .unset] [iR a2, iR a1])) _
    refine Jvm.RoadKit.acmp (g := (mkF m 2 #[vR a1, vR a2, .unset] [iR a2, iR a1])) X0 hx rfl rfl rfl (pc0 := 2) (pc' := 7) (same := false) rfl (hb hby d9_2) rfl (decide_eq_false fun q => ne_a1_a2 (Value.ref.inj q)) (by decide) (by decide) ?_
    show Steps _ _ _ (s₁.setTop (mkF m 7 #[vR a1, vR a2, .unset] [])) _
    refine XS.aloadN X0.here hx rfl (hb hby d9_7) rfl rfl ?_
    show Steps _ _ _ (s₁.setTop (mkF m 8 #[vR a1, vR a2, .unset] [iR a2])) _
    refine st1 _ ?_
    show Steps _ _ _ (T1.setTop (mkF m 11 #[vR a1, vR a2, .unset] [iI 1])) _
    refine XS.ifNo X1.here hx rfl (hb hby d9_11) rfl ((if0 _ _).trans (feq (by decide : ¬ ((1 : Int32) = (0 : Int32)))).1) ?_
    show Steps _ _ _ (T1.setTop (mkF m 14 #[vR a1, vR a2, .unset] [])) _
    refine XS.aloadN X1.here hx rfl (hb hby d9_14) rfl rfl ?_
    show Steps _ _ _ (T1.setTop (mkF m 15 #[vR a1, vR a2, .unset] [iR a2])) _
    refine st2 _ ?_
    show Steps _ _ _ (T2.setTop (mkF m 18 #[vR a1, vR a2, .unset] [iR a2])) _
    refine XS.astoreN X2.here hx rfl (hb hby d9_18) rfl rfl (l' := #[vR a1, vR a2, vR a2]) rfl ?_
    show Steps _ _ _ (T2.setTop (mkF m 19 #[vR a1, vR a2, vR a2] [])) _
    refine st3 _ ?_
    show Steps _ _ _ (T3.setTop (mkF m 22 #[vR a1, vR a2, vR a2] [iI cs])) _
    refine XS.ifNo X3.here hx rfl (hb hby d9_22) rfl ((if0 _ _).trans (feq h_cs).1) ?_
    show Steps _ _ _ (T3.setTop (mkF m 25 #[vR a1, vR a2, vR a2] [])) _
    refine XS.aloadN X3.here hx rfl (hb hby d9_25) rfl rfl ?_
    show Steps _ _ _ (T3.setTop (mkF m 26 #[vR a1, vR a2, vR a2] [iR a1])) _
    refine st4 _ ?_
    show Steps _ _ _ (T4.setTop (mkF m 29 #[vR a1, vR a2, vR a2] [iI 0])) _
    refine XS.aloadN X4.here hx rfl (hb hby d9_29) rfl rfl ?_
    show Steps _ _ _ (T4.setTop (mkF m 30 #[vR a1, vR a2, vR a2] [iR a2, iI 0])) _
    refine st5 _ ?_
    show Steps _ _ _ (T5.setTop (mkF m 33 #[vR a1, vR a2, vR a2] [iI 0, iI 0])) _
    refine XS.icmpNo X5.here hx rfl (hb hby d9_33) rfl (teq (by decide : (0 : Int32) = (0 : Int32))).2 ?_
    show Steps _ _ _ (T5.setTop (mkF m 36 #[vR a1, vR a2, vR a2] [])) _
    refine XS.aloadN X5.here hx rfl (hb hby d9_36) rfl rfl ?_
    show Steps _ _ _ (T5.setTop (mkF m 37 #[vR a1, vR a2, vR a2] [iR a1])) _
    refine st6 _ ?_
    show Steps _ _ _ (T6.setTop (mkF m 40 #[vR a1, vR a2, vR a2] [iR d1])) _
    refine XS.aloadN X6.here hx rfl (hb hby d9_40) rfl rfl ?_
    show Steps _ _ _ (T6.setTop (mkF m 41 #[vR a1, vR a2, vR a2] [iR a2, iR d1])) _
    refine st7 _ ?_
    show Steps _ _ _ (T7.setTop (mkF m 44 #[vR a1, vR a2, vR a2] [iR d2, iR d1])) _
    refine st8 _ ?_
    show Steps _ _ _ (T8.setTop (mkF m 47 #[vR a1, vR a2, vR a2] [iI 0])) _
    refine XS.ifYes X8.here hx rfl (pc0 := 47) (pc' := 54) rfl (hb hby d9_47) rfl ((if0 _ _).trans (teq (by decide : (0 : Int32) = (0 : Int32))).1) (by decide) (by decide) ?_
    show Steps _ _ _ (T8.setTop (mkF m 54 #[vR a1, vR a2, vR a2] [])) _
    refine XS.iconst X8.here hx rfl (hb hby d9_54) ?_
    show Steps _ _ _ (T8.setTop (mkF m 55 #[vR a1, vR a2, vR a2] [iI 0])) _
    exact retN X8 hx (t := .boolean) Bd.returns (by simp) (hb hby d9_55) hr
  · show Q9_VALIDATE_GET Z a1 a2 d1 d2 k1 k2 cs h0 _ T8.heap _
    rw [e8]
    exact ⟨rfl, rfl, rfl⟩
theorem ef_10_FORMAT_FORMAT (m : MethodId) (x0 : Addr) (x1 : Addr) : entryFrame m #[(.ref x0), (.ref x1)] 3 = mkF m 0 #[.val (.ref x0), .val (.ref x1), .unset] [] := by first | (simp [entryFrame, mkF, argsToLocals, Value.category]; done) | rfl
def Q10_FORMAT_FORMAT (Z : State) (a1 : Addr) (a2 : Addr) (k1 k2 : ClassId) (h0 : Heap) (v : Option Value) (h : Heap) (L : List Loc) : Prop := v = some (.int (1 : Int32)) ∧ L = [] ∧ h = h0
set_option maxRecDepth 65536 in
set_option maxHeartbeats 40000000 in
theorem rm10_FORMAT_FORMAT (l : Launch) (Z : State) (a0 : Array Value) (hw : ∀ d ∈ tables_1, d.before a0 Z = true) (ws : List Jvm.Cond) (a1 : Addr) (a2 : Addr) (k1 k2 : ClassId) (h0 : Heap) (V_1 : Arv Z h0 a1 k1 .byte (6 : Int32) [(.int (102 : Int32)), (.int (111 : Int32)), (.int (114 : Int32)), (.int (109 : Int32)), (.int (97 : Int32)), (.int (116 : Int32))] (.int (0 : Int32))) (V_2 : Arv Z h0 a2 k2 .byte (6 : Int32) [(.int (102 : Int32)), (.int (111 : Int32)), (.int (114 : Int32)), (.int (109 : Int32)), (.int (97 : Int32)), (.int (116 : Int32))] (.int (0 : Int32))) :
    MetFree l (⟨"java/lang/StringLatin1", "equals", "([B[B)Z"⟩ : MethodName) (head1 (Jvm.Cond.code (⟨"java/lang/StringLatin1", "equals", "([B[B)Z"⟩ : MethodName) jdk_43_method_13_code 3 (some .boolean) :: ws) ({ frames := 0, cells := 0, slots := 0, locals := 0 } : Room)) (fun a U => a = #[(.ref a1), (.ref a2)] ∧ Z.Warmed39 U.vm ∧ U.heap = h0) (fun _ _ _ _ _ => True) (fun _ U o U' => ∃ v L, o = .returned v ∧ Q10_FORMAT_FORMAT Z a1 a2 k1 k2 h0 v U'.heap L ∧ FrameEnd U o U' L ({ frames := 0, cells := 0, slots := 0, locals := 0 } : Room).cells ({ frames := 0, cells := 0, slots := 0, locals := 0 } : Room).slots) := by
  refine MetFree.of_bodySF (plainFor_of_name pn_2) hisR ?_
  intro p e s m args below meth c s₁ Bd hml0 hP hK
  obtain ⟨rfl, hZ, hh⟩ := hP
  have hx := Bd.exec
  have hby := Bd.bytes
  have hml : c.maxLocals = 3 := hml0
  have hown : s.vm.findClass "java/lang/StringLatin1" = some m.cls := findClass_of_methodNamed Bd.named
  have hnm := (name_of_methodNamed Bd.named Bd.method).1
  have X0 : Stand p l e ({ frames := 0, cells := 0, slots := 0, locals := 0 } : Room) s m #[(.ref a1), (.ref a2)] below meth c s₁ [] 0 0 := Stand.of_body Bd
  have e0 : s₁.heap = h0 := by rw [← hh, Bd.state]; rfl
  have pre0 : ∀ t, Steps p.tables e below (s₁.setTop (mkF m 0 #[.val (.ref a1), .val (.ref a2), .unset] [])) t → Steps p.tables e below (s₁.setTop (entryFrame m #[(.ref a1), (.ref a2)] 3)) t := fun t k => castTop (ef_10_FORMAT_FORMAT m a1 a2) k
  obtain ⟨cl1, Ar1, q1, S1, M1, H1, G1⟩ := id V_1
  obtain ⟨cl2, Ar2, q2, S2, M2, H2, G2⟩ := id V_2
  have hin3 : ¬ ((0 : Int32) < 0 ∨ cl1.slots.size ≤ ((0 : Int32)).toNatClampNeg) := inb_of S1 ⟨by decide, by decide⟩
  have hat4 : cl1.slots[((0 : Int32)).toNatClampNeg]? = some (.int (102 : Int32)) := Has.at H1 hin3 rfl
  have hin5 : ¬ ((0 : Int32) < 0 ∨ cl2.slots.size ≤ ((0 : Int32)).toNatClampNeg) := inb_of S2 ⟨by decide, by decide⟩
  have hat6 : cl2.slots[((0 : Int32)).toNatClampNeg]? = some (.int (102 : Int32)) := Has.at H2 hin5 rfl
  have hin7 : ¬ ((1 : Int32) < 0 ∨ cl1.slots.size ≤ ((1 : Int32)).toNatClampNeg) := inb_of S1 ⟨by decide, by decide⟩
  have hat8 : cl1.slots[((1 : Int32)).toNatClampNeg]? = some (.int (111 : Int32)) := Has.at H1 hin7 rfl
  have hin9 : ¬ ((1 : Int32) < 0 ∨ cl2.slots.size ≤ ((1 : Int32)).toNatClampNeg) := inb_of S2 ⟨by decide, by decide⟩
  have hat10 : cl2.slots[((1 : Int32)).toNatClampNeg]? = some (.int (111 : Int32)) := Has.at H2 hin9 rfl
  have hin11 : ¬ ((2 : Int32) < 0 ∨ cl1.slots.size ≤ ((2 : Int32)).toNatClampNeg) := inb_of S1 ⟨by decide, by decide⟩
  have hat12 : cl1.slots[((2 : Int32)).toNatClampNeg]? = some (.int (114 : Int32)) := Has.at H1 hin11 rfl
  have hin13 : ¬ ((2 : Int32) < 0 ∨ cl2.slots.size ≤ ((2 : Int32)).toNatClampNeg) := inb_of S2 ⟨by decide, by decide⟩
  have hat14 : cl2.slots[((2 : Int32)).toNatClampNeg]? = some (.int (114 : Int32)) := Has.at H2 hin13 rfl
  have hin15 : ¬ ((3 : Int32) < 0 ∨ cl1.slots.size ≤ ((3 : Int32)).toNatClampNeg) := inb_of S1 ⟨by decide, by decide⟩
  have hat16 : cl1.slots[((3 : Int32)).toNatClampNeg]? = some (.int (109 : Int32)) := Has.at H1 hin15 rfl
  have hin17 : ¬ ((3 : Int32) < 0 ∨ cl2.slots.size ≤ ((3 : Int32)).toNatClampNeg) := inb_of S2 ⟨by decide, by decide⟩
  have hat18 : cl2.slots[((3 : Int32)).toNatClampNeg]? = some (.int (109 : Int32)) := Has.at H2 hin17 rfl
  have hin19 : ¬ ((4 : Int32) < 0 ∨ cl1.slots.size ≤ ((4 : Int32)).toNatClampNeg) := inb_of S1 ⟨by decide, by decide⟩
  have hat20 : cl1.slots[((4 : Int32)).toNatClampNeg]? = some (.int (97 : Int32)) := Has.at H1 hin19 rfl
  have hin21 : ¬ ((4 : Int32) < 0 ∨ cl2.slots.size ≤ ((4 : Int32)).toNatClampNeg) := inb_of S2 ⟨by decide, by decide⟩
  have hat22 : cl2.slots[((4 : Int32)).toNatClampNeg]? = some (.int (97 : Int32)) := Has.at H2 hin21 rfl
  have hin23 : ¬ ((5 : Int32) < 0 ∨ cl1.slots.size ≤ ((5 : Int32)).toNatClampNeg) := inb_of S1 ⟨by decide, by decide⟩
  have hat24 : cl1.slots[((5 : Int32)).toNatClampNeg]? = some (.int (116 : Int32)) := Has.at H1 hin23 rfl
  have hin25 : ¬ ((5 : Int32) < 0 ∨ cl2.slots.size ≤ ((5 : Int32)).toNatClampNeg) := inb_of S2 ⟨by decide, by decide⟩
  have hat26 : cl2.slots[((5 : Int32)).toNatClampNeg]? = some (.int (116 : Int32)) := Has.at H2 hin25 rfl
  obtain ⟨fs, hr, hrun, hended, hW, hsame⟩ := X0.leave (v := some (.int (1 : Int32))) (fun h => by rw [Bd.returns] at h; cases h)
  refine ⟨_, _, pre0 _ ?_, hrun, hended, _, _, rfl, ?_, ⟨_, rfl⟩, hW, hsame.mono (by decide) (by decide)⟩
  · show Steps _ _ _ (s₁.setTop (mkF m 0 #[vR a1, vR a2, .unset] [])) _
    refine XS.aloadN X0.here hx rfl (hb hby d10_0) rfl rfl ?_
    show Steps _ _ _ (s₁.setTop (mkF m 1 #[vR a1, vR a2, .unset] [iR a1])) _
    refine X0.arraylength hx (by rw [e0]; exact Ar1.1) (State.isArrayOf_alike hZ.alike Ar1.2.1) (g := (mkF m 1 #[vR a1, vR a2, .unset] [iR a1])) rfl rfl (hb hby d10_1) _ ?_
    rw [len_of S1 M1]
    show Steps _ _ _ (s₁.setTop (mkF m 2 #[vR a1, vR a2, .unset] [iI 6])) _
    refine XS.aloadN X0.here hx rfl (hb hby d10_2) rfl rfl ?_
    show Steps _ _ _ (s₁.setTop (mkF m 3 #[vR a1, vR a2, .unset] [iR a2, iI 6])) _
    refine X0.arraylength hx (by rw [e0]; exact Ar2.1) (State.isArrayOf_alike hZ.alike Ar2.2.1) (g := (mkF m 3 #[vR a1, vR a2, .unset] [iR a2, iI 6])) rfl rfl (hb hby d10_3) _ ?_
    rw [len_of S2 M2]
    show Steps _ _ _ (s₁.setTop (mkF m 4 #[vR a1, vR a2, .unset] [iI 6, iI 6])) _
    refine XS.icmpNo X0.here hx rfl (hb hby d10_4) rfl (teq (by decide : (6 : Int32) = (6 : Int32))).2 ?_
    show Steps _ _ _ (s₁.setTop (mkF m 7 #[vR a1, vR a2, .unset] [])) _
    refine XS.iconst X0.here hx rfl (hb hby d10_7) ?_
    show Steps _ _ _ (s₁.setTop (mkF m 8 #[vR a1, vR a2, .unset] [iI 0])) _
    refine XS.istoreN X0.here hx rfl (hb hby d10_8) rfl (l' := #[vR a1, vR a2, vI 0]) rfl ?_
    show Steps _ _ _ (s₁.setTop (mkF m 9 #[vR a1, vR a2, vI 0] [])) _
    refine XS.iloadN X0.here hx rfl (hb hby d10_9) rfl ?_
    show Steps _ _ _ (s₁.setTop (mkF m 10 #[vR a1, vR a2, vI 0] [iI 0])) _
    refine XS.aloadN X0.here hx rfl (hb hby d10_10) rfl rfl ?_
    show Steps _ _ _ (s₁.setTop (mkF m 11 #[vR a1, vR a2, vI 0] [iR a1, iI 0])) _
    refine X0.arraylength hx (by rw [e0]; exact Ar1.1) (State.isArrayOf_alike hZ.alike Ar1.2.1) (g := (mkF m 11 #[vR a1, vR a2, vI 0] [iR a1, iI 0])) rfl rfl (hb hby d10_11) _ ?_
    rw [len_of S1 M1]
    show Steps _ _ _ (s₁.setTop (mkF m 12 #[vR a1, vR a2, vI 0] [iI 6, iI 0])) _
    refine XS.icmpNo X0.here hx rfl (hb hby d10_12) rfl (tlt (by decide : (0 : Int32) < (6 : Int32))).2.1 ?_
    show Steps _ _ _ (s₁.setTop (mkF m 15 #[vR a1, vR a2, vI 0] [])) _
    refine XS.aloadN X0.here hx rfl (hb hby d10_15) rfl rfl ?_
    show Steps _ _ _ (s₁.setTop (mkF m 16 #[vR a1, vR a2, vI 0] [iR a1])) _
    refine XS.iloadN X0.here hx rfl (hb hby d10_16) rfl ?_
    show Steps _ _ _ (s₁.setTop (mkF m 17 #[vR a1, vR a2, vI 0] [iI 0, iR a1])) _
    refine X0.baloadBytes hx (j := (0 : Int32)) (v := (.int (102 : Int32))) (by rw [e0]; exact Ar1.1) (State.isArrayOf_alike hZ.alike Ar1.2.1) Ar1.2.2 hin3 hat4 (g := (mkF m 17 #[vR a1, vR a2, vI 0] [iI 0, iR a1])) rfl rfl (hb hby d10_17) _ ?_
    show Steps _ _ _ (s₁.setTop (mkF m 18 #[vR a1, vR a2, vI 0] [iI 102])) _
    refine XS.aloadN X0.here hx rfl (hb hby d10_18) rfl rfl ?_
    show Steps _ _ _ (s₁.setTop (mkF m 19 #[vR a1, vR a2, vI 0] [iR a2, iI 102])) _
    refine XS.iloadN X0.here hx rfl (hb hby d10_19) rfl ?_
    show Steps _ _ _ (s₁.setTop (mkF m 20 #[vR a1, vR a2, vI 0] [iI 0, iR a2, iI 102])) _
    refine X0.baloadBytes hx (j := (0 : Int32)) (v := (.int (102 : Int32))) (by rw [e0]; exact Ar2.1) (State.isArrayOf_alike hZ.alike Ar2.2.1) Ar2.2.2 hin5 hat6 (g := (mkF m 20 #[vR a1, vR a2, vI 0] [iI 0, iR a2, iI 102])) rfl rfl (hb hby d10_20) _ ?_
    show Steps _ _ _ (s₁.setTop (mkF m 21 #[vR a1, vR a2, vI 0] [iI 102, iI 102])) _
    refine XS.icmpYes X0.here hx rfl (pc0 := 21) (pc' := 26) rfl (hb hby d10_21) rfl (teq (by decide : (102 : Int32) = (102 : Int32))).1 (by decide) (by decide) ?_
    show Steps _ _ _ (s₁.setTop (mkF m 26 #[vR a1, vR a2, vI 0] [])) _
    refine XS.iinc X0.here hx rfl (hb hby d10_26) rfl (l' := #[vR a1, vR a2, vI ((0 : Int32) + (1 : Int32))]) rfl ?_
    rw [(by decide : ((0 : Int32) + (1 : Int32)) = (1 : Int32))]
    show Steps _ _ _ (s₁.setTop (mkF m 29 #[vR a1, vR a2, vI 1] [])) _
    refine XS.goto X0.here hx rfl (pc0 := 29) (pc' := 9) rfl (hb hby d10_29) (by decide) (by decide) ?_
    show Steps _ _ _ (s₁.setTop (mkF m 9 #[vR a1, vR a2, vI 1] [])) _
    refine XS.iloadN X0.here hx rfl (hb hby d10_9) rfl ?_
    show Steps _ _ _ (s₁.setTop (mkF m 10 #[vR a1, vR a2, vI 1] [iI 1])) _
    refine XS.aloadN X0.here hx rfl (hb hby d10_10) rfl rfl ?_
    show Steps _ _ _ (s₁.setTop (mkF m 11 #[vR a1, vR a2, vI 1] [iR a1, iI 1])) _
    refine X0.arraylength hx (by rw [e0]; exact Ar1.1) (State.isArrayOf_alike hZ.alike Ar1.2.1) (g := (mkF m 11 #[vR a1, vR a2, vI 1] [iR a1, iI 1])) rfl rfl (hb hby d10_11) _ ?_
    rw [len_of S1 M1]
    show Steps _ _ _ (s₁.setTop (mkF m 12 #[vR a1, vR a2, vI 1] [iI 6, iI 1])) _
    refine XS.icmpNo X0.here hx rfl (hb hby d10_12) rfl (tlt (by decide : (1 : Int32) < (6 : Int32))).2.1 ?_
    show Steps _ _ _ (s₁.setTop (mkF m 15 #[vR a1, vR a2, vI 1] [])) _
    refine XS.aloadN X0.here hx rfl (hb hby d10_15) rfl rfl ?_
    show Steps _ _ _ (s₁.setTop (mkF m 16 #[vR a1, vR a2, vI 1] [iR a1])) _
    refine XS.iloadN X0.here hx rfl (hb hby d10_16) rfl ?_
    show Steps _ _ _ (s₁.setTop (mkF m 17 #[vR a1, vR a2, vI 1] [iI 1, iR a1])) _
    refine X0.baloadBytes hx (j := (1 : Int32)) (v := (.int (111 : Int32))) (by rw [e0]; exact Ar1.1) (State.isArrayOf_alike hZ.alike Ar1.2.1) Ar1.2.2 hin7 hat8 (g := (mkF m 17 #[vR a1, vR a2, vI 1] [iI 1, iR a1])) rfl rfl (hb hby d10_17) _ ?_
    show Steps _ _ _ (s₁.setTop (mkF m 18 #[vR a1, vR a2, vI 1] [iI 111])) _
    refine XS.aloadN X0.here hx rfl (hb hby d10_18) rfl rfl ?_
    show Steps _ _ _ (s₁.setTop (mkF m 19 #[vR a1, vR a2, vI 1] [iR a2, iI 111])) _
    refine XS.iloadN X0.here hx rfl (hb hby d10_19) rfl ?_
    show Steps _ _ _ (s₁.setTop (mkF m 20 #[vR a1, vR a2, vI 1] [iI 1, iR a2, iI 111])) _
    refine X0.baloadBytes hx (j := (1 : Int32)) (v := (.int (111 : Int32))) (by rw [e0]; exact Ar2.1) (State.isArrayOf_alike hZ.alike Ar2.2.1) Ar2.2.2 hin9 hat10 (g := (mkF m 20 #[vR a1, vR a2, vI 1] [iI 1, iR a2, iI 111])) rfl rfl (hb hby d10_20) _ ?_
    show Steps _ _ _ (s₁.setTop (mkF m 21 #[vR a1, vR a2, vI 1] [iI 111, iI 111])) _
    refine XS.icmpYes X0.here hx rfl (pc0 := 21) (pc' := 26) rfl (hb hby d10_21) rfl (teq (by decide : (111 : Int32) = (111 : Int32))).1 (by decide) (by decide) ?_
    show Steps _ _ _ (s₁.setTop (mkF m 26 #[vR a1, vR a2, vI 1] [])) _
    refine XS.iinc X0.here hx rfl (hb hby d10_26) rfl (l' := #[vR a1, vR a2, vI ((1 : Int32) + (1 : Int32))]) rfl ?_
    rw [(by decide : ((1 : Int32) + (1 : Int32)) = (2 : Int32))]
    show Steps _ _ _ (s₁.setTop (mkF m 29 #[vR a1, vR a2, vI 2] [])) _
    refine XS.goto X0.here hx rfl (pc0 := 29) (pc' := 9) rfl (hb hby d10_29) (by decide) (by decide) ?_
    show Steps _ _ _ (s₁.setTop (mkF m 9 #[vR a1, vR a2, vI 2] [])) _
    refine XS.iloadN X0.here hx rfl (hb hby d10_9) rfl ?_
    show Steps _ _ _ (s₁.setTop (mkF m 10 #[vR a1, vR a2, vI 2] [iI 2])) _
    refine XS.aloadN X0.here hx rfl (hb hby d10_10) rfl rfl ?_
    show Steps _ _ _ (s₁.setTop (mkF m 11 #[vR a1, vR a2, vI 2] [iR a1, iI 2])) _
    refine X0.arraylength hx (by rw [e0]; exact Ar1.1) (State.isArrayOf_alike hZ.alike Ar1.2.1) (g := (mkF m 11 #[vR a1, vR a2, vI 2] [iR a1, iI 2])) rfl rfl (hb hby d10_11) _ ?_
    rw [len_of S1 M1]
    show Steps _ _ _ (s₁.setTop (mkF m 12 #[vR a1, vR a2, vI 2] [iI 6, iI 2])) _
    refine XS.icmpNo X0.here hx rfl (hb hby d10_12) rfl (tlt (by decide : (2 : Int32) < (6 : Int32))).2.1 ?_
    show Steps _ _ _ (s₁.setTop (mkF m 15 #[vR a1, vR a2, vI 2] [])) _
    refine XS.aloadN X0.here hx rfl (hb hby d10_15) rfl rfl ?_
    show Steps _ _ _ (s₁.setTop (mkF m 16 #[vR a1, vR a2, vI 2] [iR a1])) _
    refine XS.iloadN X0.here hx rfl (hb hby d10_16) rfl ?_
    show Steps _ _ _ (s₁.setTop (mkF m 17 #[vR a1, vR a2, vI 2] [iI 2, iR a1])) _
    refine X0.baloadBytes hx (j := (2 : Int32)) (v := (.int (114 : Int32))) (by rw [e0]; exact Ar1.1) (State.isArrayOf_alike hZ.alike Ar1.2.1) Ar1.2.2 hin11 hat12 (g := (mkF m 17 #[vR a1, vR a2, vI 2] [iI 2, iR a1])) rfl rfl (hb hby d10_17) _ ?_
    show Steps _ _ _ (s₁.setTop (mkF m 18 #[vR a1, vR a2, vI 2] [iI 114])) _
    refine XS.aloadN X0.here hx rfl (hb hby d10_18) rfl rfl ?_
    show Steps _ _ _ (s₁.setTop (mkF m 19 #[vR a1, vR a2, vI 2] [iR a2, iI 114])) _
    refine XS.iloadN X0.here hx rfl (hb hby d10_19) rfl ?_
    show Steps _ _ _ (s₁.setTop (mkF m 20 #[vR a1, vR a2, vI 2] [iI 2, iR a2, iI 114])) _
    refine X0.baloadBytes hx (j := (2 : Int32)) (v := (.int (114 : Int32))) (by rw [e0]; exact Ar2.1) (State.isArrayOf_alike hZ.alike Ar2.2.1) Ar2.2.2 hin13 hat14 (g := (mkF m 20 #[vR a1, vR a2, vI 2] [iI 2, iR a2, iI 114])) rfl rfl (hb hby d10_20) _ ?_
    show Steps _ _ _ (s₁.setTop (mkF m 21 #[vR a1, vR a2, vI 2] [iI 114, iI 114])) _
    refine XS.icmpYes X0.here hx rfl (pc0 := 21) (pc' := 26) rfl (hb hby d10_21) rfl (teq (by decide : (114 : Int32) = (114 : Int32))).1 (by decide) (by decide) ?_
    show Steps _ _ _ (s₁.setTop (mkF m 26 #[vR a1, vR a2, vI 2] [])) _
    refine XS.iinc X0.here hx rfl (hb hby d10_26) rfl (l' := #[vR a1, vR a2, vI ((2 : Int32) + (1 : Int32))]) rfl ?_
    rw [(by decide : ((2 : Int32) + (1 : Int32)) = (3 : Int32))]
    show Steps _ _ _ (s₁.setTop (mkF m 29 #[vR a1, vR a2, vI 3] [])) _
    refine XS.goto X0.here hx rfl (pc0 := 29) (pc' := 9) rfl (hb hby d10_29) (by decide) (by decide) ?_
    show Steps _ _ _ (s₁.setTop (mkF m 9 #[vR a1, vR a2, vI 3] [])) _
    refine XS.iloadN X0.here hx rfl (hb hby d10_9) rfl ?_
    show Steps _ _ _ (s₁.setTop (mkF m 10 #[vR a1, vR a2, vI 3] [iI 3])) _
    refine XS.aloadN X0.here hx rfl (hb hby d10_10) rfl rfl ?_
    show Steps _ _ _ (s₁.setTop (mkF m 11 #[vR a1, vR a2, vI 3] [iR a1, iI 3])) _
    refine X0.arraylength hx (by rw [e0]; exact Ar1.1) (State.isArrayOf_alike hZ.alike Ar1.2.1) (g := (mkF m 11 #[vR a1, vR a2, vI 3] [iR a1, iI 3])) rfl rfl (hb hby d10_11) _ ?_
    rw [len_of S1 M1]
    show Steps _ _ _ (s₁.setTop (mkF m 12 #[vR a1, vR a2, vI 3] [iI 6, iI 3])) _
    refine XS.icmpNo X0.here hx rfl (hb hby d10_12) rfl (tlt (by decide : (3 : Int32) < (6 : Int32))).2.1 ?_
    show Steps _ _ _ (s₁.setTop (mkF m 15 #[vR a1, vR a2, vI 3] [])) _
    refine XS.aloadN X0.here hx rfl (hb hby d10_15) rfl rfl ?_
    show Steps _ _ _ (s₁.setTop (mkF m 16 #[vR a1, vR a2, vI 3] [iR a1])) _
    refine XS.iloadN X0.here hx rfl (hb hby d10_16) rfl ?_
    show Steps _ _ _ (s₁.setTop (mkF m 17 #[vR a1, vR a2, vI 3] [iI 3, iR a1])) _
    refine X0.baloadBytes hx (j := (3 : Int32)) (v := (.int (109 : Int32))) (by rw [e0]; exact Ar1.1) (State.isArrayOf_alike hZ.alike Ar1.2.1) Ar1.2.2 hin15 hat16 (g := (mkF m 17 #[vR a1, vR a2, vI 3] [iI 3, iR a1])) rfl rfl (hb hby d10_17) _ ?_
    show Steps _ _ _ (s₁.setTop (mkF m 18 #[vR a1, vR a2, vI 3] [iI 109])) _
    refine XS.aloadN X0.here hx rfl (hb hby d10_18) rfl rfl ?_
    show Steps _ _ _ (s₁.setTop (mkF m 19 #[vR a1, vR a2, vI 3] [iR a2, iI 109])) _
    refine XS.iloadN X0.here hx rfl (hb hby d10_19) rfl ?_
    show Steps _ _ _ (s₁.setTop (mkF m 20 #[vR a1, vR a2, vI 3] [iI 3, iR a2, iI 109])) _
    refine X0.baloadBytes hx (j := (3 : Int32)) (v := (.int (109 : Int32))) (by rw [e0]; exact Ar2.1) (State.isArrayOf_alike hZ.alike Ar2.2.1) Ar2.2.2 hin17 hat18 (g := (mkF m 20 #[vR a1, vR a2, vI 3] [iI 3, iR a2, iI 109])) rfl rfl (hb hby d10_20) _ ?_
    show Steps _ _ _ (s₁.setTop (mkF m 21 #[vR a1, vR a2, vI 3] [iI 109, iI 109])) _
    refine XS.icmpYes X0.here hx rfl (pc0 := 21) (pc' := 26) rfl (hb hby d10_21) rfl (teq (by decide : (109 : Int32) = (109 : Int32))).1 (by decide) (by decide) ?_
    show Steps _ _ _ (s₁.setTop (mkF m 26 #[vR a1, vR a2, vI 3] [])) _
    refine XS.iinc X0.here hx rfl (hb hby d10_26) rfl (l' := #[vR a1, vR a2, vI ((3 : Int32) + (1 : Int32))]) rfl ?_
    rw [(by decide : ((3 : Int32) + (1 : Int32)) = (4 : Int32))]
    show Steps _ _ _ (s₁.setTop (mkF m 29 #[vR a1, vR a2, vI 4] [])) _
    refine XS.goto X0.here hx rfl (pc0 := 29) (pc' := 9) rfl (hb hby d10_29) (by decide) (by decide) ?_
    show Steps _ _ _ (s₁.setTop (mkF m 9 #[vR a1, vR a2, vI 4] [])) _
    refine XS.iloadN X0.here hx rfl (hb hby d10_9) rfl ?_
    show Steps _ _ _ (s₁.setTop (mkF m 10 #[vR a1, vR a2, vI 4] [iI 4])) _
    refine XS.aloadN X0.here hx rfl (hb hby d10_10) rfl rfl ?_
    show Steps _ _ _ (s₁.setTop (mkF m 11 #[vR a1, vR a2, vI 4] [iR a1, iI 4])) _
    refine X0.arraylength hx (by rw [e0]; exact Ar1.1) (State.isArrayOf_alike hZ.alike Ar1.2.1) (g := (mkF m 11 #[vR a1, vR a2, vI 4] [iR a1, iI 4])) rfl rfl (hb hby d10_11) _ ?_
    rw [len_of S1 M1]
    show Steps _ _ _ (s₁.setTop (mkF m 12 #[vR a1, vR a2, vI 4] [iI 6, iI 4])) _
    refine XS.icmpNo X0.here hx rfl (hb hby d10_12) rfl (tlt (by decide : (4 : Int32) < (6 : Int32))).2.1 ?_
    show Steps _ _ _ (s₁.setTop (mkF m 15 #[vR a1, vR a2, vI 4] [])) _
    refine XS.aloadN X0.here hx rfl (hb hby d10_15) rfl rfl ?_
    show Steps _ _ _ (s₁.setTop (mkF m 16 #[vR a1, vR a2, vI 4] [iR a1])) _
    refine XS.iloadN X0.here hx rfl (hb hby d10_16) rfl ?_
    show Steps _ _ _ (s₁.setTop (mkF m 17 #[vR a1, vR a2, vI 4] [iI 4, iR a1])) _
    refine X0.baloadBytes hx (j := (4 : Int32)) (v := (.int (97 : Int32))) (by rw [e0]; exact Ar1.1) (State.isArrayOf_alike hZ.alike Ar1.2.1) Ar1.2.2 hin19 hat20 (g := (mkF m 17 #[vR a1, vR a2, vI 4] [iI 4, iR a1])) rfl rfl (hb hby d10_17) _ ?_
    show Steps _ _ _ (s₁.setTop (mkF m 18 #[vR a1, vR a2, vI 4] [iI 97])) _
    refine XS.aloadN X0.here hx rfl (hb hby d10_18) rfl rfl ?_
    show Steps _ _ _ (s₁.setTop (mkF m 19 #[vR a1, vR a2, vI 4] [iR a2, iI 97])) _
    refine XS.iloadN X0.here hx rfl (hb hby d10_19) rfl ?_
    show Steps _ _ _ (s₁.setTop (mkF m 20 #[vR a1, vR a2, vI 4] [iI 4, iR a2, iI 97])) _
    refine X0.baloadBytes hx (j := (4 : Int32)) (v := (.int (97 : Int32))) (by rw [e0]; exact Ar2.1) (State.isArrayOf_alike hZ.alike Ar2.2.1) Ar2.2.2 hin21 hat22 (g := (mkF m 20 #[vR a1, vR a2, vI 4] [iI 4, iR a2, iI 97])) rfl rfl (hb hby d10_20) _ ?_
    show Steps _ _ _ (s₁.setTop (mkF m 21 #[vR a1, vR a2, vI 4] [iI 97, iI 97])) _
    refine XS.icmpYes X0.here hx rfl (pc0 := 21) (pc' := 26) rfl (hb hby d10_21) rfl (teq (by decide : (97 : Int32) = (97 : Int32))).1 (by decide) (by decide) ?_
    show Steps _ _ _ (s₁.setTop (mkF m 26 #[vR a1, vR a2, vI 4] [])) _
    refine XS.iinc X0.here hx rfl (hb hby d10_26) rfl (l' := #[vR a1, vR a2, vI ((4 : Int32) + (1 : Int32))]) rfl ?_
    rw [(by decide : ((4 : Int32) + (1 : Int32)) = (5 : Int32))]
    show Steps _ _ _ (s₁.setTop (mkF m 29 #[vR a1, vR a2, vI 5] [])) _
    refine XS.goto X0.here hx rfl (pc0 := 29) (pc' := 9) rfl (hb hby d10_29) (by decide) (by decide) ?_
    show Steps _ _ _ (s₁.setTop (mkF m 9 #[vR a1, vR a2, vI 5] [])) _
    refine XS.iloadN X0.here hx rfl (hb hby d10_9) rfl ?_
    show Steps _ _ _ (s₁.setTop (mkF m 10 #[vR a1, vR a2, vI 5] [iI 5])) _
    refine XS.aloadN X0.here hx rfl (hb hby d10_10) rfl rfl ?_
    show Steps _ _ _ (s₁.setTop (mkF m 11 #[vR a1, vR a2, vI 5] [iR a1, iI 5])) _
    refine X0.arraylength hx (by rw [e0]; exact Ar1.1) (State.isArrayOf_alike hZ.alike Ar1.2.1) (g := (mkF m 11 #[vR a1, vR a2, vI 5] [iR a1, iI 5])) rfl rfl (hb hby d10_11) _ ?_
    rw [len_of S1 M1]
    show Steps _ _ _ (s₁.setTop (mkF m 12 #[vR a1, vR a2, vI 5] [iI 6, iI 5])) _
    refine XS.icmpNo X0.here hx rfl (hb hby d10_12) rfl (tlt (by decide : (5 : Int32) < (6 : Int32))).2.1 ?_
    show Steps _ _ _ (s₁.setTop (mkF m 15 #[vR a1, vR a2, vI 5] [])) _
    refine XS.aloadN X0.here hx rfl (hb hby d10_15) rfl rfl ?_
    show Steps _ _ _ (s₁.setTop (mkF m 16 #[vR a1, vR a2, vI 5] [iR a1])) _
    refine XS.iloadN X0.here hx rfl (hb hby d10_16) rfl ?_
    show Steps _ _ _ (s₁.setTop (mkF m 17 #[vR a1, vR a2, vI 5] [iI 5, iR a1])) _
    refine X0.baloadBytes hx (j := (5 : Int32)) (v := (.int (116 : Int32))) (by rw [e0]; exact Ar1.1) (State.isArrayOf_alike hZ.alike Ar1.2.1) Ar1.2.2 hin23 hat24 (g := (mkF m 17 #[vR a1, vR a2, vI 5] [iI 5, iR a1])) rfl rfl (hb hby d10_17) _ ?_
    show Steps _ _ _ (s₁.setTop (mkF m 18 #[vR a1, vR a2, vI 5] [iI 116])) _
    refine XS.aloadN X0.here hx rfl (hb hby d10_18) rfl rfl ?_
    show Steps _ _ _ (s₁.setTop (mkF m 19 #[vR a1, vR a2, vI 5] [iR a2, iI 116])) _
    refine XS.iloadN X0.here hx rfl (hb hby d10_19) rfl ?_
    show Steps _ _ _ (s₁.setTop (mkF m 20 #[vR a1, vR a2, vI 5] [iI 5, iR a2, iI 116])) _
    refine X0.baloadBytes hx (j := (5 : Int32)) (v := (.int (116 : Int32))) (by rw [e0]; exact Ar2.1) (State.isArrayOf_alike hZ.alike Ar2.2.1) Ar2.2.2 hin25 hat26 (g := (mkF m 20 #[vR a1, vR a2, vI 5] [iI 5, iR a2, iI 116])) rfl rfl (hb hby d10_20) _ ?_
    show Steps _ _ _ (s₁.setTop (mkF m 21 #[vR a1, vR a2, vI 5] [iI 116, iI 116])) _
    refine XS.icmpYes X0.here hx rfl (pc0 := 21) (pc' := 26) rfl (hb hby d10_21) rfl (teq (by decide : (116 : Int32) = (116 : Int32))).1 (by decide) (by decide) ?_
    show Steps _ _ _ (s₁.setTop (mkF m 26 #[vR a1, vR a2, vI 5] [])) _
    refine XS.iinc X0.here hx rfl (hb hby d10_26) rfl (l' := #[vR a1, vR a2, vI ((5 : Int32) + (1 : Int32))]) rfl ?_
    rw [(by decide : ((5 : Int32) + (1 : Int32)) = (6 : Int32))]
    show Steps _ _ _ (s₁.setTop (mkF m 29 #[vR a1, vR a2, vI 6] [])) _
    refine XS.goto X0.here hx rfl (pc0 := 29) (pc' := 9) rfl (hb hby d10_29) (by decide) (by decide) ?_
    show Steps _ _ _ (s₁.setTop (mkF m 9 #[vR a1, vR a2, vI 6] [])) _
    refine XS.iloadN X0.here hx rfl (hb hby d10_9) rfl ?_
    show Steps _ _ _ (s₁.setTop (mkF m 10 #[vR a1, vR a2, vI 6] [iI 6])) _
    refine XS.aloadN X0.here hx rfl (hb hby d10_10) rfl rfl ?_
    show Steps _ _ _ (s₁.setTop (mkF m 11 #[vR a1, vR a2, vI 6] [iR a1, iI 6])) _
    refine X0.arraylength hx (by rw [e0]; exact Ar1.1) (State.isArrayOf_alike hZ.alike Ar1.2.1) (g := (mkF m 11 #[vR a1, vR a2, vI 6] [iR a1, iI 6])) rfl rfl (hb hby d10_11) _ ?_
    rw [len_of S1 M1]
    show Steps _ _ _ (s₁.setTop (mkF m 12 #[vR a1, vR a2, vI 6] [iI 6, iI 6])) _
    refine XS.icmpYes X0.here hx rfl (pc0 := 12) (pc' := 32) rfl (hb hby d10_12) rfl (flt (by decide : ¬ ((6 : Int32) < (6 : Int32)))).2.1 (by decide) (by decide) ?_
    show Steps _ _ _ (s₁.setTop (mkF m 32 #[vR a1, vR a2, vI 6] [])) _
    refine XS.iconst X0.here hx rfl (hb hby d10_32) ?_
    show Steps _ _ _ (s₁.setTop (mkF m 33 #[vR a1, vR a2, vI 6] [iI 1])) _
    exact retN X0 hx (t := .boolean) Bd.returns (by simp) (hb hby d10_33) hr
  · show Q10_FORMAT_FORMAT Z a1 a2 k1 k2 h0 _ s₁.heap _
    rw [e0]
    exact ⟨rfl, rfl, rfl⟩
theorem ef_9_FORMAT_FORMAT (m : MethodId) (x0 : Addr) (x1 : Addr) : entryFrame m #[(.ref x0), (.ref x1)] 3 = mkF m 0 #[.val (.ref x0), .val (.ref x1), .unset] [] := by first | (simp [entryFrame, mkF, argsToLocals, Value.category]; done) | rfl
def Q9_FORMAT_FORMAT (Z : State) (a1 : Addr) (a2 : Addr) (d1 d2 : Addr) (k1 k2 : ClassId) (cs : Int32) (h0 : Heap) (v : Option Value) (h : Heap) (L : List Loc) : Prop := v = some (.int (1 : Int32)) ∧ L = [] ∧ h = h0
set_option maxRecDepth 65536 in
set_option maxHeartbeats 40000000 in
theorem rm9_FORMAT_FORMAT (l : Launch) (Z : State) (a0 : Array Value) (hw : ∀ d ∈ tables_1, d.before a0 Z = true) (ws : List Jvm.Cond) (a1 : Addr) (a2 : Addr) (d1 d2 : Addr) (k1 k2 : ClassId) (cs : Int32) (h0 : Heap) (n0 : Nat) (O0 : Old Z n0 h0) (E_a1 : Exa Z h0 a1 "java/lang/String") (C_a1 : Fld Z h0 a1 "java/lang/String" "coder" "B" (.int (0 : Int32))) (W_a1 : Fld Z h0 a1 "java/lang/String" "value" "[B" (.ref d1)) (V_1 : Arv Z h0 d1 k1 .byte (6 : Int32) [(.int (102 : Int32)), (.int (111 : Int32)), (.int (114 : Int32)), (.int (109 : Int32)), (.int (97 : Int32)), (.int (116 : Int32))] (.int (0 : Int32))) (E_a2 : Exa Z h0 a2 "java/lang/String") (C_a2 : Fld Z h0 a2 "java/lang/String" "coder" "B" (.int (0 : Int32))) (W_a2 : Fld Z h0 a2 "java/lang/String" "value" "[B" (.ref d2)) (V_2 : Arv Z h0 d2 k2 .byte (6 : Int32) [(.int (102 : Int32)), (.int (111 : Int32)), (.int (114 : Int32)), (.int (109 : Int32)), (.int (97 : Int32)), (.int (116 : Int32))] (.int (0 : Int32))) (ne_a1_a2 : a1 ≠ a2) (S_CS : Sta Z Z.heap "java/lang/String" "COMPACT_STRINGS" "Z" (.int cs)) (h_cs : ¬ cs = (0 : Int32)) :
    MetFree l (⟨"java/lang/String", "equals", "(Ljava/lang/Object;)Z"⟩ : MethodName) (head1 (Jvm.Cond.code (⟨"java/lang/String", "equals", "(Ljava/lang/Object;)Z"⟩ : MethodName) jdk_42_method_66_code 3 (some .boolean) :: ws) ({ frames := 1, cells := 0, slots := 0, locals := 14 } : Room)) (fun a U => a = #[(.ref a1), (.ref a2)] ∧ Z.Warmed39 U.vm ∧ U.heap = h0) (fun _ _ _ _ _ => True) (fun _ U o U' => ∃ v L, o = .returned v ∧ Q9_FORMAT_FORMAT Z a1 a2 d1 d2 k1 k2 cs h0 v U'.heap L ∧ FrameEnd U o U' L ({ frames := 1, cells := 0, slots := 0, locals := 14 } : Room).cells ({ frames := 1, cells := 0, slots := 0, locals := 14 } : Room).slots) := by
  refine MetFree.of_bodySF (plainFor_of_name pn_1) hisR ?_
  intro p e s m args below meth c s₁ Bd hml0 hP hK
  obtain ⟨rfl, hZ, hh⟩ := hP
  have hx := Bd.exec
  have hby := Bd.bytes
  have hml : c.maxLocals = 3 := hml0
  have hown : s.vm.findClass "java/lang/String" = some m.cls := findClass_of_methodNamed Bd.named
  have hnm := (name_of_methodNamed Bd.named Bd.method).1
  have X0 : Stand p l e ({ frames := 1, cells := 0, slots := 0, locals := 14 } : Room) s m #[(.ref a1), (.ref a2)] below meth c s₁ [] 0 0 := Stand.of_body Bd
  have e0 : s₁.heap = h0 := by rw [← hh, Bd.state]; rfl
  have pre0 : ∀ t, Steps p.tables e below (s₁.setTop (mkF m 0 #[.val (.ref a1), .val (.ref a2), .unset] [])) t → Steps p.tables e below (s₁.setTop (entryFrame m #[(.ref a1), (.ref a2)] 3)) t := fun t k => castTop (ef_9_FORMAT_FORMAT m a1 a2) k
  obtain ⟨T1, X1, e1, st1⟩ := instY X0 hx hZ hown (hw _ (List.mem_of_getElem? (i := 61) rfl)) e0 (Ins.self E_a2) (g := (mkF m 8 #[vR a1, vR a2, .unset] [iR a2])) rfl rfl (hb hby d9_8)
  obtain ⟨T2, X2, e2, st2⟩ := castY X1 hx hZ hown (hw _ (List.mem_of_getElem? (i := 61) rfl)) e1 (Ins.self E_a2) (g := (mkF m 15 #[vR a1, vR a2, .unset] [iR a2])) rfl rfl (hb hby d9_15)
  obtain ⟨T3, X3, e3, st3⟩ := getS2 X2 hx hZ hown (host := "") (Or.inl (hw _ (List.mem_of_getElem? (i := 15) rfl))) Via.refl e2 (S_CS.ext O0.2) (g := (mkF m 19 #[vR a1, vR a2, vR a2] [])) rfl (hb hby d9_19)
  obtain ⟨T4, X4, e4, st4⟩ := getF X3 hx hZ hown (host := "") (Or.inl (hw _ (List.mem_of_getElem? (i := 27) rfl))) Via.refl e3 C_a1 (g := (mkF m 26 #[vR a1, vR a2, vR a2] [iR a1])) rfl rfl (hb hby d9_26)
  obtain ⟨T5, X5, e5, st5⟩ := getF X4 hx hZ hown (host := "") (Or.inl (hw _ (List.mem_of_getElem? (i := 27) rfl))) Via.refl e4 C_a2 (g := (mkF m 30 #[vR a1, vR a2, vR a2] [iR a2, iI 0])) rfl rfl (hb hby d9_30)
  obtain ⟨T6, X6, e6, st6⟩ := getF X5 hx hZ hown (host := "") (Or.inl (hw _ (List.mem_of_getElem? (i := 29) rfl))) Via.refl e5 W_a1 (g := (mkF m 37 #[vR a1, vR a2, vR a2] [iR a1])) rfl rfl (hb hby d9_37)
  obtain ⟨T7, X7, e7, st7⟩ := getF X6 hx hZ hown (host := "") (Or.inl (hw _ (List.mem_of_getElem? (i := 29) rfl))) Via.refl e6 W_a2 (g := (mkF m 41 #[vR a1, vR a2, vR a2] [iR a2, iR d1])) rfl rfl (hb hby d9_41)
  obtain ⟨_, _, ⟨T8, L8, k8, n8⟩, -, X8, ⟨Lc8, hQ8, l8, y8, z8⟩, st8⟩ := Jvm.LawKit.callS X7 hx (y := (⟨"java/lang/StringLatin1", "equals", "([B[B)Z"⟩ : MethodName)) hown (mvT hZ (hw _ (List.mem_of_getElem? (i := 62) rfl))) (mvT hZ (hw _ (List.mem_of_getElem? (i := 63) rfl))) (mvT hZ (hw _ (List.mem_of_getElem? (i := 64) rfl))) (mvT hZ (hw _ (List.mem_of_getElem? (i := 65) rfl))) (by decide) (backOf (W := 0) (rm10_FORMAT_FORMAT l Z a0 hw [] d1 d2 k1 k2 h0 V_1 V_2) hZ (hw _ (List.mem_of_getElem? (i := 65) rfl)) (hw _ (List.mem_of_getElem? (i := 64) rfl)) (by decide) (by decide)) (g := (mkF m 44 #[vR a1, vR a2, vR a2] [iR d2, iR d1])) rfl (by rw [hml]; rfl) (argsL := [(.ref d1), (.ref d2)]) (rest := []) (lenOf pd_4 rfl) rfl (by show 2 * 0 + _ ≤ _; exact Nat.le_of_eq rfl) (hb hby d9_44) (fun _ _ => ⟨rfl, e7, (by decide : 0 + 0 ≤ _), (by decide : 0 + 0 ≤ _)⟩)
  dsimp only [Pt.U, Pt.locs, Pt.cells, Pt.slots] at X8 l8 y8 z8 st8 hQ8
  subst l8 y8 z8
  obtain ⟨rfl, rfl, e8⟩ := hQ8
  try rw [List.append_nil] at X8
  obtain ⟨fs, hr, hrun, hended, hW, hsame⟩ := X8.leave (v := some (.int (1 : Int32))) (fun h => by rw [Bd.returns] at h; cases h)
  refine ⟨_, _, pre0 _ ?_, hrun, hended, _, _, rfl, ?_, ⟨_, rfl⟩, hW, hsame.mono (by decide) (by decide)⟩
  · show Steps _ _ _ (s₁.setTop (mkF m 0 #[vR a1, vR a2, .unset] [])) _
    refine XS.aloadN X0.here hx rfl (hb hby d9_0) rfl rfl ?_
    show Steps _ _ _ (s₁.setTop (mkF m 1 #[vR a1, vR a2, .unset] [iR a1])) _
    refine XS.aloadN X0.here hx rfl (hb hby d9_1) rfl rfl ?_
    show Steps _ _ _ (s₁.setTop (mkF m 2 #[vR a1, vR a2, .unset] [iR a2, iR a1])) _
    refine Jvm.RoadKit.acmp (g := (mkF m 2 #[vR a1, vR a2, .unset] [iR a2, iR a1])) X0 hx rfl rfl rfl (pc0 := 2) (pc' := 7) (same := false) rfl (hb hby d9_2) rfl (decide_eq_false fun q => ne_a1_a2 (Value.ref.inj q)) (by decide) (by decide) ?_
    show Steps _ _ _ (s₁.setTop (mkF m 7 #[vR a1, vR a2, .unset] [])) _
    refine XS.aloadN X0.here hx rfl (hb hby d9_7) rfl rfl ?_
    show Steps _ _ _ (s₁.setTop (mkF m 8 #[vR a1, vR a2, .unset] [iR a2])) _
    refine st1 _ ?_
    show Steps _ _ _ (T1.setTop (mkF m 11 #[vR a1, vR a2, .unset] [iI 1])) _
    refine XS.ifNo X1.here hx rfl (hb hby d9_11) rfl ((if0 _ _).trans (feq (by decide : ¬ ((1 : Int32) = (0 : Int32)))).1) ?_
    show Steps _ _ _ (T1.setTop (mkF m 14 #[vR a1, vR a2, .unset] [])) _
    refine XS.aloadN X1.here hx rfl (hb hby d9_14) rfl rfl ?_
    show Steps _ _ _ (T1.setTop (mkF m 15 #[vR a1, vR a2, .unset] [iR a2])) _
    refine st2 _ ?_
    show Steps _ _ _ (T2.setTop (mkF m 18 #[vR a1, vR a2, .unset] [iR a2])) _
    refine XS.astoreN X2.here hx rfl (hb hby d9_18) rfl rfl (l' := #[vR a1, vR a2, vR a2]) rfl ?_
    show Steps _ _ _ (T2.setTop (mkF m 19 #[vR a1, vR a2, vR a2] [])) _
    refine st3 _ ?_
    show Steps _ _ _ (T3.setTop (mkF m 22 #[vR a1, vR a2, vR a2] [iI cs])) _
    refine XS.ifNo X3.here hx rfl (hb hby d9_22) rfl ((if0 _ _).trans (feq h_cs).1) ?_
    show Steps _ _ _ (T3.setTop (mkF m 25 #[vR a1, vR a2, vR a2] [])) _
    refine XS.aloadN X3.here hx rfl (hb hby d9_25) rfl rfl ?_
    show Steps _ _ _ (T3.setTop (mkF m 26 #[vR a1, vR a2, vR a2] [iR a1])) _
    refine st4 _ ?_
    show Steps _ _ _ (T4.setTop (mkF m 29 #[vR a1, vR a2, vR a2] [iI 0])) _
    refine XS.aloadN X4.here hx rfl (hb hby d9_29) rfl rfl ?_
    show Steps _ _ _ (T4.setTop (mkF m 30 #[vR a1, vR a2, vR a2] [iR a2, iI 0])) _
    refine st5 _ ?_
    show Steps _ _ _ (T5.setTop (mkF m 33 #[vR a1, vR a2, vR a2] [iI 0, iI 0])) _
    refine XS.icmpNo X5.here hx rfl (hb hby d9_33) rfl (teq (by decide : (0 : Int32) = (0 : Int32))).2 ?_
    show Steps _ _ _ (T5.setTop (mkF m 36 #[vR a1, vR a2, vR a2] [])) _
    refine XS.aloadN X5.here hx rfl (hb hby d9_36) rfl rfl ?_
    show Steps _ _ _ (T5.setTop (mkF m 37 #[vR a1, vR a2, vR a2] [iR a1])) _
    refine st6 _ ?_
    show Steps _ _ _ (T6.setTop (mkF m 40 #[vR a1, vR a2, vR a2] [iR d1])) _
    refine XS.aloadN X6.here hx rfl (hb hby d9_40) rfl rfl ?_
    show Steps _ _ _ (T6.setTop (mkF m 41 #[vR a1, vR a2, vR a2] [iR a2, iR d1])) _
    refine st7 _ ?_
    show Steps _ _ _ (T7.setTop (mkF m 44 #[vR a1, vR a2, vR a2] [iR d2, iR d1])) _
    refine st8 _ ?_
    show Steps _ _ _ (T8.setTop (mkF m 47 #[vR a1, vR a2, vR a2] [iI 1])) _
    refine XS.ifNo X8.here hx rfl (hb hby d9_47) rfl ((if0 _ _).trans (feq (by decide : ¬ ((1 : Int32) = (0 : Int32)))).1) ?_
    show Steps _ _ _ (T8.setTop (mkF m 50 #[vR a1, vR a2, vR a2] [])) _
    refine XS.iconst X8.here hx rfl (hb hby d9_50) ?_
    show Steps _ _ _ (T8.setTop (mkF m 51 #[vR a1, vR a2, vR a2] [iI 1])) _
    refine XS.goto X8.here hx rfl (pc0 := 51) (pc' := 55) rfl (hb hby d9_51) (by decide) (by decide) ?_
    show Steps _ _ _ (T8.setTop (mkF m 55 #[vR a1, vR a2, vR a2] [iI 1])) _
    exact retN X8 hx (t := .boolean) Bd.returns (by simp) (hb hby d9_55) hr
  · show Q9_FORMAT_FORMAT Z a1 a2 d1 d2 k1 k2 cs h0 _ T8.heap _
    rw [e8]
    exact ⟨rfl, rfl, rfl⟩
theorem ef_10_FORMAT_GET (m : MethodId) (x0 : Addr) (x1 : Addr) : entryFrame m #[(.ref x0), (.ref x1)] 3 = mkF m 0 #[.val (.ref x0), .val (.ref x1), .unset] [] := by first | (simp [entryFrame, mkF, argsToLocals, Value.category]; done) | rfl
def Q10_FORMAT_GET (Z : State) (a1 : Addr) (a2 : Addr) (k1 k2 : ClassId) (h0 : Heap) (v : Option Value) (h : Heap) (L : List Loc) : Prop := v = some (.int (0 : Int32)) ∧ L = [] ∧ h = h0
set_option maxRecDepth 65536 in
set_option maxHeartbeats 40000000 in
theorem rm10_FORMAT_GET (l : Launch) (Z : State) (a0 : Array Value) (hw : ∀ d ∈ tables_1, d.before a0 Z = true) (ws : List Jvm.Cond) (a1 : Addr) (a2 : Addr) (k1 k2 : ClassId) (h0 : Heap) (V_1 : Arv Z h0 a1 k1 .byte (6 : Int32) [(.int (102 : Int32)), (.int (111 : Int32)), (.int (114 : Int32)), (.int (109 : Int32)), (.int (97 : Int32)), (.int (116 : Int32))] (.int (0 : Int32))) (V_2 : Arv Z h0 a2 k2 .byte (3 : Int32) [(.int (103 : Int32)), (.int (101 : Int32)), (.int (116 : Int32))] (.int (0 : Int32))) :
    MetFree l (⟨"java/lang/StringLatin1", "equals", "([B[B)Z"⟩ : MethodName) (head1 (Jvm.Cond.code (⟨"java/lang/StringLatin1", "equals", "([B[B)Z"⟩ : MethodName) jdk_43_method_13_code 3 (some .boolean) :: ws) ({ frames := 0, cells := 0, slots := 0, locals := 0 } : Room)) (fun a U => a = #[(.ref a1), (.ref a2)] ∧ Z.Warmed39 U.vm ∧ U.heap = h0) (fun _ _ _ _ _ => True) (fun _ U o U' => ∃ v L, o = .returned v ∧ Q10_FORMAT_GET Z a1 a2 k1 k2 h0 v U'.heap L ∧ FrameEnd U o U' L ({ frames := 0, cells := 0, slots := 0, locals := 0 } : Room).cells ({ frames := 0, cells := 0, slots := 0, locals := 0 } : Room).slots) := by
  refine MetFree.of_bodySF (plainFor_of_name pn_2) hisR ?_
  intro p e s m args below meth c s₁ Bd hml0 hP hK
  obtain ⟨rfl, hZ, hh⟩ := hP
  have hx := Bd.exec
  have hby := Bd.bytes
  have hml : c.maxLocals = 3 := hml0
  have hown : s.vm.findClass "java/lang/StringLatin1" = some m.cls := findClass_of_methodNamed Bd.named
  have hnm := (name_of_methodNamed Bd.named Bd.method).1
  have X0 : Stand p l e ({ frames := 0, cells := 0, slots := 0, locals := 0 } : Room) s m #[(.ref a1), (.ref a2)] below meth c s₁ [] 0 0 := Stand.of_body Bd
  have e0 : s₁.heap = h0 := by rw [← hh, Bd.state]; rfl
  have pre0 : ∀ t, Steps p.tables e below (s₁.setTop (mkF m 0 #[.val (.ref a1), .val (.ref a2), .unset] [])) t → Steps p.tables e below (s₁.setTop (entryFrame m #[(.ref a1), (.ref a2)] 3)) t := fun t k => castTop (ef_10_FORMAT_GET m a1 a2) k
  obtain ⟨cl1, Ar1, q1, S1, M1, H1, G1⟩ := id V_1
  obtain ⟨cl2, Ar2, q2, S2, M2, H2, G2⟩ := id V_2
  obtain ⟨fs, hr, hrun, hended, hW, hsame⟩ := X0.leave (v := some (.int (0 : Int32))) (fun h => by rw [Bd.returns] at h; cases h)
  refine ⟨_, _, pre0 _ ?_, hrun, hended, _, _, rfl, ?_, ⟨_, rfl⟩, hW, hsame.mono (by decide) (by decide)⟩
  · show Steps _ _ _ (s₁.setTop (mkF m 0 #[vR a1, vR a2, .unset] [])) _
    refine XS.aloadN X0.here hx rfl (hb hby d10_0) rfl rfl ?_
    show Steps _ _ _ (s₁.setTop (mkF m 1 #[vR a1, vR a2, .unset] [iR a1])) _
    refine X0.arraylength hx (by rw [e0]; exact Ar1.1) (State.isArrayOf_alike hZ.alike Ar1.2.1) (g := (mkF m 1 #[vR a1, vR a2, .unset] [iR a1])) rfl rfl (hb hby d10_1) _ ?_
    rw [len_of S1 M1]
    show Steps _ _ _ (s₁.setTop (mkF m 2 #[vR a1, vR a2, .unset] [iI 6])) _
    refine XS.aloadN X0.here hx rfl (hb hby d10_2) rfl rfl ?_
    show Steps _ _ _ (s₁.setTop (mkF m 3 #[vR a1, vR a2, .unset] [iR a2, iI 6])) _
    refine X0.arraylength hx (by rw [e0]; exact Ar2.1) (State.isArrayOf_alike hZ.alike Ar2.2.1) (g := (mkF m 3 #[vR a1, vR a2, .unset] [iR a2, iI 6])) rfl rfl (hb hby d10_3) _ ?_
    rw [len_of S2 M2]
    show Steps _ _ _ (s₁.setTop (mkF m 4 #[vR a1, vR a2, .unset] [iI 3, iI 6])) _
    refine XS.icmpYes X0.here hx rfl (pc0 := 4) (pc' := 34) rfl (hb hby d10_4) rfl (feq (by decide : ¬ ((6 : Int32) = (3 : Int32)))).2 (by decide) (by decide) ?_
    show Steps _ _ _ (s₁.setTop (mkF m 34 #[vR a1, vR a2, .unset] [])) _
    refine XS.iconst X0.here hx rfl (hb hby d10_34) ?_
    show Steps _ _ _ (s₁.setTop (mkF m 35 #[vR a1, vR a2, .unset] [iI 0])) _
    exact retN X0 hx (t := .boolean) Bd.returns (by simp) (hb hby d10_35) hr
  · show Q10_FORMAT_GET Z a1 a2 k1 k2 h0 _ s₁.heap _
    rw [e0]
    exact ⟨rfl, rfl, rfl⟩
theorem ef_9_FORMAT_GET (m : MethodId) (x0 : Addr) (x1 : Addr) : entryFrame m #[(.ref x0), (.ref x1)] 3 = mkF m 0 #[.val (.ref x0), .val (.ref x1), .unset] [] := by first | (simp [entryFrame, mkF, argsToLocals, Value.category]; done) | rfl
def Q9_FORMAT_GET (Z : State) (a1 : Addr) (a2 : Addr) (d1 d2 : Addr) (k1 k2 : ClassId) (cs : Int32) (h0 : Heap) (v : Option Value) (h : Heap) (L : List Loc) : Prop := v = some (.int (0 : Int32)) ∧ L = [] ∧ h = h0
set_option maxRecDepth 65536 in
set_option maxHeartbeats 40000000 in
theorem rm9_FORMAT_GET (l : Launch) (Z : State) (a0 : Array Value) (hw : ∀ d ∈ tables_1, d.before a0 Z = true) (ws : List Jvm.Cond) (a1 : Addr) (a2 : Addr) (d1 d2 : Addr) (k1 k2 : ClassId) (cs : Int32) (h0 : Heap) (n0 : Nat) (O0 : Old Z n0 h0) (E_a1 : Exa Z h0 a1 "java/lang/String") (C_a1 : Fld Z h0 a1 "java/lang/String" "coder" "B" (.int (0 : Int32))) (W_a1 : Fld Z h0 a1 "java/lang/String" "value" "[B" (.ref d1)) (V_1 : Arv Z h0 d1 k1 .byte (6 : Int32) [(.int (102 : Int32)), (.int (111 : Int32)), (.int (114 : Int32)), (.int (109 : Int32)), (.int (97 : Int32)), (.int (116 : Int32))] (.int (0 : Int32))) (E_a2 : Exa Z h0 a2 "java/lang/String") (C_a2 : Fld Z h0 a2 "java/lang/String" "coder" "B" (.int (0 : Int32))) (W_a2 : Fld Z h0 a2 "java/lang/String" "value" "[B" (.ref d2)) (V_2 : Arv Z h0 d2 k2 .byte (3 : Int32) [(.int (103 : Int32)), (.int (101 : Int32)), (.int (116 : Int32))] (.int (0 : Int32))) (ne_a1_a2 : a1 ≠ a2) (S_CS : Sta Z Z.heap "java/lang/String" "COMPACT_STRINGS" "Z" (.int cs)) (h_cs : ¬ cs = (0 : Int32)) :
    MetFree l (⟨"java/lang/String", "equals", "(Ljava/lang/Object;)Z"⟩ : MethodName) (head1 (Jvm.Cond.code (⟨"java/lang/String", "equals", "(Ljava/lang/Object;)Z"⟩ : MethodName) jdk_42_method_66_code 3 (some .boolean) :: ws) ({ frames := 1, cells := 0, slots := 0, locals := 14 } : Room)) (fun a U => a = #[(.ref a1), (.ref a2)] ∧ Z.Warmed39 U.vm ∧ U.heap = h0) (fun _ _ _ _ _ => True) (fun _ U o U' => ∃ v L, o = .returned v ∧ Q9_FORMAT_GET Z a1 a2 d1 d2 k1 k2 cs h0 v U'.heap L ∧ FrameEnd U o U' L ({ frames := 1, cells := 0, slots := 0, locals := 14 } : Room).cells ({ frames := 1, cells := 0, slots := 0, locals := 14 } : Room).slots) := by
  refine MetFree.of_bodySF (plainFor_of_name pn_1) hisR ?_
  intro p e s m args below meth c s₁ Bd hml0 hP hK
  obtain ⟨rfl, hZ, hh⟩ := hP
  have hx := Bd.exec
  have hby := Bd.bytes
  have hml : c.maxLocals = 3 := hml0
  have hown : s.vm.findClass "java/lang/String" = some m.cls := findClass_of_methodNamed Bd.named
  have hnm := (name_of_methodNamed Bd.named Bd.method).1
  have X0 : Stand p l e ({ frames := 1, cells := 0, slots := 0, locals := 14 } : Room) s m #[(.ref a1), (.ref a2)] below meth c s₁ [] 0 0 := Stand.of_body Bd
  have e0 : s₁.heap = h0 := by rw [← hh, Bd.state]; rfl
  have pre0 : ∀ t, Steps p.tables e below (s₁.setTop (mkF m 0 #[.val (.ref a1), .val (.ref a2), .unset] [])) t → Steps p.tables e below (s₁.setTop (entryFrame m #[(.ref a1), (.ref a2)] 3)) t := fun t k => castTop (ef_9_FORMAT_GET m a1 a2) k
  obtain ⟨T1, X1, e1, st1⟩ := instY X0 hx hZ hown (hw _ (List.mem_of_getElem? (i := 61) rfl)) e0 (Ins.self E_a2) (g := (mkF m 8 #[vR a1, vR a2, .unset] [iR a2])) rfl rfl (hb hby d9_8)
  obtain ⟨T2, X2, e2, st2⟩ := castY X1 hx hZ hown (hw _ (List.mem_of_getElem? (i := 61) rfl)) e1 (Ins.self E_a2) (g := (mkF m 15 #[vR a1, vR a2, .unset] [iR a2])) rfl rfl (hb hby d9_15)
  obtain ⟨T3, X3, e3, st3⟩ := getS2 X2 hx hZ hown (host := "") (Or.inl (hw _ (List.mem_of_getElem? (i := 15) rfl))) Via.refl e2 (S_CS.ext O0.2) (g := (mkF m 19 #[vR a1, vR a2, vR a2] [])) rfl (hb hby d9_19)
  obtain ⟨T4, X4, e4, st4⟩ := getF X3 hx hZ hown (host := "") (Or.inl (hw _ (List.mem_of_getElem? (i := 27) rfl))) Via.refl e3 C_a1 (g := (mkF m 26 #[vR a1, vR a2, vR a2] [iR a1])) rfl rfl (hb hby d9_26)
  obtain ⟨T5, X5, e5, st5⟩ := getF X4 hx hZ hown (host := "") (Or.inl (hw _ (List.mem_of_getElem? (i := 27) rfl))) Via.refl e4 C_a2 (g := (mkF m 30 #[vR a1, vR a2, vR a2] [iR a2, iI 0])) rfl rfl (hb hby d9_30)
  obtain ⟨T6, X6, e6, st6⟩ := getF X5 hx hZ hown (host := "") (Or.inl (hw _ (List.mem_of_getElem? (i := 29) rfl))) Via.refl e5 W_a1 (g := (mkF m 37 #[vR a1, vR a2, vR a2] [iR a1])) rfl rfl (hb hby d9_37)
  obtain ⟨T7, X7, e7, st7⟩ := getF X6 hx hZ hown (host := "") (Or.inl (hw _ (List.mem_of_getElem? (i := 29) rfl))) Via.refl e6 W_a2 (g := (mkF m 41 #[vR a1, vR a2, vR a2] [iR a2, iR d1])) rfl rfl (hb hby d9_41)
  obtain ⟨_, _, ⟨T8, L8, k8, n8⟩, -, X8, ⟨Lc8, hQ8, l8, y8, z8⟩, st8⟩ := Jvm.LawKit.callS X7 hx (y := (⟨"java/lang/StringLatin1", "equals", "([B[B)Z"⟩ : MethodName)) hown (mvT hZ (hw _ (List.mem_of_getElem? (i := 62) rfl))) (mvT hZ (hw _ (List.mem_of_getElem? (i := 63) rfl))) (mvT hZ (hw _ (List.mem_of_getElem? (i := 64) rfl))) (mvT hZ (hw _ (List.mem_of_getElem? (i := 65) rfl))) (by decide) (backOf (W := 0) (rm10_FORMAT_GET l Z a0 hw [] d1 d2 k1 k2 h0 V_1 V_2) hZ (hw _ (List.mem_of_getElem? (i := 65) rfl)) (hw _ (List.mem_of_getElem? (i := 64) rfl)) (by decide) (by decide)) (g := (mkF m 44 #[vR a1, vR a2, vR a2] [iR d2, iR d1])) rfl (by rw [hml]; rfl) (argsL := [(.ref d1), (.ref d2)]) (rest := []) (lenOf pd_4 rfl) rfl (by show 2 * 0 + _ ≤ _; exact Nat.le_of_eq rfl) (hb hby d9_44) (fun _ _ => ⟨rfl, e7, (by decide : 0 + 0 ≤ _), (by decide : 0 + 0 ≤ _)⟩)
  dsimp only [Pt.U, Pt.locs, Pt.cells, Pt.slots] at X8 l8 y8 z8 st8 hQ8
  subst l8 y8 z8
  obtain ⟨rfl, rfl, e8⟩ := hQ8
  try rw [List.append_nil] at X8
  obtain ⟨fs, hr, hrun, hended, hW, hsame⟩ := X8.leave (v := some (.int (0 : Int32))) (fun h => by rw [Bd.returns] at h; cases h)
  refine ⟨_, _, pre0 _ ?_, hrun, hended, _, _, rfl, ?_, ⟨_, rfl⟩, hW, hsame.mono (by decide) (by decide)⟩
  · show Steps _ _ _ (s₁.setTop (mkF m 0 #[vR a1, vR a2, .unset] [])) _
    refine XS.aloadN X0.here hx rfl (hb hby d9_0) rfl rfl ?_
    show Steps _ _ _ (s₁.setTop (mkF m 1 #[vR a1, vR a2, .unset] [iR a1])) _
    refine XS.aloadN X0.here hx rfl (hb hby d9_1) rfl rfl ?_
    show Steps _ _ _ (s₁.setTop (mkF m 2 #[vR a1, vR a2, .unset] [iR a2, iR a1])) _
    refine Jvm.RoadKit.acmp (g := (mkF m 2 #[vR a1, vR a2, .unset] [iR a2, iR a1])) X0 hx rfl rfl rfl (pc0 := 2) (pc' := 7) (same := false) rfl (hb hby d9_2) rfl (decide_eq_false fun q => ne_a1_a2 (Value.ref.inj q)) (by decide) (by decide) ?_
    show Steps _ _ _ (s₁.setTop (mkF m 7 #[vR a1, vR a2, .unset] [])) _
    refine XS.aloadN X0.here hx rfl (hb hby d9_7) rfl rfl ?_
    show Steps _ _ _ (s₁.setTop (mkF m 8 #[vR a1, vR a2, .unset] [iR a2])) _
    refine st1 _ ?_
    show Steps _ _ _ (T1.setTop (mkF m 11 #[vR a1, vR a2, .unset] [iI 1])) _
    refine XS.ifNo X1.here hx rfl (hb hby d9_11) rfl ((if0 _ _).trans (feq (by decide : ¬ ((1 : Int32) = (0 : Int32)))).1) ?_
    show Steps _ _ _ (T1.setTop (mkF m 14 #[vR a1, vR a2, .unset] [])) _
    refine XS.aloadN X1.here hx rfl (hb hby d9_14) rfl rfl ?_
    show Steps _ _ _ (T1.setTop (mkF m 15 #[vR a1, vR a2, .unset] [iR a2])) _
    refine st2 _ ?_
    show Steps _ _ _ (T2.setTop (mkF m 18 #[vR a1, vR a2, .unset] [iR a2])) _
    refine XS.astoreN X2.here hx rfl (hb hby d9_18) rfl rfl (l' := #[vR a1, vR a2, vR a2]) rfl ?_
    show Steps _ _ _ (T2.setTop (mkF m 19 #[vR a1, vR a2, vR a2] [])) _
    refine st3 _ ?_
    show Steps _ _ _ (T3.setTop (mkF m 22 #[vR a1, vR a2, vR a2] [iI cs])) _
    refine XS.ifNo X3.here hx rfl (hb hby d9_22) rfl ((if0 _ _).trans (feq h_cs).1) ?_
    show Steps _ _ _ (T3.setTop (mkF m 25 #[vR a1, vR a2, vR a2] [])) _
    refine XS.aloadN X3.here hx rfl (hb hby d9_25) rfl rfl ?_
    show Steps _ _ _ (T3.setTop (mkF m 26 #[vR a1, vR a2, vR a2] [iR a1])) _
    refine st4 _ ?_
    show Steps _ _ _ (T4.setTop (mkF m 29 #[vR a1, vR a2, vR a2] [iI 0])) _
    refine XS.aloadN X4.here hx rfl (hb hby d9_29) rfl rfl ?_
    show Steps _ _ _ (T4.setTop (mkF m 30 #[vR a1, vR a2, vR a2] [iR a2, iI 0])) _
    refine st5 _ ?_
    show Steps _ _ _ (T5.setTop (mkF m 33 #[vR a1, vR a2, vR a2] [iI 0, iI 0])) _
    refine XS.icmpNo X5.here hx rfl (hb hby d9_33) rfl (teq (by decide : (0 : Int32) = (0 : Int32))).2 ?_
    show Steps _ _ _ (T5.setTop (mkF m 36 #[vR a1, vR a2, vR a2] [])) _
    refine XS.aloadN X5.here hx rfl (hb hby d9_36) rfl rfl ?_
    show Steps _ _ _ (T5.setTop (mkF m 37 #[vR a1, vR a2, vR a2] [iR a1])) _
    refine st6 _ ?_
    show Steps _ _ _ (T6.setTop (mkF m 40 #[vR a1, vR a2, vR a2] [iR d1])) _
    refine XS.aloadN X6.here hx rfl (hb hby d9_40) rfl rfl ?_
    show Steps _ _ _ (T6.setTop (mkF m 41 #[vR a1, vR a2, vR a2] [iR a2, iR d1])) _
    refine st7 _ ?_
    show Steps _ _ _ (T7.setTop (mkF m 44 #[vR a1, vR a2, vR a2] [iR d2, iR d1])) _
    refine st8 _ ?_
    show Steps _ _ _ (T8.setTop (mkF m 47 #[vR a1, vR a2, vR a2] [iI 0])) _
    refine XS.ifYes X8.here hx rfl (pc0 := 47) (pc' := 54) rfl (hb hby d9_47) rfl ((if0 _ _).trans (teq (by decide : (0 : Int32) = (0 : Int32))).1) (by decide) (by decide) ?_
    show Steps _ _ _ (T8.setTop (mkF m 54 #[vR a1, vR a2, vR a2] [])) _
    refine XS.iconst X8.here hx rfl (hb hby d9_54) ?_
    show Steps _ _ _ (T8.setTop (mkF m 55 #[vR a1, vR a2, vR a2] [iI 0])) _
    exact retN X8 hx (t := .boolean) Bd.returns (by simp) (hb hby d9_55) hr
  · show Q9_FORMAT_GET Z a1 a2 d1 d2 k1 k2 cs h0 _ T8.heap _
    rw [e8]
    exact ⟨rfl, rfl, rfl⟩
theorem ef_10_GET_GET (m : MethodId) (x0 : Addr) (x1 : Addr) : entryFrame m #[(.ref x0), (.ref x1)] 3 = mkF m 0 #[.val (.ref x0), .val (.ref x1), .unset] [] := by first | (simp [entryFrame, mkF, argsToLocals, Value.category]; done) | rfl
def Q10_GET_GET (Z : State) (a1 : Addr) (a2 : Addr) (k1 k2 : ClassId) (h0 : Heap) (v : Option Value) (h : Heap) (L : List Loc) : Prop := v = some (.int (1 : Int32)) ∧ L = [] ∧ h = h0
set_option maxRecDepth 65536 in
set_option maxHeartbeats 40000000 in
theorem rm10_GET_GET (l : Launch) (Z : State) (a0 : Array Value) (hw : ∀ d ∈ tables_1, d.before a0 Z = true) (ws : List Jvm.Cond) (a1 : Addr) (a2 : Addr) (k1 k2 : ClassId) (h0 : Heap) (V_1 : Arv Z h0 a1 k1 .byte (3 : Int32) [(.int (103 : Int32)), (.int (101 : Int32)), (.int (116 : Int32))] (.int (0 : Int32))) (V_2 : Arv Z h0 a2 k2 .byte (3 : Int32) [(.int (103 : Int32)), (.int (101 : Int32)), (.int (116 : Int32))] (.int (0 : Int32))) :
    MetFree l (⟨"java/lang/StringLatin1", "equals", "([B[B)Z"⟩ : MethodName) (head1 (Jvm.Cond.code (⟨"java/lang/StringLatin1", "equals", "([B[B)Z"⟩ : MethodName) jdk_43_method_13_code 3 (some .boolean) :: ws) ({ frames := 0, cells := 0, slots := 0, locals := 0 } : Room)) (fun a U => a = #[(.ref a1), (.ref a2)] ∧ Z.Warmed39 U.vm ∧ U.heap = h0) (fun _ _ _ _ _ => True) (fun _ U o U' => ∃ v L, o = .returned v ∧ Q10_GET_GET Z a1 a2 k1 k2 h0 v U'.heap L ∧ FrameEnd U o U' L ({ frames := 0, cells := 0, slots := 0, locals := 0 } : Room).cells ({ frames := 0, cells := 0, slots := 0, locals := 0 } : Room).slots) := by
  refine MetFree.of_bodySF (plainFor_of_name pn_2) hisR ?_
  intro p e s m args below meth c s₁ Bd hml0 hP hK
  obtain ⟨rfl, hZ, hh⟩ := hP
  have hx := Bd.exec
  have hby := Bd.bytes
  have hml : c.maxLocals = 3 := hml0
  have hown : s.vm.findClass "java/lang/StringLatin1" = some m.cls := findClass_of_methodNamed Bd.named
  have hnm := (name_of_methodNamed Bd.named Bd.method).1
  have X0 : Stand p l e ({ frames := 0, cells := 0, slots := 0, locals := 0 } : Room) s m #[(.ref a1), (.ref a2)] below meth c s₁ [] 0 0 := Stand.of_body Bd
  have e0 : s₁.heap = h0 := by rw [← hh, Bd.state]; rfl
  have pre0 : ∀ t, Steps p.tables e below (s₁.setTop (mkF m 0 #[.val (.ref a1), .val (.ref a2), .unset] [])) t → Steps p.tables e below (s₁.setTop (entryFrame m #[(.ref a1), (.ref a2)] 3)) t := fun t k => castTop (ef_10_GET_GET m a1 a2) k
  obtain ⟨cl1, Ar1, q1, S1, M1, H1, G1⟩ := id V_1
  obtain ⟨cl2, Ar2, q2, S2, M2, H2, G2⟩ := id V_2
  have hin3 : ¬ ((0 : Int32) < 0 ∨ cl1.slots.size ≤ ((0 : Int32)).toNatClampNeg) := inb_of S1 ⟨by decide, by decide⟩
  have hat4 : cl1.slots[((0 : Int32)).toNatClampNeg]? = some (.int (103 : Int32)) := Has.at H1 hin3 rfl
  have hin5 : ¬ ((0 : Int32) < 0 ∨ cl2.slots.size ≤ ((0 : Int32)).toNatClampNeg) := inb_of S2 ⟨by decide, by decide⟩
  have hat6 : cl2.slots[((0 : Int32)).toNatClampNeg]? = some (.int (103 : Int32)) := Has.at H2 hin5 rfl
  have hin7 : ¬ ((1 : Int32) < 0 ∨ cl1.slots.size ≤ ((1 : Int32)).toNatClampNeg) := inb_of S1 ⟨by decide, by decide⟩
  have hat8 : cl1.slots[((1 : Int32)).toNatClampNeg]? = some (.int (101 : Int32)) := Has.at H1 hin7 rfl
  have hin9 : ¬ ((1 : Int32) < 0 ∨ cl2.slots.size ≤ ((1 : Int32)).toNatClampNeg) := inb_of S2 ⟨by decide, by decide⟩
  have hat10 : cl2.slots[((1 : Int32)).toNatClampNeg]? = some (.int (101 : Int32)) := Has.at H2 hin9 rfl
  have hin11 : ¬ ((2 : Int32) < 0 ∨ cl1.slots.size ≤ ((2 : Int32)).toNatClampNeg) := inb_of S1 ⟨by decide, by decide⟩
  have hat12 : cl1.slots[((2 : Int32)).toNatClampNeg]? = some (.int (116 : Int32)) := Has.at H1 hin11 rfl
  have hin13 : ¬ ((2 : Int32) < 0 ∨ cl2.slots.size ≤ ((2 : Int32)).toNatClampNeg) := inb_of S2 ⟨by decide, by decide⟩
  have hat14 : cl2.slots[((2 : Int32)).toNatClampNeg]? = some (.int (116 : Int32)) := Has.at H2 hin13 rfl
  obtain ⟨fs, hr, hrun, hended, hW, hsame⟩ := X0.leave (v := some (.int (1 : Int32))) (fun h => by rw [Bd.returns] at h; cases h)
  refine ⟨_, _, pre0 _ ?_, hrun, hended, _, _, rfl, ?_, ⟨_, rfl⟩, hW, hsame.mono (by decide) (by decide)⟩
  · show Steps _ _ _ (s₁.setTop (mkF m 0 #[vR a1, vR a2, .unset] [])) _
    refine XS.aloadN X0.here hx rfl (hb hby d10_0) rfl rfl ?_
    show Steps _ _ _ (s₁.setTop (mkF m 1 #[vR a1, vR a2, .unset] [iR a1])) _
    refine X0.arraylength hx (by rw [e0]; exact Ar1.1) (State.isArrayOf_alike hZ.alike Ar1.2.1) (g := (mkF m 1 #[vR a1, vR a2, .unset] [iR a1])) rfl rfl (hb hby d10_1) _ ?_
    rw [len_of S1 M1]
    show Steps _ _ _ (s₁.setTop (mkF m 2 #[vR a1, vR a2, .unset] [iI 3])) _
    refine XS.aloadN X0.here hx rfl (hb hby d10_2) rfl rfl ?_
    show Steps _ _ _ (s₁.setTop (mkF m 3 #[vR a1, vR a2, .unset] [iR a2, iI 3])) _
    refine X0.arraylength hx (by rw [e0]; exact Ar2.1) (State.isArrayOf_alike hZ.alike Ar2.2.1) (g := (mkF m 3 #[vR a1, vR a2, .unset] [iR a2, iI 3])) rfl rfl (hb hby d10_3) _ ?_
    rw [len_of S2 M2]
    show Steps _ _ _ (s₁.setTop (mkF m 4 #[vR a1, vR a2, .unset] [iI 3, iI 3])) _
    refine XS.icmpNo X0.here hx rfl (hb hby d10_4) rfl (teq (by decide : (3 : Int32) = (3 : Int32))).2 ?_
    show Steps _ _ _ (s₁.setTop (mkF m 7 #[vR a1, vR a2, .unset] [])) _
    refine XS.iconst X0.here hx rfl (hb hby d10_7) ?_
    show Steps _ _ _ (s₁.setTop (mkF m 8 #[vR a1, vR a2, .unset] [iI 0])) _
    refine XS.istoreN X0.here hx rfl (hb hby d10_8) rfl (l' := #[vR a1, vR a2, vI 0]) rfl ?_
    show Steps _ _ _ (s₁.setTop (mkF m 9 #[vR a1, vR a2, vI 0] [])) _
    refine XS.iloadN X0.here hx rfl (hb hby d10_9) rfl ?_
    show Steps _ _ _ (s₁.setTop (mkF m 10 #[vR a1, vR a2, vI 0] [iI 0])) _
    refine XS.aloadN X0.here hx rfl (hb hby d10_10) rfl rfl ?_
    show Steps _ _ _ (s₁.setTop (mkF m 11 #[vR a1, vR a2, vI 0] [iR a1, iI 0])) _
    refine X0.arraylength hx (by rw [e0]; exact Ar1.1) (State.isArrayOf_alike hZ.alike Ar1.2.1) (g := (mkF m 11 #[vR a1, vR a2, vI 0] [iR a1, iI 0])) rfl rfl (hb hby d10_11) _ ?_
    rw [len_of S1 M1]
    show Steps _ _ _ (s₁.setTop (mkF m 12 #[vR a1, vR a2, vI 0] [iI 3, iI 0])) _
    refine XS.icmpNo X0.here hx rfl (hb hby d10_12) rfl (tlt (by decide : (0 : Int32) < (3 : Int32))).2.1 ?_
    show Steps _ _ _ (s₁.setTop (mkF m 15 #[vR a1, vR a2, vI 0] [])) _
    refine XS.aloadN X0.here hx rfl (hb hby d10_15) rfl rfl ?_
    show Steps _ _ _ (s₁.setTop (mkF m 16 #[vR a1, vR a2, vI 0] [iR a1])) _
    refine XS.iloadN X0.here hx rfl (hb hby d10_16) rfl ?_
    show Steps _ _ _ (s₁.setTop (mkF m 17 #[vR a1, vR a2, vI 0] [iI 0, iR a1])) _
    refine X0.baloadBytes hx (j := (0 : Int32)) (v := (.int (103 : Int32))) (by rw [e0]; exact Ar1.1) (State.isArrayOf_alike hZ.alike Ar1.2.1) Ar1.2.2 hin3 hat4 (g := (mkF m 17 #[vR a1, vR a2, vI 0] [iI 0, iR a1])) rfl rfl (hb hby d10_17) _ ?_
    show Steps _ _ _ (s₁.setTop (mkF m 18 #[vR a1, vR a2, vI 0] [iI 103])) _
    refine XS.aloadN X0.here hx rfl (hb hby d10_18) rfl rfl ?_
    show Steps _ _ _ (s₁.setTop (mkF m 19 #[vR a1, vR a2, vI 0] [iR a2, iI 103])) _
    refine XS.iloadN X0.here hx rfl (hb hby d10_19) rfl ?_
    show Steps _ _ _ (s₁.setTop (mkF m 20 #[vR a1, vR a2, vI 0] [iI 0, iR a2, iI 103])) _
    refine X0.baloadBytes hx (j := (0 : Int32)) (v := (.int (103 : Int32))) (by rw [e0]; exact Ar2.1) (State.isArrayOf_alike hZ.alike Ar2.2.1) Ar2.2.2 hin5 hat6 (g := (mkF m 20 #[vR a1, vR a2, vI 0] [iI 0, iR a2, iI 103])) rfl rfl (hb hby d10_20) _ ?_
    show Steps _ _ _ (s₁.setTop (mkF m 21 #[vR a1, vR a2, vI 0] [iI 103, iI 103])) _
    refine XS.icmpYes X0.here hx rfl (pc0 := 21) (pc' := 26) rfl (hb hby d10_21) rfl (teq (by decide : (103 : Int32) = (103 : Int32))).1 (by decide) (by decide) ?_
    show Steps _ _ _ (s₁.setTop (mkF m 26 #[vR a1, vR a2, vI 0] [])) _
    refine XS.iinc X0.here hx rfl (hb hby d10_26) rfl (l' := #[vR a1, vR a2, vI ((0 : Int32) + (1 : Int32))]) rfl ?_
    rw [(by decide : ((0 : Int32) + (1 : Int32)) = (1 : Int32))]
    show Steps _ _ _ (s₁.setTop (mkF m 29 #[vR a1, vR a2, vI 1] [])) _
    refine XS.goto X0.here hx rfl (pc0 := 29) (pc' := 9) rfl (hb hby d10_29) (by decide) (by decide) ?_
    show Steps _ _ _ (s₁.setTop (mkF m 9 #[vR a1, vR a2, vI 1] [])) _
    refine XS.iloadN X0.here hx rfl (hb hby d10_9) rfl ?_
    show Steps _ _ _ (s₁.setTop (mkF m 10 #[vR a1, vR a2, vI 1] [iI 1])) _
    refine XS.aloadN X0.here hx rfl (hb hby d10_10) rfl rfl ?_
    show Steps _ _ _ (s₁.setTop (mkF m 11 #[vR a1, vR a2, vI 1] [iR a1, iI 1])) _
    refine X0.arraylength hx (by rw [e0]; exact Ar1.1) (State.isArrayOf_alike hZ.alike Ar1.2.1) (g := (mkF m 11 #[vR a1, vR a2, vI 1] [iR a1, iI 1])) rfl rfl (hb hby d10_11) _ ?_
    rw [len_of S1 M1]
    show Steps _ _ _ (s₁.setTop (mkF m 12 #[vR a1, vR a2, vI 1] [iI 3, iI 1])) _
    refine XS.icmpNo X0.here hx rfl (hb hby d10_12) rfl (tlt (by decide : (1 : Int32) < (3 : Int32))).2.1 ?_
    show Steps _ _ _ (s₁.setTop (mkF m 15 #[vR a1, vR a2, vI 1] [])) _
    refine XS.aloadN X0.here hx rfl (hb hby d10_15) rfl rfl ?_
    show Steps _ _ _ (s₁.setTop (mkF m 16 #[vR a1, vR a2, vI 1] [iR a1])) _
    refine XS.iloadN X0.here hx rfl (hb hby d10_16) rfl ?_
    show Steps _ _ _ (s₁.setTop (mkF m 17 #[vR a1, vR a2, vI 1] [iI 1, iR a1])) _
    refine X0.baloadBytes hx (j := (1 : Int32)) (v := (.int (101 : Int32))) (by rw [e0]; exact Ar1.1) (State.isArrayOf_alike hZ.alike Ar1.2.1) Ar1.2.2 hin7 hat8 (g := (mkF m 17 #[vR a1, vR a2, vI 1] [iI 1, iR a1])) rfl rfl (hb hby d10_17) _ ?_
    show Steps _ _ _ (s₁.setTop (mkF m 18 #[vR a1, vR a2, vI 1] [iI 101])) _
    refine XS.aloadN X0.here hx rfl (hb hby d10_18) rfl rfl ?_
    show Steps _ _ _ (s₁.setTop (mkF m 19 #[vR a1, vR a2, vI 1] [iR a2, iI 101])) _
    refine XS.iloadN X0.here hx rfl (hb hby d10_19) rfl ?_
    show Steps _ _ _ (s₁.setTop (mkF m 20 #[vR a1, vR a2, vI 1] [iI 1, iR a2, iI 101])) _
    refine X0.baloadBytes hx (j := (1 : Int32)) (v := (.int (101 : Int32))) (by rw [e0]; exact Ar2.1) (State.isArrayOf_alike hZ.alike Ar2.2.1) Ar2.2.2 hin9 hat10 (g := (mkF m 20 #[vR a1, vR a2, vI 1] [iI 1, iR a2, iI 101])) rfl rfl (hb hby d10_20) _ ?_
    show Steps _ _ _ (s₁.setTop (mkF m 21 #[vR a1, vR a2, vI 1] [iI 101, iI 101])) _
    refine XS.icmpYes X0.here hx rfl (pc0 := 21) (pc' := 26) rfl (hb hby d10_21) rfl (teq (by decide : (101 : Int32) = (101 : Int32))).1 (by decide) (by decide) ?_
    show Steps _ _ _ (s₁.setTop (mkF m 26 #[vR a1, vR a2, vI 1] [])) _
    refine XS.iinc X0.here hx rfl (hb hby d10_26) rfl (l' := #[vR a1, vR a2, vI ((1 : Int32) + (1 : Int32))]) rfl ?_
    rw [(by decide : ((1 : Int32) + (1 : Int32)) = (2 : Int32))]
    show Steps _ _ _ (s₁.setTop (mkF m 29 #[vR a1, vR a2, vI 2] [])) _
    refine XS.goto X0.here hx rfl (pc0 := 29) (pc' := 9) rfl (hb hby d10_29) (by decide) (by decide) ?_
    show Steps _ _ _ (s₁.setTop (mkF m 9 #[vR a1, vR a2, vI 2] [])) _
    refine XS.iloadN X0.here hx rfl (hb hby d10_9) rfl ?_
    show Steps _ _ _ (s₁.setTop (mkF m 10 #[vR a1, vR a2, vI 2] [iI 2])) _
    refine XS.aloadN X0.here hx rfl (hb hby d10_10) rfl rfl ?_
    show Steps _ _ _ (s₁.setTop (mkF m 11 #[vR a1, vR a2, vI 2] [iR a1, iI 2])) _
    refine X0.arraylength hx (by rw [e0]; exact Ar1.1) (State.isArrayOf_alike hZ.alike Ar1.2.1) (g := (mkF m 11 #[vR a1, vR a2, vI 2] [iR a1, iI 2])) rfl rfl (hb hby d10_11) _ ?_
    rw [len_of S1 M1]
    show Steps _ _ _ (s₁.setTop (mkF m 12 #[vR a1, vR a2, vI 2] [iI 3, iI 2])) _
    refine XS.icmpNo X0.here hx rfl (hb hby d10_12) rfl (tlt (by decide : (2 : Int32) < (3 : Int32))).2.1 ?_
    show Steps _ _ _ (s₁.setTop (mkF m 15 #[vR a1, vR a2, vI 2] [])) _
    refine XS.aloadN X0.here hx rfl (hb hby d10_15) rfl rfl ?_
    show Steps _ _ _ (s₁.setTop (mkF m 16 #[vR a1, vR a2, vI 2] [iR a1])) _
    refine XS.iloadN X0.here hx rfl (hb hby d10_16) rfl ?_
    show Steps _ _ _ (s₁.setTop (mkF m 17 #[vR a1, vR a2, vI 2] [iI 2, iR a1])) _
    refine X0.baloadBytes hx (j := (2 : Int32)) (v := (.int (116 : Int32))) (by rw [e0]; exact Ar1.1) (State.isArrayOf_alike hZ.alike Ar1.2.1) Ar1.2.2 hin11 hat12 (g := (mkF m 17 #[vR a1, vR a2, vI 2] [iI 2, iR a1])) rfl rfl (hb hby d10_17) _ ?_
    show Steps _ _ _ (s₁.setTop (mkF m 18 #[vR a1, vR a2, vI 2] [iI 116])) _
    refine XS.aloadN X0.here hx rfl (hb hby d10_18) rfl rfl ?_
    show Steps _ _ _ (s₁.setTop (mkF m 19 #[vR a1, vR a2, vI 2] [iR a2, iI 116])) _
    refine XS.iloadN X0.here hx rfl (hb hby d10_19) rfl ?_
    show Steps _ _ _ (s₁.setTop (mkF m 20 #[vR a1, vR a2, vI 2] [iI 2, iR a2, iI 116])) _
    refine X0.baloadBytes hx (j := (2 : Int32)) (v := (.int (116 : Int32))) (by rw [e0]; exact Ar2.1) (State.isArrayOf_alike hZ.alike Ar2.2.1) Ar2.2.2 hin13 hat14 (g := (mkF m 20 #[vR a1, vR a2, vI 2] [iI 2, iR a2, iI 116])) rfl rfl (hb hby d10_20) _ ?_
    show Steps _ _ _ (s₁.setTop (mkF m 21 #[vR a1, vR a2, vI 2] [iI 116, iI 116])) _
    refine XS.icmpYes X0.here hx rfl (pc0 := 21) (pc' := 26) rfl (hb hby d10_21) rfl (teq (by decide : (116 : Int32) = (116 : Int32))).1 (by decide) (by decide) ?_
    show Steps _ _ _ (s₁.setTop (mkF m 26 #[vR a1, vR a2, vI 2] [])) _
    refine XS.iinc X0.here hx rfl (hb hby d10_26) rfl (l' := #[vR a1, vR a2, vI ((2 : Int32) + (1 : Int32))]) rfl ?_
    rw [(by decide : ((2 : Int32) + (1 : Int32)) = (3 : Int32))]
    show Steps _ _ _ (s₁.setTop (mkF m 29 #[vR a1, vR a2, vI 3] [])) _
    refine XS.goto X0.here hx rfl (pc0 := 29) (pc' := 9) rfl (hb hby d10_29) (by decide) (by decide) ?_
    show Steps _ _ _ (s₁.setTop (mkF m 9 #[vR a1, vR a2, vI 3] [])) _
    refine XS.iloadN X0.here hx rfl (hb hby d10_9) rfl ?_
    show Steps _ _ _ (s₁.setTop (mkF m 10 #[vR a1, vR a2, vI 3] [iI 3])) _
    refine XS.aloadN X0.here hx rfl (hb hby d10_10) rfl rfl ?_
    show Steps _ _ _ (s₁.setTop (mkF m 11 #[vR a1, vR a2, vI 3] [iR a1, iI 3])) _
    refine X0.arraylength hx (by rw [e0]; exact Ar1.1) (State.isArrayOf_alike hZ.alike Ar1.2.1) (g := (mkF m 11 #[vR a1, vR a2, vI 3] [iR a1, iI 3])) rfl rfl (hb hby d10_11) _ ?_
    rw [len_of S1 M1]
    show Steps _ _ _ (s₁.setTop (mkF m 12 #[vR a1, vR a2, vI 3] [iI 3, iI 3])) _
    refine XS.icmpYes X0.here hx rfl (pc0 := 12) (pc' := 32) rfl (hb hby d10_12) rfl (flt (by decide : ¬ ((3 : Int32) < (3 : Int32)))).2.1 (by decide) (by decide) ?_
    show Steps _ _ _ (s₁.setTop (mkF m 32 #[vR a1, vR a2, vI 3] [])) _
    refine XS.iconst X0.here hx rfl (hb hby d10_32) ?_
    show Steps _ _ _ (s₁.setTop (mkF m 33 #[vR a1, vR a2, vI 3] [iI 1])) _
    exact retN X0 hx (t := .boolean) Bd.returns (by simp) (hb hby d10_33) hr
  · show Q10_GET_GET Z a1 a2 k1 k2 h0 _ s₁.heap _
    rw [e0]
    exact ⟨rfl, rfl, rfl⟩
theorem ef_9_GET_GET (m : MethodId) (x0 : Addr) (x1 : Addr) : entryFrame m #[(.ref x0), (.ref x1)] 3 = mkF m 0 #[.val (.ref x0), .val (.ref x1), .unset] [] := by first | (simp [entryFrame, mkF, argsToLocals, Value.category]; done) | rfl
def Q9_GET_GET (Z : State) (a1 : Addr) (a2 : Addr) (d1 d2 : Addr) (k1 k2 : ClassId) (cs : Int32) (h0 : Heap) (v : Option Value) (h : Heap) (L : List Loc) : Prop := v = some (.int (1 : Int32)) ∧ L = [] ∧ h = h0
set_option maxRecDepth 65536 in
set_option maxHeartbeats 40000000 in
theorem rm9_GET_GET (l : Launch) (Z : State) (a0 : Array Value) (hw : ∀ d ∈ tables_1, d.before a0 Z = true) (ws : List Jvm.Cond) (a1 : Addr) (a2 : Addr) (d1 d2 : Addr) (k1 k2 : ClassId) (cs : Int32) (h0 : Heap) (n0 : Nat) (O0 : Old Z n0 h0) (E_a1 : Exa Z h0 a1 "java/lang/String") (C_a1 : Fld Z h0 a1 "java/lang/String" "coder" "B" (.int (0 : Int32))) (W_a1 : Fld Z h0 a1 "java/lang/String" "value" "[B" (.ref d1)) (V_1 : Arv Z h0 d1 k1 .byte (3 : Int32) [(.int (103 : Int32)), (.int (101 : Int32)), (.int (116 : Int32))] (.int (0 : Int32))) (E_a2 : Exa Z h0 a2 "java/lang/String") (C_a2 : Fld Z h0 a2 "java/lang/String" "coder" "B" (.int (0 : Int32))) (W_a2 : Fld Z h0 a2 "java/lang/String" "value" "[B" (.ref d2)) (V_2 : Arv Z h0 d2 k2 .byte (3 : Int32) [(.int (103 : Int32)), (.int (101 : Int32)), (.int (116 : Int32))] (.int (0 : Int32))) (ne_a1_a2 : a1 ≠ a2) (S_CS : Sta Z Z.heap "java/lang/String" "COMPACT_STRINGS" "Z" (.int cs)) (h_cs : ¬ cs = (0 : Int32)) :
    MetFree l (⟨"java/lang/String", "equals", "(Ljava/lang/Object;)Z"⟩ : MethodName) (head1 (Jvm.Cond.code (⟨"java/lang/String", "equals", "(Ljava/lang/Object;)Z"⟩ : MethodName) jdk_42_method_66_code 3 (some .boolean) :: ws) ({ frames := 1, cells := 0, slots := 0, locals := 14 } : Room)) (fun a U => a = #[(.ref a1), (.ref a2)] ∧ Z.Warmed39 U.vm ∧ U.heap = h0) (fun _ _ _ _ _ => True) (fun _ U o U' => ∃ v L, o = .returned v ∧ Q9_GET_GET Z a1 a2 d1 d2 k1 k2 cs h0 v U'.heap L ∧ FrameEnd U o U' L ({ frames := 1, cells := 0, slots := 0, locals := 14 } : Room).cells ({ frames := 1, cells := 0, slots := 0, locals := 14 } : Room).slots) := by
  refine MetFree.of_bodySF (plainFor_of_name pn_1) hisR ?_
  intro p e s m args below meth c s₁ Bd hml0 hP hK
  obtain ⟨rfl, hZ, hh⟩ := hP
  have hx := Bd.exec
  have hby := Bd.bytes
  have hml : c.maxLocals = 3 := hml0
  have hown : s.vm.findClass "java/lang/String" = some m.cls := findClass_of_methodNamed Bd.named
  have hnm := (name_of_methodNamed Bd.named Bd.method).1
  have X0 : Stand p l e ({ frames := 1, cells := 0, slots := 0, locals := 14 } : Room) s m #[(.ref a1), (.ref a2)] below meth c s₁ [] 0 0 := Stand.of_body Bd
  have e0 : s₁.heap = h0 := by rw [← hh, Bd.state]; rfl
  have pre0 : ∀ t, Steps p.tables e below (s₁.setTop (mkF m 0 #[.val (.ref a1), .val (.ref a2), .unset] [])) t → Steps p.tables e below (s₁.setTop (entryFrame m #[(.ref a1), (.ref a2)] 3)) t := fun t k => castTop (ef_9_GET_GET m a1 a2) k
  obtain ⟨T1, X1, e1, st1⟩ := instY X0 hx hZ hown (hw _ (List.mem_of_getElem? (i := 61) rfl)) e0 (Ins.self E_a2) (g := (mkF m 8 #[vR a1, vR a2, .unset] [iR a2])) rfl rfl (hb hby d9_8)
  obtain ⟨T2, X2, e2, st2⟩ := castY X1 hx hZ hown (hw _ (List.mem_of_getElem? (i := 61) rfl)) e1 (Ins.self E_a2) (g := (mkF m 15 #[vR a1, vR a2, .unset] [iR a2])) rfl rfl (hb hby d9_15)
  obtain ⟨T3, X3, e3, st3⟩ := getS2 X2 hx hZ hown (host := "") (Or.inl (hw _ (List.mem_of_getElem? (i := 15) rfl))) Via.refl e2 (S_CS.ext O0.2) (g := (mkF m 19 #[vR a1, vR a2, vR a2] [])) rfl (hb hby d9_19)
  obtain ⟨T4, X4, e4, st4⟩ := getF X3 hx hZ hown (host := "") (Or.inl (hw _ (List.mem_of_getElem? (i := 27) rfl))) Via.refl e3 C_a1 (g := (mkF m 26 #[vR a1, vR a2, vR a2] [iR a1])) rfl rfl (hb hby d9_26)
  obtain ⟨T5, X5, e5, st5⟩ := getF X4 hx hZ hown (host := "") (Or.inl (hw _ (List.mem_of_getElem? (i := 27) rfl))) Via.refl e4 C_a2 (g := (mkF m 30 #[vR a1, vR a2, vR a2] [iR a2, iI 0])) rfl rfl (hb hby d9_30)
  obtain ⟨T6, X6, e6, st6⟩ := getF X5 hx hZ hown (host := "") (Or.inl (hw _ (List.mem_of_getElem? (i := 29) rfl))) Via.refl e5 W_a1 (g := (mkF m 37 #[vR a1, vR a2, vR a2] [iR a1])) rfl rfl (hb hby d9_37)
  obtain ⟨T7, X7, e7, st7⟩ := getF X6 hx hZ hown (host := "") (Or.inl (hw _ (List.mem_of_getElem? (i := 29) rfl))) Via.refl e6 W_a2 (g := (mkF m 41 #[vR a1, vR a2, vR a2] [iR a2, iR d1])) rfl rfl (hb hby d9_41)
  obtain ⟨_, _, ⟨T8, L8, k8, n8⟩, -, X8, ⟨Lc8, hQ8, l8, y8, z8⟩, st8⟩ := Jvm.LawKit.callS X7 hx (y := (⟨"java/lang/StringLatin1", "equals", "([B[B)Z"⟩ : MethodName)) hown (mvT hZ (hw _ (List.mem_of_getElem? (i := 62) rfl))) (mvT hZ (hw _ (List.mem_of_getElem? (i := 63) rfl))) (mvT hZ (hw _ (List.mem_of_getElem? (i := 64) rfl))) (mvT hZ (hw _ (List.mem_of_getElem? (i := 65) rfl))) (by decide) (backOf (W := 0) (rm10_GET_GET l Z a0 hw [] d1 d2 k1 k2 h0 V_1 V_2) hZ (hw _ (List.mem_of_getElem? (i := 65) rfl)) (hw _ (List.mem_of_getElem? (i := 64) rfl)) (by decide) (by decide)) (g := (mkF m 44 #[vR a1, vR a2, vR a2] [iR d2, iR d1])) rfl (by rw [hml]; rfl) (argsL := [(.ref d1), (.ref d2)]) (rest := []) (lenOf pd_4 rfl) rfl (by show 2 * 0 + _ ≤ _; exact Nat.le_of_eq rfl) (hb hby d9_44) (fun _ _ => ⟨rfl, e7, (by decide : 0 + 0 ≤ _), (by decide : 0 + 0 ≤ _)⟩)
  dsimp only [Pt.U, Pt.locs, Pt.cells, Pt.slots] at X8 l8 y8 z8 st8 hQ8
  subst l8 y8 z8
  obtain ⟨rfl, rfl, e8⟩ := hQ8
  try rw [List.append_nil] at X8
  obtain ⟨fs, hr, hrun, hended, hW, hsame⟩ := X8.leave (v := some (.int (1 : Int32))) (fun h => by rw [Bd.returns] at h; cases h)
  refine ⟨_, _, pre0 _ ?_, hrun, hended, _, _, rfl, ?_, ⟨_, rfl⟩, hW, hsame.mono (by decide) (by decide)⟩
  · show Steps _ _ _ (s₁.setTop (mkF m 0 #[vR a1, vR a2, .unset] [])) _
    refine XS.aloadN X0.here hx rfl (hb hby d9_0) rfl rfl ?_
    show Steps _ _ _ (s₁.setTop (mkF m 1 #[vR a1, vR a2, .unset] [iR a1])) _
    refine XS.aloadN X0.here hx rfl (hb hby d9_1) rfl rfl ?_
    show Steps _ _ _ (s₁.setTop (mkF m 2 #[vR a1, vR a2, .unset] [iR a2, iR a1])) _
    refine Jvm.RoadKit.acmp (g := (mkF m 2 #[vR a1, vR a2, .unset] [iR a2, iR a1])) X0 hx rfl rfl rfl (pc0 := 2) (pc' := 7) (same := false) rfl (hb hby d9_2) rfl (decide_eq_false fun q => ne_a1_a2 (Value.ref.inj q)) (by decide) (by decide) ?_
    show Steps _ _ _ (s₁.setTop (mkF m 7 #[vR a1, vR a2, .unset] [])) _
    refine XS.aloadN X0.here hx rfl (hb hby d9_7) rfl rfl ?_
    show Steps _ _ _ (s₁.setTop (mkF m 8 #[vR a1, vR a2, .unset] [iR a2])) _
    refine st1 _ ?_
    show Steps _ _ _ (T1.setTop (mkF m 11 #[vR a1, vR a2, .unset] [iI 1])) _
    refine XS.ifNo X1.here hx rfl (hb hby d9_11) rfl ((if0 _ _).trans (feq (by decide : ¬ ((1 : Int32) = (0 : Int32)))).1) ?_
    show Steps _ _ _ (T1.setTop (mkF m 14 #[vR a1, vR a2, .unset] [])) _
    refine XS.aloadN X1.here hx rfl (hb hby d9_14) rfl rfl ?_
    show Steps _ _ _ (T1.setTop (mkF m 15 #[vR a1, vR a2, .unset] [iR a2])) _
    refine st2 _ ?_
    show Steps _ _ _ (T2.setTop (mkF m 18 #[vR a1, vR a2, .unset] [iR a2])) _
    refine XS.astoreN X2.here hx rfl (hb hby d9_18) rfl rfl (l' := #[vR a1, vR a2, vR a2]) rfl ?_
    show Steps _ _ _ (T2.setTop (mkF m 19 #[vR a1, vR a2, vR a2] [])) _
    refine st3 _ ?_
    show Steps _ _ _ (T3.setTop (mkF m 22 #[vR a1, vR a2, vR a2] [iI cs])) _
    refine XS.ifNo X3.here hx rfl (hb hby d9_22) rfl ((if0 _ _).trans (feq h_cs).1) ?_
    show Steps _ _ _ (T3.setTop (mkF m 25 #[vR a1, vR a2, vR a2] [])) _
    refine XS.aloadN X3.here hx rfl (hb hby d9_25) rfl rfl ?_
    show Steps _ _ _ (T3.setTop (mkF m 26 #[vR a1, vR a2, vR a2] [iR a1])) _
    refine st4 _ ?_
    show Steps _ _ _ (T4.setTop (mkF m 29 #[vR a1, vR a2, vR a2] [iI 0])) _
    refine XS.aloadN X4.here hx rfl (hb hby d9_29) rfl rfl ?_
    show Steps _ _ _ (T4.setTop (mkF m 30 #[vR a1, vR a2, vR a2] [iR a2, iI 0])) _
    refine st5 _ ?_
    show Steps _ _ _ (T5.setTop (mkF m 33 #[vR a1, vR a2, vR a2] [iI 0, iI 0])) _
    refine XS.icmpNo X5.here hx rfl (hb hby d9_33) rfl (teq (by decide : (0 : Int32) = (0 : Int32))).2 ?_
    show Steps _ _ _ (T5.setTop (mkF m 36 #[vR a1, vR a2, vR a2] [])) _
    refine XS.aloadN X5.here hx rfl (hb hby d9_36) rfl rfl ?_
    show Steps _ _ _ (T5.setTop (mkF m 37 #[vR a1, vR a2, vR a2] [iR a1])) _
    refine st6 _ ?_
    show Steps _ _ _ (T6.setTop (mkF m 40 #[vR a1, vR a2, vR a2] [iR d1])) _
    refine XS.aloadN X6.here hx rfl (hb hby d9_40) rfl rfl ?_
    show Steps _ _ _ (T6.setTop (mkF m 41 #[vR a1, vR a2, vR a2] [iR a2, iR d1])) _
    refine st7 _ ?_
    show Steps _ _ _ (T7.setTop (mkF m 44 #[vR a1, vR a2, vR a2] [iR d2, iR d1])) _
    refine st8 _ ?_
    show Steps _ _ _ (T8.setTop (mkF m 47 #[vR a1, vR a2, vR a2] [iI 1])) _
    refine XS.ifNo X8.here hx rfl (hb hby d9_47) rfl ((if0 _ _).trans (feq (by decide : ¬ ((1 : Int32) = (0 : Int32)))).1) ?_
    show Steps _ _ _ (T8.setTop (mkF m 50 #[vR a1, vR a2, vR a2] [])) _
    refine XS.iconst X8.here hx rfl (hb hby d9_50) ?_
    show Steps _ _ _ (T8.setTop (mkF m 51 #[vR a1, vR a2, vR a2] [iI 1])) _
    refine XS.goto X8.here hx rfl (pc0 := 51) (pc' := 55) rfl (hb hby d9_51) (by decide) (by decide) ?_
    show Steps _ _ _ (T8.setTop (mkF m 55 #[vR a1, vR a2, vR a2] [iI 1])) _
    exact retN X8 hx (t := .boolean) Bd.returns (by simp) (hb hby d9_55) hr
  · show Q9_GET_GET Z a1 a2 d1 d2 k1 k2 cs h0 _ T8.heap _
    rw [e8]
    exact ⟨rfl, rfl, rfl⟩
theorem d8_0 : decode prog_2_method_1_code 0 = .ok (.getstatic 13, 3) := by decide +kernel
theorem d8_3 : decode prog_2_method_1_code 3 = .ok (.invokevirtual 17, 3) := by decide +kernel
theorem d8_6 : decode prog_2_method_1_code 6 = .ok (.checkcast 18, 3) := by decide +kernel
theorem d8_9 : decode prog_2_method_1_code 9 = .ok (.areturn, 1) := by decide +kernel
theorem pn_3 : plainName "com/example/plainjson/cli/Command" = true := by first | (simp [plainName, overriddenIn]; done) | decide +kernel
theorem ef_8 (m : MethodId)  : entryFrame m #[] 0 = mkF m 0 #[] [] := by first | (simp [entryFrame, mkF, argsToLocals, Value.category]; done) | rfl
def Q8 (Z : State) (cs : Int32) (s_V : Addr) (kV : ClassId) (s_VALIDATE l_VALIDATE d_VALIDATE : Addr) (k_VALIDATE : ClassId) (s_FORMAT l_FORMAT d_FORMAT : Addr) (k_FORMAT : ClassId) (s_GET l_GET d_GET : Addr) (k_GET : ClassId) (h0 : Heap) (n0 : Nat) (v : Option Value) (h : Heap) (L : List Loc) : Prop := ∃ (b : Addr), v = some (.ref b) ∧ Fr n0 L ∧ Keep h0 h [] ∧ Arv Z h b kV (.object "com/example/plainjson/cli/Command") (3 : Int32) [(.ref s_VALIDATE), (.ref s_FORMAT), (.ref s_GET)] .null ∧ h0.size ≤ b
set_option maxRecDepth 65536 in
set_option maxHeartbeats 40000000 in
theorem rm8 (l : Launch) (Z : State) (a0 : Array Value) (hw : ∀ d ∈ tables_1, d.before a0 Z = true) (ws : List Jvm.Cond) (cs : Int32) (s_V : Addr) (kV : ClassId) (s_VALIDATE l_VALIDATE d_VALIDATE : Addr) (k_VALIDATE : ClassId) (s_FORMAT l_FORMAT d_FORMAT : Addr) (k_FORMAT : ClassId) (s_GET l_GET d_GET : Addr) (k_GET : ClassId) (h0 : Heap) (n0 : Nat) (Z0 : n0 ≤ h0.size) (O0 : Old Z n0 h0) (S_CS : Sta Z Z.heap "java/lang/String" "COMPACT_STRINGS" "Z" (.int cs)) (h_cs : ¬ cs = (0 : Int32)) (S_V : Sta Z Z.heap "com/example/plainjson/cli/Command" "$VALUES" "[Lcom/example/plainjson/cli/Command;" (.ref s_V)) (V_V : Arv Z Z.heap s_V kV (.object "com/example/plainjson/cli/Command") (3 : Int32) [(.ref s_VALIDATE), (.ref s_FORMAT), (.ref s_GET)] .null) (E_V : Exa Z Z.heap s_V "[Lcom/example/plainjson/cli/Command;") (S_VALIDATE : Sta Z Z.heap "com/example/plainjson/cli/Command" "VALIDATE" "Lcom/example/plainjson/cli/Command;" (.ref s_VALIDATE)) (E_VALIDATE : Exa Z Z.heap s_VALIDATE "com/example/plainjson/cli/Command") (L_VALIDATE : Fld Z Z.heap s_VALIDATE "com/example/plainjson/cli/Command" "label" "Ljava/lang/String;" (.ref l_VALIDATE)) (G_VALIDATE : Exa Z Z.heap l_VALIDATE "java/lang/String") (C_VALIDATE : Fld Z Z.heap l_VALIDATE "java/lang/String" "coder" "B" (.int (0 : Int32))) (W_VALIDATE : Fld Z Z.heap l_VALIDATE "java/lang/String" "value" "[B" (.ref d_VALIDATE)) (V_VALIDATE : Arv Z Z.heap d_VALIDATE k_VALIDATE .byte (8 : Int32) [(.int (118 : Int32)), (.int (97 : Int32)), (.int (108 : Int32)), (.int (105 : Int32)), (.int (100 : Int32)), (.int (97 : Int32)), (.int (116 : Int32)), (.int (101 : Int32))] (.int (0 : Int32))) (S_FORMAT : Sta Z Z.heap "com/example/plainjson/cli/Command" "FORMAT" "Lcom/example/plainjson/cli/Command;" (.ref s_FORMAT)) (E_FORMAT : Exa Z Z.heap s_FORMAT "com/example/plainjson/cli/Command") (L_FORMAT : Fld Z Z.heap s_FORMAT "com/example/plainjson/cli/Command" "label" "Ljava/lang/String;" (.ref l_FORMAT)) (G_FORMAT : Exa Z Z.heap l_FORMAT "java/lang/String") (C_FORMAT : Fld Z Z.heap l_FORMAT "java/lang/String" "coder" "B" (.int (0 : Int32))) (W_FORMAT : Fld Z Z.heap l_FORMAT "java/lang/String" "value" "[B" (.ref d_FORMAT)) (V_FORMAT : Arv Z Z.heap d_FORMAT k_FORMAT .byte (6 : Int32) [(.int (102 : Int32)), (.int (111 : Int32)), (.int (114 : Int32)), (.int (109 : Int32)), (.int (97 : Int32)), (.int (116 : Int32))] (.int (0 : Int32))) (S_GET : Sta Z Z.heap "com/example/plainjson/cli/Command" "GET" "Lcom/example/plainjson/cli/Command;" (.ref s_GET)) (E_GET : Exa Z Z.heap s_GET "com/example/plainjson/cli/Command") (L_GET : Fld Z Z.heap s_GET "com/example/plainjson/cli/Command" "label" "Ljava/lang/String;" (.ref l_GET)) (G_GET : Exa Z Z.heap l_GET "java/lang/String") (C_GET : Fld Z Z.heap l_GET "java/lang/String" "coder" "B" (.int (0 : Int32))) (W_GET : Fld Z Z.heap l_GET "java/lang/String" "value" "[B" (.ref d_GET)) (V_GET : Arv Z Z.heap d_GET k_GET .byte (3 : Int32) [(.int (103 : Int32)), (.int (101 : Int32)), (.int (116 : Int32))] (.int (0 : Int32))) :
    MetFree l (⟨"com/example/plainjson/cli/Command", "values", "()[Lcom/example/plainjson/cli/Command;"⟩ : MethodName) (head1 (Jvm.Cond.code (⟨"com/example/plainjson/cli/Command", "values", "()[Lcom/example/plainjson/cli/Command;"⟩ : MethodName) prog_2_method_1_code 0 (some (.array (.object "com/example/plainjson/cli/Command"))) :: ws) ({ frames := 1, cells := 1, slots := 3, locals := 14 } : Room)) (fun a U => a = #[] ∧ Z.Warmed39 U.vm ∧ U.heap = h0) (fun _ _ _ _ _ => True) (fun _ U o U' => ∃ v L, o = .returned v ∧ Q8 Z cs s_V kV s_VALIDATE l_VALIDATE d_VALIDATE k_VALIDATE s_FORMAT l_FORMAT d_FORMAT k_FORMAT s_GET l_GET d_GET k_GET h0 n0 v U'.heap L ∧ FrameEnd U o U' L ({ frames := 1, cells := 1, slots := 3, locals := 14 } : Room).cells ({ frames := 1, cells := 1, slots := 3, locals := 14 } : Room).slots) := by
  refine MetFree.of_bodySF (plainFor_of_name pn_3) hisR ?_
  intro p e s m args below meth c s₁ Bd hml0 hP hK
  obtain ⟨rfl, hZ, hh⟩ := hP
  have hx := Bd.exec
  have hby := Bd.bytes
  have hml : c.maxLocals = 0 := hml0
  have hown : s.vm.findClass "com/example/plainjson/cli/Command" = some m.cls := findClass_of_methodNamed Bd.named
  have hnm := (name_of_methodNamed Bd.named Bd.method).1
  have X0 : Stand p l e ({ frames := 1, cells := 1, slots := 3, locals := 14 } : Room) s m #[] below meth c s₁ [] 0 0 := Stand.of_body Bd
  have e0 : s₁.heap = h0 := by rw [← hh, Bd.state]; rfl
  have N0 := Fr.nil n0
  have K0 := Keep.refl h0 []
  have pre0 : ∀ t, Steps p.tables e below (s₁.setTop (mkF m 0 #[] [])) t → Steps p.tables e below (s₁.setTop (entryFrame m #[] 0)) t := fun t k => castTop (ef_8 m ) k
  obtain ⟨T1, X1, e1, st1⟩ := getS2 X0 hx hZ hown (host := "") (Or.inl (hw _ (List.mem_of_getElem? (i := 40) rfl))) Via.refl e0 (S_V.ext O0.2) (g := (mkF m 0 #[] [])) rfl (hb hby d8_0)
  obtain ⟨T2, h2, X2, e2, E2, A2, B2, st2⟩ := cloneH X1 hx hZ hown (hw _ (List.mem_of_getElem? (i := 42) rfl)) (hw _ (List.mem_of_getElem? (i := 43) rfl)) (hw _ (List.mem_of_getElem? (i := 47) rfl)) (hw _ (List.mem_of_getElem? (i := 45) rfl)) (hw _ (List.mem_of_getElem? (i := 46) rfl)) (hw _ (List.mem_of_getElem? (i := 48) rfl)) e1 (V_V.ext O0.2).arh (E_V.ext O0.2) (g := (mkF m 3 #[] [iR s_V])) rfl (by rw [hml]; rfl) rfl (hb hby d8_3) (by decide) (W := 0) (cap := 3) (by show 2 * 0 + _ ≤ _; exact Nat.le_of_eq rfl) (by decide) (by decide) (by decide) (by decide)
  obtain ⟨b2, g2⟩ : ∃ z, z = h0.size := ⟨_, rfl⟩
  rw [← g2] at A2 B2 st2
  have sz_b2 : h0.size ≤ b2 := Nat.le_trans K0.1 (Nat.le_of_eq g2.symm)
  have g_b2 : n0 ≤ b2 := Nat.le_trans Z0 sz_b2
  have K2 : Keep h0 h2 [] := K0.ext E2
  have V2 : Arv Z h2 b2 kV (.object "com/example/plainjson/cli/Command") (3 : Int32) [(.ref s_VALIDATE), (.ref s_FORMAT), (.ref s_GET)] .null := A2
  obtain ⟨T3, X3, e3, st3⟩ := castY X2 hx hZ hown (hw _ (List.mem_of_getElem? (i := 52) rfl)) e2 (Ins.self B2) (g := (mkF m 6 #[] [iR b2])) rfl rfl (hb hby d8_6)
  obtain ⟨fs, hr, hrun, hended, hW, hsame⟩ := X3.leave (v := some (.ref b2)) (fun h => by rw [Bd.returns] at h; cases h)
  refine ⟨_, _, pre0 _ ?_, hrun, hended, _, _, rfl, ?_, ⟨_, rfl⟩, hW, hsame.mono (by decide) (by decide)⟩
  · show Steps _ _ _ (s₁.setTop (mkF m 0 #[] [])) _
    refine st1 _ ?_
    show Steps _ _ _ (T1.setTop (mkF m 3 #[] [iR s_V])) _
    refine st2 _ ?_
    show Steps _ _ _ (T2.setTop (mkF m 6 #[] [iR b2])) _
    refine st3 _ ?_
    show Steps _ _ _ (T3.setTop (mkF m 9 #[] [iR b2])) _
    jvm_step X3.here [X3.here.top, hx, (hb hby d8_9), X3.method', Bd.returns, Value.isRef, FieldType.isReference]
    first | (intro acts; rw [hr _ acts rfl rfl rfl]) | rw [hr _ _ rfl rfl rfl]
    exact Steps.refl _
  · show Q8 Z cs s_V kV s_VALIDATE l_VALIDATE d_VALIDATE k_VALIDATE s_FORMAT l_FORMAT d_FORMAT k_FORMAT s_GET l_GET d_GET k_GET h0 n0 _ T3.heap _
    rw [e3]
    exact ⟨_, rfl, N0, K2, V2, sz_b2⟩
theorem d7_0 : decode prog_2_method_4_code 0 = .ok (.invokestatic 66, 3) := by decide +kernel
theorem d7_3 : decode prog_2_method_4_code 3 = .ok (.astore_n 1, 1) := by decide +kernel
theorem d7_4 : decode prog_2_method_4_code 4 = .ok (.aload_n 1, 1) := by decide +kernel
theorem d7_5 : decode prog_2_method_4_code 5 = .ok (.arraylength, 1) := by decide +kernel
theorem d7_6 : decode prog_2_method_4_code 6 = .ok (.istore_n 2, 1) := by decide +kernel
theorem d7_7 : decode prog_2_method_4_code 7 = .ok (.iconst 0, 1) := by decide +kernel
theorem d7_8 : decode prog_2_method_4_code 8 = .ok (.istore_n 3, 1) := by decide +kernel
theorem d7_9 : decode prog_2_method_4_code 9 = .ok (.iload_n 3, 1) := by decide +kernel
theorem d7_10 : decode prog_2_method_4_code 10 = .ok (.iload_n 2, 1) := by decide +kernel
theorem d7_11 : decode prog_2_method_4_code 11 = .ok (.if_icmp .ge 29, 3) := by decide +kernel
theorem d7_14 : decode prog_2_method_4_code 14 = .ok (.aload_n 1, 1) := by decide +kernel
theorem d7_15 : decode prog_2_method_4_code 15 = .ok (.iload_n 3, 1) := by decide +kernel
theorem d7_16 : decode prog_2_method_4_code 16 = .ok (.aaload, 1) := by decide +kernel
theorem d7_17 : decode prog_2_method_4_code 17 = .ok (.astore 4, 2) := by decide +kernel
theorem d7_19 : decode prog_2_method_4_code 19 = .ok (.aload 4, 2) := by decide +kernel
theorem d7_21 : decode prog_2_method_4_code 21 = .ok (.getfield 48, 3) := by decide +kernel
theorem d7_24 : decode prog_2_method_4_code 24 = .ok (.aload_n 0, 1) := by decide +kernel
theorem d7_25 : decode prog_2_method_4_code 25 = .ok (.invokevirtual 70, 3) := by decide +kernel
theorem d7_28 : decode prog_2_method_4_code 28 = .ok (.ifCond .eq 6, 3) := by decide +kernel
theorem d7_31 : decode prog_2_method_4_code 31 = .ok (.aload 4, 2) := by decide +kernel
theorem d7_33 : decode prog_2_method_4_code 33 = .ok (.areturn, 1) := by decide +kernel
theorem ef_7_VALIDATE (m : MethodId) (x0 : Addr) : entryFrame m #[(.ref x0)] 5 = mkF m 0 #[.val (.ref x0), .unset, .unset, .unset, .unset] [] := by first | (simp [entryFrame, mkF, argsToLocals, Value.category]; done) | rfl
def Q7_VALIDATE (Z : State) (a1 : Addr) (dd : Addr) (kd : ClassId) (cs : Int32) (s_V : Addr) (kV : ClassId) (s_VALIDATE l_VALIDATE d_VALIDATE : Addr) (k_VALIDATE : ClassId) (s_FORMAT l_FORMAT d_FORMAT : Addr) (k_FORMAT : ClassId) (s_GET l_GET d_GET : Addr) (k_GET : ClassId) (h0 : Heap) (n0 : Nat) (v : Option Value) (h : Heap) (L : List Loc) : Prop := v = some (.ref s_VALIDATE) ∧ Fr n0 L ∧ Keep h0 h []
set_option maxRecDepth 65536 in
set_option maxHeartbeats 40000000 in
theorem rm7_VALIDATE (l : Launch) (Z : State) (a0 : Array Value) (hw : ∀ d ∈ tables_1, d.before a0 Z = true) (ws : List Jvm.Cond) (a1 : Addr) (dd : Addr) (kd : ClassId) (cs : Int32) (s_V : Addr) (kV : ClassId) (s_VALIDATE l_VALIDATE d_VALIDATE : Addr) (k_VALIDATE : ClassId) (s_FORMAT l_FORMAT d_FORMAT : Addr) (k_FORMAT : ClassId) (s_GET l_GET d_GET : Addr) (k_GET : ClassId) (h0 : Heap) (n0 : Nat) (Z0 : n0 ≤ h0.size) (O0 : Old Z n0 h0) (E_a1 : Exa Z h0 a1 "java/lang/String") (C_a1 : Fld Z h0 a1 "java/lang/String" "coder" "B" (.int (0 : Int32))) (W_a1 : Fld Z h0 a1 "java/lang/String" "value" "[B" (.ref dd)) (V_dd : Arv Z h0 dd kd .byte (8 : Int32) [(.int (118 : Int32)), (.int (97 : Int32)), (.int (108 : Int32)), (.int (105 : Int32)), (.int (100 : Int32)), (.int (97 : Int32)), (.int (116 : Int32)), (.int (101 : Int32))] (.int (0 : Int32))) (g_a1 : n0 ≤ a1) (S_CS : Sta Z Z.heap "java/lang/String" "COMPACT_STRINGS" "Z" (.int cs)) (h_cs : ¬ cs = (0 : Int32)) (S_V : Sta Z Z.heap "com/example/plainjson/cli/Command" "$VALUES" "[Lcom/example/plainjson/cli/Command;" (.ref s_V)) (V_V : Arv Z Z.heap s_V kV (.object "com/example/plainjson/cli/Command") (3 : Int32) [(.ref s_VALIDATE), (.ref s_FORMAT), (.ref s_GET)] .null) (E_V : Exa Z Z.heap s_V "[Lcom/example/plainjson/cli/Command;") (S_VALIDATE : Sta Z Z.heap "com/example/plainjson/cli/Command" "VALIDATE" "Lcom/example/plainjson/cli/Command;" (.ref s_VALIDATE)) (E_VALIDATE : Exa Z Z.heap s_VALIDATE "com/example/plainjson/cli/Command") (L_VALIDATE : Fld Z Z.heap s_VALIDATE "com/example/plainjson/cli/Command" "label" "Ljava/lang/String;" (.ref l_VALIDATE)) (G_VALIDATE : Exa Z Z.heap l_VALIDATE "java/lang/String") (C_VALIDATE : Fld Z Z.heap l_VALIDATE "java/lang/String" "coder" "B" (.int (0 : Int32))) (W_VALIDATE : Fld Z Z.heap l_VALIDATE "java/lang/String" "value" "[B" (.ref d_VALIDATE)) (V_VALIDATE : Arv Z Z.heap d_VALIDATE k_VALIDATE .byte (8 : Int32) [(.int (118 : Int32)), (.int (97 : Int32)), (.int (108 : Int32)), (.int (105 : Int32)), (.int (100 : Int32)), (.int (97 : Int32)), (.int (116 : Int32)), (.int (101 : Int32))] (.int (0 : Int32))) (S_FORMAT : Sta Z Z.heap "com/example/plainjson/cli/Command" "FORMAT" "Lcom/example/plainjson/cli/Command;" (.ref s_FORMAT)) (E_FORMAT : Exa Z Z.heap s_FORMAT "com/example/plainjson/cli/Command") (L_FORMAT : Fld Z Z.heap s_FORMAT "com/example/plainjson/cli/Command" "label" "Ljava/lang/String;" (.ref l_FORMAT)) (G_FORMAT : Exa Z Z.heap l_FORMAT "java/lang/String") (C_FORMAT : Fld Z Z.heap l_FORMAT "java/lang/String" "coder" "B" (.int (0 : Int32))) (W_FORMAT : Fld Z Z.heap l_FORMAT "java/lang/String" "value" "[B" (.ref d_FORMAT)) (V_FORMAT : Arv Z Z.heap d_FORMAT k_FORMAT .byte (6 : Int32) [(.int (102 : Int32)), (.int (111 : Int32)), (.int (114 : Int32)), (.int (109 : Int32)), (.int (97 : Int32)), (.int (116 : Int32))] (.int (0 : Int32))) (S_GET : Sta Z Z.heap "com/example/plainjson/cli/Command" "GET" "Lcom/example/plainjson/cli/Command;" (.ref s_GET)) (E_GET : Exa Z Z.heap s_GET "com/example/plainjson/cli/Command") (L_GET : Fld Z Z.heap s_GET "com/example/plainjson/cli/Command" "label" "Ljava/lang/String;" (.ref l_GET)) (G_GET : Exa Z Z.heap l_GET "java/lang/String") (C_GET : Fld Z Z.heap l_GET "java/lang/String" "coder" "B" (.int (0 : Int32))) (W_GET : Fld Z Z.heap l_GET "java/lang/String" "value" "[B" (.ref d_GET)) (V_GET : Arv Z Z.heap d_GET k_GET .byte (3 : Int32) [(.int (103 : Int32)), (.int (101 : Int32)), (.int (116 : Int32))] (.int (0 : Int32))) :
    MetFree l (⟨"com/example/plainjson/cli/Command", "named", "(Ljava/lang/String;)Lcom/example/plainjson/cli/Command;"⟩ : MethodName) (head1 (Jvm.Cond.code (⟨"com/example/plainjson/cli/Command", "named", "(Ljava/lang/String;)Lcom/example/plainjson/cli/Command;"⟩ : MethodName) prog_2_method_4_code 5 (some (.object "com/example/plainjson/cli/Command")) :: ws) ({ frames := 2, cells := 1, slots := 3, locals := 28 } : Room)) (fun a U => a = #[(.ref a1)] ∧ Z.Warmed39 U.vm ∧ U.heap = h0) (fun _ _ _ _ _ => True) (fun _ U o U' => ∃ v L, o = .returned v ∧ Q7_VALIDATE Z a1 dd kd cs s_V kV s_VALIDATE l_VALIDATE d_VALIDATE k_VALIDATE s_FORMAT l_FORMAT d_FORMAT k_FORMAT s_GET l_GET d_GET k_GET h0 n0 v U'.heap L ∧ FrameEnd U o U' L ({ frames := 2, cells := 1, slots := 3, locals := 28 } : Room).cells ({ frames := 2, cells := 1, slots := 3, locals := 28 } : Room).slots) := by
  refine MetFree.of_bodySF (plainFor_of_name pn_3) hisR ?_
  intro p e s m args below meth c s₁ Bd hml0 hP hK
  obtain ⟨rfl, hZ, hh⟩ := hP
  have hx := Bd.exec
  have hby := Bd.bytes
  have hml : c.maxLocals = 5 := hml0
  have hown : s.vm.findClass "com/example/plainjson/cli/Command" = some m.cls := findClass_of_methodNamed Bd.named
  have hnm := (name_of_methodNamed Bd.named Bd.method).1
  have X0 : Stand p l e ({ frames := 2, cells := 1, slots := 3, locals := 28 } : Room) s m #[(.ref a1)] below meth c s₁ [] 0 0 := Stand.of_body Bd
  have e0 : s₁.heap = h0 := by rw [← hh, Bd.state]; rfl
  have N0 := Fr.nil n0
  have K0 := Keep.refl h0 []
  have pre0 : ∀ t, Steps p.tables e below (s₁.setTop (mkF m 0 #[.val (.ref a1), .unset, .unset, .unset, .unset] [])) t → Steps p.tables e below (s₁.setTop (entryFrame m #[(.ref a1)] 5)) t := fun t k => castTop (ef_7_VALIDATE m a1) k
  obtain ⟨_, _, ⟨T1, L1, k1, n1⟩, -, X1, ⟨Lc1, hQ1, l1, y1, z1⟩, st1⟩ := Jvm.LawKit.callS X0 hx (y := (⟨"com/example/plainjson/cli/Command", "values", "()[Lcom/example/plainjson/cli/Command;"⟩ : MethodName)) hown (mvT hZ (hw _ (List.mem_of_getElem? (i := 37) rfl))) (mvT hZ (hw _ (List.mem_of_getElem? (i := 38) rfl))) (mvT hZ (hw _ (List.mem_of_getElem? (i := 32) rfl))) (mvT hZ (hw _ (List.mem_of_getElem? (i := 39) rfl))) (by decide) (backOf (W := 0) (rm8 l Z a0 hw [] cs s_V kV s_VALIDATE l_VALIDATE d_VALIDATE k_VALIDATE s_FORMAT l_FORMAT d_FORMAT k_FORMAT s_GET l_GET d_GET k_GET h0 n0 (Nat.le_trans Z0 K0.1) O0 S_CS h_cs S_V V_V E_V S_VALIDATE E_VALIDATE L_VALIDATE G_VALIDATE C_VALIDATE W_VALIDATE V_VALIDATE S_FORMAT E_FORMAT L_FORMAT G_FORMAT C_FORMAT W_FORMAT V_FORMAT S_GET E_GET L_GET G_GET C_GET W_GET V_GET) hZ (hw _ (List.mem_of_getElem? (i := 39) rfl)) (hw _ (List.mem_of_getElem? (i := 32) rfl)) (by decide) (by decide)) (g := (mkF m 0 #[vR a1, .unset, .unset, .unset, .unset] [])) rfl (by rw [hml]; rfl) (argsL := []) (rest := []) (lenOf pd_5 rfl) rfl (by show 2 * 0 + _ ≤ _; exact Nat.le_of_eq rfl) (hb hby d7_0) (fun _ _ => ⟨rfl, e0, (by decide : 0 + 1 ≤ _), (by decide : 0 + 3 ≤ _)⟩)
  dsimp only [Pt.U, Pt.locs, Pt.cells, Pt.slots] at X1 l1 y1 z1 st1 hQ1
  subst l1 y1 z1
  obtain ⟨d1, rfl, N1q, K1q, V1q, z_d1⟩ := hQ1
  have ne_a1_d1 : a1 ≠ d1 := Nat.ne_of_lt (Nat.lt_of_lt_of_le E_a1.lt z_d1)
  have ne_dd_d1 : dd ≠ d1 := Nat.ne_of_lt (Nat.lt_of_lt_of_le V_dd.lt z_d1)
  have sz_d1 : h0.size ≤ d1 := Nat.le_trans K0.1 z_d1
  have g_d1 : n0 ≤ d1 := Nat.le_trans Z0 sz_d1
  have N1 := Fr.app N0 N1q
  have K1 : Keep h0 T1.heap [] := Keep.trans K0 K1q all0
  obtain ⟨cl2, Ar2, q2, S2, M2, H2, G2⟩ := id V1q
  have hin3 : ¬ ((0 : Int32) < 0 ∨ cl2.slots.size ≤ ((0 : Int32)).toNatClampNeg) := inb_of S2 ⟨by decide, by decide⟩
  have hat4 : cl2.slots[((0 : Int32)).toNatClampNeg]? = some (.ref s_VALIDATE) := Has.at H2 hin3 rfl
  have Oh5 := O0.keep K1 all0
  have fo6 := L_VALIDATE.ext Oh5.2
  obtain ⟨T7, X7, e7, st7⟩ := getF X1 hx hZ hown (host := "") (Or.inl (hw _ (List.mem_of_getElem? (i := 54) rfl))) Via.refl rfl fo6 (g := (mkF m 21 #[vR a1, vR d1, vI 3, vI 0, vR s_VALIDATE] [iR s_VALIDATE])) rfl rfl (hb hby d7_21)
  have fo9 := G_VALIDATE.ext Oh5.2
  have fo10 := C_VALIDATE.ext Oh5.2
  have fo11 := W_VALIDATE.ext Oh5.2
  have fo12 := V_VALIDATE.ext Oh5.2
  have fk13 := (E_a1.keep K1q)
  have fk14 := (C_a1.keep K1q nin0)
  have fk15 := (W_a1.keep K1q nin0)
  have fk16 := (V_dd.keep K1q nin0)
  obtain ⟨cq8, kq8, q8a, q8b, q8c⟩ := isOf hZ e7 fo9
  obtain ⟨_, _, ⟨T8, L8, k8, n8⟩, -, X8, ⟨Lc8, hQ8, l8, y8, z8⟩, st8⟩ := X7.virtualBack hx (y := (⟨"java/lang/String", "equals", "(Ljava/lang/Object;)Z"⟩ : MethodName)) (z := (⟨"java/lang/String", "equals", "(Ljava/lang/Object;)Z"⟩ : MethodName)) hown (mvT hZ (hw _ (List.mem_of_getElem? (i := 56) rfl))) (mvT hZ (hw _ (List.mem_of_getElem? (i := 57) rfl))) (notFace_of_selects (args := #[]) (mvT hZ (hw _ (List.mem_of_getElem? (i := 59) rfl)))) (mvT hZ (hw _ (List.mem_of_getElem? (i := 59) rfl))) (mvT hZ (hw _ (List.mem_of_getElem? (i := 58) rfl))) (by decide) (backOf (W := 0) (rm9_VALIDATE_VALIDATE l Z a0 hw [] l_VALIDATE a1 d_VALIDATE dd k_VALIDATE kd cs T1.heap n0 Oh5 fo9 fo10 fo11 fo12 fk13 fk14 fk15 fk16 (O0.ne G_VALIDATE.lt g_a1) S_CS h_cs) hZ (hw _ (List.mem_of_getElem? (i := 60) rfl)) (hw _ (List.mem_of_getElem? (i := 3) rfl)) (by decide) (by decide)) q8a q8c (g := (mkF m 25 #[vR a1, vR d1, vI 3, vI 0, vR s_VALIDATE] [iR a1, iR l_VALIDATE])) rfl (by rw [hml]; rfl) (Steps.refl _) (argsL := [(.ref a1)]) (rest := []) (lenOf pd_6 rfl) rfl (by show 2 * 0 + _ ≤ _; exact Nat.le_of_eq rfl) (hb hby d7_25) (fun _ _ => ⟨rfl, e7, (by decide : 1 + 0 ≤ _), (by decide : 3 + 0 ≤ _)⟩)
  dsimp only [Pt.U, Pt.locs, Pt.cells, Pt.slots] at X8 l8 y8 z8 st8 hQ8
  subst l8 y8 z8
  obtain ⟨rfl, rfl, e8⟩ := hQ8
  try rw [List.append_nil] at X8
  obtain ⟨fs, hr, hrun, hended, hW, hsame⟩ := X8.leave (v := some (.ref s_VALIDATE)) (fun h => by rw [Bd.returns] at h; cases h)
  refine ⟨_, _, pre0 _ ?_, hrun, hended, _, _, rfl, ?_, ⟨_, rfl⟩, hW, hsame.mono (by decide) (by decide)⟩
  · show Steps _ _ _ (s₁.setTop (mkF m 0 #[vR a1, .unset, .unset, .unset, .unset] [])) _
    refine st1 _ ?_
    show Steps _ _ _ (T1.setTop (mkF m 3 #[vR a1, .unset, .unset, .unset, .unset] [iR d1])) _
    refine XS.astoreN X1.here hx rfl (hb hby d7_3) rfl rfl (l' := #[vR a1, vR d1, .unset, .unset, .unset]) rfl ?_
    show Steps _ _ _ (T1.setTop (mkF m 4 #[vR a1, vR d1, .unset, .unset, .unset] [])) _
    refine XS.aloadN X1.here hx rfl (hb hby d7_4) rfl rfl ?_
    show Steps _ _ _ (T1.setTop (mkF m 5 #[vR a1, vR d1, .unset, .unset, .unset] [iR d1])) _
    refine X1.arraylength hx Ar2.1 (State.isArrayOf_alike hZ.alike Ar2.2.1) (g := (mkF m 5 #[vR a1, vR d1, .unset, .unset, .unset] [iR d1])) rfl rfl (hb hby d7_5) _ ?_
    rw [len_of S2 M2]
    show Steps _ _ _ (T1.setTop (mkF m 6 #[vR a1, vR d1, .unset, .unset, .unset] [iI 3])) _
    refine XS.istoreN X1.here hx rfl (hb hby d7_6) rfl (l' := #[vR a1, vR d1, vI 3, .unset, .unset]) rfl ?_
    show Steps _ _ _ (T1.setTop (mkF m 7 #[vR a1, vR d1, vI 3, .unset, .unset] [])) _
    refine XS.iconst X1.here hx rfl (hb hby d7_7) ?_
    show Steps _ _ _ (T1.setTop (mkF m 8 #[vR a1, vR d1, vI 3, .unset, .unset] [iI 0])) _
    refine XS.istoreN X1.here hx rfl (hb hby d7_8) rfl (l' := #[vR a1, vR d1, vI 3, vI 0, .unset]) rfl ?_
    show Steps _ _ _ (T1.setTop (mkF m 9 #[vR a1, vR d1, vI 3, vI 0, .unset] [])) _
    refine XS.iloadN X1.here hx rfl (hb hby d7_9) rfl ?_
    show Steps _ _ _ (T1.setTop (mkF m 10 #[vR a1, vR d1, vI 3, vI 0, .unset] [iI 0])) _
    refine XS.iloadN X1.here hx rfl (hb hby d7_10) rfl ?_
    show Steps _ _ _ (T1.setTop (mkF m 11 #[vR a1, vR d1, vI 3, vI 0, .unset] [iI 3, iI 0])) _
    refine XS.icmpNo X1.here hx rfl (hb hby d7_11) rfl (tlt (by decide : (0 : Int32) < (3 : Int32))).2.1 ?_
    show Steps _ _ _ (T1.setTop (mkF m 14 #[vR a1, vR d1, vI 3, vI 0, .unset] [])) _
    refine XS.aloadN X1.here hx rfl (hb hby d7_14) rfl rfl ?_
    show Steps _ _ _ (T1.setTop (mkF m 15 #[vR a1, vR d1, vI 3, vI 0, .unset] [iR d1])) _
    refine XS.iloadN X1.here hx rfl (hb hby d7_15) rfl ?_
    show Steps _ _ _ (T1.setTop (mkF m 16 #[vR a1, vR d1, vI 3, vI 0, .unset] [iI 0, iR d1])) _
    refine X1.aaload hx (j := (0 : Int32)) (v := (.ref s_VALIDATE)) Ar2.1 (State.isArrayOf_alike hZ.alike Ar2.2.1) rfl Ar2.2.2 hin3 hat4 (g := (mkF m 16 #[vR a1, vR d1, vI 3, vI 0, .unset] [iI 0, iR d1])) rfl rfl (hb hby d7_16) _ ?_
    show Steps _ _ _ (T1.setTop (mkF m 17 #[vR a1, vR d1, vI 3, vI 0, .unset] [iR s_VALIDATE])) _
    refine XS.astore X1.here hx rfl (hb hby d7_17) rfl rfl (l' := #[vR a1, vR d1, vI 3, vI 0, vR s_VALIDATE]) rfl ?_
    show Steps _ _ _ (T1.setTop (mkF m 19 #[vR a1, vR d1, vI 3, vI 0, vR s_VALIDATE] [])) _
    refine XS.aload X1.here hx rfl (hb hby d7_19) rfl rfl ?_
    show Steps _ _ _ (T1.setTop (mkF m 21 #[vR a1, vR d1, vI 3, vI 0, vR s_VALIDATE] [iR s_VALIDATE])) _
    refine st7 _ ?_
    show Steps _ _ _ (T7.setTop (mkF m 24 #[vR a1, vR d1, vI 3, vI 0, vR s_VALIDATE] [iR l_VALIDATE])) _
    refine XS.aloadN X7.here hx rfl (hb hby d7_24) rfl rfl ?_
    show Steps _ _ _ (T7.setTop (mkF m 25 #[vR a1, vR d1, vI 3, vI 0, vR s_VALIDATE] [iR a1, iR l_VALIDATE])) _
    refine st8.trans ?_
    show Steps _ _ _ (T8.setTop (mkF m 28 #[vR a1, vR d1, vI 3, vI 0, vR s_VALIDATE] [iI 1])) _
    refine XS.ifNo X8.here hx rfl (hb hby d7_28) rfl ((if0 _ _).trans (feq (by decide : ¬ ((1 : Int32) = (0 : Int32)))).1) ?_
    show Steps _ _ _ (T8.setTop (mkF m 31 #[vR a1, vR d1, vI 3, vI 0, vR s_VALIDATE] [])) _
    refine XS.aload X8.here hx rfl (hb hby d7_31) rfl rfl ?_
    show Steps _ _ _ (T8.setTop (mkF m 33 #[vR a1, vR d1, vI 3, vI 0, vR s_VALIDATE] [iR s_VALIDATE])) _
    jvm_step X8.here [X8.here.top, hx, (hb hby d7_33), X8.method', Bd.returns, Value.isRef, FieldType.isReference]
    first | (intro acts; rw [hr _ acts rfl rfl rfl]) | rw [hr _ _ rfl rfl rfl]
    exact Steps.refl _
  · show Q7_VALIDATE Z a1 dd kd cs s_V kV s_VALIDATE l_VALIDATE d_VALIDATE k_VALIDATE s_FORMAT l_FORMAT d_FORMAT k_FORMAT s_GET l_GET d_GET k_GET h0 n0 _ T8.heap _
    rw [e8]
    exact ⟨rfl, N1, K1⟩
theorem d7_34 : decode prog_2_method_4_code 34 = .ok (.iinc 3 1, 3) := by decide +kernel
theorem d7_37 : decode prog_2_method_4_code 37 = .ok (.goto (-28), 3) := by decide +kernel
theorem ef_7_FORMAT (m : MethodId) (x0 : Addr) : entryFrame m #[(.ref x0)] 5 = mkF m 0 #[.val (.ref x0), .unset, .unset, .unset, .unset] [] := by first | (simp [entryFrame, mkF, argsToLocals, Value.category]; done) | rfl
def Q7_FORMAT (Z : State) (a1 : Addr) (dd : Addr) (kd : ClassId) (cs : Int32) (s_V : Addr) (kV : ClassId) (s_VALIDATE l_VALIDATE d_VALIDATE : Addr) (k_VALIDATE : ClassId) (s_FORMAT l_FORMAT d_FORMAT : Addr) (k_FORMAT : ClassId) (s_GET l_GET d_GET : Addr) (k_GET : ClassId) (h0 : Heap) (n0 : Nat) (v : Option Value) (h : Heap) (L : List Loc) : Prop := v = some (.ref s_FORMAT) ∧ Fr n0 L ∧ Keep h0 h []
set_option maxRecDepth 65536 in
set_option maxHeartbeats 40000000 in
theorem rm7_FORMAT (l : Launch) (Z : State) (a0 : Array Value) (hw : ∀ d ∈ tables_1, d.before a0 Z = true) (ws : List Jvm.Cond) (a1 : Addr) (dd : Addr) (kd : ClassId) (cs : Int32) (s_V : Addr) (kV : ClassId) (s_VALIDATE l_VALIDATE d_VALIDATE : Addr) (k_VALIDATE : ClassId) (s_FORMAT l_FORMAT d_FORMAT : Addr) (k_FORMAT : ClassId) (s_GET l_GET d_GET : Addr) (k_GET : ClassId) (h0 : Heap) (n0 : Nat) (Z0 : n0 ≤ h0.size) (O0 : Old Z n0 h0) (E_a1 : Exa Z h0 a1 "java/lang/String") (C_a1 : Fld Z h0 a1 "java/lang/String" "coder" "B" (.int (0 : Int32))) (W_a1 : Fld Z h0 a1 "java/lang/String" "value" "[B" (.ref dd)) (V_dd : Arv Z h0 dd kd .byte (6 : Int32) [(.int (102 : Int32)), (.int (111 : Int32)), (.int (114 : Int32)), (.int (109 : Int32)), (.int (97 : Int32)), (.int (116 : Int32))] (.int (0 : Int32))) (g_a1 : n0 ≤ a1) (S_CS : Sta Z Z.heap "java/lang/String" "COMPACT_STRINGS" "Z" (.int cs)) (h_cs : ¬ cs = (0 : Int32)) (S_V : Sta Z Z.heap "com/example/plainjson/cli/Command" "$VALUES" "[Lcom/example/plainjson/cli/Command;" (.ref s_V)) (V_V : Arv Z Z.heap s_V kV (.object "com/example/plainjson/cli/Command") (3 : Int32) [(.ref s_VALIDATE), (.ref s_FORMAT), (.ref s_GET)] .null) (E_V : Exa Z Z.heap s_V "[Lcom/example/plainjson/cli/Command;") (S_VALIDATE : Sta Z Z.heap "com/example/plainjson/cli/Command" "VALIDATE" "Lcom/example/plainjson/cli/Command;" (.ref s_VALIDATE)) (E_VALIDATE : Exa Z Z.heap s_VALIDATE "com/example/plainjson/cli/Command") (L_VALIDATE : Fld Z Z.heap s_VALIDATE "com/example/plainjson/cli/Command" "label" "Ljava/lang/String;" (.ref l_VALIDATE)) (G_VALIDATE : Exa Z Z.heap l_VALIDATE "java/lang/String") (C_VALIDATE : Fld Z Z.heap l_VALIDATE "java/lang/String" "coder" "B" (.int (0 : Int32))) (W_VALIDATE : Fld Z Z.heap l_VALIDATE "java/lang/String" "value" "[B" (.ref d_VALIDATE)) (V_VALIDATE : Arv Z Z.heap d_VALIDATE k_VALIDATE .byte (8 : Int32) [(.int (118 : Int32)), (.int (97 : Int32)), (.int (108 : Int32)), (.int (105 : Int32)), (.int (100 : Int32)), (.int (97 : Int32)), (.int (116 : Int32)), (.int (101 : Int32))] (.int (0 : Int32))) (S_FORMAT : Sta Z Z.heap "com/example/plainjson/cli/Command" "FORMAT" "Lcom/example/plainjson/cli/Command;" (.ref s_FORMAT)) (E_FORMAT : Exa Z Z.heap s_FORMAT "com/example/plainjson/cli/Command") (L_FORMAT : Fld Z Z.heap s_FORMAT "com/example/plainjson/cli/Command" "label" "Ljava/lang/String;" (.ref l_FORMAT)) (G_FORMAT : Exa Z Z.heap l_FORMAT "java/lang/String") (C_FORMAT : Fld Z Z.heap l_FORMAT "java/lang/String" "coder" "B" (.int (0 : Int32))) (W_FORMAT : Fld Z Z.heap l_FORMAT "java/lang/String" "value" "[B" (.ref d_FORMAT)) (V_FORMAT : Arv Z Z.heap d_FORMAT k_FORMAT .byte (6 : Int32) [(.int (102 : Int32)), (.int (111 : Int32)), (.int (114 : Int32)), (.int (109 : Int32)), (.int (97 : Int32)), (.int (116 : Int32))] (.int (0 : Int32))) (S_GET : Sta Z Z.heap "com/example/plainjson/cli/Command" "GET" "Lcom/example/plainjson/cli/Command;" (.ref s_GET)) (E_GET : Exa Z Z.heap s_GET "com/example/plainjson/cli/Command") (L_GET : Fld Z Z.heap s_GET "com/example/plainjson/cli/Command" "label" "Ljava/lang/String;" (.ref l_GET)) (G_GET : Exa Z Z.heap l_GET "java/lang/String") (C_GET : Fld Z Z.heap l_GET "java/lang/String" "coder" "B" (.int (0 : Int32))) (W_GET : Fld Z Z.heap l_GET "java/lang/String" "value" "[B" (.ref d_GET)) (V_GET : Arv Z Z.heap d_GET k_GET .byte (3 : Int32) [(.int (103 : Int32)), (.int (101 : Int32)), (.int (116 : Int32))] (.int (0 : Int32))) :
    MetFree l (⟨"com/example/plainjson/cli/Command", "named", "(Ljava/lang/String;)Lcom/example/plainjson/cli/Command;"⟩ : MethodName) (head1 (Jvm.Cond.code (⟨"com/example/plainjson/cli/Command", "named", "(Ljava/lang/String;)Lcom/example/plainjson/cli/Command;"⟩ : MethodName) prog_2_method_4_code 5 (some (.object "com/example/plainjson/cli/Command")) :: ws) ({ frames := 2, cells := 1, slots := 3, locals := 28 } : Room)) (fun a U => a = #[(.ref a1)] ∧ Z.Warmed39 U.vm ∧ U.heap = h0) (fun _ _ _ _ _ => True) (fun _ U o U' => ∃ v L, o = .returned v ∧ Q7_FORMAT Z a1 dd kd cs s_V kV s_VALIDATE l_VALIDATE d_VALIDATE k_VALIDATE s_FORMAT l_FORMAT d_FORMAT k_FORMAT s_GET l_GET d_GET k_GET h0 n0 v U'.heap L ∧ FrameEnd U o U' L ({ frames := 2, cells := 1, slots := 3, locals := 28 } : Room).cells ({ frames := 2, cells := 1, slots := 3, locals := 28 } : Room).slots) := by
  refine MetFree.of_bodySF (plainFor_of_name pn_3) hisR ?_
  intro p e s m args below meth c s₁ Bd hml0 hP hK
  obtain ⟨rfl, hZ, hh⟩ := hP
  have hx := Bd.exec
  have hby := Bd.bytes
  have hml : c.maxLocals = 5 := hml0
  have hown : s.vm.findClass "com/example/plainjson/cli/Command" = some m.cls := findClass_of_methodNamed Bd.named
  have hnm := (name_of_methodNamed Bd.named Bd.method).1
  have X0 : Stand p l e ({ frames := 2, cells := 1, slots := 3, locals := 28 } : Room) s m #[(.ref a1)] below meth c s₁ [] 0 0 := Stand.of_body Bd
  have e0 : s₁.heap = h0 := by rw [← hh, Bd.state]; rfl
  have N0 := Fr.nil n0
  have K0 := Keep.refl h0 []
  have pre0 : ∀ t, Steps p.tables e below (s₁.setTop (mkF m 0 #[.val (.ref a1), .unset, .unset, .unset, .unset] [])) t → Steps p.tables e below (s₁.setTop (entryFrame m #[(.ref a1)] 5)) t := fun t k => castTop (ef_7_FORMAT m a1) k
  obtain ⟨_, _, ⟨T1, L1, k1, n1⟩, -, X1, ⟨Lc1, hQ1, l1, y1, z1⟩, st1⟩ := Jvm.LawKit.callS X0 hx (y := (⟨"com/example/plainjson/cli/Command", "values", "()[Lcom/example/plainjson/cli/Command;"⟩ : MethodName)) hown (mvT hZ (hw _ (List.mem_of_getElem? (i := 37) rfl))) (mvT hZ (hw _ (List.mem_of_getElem? (i := 38) rfl))) (mvT hZ (hw _ (List.mem_of_getElem? (i := 32) rfl))) (mvT hZ (hw _ (List.mem_of_getElem? (i := 39) rfl))) (by decide) (backOf (W := 0) (rm8 l Z a0 hw [] cs s_V kV s_VALIDATE l_VALIDATE d_VALIDATE k_VALIDATE s_FORMAT l_FORMAT d_FORMAT k_FORMAT s_GET l_GET d_GET k_GET h0 n0 (Nat.le_trans Z0 K0.1) O0 S_CS h_cs S_V V_V E_V S_VALIDATE E_VALIDATE L_VALIDATE G_VALIDATE C_VALIDATE W_VALIDATE V_VALIDATE S_FORMAT E_FORMAT L_FORMAT G_FORMAT C_FORMAT W_FORMAT V_FORMAT S_GET E_GET L_GET G_GET C_GET W_GET V_GET) hZ (hw _ (List.mem_of_getElem? (i := 39) rfl)) (hw _ (List.mem_of_getElem? (i := 32) rfl)) (by decide) (by decide)) (g := (mkF m 0 #[vR a1, .unset, .unset, .unset, .unset] [])) rfl (by rw [hml]; rfl) (argsL := []) (rest := []) (lenOf pd_5 rfl) rfl (by show 2 * 0 + _ ≤ _; exact Nat.le_of_eq rfl) (hb hby d7_0) (fun _ _ => ⟨rfl, e0, (by decide : 0 + 1 ≤ _), (by decide : 0 + 3 ≤ _)⟩)
  dsimp only [Pt.U, Pt.locs, Pt.cells, Pt.slots] at X1 l1 y1 z1 st1 hQ1
  subst l1 y1 z1
  obtain ⟨d1, rfl, N1q, K1q, V1q, z_d1⟩ := hQ1
  have ne_a1_d1 : a1 ≠ d1 := Nat.ne_of_lt (Nat.lt_of_lt_of_le E_a1.lt z_d1)
  have ne_dd_d1 : dd ≠ d1 := Nat.ne_of_lt (Nat.lt_of_lt_of_le V_dd.lt z_d1)
  have sz_d1 : h0.size ≤ d1 := Nat.le_trans K0.1 z_d1
  have g_d1 : n0 ≤ d1 := Nat.le_trans Z0 sz_d1
  have N1 := Fr.app N0 N1q
  have K1 : Keep h0 T1.heap [] := Keep.trans K0 K1q all0
  obtain ⟨cl2, Ar2, q2, S2, M2, H2, G2⟩ := id V1q
  have hin3 : ¬ ((0 : Int32) < 0 ∨ cl2.slots.size ≤ ((0 : Int32)).toNatClampNeg) := inb_of S2 ⟨by decide, by decide⟩
  have hat4 : cl2.slots[((0 : Int32)).toNatClampNeg]? = some (.ref s_VALIDATE) := Has.at H2 hin3 rfl
  have Oh5 := O0.keep K1 all0
  have fo6 := L_VALIDATE.ext Oh5.2
  obtain ⟨T7, X7, e7, st7⟩ := getF X1 hx hZ hown (host := "") (Or.inl (hw _ (List.mem_of_getElem? (i := 54) rfl))) Via.refl rfl fo6 (g := (mkF m 21 #[vR a1, vR d1, vI 3, vI 0, vR s_VALIDATE] [iR s_VALIDATE])) rfl rfl (hb hby d7_21)
  have fo9 := G_VALIDATE.ext Oh5.2
  have fo10 := C_VALIDATE.ext Oh5.2
  have fo11 := W_VALIDATE.ext Oh5.2
  have fo12 := V_VALIDATE.ext Oh5.2
  have fk13 := (E_a1.keep K1q)
  have fk14 := (C_a1.keep K1q nin0)
  have fk15 := (W_a1.keep K1q nin0)
  have fk16 := (V_dd.keep K1q nin0)
  obtain ⟨cq8, kq8, q8a, q8b, q8c⟩ := isOf hZ e7 fo9
  obtain ⟨_, _, ⟨T8, L8, k8, n8⟩, -, X8, ⟨Lc8, hQ8, l8, y8, z8⟩, st8⟩ := X7.virtualBack hx (y := (⟨"java/lang/String", "equals", "(Ljava/lang/Object;)Z"⟩ : MethodName)) (z := (⟨"java/lang/String", "equals", "(Ljava/lang/Object;)Z"⟩ : MethodName)) hown (mvT hZ (hw _ (List.mem_of_getElem? (i := 56) rfl))) (mvT hZ (hw _ (List.mem_of_getElem? (i := 57) rfl))) (notFace_of_selects (args := #[]) (mvT hZ (hw _ (List.mem_of_getElem? (i := 59) rfl)))) (mvT hZ (hw _ (List.mem_of_getElem? (i := 59) rfl))) (mvT hZ (hw _ (List.mem_of_getElem? (i := 58) rfl))) (by decide) (backOf (W := 0) (rm9_VALIDATE_FORMAT l Z a0 hw [] l_VALIDATE a1 d_VALIDATE dd k_VALIDATE kd cs T1.heap n0 Oh5 fo9 fo10 fo11 fo12 fk13 fk14 fk15 fk16 (O0.ne G_VALIDATE.lt g_a1) S_CS h_cs) hZ (hw _ (List.mem_of_getElem? (i := 60) rfl)) (hw _ (List.mem_of_getElem? (i := 3) rfl)) (by decide) (by decide)) q8a q8c (g := (mkF m 25 #[vR a1, vR d1, vI 3, vI 0, vR s_VALIDATE] [iR a1, iR l_VALIDATE])) rfl (by rw [hml]; rfl) (Steps.refl _) (argsL := [(.ref a1)]) (rest := []) (lenOf pd_6 rfl) rfl (by show 2 * 0 + _ ≤ _; exact Nat.le_of_eq rfl) (hb hby d7_25) (fun _ _ => ⟨rfl, e7, (by decide : 1 + 0 ≤ _), (by decide : 3 + 0 ≤ _)⟩)
  dsimp only [Pt.U, Pt.locs, Pt.cells, Pt.slots] at X8 l8 y8 z8 st8 hQ8
  subst l8 y8 z8
  obtain ⟨rfl, rfl, e8⟩ := hQ8
  try rw [List.append_nil] at X8
  have hin17 : ¬ ((1 : Int32) < 0 ∨ cl2.slots.size ≤ ((1 : Int32)).toNatClampNeg) := inb_of S2 ⟨by decide, by decide⟩
  have hat18 : cl2.slots[((1 : Int32)).toNatClampNeg]? = some (.ref s_FORMAT) := Has.at H2 hin17 rfl
  have fo19 := L_FORMAT.ext Oh5.2
  obtain ⟨T20, X20, e20, st20⟩ := getF X8 hx hZ hown (host := "") (Or.inl (hw _ (List.mem_of_getElem? (i := 54) rfl))) Via.refl e8 fo19 (g := (mkF m 21 #[vR a1, vR d1, vI 3, vI 1, vR s_FORMAT] [iR s_FORMAT])) rfl rfl (hb hby d7_21)
  have fo22 := G_FORMAT.ext Oh5.2
  have fo23 := C_FORMAT.ext Oh5.2
  have fo24 := W_FORMAT.ext Oh5.2
  have fo25 := V_FORMAT.ext Oh5.2
  obtain ⟨cq21, kq21, q21a, q21b, q21c⟩ := isOf hZ e20 fo22
  obtain ⟨_, _, ⟨T21, L21, k21, n21⟩, -, X21, ⟨Lc21, hQ21, l21, y21, z21⟩, st21⟩ := X20.virtualBack hx (y := (⟨"java/lang/String", "equals", "(Ljava/lang/Object;)Z"⟩ : MethodName)) (z := (⟨"java/lang/String", "equals", "(Ljava/lang/Object;)Z"⟩ : MethodName)) hown (mvT hZ (hw _ (List.mem_of_getElem? (i := 56) rfl))) (mvT hZ (hw _ (List.mem_of_getElem? (i := 57) rfl))) (notFace_of_selects (args := #[]) (mvT hZ (hw _ (List.mem_of_getElem? (i := 59) rfl)))) (mvT hZ (hw _ (List.mem_of_getElem? (i := 59) rfl))) (mvT hZ (hw _ (List.mem_of_getElem? (i := 58) rfl))) (by decide) (backOf (W := 0) (rm9_FORMAT_FORMAT l Z a0 hw [] l_FORMAT a1 d_FORMAT dd k_FORMAT kd cs T1.heap n0 Oh5 fo22 fo23 fo24 fo25 fk13 fk14 fk15 fk16 (O0.ne G_FORMAT.lt g_a1) S_CS h_cs) hZ (hw _ (List.mem_of_getElem? (i := 60) rfl)) (hw _ (List.mem_of_getElem? (i := 3) rfl)) (by decide) (by decide)) q21a q21c (g := (mkF m 25 #[vR a1, vR d1, vI 3, vI 1, vR s_FORMAT] [iR a1, iR l_FORMAT])) rfl (by rw [hml]; rfl) (Steps.refl _) (argsL := [(.ref a1)]) (rest := []) (lenOf pd_6 rfl) rfl (by show 2 * 0 + _ ≤ _; exact Nat.le_of_eq rfl) (hb hby d7_25) (fun _ _ => ⟨rfl, e20, (by decide : 1 + 0 ≤ _), (by decide : 3 + 0 ≤ _)⟩)
  dsimp only [Pt.U, Pt.locs, Pt.cells, Pt.slots] at X21 l21 y21 z21 st21 hQ21
  subst l21 y21 z21
  obtain ⟨rfl, rfl, e21⟩ := hQ21
  try rw [List.append_nil] at X21
  obtain ⟨fs, hr, hrun, hended, hW, hsame⟩ := X21.leave (v := some (.ref s_FORMAT)) (fun h => by rw [Bd.returns] at h; cases h)
  refine ⟨_, _, pre0 _ ?_, hrun, hended, _, _, rfl, ?_, ⟨_, rfl⟩, hW, hsame.mono (by decide) (by decide)⟩
  · show Steps _ _ _ (s₁.setTop (mkF m 0 #[vR a1, .unset, .unset, .unset, .unset] [])) _
    refine st1 _ ?_
    show Steps _ _ _ (T1.setTop (mkF m 3 #[vR a1, .unset, .unset, .unset, .unset] [iR d1])) _
    refine XS.astoreN X1.here hx rfl (hb hby d7_3) rfl rfl (l' := #[vR a1, vR d1, .unset, .unset, .unset]) rfl ?_
    show Steps _ _ _ (T1.setTop (mkF m 4 #[vR a1, vR d1, .unset, .unset, .unset] [])) _
    refine XS.aloadN X1.here hx rfl (hb hby d7_4) rfl rfl ?_
    show Steps _ _ _ (T1.setTop (mkF m 5 #[vR a1, vR d1, .unset, .unset, .unset] [iR d1])) _
    refine X1.arraylength hx Ar2.1 (State.isArrayOf_alike hZ.alike Ar2.2.1) (g := (mkF m 5 #[vR a1, vR d1, .unset, .unset, .unset] [iR d1])) rfl rfl (hb hby d7_5) _ ?_
    rw [len_of S2 M2]
    show Steps _ _ _ (T1.setTop (mkF m 6 #[vR a1, vR d1, .unset, .unset, .unset] [iI 3])) _
    refine XS.istoreN X1.here hx rfl (hb hby d7_6) rfl (l' := #[vR a1, vR d1, vI 3, .unset, .unset]) rfl ?_
    show Steps _ _ _ (T1.setTop (mkF m 7 #[vR a1, vR d1, vI 3, .unset, .unset] [])) _
    refine XS.iconst X1.here hx rfl (hb hby d7_7) ?_
    show Steps _ _ _ (T1.setTop (mkF m 8 #[vR a1, vR d1, vI 3, .unset, .unset] [iI 0])) _
    refine XS.istoreN X1.here hx rfl (hb hby d7_8) rfl (l' := #[vR a1, vR d1, vI 3, vI 0, .unset]) rfl ?_
    show Steps _ _ _ (T1.setTop (mkF m 9 #[vR a1, vR d1, vI 3, vI 0, .unset] [])) _
    refine XS.iloadN X1.here hx rfl (hb hby d7_9) rfl ?_
    show Steps _ _ _ (T1.setTop (mkF m 10 #[vR a1, vR d1, vI 3, vI 0, .unset] [iI 0])) _
    refine XS.iloadN X1.here hx rfl (hb hby d7_10) rfl ?_
    show Steps _ _ _ (T1.setTop (mkF m 11 #[vR a1, vR d1, vI 3, vI 0, .unset] [iI 3, iI 0])) _
    refine XS.icmpNo X1.here hx rfl (hb hby d7_11) rfl (tlt (by decide : (0 : Int32) < (3 : Int32))).2.1 ?_
    show Steps _ _ _ (T1.setTop (mkF m 14 #[vR a1, vR d1, vI 3, vI 0, .unset] [])) _
    refine XS.aloadN X1.here hx rfl (hb hby d7_14) rfl rfl ?_
    show Steps _ _ _ (T1.setTop (mkF m 15 #[vR a1, vR d1, vI 3, vI 0, .unset] [iR d1])) _
    refine XS.iloadN X1.here hx rfl (hb hby d7_15) rfl ?_
    show Steps _ _ _ (T1.setTop (mkF m 16 #[vR a1, vR d1, vI 3, vI 0, .unset] [iI 0, iR d1])) _
    refine X1.aaload hx (j := (0 : Int32)) (v := (.ref s_VALIDATE)) Ar2.1 (State.isArrayOf_alike hZ.alike Ar2.2.1) rfl Ar2.2.2 hin3 hat4 (g := (mkF m 16 #[vR a1, vR d1, vI 3, vI 0, .unset] [iI 0, iR d1])) rfl rfl (hb hby d7_16) _ ?_
    show Steps _ _ _ (T1.setTop (mkF m 17 #[vR a1, vR d1, vI 3, vI 0, .unset] [iR s_VALIDATE])) _
    refine XS.astore X1.here hx rfl (hb hby d7_17) rfl rfl (l' := #[vR a1, vR d1, vI 3, vI 0, vR s_VALIDATE]) rfl ?_
    show Steps _ _ _ (T1.setTop (mkF m 19 #[vR a1, vR d1, vI 3, vI 0, vR s_VALIDATE] [])) _
    refine XS.aload X1.here hx rfl (hb hby d7_19) rfl rfl ?_
    show Steps _ _ _ (T1.setTop (mkF m 21 #[vR a1, vR d1, vI 3, vI 0, vR s_VALIDATE] [iR s_VALIDATE])) _
    refine st7 _ ?_
    show Steps _ _ _ (T7.setTop (mkF m 24 #[vR a1, vR d1, vI 3, vI 0, vR s_VALIDATE] [iR l_VALIDATE])) _
    refine XS.aloadN X7.here hx rfl (hb hby d7_24) rfl rfl ?_
    show Steps _ _ _ (T7.setTop (mkF m 25 #[vR a1, vR d1, vI 3, vI 0, vR s_VALIDATE] [iR a1, iR l_VALIDATE])) _
    refine st8.trans ?_
    show Steps _ _ _ (T8.setTop (mkF m 28 #[vR a1, vR d1, vI 3, vI 0, vR s_VALIDATE] [iI 0])) _
    refine XS.ifYes X8.here hx rfl (pc0 := 28) (pc' := 34) rfl (hb hby d7_28) rfl ((if0 _ _).trans (teq (by decide : (0 : Int32) = (0 : Int32))).1) (by decide) (by decide) ?_
    show Steps _ _ _ (T8.setTop (mkF m 34 #[vR a1, vR d1, vI 3, vI 0, vR s_VALIDATE] [])) _
    refine XS.iinc X8.here hx rfl (hb hby d7_34) rfl (l' := #[vR a1, vR d1, vI 3, vI ((0 : Int32) + (1 : Int32)), vR s_VALIDATE]) rfl ?_
    rw [(by decide : ((0 : Int32) + (1 : Int32)) = (1 : Int32))]
    show Steps _ _ _ (T8.setTop (mkF m 37 #[vR a1, vR d1, vI 3, vI 1, vR s_VALIDATE] [])) _
    refine XS.goto X8.here hx rfl (pc0 := 37) (pc' := 9) rfl (hb hby d7_37) (by decide) (by decide) ?_
    show Steps _ _ _ (T8.setTop (mkF m 9 #[vR a1, vR d1, vI 3, vI 1, vR s_VALIDATE] [])) _
    refine XS.iloadN X8.here hx rfl (hb hby d7_9) rfl ?_
    show Steps _ _ _ (T8.setTop (mkF m 10 #[vR a1, vR d1, vI 3, vI 1, vR s_VALIDATE] [iI 1])) _
    refine XS.iloadN X8.here hx rfl (hb hby d7_10) rfl ?_
    show Steps _ _ _ (T8.setTop (mkF m 11 #[vR a1, vR d1, vI 3, vI 1, vR s_VALIDATE] [iI 3, iI 1])) _
    refine XS.icmpNo X8.here hx rfl (hb hby d7_11) rfl (tlt (by decide : (1 : Int32) < (3 : Int32))).2.1 ?_
    show Steps _ _ _ (T8.setTop (mkF m 14 #[vR a1, vR d1, vI 3, vI 1, vR s_VALIDATE] [])) _
    refine XS.aloadN X8.here hx rfl (hb hby d7_14) rfl rfl ?_
    show Steps _ _ _ (T8.setTop (mkF m 15 #[vR a1, vR d1, vI 3, vI 1, vR s_VALIDATE] [iR d1])) _
    refine XS.iloadN X8.here hx rfl (hb hby d7_15) rfl ?_
    show Steps _ _ _ (T8.setTop (mkF m 16 #[vR a1, vR d1, vI 3, vI 1, vR s_VALIDATE] [iI 1, iR d1])) _
    refine X8.aaload hx (j := (1 : Int32)) (v := (.ref s_FORMAT)) (by rw [e8]; exact Ar2.1) (State.isArrayOf_alike hZ.alike Ar2.2.1) rfl Ar2.2.2 hin17 hat18 (g := (mkF m 16 #[vR a1, vR d1, vI 3, vI 1, vR s_VALIDATE] [iI 1, iR d1])) rfl rfl (hb hby d7_16) _ ?_
    show Steps _ _ _ (T8.setTop (mkF m 17 #[vR a1, vR d1, vI 3, vI 1, vR s_VALIDATE] [iR s_FORMAT])) _
    refine XS.astore X8.here hx rfl (hb hby d7_17) rfl rfl (l' := #[vR a1, vR d1, vI 3, vI 1, vR s_FORMAT]) rfl ?_
    show Steps _ _ _ (T8.setTop (mkF m 19 #[vR a1, vR d1, vI 3, vI 1, vR s_FORMAT] [])) _
    refine XS.aload X8.here hx rfl (hb hby d7_19) rfl rfl ?_
    show Steps _ _ _ (T8.setTop (mkF m 21 #[vR a1, vR d1, vI 3, vI 1, vR s_FORMAT] [iR s_FORMAT])) _
    refine st20 _ ?_
    show Steps _ _ _ (T20.setTop (mkF m 24 #[vR a1, vR d1, vI 3, vI 1, vR s_FORMAT] [iR l_FORMAT])) _
    refine XS.aloadN X20.here hx rfl (hb hby d7_24) rfl rfl ?_
    show Steps _ _ _ (T20.setTop (mkF m 25 #[vR a1, vR d1, vI 3, vI 1, vR s_FORMAT] [iR a1, iR l_FORMAT])) _
    refine st21.trans ?_
    show Steps _ _ _ (T21.setTop (mkF m 28 #[vR a1, vR d1, vI 3, vI 1, vR s_FORMAT] [iI 1])) _
    refine XS.ifNo X21.here hx rfl (hb hby d7_28) rfl ((if0 _ _).trans (feq (by decide : ¬ ((1 : Int32) = (0 : Int32)))).1) ?_
    show Steps _ _ _ (T21.setTop (mkF m 31 #[vR a1, vR d1, vI 3, vI 1, vR s_FORMAT] [])) _
    refine XS.aload X21.here hx rfl (hb hby d7_31) rfl rfl ?_
    show Steps _ _ _ (T21.setTop (mkF m 33 #[vR a1, vR d1, vI 3, vI 1, vR s_FORMAT] [iR s_FORMAT])) _
    jvm_step X21.here [X21.here.top, hx, (hb hby d7_33), X21.method', Bd.returns, Value.isRef, FieldType.isReference]
    first | (intro acts; rw [hr _ acts rfl rfl rfl]) | rw [hr _ _ rfl rfl rfl]
    exact Steps.refl _
  · show Q7_FORMAT Z a1 dd kd cs s_V kV s_VALIDATE l_VALIDATE d_VALIDATE k_VALIDATE s_FORMAT l_FORMAT d_FORMAT k_FORMAT s_GET l_GET d_GET k_GET h0 n0 _ T21.heap _
    rw [e21]
    exact ⟨rfl, N1, K1⟩
theorem ef_7_GET (m : MethodId) (x0 : Addr) : entryFrame m #[(.ref x0)] 5 = mkF m 0 #[.val (.ref x0), .unset, .unset, .unset, .unset] [] := by first | (simp [entryFrame, mkF, argsToLocals, Value.category]; done) | rfl
def Q7_GET (Z : State) (a1 : Addr) (dd : Addr) (kd : ClassId) (cs : Int32) (s_V : Addr) (kV : ClassId) (s_VALIDATE l_VALIDATE d_VALIDATE : Addr) (k_VALIDATE : ClassId) (s_FORMAT l_FORMAT d_FORMAT : Addr) (k_FORMAT : ClassId) (s_GET l_GET d_GET : Addr) (k_GET : ClassId) (h0 : Heap) (n0 : Nat) (v : Option Value) (h : Heap) (L : List Loc) : Prop := v = some (.ref s_GET) ∧ Fr n0 L ∧ Keep h0 h []
set_option maxRecDepth 65536 in
set_option maxHeartbeats 40000000 in
theorem rm7_GET (l : Launch) (Z : State) (a0 : Array Value) (hw : ∀ d ∈ tables_1, d.before a0 Z = true) (ws : List Jvm.Cond) (a1 : Addr) (dd : Addr) (kd : ClassId) (cs : Int32) (s_V : Addr) (kV : ClassId) (s_VALIDATE l_VALIDATE d_VALIDATE : Addr) (k_VALIDATE : ClassId) (s_FORMAT l_FORMAT d_FORMAT : Addr) (k_FORMAT : ClassId) (s_GET l_GET d_GET : Addr) (k_GET : ClassId) (h0 : Heap) (n0 : Nat) (Z0 : n0 ≤ h0.size) (O0 : Old Z n0 h0) (E_a1 : Exa Z h0 a1 "java/lang/String") (C_a1 : Fld Z h0 a1 "java/lang/String" "coder" "B" (.int (0 : Int32))) (W_a1 : Fld Z h0 a1 "java/lang/String" "value" "[B" (.ref dd)) (V_dd : Arv Z h0 dd kd .byte (3 : Int32) [(.int (103 : Int32)), (.int (101 : Int32)), (.int (116 : Int32))] (.int (0 : Int32))) (g_a1 : n0 ≤ a1) (S_CS : Sta Z Z.heap "java/lang/String" "COMPACT_STRINGS" "Z" (.int cs)) (h_cs : ¬ cs = (0 : Int32)) (S_V : Sta Z Z.heap "com/example/plainjson/cli/Command" "$VALUES" "[Lcom/example/plainjson/cli/Command;" (.ref s_V)) (V_V : Arv Z Z.heap s_V kV (.object "com/example/plainjson/cli/Command") (3 : Int32) [(.ref s_VALIDATE), (.ref s_FORMAT), (.ref s_GET)] .null) (E_V : Exa Z Z.heap s_V "[Lcom/example/plainjson/cli/Command;") (S_VALIDATE : Sta Z Z.heap "com/example/plainjson/cli/Command" "VALIDATE" "Lcom/example/plainjson/cli/Command;" (.ref s_VALIDATE)) (E_VALIDATE : Exa Z Z.heap s_VALIDATE "com/example/plainjson/cli/Command") (L_VALIDATE : Fld Z Z.heap s_VALIDATE "com/example/plainjson/cli/Command" "label" "Ljava/lang/String;" (.ref l_VALIDATE)) (G_VALIDATE : Exa Z Z.heap l_VALIDATE "java/lang/String") (C_VALIDATE : Fld Z Z.heap l_VALIDATE "java/lang/String" "coder" "B" (.int (0 : Int32))) (W_VALIDATE : Fld Z Z.heap l_VALIDATE "java/lang/String" "value" "[B" (.ref d_VALIDATE)) (V_VALIDATE : Arv Z Z.heap d_VALIDATE k_VALIDATE .byte (8 : Int32) [(.int (118 : Int32)), (.int (97 : Int32)), (.int (108 : Int32)), (.int (105 : Int32)), (.int (100 : Int32)), (.int (97 : Int32)), (.int (116 : Int32)), (.int (101 : Int32))] (.int (0 : Int32))) (S_FORMAT : Sta Z Z.heap "com/example/plainjson/cli/Command" "FORMAT" "Lcom/example/plainjson/cli/Command;" (.ref s_FORMAT)) (E_FORMAT : Exa Z Z.heap s_FORMAT "com/example/plainjson/cli/Command") (L_FORMAT : Fld Z Z.heap s_FORMAT "com/example/plainjson/cli/Command" "label" "Ljava/lang/String;" (.ref l_FORMAT)) (G_FORMAT : Exa Z Z.heap l_FORMAT "java/lang/String") (C_FORMAT : Fld Z Z.heap l_FORMAT "java/lang/String" "coder" "B" (.int (0 : Int32))) (W_FORMAT : Fld Z Z.heap l_FORMAT "java/lang/String" "value" "[B" (.ref d_FORMAT)) (V_FORMAT : Arv Z Z.heap d_FORMAT k_FORMAT .byte (6 : Int32) [(.int (102 : Int32)), (.int (111 : Int32)), (.int (114 : Int32)), (.int (109 : Int32)), (.int (97 : Int32)), (.int (116 : Int32))] (.int (0 : Int32))) (S_GET : Sta Z Z.heap "com/example/plainjson/cli/Command" "GET" "Lcom/example/plainjson/cli/Command;" (.ref s_GET)) (E_GET : Exa Z Z.heap s_GET "com/example/plainjson/cli/Command") (L_GET : Fld Z Z.heap s_GET "com/example/plainjson/cli/Command" "label" "Ljava/lang/String;" (.ref l_GET)) (G_GET : Exa Z Z.heap l_GET "java/lang/String") (C_GET : Fld Z Z.heap l_GET "java/lang/String" "coder" "B" (.int (0 : Int32))) (W_GET : Fld Z Z.heap l_GET "java/lang/String" "value" "[B" (.ref d_GET)) (V_GET : Arv Z Z.heap d_GET k_GET .byte (3 : Int32) [(.int (103 : Int32)), (.int (101 : Int32)), (.int (116 : Int32))] (.int (0 : Int32))) :
    MetFree l (⟨"com/example/plainjson/cli/Command", "named", "(Ljava/lang/String;)Lcom/example/plainjson/cli/Command;"⟩ : MethodName) (head1 (Jvm.Cond.code (⟨"com/example/plainjson/cli/Command", "named", "(Ljava/lang/String;)Lcom/example/plainjson/cli/Command;"⟩ : MethodName) prog_2_method_4_code 5 (some (.object "com/example/plainjson/cli/Command")) :: ws) ({ frames := 2, cells := 1, slots := 3, locals := 28 } : Room)) (fun a U => a = #[(.ref a1)] ∧ Z.Warmed39 U.vm ∧ U.heap = h0) (fun _ _ _ _ _ => True) (fun _ U o U' => ∃ v L, o = .returned v ∧ Q7_GET Z a1 dd kd cs s_V kV s_VALIDATE l_VALIDATE d_VALIDATE k_VALIDATE s_FORMAT l_FORMAT d_FORMAT k_FORMAT s_GET l_GET d_GET k_GET h0 n0 v U'.heap L ∧ FrameEnd U o U' L ({ frames := 2, cells := 1, slots := 3, locals := 28 } : Room).cells ({ frames := 2, cells := 1, slots := 3, locals := 28 } : Room).slots) := by
  refine MetFree.of_bodySF (plainFor_of_name pn_3) hisR ?_
  intro p e s m args below meth c s₁ Bd hml0 hP hK
  obtain ⟨rfl, hZ, hh⟩ := hP
  have hx := Bd.exec
  have hby := Bd.bytes
  have hml : c.maxLocals = 5 := hml0
  have hown : s.vm.findClass "com/example/plainjson/cli/Command" = some m.cls := findClass_of_methodNamed Bd.named
  have hnm := (name_of_methodNamed Bd.named Bd.method).1
  have X0 : Stand p l e ({ frames := 2, cells := 1, slots := 3, locals := 28 } : Room) s m #[(.ref a1)] below meth c s₁ [] 0 0 := Stand.of_body Bd
  have e0 : s₁.heap = h0 := by rw [← hh, Bd.state]; rfl
  have N0 := Fr.nil n0
  have K0 := Keep.refl h0 []
  have pre0 : ∀ t, Steps p.tables e below (s₁.setTop (mkF m 0 #[.val (.ref a1), .unset, .unset, .unset, .unset] [])) t → Steps p.tables e below (s₁.setTop (entryFrame m #[(.ref a1)] 5)) t := fun t k => castTop (ef_7_GET m a1) k
  obtain ⟨_, _, ⟨T1, L1, k1, n1⟩, -, X1, ⟨Lc1, hQ1, l1, y1, z1⟩, st1⟩ := Jvm.LawKit.callS X0 hx (y := (⟨"com/example/plainjson/cli/Command", "values", "()[Lcom/example/plainjson/cli/Command;"⟩ : MethodName)) hown (mvT hZ (hw _ (List.mem_of_getElem? (i := 37) rfl))) (mvT hZ (hw _ (List.mem_of_getElem? (i := 38) rfl))) (mvT hZ (hw _ (List.mem_of_getElem? (i := 32) rfl))) (mvT hZ (hw _ (List.mem_of_getElem? (i := 39) rfl))) (by decide) (backOf (W := 0) (rm8 l Z a0 hw [] cs s_V kV s_VALIDATE l_VALIDATE d_VALIDATE k_VALIDATE s_FORMAT l_FORMAT d_FORMAT k_FORMAT s_GET l_GET d_GET k_GET h0 n0 (Nat.le_trans Z0 K0.1) O0 S_CS h_cs S_V V_V E_V S_VALIDATE E_VALIDATE L_VALIDATE G_VALIDATE C_VALIDATE W_VALIDATE V_VALIDATE S_FORMAT E_FORMAT L_FORMAT G_FORMAT C_FORMAT W_FORMAT V_FORMAT S_GET E_GET L_GET G_GET C_GET W_GET V_GET) hZ (hw _ (List.mem_of_getElem? (i := 39) rfl)) (hw _ (List.mem_of_getElem? (i := 32) rfl)) (by decide) (by decide)) (g := (mkF m 0 #[vR a1, .unset, .unset, .unset, .unset] [])) rfl (by rw [hml]; rfl) (argsL := []) (rest := []) (lenOf pd_5 rfl) rfl (by show 2 * 0 + _ ≤ _; exact Nat.le_of_eq rfl) (hb hby d7_0) (fun _ _ => ⟨rfl, e0, (by decide : 0 + 1 ≤ _), (by decide : 0 + 3 ≤ _)⟩)
  dsimp only [Pt.U, Pt.locs, Pt.cells, Pt.slots] at X1 l1 y1 z1 st1 hQ1
  subst l1 y1 z1
  obtain ⟨d1, rfl, N1q, K1q, V1q, z_d1⟩ := hQ1
  have ne_a1_d1 : a1 ≠ d1 := Nat.ne_of_lt (Nat.lt_of_lt_of_le E_a1.lt z_d1)
  have ne_dd_d1 : dd ≠ d1 := Nat.ne_of_lt (Nat.lt_of_lt_of_le V_dd.lt z_d1)
  have sz_d1 : h0.size ≤ d1 := Nat.le_trans K0.1 z_d1
  have g_d1 : n0 ≤ d1 := Nat.le_trans Z0 sz_d1
  have N1 := Fr.app N0 N1q
  have K1 : Keep h0 T1.heap [] := Keep.trans K0 K1q all0
  obtain ⟨cl2, Ar2, q2, S2, M2, H2, G2⟩ := id V1q
  have hin3 : ¬ ((0 : Int32) < 0 ∨ cl2.slots.size ≤ ((0 : Int32)).toNatClampNeg) := inb_of S2 ⟨by decide, by decide⟩
  have hat4 : cl2.slots[((0 : Int32)).toNatClampNeg]? = some (.ref s_VALIDATE) := Has.at H2 hin3 rfl
  have Oh5 := O0.keep K1 all0
  have fo6 := L_VALIDATE.ext Oh5.2
  obtain ⟨T7, X7, e7, st7⟩ := getF X1 hx hZ hown (host := "") (Or.inl (hw _ (List.mem_of_getElem? (i := 54) rfl))) Via.refl rfl fo6 (g := (mkF m 21 #[vR a1, vR d1, vI 3, vI 0, vR s_VALIDATE] [iR s_VALIDATE])) rfl rfl (hb hby d7_21)
  have fo9 := G_VALIDATE.ext Oh5.2
  have fo10 := C_VALIDATE.ext Oh5.2
  have fo11 := W_VALIDATE.ext Oh5.2
  have fo12 := V_VALIDATE.ext Oh5.2
  have fk13 := (E_a1.keep K1q)
  have fk14 := (C_a1.keep K1q nin0)
  have fk15 := (W_a1.keep K1q nin0)
  have fk16 := (V_dd.keep K1q nin0)
  obtain ⟨cq8, kq8, q8a, q8b, q8c⟩ := isOf hZ e7 fo9
  obtain ⟨_, _, ⟨T8, L8, k8, n8⟩, -, X8, ⟨Lc8, hQ8, l8, y8, z8⟩, st8⟩ := X7.virtualBack hx (y := (⟨"java/lang/String", "equals", "(Ljava/lang/Object;)Z"⟩ : MethodName)) (z := (⟨"java/lang/String", "equals", "(Ljava/lang/Object;)Z"⟩ : MethodName)) hown (mvT hZ (hw _ (List.mem_of_getElem? (i := 56) rfl))) (mvT hZ (hw _ (List.mem_of_getElem? (i := 57) rfl))) (notFace_of_selects (args := #[]) (mvT hZ (hw _ (List.mem_of_getElem? (i := 59) rfl)))) (mvT hZ (hw _ (List.mem_of_getElem? (i := 59) rfl))) (mvT hZ (hw _ (List.mem_of_getElem? (i := 58) rfl))) (by decide) (backOf (W := 0) (rm9_VALIDATE_GET l Z a0 hw [] l_VALIDATE a1 d_VALIDATE dd k_VALIDATE kd cs T1.heap n0 Oh5 fo9 fo10 fo11 fo12 fk13 fk14 fk15 fk16 (O0.ne G_VALIDATE.lt g_a1) S_CS h_cs) hZ (hw _ (List.mem_of_getElem? (i := 60) rfl)) (hw _ (List.mem_of_getElem? (i := 3) rfl)) (by decide) (by decide)) q8a q8c (g := (mkF m 25 #[vR a1, vR d1, vI 3, vI 0, vR s_VALIDATE] [iR a1, iR l_VALIDATE])) rfl (by rw [hml]; rfl) (Steps.refl _) (argsL := [(.ref a1)]) (rest := []) (lenOf pd_6 rfl) rfl (by show 2 * 0 + _ ≤ _; exact Nat.le_of_eq rfl) (hb hby d7_25) (fun _ _ => ⟨rfl, e7, (by decide : 1 + 0 ≤ _), (by decide : 3 + 0 ≤ _)⟩)
  dsimp only [Pt.U, Pt.locs, Pt.cells, Pt.slots] at X8 l8 y8 z8 st8 hQ8
  subst l8 y8 z8
  obtain ⟨rfl, rfl, e8⟩ := hQ8
  try rw [List.append_nil] at X8
  have hin17 : ¬ ((1 : Int32) < 0 ∨ cl2.slots.size ≤ ((1 : Int32)).toNatClampNeg) := inb_of S2 ⟨by decide, by decide⟩
  have hat18 : cl2.slots[((1 : Int32)).toNatClampNeg]? = some (.ref s_FORMAT) := Has.at H2 hin17 rfl
  have fo19 := L_FORMAT.ext Oh5.2
  obtain ⟨T20, X20, e20, st20⟩ := getF X8 hx hZ hown (host := "") (Or.inl (hw _ (List.mem_of_getElem? (i := 54) rfl))) Via.refl e8 fo19 (g := (mkF m 21 #[vR a1, vR d1, vI 3, vI 1, vR s_FORMAT] [iR s_FORMAT])) rfl rfl (hb hby d7_21)
  have fo22 := G_FORMAT.ext Oh5.2
  have fo23 := C_FORMAT.ext Oh5.2
  have fo24 := W_FORMAT.ext Oh5.2
  have fo25 := V_FORMAT.ext Oh5.2
  obtain ⟨cq21, kq21, q21a, q21b, q21c⟩ := isOf hZ e20 fo22
  obtain ⟨_, _, ⟨T21, L21, k21, n21⟩, -, X21, ⟨Lc21, hQ21, l21, y21, z21⟩, st21⟩ := X20.virtualBack hx (y := (⟨"java/lang/String", "equals", "(Ljava/lang/Object;)Z"⟩ : MethodName)) (z := (⟨"java/lang/String", "equals", "(Ljava/lang/Object;)Z"⟩ : MethodName)) hown (mvT hZ (hw _ (List.mem_of_getElem? (i := 56) rfl))) (mvT hZ (hw _ (List.mem_of_getElem? (i := 57) rfl))) (notFace_of_selects (args := #[]) (mvT hZ (hw _ (List.mem_of_getElem? (i := 59) rfl)))) (mvT hZ (hw _ (List.mem_of_getElem? (i := 59) rfl))) (mvT hZ (hw _ (List.mem_of_getElem? (i := 58) rfl))) (by decide) (backOf (W := 0) (rm9_FORMAT_GET l Z a0 hw [] l_FORMAT a1 d_FORMAT dd k_FORMAT kd cs T1.heap n0 Oh5 fo22 fo23 fo24 fo25 fk13 fk14 fk15 fk16 (O0.ne G_FORMAT.lt g_a1) S_CS h_cs) hZ (hw _ (List.mem_of_getElem? (i := 60) rfl)) (hw _ (List.mem_of_getElem? (i := 3) rfl)) (by decide) (by decide)) q21a q21c (g := (mkF m 25 #[vR a1, vR d1, vI 3, vI 1, vR s_FORMAT] [iR a1, iR l_FORMAT])) rfl (by rw [hml]; rfl) (Steps.refl _) (argsL := [(.ref a1)]) (rest := []) (lenOf pd_6 rfl) rfl (by show 2 * 0 + _ ≤ _; exact Nat.le_of_eq rfl) (hb hby d7_25) (fun _ _ => ⟨rfl, e20, (by decide : 1 + 0 ≤ _), (by decide : 3 + 0 ≤ _)⟩)
  dsimp only [Pt.U, Pt.locs, Pt.cells, Pt.slots] at X21 l21 y21 z21 st21 hQ21
  subst l21 y21 z21
  obtain ⟨rfl, rfl, e21⟩ := hQ21
  try rw [List.append_nil] at X21
  have hin26 : ¬ ((2 : Int32) < 0 ∨ cl2.slots.size ≤ ((2 : Int32)).toNatClampNeg) := inb_of S2 ⟨by decide, by decide⟩
  have hat27 : cl2.slots[((2 : Int32)).toNatClampNeg]? = some (.ref s_GET) := Has.at H2 hin26 rfl
  have fo28 := L_GET.ext Oh5.2
  obtain ⟨T29, X29, e29, st29⟩ := getF X21 hx hZ hown (host := "") (Or.inl (hw _ (List.mem_of_getElem? (i := 54) rfl))) Via.refl e21 fo28 (g := (mkF m 21 #[vR a1, vR d1, vI 3, vI 2, vR s_GET] [iR s_GET])) rfl rfl (hb hby d7_21)
  have fo31 := G_GET.ext Oh5.2
  have fo32 := C_GET.ext Oh5.2
  have fo33 := W_GET.ext Oh5.2
  have fo34 := V_GET.ext Oh5.2
  obtain ⟨cq30, kq30, q30a, q30b, q30c⟩ := isOf hZ e29 fo31
  obtain ⟨_, _, ⟨T30, L30, k30, n30⟩, -, X30, ⟨Lc30, hQ30, l30, y30, z30⟩, st30⟩ := X29.virtualBack hx (y := (⟨"java/lang/String", "equals", "(Ljava/lang/Object;)Z"⟩ : MethodName)) (z := (⟨"java/lang/String", "equals", "(Ljava/lang/Object;)Z"⟩ : MethodName)) hown (mvT hZ (hw _ (List.mem_of_getElem? (i := 56) rfl))) (mvT hZ (hw _ (List.mem_of_getElem? (i := 57) rfl))) (notFace_of_selects (args := #[]) (mvT hZ (hw _ (List.mem_of_getElem? (i := 59) rfl)))) (mvT hZ (hw _ (List.mem_of_getElem? (i := 59) rfl))) (mvT hZ (hw _ (List.mem_of_getElem? (i := 58) rfl))) (by decide) (backOf (W := 0) (rm9_GET_GET l Z a0 hw [] l_GET a1 d_GET dd k_GET kd cs T1.heap n0 Oh5 fo31 fo32 fo33 fo34 fk13 fk14 fk15 fk16 (O0.ne G_GET.lt g_a1) S_CS h_cs) hZ (hw _ (List.mem_of_getElem? (i := 60) rfl)) (hw _ (List.mem_of_getElem? (i := 3) rfl)) (by decide) (by decide)) q30a q30c (g := (mkF m 25 #[vR a1, vR d1, vI 3, vI 2, vR s_GET] [iR a1, iR l_GET])) rfl (by rw [hml]; rfl) (Steps.refl _) (argsL := [(.ref a1)]) (rest := []) (lenOf pd_6 rfl) rfl (by show 2 * 0 + _ ≤ _; exact Nat.le_of_eq rfl) (hb hby d7_25) (fun _ _ => ⟨rfl, e29, (by decide : 1 + 0 ≤ _), (by decide : 3 + 0 ≤ _)⟩)
  dsimp only [Pt.U, Pt.locs, Pt.cells, Pt.slots] at X30 l30 y30 z30 st30 hQ30
  subst l30 y30 z30
  obtain ⟨rfl, rfl, e30⟩ := hQ30
  try rw [List.append_nil] at X30
  obtain ⟨fs, hr, hrun, hended, hW, hsame⟩ := X30.leave (v := some (.ref s_GET)) (fun h => by rw [Bd.returns] at h; cases h)
  refine ⟨_, _, pre0 _ ?_, hrun, hended, _, _, rfl, ?_, ⟨_, rfl⟩, hW, hsame.mono (by decide) (by decide)⟩
  · show Steps _ _ _ (s₁.setTop (mkF m 0 #[vR a1, .unset, .unset, .unset, .unset] [])) _
    refine st1 _ ?_
    show Steps _ _ _ (T1.setTop (mkF m 3 #[vR a1, .unset, .unset, .unset, .unset] [iR d1])) _
    refine XS.astoreN X1.here hx rfl (hb hby d7_3) rfl rfl (l' := #[vR a1, vR d1, .unset, .unset, .unset]) rfl ?_
    show Steps _ _ _ (T1.setTop (mkF m 4 #[vR a1, vR d1, .unset, .unset, .unset] [])) _
    refine XS.aloadN X1.here hx rfl (hb hby d7_4) rfl rfl ?_
    show Steps _ _ _ (T1.setTop (mkF m 5 #[vR a1, vR d1, .unset, .unset, .unset] [iR d1])) _
    refine X1.arraylength hx Ar2.1 (State.isArrayOf_alike hZ.alike Ar2.2.1) (g := (mkF m 5 #[vR a1, vR d1, .unset, .unset, .unset] [iR d1])) rfl rfl (hb hby d7_5) _ ?_
    rw [len_of S2 M2]
    show Steps _ _ _ (T1.setTop (mkF m 6 #[vR a1, vR d1, .unset, .unset, .unset] [iI 3])) _
    refine XS.istoreN X1.here hx rfl (hb hby d7_6) rfl (l' := #[vR a1, vR d1, vI 3, .unset, .unset]) rfl ?_
    show Steps _ _ _ (T1.setTop (mkF m 7 #[vR a1, vR d1, vI 3, .unset, .unset] [])) _
    refine XS.iconst X1.here hx rfl (hb hby d7_7) ?_
    show Steps _ _ _ (T1.setTop (mkF m 8 #[vR a1, vR d1, vI 3, .unset, .unset] [iI 0])) _
    refine XS.istoreN X1.here hx rfl (hb hby d7_8) rfl (l' := #[vR a1, vR d1, vI 3, vI 0, .unset]) rfl ?_
    show Steps _ _ _ (T1.setTop (mkF m 9 #[vR a1, vR d1, vI 3, vI 0, .unset] [])) _
    refine XS.iloadN X1.here hx rfl (hb hby d7_9) rfl ?_
    show Steps _ _ _ (T1.setTop (mkF m 10 #[vR a1, vR d1, vI 3, vI 0, .unset] [iI 0])) _
    refine XS.iloadN X1.here hx rfl (hb hby d7_10) rfl ?_
    show Steps _ _ _ (T1.setTop (mkF m 11 #[vR a1, vR d1, vI 3, vI 0, .unset] [iI 3, iI 0])) _
    refine XS.icmpNo X1.here hx rfl (hb hby d7_11) rfl (tlt (by decide : (0 : Int32) < (3 : Int32))).2.1 ?_
    show Steps _ _ _ (T1.setTop (mkF m 14 #[vR a1, vR d1, vI 3, vI 0, .unset] [])) _
    refine XS.aloadN X1.here hx rfl (hb hby d7_14) rfl rfl ?_
    show Steps _ _ _ (T1.setTop (mkF m 15 #[vR a1, vR d1, vI 3, vI 0, .unset] [iR d1])) _
    refine XS.iloadN X1.here hx rfl (hb hby d7_15) rfl ?_
    show Steps _ _ _ (T1.setTop (mkF m 16 #[vR a1, vR d1, vI 3, vI 0, .unset] [iI 0, iR d1])) _
    refine X1.aaload hx (j := (0 : Int32)) (v := (.ref s_VALIDATE)) Ar2.1 (State.isArrayOf_alike hZ.alike Ar2.2.1) rfl Ar2.2.2 hin3 hat4 (g := (mkF m 16 #[vR a1, vR d1, vI 3, vI 0, .unset] [iI 0, iR d1])) rfl rfl (hb hby d7_16) _ ?_
    show Steps _ _ _ (T1.setTop (mkF m 17 #[vR a1, vR d1, vI 3, vI 0, .unset] [iR s_VALIDATE])) _
    refine XS.astore X1.here hx rfl (hb hby d7_17) rfl rfl (l' := #[vR a1, vR d1, vI 3, vI 0, vR s_VALIDATE]) rfl ?_
    show Steps _ _ _ (T1.setTop (mkF m 19 #[vR a1, vR d1, vI 3, vI 0, vR s_VALIDATE] [])) _
    refine XS.aload X1.here hx rfl (hb hby d7_19) rfl rfl ?_
    show Steps _ _ _ (T1.setTop (mkF m 21 #[vR a1, vR d1, vI 3, vI 0, vR s_VALIDATE] [iR s_VALIDATE])) _
    refine st7 _ ?_
    show Steps _ _ _ (T7.setTop (mkF m 24 #[vR a1, vR d1, vI 3, vI 0, vR s_VALIDATE] [iR l_VALIDATE])) _
    refine XS.aloadN X7.here hx rfl (hb hby d7_24) rfl rfl ?_
    show Steps _ _ _ (T7.setTop (mkF m 25 #[vR a1, vR d1, vI 3, vI 0, vR s_VALIDATE] [iR a1, iR l_VALIDATE])) _
    refine st8.trans ?_
    show Steps _ _ _ (T8.setTop (mkF m 28 #[vR a1, vR d1, vI 3, vI 0, vR s_VALIDATE] [iI 0])) _
    refine XS.ifYes X8.here hx rfl (pc0 := 28) (pc' := 34) rfl (hb hby d7_28) rfl ((if0 _ _).trans (teq (by decide : (0 : Int32) = (0 : Int32))).1) (by decide) (by decide) ?_
    show Steps _ _ _ (T8.setTop (mkF m 34 #[vR a1, vR d1, vI 3, vI 0, vR s_VALIDATE] [])) _
    refine XS.iinc X8.here hx rfl (hb hby d7_34) rfl (l' := #[vR a1, vR d1, vI 3, vI ((0 : Int32) + (1 : Int32)), vR s_VALIDATE]) rfl ?_
    rw [(by decide : ((0 : Int32) + (1 : Int32)) = (1 : Int32))]
    show Steps _ _ _ (T8.setTop (mkF m 37 #[vR a1, vR d1, vI 3, vI 1, vR s_VALIDATE] [])) _
    refine XS.goto X8.here hx rfl (pc0 := 37) (pc' := 9) rfl (hb hby d7_37) (by decide) (by decide) ?_
    show Steps _ _ _ (T8.setTop (mkF m 9 #[vR a1, vR d1, vI 3, vI 1, vR s_VALIDATE] [])) _
    refine XS.iloadN X8.here hx rfl (hb hby d7_9) rfl ?_
    show Steps _ _ _ (T8.setTop (mkF m 10 #[vR a1, vR d1, vI 3, vI 1, vR s_VALIDATE] [iI 1])) _
    refine XS.iloadN X8.here hx rfl (hb hby d7_10) rfl ?_
    show Steps _ _ _ (T8.setTop (mkF m 11 #[vR a1, vR d1, vI 3, vI 1, vR s_VALIDATE] [iI 3, iI 1])) _
    refine XS.icmpNo X8.here hx rfl (hb hby d7_11) rfl (tlt (by decide : (1 : Int32) < (3 : Int32))).2.1 ?_
    show Steps _ _ _ (T8.setTop (mkF m 14 #[vR a1, vR d1, vI 3, vI 1, vR s_VALIDATE] [])) _
    refine XS.aloadN X8.here hx rfl (hb hby d7_14) rfl rfl ?_
    show Steps _ _ _ (T8.setTop (mkF m 15 #[vR a1, vR d1, vI 3, vI 1, vR s_VALIDATE] [iR d1])) _
    refine XS.iloadN X8.here hx rfl (hb hby d7_15) rfl ?_
    show Steps _ _ _ (T8.setTop (mkF m 16 #[vR a1, vR d1, vI 3, vI 1, vR s_VALIDATE] [iI 1, iR d1])) _
    refine X8.aaload hx (j := (1 : Int32)) (v := (.ref s_FORMAT)) (by rw [e8]; exact Ar2.1) (State.isArrayOf_alike hZ.alike Ar2.2.1) rfl Ar2.2.2 hin17 hat18 (g := (mkF m 16 #[vR a1, vR d1, vI 3, vI 1, vR s_VALIDATE] [iI 1, iR d1])) rfl rfl (hb hby d7_16) _ ?_
    show Steps _ _ _ (T8.setTop (mkF m 17 #[vR a1, vR d1, vI 3, vI 1, vR s_VALIDATE] [iR s_FORMAT])) _
    refine XS.astore X8.here hx rfl (hb hby d7_17) rfl rfl (l' := #[vR a1, vR d1, vI 3, vI 1, vR s_FORMAT]) rfl ?_
    show Steps _ _ _ (T8.setTop (mkF m 19 #[vR a1, vR d1, vI 3, vI 1, vR s_FORMAT] [])) _
    refine XS.aload X8.here hx rfl (hb hby d7_19) rfl rfl ?_
    show Steps _ _ _ (T8.setTop (mkF m 21 #[vR a1, vR d1, vI 3, vI 1, vR s_FORMAT] [iR s_FORMAT])) _
    refine st20 _ ?_
    show Steps _ _ _ (T20.setTop (mkF m 24 #[vR a1, vR d1, vI 3, vI 1, vR s_FORMAT] [iR l_FORMAT])) _
    refine XS.aloadN X20.here hx rfl (hb hby d7_24) rfl rfl ?_
    show Steps _ _ _ (T20.setTop (mkF m 25 #[vR a1, vR d1, vI 3, vI 1, vR s_FORMAT] [iR a1, iR l_FORMAT])) _
    refine st21.trans ?_
    show Steps _ _ _ (T21.setTop (mkF m 28 #[vR a1, vR d1, vI 3, vI 1, vR s_FORMAT] [iI 0])) _
    refine XS.ifYes X21.here hx rfl (pc0 := 28) (pc' := 34) rfl (hb hby d7_28) rfl ((if0 _ _).trans (teq (by decide : (0 : Int32) = (0 : Int32))).1) (by decide) (by decide) ?_
    show Steps _ _ _ (T21.setTop (mkF m 34 #[vR a1, vR d1, vI 3, vI 1, vR s_FORMAT] [])) _
    refine XS.iinc X21.here hx rfl (hb hby d7_34) rfl (l' := #[vR a1, vR d1, vI 3, vI ((1 : Int32) + (1 : Int32)), vR s_FORMAT]) rfl ?_
    rw [(by decide : ((1 : Int32) + (1 : Int32)) = (2 : Int32))]
    show Steps _ _ _ (T21.setTop (mkF m 37 #[vR a1, vR d1, vI 3, vI 2, vR s_FORMAT] [])) _
    refine XS.goto X21.here hx rfl (pc0 := 37) (pc' := 9) rfl (hb hby d7_37) (by decide) (by decide) ?_
    show Steps _ _ _ (T21.setTop (mkF m 9 #[vR a1, vR d1, vI 3, vI 2, vR s_FORMAT] [])) _
    refine XS.iloadN X21.here hx rfl (hb hby d7_9) rfl ?_
    show Steps _ _ _ (T21.setTop (mkF m 10 #[vR a1, vR d1, vI 3, vI 2, vR s_FORMAT] [iI 2])) _
    refine XS.iloadN X21.here hx rfl (hb hby d7_10) rfl ?_
    show Steps _ _ _ (T21.setTop (mkF m 11 #[vR a1, vR d1, vI 3, vI 2, vR s_FORMAT] [iI 3, iI 2])) _
    refine XS.icmpNo X21.here hx rfl (hb hby d7_11) rfl (tlt (by decide : (2 : Int32) < (3 : Int32))).2.1 ?_
    show Steps _ _ _ (T21.setTop (mkF m 14 #[vR a1, vR d1, vI 3, vI 2, vR s_FORMAT] [])) _
    refine XS.aloadN X21.here hx rfl (hb hby d7_14) rfl rfl ?_
    show Steps _ _ _ (T21.setTop (mkF m 15 #[vR a1, vR d1, vI 3, vI 2, vR s_FORMAT] [iR d1])) _
    refine XS.iloadN X21.here hx rfl (hb hby d7_15) rfl ?_
    show Steps _ _ _ (T21.setTop (mkF m 16 #[vR a1, vR d1, vI 3, vI 2, vR s_FORMAT] [iI 2, iR d1])) _
    refine X21.aaload hx (j := (2 : Int32)) (v := (.ref s_GET)) (by rw [e21]; exact Ar2.1) (State.isArrayOf_alike hZ.alike Ar2.2.1) rfl Ar2.2.2 hin26 hat27 (g := (mkF m 16 #[vR a1, vR d1, vI 3, vI 2, vR s_FORMAT] [iI 2, iR d1])) rfl rfl (hb hby d7_16) _ ?_
    show Steps _ _ _ (T21.setTop (mkF m 17 #[vR a1, vR d1, vI 3, vI 2, vR s_FORMAT] [iR s_GET])) _
    refine XS.astore X21.here hx rfl (hb hby d7_17) rfl rfl (l' := #[vR a1, vR d1, vI 3, vI 2, vR s_GET]) rfl ?_
    show Steps _ _ _ (T21.setTop (mkF m 19 #[vR a1, vR d1, vI 3, vI 2, vR s_GET] [])) _
    refine XS.aload X21.here hx rfl (hb hby d7_19) rfl rfl ?_
    show Steps _ _ _ (T21.setTop (mkF m 21 #[vR a1, vR d1, vI 3, vI 2, vR s_GET] [iR s_GET])) _
    refine st29 _ ?_
    show Steps _ _ _ (T29.setTop (mkF m 24 #[vR a1, vR d1, vI 3, vI 2, vR s_GET] [iR l_GET])) _
    refine XS.aloadN X29.here hx rfl (hb hby d7_24) rfl rfl ?_
    show Steps _ _ _ (T29.setTop (mkF m 25 #[vR a1, vR d1, vI 3, vI 2, vR s_GET] [iR a1, iR l_GET])) _
    refine st30.trans ?_
    show Steps _ _ _ (T30.setTop (mkF m 28 #[vR a1, vR d1, vI 3, vI 2, vR s_GET] [iI 1])) _
    refine XS.ifNo X30.here hx rfl (hb hby d7_28) rfl ((if0 _ _).trans (feq (by decide : ¬ ((1 : Int32) = (0 : Int32)))).1) ?_
    show Steps _ _ _ (T30.setTop (mkF m 31 #[vR a1, vR d1, vI 3, vI 2, vR s_GET] [])) _
    refine XS.aload X30.here hx rfl (hb hby d7_31) rfl rfl ?_
    show Steps _ _ _ (T30.setTop (mkF m 33 #[vR a1, vR d1, vI 3, vI 2, vR s_GET] [iR s_GET])) _
    jvm_step X30.here [X30.here.top, hx, (hb hby d7_33), X30.method', Bd.returns, Value.isRef, FieldType.isReference]
    first | (intro acts; rw [hr _ acts rfl rfl rfl]) | rw [hr _ _ rfl rfl rfl]
    exact Steps.refl _
  · show Q7_GET Z a1 dd kd cs s_V kV s_VALIDATE l_VALIDATE d_VALIDATE k_VALIDATE s_FORMAT l_FORMAT d_FORMAT k_FORMAT s_GET l_GET d_GET k_GET h0 n0 _ T30.heap _
    rw [e30]
    exact ⟨rfl, N1, K1⟩
theorem own_elemR {args : Array Value} {s : State} {idx : List Nat} {t k t2 : Term} {a b : Addr} {cl : Cell} {j : Int32} (ht : t.eval args s none idx s = some (.ref a)) (hj : k.eval args s none idx s = some (.int j)) (hc : s.heap[a]? = some cl) (h2 : t2.eval args s none idx s = some (.ref b)) (h : (Jvm.Cond.eq (Term.elem t k) t2).value args s none s idx = some true) : cl.slots[j.toNatClampNeg]? = some (.ref b) := by
  obtain ⟨x, y, e1, e2, -, -⟩ := cmp_v (Or.inl h)
  obtain rfl : y = .ref b := Option.some.inj (e2.symm.trans h2)
  have hx : x = .ref b := by
    simp only [Cond.value, e1, e2] at h
    cases x <;> simp at h
    rw [h]
  rw [← hx]
  exact (elem_in e1 ht hj hc).2

theorem pn_4 : plainName "com/example/plainjson/cli/CommandNamedPinLaw" = true := by first | (simp [plainName, overriddenIn]; done) | decide +kernel
theorem ef_0 (m : MethodId) (x0 : Int32) : entryFrame m #[(.int x0)] maxLocals = mkF m 0 #[.val (.int x0), .unset, .unset, .unset, .unset] [] := by first | (simp [entryFrame, mkF, argsToLocals, Value.category, maxLocals]; done) | rfl
def Q0 (Z : State) (p1 : Int32) (cs : Int32) (s_V : Addr) (kV : ClassId) (s_VALIDATE l_VALIDATE d_VALIDATE : Addr) (k_VALIDATE : ClassId) (s_FORMAT l_FORMAT d_FORMAT : Addr) (k_FORMAT : ClassId) (s_GET l_GET d_GET : Addr) (k_GET : ClassId) (h0 : Heap) (n0 : Nat) (v : Option Value) (h : Heap) (L : List Loc) : Prop := v = some (.int (1 : Int32)) ∧ Fr n0 L
set_option maxRecDepth 65536 in
set_option maxHeartbeats 40000000 in
theorem rm0 (l : Launch) (Z : State) (a0 : Array Value) (hw : ∀ d ∈ tables_1, d.before a0 Z = true) (ws : List Jvm.Cond) (p1 : Int32) (cs : Int32) (s_V : Addr) (kV : ClassId) (s_VALIDATE l_VALIDATE d_VALIDATE : Addr) (k_VALIDATE : ClassId) (s_FORMAT l_FORMAT d_FORMAT : Addr) (k_FORMAT : ClassId) (s_GET l_GET d_GET : Addr) (k_GET : ClassId) (h0 : Heap) (n0 : Nat) (Z0 : n0 ≤ h0.size) (O0 : Old Z n0 h0) (S_CS : Sta Z Z.heap "java/lang/String" "COMPACT_STRINGS" "Z" (.int cs)) (h_cs : ¬ cs = (0 : Int32)) (S_V : Sta Z Z.heap "com/example/plainjson/cli/Command" "$VALUES" "[Lcom/example/plainjson/cli/Command;" (.ref s_V)) (V_V : Arv Z Z.heap s_V kV (.object "com/example/plainjson/cli/Command") (3 : Int32) [(.ref s_VALIDATE), (.ref s_FORMAT), (.ref s_GET)] .null) (E_V : Exa Z Z.heap s_V "[Lcom/example/plainjson/cli/Command;") (S_VALIDATE : Sta Z Z.heap "com/example/plainjson/cli/Command" "VALIDATE" "Lcom/example/plainjson/cli/Command;" (.ref s_VALIDATE)) (E_VALIDATE : Exa Z Z.heap s_VALIDATE "com/example/plainjson/cli/Command") (L_VALIDATE : Fld Z Z.heap s_VALIDATE "com/example/plainjson/cli/Command" "label" "Ljava/lang/String;" (.ref l_VALIDATE)) (G_VALIDATE : Exa Z Z.heap l_VALIDATE "java/lang/String") (C_VALIDATE : Fld Z Z.heap l_VALIDATE "java/lang/String" "coder" "B" (.int (0 : Int32))) (W_VALIDATE : Fld Z Z.heap l_VALIDATE "java/lang/String" "value" "[B" (.ref d_VALIDATE)) (V_VALIDATE : Arv Z Z.heap d_VALIDATE k_VALIDATE .byte (8 : Int32) [(.int (118 : Int32)), (.int (97 : Int32)), (.int (108 : Int32)), (.int (105 : Int32)), (.int (100 : Int32)), (.int (97 : Int32)), (.int (116 : Int32)), (.int (101 : Int32))] (.int (0 : Int32))) (S_FORMAT : Sta Z Z.heap "com/example/plainjson/cli/Command" "FORMAT" "Lcom/example/plainjson/cli/Command;" (.ref s_FORMAT)) (E_FORMAT : Exa Z Z.heap s_FORMAT "com/example/plainjson/cli/Command") (L_FORMAT : Fld Z Z.heap s_FORMAT "com/example/plainjson/cli/Command" "label" "Ljava/lang/String;" (.ref l_FORMAT)) (G_FORMAT : Exa Z Z.heap l_FORMAT "java/lang/String") (C_FORMAT : Fld Z Z.heap l_FORMAT "java/lang/String" "coder" "B" (.int (0 : Int32))) (W_FORMAT : Fld Z Z.heap l_FORMAT "java/lang/String" "value" "[B" (.ref d_FORMAT)) (V_FORMAT : Arv Z Z.heap d_FORMAT k_FORMAT .byte (6 : Int32) [(.int (102 : Int32)), (.int (111 : Int32)), (.int (114 : Int32)), (.int (109 : Int32)), (.int (97 : Int32)), (.int (116 : Int32))] (.int (0 : Int32))) (S_GET : Sta Z Z.heap "com/example/plainjson/cli/Command" "GET" "Lcom/example/plainjson/cli/Command;" (.ref s_GET)) (E_GET : Exa Z Z.heap s_GET "com/example/plainjson/cli/Command") (L_GET : Fld Z Z.heap s_GET "com/example/plainjson/cli/Command" "label" "Ljava/lang/String;" (.ref l_GET)) (G_GET : Exa Z Z.heap l_GET "java/lang/String") (C_GET : Fld Z Z.heap l_GET "java/lang/String" "coder" "B" (.int (0 : Int32))) (W_GET : Fld Z Z.heap l_GET "java/lang/String" "value" "[B" (.ref d_GET)) (V_GET : Arv Z Z.heap d_GET k_GET .byte (3 : Int32) [(.int (103 : Int32)), (.int (101 : Int32)), (.int (116 : Int32))] (.int (0 : Int32))) :
    MetFree l x (head1 (Jvm.Cond.code x code maxLocals ret :: ws) room_1) (fun a U => a = #[(.int p1)] ∧ Z.Warmed39 U.vm ∧ U.heap = h0) (fun _ _ _ _ _ => True) (fun _ U o U' => ∃ v L, o = .returned v ∧ Q0 Z p1 cs s_V kV s_VALIDATE l_VALIDATE d_VALIDATE k_VALIDATE s_FORMAT l_FORMAT d_FORMAT k_FORMAT s_GET l_GET d_GET k_GET h0 n0 v U'.heap L ∧ FrameEnd U o U' L room_1.cells room_1.slots) := by
  refine MetFree.of_bodySF (plainFor_of_name pn_4) hisR ?_
  intro p e s m args below meth c s₁ Bd hml0 hP hK
  obtain ⟨rfl, hZ, hh⟩ := hP
  have hx := Bd.exec
  have hby := Bd.bytes
  have hml : c.maxLocals = 5 := hml0
  have hown : s.vm.findClass "com/example/plainjson/cli/CommandNamedPinLaw" = some m.cls := findClass_of_methodNamed Bd.named
  have hnm := (name_of_methodNamed Bd.named Bd.method).1
  have X0 : Stand p l e room_1 s m #[(.int p1)] below meth c s₁ [] 0 0 := Stand.of_body Bd
  have e0 : s₁.heap = h0 := by rw [← hh, Bd.state]; rfl
  have N0 := Fr.nil n0
  have K0 := Keep.refl h0 []
  have pre0 : ∀ t, Steps p.tables e below (s₁.setTop (mkF m 0 #[.val (.int p1), .unset, .unset, .unset, .unset] [])) t → Steps p.tables e below (s₁.setTop (entryFrame m #[(.int p1)] maxLocals)) t := fun t k => castTop (ef_0 m p1) k
  obtain ⟨kv, hkv⟩ : ∃ z : Int32, z = ((p1 &&& (2147483647 : Int32)) % (3 : Int32)) := ⟨_, rfl⟩
  have qkv : kv = 0 ∨ kv = 1 ∨ kv = 2 := by rw [hkv]; exact own_small3 _ (own_rem p1 3 3 rfl (by decide)).1 (own_rem p1 3 3 rfl (by decide)).2
  have pre2 : ∀ t, Steps p.tables e below (s₁.setTop (mkF m 7 #[vI p1, vI kv, .unset, .unset, .unset] [])) t → Steps p.tables e below (s₁.setTop (entryFrame m #[(.int p1)] maxLocals)) t := by
    intro t kt
    refine pre0 t ?_
    show Steps _ _ _ (s₁.setTop (mkF m 0 #[vI p1, .unset, .unset, .unset, .unset] [])) _
    refine XS.iloadN X0.here hx rfl (hb hby at_0) rfl ?_
    show Steps _ _ _ (s₁.setTop (mkF m 1 #[vI p1, .unset, .unset, .unset, .unset] [iI p1])) _
    refine X0.ldcInt hx hown (mvT hZ (hw _ (List.mem_of_getElem? (i := 0) rfl))) (g := (mkF m 1 #[vI p1, .unset, .unset, .unset, .unset] [iI p1])) rfl (hb hby at_1) _ ?_
    show Steps _ _ _ (s₁.setTop (mkF m 3 #[vI p1, .unset, .unset, .unset, .unset] [iI 2147483647, iI p1])) _
    refine XS.iand X0.here hx rfl (hb hby at_3) rfl ?_
    show Steps _ _ _ (s₁.setTop (mkF m 4 #[vI p1, .unset, .unset, .unset, .unset] [iI (p1 &&& (2147483647 : Int32))])) _
    refine XS.iconst X0.here hx rfl (hb hby at_4) ?_
    show Steps _ _ _ (s₁.setTop (mkF m 5 #[vI p1, .unset, .unset, .unset, .unset] [iI 3, iI (p1 &&& (2147483647 : Int32))])) _
    refine iremM X0 hx rfl (hb hby at_5) rfl (by decide) ?_
    show Steps _ _ _ (s₁.setTop (mkF m 6 #[vI p1, .unset, .unset, .unset, .unset] [iI ((p1 &&& (2147483647 : Int32)) % (3 : Int32))])) _
    refine XS.istoreN X0.here hx rfl (hb hby at_6) rfl (l' := #[vI p1, vI ((p1 &&& (2147483647 : Int32)) % (3 : Int32)), .unset, .unset, .unset]) rfl ?_
    rw [← hkv]
    exact kt
  rcases qkv with rfl | rfl | rfl
  · obtain ⟨T3, h3, X3, e3, E3, A3, D3, -, st3⟩ := newO X0 hx hZ hown (hw _ (List.mem_of_getElem? (i := 1) rfl)) (hw _ (List.mem_of_getElem? (i := 2) rfl)) (hw _ (List.mem_of_getElem? (i := 3) rfl)) e0 (g := (mkF m 11 #[vI p1, vI 0, .unset, .unset, .unset] [])) rfl (hb hby at_11) (by decide) (by decide)
    obtain ⟨b3, g3⟩ : ∃ z, z = h0.size := ⟨_, rfl⟩
    rw [← g3] at A3 D3 st3
    have sz_b3 : h0.size ≤ b3 := Nat.le_trans K0.1 (Nat.le_of_eq g3.symm)
    have g_b3 : n0 ≤ b3 := Nat.le_trans Z0 sz_b3
    have K3 : Keep h0 h3 [] := K0.ext E3
    have F_coder_b3 : Fld Z h3 b3 "java/lang/String" "coder" "B" (.int (0 : Int32)) := D3 (Or.inr (hw _ (List.mem_of_getElem? (i := 28) rfl))) (ty := .byte) (by decide)
    have F_value_b3 : Fld Z h3 b3 "java/lang/String" "value" "[B" .null := D3 (Or.inr (hw _ (List.mem_of_getElem? (i := 30) rfl))) (ty := (.array .byte)) (by decide)
    obtain ⟨T4, h4, k4, X4, e4, E4, A4, st4⟩ := newP X3 hx hZ (hw _ (List.mem_of_getElem? (i := 4) rfl)) e3 (g := (mkF m 17 #[vI p1, vI 0, .unset, .unset, .unset] [iI 8, iR b3, iR b3])) rfl (hb hby at_17) rfl (by decide) (cap := 8) (by decide) (by decide) (by decide) (by decide)
    obtain ⟨b4, g4⟩ : ∃ z, z = h3.size := ⟨_, rfl⟩
    rw [← g4] at A4 st4
    have ne_b3_b4 : b3 ≠ b4 := Nat.ne_of_lt (Nat.lt_of_lt_of_le A3.lt (Nat.le_of_eq g4.symm))
    have sz_b4 : h0.size ≤ b4 := Nat.le_trans K3.1 (Nat.le_of_eq g4.symm)
    have g_b4 : n0 ≤ b4 := Nat.le_trans Z0 sz_b4
    have K4 : Keep h0 h4 [] := K3.ext E4
    have V4 : Arv Z h4 b4 k4 .char (8 : Int32) [(.int (0 : Int32)), (.int (0 : Int32)), (.int (0 : Int32)), (.int (0 : Int32)), (.int (0 : Int32)), (.int (0 : Int32)), (.int (0 : Int32)), (.int (0 : Int32))] (.int (0 : Int32)) := (Arv.new A4 (by decide)).pad (pad_rep [] (.int (0 : Int32)) 8)
    obtain ⟨cl5, Ar5, q5, S5, M5, H5, G5⟩ := id V4
    have hin6 : ¬ ((0 : Int32) < 0 ∨ cl5.slots.size ≤ ((0 : Int32)).toNatClampNeg) := inb_of S5 ⟨by decide, by decide⟩
    obtain ⟨T7, h7, X7, e7, W7, st7⟩ := stC X4 hx hZ e4 Ar5 (j := (0 : Int32)) hin6 (g := (mkF m 23 #[vI p1, vI 0, .unset, .unset, .unset] [iI 118, iI 0, iR b4, iR b4, iR b3, iR b3])) rfl rfl (hb hby at_23)
    have V7 : Arv Z h7 b4 k4 .char (8 : Int32) [(.int (118 : Int32)), (.int (0 : Int32)), (.int (0 : Int32)), (.int (0 : Int32)), (.int (0 : Int32)), (.int (0 : Int32)), (.int (0 : Int32)), (.int (0 : Int32))] (.int (0 : Int32)) := Arv.set Ar5 q5 S5 M5 H5 G5 (by decide) W7 0 rfl (Nat.le_of_ble_eq_true rfl)
    have K7 : Keep h0 h7 [] := K4.wr W7 (Or.inr sz_b4)
    have N7 := Fr.snoc X7 N0 g_b4
    obtain ⟨cl8, Ar8, q8, S8, M8, H8, G8⟩ := id V7
    have hin9 : ¬ ((1 : Int32) < 0 ∨ cl8.slots.size ≤ ((1 : Int32)).toNatClampNeg) := inb_of S8 ⟨by decide, by decide⟩
    obtain ⟨T10, h10, X10, e10, W10, st10⟩ := stC X7 hx hZ e7 Ar8 (j := (1 : Int32)) hin9 (g := (mkF m 28 #[vI p1, vI 0, .unset, .unset, .unset] [iI 97, iI 1, iR b4, iR b4, iR b3, iR b3])) rfl rfl (hb hby at_28)
    have V10 : Arv Z h10 b4 k4 .char (8 : Int32) [(.int (118 : Int32)), (.int (97 : Int32)), (.int (0 : Int32)), (.int (0 : Int32)), (.int (0 : Int32)), (.int (0 : Int32)), (.int (0 : Int32)), (.int (0 : Int32))] (.int (0 : Int32)) := Arv.set Ar8 q8 S8 M8 H8 G8 (by decide) W10 1 rfl (Nat.le_of_ble_eq_true rfl)
    have K10 : Keep h0 h10 [] := K7.wr W10 (Or.inr sz_b4)
    have N10 := Fr.snoc X10 N7 g_b4
    obtain ⟨cl11, Ar11, q11, S11, M11, H11, G11⟩ := id V10
    have hin12 : ¬ ((2 : Int32) < 0 ∨ cl11.slots.size ≤ ((2 : Int32)).toNatClampNeg) := inb_of S11 ⟨by decide, by decide⟩
    obtain ⟨T13, h13, X13, e13, W13, st13⟩ := stC X10 hx hZ e10 Ar11 (j := (2 : Int32)) hin12 (g := (mkF m 33 #[vI p1, vI 0, .unset, .unset, .unset] [iI 108, iI 2, iR b4, iR b4, iR b3, iR b3])) rfl rfl (hb hby at_33)
    have V13 : Arv Z h13 b4 k4 .char (8 : Int32) [(.int (118 : Int32)), (.int (97 : Int32)), (.int (108 : Int32)), (.int (0 : Int32)), (.int (0 : Int32)), (.int (0 : Int32)), (.int (0 : Int32)), (.int (0 : Int32))] (.int (0 : Int32)) := Arv.set Ar11 q11 S11 M11 H11 G11 (by decide) W13 2 rfl (Nat.le_of_ble_eq_true rfl)
    have K13 : Keep h0 h13 [] := K10.wr W13 (Or.inr sz_b4)
    have N13 := Fr.snoc X13 N10 g_b4
    obtain ⟨cl14, Ar14, q14, S14, M14, H14, G14⟩ := id V13
    have hin15 : ¬ ((3 : Int32) < 0 ∨ cl14.slots.size ≤ ((3 : Int32)).toNatClampNeg) := inb_of S14 ⟨by decide, by decide⟩
    obtain ⟨T16, h16, X16, e16, W16, st16⟩ := stC X13 hx hZ e13 Ar14 (j := (3 : Int32)) hin15 (g := (mkF m 38 #[vI p1, vI 0, .unset, .unset, .unset] [iI 105, iI 3, iR b4, iR b4, iR b3, iR b3])) rfl rfl (hb hby at_38)
    have V16 : Arv Z h16 b4 k4 .char (8 : Int32) [(.int (118 : Int32)), (.int (97 : Int32)), (.int (108 : Int32)), (.int (105 : Int32)), (.int (0 : Int32)), (.int (0 : Int32)), (.int (0 : Int32)), (.int (0 : Int32))] (.int (0 : Int32)) := Arv.set Ar14 q14 S14 M14 H14 G14 (by decide) W16 3 rfl (Nat.le_of_ble_eq_true rfl)
    have K16 : Keep h0 h16 [] := K13.wr W16 (Or.inr sz_b4)
    have N16 := Fr.snoc X16 N13 g_b4
    obtain ⟨cl17, Ar17, q17, S17, M17, H17, G17⟩ := id V16
    have hin18 : ¬ ((4 : Int32) < 0 ∨ cl17.slots.size ≤ ((4 : Int32)).toNatClampNeg) := inb_of S17 ⟨by decide, by decide⟩
    obtain ⟨T19, h19, X19, e19, W19, st19⟩ := stC X16 hx hZ e16 Ar17 (j := (4 : Int32)) hin18 (g := (mkF m 43 #[vI p1, vI 0, .unset, .unset, .unset] [iI 100, iI 4, iR b4, iR b4, iR b3, iR b3])) rfl rfl (hb hby at_43)
    have V19 : Arv Z h19 b4 k4 .char (8 : Int32) [(.int (118 : Int32)), (.int (97 : Int32)), (.int (108 : Int32)), (.int (105 : Int32)), (.int (100 : Int32)), (.int (0 : Int32)), (.int (0 : Int32)), (.int (0 : Int32))] (.int (0 : Int32)) := Arv.set Ar17 q17 S17 M17 H17 G17 (by decide) W19 4 rfl (Nat.le_of_ble_eq_true rfl)
    have K19 : Keep h0 h19 [] := K16.wr W19 (Or.inr sz_b4)
    have N19 := Fr.snoc X19 N16 g_b4
    obtain ⟨cl20, Ar20, q20, S20, M20, H20, G20⟩ := id V19
    have hin21 : ¬ ((5 : Int32) < 0 ∨ cl20.slots.size ≤ ((5 : Int32)).toNatClampNeg) := inb_of S20 ⟨by decide, by decide⟩
    obtain ⟨T22, h22, X22, e22, W22, st22⟩ := stC X19 hx hZ e19 Ar20 (j := (5 : Int32)) hin21 (g := (mkF m 48 #[vI p1, vI 0, .unset, .unset, .unset] [iI 97, iI 5, iR b4, iR b4, iR b3, iR b3])) rfl rfl (hb hby at_48)
    have V22 : Arv Z h22 b4 k4 .char (8 : Int32) [(.int (118 : Int32)), (.int (97 : Int32)), (.int (108 : Int32)), (.int (105 : Int32)), (.int (100 : Int32)), (.int (97 : Int32)), (.int (0 : Int32)), (.int (0 : Int32))] (.int (0 : Int32)) := Arv.set Ar20 q20 S20 M20 H20 G20 (by decide) W22 5 rfl (Nat.le_of_ble_eq_true rfl)
    have K22 : Keep h0 h22 [] := K19.wr W22 (Or.inr sz_b4)
    have N22 := Fr.snoc X22 N19 g_b4
    obtain ⟨cl23, Ar23, q23, S23, M23, H23, G23⟩ := id V22
    have hin24 : ¬ ((6 : Int32) < 0 ∨ cl23.slots.size ≤ ((6 : Int32)).toNatClampNeg) := inb_of S23 ⟨by decide, by decide⟩
    obtain ⟨T25, h25, X25, e25, W25, st25⟩ := stC X22 hx hZ e22 Ar23 (j := (6 : Int32)) hin24 (g := (mkF m 54 #[vI p1, vI 0, .unset, .unset, .unset] [iI 116, iI 6, iR b4, iR b4, iR b3, iR b3])) rfl rfl (hb hby at_54)
    have V25 : Arv Z h25 b4 k4 .char (8 : Int32) [(.int (118 : Int32)), (.int (97 : Int32)), (.int (108 : Int32)), (.int (105 : Int32)), (.int (100 : Int32)), (.int (97 : Int32)), (.int (116 : Int32)), (.int (0 : Int32))] (.int (0 : Int32)) := Arv.set Ar23 q23 S23 M23 H23 G23 (by decide) W25 6 rfl (Nat.le_of_ble_eq_true rfl)
    have K25 : Keep h0 h25 [] := K22.wr W25 (Or.inr sz_b4)
    have N25 := Fr.snoc X25 N22 g_b4
    obtain ⟨cl26, Ar26, q26, S26, M26, H26, G26⟩ := id V25
    have hin27 : ¬ ((7 : Int32) < 0 ∨ cl26.slots.size ≤ ((7 : Int32)).toNatClampNeg) := inb_of S26 ⟨by decide, by decide⟩
    obtain ⟨T28, h28, X28, e28, W28, st28⟩ := stC X25 hx hZ e25 Ar26 (j := (7 : Int32)) hin27 (g := (mkF m 60 #[vI p1, vI 0, .unset, .unset, .unset] [iI 101, iI 7, iR b4, iR b4, iR b3, iR b3])) rfl rfl (hb hby at_60)
    have V28 : Arv Z h28 b4 k4 .char (8 : Int32) [(.int (118 : Int32)), (.int (97 : Int32)), (.int (108 : Int32)), (.int (105 : Int32)), (.int (100 : Int32)), (.int (97 : Int32)), (.int (116 : Int32)), (.int (101 : Int32))] (.int (0 : Int32)) := Arv.set Ar26 q26 S26 M26 H26 G26 (by decide) W28 7 rfl (Nat.le_of_ble_eq_true rfl)
    have K28 : Keep h0 h28 [] := K25.wr W28 (Or.inr sz_b4)
    have N28 := Fr.snoc X28 N25 g_b4
    have fk30 := (((((((((A3.ext E4).wr W7).wr W10).wr W13).wr W16).wr W19).wr W22).wr W25).wr W28)
    have fk31 := (((((((((F_value_b3.ext E4).other W7 (Or.inl ne_b3_b4)).other W10 (Or.inl ne_b3_b4)).other W13 (Or.inl ne_b3_b4)).other W16 (Or.inl ne_b3_b4)).other W19 (Or.inl ne_b3_b4)).other W22 (Or.inl ne_b3_b4)).other W25 (Or.inl ne_b3_b4)).other W28 (Or.inl ne_b3_b4))
    have fk32 := (((((((((F_coder_b3.ext E4).other W7 (Or.inl ne_b3_b4)).other W10 (Or.inl ne_b3_b4)).other W13 (Or.inl ne_b3_b4)).other W16 (Or.inl ne_b3_b4)).other W19 (Or.inl ne_b3_b4)).other W22 (Or.inl ne_b3_b4)).other W25 (Or.inl ne_b3_b4)).other W28 (Or.inl ne_b3_b4))
    have Oh33 := O0.keep K28 all0
    obtain ⟨_, _, ⟨T29, L29, k29, n29⟩, -, X29, ⟨Lc29, hQ29, l29, y29, z29⟩, st29⟩ := X28.specialBack hx (y := (⟨"java/lang/String", "<init>", "([C)V"⟩ : MethodName)) rfl hown (mvT hZ (hw _ (List.mem_of_getElem? (i := 5) rfl))) (mvT hZ (hw _ (List.mem_of_getElem? (i := 6) rfl))) (mvT hZ (hw _ (List.mem_of_getElem? (i := 7) rfl))) (by decide) (backOf (W := 1) (rm1_VALIDATE l Z a0 hw [] b3 b4 k4  cs h28 n0 (Nat.le_trans Z0 K28.1) Oh33 fk30 g_b3 fk31 fk32 V28 ne_b3_b4  S_CS h_cs) hZ (hw _ (List.mem_of_getElem? (i := 7) rfl)) (hw _ (List.mem_of_getElem? (i := 3) rfl)) (by decide) (by decide)) (g := (mkF m 61 #[vI p1, vI 0, .unset, .unset, .unset] [iR b4, iR b3, iR b3])) rfl (by rw [hml]; rfl) (Steps.refl _) (a := b3) (argsL := [(.ref b4)]) (rest := [(.ref b3)]) (lenOf pd_7 rfl) rfl (by show 2 * 0 + _ ≤ _; exact Nat.le_of_eq rfl) (hb hby at_61) (fun _ _ => ⟨rfl, e28, (by decide : 2 + 1 ≤ _), (by decide : 12 + 8 ≤ _)⟩)
    dsimp only [Pt.U, Pt.locs, Pt.cells, Pt.slots] at X29 l29 y29 z29 st29 hQ29
    subst l29 y29 z29
    obtain ⟨d29, kd29, rfl, N29q, K29q, E29q, C29q, F29q, V29q, z_d29⟩ := hQ29
    have ne_b3_d29 : b3 ≠ d29 := Nat.ne_of_lt (Nat.lt_of_lt_of_le fk30.lt z_d29)
    have ne_b4_d29 : b4 ≠ d29 := Nat.ne_of_lt (Nat.lt_of_lt_of_le V28.lt z_d29)
    have sz_d29 : h0.size ≤ d29 := Nat.le_trans K28.1 z_d29
    have g_d29 : n0 ≤ d29 := Nat.le_trans Z0 sz_d29
    have N29 := Fr.app N28 N29q
    have K29 : Keep h0 T29.heap [] := Keep.trans K28 K29q (allS (Or.inr sz_b3) all0)
    have Oh34 := O0.keep K29 all0
    have fo35 := S_VALIDATE.ext Oh34.2
    obtain ⟨T36, X36, e36, st36⟩ := getS2 X29 hx hZ hown (host := "") (Or.inl (hw _ (List.mem_of_getElem? (i := 31) rfl))) Via.refl rfl fo35 (g := (mkF m 65 #[vI p1, vI 0, vR b3, .unset, .unset] [])) rfl (hb hby at_65)
    obtain ⟨_, _, ⟨T37, L37, k37, n37⟩, -, X37, ⟨Lc37, hQ37, l37, y37, z37⟩, st37⟩ := Jvm.LawKit.callS X36 hx (y := (⟨"com/example/plainjson/cli/Command", "named", "(Ljava/lang/String;)Lcom/example/plainjson/cli/Command;"⟩ : MethodName)) hown (mvT hZ (hw _ (List.mem_of_getElem? (i := 34) rfl))) (mvT hZ (hw _ (List.mem_of_getElem? (i := 35) rfl))) (mvT hZ (hw _ (List.mem_of_getElem? (i := 32) rfl))) (mvT hZ (hw _ (List.mem_of_getElem? (i := 36) rfl))) (by decide) (backOf (W := 0) (rm7_VALIDATE l Z a0 hw [] b3 d29 kd29 cs s_V kV s_VALIDATE l_VALIDATE d_VALIDATE k_VALIDATE s_FORMAT l_FORMAT d_FORMAT k_FORMAT s_GET l_GET d_GET k_GET T29.heap n0 (Nat.le_trans Z0 K29.1) Oh34 E29q C29q F29q V29q g_b3 S_CS h_cs S_V V_V E_V S_VALIDATE E_VALIDATE L_VALIDATE G_VALIDATE C_VALIDATE W_VALIDATE V_VALIDATE S_FORMAT E_FORMAT L_FORMAT G_FORMAT C_FORMAT W_FORMAT V_FORMAT S_GET E_GET L_GET G_GET C_GET W_GET V_GET) hZ (hw _ (List.mem_of_getElem? (i := 36) rfl)) (hw _ (List.mem_of_getElem? (i := 32) rfl)) (by decide) (by decide)) (g := (mkF m 157 #[vI p1, vI 0, vR b3, vR s_VALIDATE, .unset] [iR b3])) rfl (by rw [hml]; rfl) (argsL := [(.ref b3)]) (rest := []) (lenOf pd_8 rfl) rfl (by show 2 * 0 + _ ≤ _; exact Nat.le_of_eq rfl) (hb hby at_157) (fun _ _ => ⟨rfl, e36, (by decide : 3 + 1 ≤ _), (by decide : 20 + 3 ≤ _)⟩)
    dsimp only [Pt.U, Pt.locs, Pt.cells, Pt.slots] at X37 l37 y37 z37 st37 hQ37
    subst l37 y37 z37
    obtain ⟨rfl, N37q, K37q⟩ := hQ37
    have N37 := Fr.app N29 N37q
    have K37 : Keep h0 T37.heap [] := Keep.trans K29 K37q all0
    have Oh38 := O0.keep K37 all0
    have fo39 := L_VALIDATE.ext Oh38.2
    obtain ⟨T40, X40, e40, st40⟩ := getF X37 hx hZ hown (host := "") (Or.inl (hw _ (List.mem_of_getElem? (i := 66) rfl))) Via.refl rfl fo39 (g := (mkF m 170 #[vI p1, vI 0, vR b3, vR s_VALIDATE, vR s_VALIDATE] [iR s_VALIDATE])) rfl rfl (hb hby at_170)
    have fo42 := G_VALIDATE.ext Oh38.2
    have fo43 := C_VALIDATE.ext Oh38.2
    have fo44 := W_VALIDATE.ext Oh38.2
    have fo45 := V_VALIDATE.ext Oh38.2
    have fk46 := (E29q.keep K37q)
    have fk47 := (C29q.keep K37q nin0)
    have fk48 := (F29q.keep K37q nin0)
    have fk49 := (V29q.keep K37q nin0)
    obtain ⟨cq41, kq41, q41a, q41b, q41c⟩ := isOf hZ e40 fo42
    obtain ⟨_, _, ⟨T41, L41, k41, n41⟩, -, X41, ⟨Lc41, hQ41, l41, y41, z41⟩, st41⟩ := X40.virtualBack hx (y := (⟨"java/lang/String", "equals", "(Ljava/lang/Object;)Z"⟩ : MethodName)) (z := (⟨"java/lang/String", "equals", "(Ljava/lang/Object;)Z"⟩ : MethodName)) hown (mvT hZ (hw _ (List.mem_of_getElem? (i := 67) rfl))) (mvT hZ (hw _ (List.mem_of_getElem? (i := 57) rfl))) (notFace_of_selects (args := #[]) (mvT hZ (hw _ (List.mem_of_getElem? (i := 59) rfl)))) (mvT hZ (hw _ (List.mem_of_getElem? (i := 59) rfl))) (mvT hZ (hw _ (List.mem_of_getElem? (i := 58) rfl))) (by decide) (backOf (W := 0) (rm9_VALIDATE_VALIDATE l Z a0 hw [] l_VALIDATE b3 d_VALIDATE d29 k_VALIDATE kd29 cs T37.heap n0 Oh38 fo42 fo43 fo44 fo45 fk46 fk47 fk48 fk49 (O0.ne G_VALIDATE.lt g_b3) S_CS h_cs) hZ (hw _ (List.mem_of_getElem? (i := 60) rfl)) (hw _ (List.mem_of_getElem? (i := 3) rfl)) (by decide) (by decide)) q41a q41c (g := (mkF m 174 #[vI p1, vI 0, vR b3, vR s_VALIDATE, vR s_VALIDATE] [iR b3, iR l_VALIDATE])) rfl (by rw [hml]; rfl) (Steps.refl _) (argsL := [(.ref b3)]) (rest := []) (lenOf pd_6 rfl) rfl (by show 2 * 0 + _ ≤ _; exact Nat.le_of_eq rfl) (hb hby at_174) (fun _ _ => ⟨rfl, e40, (by decide : 4 + 0 ≤ _), (by decide : 23 + 0 ≤ _)⟩)
    dsimp only [Pt.U, Pt.locs, Pt.cells, Pt.slots] at X41 l41 y41 z41 st41 hQ41
    subst l41 y41 z41
    obtain ⟨rfl, rfl, e41⟩ := hQ41
    try rw [List.append_nil] at X41
    obtain ⟨fs, hr, hrun, hended, hW, hsame⟩ := X41.leave (v := some (.int (1 : Int32))) (fun h => by rw [Bd.returns] at h; cases h)
    refine ⟨_, _, pre2 _ ?_, hrun, hended, _, _, rfl, ?_, ⟨_, rfl⟩, hW, hsame.mono (by decide) (by decide)⟩
    · show Steps _ _ _ (s₁.setTop (mkF m 7 #[vI p1, vI 0, .unset, .unset, .unset] [])) _
      refine XS.iloadN X0.here hx rfl (hb hby at_7) rfl ?_
      show Steps _ _ _ (s₁.setTop (mkF m 8 #[vI p1, vI 0, .unset, .unset, .unset] [iI 0])) _
      refine XS.ifNo X0.here hx rfl (hb hby at_8) rfl ((if0 _ _).trans (teq (by decide : (0 : Int32) = (0 : Int32))).2) ?_
      show Steps _ _ _ (s₁.setTop (mkF m 11 #[vI p1, vI 0, .unset, .unset, .unset] [])) _
      refine st3 _ ?_
      show Steps _ _ _ (T3.setTop (mkF m 14 #[vI p1, vI 0, .unset, .unset, .unset] [iR b3])) _
      refine XS.dup X3.here hx rfl (hb hby at_14) rfl rfl ?_
      show Steps _ _ _ (T3.setTop (mkF m 15 #[vI p1, vI 0, .unset, .unset, .unset] [iR b3, iR b3])) _
      refine XS.bipush X3.here hx rfl (hb hby at_15) ?_
      show Steps _ _ _ (T3.setTop (mkF m 17 #[vI p1, vI 0, .unset, .unset, .unset] [iI 8, iR b3, iR b3])) _
      refine st4 _ ?_
      show Steps _ _ _ (T4.setTop (mkF m 19 #[vI p1, vI 0, .unset, .unset, .unset] [iR b4, iR b3, iR b3])) _
      refine XS.dup X4.here hx rfl (hb hby at_19) rfl rfl ?_
      show Steps _ _ _ (T4.setTop (mkF m 20 #[vI p1, vI 0, .unset, .unset, .unset] [iR b4, iR b4, iR b3, iR b3])) _
      refine XS.iconst X4.here hx rfl (hb hby at_20) ?_
      show Steps _ _ _ (T4.setTop (mkF m 21 #[vI p1, vI 0, .unset, .unset, .unset] [iI 0, iR b4, iR b4, iR b3, iR b3])) _
      refine XS.bipush X4.here hx rfl (hb hby at_21) ?_
      show Steps _ _ _ (T4.setTop (mkF m 23 #[vI p1, vI 0, .unset, .unset, .unset] [iI 118, iI 0, iR b4, iR b4, iR b3, iR b3])) _
      refine st7 _ ?_
      show Steps _ _ _ (T7.setTop (mkF m 24 #[vI p1, vI 0, .unset, .unset, .unset] [iR b4, iR b3, iR b3])) _
      refine XS.dup X7.here hx rfl (hb hby at_24) rfl rfl ?_
      show Steps _ _ _ (T7.setTop (mkF m 25 #[vI p1, vI 0, .unset, .unset, .unset] [iR b4, iR b4, iR b3, iR b3])) _
      refine XS.iconst X7.here hx rfl (hb hby at_25) ?_
      show Steps _ _ _ (T7.setTop (mkF m 26 #[vI p1, vI 0, .unset, .unset, .unset] [iI 1, iR b4, iR b4, iR b3, iR b3])) _
      refine XS.bipush X7.here hx rfl (hb hby at_26) ?_
      show Steps _ _ _ (T7.setTop (mkF m 28 #[vI p1, vI 0, .unset, .unset, .unset] [iI 97, iI 1, iR b4, iR b4, iR b3, iR b3])) _
      refine st10 _ ?_
      show Steps _ _ _ (T10.setTop (mkF m 29 #[vI p1, vI 0, .unset, .unset, .unset] [iR b4, iR b3, iR b3])) _
      refine XS.dup X10.here hx rfl (hb hby at_29) rfl rfl ?_
      show Steps _ _ _ (T10.setTop (mkF m 30 #[vI p1, vI 0, .unset, .unset, .unset] [iR b4, iR b4, iR b3, iR b3])) _
      refine XS.iconst X10.here hx rfl (hb hby at_30) ?_
      show Steps _ _ _ (T10.setTop (mkF m 31 #[vI p1, vI 0, .unset, .unset, .unset] [iI 2, iR b4, iR b4, iR b3, iR b3])) _
      refine XS.bipush X10.here hx rfl (hb hby at_31) ?_
      show Steps _ _ _ (T10.setTop (mkF m 33 #[vI p1, vI 0, .unset, .unset, .unset] [iI 108, iI 2, iR b4, iR b4, iR b3, iR b3])) _
      refine st13 _ ?_
      show Steps _ _ _ (T13.setTop (mkF m 34 #[vI p1, vI 0, .unset, .unset, .unset] [iR b4, iR b3, iR b3])) _
      refine XS.dup X13.here hx rfl (hb hby at_34) rfl rfl ?_
      show Steps _ _ _ (T13.setTop (mkF m 35 #[vI p1, vI 0, .unset, .unset, .unset] [iR b4, iR b4, iR b3, iR b3])) _
      refine XS.iconst X13.here hx rfl (hb hby at_35) ?_
      show Steps _ _ _ (T13.setTop (mkF m 36 #[vI p1, vI 0, .unset, .unset, .unset] [iI 3, iR b4, iR b4, iR b3, iR b3])) _
      refine XS.bipush X13.here hx rfl (hb hby at_36) ?_
      show Steps _ _ _ (T13.setTop (mkF m 38 #[vI p1, vI 0, .unset, .unset, .unset] [iI 105, iI 3, iR b4, iR b4, iR b3, iR b3])) _
      refine st16 _ ?_
      show Steps _ _ _ (T16.setTop (mkF m 39 #[vI p1, vI 0, .unset, .unset, .unset] [iR b4, iR b3, iR b3])) _
      refine XS.dup X16.here hx rfl (hb hby at_39) rfl rfl ?_
      show Steps _ _ _ (T16.setTop (mkF m 40 #[vI p1, vI 0, .unset, .unset, .unset] [iR b4, iR b4, iR b3, iR b3])) _
      refine XS.iconst X16.here hx rfl (hb hby at_40) ?_
      show Steps _ _ _ (T16.setTop (mkF m 41 #[vI p1, vI 0, .unset, .unset, .unset] [iI 4, iR b4, iR b4, iR b3, iR b3])) _
      refine XS.bipush X16.here hx rfl (hb hby at_41) ?_
      show Steps _ _ _ (T16.setTop (mkF m 43 #[vI p1, vI 0, .unset, .unset, .unset] [iI 100, iI 4, iR b4, iR b4, iR b3, iR b3])) _
      refine st19 _ ?_
      show Steps _ _ _ (T19.setTop (mkF m 44 #[vI p1, vI 0, .unset, .unset, .unset] [iR b4, iR b3, iR b3])) _
      refine XS.dup X19.here hx rfl (hb hby at_44) rfl rfl ?_
      show Steps _ _ _ (T19.setTop (mkF m 45 #[vI p1, vI 0, .unset, .unset, .unset] [iR b4, iR b4, iR b3, iR b3])) _
      refine XS.iconst X19.here hx rfl (hb hby at_45) ?_
      show Steps _ _ _ (T19.setTop (mkF m 46 #[vI p1, vI 0, .unset, .unset, .unset] [iI 5, iR b4, iR b4, iR b3, iR b3])) _
      refine XS.bipush X19.here hx rfl (hb hby at_46) ?_
      show Steps _ _ _ (T19.setTop (mkF m 48 #[vI p1, vI 0, .unset, .unset, .unset] [iI 97, iI 5, iR b4, iR b4, iR b3, iR b3])) _
      refine st22 _ ?_
      show Steps _ _ _ (T22.setTop (mkF m 49 #[vI p1, vI 0, .unset, .unset, .unset] [iR b4, iR b3, iR b3])) _
      refine XS.dup X22.here hx rfl (hb hby at_49) rfl rfl ?_
      show Steps _ _ _ (T22.setTop (mkF m 50 #[vI p1, vI 0, .unset, .unset, .unset] [iR b4, iR b4, iR b3, iR b3])) _
      refine XS.bipush X22.here hx rfl (hb hby at_50) ?_
      show Steps _ _ _ (T22.setTop (mkF m 52 #[vI p1, vI 0, .unset, .unset, .unset] [iI 6, iR b4, iR b4, iR b3, iR b3])) _
      refine XS.bipush X22.here hx rfl (hb hby at_52) ?_
      show Steps _ _ _ (T22.setTop (mkF m 54 #[vI p1, vI 0, .unset, .unset, .unset] [iI 116, iI 6, iR b4, iR b4, iR b3, iR b3])) _
      refine st25 _ ?_
      show Steps _ _ _ (T25.setTop (mkF m 55 #[vI p1, vI 0, .unset, .unset, .unset] [iR b4, iR b3, iR b3])) _
      refine XS.dup X25.here hx rfl (hb hby at_55) rfl rfl ?_
      show Steps _ _ _ (T25.setTop (mkF m 56 #[vI p1, vI 0, .unset, .unset, .unset] [iR b4, iR b4, iR b3, iR b3])) _
      refine XS.bipush X25.here hx rfl (hb hby at_56) ?_
      show Steps _ _ _ (T25.setTop (mkF m 58 #[vI p1, vI 0, .unset, .unset, .unset] [iI 7, iR b4, iR b4, iR b3, iR b3])) _
      refine XS.bipush X25.here hx rfl (hb hby at_58) ?_
      show Steps _ _ _ (T25.setTop (mkF m 60 #[vI p1, vI 0, .unset, .unset, .unset] [iI 101, iI 7, iR b4, iR b4, iR b3, iR b3])) _
      refine st28 _ ?_
      show Steps _ _ _ (T28.setTop (mkF m 61 #[vI p1, vI 0, .unset, .unset, .unset] [iR b4, iR b3, iR b3])) _
      refine st29.trans ?_
      show Steps _ _ _ (T29.setTop (mkF m 64 #[vI p1, vI 0, .unset, .unset, .unset] [iR b3])) _
      refine XS.astoreN X29.here hx rfl (hb hby at_64) rfl rfl (l' := #[vI p1, vI 0, vR b3, .unset, .unset]) rfl ?_
      show Steps _ _ _ (T29.setTop (mkF m 65 #[vI p1, vI 0, vR b3, .unset, .unset] [])) _
      refine st36 _ ?_
      show Steps _ _ _ (T36.setTop (mkF m 68 #[vI p1, vI 0, vR b3, .unset, .unset] [iR s_VALIDATE])) _
      refine XS.astoreN X36.here hx rfl (hb hby at_68) rfl rfl (l' := #[vI p1, vI 0, vR b3, vR s_VALIDATE, .unset]) rfl ?_
      show Steps _ _ _ (T36.setTop (mkF m 69 #[vI p1, vI 0, vR b3, vR s_VALIDATE, .unset] [])) _
      refine XS.goto X36.here hx rfl (pc0 := 69) (pc' := 156) rfl (hb hby at_69) (by decide) (by decide) ?_
      show Steps _ _ _ (T36.setTop (mkF m 156 #[vI p1, vI 0, vR b3, vR s_VALIDATE, .unset] [])) _
      refine XS.aloadN X36.here hx rfl (hb hby at_156) rfl rfl ?_
      show Steps _ _ _ (T36.setTop (mkF m 157 #[vI p1, vI 0, vR b3, vR s_VALIDATE, .unset] [iR b3])) _
      refine st37 _ ?_
      show Steps _ _ _ (T37.setTop (mkF m 160 #[vI p1, vI 0, vR b3, vR s_VALIDATE, .unset] [iR s_VALIDATE])) _
      refine XS.astore X37.here hx rfl (hb hby at_160) rfl rfl (l' := #[vI p1, vI 0, vR b3, vR s_VALIDATE, vR s_VALIDATE]) rfl ?_
      show Steps _ _ _ (T37.setTop (mkF m 162 #[vI p1, vI 0, vR b3, vR s_VALIDATE, vR s_VALIDATE] [])) _
      refine XS.aload X37.here hx rfl (hb hby at_162) rfl rfl ?_
      show Steps _ _ _ (T37.setTop (mkF m 164 #[vI p1, vI 0, vR b3, vR s_VALIDATE, vR s_VALIDATE] [iR s_VALIDATE])) _
      refine XS.aloadN X37.here hx rfl (hb hby at_164) rfl rfl ?_
      show Steps _ _ _ (T37.setTop (mkF m 165 #[vI p1, vI 0, vR b3, vR s_VALIDATE, vR s_VALIDATE] [iR s_VALIDATE, iR s_VALIDATE])) _
      refine Jvm.RoadKit.acmp (g := (mkF m 165 #[vI p1, vI 0, vR b3, vR s_VALIDATE, vR s_VALIDATE] [iR s_VALIDATE, iR s_VALIDATE])) X37 hx rfl rfl rfl (pc0 := 165) (pc' := 168) (same := true) rfl (hb hby at_165) rfl (decide_eq_true rfl) (by decide) (by decide) ?_
      show Steps _ _ _ (T37.setTop (mkF m 168 #[vI p1, vI 0, vR b3, vR s_VALIDATE, vR s_VALIDATE] [])) _
      refine XS.aload X37.here hx rfl (hb hby at_168) rfl rfl ?_
      show Steps _ _ _ (T37.setTop (mkF m 170 #[vI p1, vI 0, vR b3, vR s_VALIDATE, vR s_VALIDATE] [iR s_VALIDATE])) _
      refine st40 _ ?_
      show Steps _ _ _ (T40.setTop (mkF m 173 #[vI p1, vI 0, vR b3, vR s_VALIDATE, vR s_VALIDATE] [iR l_VALIDATE])) _
      refine XS.aloadN X40.here hx rfl (hb hby at_173) rfl rfl ?_
      show Steps _ _ _ (T40.setTop (mkF m 174 #[vI p1, vI 0, vR b3, vR s_VALIDATE, vR s_VALIDATE] [iR b3, iR l_VALIDATE])) _
      refine st41.trans ?_
      show Steps _ _ _ (T41.setTop (mkF m 177 #[vI p1, vI 0, vR b3, vR s_VALIDATE, vR s_VALIDATE] [iI 1])) _
      refine XS.ifNo X41.here hx rfl (hb hby at_177) rfl ((if0 _ _).trans (feq (by decide : ¬ ((1 : Int32) = (0 : Int32)))).1) ?_
      show Steps _ _ _ (T41.setTop (mkF m 180 #[vI p1, vI 0, vR b3, vR s_VALIDATE, vR s_VALIDATE] [])) _
      refine XS.iconst X41.here hx rfl (hb hby at_180) ?_
      show Steps _ _ _ (T41.setTop (mkF m 181 #[vI p1, vI 0, vR b3, vR s_VALIDATE, vR s_VALIDATE] [iI 1])) _
      refine XS.goto X41.here hx rfl (pc0 := 181) (pc' := 185) rfl (hb hby at_181) (by decide) (by decide) ?_
      show Steps _ _ _ (T41.setTop (mkF m 185 #[vI p1, vI 0, vR b3, vR s_VALIDATE, vR s_VALIDATE] [iI 1])) _
      exact retN X41 hx (t := .boolean) Bd.returns (by simp) (hb hby at_185) hr
    · show Q0 Z p1 cs s_V kV s_VALIDATE l_VALIDATE d_VALIDATE k_VALIDATE s_FORMAT l_FORMAT d_FORMAT k_FORMAT s_GET l_GET d_GET k_GET h0 n0 _ T41.heap _
      rw [e41]
      exact ⟨rfl, N37⟩
  · obtain ⟨T50, h50, X50, e50, E50, A50, D50, -, st50⟩ := newO X0 hx hZ hown (hw _ (List.mem_of_getElem? (i := 1) rfl)) (hw _ (List.mem_of_getElem? (i := 2) rfl)) (hw _ (List.mem_of_getElem? (i := 3) rfl)) e0 (g := (mkF m 77 #[vI p1, vI 1, .unset, .unset, .unset] [])) rfl (hb hby at_77) (by decide) (by decide)
    obtain ⟨b50, g50⟩ : ∃ z, z = h0.size := ⟨_, rfl⟩
    rw [← g50] at A50 D50 st50
    have sz_b50 : h0.size ≤ b50 := Nat.le_trans K0.1 (Nat.le_of_eq g50.symm)
    have g_b50 : n0 ≤ b50 := Nat.le_trans Z0 sz_b50
    have K50 : Keep h0 h50 [] := K0.ext E50
    have F_coder_b50 : Fld Z h50 b50 "java/lang/String" "coder" "B" (.int (0 : Int32)) := D50 (Or.inr (hw _ (List.mem_of_getElem? (i := 28) rfl))) (ty := .byte) (by decide)
    have F_value_b50 : Fld Z h50 b50 "java/lang/String" "value" "[B" .null := D50 (Or.inr (hw _ (List.mem_of_getElem? (i := 30) rfl))) (ty := (.array .byte)) (by decide)
    obtain ⟨T51, h51, k51, X51, e51, E51, A51, st51⟩ := newP X50 hx hZ (hw _ (List.mem_of_getElem? (i := 4) rfl)) e50 (g := (mkF m 83 #[vI p1, vI 1, .unset, .unset, .unset] [iI 6, iR b50, iR b50])) rfl (hb hby at_83) rfl (by decide) (cap := 6) (by decide) (by decide) (by decide) (by decide)
    obtain ⟨b51, g51⟩ : ∃ z, z = h50.size := ⟨_, rfl⟩
    rw [← g51] at A51 st51
    have ne_b50_b51 : b50 ≠ b51 := Nat.ne_of_lt (Nat.lt_of_lt_of_le A50.lt (Nat.le_of_eq g51.symm))
    have sz_b51 : h0.size ≤ b51 := Nat.le_trans K50.1 (Nat.le_of_eq g51.symm)
    have g_b51 : n0 ≤ b51 := Nat.le_trans Z0 sz_b51
    have K51 : Keep h0 h51 [] := K50.ext E51
    have V51 : Arv Z h51 b51 k51 .char (6 : Int32) [(.int (0 : Int32)), (.int (0 : Int32)), (.int (0 : Int32)), (.int (0 : Int32)), (.int (0 : Int32)), (.int (0 : Int32))] (.int (0 : Int32)) := (Arv.new A51 (by decide)).pad (pad_rep [] (.int (0 : Int32)) 6)
    obtain ⟨cl52, Ar52, q52, S52, M52, H52, G52⟩ := id V51
    have hin53 : ¬ ((0 : Int32) < 0 ∨ cl52.slots.size ≤ ((0 : Int32)).toNatClampNeg) := inb_of S52 ⟨by decide, by decide⟩
    obtain ⟨T54, h54, X54, e54, W54, st54⟩ := stC X51 hx hZ e51 Ar52 (j := (0 : Int32)) hin53 (g := (mkF m 89 #[vI p1, vI 1, .unset, .unset, .unset] [iI 102, iI 0, iR b51, iR b51, iR b50, iR b50])) rfl rfl (hb hby at_89)
    have V54 : Arv Z h54 b51 k51 .char (6 : Int32) [(.int (102 : Int32)), (.int (0 : Int32)), (.int (0 : Int32)), (.int (0 : Int32)), (.int (0 : Int32)), (.int (0 : Int32))] (.int (0 : Int32)) := Arv.set Ar52 q52 S52 M52 H52 G52 (by decide) W54 0 rfl (Nat.le_of_ble_eq_true rfl)
    have K54 : Keep h0 h54 [] := K51.wr W54 (Or.inr sz_b51)
    have N54 := Fr.snoc X54 N0 g_b51
    obtain ⟨cl55, Ar55, q55, S55, M55, H55, G55⟩ := id V54
    have hin56 : ¬ ((1 : Int32) < 0 ∨ cl55.slots.size ≤ ((1 : Int32)).toNatClampNeg) := inb_of S55 ⟨by decide, by decide⟩
    obtain ⟨T57, h57, X57, e57, W57, st57⟩ := stC X54 hx hZ e54 Ar55 (j := (1 : Int32)) hin56 (g := (mkF m 94 #[vI p1, vI 1, .unset, .unset, .unset] [iI 111, iI 1, iR b51, iR b51, iR b50, iR b50])) rfl rfl (hb hby at_94)
    have V57 : Arv Z h57 b51 k51 .char (6 : Int32) [(.int (102 : Int32)), (.int (111 : Int32)), (.int (0 : Int32)), (.int (0 : Int32)), (.int (0 : Int32)), (.int (0 : Int32))] (.int (0 : Int32)) := Arv.set Ar55 q55 S55 M55 H55 G55 (by decide) W57 1 rfl (Nat.le_of_ble_eq_true rfl)
    have K57 : Keep h0 h57 [] := K54.wr W57 (Or.inr sz_b51)
    have N57 := Fr.snoc X57 N54 g_b51
    obtain ⟨cl58, Ar58, q58, S58, M58, H58, G58⟩ := id V57
    have hin59 : ¬ ((2 : Int32) < 0 ∨ cl58.slots.size ≤ ((2 : Int32)).toNatClampNeg) := inb_of S58 ⟨by decide, by decide⟩
    obtain ⟨T60, h60, X60, e60, W60, st60⟩ := stC X57 hx hZ e57 Ar58 (j := (2 : Int32)) hin59 (g := (mkF m 99 #[vI p1, vI 1, .unset, .unset, .unset] [iI 114, iI 2, iR b51, iR b51, iR b50, iR b50])) rfl rfl (hb hby at_99)
    have V60 : Arv Z h60 b51 k51 .char (6 : Int32) [(.int (102 : Int32)), (.int (111 : Int32)), (.int (114 : Int32)), (.int (0 : Int32)), (.int (0 : Int32)), (.int (0 : Int32))] (.int (0 : Int32)) := Arv.set Ar58 q58 S58 M58 H58 G58 (by decide) W60 2 rfl (Nat.le_of_ble_eq_true rfl)
    have K60 : Keep h0 h60 [] := K57.wr W60 (Or.inr sz_b51)
    have N60 := Fr.snoc X60 N57 g_b51
    obtain ⟨cl61, Ar61, q61, S61, M61, H61, G61⟩ := id V60
    have hin62 : ¬ ((3 : Int32) < 0 ∨ cl61.slots.size ≤ ((3 : Int32)).toNatClampNeg) := inb_of S61 ⟨by decide, by decide⟩
    obtain ⟨T63, h63, X63, e63, W63, st63⟩ := stC X60 hx hZ e60 Ar61 (j := (3 : Int32)) hin62 (g := (mkF m 104 #[vI p1, vI 1, .unset, .unset, .unset] [iI 109, iI 3, iR b51, iR b51, iR b50, iR b50])) rfl rfl (hb hby at_104)
    have V63 : Arv Z h63 b51 k51 .char (6 : Int32) [(.int (102 : Int32)), (.int (111 : Int32)), (.int (114 : Int32)), (.int (109 : Int32)), (.int (0 : Int32)), (.int (0 : Int32))] (.int (0 : Int32)) := Arv.set Ar61 q61 S61 M61 H61 G61 (by decide) W63 3 rfl (Nat.le_of_ble_eq_true rfl)
    have K63 : Keep h0 h63 [] := K60.wr W63 (Or.inr sz_b51)
    have N63 := Fr.snoc X63 N60 g_b51
    obtain ⟨cl64, Ar64, q64, S64, M64, H64, G64⟩ := id V63
    have hin65 : ¬ ((4 : Int32) < 0 ∨ cl64.slots.size ≤ ((4 : Int32)).toNatClampNeg) := inb_of S64 ⟨by decide, by decide⟩
    obtain ⟨T66, h66, X66, e66, W66, st66⟩ := stC X63 hx hZ e63 Ar64 (j := (4 : Int32)) hin65 (g := (mkF m 109 #[vI p1, vI 1, .unset, .unset, .unset] [iI 97, iI 4, iR b51, iR b51, iR b50, iR b50])) rfl rfl (hb hby at_109)
    have V66 : Arv Z h66 b51 k51 .char (6 : Int32) [(.int (102 : Int32)), (.int (111 : Int32)), (.int (114 : Int32)), (.int (109 : Int32)), (.int (97 : Int32)), (.int (0 : Int32))] (.int (0 : Int32)) := Arv.set Ar64 q64 S64 M64 H64 G64 (by decide) W66 4 rfl (Nat.le_of_ble_eq_true rfl)
    have K66 : Keep h0 h66 [] := K63.wr W66 (Or.inr sz_b51)
    have N66 := Fr.snoc X66 N63 g_b51
    obtain ⟨cl67, Ar67, q67, S67, M67, H67, G67⟩ := id V66
    have hin68 : ¬ ((5 : Int32) < 0 ∨ cl67.slots.size ≤ ((5 : Int32)).toNatClampNeg) := inb_of S67 ⟨by decide, by decide⟩
    obtain ⟨T69, h69, X69, e69, W69, st69⟩ := stC X66 hx hZ e66 Ar67 (j := (5 : Int32)) hin68 (g := (mkF m 114 #[vI p1, vI 1, .unset, .unset, .unset] [iI 116, iI 5, iR b51, iR b51, iR b50, iR b50])) rfl rfl (hb hby at_114)
    have V69 : Arv Z h69 b51 k51 .char (6 : Int32) [(.int (102 : Int32)), (.int (111 : Int32)), (.int (114 : Int32)), (.int (109 : Int32)), (.int (97 : Int32)), (.int (116 : Int32))] (.int (0 : Int32)) := Arv.set Ar67 q67 S67 M67 H67 G67 (by decide) W69 5 rfl (Nat.le_of_ble_eq_true rfl)
    have K69 : Keep h0 h69 [] := K66.wr W69 (Or.inr sz_b51)
    have N69 := Fr.snoc X69 N66 g_b51
    have fk71 := (((((((A50.ext E51).wr W54).wr W57).wr W60).wr W63).wr W66).wr W69)
    have fk72 := (((((((F_value_b50.ext E51).other W54 (Or.inl ne_b50_b51)).other W57 (Or.inl ne_b50_b51)).other W60 (Or.inl ne_b50_b51)).other W63 (Or.inl ne_b50_b51)).other W66 (Or.inl ne_b50_b51)).other W69 (Or.inl ne_b50_b51))
    have fk73 := (((((((F_coder_b50.ext E51).other W54 (Or.inl ne_b50_b51)).other W57 (Or.inl ne_b50_b51)).other W60 (Or.inl ne_b50_b51)).other W63 (Or.inl ne_b50_b51)).other W66 (Or.inl ne_b50_b51)).other W69 (Or.inl ne_b50_b51))
    have Oh74 := O0.keep K69 all0
    obtain ⟨_, _, ⟨T70, L70, k70, n70⟩, -, X70, ⟨Lc70, hQ70, l70, y70, z70⟩, st70⟩ := X69.specialBack hx (y := (⟨"java/lang/String", "<init>", "([C)V"⟩ : MethodName)) rfl hown (mvT hZ (hw _ (List.mem_of_getElem? (i := 5) rfl))) (mvT hZ (hw _ (List.mem_of_getElem? (i := 6) rfl))) (mvT hZ (hw _ (List.mem_of_getElem? (i := 7) rfl))) (by decide) (backOf (W := 1) (rm1_FORMAT l Z a0 hw [] b50 b51 k51  cs h69 n0 (Nat.le_trans Z0 K69.1) Oh74 fk71 g_b50 fk72 fk73 V69 ne_b50_b51  S_CS h_cs) hZ (hw _ (List.mem_of_getElem? (i := 7) rfl)) (hw _ (List.mem_of_getElem? (i := 3) rfl)) (by decide) (by decide)) (g := (mkF m 115 #[vI p1, vI 1, .unset, .unset, .unset] [iR b51, iR b50, iR b50])) rfl (by rw [hml]; rfl) (Steps.refl _) (a := b50) (argsL := [(.ref b51)]) (rest := [(.ref b50)]) (lenOf pd_7 rfl) rfl (by show 2 * 0 + _ ≤ _; exact Nat.le_of_eq rfl) (hb hby at_115) (fun _ _ => ⟨rfl, e69, (by decide : 2 + 1 ≤ _), (by decide : 10 + 6 ≤ _)⟩)
    dsimp only [Pt.U, Pt.locs, Pt.cells, Pt.slots] at X70 l70 y70 z70 st70 hQ70
    subst l70 y70 z70
    obtain ⟨d70, kd70, rfl, N70q, K70q, E70q, C70q, F70q, V70q, z_d70⟩ := hQ70
    have ne_b50_d70 : b50 ≠ d70 := Nat.ne_of_lt (Nat.lt_of_lt_of_le fk71.lt z_d70)
    have ne_b51_d70 : b51 ≠ d70 := Nat.ne_of_lt (Nat.lt_of_lt_of_le V69.lt z_d70)
    have sz_d70 : h0.size ≤ d70 := Nat.le_trans K69.1 z_d70
    have g_d70 : n0 ≤ d70 := Nat.le_trans Z0 sz_d70
    have N70 := Fr.app N69 N70q
    have K70 : Keep h0 T70.heap [] := Keep.trans K69 K70q (allS (Or.inr sz_b50) all0)
    have Oh75 := O0.keep K70 all0
    have fo76 := S_FORMAT.ext Oh75.2
    obtain ⟨T77, X77, e77, st77⟩ := getS2 X70 hx hZ hown (host := "") (Or.inl (hw _ (List.mem_of_getElem? (i := 69) rfl))) Via.refl rfl fo76 (g := (mkF m 119 #[vI p1, vI 1, vR b50, .unset, .unset] [])) rfl (hb hby at_119)
    obtain ⟨_, _, ⟨T78, L78, k78, n78⟩, -, X78, ⟨Lc78, hQ78, l78, y78, z78⟩, st78⟩ := Jvm.LawKit.callS X77 hx (y := (⟨"com/example/plainjson/cli/Command", "named", "(Ljava/lang/String;)Lcom/example/plainjson/cli/Command;"⟩ : MethodName)) hown (mvT hZ (hw _ (List.mem_of_getElem? (i := 34) rfl))) (mvT hZ (hw _ (List.mem_of_getElem? (i := 35) rfl))) (mvT hZ (hw _ (List.mem_of_getElem? (i := 32) rfl))) (mvT hZ (hw _ (List.mem_of_getElem? (i := 36) rfl))) (by decide) (backOf (W := 0) (rm7_FORMAT l Z a0 hw [] b50 d70 kd70 cs s_V kV s_VALIDATE l_VALIDATE d_VALIDATE k_VALIDATE s_FORMAT l_FORMAT d_FORMAT k_FORMAT s_GET l_GET d_GET k_GET T70.heap n0 (Nat.le_trans Z0 K70.1) Oh75 E70q C70q F70q V70q g_b50 S_CS h_cs S_V V_V E_V S_VALIDATE E_VALIDATE L_VALIDATE G_VALIDATE C_VALIDATE W_VALIDATE V_VALIDATE S_FORMAT E_FORMAT L_FORMAT G_FORMAT C_FORMAT W_FORMAT V_FORMAT S_GET E_GET L_GET G_GET C_GET W_GET V_GET) hZ (hw _ (List.mem_of_getElem? (i := 36) rfl)) (hw _ (List.mem_of_getElem? (i := 32) rfl)) (by decide) (by decide)) (g := (mkF m 157 #[vI p1, vI 1, vR b50, vR s_FORMAT, .unset] [iR b50])) rfl (by rw [hml]; rfl) (argsL := [(.ref b50)]) (rest := []) (lenOf pd_8 rfl) rfl (by show 2 * 0 + _ ≤ _; exact Nat.le_of_eq rfl) (hb hby at_157) (fun _ _ => ⟨rfl, e77, (by decide : 3 + 1 ≤ _), (by decide : 16 + 3 ≤ _)⟩)
    dsimp only [Pt.U, Pt.locs, Pt.cells, Pt.slots] at X78 l78 y78 z78 st78 hQ78
    subst l78 y78 z78
    obtain ⟨rfl, N78q, K78q⟩ := hQ78
    have N78 := Fr.app N70 N78q
    have K78 : Keep h0 T78.heap [] := Keep.trans K70 K78q all0
    have Oh79 := O0.keep K78 all0
    have fo80 := L_FORMAT.ext Oh79.2
    obtain ⟨T81, X81, e81, st81⟩ := getF X78 hx hZ hown (host := "") (Or.inl (hw _ (List.mem_of_getElem? (i := 66) rfl))) Via.refl rfl fo80 (g := (mkF m 170 #[vI p1, vI 1, vR b50, vR s_FORMAT, vR s_FORMAT] [iR s_FORMAT])) rfl rfl (hb hby at_170)
    have fo83 := G_FORMAT.ext Oh79.2
    have fo84 := C_FORMAT.ext Oh79.2
    have fo85 := W_FORMAT.ext Oh79.2
    have fo86 := V_FORMAT.ext Oh79.2
    have fk87 := (E70q.keep K78q)
    have fk88 := (C70q.keep K78q nin0)
    have fk89 := (F70q.keep K78q nin0)
    have fk90 := (V70q.keep K78q nin0)
    obtain ⟨cq82, kq82, q82a, q82b, q82c⟩ := isOf hZ e81 fo83
    obtain ⟨_, _, ⟨T82, L82, k82, n82⟩, -, X82, ⟨Lc82, hQ82, l82, y82, z82⟩, st82⟩ := X81.virtualBack hx (y := (⟨"java/lang/String", "equals", "(Ljava/lang/Object;)Z"⟩ : MethodName)) (z := (⟨"java/lang/String", "equals", "(Ljava/lang/Object;)Z"⟩ : MethodName)) hown (mvT hZ (hw _ (List.mem_of_getElem? (i := 67) rfl))) (mvT hZ (hw _ (List.mem_of_getElem? (i := 57) rfl))) (notFace_of_selects (args := #[]) (mvT hZ (hw _ (List.mem_of_getElem? (i := 59) rfl)))) (mvT hZ (hw _ (List.mem_of_getElem? (i := 59) rfl))) (mvT hZ (hw _ (List.mem_of_getElem? (i := 58) rfl))) (by decide) (backOf (W := 0) (rm9_FORMAT_FORMAT l Z a0 hw [] l_FORMAT b50 d_FORMAT d70 k_FORMAT kd70 cs T78.heap n0 Oh79 fo83 fo84 fo85 fo86 fk87 fk88 fk89 fk90 (O0.ne G_FORMAT.lt g_b50) S_CS h_cs) hZ (hw _ (List.mem_of_getElem? (i := 60) rfl)) (hw _ (List.mem_of_getElem? (i := 3) rfl)) (by decide) (by decide)) q82a q82c (g := (mkF m 174 #[vI p1, vI 1, vR b50, vR s_FORMAT, vR s_FORMAT] [iR b50, iR l_FORMAT])) rfl (by rw [hml]; rfl) (Steps.refl _) (argsL := [(.ref b50)]) (rest := []) (lenOf pd_6 rfl) rfl (by show 2 * 0 + _ ≤ _; exact Nat.le_of_eq rfl) (hb hby at_174) (fun _ _ => ⟨rfl, e81, (by decide : 4 + 0 ≤ _), (by decide : 19 + 0 ≤ _)⟩)
    dsimp only [Pt.U, Pt.locs, Pt.cells, Pt.slots] at X82 l82 y82 z82 st82 hQ82
    subst l82 y82 z82
    obtain ⟨rfl, rfl, e82⟩ := hQ82
    try rw [List.append_nil] at X82
    obtain ⟨fs, hr, hrun, hended, hW, hsame⟩ := X82.leave (v := some (.int (1 : Int32))) (fun h => by rw [Bd.returns] at h; cases h)
    refine ⟨_, _, pre2 _ ?_, hrun, hended, _, _, rfl, ?_, ⟨_, rfl⟩, hW, hsame.mono (by decide) (by decide)⟩
    · show Steps _ _ _ (s₁.setTop (mkF m 7 #[vI p1, vI 1, .unset, .unset, .unset] [])) _
      refine XS.iloadN X0.here hx rfl (hb hby at_7) rfl ?_
      show Steps _ _ _ (s₁.setTop (mkF m 8 #[vI p1, vI 1, .unset, .unset, .unset] [iI 1])) _
      refine XS.ifYes X0.here hx rfl (pc0 := 8) (pc' := 72) rfl (hb hby at_8) rfl ((if0 _ _).trans (feq (by decide : ¬ ((1 : Int32) = (0 : Int32)))).2) (by decide) (by decide) ?_
      show Steps _ _ _ (s₁.setTop (mkF m 72 #[vI p1, vI 1, .unset, .unset, .unset] [])) _
      refine XS.iloadN X0.here hx rfl (hb hby at_72) rfl ?_
      show Steps _ _ _ (s₁.setTop (mkF m 73 #[vI p1, vI 1, .unset, .unset, .unset] [iI 1])) _
      refine XS.iconst X0.here hx rfl (hb hby at_73) ?_
      show Steps _ _ _ (s₁.setTop (mkF m 74 #[vI p1, vI 1, .unset, .unset, .unset] [iI 1, iI 1])) _
      refine XS.icmpNo X0.here hx rfl (hb hby at_74) rfl (teq (by decide : (1 : Int32) = (1 : Int32))).2 ?_
      show Steps _ _ _ (s₁.setTop (mkF m 77 #[vI p1, vI 1, .unset, .unset, .unset] [])) _
      refine st50 _ ?_
      show Steps _ _ _ (T50.setTop (mkF m 80 #[vI p1, vI 1, .unset, .unset, .unset] [iR b50])) _
      refine XS.dup X50.here hx rfl (hb hby at_80) rfl rfl ?_
      show Steps _ _ _ (T50.setTop (mkF m 81 #[vI p1, vI 1, .unset, .unset, .unset] [iR b50, iR b50])) _
      refine XS.bipush X50.here hx rfl (hb hby at_81) ?_
      show Steps _ _ _ (T50.setTop (mkF m 83 #[vI p1, vI 1, .unset, .unset, .unset] [iI 6, iR b50, iR b50])) _
      refine st51 _ ?_
      show Steps _ _ _ (T51.setTop (mkF m 85 #[vI p1, vI 1, .unset, .unset, .unset] [iR b51, iR b50, iR b50])) _
      refine XS.dup X51.here hx rfl (hb hby at_85) rfl rfl ?_
      show Steps _ _ _ (T51.setTop (mkF m 86 #[vI p1, vI 1, .unset, .unset, .unset] [iR b51, iR b51, iR b50, iR b50])) _
      refine XS.iconst X51.here hx rfl (hb hby at_86) ?_
      show Steps _ _ _ (T51.setTop (mkF m 87 #[vI p1, vI 1, .unset, .unset, .unset] [iI 0, iR b51, iR b51, iR b50, iR b50])) _
      refine XS.bipush X51.here hx rfl (hb hby at_87) ?_
      show Steps _ _ _ (T51.setTop (mkF m 89 #[vI p1, vI 1, .unset, .unset, .unset] [iI 102, iI 0, iR b51, iR b51, iR b50, iR b50])) _
      refine st54 _ ?_
      show Steps _ _ _ (T54.setTop (mkF m 90 #[vI p1, vI 1, .unset, .unset, .unset] [iR b51, iR b50, iR b50])) _
      refine XS.dup X54.here hx rfl (hb hby at_90) rfl rfl ?_
      show Steps _ _ _ (T54.setTop (mkF m 91 #[vI p1, vI 1, .unset, .unset, .unset] [iR b51, iR b51, iR b50, iR b50])) _
      refine XS.iconst X54.here hx rfl (hb hby at_91) ?_
      show Steps _ _ _ (T54.setTop (mkF m 92 #[vI p1, vI 1, .unset, .unset, .unset] [iI 1, iR b51, iR b51, iR b50, iR b50])) _
      refine XS.bipush X54.here hx rfl (hb hby at_92) ?_
      show Steps _ _ _ (T54.setTop (mkF m 94 #[vI p1, vI 1, .unset, .unset, .unset] [iI 111, iI 1, iR b51, iR b51, iR b50, iR b50])) _
      refine st57 _ ?_
      show Steps _ _ _ (T57.setTop (mkF m 95 #[vI p1, vI 1, .unset, .unset, .unset] [iR b51, iR b50, iR b50])) _
      refine XS.dup X57.here hx rfl (hb hby at_95) rfl rfl ?_
      show Steps _ _ _ (T57.setTop (mkF m 96 #[vI p1, vI 1, .unset, .unset, .unset] [iR b51, iR b51, iR b50, iR b50])) _
      refine XS.iconst X57.here hx rfl (hb hby at_96) ?_
      show Steps _ _ _ (T57.setTop (mkF m 97 #[vI p1, vI 1, .unset, .unset, .unset] [iI 2, iR b51, iR b51, iR b50, iR b50])) _
      refine XS.bipush X57.here hx rfl (hb hby at_97) ?_
      show Steps _ _ _ (T57.setTop (mkF m 99 #[vI p1, vI 1, .unset, .unset, .unset] [iI 114, iI 2, iR b51, iR b51, iR b50, iR b50])) _
      refine st60 _ ?_
      show Steps _ _ _ (T60.setTop (mkF m 100 #[vI p1, vI 1, .unset, .unset, .unset] [iR b51, iR b50, iR b50])) _
      refine XS.dup X60.here hx rfl (hb hby at_100) rfl rfl ?_
      show Steps _ _ _ (T60.setTop (mkF m 101 #[vI p1, vI 1, .unset, .unset, .unset] [iR b51, iR b51, iR b50, iR b50])) _
      refine XS.iconst X60.here hx rfl (hb hby at_101) ?_
      show Steps _ _ _ (T60.setTop (mkF m 102 #[vI p1, vI 1, .unset, .unset, .unset] [iI 3, iR b51, iR b51, iR b50, iR b50])) _
      refine XS.bipush X60.here hx rfl (hb hby at_102) ?_
      show Steps _ _ _ (T60.setTop (mkF m 104 #[vI p1, vI 1, .unset, .unset, .unset] [iI 109, iI 3, iR b51, iR b51, iR b50, iR b50])) _
      refine st63 _ ?_
      show Steps _ _ _ (T63.setTop (mkF m 105 #[vI p1, vI 1, .unset, .unset, .unset] [iR b51, iR b50, iR b50])) _
      refine XS.dup X63.here hx rfl (hb hby at_105) rfl rfl ?_
      show Steps _ _ _ (T63.setTop (mkF m 106 #[vI p1, vI 1, .unset, .unset, .unset] [iR b51, iR b51, iR b50, iR b50])) _
      refine XS.iconst X63.here hx rfl (hb hby at_106) ?_
      show Steps _ _ _ (T63.setTop (mkF m 107 #[vI p1, vI 1, .unset, .unset, .unset] [iI 4, iR b51, iR b51, iR b50, iR b50])) _
      refine XS.bipush X63.here hx rfl (hb hby at_107) ?_
      show Steps _ _ _ (T63.setTop (mkF m 109 #[vI p1, vI 1, .unset, .unset, .unset] [iI 97, iI 4, iR b51, iR b51, iR b50, iR b50])) _
      refine st66 _ ?_
      show Steps _ _ _ (T66.setTop (mkF m 110 #[vI p1, vI 1, .unset, .unset, .unset] [iR b51, iR b50, iR b50])) _
      refine XS.dup X66.here hx rfl (hb hby at_110) rfl rfl ?_
      show Steps _ _ _ (T66.setTop (mkF m 111 #[vI p1, vI 1, .unset, .unset, .unset] [iR b51, iR b51, iR b50, iR b50])) _
      refine XS.iconst X66.here hx rfl (hb hby at_111) ?_
      show Steps _ _ _ (T66.setTop (mkF m 112 #[vI p1, vI 1, .unset, .unset, .unset] [iI 5, iR b51, iR b51, iR b50, iR b50])) _
      refine XS.bipush X66.here hx rfl (hb hby at_112) ?_
      show Steps _ _ _ (T66.setTop (mkF m 114 #[vI p1, vI 1, .unset, .unset, .unset] [iI 116, iI 5, iR b51, iR b51, iR b50, iR b50])) _
      refine st69 _ ?_
      show Steps _ _ _ (T69.setTop (mkF m 115 #[vI p1, vI 1, .unset, .unset, .unset] [iR b51, iR b50, iR b50])) _
      refine st70.trans ?_
      show Steps _ _ _ (T70.setTop (mkF m 118 #[vI p1, vI 1, .unset, .unset, .unset] [iR b50])) _
      refine XS.astoreN X70.here hx rfl (hb hby at_118) rfl rfl (l' := #[vI p1, vI 1, vR b50, .unset, .unset]) rfl ?_
      show Steps _ _ _ (T70.setTop (mkF m 119 #[vI p1, vI 1, vR b50, .unset, .unset] [])) _
      refine st77 _ ?_
      show Steps _ _ _ (T77.setTop (mkF m 122 #[vI p1, vI 1, vR b50, .unset, .unset] [iR s_FORMAT])) _
      refine XS.astoreN X77.here hx rfl (hb hby at_122) rfl rfl (l' := #[vI p1, vI 1, vR b50, vR s_FORMAT, .unset]) rfl ?_
      show Steps _ _ _ (T77.setTop (mkF m 123 #[vI p1, vI 1, vR b50, vR s_FORMAT, .unset] [])) _
      refine XS.goto X77.here hx rfl (pc0 := 123) (pc' := 156) rfl (hb hby at_123) (by decide) (by decide) ?_
      show Steps _ _ _ (T77.setTop (mkF m 156 #[vI p1, vI 1, vR b50, vR s_FORMAT, .unset] [])) _
      refine XS.aloadN X77.here hx rfl (hb hby at_156) rfl rfl ?_
      show Steps _ _ _ (T77.setTop (mkF m 157 #[vI p1, vI 1, vR b50, vR s_FORMAT, .unset] [iR b50])) _
      refine st78 _ ?_
      show Steps _ _ _ (T78.setTop (mkF m 160 #[vI p1, vI 1, vR b50, vR s_FORMAT, .unset] [iR s_FORMAT])) _
      refine XS.astore X78.here hx rfl (hb hby at_160) rfl rfl (l' := #[vI p1, vI 1, vR b50, vR s_FORMAT, vR s_FORMAT]) rfl ?_
      show Steps _ _ _ (T78.setTop (mkF m 162 #[vI p1, vI 1, vR b50, vR s_FORMAT, vR s_FORMAT] [])) _
      refine XS.aload X78.here hx rfl (hb hby at_162) rfl rfl ?_
      show Steps _ _ _ (T78.setTop (mkF m 164 #[vI p1, vI 1, vR b50, vR s_FORMAT, vR s_FORMAT] [iR s_FORMAT])) _
      refine XS.aloadN X78.here hx rfl (hb hby at_164) rfl rfl ?_
      show Steps _ _ _ (T78.setTop (mkF m 165 #[vI p1, vI 1, vR b50, vR s_FORMAT, vR s_FORMAT] [iR s_FORMAT, iR s_FORMAT])) _
      refine Jvm.RoadKit.acmp (g := (mkF m 165 #[vI p1, vI 1, vR b50, vR s_FORMAT, vR s_FORMAT] [iR s_FORMAT, iR s_FORMAT])) X78 hx rfl rfl rfl (pc0 := 165) (pc' := 168) (same := true) rfl (hb hby at_165) rfl (decide_eq_true rfl) (by decide) (by decide) ?_
      show Steps _ _ _ (T78.setTop (mkF m 168 #[vI p1, vI 1, vR b50, vR s_FORMAT, vR s_FORMAT] [])) _
      refine XS.aload X78.here hx rfl (hb hby at_168) rfl rfl ?_
      show Steps _ _ _ (T78.setTop (mkF m 170 #[vI p1, vI 1, vR b50, vR s_FORMAT, vR s_FORMAT] [iR s_FORMAT])) _
      refine st81 _ ?_
      show Steps _ _ _ (T81.setTop (mkF m 173 #[vI p1, vI 1, vR b50, vR s_FORMAT, vR s_FORMAT] [iR l_FORMAT])) _
      refine XS.aloadN X81.here hx rfl (hb hby at_173) rfl rfl ?_
      show Steps _ _ _ (T81.setTop (mkF m 174 #[vI p1, vI 1, vR b50, vR s_FORMAT, vR s_FORMAT] [iR b50, iR l_FORMAT])) _
      refine st82.trans ?_
      show Steps _ _ _ (T82.setTop (mkF m 177 #[vI p1, vI 1, vR b50, vR s_FORMAT, vR s_FORMAT] [iI 1])) _
      refine XS.ifNo X82.here hx rfl (hb hby at_177) rfl ((if0 _ _).trans (feq (by decide : ¬ ((1 : Int32) = (0 : Int32)))).1) ?_
      show Steps _ _ _ (T82.setTop (mkF m 180 #[vI p1, vI 1, vR b50, vR s_FORMAT, vR s_FORMAT] [])) _
      refine XS.iconst X82.here hx rfl (hb hby at_180) ?_
      show Steps _ _ _ (T82.setTop (mkF m 181 #[vI p1, vI 1, vR b50, vR s_FORMAT, vR s_FORMAT] [iI 1])) _
      refine XS.goto X82.here hx rfl (pc0 := 181) (pc' := 185) rfl (hb hby at_181) (by decide) (by decide) ?_
      show Steps _ _ _ (T82.setTop (mkF m 185 #[vI p1, vI 1, vR b50, vR s_FORMAT, vR s_FORMAT] [iI 1])) _
      exact retN X82 hx (t := .boolean) Bd.returns (by simp) (hb hby at_185) hr
    · show Q0 Z p1 cs s_V kV s_VALIDATE l_VALIDATE d_VALIDATE k_VALIDATE s_FORMAT l_FORMAT d_FORMAT k_FORMAT s_GET l_GET d_GET k_GET h0 n0 _ T82.heap _
      rw [e82]
      exact ⟨rfl, N78⟩
  · obtain ⟨T91, h91, X91, e91, E91, A91, D91, -, st91⟩ := newO X0 hx hZ hown (hw _ (List.mem_of_getElem? (i := 1) rfl)) (hw _ (List.mem_of_getElem? (i := 2) rfl)) (hw _ (List.mem_of_getElem? (i := 3) rfl)) e0 (g := (mkF m 126 #[vI p1, vI 2, .unset, .unset, .unset] [])) rfl (hb hby at_126) (by decide) (by decide)
    obtain ⟨b91, g91⟩ : ∃ z, z = h0.size := ⟨_, rfl⟩
    rw [← g91] at A91 D91 st91
    have sz_b91 : h0.size ≤ b91 := Nat.le_trans K0.1 (Nat.le_of_eq g91.symm)
    have g_b91 : n0 ≤ b91 := Nat.le_trans Z0 sz_b91
    have K91 : Keep h0 h91 [] := K0.ext E91
    have F_coder_b91 : Fld Z h91 b91 "java/lang/String" "coder" "B" (.int (0 : Int32)) := D91 (Or.inr (hw _ (List.mem_of_getElem? (i := 28) rfl))) (ty := .byte) (by decide)
    have F_value_b91 : Fld Z h91 b91 "java/lang/String" "value" "[B" .null := D91 (Or.inr (hw _ (List.mem_of_getElem? (i := 30) rfl))) (ty := (.array .byte)) (by decide)
    obtain ⟨T92, h92, k92, X92, e92, E92, A92, st92⟩ := newP X91 hx hZ (hw _ (List.mem_of_getElem? (i := 4) rfl)) e91 (g := (mkF m 131 #[vI p1, vI 2, .unset, .unset, .unset] [iI 3, iR b91, iR b91])) rfl (hb hby at_131) rfl (by decide) (cap := 3) (by decide) (by decide) (by decide) (by decide)
    obtain ⟨b92, g92⟩ : ∃ z, z = h91.size := ⟨_, rfl⟩
    rw [← g92] at A92 st92
    have ne_b91_b92 : b91 ≠ b92 := Nat.ne_of_lt (Nat.lt_of_lt_of_le A91.lt (Nat.le_of_eq g92.symm))
    have sz_b92 : h0.size ≤ b92 := Nat.le_trans K91.1 (Nat.le_of_eq g92.symm)
    have g_b92 : n0 ≤ b92 := Nat.le_trans Z0 sz_b92
    have K92 : Keep h0 h92 [] := K91.ext E92
    have V92 : Arv Z h92 b92 k92 .char (3 : Int32) [(.int (0 : Int32)), (.int (0 : Int32)), (.int (0 : Int32))] (.int (0 : Int32)) := (Arv.new A92 (by decide)).pad (pad_rep [] (.int (0 : Int32)) 3)
    obtain ⟨cl93, Ar93, q93, S93, M93, H93, G93⟩ := id V92
    have hin94 : ¬ ((0 : Int32) < 0 ∨ cl93.slots.size ≤ ((0 : Int32)).toNatClampNeg) := inb_of S93 ⟨by decide, by decide⟩
    obtain ⟨T95, h95, X95, e95, W95, st95⟩ := stC X92 hx hZ e92 Ar93 (j := (0 : Int32)) hin94 (g := (mkF m 137 #[vI p1, vI 2, .unset, .unset, .unset] [iI 103, iI 0, iR b92, iR b92, iR b91, iR b91])) rfl rfl (hb hby at_137)
    have V95 : Arv Z h95 b92 k92 .char (3 : Int32) [(.int (103 : Int32)), (.int (0 : Int32)), (.int (0 : Int32))] (.int (0 : Int32)) := Arv.set Ar93 q93 S93 M93 H93 G93 (by decide) W95 0 rfl (Nat.le_of_ble_eq_true rfl)
    have K95 : Keep h0 h95 [] := K92.wr W95 (Or.inr sz_b92)
    have N95 := Fr.snoc X95 N0 g_b92
    obtain ⟨cl96, Ar96, q96, S96, M96, H96, G96⟩ := id V95
    have hin97 : ¬ ((1 : Int32) < 0 ∨ cl96.slots.size ≤ ((1 : Int32)).toNatClampNeg) := inb_of S96 ⟨by decide, by decide⟩
    obtain ⟨T98, h98, X98, e98, W98, st98⟩ := stC X95 hx hZ e95 Ar96 (j := (1 : Int32)) hin97 (g := (mkF m 142 #[vI p1, vI 2, .unset, .unset, .unset] [iI 101, iI 1, iR b92, iR b92, iR b91, iR b91])) rfl rfl (hb hby at_142)
    have V98 : Arv Z h98 b92 k92 .char (3 : Int32) [(.int (103 : Int32)), (.int (101 : Int32)), (.int (0 : Int32))] (.int (0 : Int32)) := Arv.set Ar96 q96 S96 M96 H96 G96 (by decide) W98 1 rfl (Nat.le_of_ble_eq_true rfl)
    have K98 : Keep h0 h98 [] := K95.wr W98 (Or.inr sz_b92)
    have N98 := Fr.snoc X98 N95 g_b92
    obtain ⟨cl99, Ar99, q99, S99, M99, H99, G99⟩ := id V98
    have hin100 : ¬ ((2 : Int32) < 0 ∨ cl99.slots.size ≤ ((2 : Int32)).toNatClampNeg) := inb_of S99 ⟨by decide, by decide⟩
    obtain ⟨T101, h101, X101, e101, W101, st101⟩ := stC X98 hx hZ e98 Ar99 (j := (2 : Int32)) hin100 (g := (mkF m 147 #[vI p1, vI 2, .unset, .unset, .unset] [iI 116, iI 2, iR b92, iR b92, iR b91, iR b91])) rfl rfl (hb hby at_147)
    have V101 : Arv Z h101 b92 k92 .char (3 : Int32) [(.int (103 : Int32)), (.int (101 : Int32)), (.int (116 : Int32))] (.int (0 : Int32)) := Arv.set Ar99 q99 S99 M99 H99 G99 (by decide) W101 2 rfl (Nat.le_of_ble_eq_true rfl)
    have K101 : Keep h0 h101 [] := K98.wr W101 (Or.inr sz_b92)
    have N101 := Fr.snoc X101 N98 g_b92
    have fk103 := ((((A91.ext E92).wr W95).wr W98).wr W101)
    have fk104 := ((((F_value_b91.ext E92).other W95 (Or.inl ne_b91_b92)).other W98 (Or.inl ne_b91_b92)).other W101 (Or.inl ne_b91_b92))
    have fk105 := ((((F_coder_b91.ext E92).other W95 (Or.inl ne_b91_b92)).other W98 (Or.inl ne_b91_b92)).other W101 (Or.inl ne_b91_b92))
    have Oh106 := O0.keep K101 all0
    obtain ⟨_, _, ⟨T102, L102, k102, n102⟩, -, X102, ⟨Lc102, hQ102, l102, y102, z102⟩, st102⟩ := X101.specialBack hx (y := (⟨"java/lang/String", "<init>", "([C)V"⟩ : MethodName)) rfl hown (mvT hZ (hw _ (List.mem_of_getElem? (i := 5) rfl))) (mvT hZ (hw _ (List.mem_of_getElem? (i := 6) rfl))) (mvT hZ (hw _ (List.mem_of_getElem? (i := 7) rfl))) (by decide) (backOf (W := 1) (rm1_GET l Z a0 hw [] b91 b92 k92  cs h101 n0 (Nat.le_trans Z0 K101.1) Oh106 fk103 g_b91 fk104 fk105 V101 ne_b91_b92  S_CS h_cs) hZ (hw _ (List.mem_of_getElem? (i := 7) rfl)) (hw _ (List.mem_of_getElem? (i := 3) rfl)) (by decide) (by decide)) (g := (mkF m 148 #[vI p1, vI 2, .unset, .unset, .unset] [iR b92, iR b91, iR b91])) rfl (by rw [hml]; rfl) (Steps.refl _) (a := b91) (argsL := [(.ref b92)]) (rest := [(.ref b91)]) (lenOf pd_7 rfl) rfl (by show 2 * 0 + _ ≤ _; exact Nat.le_of_eq rfl) (hb hby at_148) (fun _ _ => ⟨rfl, e101, (by decide : 2 + 1 ≤ _), (by decide : 7 + 3 ≤ _)⟩)
    dsimp only [Pt.U, Pt.locs, Pt.cells, Pt.slots] at X102 l102 y102 z102 st102 hQ102
    subst l102 y102 z102
    obtain ⟨d102, kd102, rfl, N102q, K102q, E102q, C102q, F102q, V102q, z_d102⟩ := hQ102
    have ne_b91_d102 : b91 ≠ d102 := Nat.ne_of_lt (Nat.lt_of_lt_of_le fk103.lt z_d102)
    have ne_b92_d102 : b92 ≠ d102 := Nat.ne_of_lt (Nat.lt_of_lt_of_le V101.lt z_d102)
    have sz_d102 : h0.size ≤ d102 := Nat.le_trans K101.1 z_d102
    have g_d102 : n0 ≤ d102 := Nat.le_trans Z0 sz_d102
    have N102 := Fr.app N101 N102q
    have K102 : Keep h0 T102.heap [] := Keep.trans K101 K102q (allS (Or.inr sz_b91) all0)
    have Oh107 := O0.keep K102 all0
    have fo108 := S_GET.ext Oh107.2
    obtain ⟨T109, X109, e109, st109⟩ := getS2 X102 hx hZ hown (host := "") (Or.inl (hw _ (List.mem_of_getElem? (i := 68) rfl))) Via.refl rfl fo108 (g := (mkF m 152 #[vI p1, vI 2, vR b91, .unset, .unset] [])) rfl (hb hby at_152)
    obtain ⟨_, _, ⟨T110, L110, k110, n110⟩, -, X110, ⟨Lc110, hQ110, l110, y110, z110⟩, st110⟩ := Jvm.LawKit.callS X109 hx (y := (⟨"com/example/plainjson/cli/Command", "named", "(Ljava/lang/String;)Lcom/example/plainjson/cli/Command;"⟩ : MethodName)) hown (mvT hZ (hw _ (List.mem_of_getElem? (i := 34) rfl))) (mvT hZ (hw _ (List.mem_of_getElem? (i := 35) rfl))) (mvT hZ (hw _ (List.mem_of_getElem? (i := 32) rfl))) (mvT hZ (hw _ (List.mem_of_getElem? (i := 36) rfl))) (by decide) (backOf (W := 0) (rm7_GET l Z a0 hw [] b91 d102 kd102 cs s_V kV s_VALIDATE l_VALIDATE d_VALIDATE k_VALIDATE s_FORMAT l_FORMAT d_FORMAT k_FORMAT s_GET l_GET d_GET k_GET T102.heap n0 (Nat.le_trans Z0 K102.1) Oh107 E102q C102q F102q V102q g_b91 S_CS h_cs S_V V_V E_V S_VALIDATE E_VALIDATE L_VALIDATE G_VALIDATE C_VALIDATE W_VALIDATE V_VALIDATE S_FORMAT E_FORMAT L_FORMAT G_FORMAT C_FORMAT W_FORMAT V_FORMAT S_GET E_GET L_GET G_GET C_GET W_GET V_GET) hZ (hw _ (List.mem_of_getElem? (i := 36) rfl)) (hw _ (List.mem_of_getElem? (i := 32) rfl)) (by decide) (by decide)) (g := (mkF m 157 #[vI p1, vI 2, vR b91, vR s_GET, .unset] [iR b91])) rfl (by rw [hml]; rfl) (argsL := [(.ref b91)]) (rest := []) (lenOf pd_8 rfl) rfl (by show 2 * 0 + _ ≤ _; exact Nat.le_of_eq rfl) (hb hby at_157) (fun _ _ => ⟨rfl, e109, (by decide : 3 + 1 ≤ _), (by decide : 10 + 3 ≤ _)⟩)
    dsimp only [Pt.U, Pt.locs, Pt.cells, Pt.slots] at X110 l110 y110 z110 st110 hQ110
    subst l110 y110 z110
    obtain ⟨rfl, N110q, K110q⟩ := hQ110
    have N110 := Fr.app N102 N110q
    have K110 : Keep h0 T110.heap [] := Keep.trans K102 K110q all0
    have Oh111 := O0.keep K110 all0
    have fo112 := L_GET.ext Oh111.2
    obtain ⟨T113, X113, e113, st113⟩ := getF X110 hx hZ hown (host := "") (Or.inl (hw _ (List.mem_of_getElem? (i := 66) rfl))) Via.refl rfl fo112 (g := (mkF m 170 #[vI p1, vI 2, vR b91, vR s_GET, vR s_GET] [iR s_GET])) rfl rfl (hb hby at_170)
    have fo115 := G_GET.ext Oh111.2
    have fo116 := C_GET.ext Oh111.2
    have fo117 := W_GET.ext Oh111.2
    have fo118 := V_GET.ext Oh111.2
    have fk119 := (E102q.keep K110q)
    have fk120 := (C102q.keep K110q nin0)
    have fk121 := (F102q.keep K110q nin0)
    have fk122 := (V102q.keep K110q nin0)
    obtain ⟨cq114, kq114, q114a, q114b, q114c⟩ := isOf hZ e113 fo115
    obtain ⟨_, _, ⟨T114, L114, k114, n114⟩, -, X114, ⟨Lc114, hQ114, l114, y114, z114⟩, st114⟩ := X113.virtualBack hx (y := (⟨"java/lang/String", "equals", "(Ljava/lang/Object;)Z"⟩ : MethodName)) (z := (⟨"java/lang/String", "equals", "(Ljava/lang/Object;)Z"⟩ : MethodName)) hown (mvT hZ (hw _ (List.mem_of_getElem? (i := 67) rfl))) (mvT hZ (hw _ (List.mem_of_getElem? (i := 57) rfl))) (notFace_of_selects (args := #[]) (mvT hZ (hw _ (List.mem_of_getElem? (i := 59) rfl)))) (mvT hZ (hw _ (List.mem_of_getElem? (i := 59) rfl))) (mvT hZ (hw _ (List.mem_of_getElem? (i := 58) rfl))) (by decide) (backOf (W := 0) (rm9_GET_GET l Z a0 hw [] l_GET b91 d_GET d102 k_GET kd102 cs T110.heap n0 Oh111 fo115 fo116 fo117 fo118 fk119 fk120 fk121 fk122 (O0.ne G_GET.lt g_b91) S_CS h_cs) hZ (hw _ (List.mem_of_getElem? (i := 60) rfl)) (hw _ (List.mem_of_getElem? (i := 3) rfl)) (by decide) (by decide)) q114a q114c (g := (mkF m 174 #[vI p1, vI 2, vR b91, vR s_GET, vR s_GET] [iR b91, iR l_GET])) rfl (by rw [hml]; rfl) (Steps.refl _) (argsL := [(.ref b91)]) (rest := []) (lenOf pd_6 rfl) rfl (by show 2 * 0 + _ ≤ _; exact Nat.le_of_eq rfl) (hb hby at_174) (fun _ _ => ⟨rfl, e113, (by decide : 4 + 0 ≤ _), (by decide : 13 + 0 ≤ _)⟩)
    dsimp only [Pt.U, Pt.locs, Pt.cells, Pt.slots] at X114 l114 y114 z114 st114 hQ114
    subst l114 y114 z114
    obtain ⟨rfl, rfl, e114⟩ := hQ114
    try rw [List.append_nil] at X114
    obtain ⟨fs, hr, hrun, hended, hW, hsame⟩ := X114.leave (v := some (.int (1 : Int32))) (fun h => by rw [Bd.returns] at h; cases h)
    refine ⟨_, _, pre2 _ ?_, hrun, hended, _, _, rfl, ?_, ⟨_, rfl⟩, hW, hsame.mono (by decide) (by decide)⟩
    · show Steps _ _ _ (s₁.setTop (mkF m 7 #[vI p1, vI 2, .unset, .unset, .unset] [])) _
      refine XS.iloadN X0.here hx rfl (hb hby at_7) rfl ?_
      show Steps _ _ _ (s₁.setTop (mkF m 8 #[vI p1, vI 2, .unset, .unset, .unset] [iI 2])) _
      refine XS.ifYes X0.here hx rfl (pc0 := 8) (pc' := 72) rfl (hb hby at_8) rfl ((if0 _ _).trans (feq (by decide : ¬ ((2 : Int32) = (0 : Int32)))).2) (by decide) (by decide) ?_
      show Steps _ _ _ (s₁.setTop (mkF m 72 #[vI p1, vI 2, .unset, .unset, .unset] [])) _
      refine XS.iloadN X0.here hx rfl (hb hby at_72) rfl ?_
      show Steps _ _ _ (s₁.setTop (mkF m 73 #[vI p1, vI 2, .unset, .unset, .unset] [iI 2])) _
      refine XS.iconst X0.here hx rfl (hb hby at_73) ?_
      show Steps _ _ _ (s₁.setTop (mkF m 74 #[vI p1, vI 2, .unset, .unset, .unset] [iI 1, iI 2])) _
      refine XS.icmpYes X0.here hx rfl (pc0 := 74) (pc' := 126) rfl (hb hby at_74) rfl (feq (by decide : ¬ ((2 : Int32) = (1 : Int32)))).2 (by decide) (by decide) ?_
      show Steps _ _ _ (s₁.setTop (mkF m 126 #[vI p1, vI 2, .unset, .unset, .unset] [])) _
      refine st91 _ ?_
      show Steps _ _ _ (T91.setTop (mkF m 129 #[vI p1, vI 2, .unset, .unset, .unset] [iR b91])) _
      refine XS.dup X91.here hx rfl (hb hby at_129) rfl rfl ?_
      show Steps _ _ _ (T91.setTop (mkF m 130 #[vI p1, vI 2, .unset, .unset, .unset] [iR b91, iR b91])) _
      refine XS.iconst X91.here hx rfl (hb hby at_130) ?_
      show Steps _ _ _ (T91.setTop (mkF m 131 #[vI p1, vI 2, .unset, .unset, .unset] [iI 3, iR b91, iR b91])) _
      refine st92 _ ?_
      show Steps _ _ _ (T92.setTop (mkF m 133 #[vI p1, vI 2, .unset, .unset, .unset] [iR b92, iR b91, iR b91])) _
      refine XS.dup X92.here hx rfl (hb hby at_133) rfl rfl ?_
      show Steps _ _ _ (T92.setTop (mkF m 134 #[vI p1, vI 2, .unset, .unset, .unset] [iR b92, iR b92, iR b91, iR b91])) _
      refine XS.iconst X92.here hx rfl (hb hby at_134) ?_
      show Steps _ _ _ (T92.setTop (mkF m 135 #[vI p1, vI 2, .unset, .unset, .unset] [iI 0, iR b92, iR b92, iR b91, iR b91])) _
      refine XS.bipush X92.here hx rfl (hb hby at_135) ?_
      show Steps _ _ _ (T92.setTop (mkF m 137 #[vI p1, vI 2, .unset, .unset, .unset] [iI 103, iI 0, iR b92, iR b92, iR b91, iR b91])) _
      refine st95 _ ?_
      show Steps _ _ _ (T95.setTop (mkF m 138 #[vI p1, vI 2, .unset, .unset, .unset] [iR b92, iR b91, iR b91])) _
      refine XS.dup X95.here hx rfl (hb hby at_138) rfl rfl ?_
      show Steps _ _ _ (T95.setTop (mkF m 139 #[vI p1, vI 2, .unset, .unset, .unset] [iR b92, iR b92, iR b91, iR b91])) _
      refine XS.iconst X95.here hx rfl (hb hby at_139) ?_
      show Steps _ _ _ (T95.setTop (mkF m 140 #[vI p1, vI 2, .unset, .unset, .unset] [iI 1, iR b92, iR b92, iR b91, iR b91])) _
      refine XS.bipush X95.here hx rfl (hb hby at_140) ?_
      show Steps _ _ _ (T95.setTop (mkF m 142 #[vI p1, vI 2, .unset, .unset, .unset] [iI 101, iI 1, iR b92, iR b92, iR b91, iR b91])) _
      refine st98 _ ?_
      show Steps _ _ _ (T98.setTop (mkF m 143 #[vI p1, vI 2, .unset, .unset, .unset] [iR b92, iR b91, iR b91])) _
      refine XS.dup X98.here hx rfl (hb hby at_143) rfl rfl ?_
      show Steps _ _ _ (T98.setTop (mkF m 144 #[vI p1, vI 2, .unset, .unset, .unset] [iR b92, iR b92, iR b91, iR b91])) _
      refine XS.iconst X98.here hx rfl (hb hby at_144) ?_
      show Steps _ _ _ (T98.setTop (mkF m 145 #[vI p1, vI 2, .unset, .unset, .unset] [iI 2, iR b92, iR b92, iR b91, iR b91])) _
      refine XS.bipush X98.here hx rfl (hb hby at_145) ?_
      show Steps _ _ _ (T98.setTop (mkF m 147 #[vI p1, vI 2, .unset, .unset, .unset] [iI 116, iI 2, iR b92, iR b92, iR b91, iR b91])) _
      refine st101 _ ?_
      show Steps _ _ _ (T101.setTop (mkF m 148 #[vI p1, vI 2, .unset, .unset, .unset] [iR b92, iR b91, iR b91])) _
      refine st102.trans ?_
      show Steps _ _ _ (T102.setTop (mkF m 151 #[vI p1, vI 2, .unset, .unset, .unset] [iR b91])) _
      refine XS.astoreN X102.here hx rfl (hb hby at_151) rfl rfl (l' := #[vI p1, vI 2, vR b91, .unset, .unset]) rfl ?_
      show Steps _ _ _ (T102.setTop (mkF m 152 #[vI p1, vI 2, vR b91, .unset, .unset] [])) _
      refine st109 _ ?_
      show Steps _ _ _ (T109.setTop (mkF m 155 #[vI p1, vI 2, vR b91, .unset, .unset] [iR s_GET])) _
      refine XS.astoreN X109.here hx rfl (hb hby at_155) rfl rfl (l' := #[vI p1, vI 2, vR b91, vR s_GET, .unset]) rfl ?_
      show Steps _ _ _ (T109.setTop (mkF m 156 #[vI p1, vI 2, vR b91, vR s_GET, .unset] [])) _
      refine XS.aloadN X109.here hx rfl (hb hby at_156) rfl rfl ?_
      show Steps _ _ _ (T109.setTop (mkF m 157 #[vI p1, vI 2, vR b91, vR s_GET, .unset] [iR b91])) _
      refine st110 _ ?_
      show Steps _ _ _ (T110.setTop (mkF m 160 #[vI p1, vI 2, vR b91, vR s_GET, .unset] [iR s_GET])) _
      refine XS.astore X110.here hx rfl (hb hby at_160) rfl rfl (l' := #[vI p1, vI 2, vR b91, vR s_GET, vR s_GET]) rfl ?_
      show Steps _ _ _ (T110.setTop (mkF m 162 #[vI p1, vI 2, vR b91, vR s_GET, vR s_GET] [])) _
      refine XS.aload X110.here hx rfl (hb hby at_162) rfl rfl ?_
      show Steps _ _ _ (T110.setTop (mkF m 164 #[vI p1, vI 2, vR b91, vR s_GET, vR s_GET] [iR s_GET])) _
      refine XS.aloadN X110.here hx rfl (hb hby at_164) rfl rfl ?_
      show Steps _ _ _ (T110.setTop (mkF m 165 #[vI p1, vI 2, vR b91, vR s_GET, vR s_GET] [iR s_GET, iR s_GET])) _
      refine Jvm.RoadKit.acmp (g := (mkF m 165 #[vI p1, vI 2, vR b91, vR s_GET, vR s_GET] [iR s_GET, iR s_GET])) X110 hx rfl rfl rfl (pc0 := 165) (pc' := 168) (same := true) rfl (hb hby at_165) rfl (decide_eq_true rfl) (by decide) (by decide) ?_
      show Steps _ _ _ (T110.setTop (mkF m 168 #[vI p1, vI 2, vR b91, vR s_GET, vR s_GET] [])) _
      refine XS.aload X110.here hx rfl (hb hby at_168) rfl rfl ?_
      show Steps _ _ _ (T110.setTop (mkF m 170 #[vI p1, vI 2, vR b91, vR s_GET, vR s_GET] [iR s_GET])) _
      refine st113 _ ?_
      show Steps _ _ _ (T113.setTop (mkF m 173 #[vI p1, vI 2, vR b91, vR s_GET, vR s_GET] [iR l_GET])) _
      refine XS.aloadN X113.here hx rfl (hb hby at_173) rfl rfl ?_
      show Steps _ _ _ (T113.setTop (mkF m 174 #[vI p1, vI 2, vR b91, vR s_GET, vR s_GET] [iR b91, iR l_GET])) _
      refine st114.trans ?_
      show Steps _ _ _ (T114.setTop (mkF m 177 #[vI p1, vI 2, vR b91, vR s_GET, vR s_GET] [iI 1])) _
      refine XS.ifNo X114.here hx rfl (hb hby at_177) rfl ((if0 _ _).trans (feq (by decide : ¬ ((1 : Int32) = (0 : Int32)))).1) ?_
      show Steps _ _ _ (T114.setTop (mkF m 180 #[vI p1, vI 2, vR b91, vR s_GET, vR s_GET] [])) _
      refine XS.iconst X114.here hx rfl (hb hby at_180) ?_
      show Steps _ _ _ (T114.setTop (mkF m 181 #[vI p1, vI 2, vR b91, vR s_GET, vR s_GET] [iI 1])) _
      refine XS.goto X114.here hx rfl (pc0 := 181) (pc' := 185) rfl (hb hby at_181) (by decide) (by decide) ?_
      show Steps _ _ _ (T114.setTop (mkF m 185 #[vI p1, vI 2, vR b91, vR s_GET, vR s_GET] [iI 1])) _
      exact retN X114 hx (t := .boolean) Bd.returns (by simp) (hb hby at_185) hr
    · show Q0 Z p1 cs s_V kV s_VALIDATE l_VALIDATE d_VALIDATE k_VALIDATE s_FORMAT l_FORMAT d_FORMAT k_FORMAT s_GET l_GET d_GET k_GET h0 n0 _ T114.heap _
      rw [e114]
      exact ⟨rfl, N110⟩
set_option maxRecDepth 65536 in
set_option maxHeartbeats 40000000 in
theorem comes_1 {Post : Tables → Env → Array Value → State → Outcome → State → Prop} (hpost : ∀ tb e args s v u, (limb_1_1.after args s (.returned v) u = true ∧ limb_1_2.after args s (.returned v) u = true ∧ True) → FrameEnd s (.returned v) u (Jvm.fieldLocs frame_1_writes args s ++ Jvm.arrayLocs frame_1_arrays args s ++ Jvm.staticLocs frame_1_statics s) 16 128 → Post tb e args s (.returned v) u) :
    ArmFor flags0 classFile x code maxLocals ret World_1 tables_1 room_1 Calls_1 rest_1 Pre_1 Post := by
  intro l hfl _ _ p e ha hc hk s m args below hf hA hF happ hP
  obtain ⟨hcalls, hrest, hpre⟩ := hP
  obtain ⟨-, -, -, hnamed, -, -, -, hat⟩ := (Spec.applies_iff hf).mp happ
  obtain ⟨hg, hn⟩ := and_e (Cond.before_iff.mp (show (Jvm.Cond.and given_1 narrow_1).before args s = true from hpre))
  obtain ⟨gc, gr0⟩ := and_e hg
  obtain ⟨w0, rfl⟩ : ∃ w0 : Value, args = #[w0] := by
    have hs : args.size = 1 := by simpa [Cond.value, given_1] using gc
    obtain ⟨L⟩ := args
    match L, hs with
    | [w0], _ => exact ⟨w0, rfl⟩
  have hw := fun d (hd : d ∈ tables_1) => atoms_spec (ws := Jvm.Cond.code x code maxLocals ret :: tables_1) hat d (List.mem_cons_of_mem _ hd)
  have hfit : Fit s := fun {y c} hc i hi => by
    obtain ⟨ha, rfl⟩ := Array.getElem?_eq_some_iff.mp hc
    have q := List.all_eq_true.mp ((Array.all_eq_true_iff_forall_mem.mp hF) _ (Array.getElem_mem ha)) i (List.mem_range.mpr hi)
    simpa [Array.getElem?_eq_getElem hi] using q
  obtain ⟨hsets, hown0⟩ := atoms_of _ (rest_1_c_eq ▸ (show rest_1_c.before _ s = true from hrest))
  have hr0 := Cond.before_iff.mp hown0
  obtain ⟨i0, ei0⟩ := is_v gr0
  obtain rfl : w0 = (.int i0) := Option.some.inj ei0
  obtain ⟨u0, t0⟩ := and_e hn
  obtain ⟨u1, t1⟩ := and_e t0
  obtain ⟨u2, t2⟩ := and_e t1
  obtain ⟨u3, t3⟩ := and_e t2
  obtain ⟨u4, t4⟩ := and_e t3
  obtain ⟨u5, t5⟩ := and_e t4
  obtain ⟨u6, t6⟩ := and_e t5
  obtain ⟨u7, t7⟩ := and_e t6
  obtain ⟨u8, t8⟩ := and_e t7
  obtain ⟨u9, t9⟩ := and_e t8
  obtain ⟨u10, t10⟩ := and_e t9
  obtain ⟨u11, t11⟩ := and_e t10
  obtain ⟨u12, t12⟩ := and_e t11
  obtain ⟨u13, t13⟩ := and_e t12
  obtain ⟨u14, t14⟩ := and_e t13
  obtain ⟨u15, t15⟩ := and_e t14
  obtain ⟨u16, t16⟩ := and_e t15
  obtain ⟨u17, t17⟩ := and_e t16
  obtain ⟨u18, t18⟩ := and_e t17
  obtain ⟨u19, t19⟩ := and_e t18
  obtain ⟨u20, t20⟩ := and_e t19
  obtain ⟨u21, t21⟩ := and_e t20
  obtain ⟨u22, t22⟩ := and_e t21
  obtain ⟨u23, t23⟩ := and_e t22
  obtain ⟨u24, t24⟩ := and_e t23
  obtain ⟨u25, t25⟩ := and_e t24
  obtain ⟨u26, t26⟩ := and_e t25
  obtain ⟨u27, t27⟩ := and_e t26
  obtain ⟨u28, t28⟩ := and_e t27
  obtain ⟨u29, t29⟩ := and_e t28
  obtain ⟨u30, t30⟩ := and_e t29
  obtain ⟨u31, t31⟩ := and_e t30
  obtain ⟨u32, t32⟩ := and_e t31
  obtain ⟨u33, t33⟩ := and_e t32
  obtain ⟨u34, t34⟩ := and_e t33
  obtain ⟨u35, t35⟩ := and_e t34
  obtain ⟨u36, t36⟩ := and_e t35
  have u37 := t36
  obtain ⟨cs, evCS⟩ := is_v (Cond.before_iff.mp (hsets _ (List.mem_of_getElem? (i := 1) rfl)))
  have S_CS : Sta s s.heap "java/lang/String" "COMPACT_STRINGS" "Z" (.int cs) := Sta.start evCS (Or.inl (hsets _ (List.mem_of_getElem? (i := 0) rfl)))
  have h_cs : ¬ cs = (0 : Int32) := fun q => by
    have q1 := not_v (Cond.before_iff.mp (hsets _ (List.mem_of_getElem? (i := 2) rfl)))
    rw [Cond.eq_ints evCS (Term.int_eval 0), q] at q1; exact absurd q1 (by simp)
  obtain ⟨s_VALIDATE, ev_VALIDATE⟩ := exa_v u0
  have S_VALIDATE : Sta s s.heap "com/example/plainjson/cli/Command" "VALIDATE" "Lcom/example/plainjson/cli/Command;" (.ref s_VALIDATE) := Sta.start ev_VALIDATE (Or.inr ⟨(hw _ (List.mem_of_getElem? (i := 32) rfl)), (hw _ (List.mem_of_getElem? (i := 33) rfl))⟩)
  have E_VALIDATE : Exa s s.heap s_VALIDATE "com/example/plainjson/cli/Command" := Exa.start ev_VALIDATE u0
  obtain ⟨l_VALIDATE, el_VALIDATE⟩ := exa_v u9
  have G_VALIDATE : Exa s s.heap l_VALIDATE "java/lang/String" := Exa.start el_VALIDATE u9
  have L_VALIDATE : Fld s s.heap s_VALIDATE "com/example/plainjson/cli/Command" "label" "Ljava/lang/String;" (.ref l_VALIDATE) := Fld.start ((fld_at ev_VALIDATE).symm.trans el_VALIDATE)
  have C_VALIDATE : Fld s s.heap l_VALIDATE "java/lang/String" "coder" "B" (.int (0 : Int32)) := own_fldEq el_VALIDATE u10
  obtain ⟨d_VALIDATE, ed_VALIDATE⟩ := arr_v u11
  obtain ⟨c_VALIDATE, A_VALIDATE⟩ := Arr.start ed_VALIDATE u11
  have W_VALIDATE : Fld s s.heap l_VALIDATE "java/lang/String" "value" "[B" (.ref d_VALIDATE) := Fld.start ((fld_at el_VALIDATE).symm.trans ed_VALIDATE)
  obtain ⟨m_VALIDATE, r_VALIDATE⟩ := own_len ed_VALIDATE A_VALIDATE u12
  have V_VALIDATE : Arv s s.heap d_VALIDATE c_VALIDATE.cls .byte (8 : Int32) [(.int (118 : Int32)), (.int (97 : Int32)), (.int (108 : Int32)), (.int (105 : Int32)), (.int (100 : Int32)), (.int (97 : Int32)), (.int (116 : Int32)), (.int (101 : Int32))] (.int (0 : Int32)) := Arv.start hfit A_VALIDATE m_VALIDATE r_VALIDATE (by decide) (by decide) ⟨own_elem ed_VALIDATE (Term.int_eval 0) A_VALIDATE.1 u24, own_elem ed_VALIDATE (Term.int_eval 1) A_VALIDATE.1 u25, own_elem ed_VALIDATE (Term.int_eval 2) A_VALIDATE.1 u26, own_elem ed_VALIDATE (Term.int_eval 3) A_VALIDATE.1 u27, own_elem ed_VALIDATE (Term.int_eval 4) A_VALIDATE.1 u28, own_elem ed_VALIDATE (Term.int_eval 5) A_VALIDATE.1 u29, own_elem ed_VALIDATE (Term.int_eval 6) A_VALIDATE.1 u30, own_elem ed_VALIDATE (Term.int_eval 7) A_VALIDATE.1 u31, trivial⟩
  obtain ⟨s_FORMAT, ev_FORMAT⟩ := exa_v u5
  have S_FORMAT : Sta s s.heap "com/example/plainjson/cli/Command" "FORMAT" "Lcom/example/plainjson/cli/Command;" (.ref s_FORMAT) := Sta.start ev_FORMAT (Or.inr ⟨(hw _ (List.mem_of_getElem? (i := 32) rfl)), (hw _ (List.mem_of_getElem? (i := 49) rfl))⟩)
  have E_FORMAT : Exa s s.heap s_FORMAT "com/example/plainjson/cli/Command" := Exa.start ev_FORMAT u5
  obtain ⟨l_FORMAT, el_FORMAT⟩ := exa_v u13
  have G_FORMAT : Exa s s.heap l_FORMAT "java/lang/String" := Exa.start el_FORMAT u13
  have L_FORMAT : Fld s s.heap s_FORMAT "com/example/plainjson/cli/Command" "label" "Ljava/lang/String;" (.ref l_FORMAT) := Fld.start ((fld_at ev_FORMAT).symm.trans el_FORMAT)
  have C_FORMAT : Fld s s.heap l_FORMAT "java/lang/String" "coder" "B" (.int (0 : Int32)) := own_fldEq el_FORMAT u14
  obtain ⟨d_FORMAT, ed_FORMAT⟩ := arr_v u15
  obtain ⟨c_FORMAT, A_FORMAT⟩ := Arr.start ed_FORMAT u15
  have W_FORMAT : Fld s s.heap l_FORMAT "java/lang/String" "value" "[B" (.ref d_FORMAT) := Fld.start ((fld_at el_FORMAT).symm.trans ed_FORMAT)
  obtain ⟨m_FORMAT, r_FORMAT⟩ := own_len ed_FORMAT A_FORMAT u16
  have V_FORMAT : Arv s s.heap d_FORMAT c_FORMAT.cls .byte (6 : Int32) [(.int (102 : Int32)), (.int (111 : Int32)), (.int (114 : Int32)), (.int (109 : Int32)), (.int (97 : Int32)), (.int (116 : Int32))] (.int (0 : Int32)) := Arv.start hfit A_FORMAT m_FORMAT r_FORMAT (by decide) (by decide) ⟨own_elem ed_FORMAT (Term.int_eval 0) A_FORMAT.1 u32, own_elem ed_FORMAT (Term.int_eval 1) A_FORMAT.1 u33, own_elem ed_FORMAT (Term.int_eval 2) A_FORMAT.1 u34, own_elem ed_FORMAT (Term.int_eval 3) A_FORMAT.1 u35, own_elem ed_FORMAT (Term.int_eval 4) A_FORMAT.1 u36, own_elem ed_FORMAT (Term.int_eval 5) A_FORMAT.1 u37, trivial⟩
  obtain ⟨s_GET, ev_GET⟩ := exa_v u7
  have S_GET : Sta s s.heap "com/example/plainjson/cli/Command" "GET" "Lcom/example/plainjson/cli/Command;" (.ref s_GET) := Sta.start ev_GET (Or.inr ⟨(hw _ (List.mem_of_getElem? (i := 32) rfl)), (hw _ (List.mem_of_getElem? (i := 50) rfl))⟩)
  have E_GET : Exa s s.heap s_GET "com/example/plainjson/cli/Command" := Exa.start ev_GET u7
  obtain ⟨l_GET, el_GET⟩ := exa_v u17
  have G_GET : Exa s s.heap l_GET "java/lang/String" := Exa.start el_GET u17
  have L_GET : Fld s s.heap s_GET "com/example/plainjson/cli/Command" "label" "Ljava/lang/String;" (.ref l_GET) := Fld.start ((fld_at ev_GET).symm.trans el_GET)
  have C_GET : Fld s s.heap l_GET "java/lang/String" "coder" "B" (.int (0 : Int32)) := own_fldEq el_GET u18
  obtain ⟨d_GET, ed_GET⟩ := arr_v u19
  obtain ⟨c_GET, A_GET⟩ := Arr.start ed_GET u19
  have W_GET : Fld s s.heap l_GET "java/lang/String" "value" "[B" (.ref d_GET) := Fld.start ((fld_at el_GET).symm.trans ed_GET)
  obtain ⟨m_GET, r_GET⟩ := own_len ed_GET A_GET u20
  have V_GET : Arv s s.heap d_GET c_GET.cls .byte (3 : Int32) [(.int (103 : Int32)), (.int (101 : Int32)), (.int (116 : Int32))] (.int (0 : Int32)) := Arv.start hfit A_GET m_GET r_GET (by decide) (by decide) ⟨own_elem ed_GET (Term.int_eval 0) A_GET.1 u21, own_elem ed_GET (Term.int_eval 1) A_GET.1 u22, own_elem ed_GET (Term.int_eval 2) A_GET.1 u23, trivial⟩
  obtain ⟨s_V, ev_V⟩ := arr_v u1
  obtain ⟨c_V, A_V⟩ := Arr.start ev_V u1
  have E_V : Exa s s.heap s_V "[Lcom/example/plainjson/cli/Command;" := Exa.start ev_V u2
  obtain ⟨m_V, r_V⟩ := own_len ev_V A_V u3
  have S_V : Sta s s.heap "com/example/plainjson/cli/Command" "$VALUES" "[Lcom/example/plainjson/cli/Command;" (.ref s_V) := Sta.start ev_V (Or.inr ⟨(hw _ (List.mem_of_getElem? (i := 32) rfl)), (hw _ (List.mem_of_getElem? (i := 41) rfl))⟩)
  have V_V : Arv s s.heap s_V c_V.cls (.object "com/example/plainjson/cli/Command") (3 : Int32) [(.ref s_VALIDATE), (.ref s_FORMAT), (.ref s_GET)] .null := Arv.start hfit A_V m_V r_V (by decide) rfl ⟨own_elemR ev_V (Term.int_eval 0) A_V.1 ev_VALIDATE u4, own_elemR ev_V (Term.int_eval 1) A_V.1 ev_FORMAT u6, own_elemR ev_V (Term.int_eval 2) A_V.1 ev_GET u8, trivial⟩
  obtain ⟨n, o, h1, h2, h3, _, L, rfl, Qv, hq⟩ := rm0 l s _ hw tables_1 i0 cs s_V c_V.cls s_VALIDATE l_VALIDATE d_VALIDATE c_VALIDATE.cls s_FORMAT l_FORMAT d_FORMAT c_FORMAT.cls s_GET l_GET d_GET c_GET.cls s.heap s.heap.size (Nat.le_refl _) (Old.start s) S_CS h_cs S_V V_V E_V S_VALIDATE E_VALIDATE L_VALIDATE G_VALIDATE C_VALIDATE W_VALIDATE V_VALIDATE S_FORMAT E_FORMAT L_FORMAT G_FORMAT C_FORMAT W_FORMAT V_FORMAT S_GET E_GET L_GET G_GET C_GET W_GET V_GET p e ha hc hk s m _ below hf ((Spec.applies_iff_loose hf).mp happ).1 ⟨rfl, State.Warmed39.refl s, rfl⟩ trivial
  obtain ⟨rfl, N⟩ := Qv
  refine ⟨n, _, h1, h2, h3, hpost _ _ _ _ _ _ ⟨Cond.after_iff.mpr rfl, Cond.after_iff.mpr (eq_i res_at (Term.int_eval (1)) rfl), trivial⟩ ⟨hq.1, hq.2.1, (hq.2.2.sift fun y hy => Or.inr (N y hy)).mono (by decide) (by decide)⟩⟩
theorem main_1_1 : Claimed_1_1 := comes_1 fun _ _ _ _ _ _ h hF => ⟨h.1, hF⟩
theorem main_1_2 : Claimed_1_2 := comes_1 fun _ _ _ _ _ _ h hF => ⟨h.2.1, hF⟩
end Jvm.Pilot.@@N@@
namespace Jvm.Pilot.@@N@@
open Jvm Jvm.ClassFile Sem Op Lib Jvm.Free Jvm.Stand Jvm.Pilot.@@N@@.Jvm.D
/-! MADE BY PROGRAM (witnessworld.py) out of the Statement's table words and the real class files: 22 classes; the members and pool entries that the words name. The judged class is class 1, her method 1. -/
namespace start1
open Jvm.ClassFile
def u (s : String) : CpInfo := .utf8 (stringToUtf16 s)
/-- a pool by its gaps: so many unusable entries, then the entry; so many at the end -/
def gap : Nat → List CpInfo → List CpInfo
  | 0, r => r
  | n + 1, r => .unusable :: gap n r
def poolList (es : List (Nat × CpInfo)) (last : Nat) : List CpInfo := es.foldr (fun e r => gap e.1 (e.2 :: r)) (gap last [])
def pool (es : List (Nat × CpInfo)) (last : Nat) : Array CpInfo := ⟨poolList es last⟩
def fileOf (pool : Array CpInfo) (this : Nat) (attrs : Array Attribute := #[]) (ms : Array MethodInfo := #[]) (fl : Nat := 33) (sup : Nat := 0) (ifs : Array Nat := #[]) (fds : Array FieldInfo := #[]) : ClassFile where
  minorVersion := 0
  majorVersion := 65
  constantPool := pool
  accessFlags := fl
  thisClass := this
  superClass := sup
  interfaces := ifs
  fields := fds
  methods := ms
  attributes := attrs
def plain (name : String) (sup : Option ClassId) : Class where
  name := name
  kind := .ordinary
  loader := none
  accessFlags := 33
  super := sup
  interfaces := #[]
  cf := none
  fields := #[]
  methods := #[]
  instanceTypes := #[]
  staticTypes := #[]
  resolved := #[]
  callSites := []
  init := .initialized
  statics := none
  mirror := none

def pool0 : Array CpInfo := pool [(5, u "<init>"), (0, u "()V"), (1, .class_ 10), (1, u "java/lang/Object"), (85, u "clone"), (0, u "()Ljava/lang/Object;")] 26

def k0c0 : Code := { maxStack := 0, maxLocals := 1, code := object_method_1_code, exceptionTable := #[], attributes := #[] }
def k0m0 : Method := { name := "<init>", desc := "()V", sig := { parameters := [], returnType := none }, accessFlags := 1, code := some k0c0 }
def k0m1 : Method := { name := "clone", desc := "()Ljava/lang/Object;", sig := { parameters := [], returnType := some (.object "java/lang/Object") }, accessFlags := 260, code := none }
/-- java/lang/Object -/
def k0 : Class := { plain "java/lang/Object" none with
  accessFlags := 33
  interfaces := #[]
  cf := some (fileOf pool0 8 #[] #[{ accessFlags := 1, nameIndex := 5, descriptorIndex := 6, attributes := #[] }, { accessFlags := 260, nameIndex := 96, descriptorIndex := 97, attributes := #[] }] 33 0 #[] #[])
  fields := #[]
  methods := #[k0m0, k0m1]
  instanceTypes := #[]
  staticTypes := #[]
  resolved := Array.replicate 124 none
  statics := none }

def pool1 : Array CpInfo := pool [(2, .class_ 4), (1, u "java/lang/Object"), (0, u "<init>"), (0, u "()V"), (0, .integer 2147483647), (0, .class_ 9), (0, u "java/lang/String"), (0, .methodref 8 11), (0, .nameAndType 5 12), (0, u "([C)V"), (0, .fieldref 14 15), (0, .class_ 16), (0, .nameAndType 17 18), (0, u "com/example/plainjson/cli/Command"), (0, u "VALIDATE"), (0, u "Lcom/example/plainjson/cli/Command;"), (0, .fieldref 14 20), (0, .nameAndType 21 18), (0, u "FORMAT"), (0, .fieldref 14 23), (0, .nameAndType 24 18), (0, u "GET"), (0, .methodref 14 26), (0, .nameAndType 27 28), (0, u "named"), (0, u "(Ljava/lang/String;)Lcom/example/plainjson/cli/Command;"), (0, .fieldref 14 30), (0, .nameAndType 31 32), (0, u "label"), (0, u "Ljava/lang/String;"), (0, .methodref 8 34), (0, .nameAndType 35 36), (0, u "equals"), (0, u "(Ljava/lang/Object;)Z"), (0, .class_ 38), (0, u "com/example/plainjson/cli/CommandNamedPinLaw"), (2, u "law"), (0, u "(I)Z")] 6

def k1m0 : Method := { name := "<init>", desc := "()V", sig := { parameters := [], returnType := none }, accessFlags := 2, code := none }
def k1c1 : Code := { maxStack := 6, maxLocals := 5, code := code, exceptionTable := #[], attributes := #[] }
def k1m1 : Method := { name := "law", desc := "(I)Z", sig := { parameters := [.int], returnType := some .boolean }, accessFlags := 9, code := some k1c1 }
/-- com/example/plainjson/cli/CommandNamedPinLaw -/
def k1 : Class := { plain "com/example/plainjson/cli/CommandNamedPinLaw" (some 0) with
  accessFlags := 49
  interfaces := #[]
  cf := some (fileOf pool1 37 #[] #[{ accessFlags := 2, nameIndex := 5, descriptorIndex := 6, attributes := #[] }, { accessFlags := 9, nameIndex := 41, descriptorIndex := 42, attributes := #[] }] 49 2 #[] #[])
  fields := #[]
  methods := #[k1m0, k1m1]
  instanceTypes := #[]
  staticTypes := #[]
  resolved := Array.replicate 49 none
  statics := none }

def pool2 : Array CpInfo := pool [(1, .class_ 2), (0, u "java/io/Serializable"), (0, .class_ 4), (0, u "java/lang/Object")] 2

/-- java/io/Serializable -/
def k2 : Class := { plain "java/io/Serializable" (some 0) with
  accessFlags := 1537
  interfaces := #[]
  cf := some (fileOf pool2 1 #[] #[] 1537 3 #[] #[])
  fields := #[]
  methods := #[]
  instanceTypes := #[]
  staticTypes := #[]
  resolved := Array.replicate 7 none
  statics := none }

def pool3 : Array CpInfo := pool [(1, .class_ 2), (0, u "java/lang/Comparable"), (0, .class_ 4), (0, u "java/lang/Object")] 7

/-- java/lang/Comparable -/
def k3 : Class := { plain "java/lang/Comparable" (some 0) with
  accessFlags := 1537
  interfaces := #[]
  cf := some (fileOf pool3 1 #[] #[] 1537 3 #[] #[])
  fields := #[]
  methods := #[]
  instanceTypes := #[]
  staticTypes := #[]
  resolved := Array.replicate 12 none
  statics := none }

def pool4 : Array CpInfo := pool [(2, .class_ 4), (1, u "java/lang/CharSequence"), (42, .class_ 48), (0, u "java/lang/CharSequence$1CodePointIterator"), (10, .class_ 60), (0, u "java/lang/CharSequence$1CharIterator"), (5, .class_ 67), (0, u "java/lang/Object")] 63

/-- java/lang/CharSequence -/
def k4 : Class := { plain "java/lang/CharSequence" (some 0) with
  accessFlags := 1537
  interfaces := #[]
  cf := some (fileOf pool4 2 #[.nestMembers #[47, 59]] #[] 1537 66 #[] #[])
  fields := #[]
  methods := #[]
  instanceTypes := #[]
  staticTypes := #[]
  resolved := Array.replicate 131 none
  statics := none }

def pool5 : Array CpInfo := pool [(1, .class_ 2), (0, u "java/lang/constant/Constable"), (0, .class_ 4), (0, u "java/lang/Object")] 6

/-- java/lang/constant/Constable -/
def k5 : Class := { plain "java/lang/constant/Constable" (some 0) with
  accessFlags := 1537
  interfaces := #[]
  cf := some (fileOf pool5 1 #[] #[] 1537 3 #[] #[])
  fields := #[]
  methods := #[]
  instanceTypes := #[]
  staticTypes := #[]
  resolved := Array.replicate 11 none
  statics := none }

def pool6 : Array CpInfo := pool [(1, .class_ 2), (0, u "java/lang/constant/ConstantDesc"), (0, .class_ 4), (0, u "java/lang/Object")] 32

/-- java/lang/constant/ConstantDesc -/
def k6 : Class := { plain "java/lang/constant/ConstantDesc" (some 0) with
  accessFlags := 1537
  interfaces := #[]
  cf := some (fileOf pool6 1 #[] #[] 1537 3 #[] #[])
  fields := #[]
  methods := #[]
  instanceTypes := #[]
  staticTypes := #[]
  resolved := Array.replicate 37 none
  statics := none }

def pool7 : Array CpInfo := pool [(1, .methodref 2 3), (0, .class_ 4), (0, .nameAndType 5 6), (0, u "java/lang/Object"), (0, u "<init>"), (0, u "()V"), (2, .fieldref 10 11), (0, .class_ 12), (0, .nameAndType 13 14), (0, u "java/lang/String"), (0, u "value"), (0, u "[B"), (0, .fieldref 10 16), (0, .nameAndType 17 18), (0, u "coder"), (0, u "B"), (2, u "hash"), (0, u "I"), (2, u "hashIsZero"), (0, u "Z"), (0, .methodref 10 28), (0, .nameAndType 5 29), (0, u "([CIILjava/lang/Void;)V"), (8, .fieldref 10 39), (0, .nameAndType 40 26), (0, u "COMPACT_STRINGS"), (1, .class_ 44), (1, u "java/lang/StringUTF16"), (0, u "compress"), (1, .methodref 42 48), (0, .nameAndType 49 50), (0, u "coderFromArrayLen"), (0, u "([BI)B"), (56, .class_ 109), (1, u "java/lang/StringLatin1"), (67, .methodref 42 178), (0, .nameAndType 45 179), (0, u "([CII)[B"), (361, .methodref 107 542), (0, .nameAndType 543 544), (0, u "equals"), (0, u "([B[B)Z"), (28, u "(Ljava/lang/Object;)Z"), (1, .class_ 576), (0, u "java/lang/CharSequence"), (22, u "CASE_INSENSITIVE_ORDER"), (0, u "Ljava/util/Comparator;"), (409, u "([C)V"), (90, u "serialPersistentFields"), (0, u "[Ljava/io/ObjectStreamField;"), (0, .class_ 1104), (0, u "java/lang/String$CaseInsensitiveComparator"), (1, .class_ 1107), (0, u "java/io/Serializable"), (0, .class_ 1109), (0, u "java/lang/Comparable"), (0, .class_ 1111), (0, u "java/lang/constant/Constable"), (0, .class_ 1113), (0, u "java/lang/constant/ConstantDesc"), (2, u "serialVersionUID"), (0, u "J"), (3, u "REPL"), (0, u "C"), (2, u "LATIN1"), (1, u "UTF16")] 323

def k7m0 : Method := { name := "<init>", desc := "()V", sig := { parameters := [], returnType := none }, accessFlags := 1, code := none }
def k7c1 : Code := { maxStack := 5, maxLocals := 2, code := jdk_42_method_3_code, exceptionTable := #[], attributes := #[] }
def k7m1 : Method := { name := "<init>", desc := "([C)V", sig := { parameters := [(.array .char)], returnType := none }, accessFlags := 1, code := some k7c1 }
def k7c2 : Code := { maxStack := 2, maxLocals := 3, code := jdk_42_method_66_code, exceptionTable := #[], attributes := #[] }
def k7m2 : Method := { name := "equals", desc := "(Ljava/lang/Object;)Z", sig := { parameters := [(.object "java/lang/Object")], returnType := some .boolean }, accessFlags := 1, code := some k7c2 }
def k7c3 : Code := { maxStack := 4, maxLocals := 6, code := jdk_42_method_149_code, exceptionTable := #[], attributes := #[] }
def k7m3 : Method := { name := "<init>", desc := "([CIILjava/lang/Void;)V", sig := { parameters := [(.array .char), .int, .int, (.object "java/lang/Void")], returnType := none }, accessFlags := 2, code := some k7c3 }
/-- java/lang/String -/
def k7 : Class := { plain "java/lang/String" (some 0) with
  accessFlags := 49
  interfaces := #[2, 3, 4, 5, 6]
  cf := some (fileOf pool7 10 #[.nestMembers #[1103]] #[{ accessFlags := 1, nameIndex := 5, descriptorIndex := 6, attributes := #[] }, { accessFlags := 1, nameIndex := 5, descriptorIndex := 1010, attributes := #[] }, { accessFlags := 1, nameIndex := 543, descriptorIndex := 573, attributes := #[] }, { accessFlags := 2, nameIndex := 5, descriptorIndex := 29, attributes := #[] }] 49 2 #[1106, 1108, 575, 1110, 1112] #[{ accessFlags := 18, nameIndex := 13, descriptorIndex := 14, attributes := #[] }, { accessFlags := 18, nameIndex := 17, descriptorIndex := 18, attributes := #[] }, { accessFlags := 2, nameIndex := 21, descriptorIndex := 22, attributes := #[] }, { accessFlags := 2, nameIndex := 25, descriptorIndex := 26, attributes := #[] }, { accessFlags := 26, nameIndex := 1116, descriptorIndex := 1117, attributes := #[] }, { accessFlags := 24, nameIndex := 40, descriptorIndex := 26, attributes := #[] }, { accessFlags := 26, nameIndex := 1101, descriptorIndex := 1102, attributes := #[] }, { accessFlags := 26, nameIndex := 1121, descriptorIndex := 1122, attributes := #[] }, { accessFlags := 25, nameIndex := 599, descriptorIndex := 600, attributes := #[] }, { accessFlags := 24, nameIndex := 1125, descriptorIndex := 18, attributes := #[] }, { accessFlags := 24, nameIndex := 1127, descriptorIndex := 18, attributes := #[] }])
  fields := #[{ name := "value", type := (.array .byte), accessFlags := 18, slot := 0, constantValue := 0 }, { name := "coder", type := .byte, accessFlags := 18, slot := 1, constantValue := 0 }, { name := "hash", type := .int, accessFlags := 2, slot := 2, constantValue := 0 }, { name := "hashIsZero", type := .boolean, accessFlags := 2, slot := 3, constantValue := 0 }, { name := "serialVersionUID", type := .long, accessFlags := 26, slot := 0, constantValue := 0 }, { name := "COMPACT_STRINGS", type := .boolean, accessFlags := 24, slot := 1, constantValue := 0 }, { name := "serialPersistentFields", type := (.array (.object "java/io/ObjectStreamField")), accessFlags := 26, slot := 2, constantValue := 0 }, { name := "REPL", type := .char, accessFlags := 26, slot := 3, constantValue := 0 }, { name := "CASE_INSENSITIVE_ORDER", type := (.object "java/util/Comparator"), accessFlags := 25, slot := 4, constantValue := 0 }, { name := "LATIN1", type := .byte, accessFlags := 24, slot := 5, constantValue := 0 }, { name := "UTF16", type := .byte, accessFlags := 24, slot := 6, constantValue := 0 }]
  methods := #[k7m0, k7m1, k7m2, k7m3]
  instanceTypes := #[(.array .byte), .byte, .int, .boolean]
  staticTypes := #[.long, .boolean, (.array (.object "java/io/ObjectStreamField")), .char, (.object "java/util/Comparator"), .byte, .byte]
  resolved := Array.replicate 1451 none
  statics := some 0 }

def pool8 : Array CpInfo := pool [(6, .class_ 8), (1, u "java/lang/Object"), (0, u "<init>"), (0, u "()V"), (1, .class_ 14), (1, u "java/lang/StringUTF16"), (31, u "$assertionsDisabled"), (0, u "Z"), (13, u "HI_BYTE_SHIFT"), (0, u "I"), (2, u "LO_BYTE_SHIFT"), (49, .methodref 12 116), (0, .nameAndType 117 118), (0, u "compress"), (0, u "([CI[BII)I"), (3, u "([CII)[B"), (138, u "coderFromArrayLen"), (0, u "([BI)B"), (106, .class_ 371), (1, u "java/lang/StringUTF16$LinesSpliterator"), (58, u "MAX_LENGTH"), (196, .class_ 628), (0, u "java/lang/StringUTF16$CodePointsSpliterator"), (0, .class_ 630), (0, u "java/lang/StringUTF16$CharsSpliterator")] 4

def k8m0 : Method := { name := "<init>", desc := "()V", sig := { parameters := [], returnType := none }, accessFlags := 0, code := none }
def k8c1 : Code := { maxStack := 2, maxLocals := 2, code := jdk_52_method_15_code, exceptionTable := #[], attributes := #[] }
def k8m1 : Method := { name := "coderFromArrayLen", desc := "([BI)B", sig := { parameters := [(.array .byte), .int], returnType := some .byte }, accessFlags := 8, code := some k8c1 }
def k8c2 : Code := { maxStack := 5, maxLocals := 6, code := jdk_52_method_16_code, exceptionTable := #[], attributes := #[] }
def k8m2 : Method := { name := "compress", desc := "([CII)[B", sig := { parameters := [(.array .char), .int, .int], returnType := some (.array .byte) }, accessFlags := 9, code := some k8c2 }
def k8c3 : Code := { maxStack := 3, maxLocals := 7, code := jdk_52_method_21_code, exceptionTable := #[], attributes := #[] }
def k8m3 : Method := { name := "compress", desc := "([CI[BII)I", sig := { parameters := [(.array .char), .int, (.array .byte), .int, .int], returnType := some .int }, accessFlags := 9, code := some k8c3 }
/-- java/lang/StringUTF16 -/
def k8 : Class := { plain "java/lang/StringUTF16" (some 0) with
  accessFlags := 48
  interfaces := #[]
  cf := some (fileOf pool8 12 #[.nestMembers #[627, 629, 369]] #[{ accessFlags := 0, nameIndex := 9, descriptorIndex := 10, attributes := #[] }, { accessFlags := 8, nameIndex := 261, descriptorIndex := 262, attributes := #[] }, { accessFlags := 9, nameIndex := 117, descriptorIndex := 122, attributes := #[] }, { accessFlags := 9, nameIndex := 117, descriptorIndex := 118, attributes := #[] }] 48 6 #[] #[{ accessFlags := 26, nameIndex := 61, descriptorIndex := 62, attributes := #[] }, { accessFlags := 26, nameIndex := 65, descriptorIndex := 62, attributes := #[] }, { accessFlags := 24, nameIndex := 430, descriptorIndex := 62, attributes := #[] }, { accessFlags := 4120, nameIndex := 46, descriptorIndex := 47, attributes := #[] }])
  fields := #[{ name := "HI_BYTE_SHIFT", type := .int, accessFlags := 26, slot := 0, constantValue := 0 }, { name := "LO_BYTE_SHIFT", type := .int, accessFlags := 26, slot := 1, constantValue := 0 }, { name := "MAX_LENGTH", type := .int, accessFlags := 24, slot := 2, constantValue := 0 }, { name := "$assertionsDisabled", type := .boolean, accessFlags := 4120, slot := 3, constantValue := 0 }]
  methods := #[k8m0, k8m1, k8m2, k8m3]
  instanceTypes := #[]
  staticTypes := #[.int, .int, .int, .boolean]
  resolved := Array.replicate 635 none
  statics := none }

def pool9 : Array CpInfo := pool [(2, .class_ 4), (1, u "java/lang/Enum"), (0, u "name"), (0, u "Ljava/lang/String;"), (2, u "ordinal"), (0, u "I"), (1, .class_ 14), (1, u "java/lang/Object"), (4, u "hash"), (86, .class_ 108), (1, u "java/lang/Enum$EnumDesc"), (2, .class_ 112), (0, u "java/lang/constant/Constable"), (0, .class_ 114), (0, u "java/lang/Comparable"), (0, .class_ 116), (0, u "java/io/Serializable")] 87

/-- java/lang/Enum -/
def k9 : Class := { plain "java/lang/Enum" (some 0) with
  accessFlags := 1057
  interfaces := #[5, 3, 2]
  cf := some (fileOf pool9 2 #[.nestMembers #[106]] #[] 1057 12 #[111, 113, 115] #[{ accessFlags := 18, nameIndex := 5, descriptorIndex := 6, attributes := #[] }, { accessFlags := 18, nameIndex := 9, descriptorIndex := 10, attributes := #[] }, { accessFlags := 2, nameIndex := 19, descriptorIndex := 10, attributes := #[] }])
  fields := #[{ name := "name", type := (.object "java/lang/String"), accessFlags := 18, slot := 0, constantValue := 0 }, { name := "ordinal", type := .int, accessFlags := 18, slot := 1, constantValue := 0 }, { name := "hash", type := .int, accessFlags := 2, slot := 2, constantValue := 0 }]
  methods := #[]
  instanceTypes := #[(.object "java/lang/String"), .int, .int]
  staticTypes := #[]
  resolved := Array.replicate 204 none
  statics := none }

def pool10 : Array CpInfo := pool [(1, .class_ 2), (0, u "com/example/plainjson/cli/Command"), (2, u "VALIDATE"), (0, u "Lcom/example/plainjson/cli/Command;"), (2, u "FORMAT"), (2, u "GET"), (0, .fieldref 1 14), (0, .nameAndType 15 16), (0, u "$VALUES"), (0, u "[Lcom/example/plainjson/cli/Command;"), (0, .methodref 18 19), (0, .class_ 16), (0, .nameAndType 20 21), (0, u "clone"), (0, u "()Ljava/lang/Object;"), (1, .class_ 25), (1, u "java/lang/Enum"), (17, .class_ 45), (1, u "java/lang/String"), (2, .fieldref 1 49), (0, .nameAndType 50 51), (0, u "label"), (0, u "Ljava/lang/String;"), (6, u "synopsis"), (2, u "flags"), (0, u "Ljava/util/Set;"), (2, u "valued"), (0, .methodref 1 67), (0, .nameAndType 68 69), (0, u "values"), (0, u "()[Lcom/example/plainjson/cli/Command;"), (0, .methodref 43 71), (0, .nameAndType 72 73), (0, u "equals"), (0, u "(Ljava/lang/Object;)Z"), (53, u "(Ljava/lang/String;)Lcom/example/plainjson/cli/Command;"), (2, u "named")] 24

def k10c0 : Code := { maxStack := 1, maxLocals := 0, code := prog_2_method_1_code, exceptionTable := #[], attributes := #[] }
def k10m0 : Method := { name := "values", desc := "()[Lcom/example/plainjson/cli/Command;", sig := { parameters := [], returnType := some (.array (.object "com/example/plainjson/cli/Command")) }, accessFlags := 9, code := some k10c0 }
def k10c1 : Code := { maxStack := 2, maxLocals := 5, code := prog_2_method_4_code, exceptionTable := #[], attributes := #[] }
def k10m1 : Method := { name := "named", desc := "(Ljava/lang/String;)Lcom/example/plainjson/cli/Command;", sig := { parameters := [(.object "java/lang/String")], returnType := some (.object "com/example/plainjson/cli/Command") }, accessFlags := 8, code := some k10c1 }
/-- com/example/plainjson/cli/Command -/
def k10 : Class := { plain "com/example/plainjson/cli/Command" (some 9) with
  accessFlags := 16432
  interfaces := #[]
  cf := some (fileOf pool10 1 #[] #[{ accessFlags := 9, nameIndex := 68, descriptorIndex := 69, attributes := #[] }, { accessFlags := 8, nameIndex := 130, descriptorIndex := 127, attributes := #[] }] 16432 23 #[] #[{ accessFlags := 16409, nameIndex := 5, descriptorIndex := 6, attributes := #[] }, { accessFlags := 16409, nameIndex := 9, descriptorIndex := 6, attributes := #[] }, { accessFlags := 16409, nameIndex := 12, descriptorIndex := 6, attributes := #[] }, { accessFlags := 16, nameIndex := 50, descriptorIndex := 51, attributes := #[] }, { accessFlags := 16, nameIndex := 58, descriptorIndex := 51, attributes := #[] }, { accessFlags := 16, nameIndex := 61, descriptorIndex := 62, attributes := #[] }, { accessFlags := 16, nameIndex := 65, descriptorIndex := 62, attributes := #[] }, { accessFlags := 4122, nameIndex := 15, descriptorIndex := 16, attributes := #[] }])
  fields := #[{ name := "VALIDATE", type := (.object "com/example/plainjson/cli/Command"), accessFlags := 16409, slot := 0, constantValue := 0 }, { name := "FORMAT", type := (.object "com/example/plainjson/cli/Command"), accessFlags := 16409, slot := 1, constantValue := 0 }, { name := "GET", type := (.object "com/example/plainjson/cli/Command"), accessFlags := 16409, slot := 2, constantValue := 0 }, { name := "label", type := (.object "java/lang/String"), accessFlags := 16, slot := 3, constantValue := 0 }, { name := "synopsis", type := (.object "java/lang/String"), accessFlags := 16, slot := 4, constantValue := 0 }, { name := "flags", type := (.object "java/util/Set"), accessFlags := 16, slot := 5, constantValue := 0 }, { name := "valued", type := (.object "java/util/Set"), accessFlags := 16, slot := 6, constantValue := 0 }, { name := "$VALUES", type := (.array (.object "com/example/plainjson/cli/Command")), accessFlags := 4122, slot := 3, constantValue := 0 }]
  methods := #[k10m0, k10m1]
  instanceTypes := #[(.object "java/lang/String"), .int, .int, (.object "java/lang/String"), (.object "java/lang/String"), (.object "java/util/Set"), (.object "java/util/Set")]
  staticTypes := #[(.object "com/example/plainjson/cli/Command"), (.object "com/example/plainjson/cli/Command"), (.object "com/example/plainjson/cli/Command"), (.array (.object "com/example/plainjson/cli/Command"))]
  resolved := Array.replicate 155 none
  statics := some 1 }

def pool11 : Array CpInfo := pool [(1, .class_ 2), (0, u "java/lang/Cloneable"), (0, .class_ 4), (0, u "java/lang/Object")] 2

/-- java/lang/Cloneable -/
def k11 : Class := { plain "java/lang/Cloneable" (some 0) with
  accessFlags := 1537
  interfaces := #[]
  cf := some (fileOf pool11 1 #[] #[] 1537 3 #[] #[])
  fields := #[]
  methods := #[]
  instanceTypes := #[]
  staticTypes := #[]
  resolved := Array.replicate 7 none
  statics := none }

def pool12 : Array CpInfo := pool [(4, .class_ 6), (1, u "java/lang/Object"), (0, u "<init>"), (0, u "()V"), (5, .class_ 16), (1, u "java/lang/StringLatin1"), (104, u "$assertionsDisabled"), (0, u "Z"), (98, .class_ 223), (1, u "java/lang/StringLatin1$LinesSpliterator"), (57, u "equals"), (0, u "([B[B)Z"), (107, .class_ 391), (0, u "java/lang/StringLatin1$CharsSpliterator")] 3

def k12m0 : Method := { name := "<init>", desc := "()V", sig := { parameters := [], returnType := none }, accessFlags := 0, code := none }
def k12c1 : Code := { maxStack := 3, maxLocals := 3, code := jdk_43_method_13_code, exceptionTable := #[], attributes := #[] }
def k12m1 : Method := { name := "equals", desc := "([B[B)Z", sig := { parameters := [(.array .byte), (.array .byte)], returnType := some .boolean }, accessFlags := 9, code := some k12c1 }
/-- java/lang/StringLatin1 -/
def k12 : Class := { plain "java/lang/StringLatin1" (some 0) with
  accessFlags := 48
  interfaces := #[]
  cf := some (fileOf pool12 14 #[.nestMembers #[390, 221]] #[{ accessFlags := 0, nameIndex := 7, descriptorIndex := 8, attributes := #[] }, { accessFlags := 9, nameIndex := 281, descriptorIndex := 282, attributes := #[] }] 48 4 #[] #[{ accessFlags := 4120, nameIndex := 121, descriptorIndex := 122, attributes := #[] }])
  fields := #[{ name := "$assertionsDisabled", type := .boolean, accessFlags := 4120, slot := 0, constantValue := 0 }]
  methods := #[k12m0, k12m1]
  instanceTypes := #[]
  staticTypes := #[.boolean]
  resolved := Array.replicate 395 none
  statics := none }

def pool13 : Array CpInfo := pool [(2, .class_ 4), (1, u "java/lang/Object"), (0, u "<init>"), (0, u "()V"), (17, .class_ 26), (1, u "jdk/internal/util/Preconditions"), (28, .class_ 56), (0, u "jdk/internal/util/Preconditions$4"), (57, .class_ 115), (0, u "jdk/internal/util/Preconditions$1"), (7, u "SIOOBE_FORMATTER"), (0, u "Ljava/util/function/BiFunction;"), (0, .class_ 126), (0, u "jdk/internal/util/Preconditions$2"), (3, u "AIOOBE_FORMATTER"), (0, .class_ 132), (0, u "jdk/internal/util/Preconditions$3"), (3, u "IOOBE_FORMATTER")] 57

def k13m0 : Method := { name := "<init>", desc := "()V", sig := { parameters := [], returnType := none }, accessFlags := 1, code := none }
/-- jdk/internal/util/Preconditions -/
def k13 : Class := { plain "jdk/internal/util/Preconditions" (some 0) with
  accessFlags := 33
  interfaces := #[]
  cf := some (fileOf pool13 24 #[.nestMembers #[55, 131, 125, 114]] #[{ accessFlags := 1, nameIndex := 5, descriptorIndex := 6, attributes := #[] }] 33 2 #[] #[{ accessFlags := 25, nameIndex := 123, descriptorIndex := 124, attributes := #[] }, { accessFlags := 25, nameIndex := 130, descriptorIndex := 124, attributes := #[] }, { accessFlags := 25, nameIndex := 136, descriptorIndex := 124, attributes := #[] }])
  fields := #[{ name := "SIOOBE_FORMATTER", type := (.object "java/util/function/BiFunction"), accessFlags := 25, slot := 0, constantValue := 0 }, { name := "AIOOBE_FORMATTER", type := (.object "java/util/function/BiFunction"), accessFlags := 25, slot := 1, constantValue := 0 }, { name := "IOOBE_FORMATTER", type := (.object "java/util/function/BiFunction"), accessFlags := 25, slot := 2, constantValue := 0 }]
  methods := #[k13m0]
  instanceTypes := #[]
  staticTypes := #[(.object "java/util/function/BiFunction"), (.object "java/util/function/BiFunction"), (.object "java/util/function/BiFunction")]
  resolved := Array.replicate 194 none
  statics := some 2 }

def pool14 : Array CpInfo := pool [(9, u "<init>"), (6, .class_ 18), (1, u "java/lang/Object"), (0, u "()V"), (1, .class_ 23), (1, u "jdk/internal/util/ArraysSupport"), (0, u "LOG2_ARRAY_LONG_INDEX_SCALE"), (0, u "I"), (2, u "U"), (0, u "Ljdk/internal/misc/Unsafe;"), (8, u "BIG_ENDIAN"), (0, u "Z"), (8, u "LOG2_BYTE_BIT_SIZE"), (4, u "LOG2_ARRAY_INT_INDEX_SCALE"), (54, u "JLA"), (0, u "Ljdk/internal/access/JavaLangAccess;"), (11, u "LOG2_ARRAY_BOOLEAN_INDEX_SCALE"), (9, u "LOG2_ARRAY_BYTE_INDEX_SCALE"), (5, u "LOG2_ARRAY_CHAR_INDEX_SCALE"), (5, u "LOG2_ARRAY_SHORT_INDEX_SCALE"), (18, u "LOG2_ARRAY_FLOAT_INDEX_SCALE"), (24, u "LOG2_ARRAY_DOUBLE_INDEX_SCALE"), (89, u "T_BOOLEAN"), (2, u "T_CHAR"), (1, u "T_FLOAT"), (1, u "T_DOUBLE"), (1, u "T_BYTE"), (1, u "T_SHORT"), (1, u "T_INT"), (1, u "T_LONG"), (1, u "SOFT_MAX_ARRAY_LENGTH")] 83

def k14m0 : Method := { name := "<init>", desc := "()V", sig := { parameters := [], returnType := none }, accessFlags := 2, code := none }
/-- jdk/internal/util/ArraysSupport -/
def k14 : Class := { plain "jdk/internal/util/ArraysSupport" (some 0) with
  accessFlags := 33
  interfaces := #[]
  cf := some (fileOf pool14 21 #[] #[{ accessFlags := 2, nameIndex := 9, descriptorIndex := 19, attributes := #[] }] 33 16 #[] #[{ accessFlags := 24, nameIndex := 28, descriptorIndex := 29, attributes := #[] }, { accessFlags := 26, nameIndex := 38, descriptorIndex := 39, attributes := #[] }, { accessFlags := 25, nameIndex := 121, descriptorIndex := 25, attributes := #[] }, { accessFlags := 25, nameIndex := 131, descriptorIndex := 25, attributes := #[] }, { accessFlags := 25, nameIndex := 137, descriptorIndex := 25, attributes := #[] }, { accessFlags := 25, nameIndex := 143, descriptorIndex := 25, attributes := #[] }, { accessFlags := 25, nameIndex := 53, descriptorIndex := 25, attributes := #[] }, { accessFlags := 25, nameIndex := 24, descriptorIndex := 25, attributes := #[] }, { accessFlags := 25, nameIndex := 162, descriptorIndex := 25, attributes := #[] }, { accessFlags := 25, nameIndex := 187, descriptorIndex := 25, attributes := #[] }, { accessFlags := 26, nameIndex := 48, descriptorIndex := 25, attributes := #[] }, { accessFlags := 25, nameIndex := 277, descriptorIndex := 25, attributes := #[] }, { accessFlags := 25, nameIndex := 280, descriptorIndex := 25, attributes := #[] }, { accessFlags := 25, nameIndex := 282, descriptorIndex := 25, attributes := #[] }, { accessFlags := 25, nameIndex := 284, descriptorIndex := 25, attributes := #[] }, { accessFlags := 25, nameIndex := 286, descriptorIndex := 25, attributes := #[] }, { accessFlags := 25, nameIndex := 288, descriptorIndex := 25, attributes := #[] }, { accessFlags := 25, nameIndex := 290, descriptorIndex := 25, attributes := #[] }, { accessFlags := 25, nameIndex := 292, descriptorIndex := 25, attributes := #[] }, { accessFlags := 26, nameIndex := 108, descriptorIndex := 109, attributes := #[] }, { accessFlags := 25, nameIndex := 294, descriptorIndex := 25, attributes := #[] }])
  fields := #[{ name := "U", type := (.object "jdk/internal/misc/Unsafe"), accessFlags := 24, slot := 0, constantValue := 0 }, { name := "BIG_ENDIAN", type := .boolean, accessFlags := 26, slot := 1, constantValue := 0 }, { name := "LOG2_ARRAY_BOOLEAN_INDEX_SCALE", type := .int, accessFlags := 25, slot := 2, constantValue := 0 }, { name := "LOG2_ARRAY_BYTE_INDEX_SCALE", type := .int, accessFlags := 25, slot := 3, constantValue := 0 }, { name := "LOG2_ARRAY_CHAR_INDEX_SCALE", type := .int, accessFlags := 25, slot := 4, constantValue := 0 }, { name := "LOG2_ARRAY_SHORT_INDEX_SCALE", type := .int, accessFlags := 25, slot := 5, constantValue := 0 }, { name := "LOG2_ARRAY_INT_INDEX_SCALE", type := .int, accessFlags := 25, slot := 6, constantValue := 0 }, { name := "LOG2_ARRAY_LONG_INDEX_SCALE", type := .int, accessFlags := 25, slot := 7, constantValue := 0 }, { name := "LOG2_ARRAY_FLOAT_INDEX_SCALE", type := .int, accessFlags := 25, slot := 8, constantValue := 0 }, { name := "LOG2_ARRAY_DOUBLE_INDEX_SCALE", type := .int, accessFlags := 25, slot := 9, constantValue := 0 }, { name := "LOG2_BYTE_BIT_SIZE", type := .int, accessFlags := 26, slot := 10, constantValue := 0 }, { name := "T_BOOLEAN", type := .int, accessFlags := 25, slot := 11, constantValue := 0 }, { name := "T_CHAR", type := .int, accessFlags := 25, slot := 12, constantValue := 0 }, { name := "T_FLOAT", type := .int, accessFlags := 25, slot := 13, constantValue := 0 }, { name := "T_DOUBLE", type := .int, accessFlags := 25, slot := 14, constantValue := 0 }, { name := "T_BYTE", type := .int, accessFlags := 25, slot := 15, constantValue := 0 }, { name := "T_SHORT", type := .int, accessFlags := 25, slot := 16, constantValue := 0 }, { name := "T_INT", type := .int, accessFlags := 25, slot := 17, constantValue := 0 }, { name := "T_LONG", type := .int, accessFlags := 25, slot := 18, constantValue := 0 }, { name := "JLA", type := (.object "jdk/internal/access/JavaLangAccess"), accessFlags := 26, slot := 19, constantValue := 0 }, { name := "SOFT_MAX_ARRAY_LENGTH", type := .int, accessFlags := 25, slot := 20, constantValue := 0 }]
  methods := #[k14m0]
  instanceTypes := #[]
  staticTypes := #[(.object "jdk/internal/misc/Unsafe"), .boolean, .int, .int, .int, .int, .int, .int, .int, .int, .int, .int, .int, .int, .int, .int, .int, .int, .int, (.object "jdk/internal/access/JavaLangAccess"), .int]
  resolved := Array.replicate 378 none
  statics := none }

/-- the primitive byte -/
def k15 : Class := { plain "byte" none with kind := .primitive 'B', accessFlags := 0x411 }
/-- [B -/
def k16 : Class := { plain "[B" (some 0) with kind := .array 15 .byte, interfaces := #[11, 2], accessFlags := 1041 }

/-- the primitive char -/
def k17 : Class := { plain "char" none with kind := .primitive 'C', accessFlags := 0x411 }
/-- [C -/
def k18 : Class := { plain "[C" (some 0) with kind := .array 17 .char, interfaces := #[11, 2], accessFlags := 1041 }

/-- the primitive int -/
def k19 : Class := { plain "int" none with kind := .primitive 'I', accessFlags := 0x411 }
/-- [I -/
def k20 : Class := { plain "[I" (some 0) with kind := .array 19 .int, interfaces := #[11, 2], accessFlags := 1041 }

/-- [Lcom/example/plainjson/cli/Command; -/
def k21 : Class := { plain "[Lcom/example/plainjson/cli/Command;" (some 0) with kind := .array 10 (.object "com/example/plainjson/cli/Command"), interfaces := #[11, 2], accessFlags := 1041 }

def heap : Heap := #[{ cls := 7, slots := #[.long 0, .int 1, .null, .int 0, .null, .int 0, .int 0], vm := .statics 7 },
  { cls := 10, slots := #[.ref 4, .ref 7, .ref 10, .ref 3], vm := .statics 10 },
  { cls := 13, slots := #[.null, .null, .null], vm := .statics 13 },
  { cls := 21, slots := #[.ref 4, .ref 7, .ref 10], vm := .none },
  { cls := 10, slots := #[.null, .int 0, .int 0, .ref 5, .null, .null, .null], vm := .none },
  { cls := 7, slots := #[.ref 6, .int 0, .int 0, .int 0], vm := .none },
  { cls := 16, slots := #[.int 118, .int 97, .int 108, .int 105, .int 100, .int 97, .int 116, .int 101], vm := .none },
  { cls := 10, slots := #[.null, .int 0, .int 0, .ref 8, .null, .null, .null], vm := .none },
  { cls := 7, slots := #[.ref 9, .int 0, .int 0, .int 0], vm := .none },
  { cls := 16, slots := #[.int 102, .int 111, .int 114, .int 109, .int 97, .int 116], vm := .none },
  { cls := 10, slots := #[.null, .int 0, .int 0, .ref 11, .null, .null, .null], vm := .none },
  { cls := 7, slots := #[.ref 12, .int 0, .int 0, .int 0], vm := .none },
  { cls := 16, slots := #[.int 103, .int 101, .int 116], vm := .none }]
def classes : Array Class := #[k0, k1, k2, k3, k4, k5, k6, k7, k8, k9, k10, k11, k12, k13, k14, k15, k16, k17, k18, k19, k20, k21]
def interned : List (Array UInt16 × Addr) := []
def slotsUsed : Nat := 67
def theMethod : MethodId := ⟨1, 1⟩
def args0 : Array Value := #[.int 5]
def aboutOver (below : List Frame) : State where
  vm := { classes := classes, interned := interned.toArray }
  heap := heap
  slotsUsed := slotsUsed
  threads := #[{ frames := .invoking theMethod args0 :: below }]
def below0 : List Frame := [.native { method := ⟨0, 0⟩, args := #[] }]
def about1 : State := aboutOver below0
def p0 : Program := .bare "" "" ""
def e0 : Env := launch0.env 0 0 0
theorem w_frames : about1.frames = Frame.invoking theMethod args0 :: below0 := rfl
set_option maxRecDepth 65536 in
theorem w_args : argsFit about1.vm theMethod args0 = true := by decide +kernel
set_option maxRecDepth 65536 in
theorem w_heap : heapFits about1 = true := by decide +kernel
set_option maxRecDepth 65536 in
theorem w_runnable : about1.curStatus? = some .runnable := by decide +kernel
set_option maxRecDepth 65536 in
theorem w_alone : about1.alone = true := by decide +kernel
set_option maxRecDepth 65536 in
theorem w_named : about1.methodNamed? x = some theMethod := by decide +kernel
set_option maxRecDepth 65536 in
theorem w_hears : about1.hears theMethod below0 = true := by decide +kernel
set_option maxRecDepth 65536 in
theorem w_ripe : about1.ripe theMethod args0 below0 = true := by decide +kernel
theorem w_running : about1.status = .running := rfl
set_option maxRecDepth 65536 in
theorem w_room : about1.hasRoom e0.platform room_1 = true :=
  launch0.hasRoom_least _ room_1 (by decide +kernel) (by decide +kernel) (by decide +kernel) (by decide +kernel) (by decide +kernel) (by decide +kernel)
theorem allAtoms_all (ts : List Jvm.Cond) (a : Array Jvm.Value) (st : Jvm.State) : (allAtoms ts).before a st = ts.all (fun c => c.before a st) := by
  induction ts with
  | nil => rfl
  | cons c t ih =>
    show (Jvm.Cond.and c (allAtoms t)).before a st = _
    rw [Jvm.Cond.before_and, ih, List.all_cons]
def words1 : List Jvm.Cond := Jvm.Cond.code x code maxLocals ret :: tables_1
/-- a 'code' word, met by the world's own term for the bytes: nothing is compared byte by byte -/
theorem code_word {y : MethodName} {bytes : ByteArray} {mx : Nat} {rt : Option FieldType} {a : Array Value} {s : State} {m : MethodId} {meth : Method} {c : Code} (h1 : s.methodNamed? y = some m) (h2 : s.vm.method? m = some meth) (h3 : meth.code = some c) (h4 : c.code = bytes)
    (h5 : (c.maxLocals == mx && c.exceptionTable.isEmpty && decide (c.maxStack ≤ mostOperands) && decide (meth.sig.returnType = rt) && !meth.locks && decide (parseMethodDescriptor y.desc = some meth.sig)) = true) : (Jvm.Cond.code y bytes mx rt).before a s = true := by
  simp only [Bool.and_eq_true, beq_iff_eq, Bool.not_eq_true', decide_eq_true_eq] at h5
  obtain ⟨⟨⟨⟨⟨g1, g2⟩, g3⟩, g4⟩, g5⟩, g6⟩ := h5
  simp [Cond.before, Cond.holds, Cond.value, h1, h2, h3, h4, g1, g2, g3, g4, g5, g6]
def isCode : Jvm.Cond → Bool
  | .code _ _ _ _ => true
  | _ => false
theorem all_split {L : List Jvm.Cond} {P : Jvm.Cond → Bool} (h1 : L.all (fun c => isCode c || P c) = true) (h2 : ∀ c ∈ L.filter isCode, P c = true) : L.all P = true := by
  refine List.all_eq_true.mpr fun c hc => ?_
  have h := List.all_eq_true.mp h1 c hc
  rcases Bool.eq_false_or_eq_true (isCode c) with hi | hi
  · exact h2 c (List.mem_filter.mpr ⟨hc, hi⟩)
  · simpa [hi] using h
set_option maxRecDepth 65536 in
theorem w_c0 : (Jvm.Cond.code x code maxLocals ret).before args0 about1 = true := code_word (m := ⟨1, 1⟩) (meth := k1m1) (c := k1c1) (by decide +kernel) rfl rfl rfl (by decide +kernel)
set_option maxRecDepth 65536 in
theorem w_c1 : (Jvm.Cond.code ({ cls := "java/lang/String", name := "<init>", desc := "([C)V" } : Jvm.MethodName) jdk_42_method_3_code (2 : Nat) (Option.none : Option Jvm.ClassFile.FieldType)).before args0 about1 = true := code_word (m := ⟨7, 1⟩) (meth := k7m1) (c := k7c1) (by decide +kernel) rfl rfl rfl (by decide +kernel)
set_option maxRecDepth 65536 in
theorem w_c2 : (Jvm.Cond.code ({ cls := "java/lang/String", name := "<init>", desc := "([CIILjava/lang/Void;)V" } : Jvm.MethodName) jdk_42_method_149_code (6 : Nat) (Option.none : Option Jvm.ClassFile.FieldType)).before args0 about1 = true := code_word (m := ⟨7, 3⟩) (meth := k7m3) (c := k7c3) (by decide +kernel) rfl rfl rfl (by decide +kernel)
set_option maxRecDepth 65536 in
theorem w_c3 : (Jvm.Cond.code ({ cls := "java/lang/Object", name := "<init>", desc := "()V" } : Jvm.MethodName) object_method_1_code (1 : Nat) (Option.none : Option Jvm.ClassFile.FieldType)).before args0 about1 = true := code_word (m := ⟨0, 0⟩) (meth := k0m0) (c := k0c0) (by decide +kernel) rfl rfl rfl (by decide +kernel)
set_option maxRecDepth 65536 in
theorem w_c4 : (Jvm.Cond.code ({ cls := "java/lang/StringUTF16", name := "compress", desc := "([CII)[B" } : Jvm.MethodName) jdk_52_method_16_code (6 : Nat) (Option.some (Jvm.ClassFile.FieldType.array Jvm.ClassFile.FieldType.byte))).before args0 about1 = true := code_word (m := ⟨8, 2⟩) (meth := k8m2) (c := k8c2) (by decide +kernel) rfl rfl rfl (by decide +kernel)
set_option maxRecDepth 65536 in
theorem w_c5 : (Jvm.Cond.code ({ cls := "java/lang/StringUTF16", name := "compress", desc := "([CI[BII)I" } : Jvm.MethodName) jdk_52_method_21_code (7 : Nat) (Option.some Jvm.ClassFile.FieldType.int)).before args0 about1 = true := code_word (m := ⟨8, 3⟩) (meth := k8m3) (c := k8c3) (by decide +kernel) rfl rfl rfl (by decide +kernel)
set_option maxRecDepth 65536 in
theorem w_c6 : (Jvm.Cond.code ({ cls := "java/lang/StringUTF16", name := "coderFromArrayLen", desc := "([BI)B" } : Jvm.MethodName) jdk_52_method_15_code (2 : Nat) (Option.some Jvm.ClassFile.FieldType.byte)).before args0 about1 = true := code_word (m := ⟨8, 1⟩) (meth := k8m1) (c := k8c1) (by decide +kernel) rfl rfl rfl (by decide +kernel)
set_option maxRecDepth 65536 in
theorem w_c7 : (Jvm.Cond.code ({ cls := "com/example/plainjson/cli/Command", name := "named", desc := "(Ljava/lang/String;)Lcom/example/plainjson/cli/Command;" } : Jvm.MethodName) prog_2_method_4_code (5 : Nat) (Option.some (Jvm.ClassFile.FieldType.object "com/example/plainjson/cli/Command"))).before args0 about1 = true := code_word (m := ⟨10, 1⟩) (meth := k10m1) (c := k10c1) (by decide +kernel) rfl rfl rfl (by decide +kernel)
set_option maxRecDepth 65536 in
theorem w_c8 : (Jvm.Cond.code ({ cls := "com/example/plainjson/cli/Command", name := "values", desc := "()[Lcom/example/plainjson/cli/Command;" } : Jvm.MethodName) prog_2_method_1_code (0 : Nat) (Option.some (Jvm.ClassFile.FieldType.array (Jvm.ClassFile.FieldType.object "com/example/plainjson/cli/Command")))).before args0 about1 = true := code_word (m := ⟨10, 0⟩) (meth := k10m0) (c := k10c0) (by decide +kernel) rfl rfl rfl (by decide +kernel)
set_option maxRecDepth 65536 in
theorem w_c9 : (Jvm.Cond.code ({ cls := "java/lang/String", name := "equals", desc := "(Ljava/lang/Object;)Z" } : Jvm.MethodName) jdk_42_method_66_code (3 : Nat) (Option.some Jvm.ClassFile.FieldType.boolean)).before args0 about1 = true := code_word (m := ⟨7, 2⟩) (meth := k7m2) (c := k7c2) (by decide +kernel) rfl rfl rfl (by decide +kernel)
set_option maxRecDepth 65536 in
theorem w_c10 : (Jvm.Cond.code ({ cls := "java/lang/StringLatin1", name := "equals", desc := "([B[B)Z" } : Jvm.MethodName) jdk_43_method_13_code (3 : Nat) (Option.some Jvm.ClassFile.FieldType.boolean)).before args0 about1 = true := code_word (m := ⟨12, 1⟩) (meth := k12m1) (c := k12c1) (by decide +kernel) rfl rfl rfl (by decide +kernel)
def codes1 : List Jvm.Cond := [Jvm.Cond.code x code maxLocals ret, Jvm.Cond.code ({ cls := "java/lang/String", name := "<init>", desc := "([C)V" } : Jvm.MethodName) jdk_42_method_3_code (2 : Nat) (Option.none : Option Jvm.ClassFile.FieldType), Jvm.Cond.code ({ cls := "java/lang/String", name := "<init>", desc := "([CIILjava/lang/Void;)V" } : Jvm.MethodName) jdk_42_method_149_code (6 : Nat) (Option.none : Option Jvm.ClassFile.FieldType), Jvm.Cond.code ({ cls := "java/lang/Object", name := "<init>", desc := "()V" } : Jvm.MethodName) object_method_1_code (1 : Nat) (Option.none : Option Jvm.ClassFile.FieldType), Jvm.Cond.code ({ cls := "java/lang/StringUTF16", name := "compress", desc := "([CII)[B" } : Jvm.MethodName) jdk_52_method_16_code (6 : Nat) (Option.some (Jvm.ClassFile.FieldType.array Jvm.ClassFile.FieldType.byte)), Jvm.Cond.code ({ cls := "java/lang/StringUTF16", name := "compress", desc := "([CI[BII)I" } : Jvm.MethodName) jdk_52_method_21_code (7 : Nat) (Option.some Jvm.ClassFile.FieldType.int), Jvm.Cond.code ({ cls := "java/lang/StringUTF16", name := "coderFromArrayLen", desc := "([BI)B" } : Jvm.MethodName) jdk_52_method_15_code (2 : Nat) (Option.some Jvm.ClassFile.FieldType.byte), Jvm.Cond.code ({ cls := "com/example/plainjson/cli/Command", name := "named", desc := "(Ljava/lang/String;)Lcom/example/plainjson/cli/Command;" } : Jvm.MethodName) prog_2_method_4_code (5 : Nat) (Option.some (Jvm.ClassFile.FieldType.object "com/example/plainjson/cli/Command")), Jvm.Cond.code ({ cls := "com/example/plainjson/cli/Command", name := "values", desc := "()[Lcom/example/plainjson/cli/Command;" } : Jvm.MethodName) prog_2_method_1_code (0 : Nat) (Option.some (Jvm.ClassFile.FieldType.array (Jvm.ClassFile.FieldType.object "com/example/plainjson/cli/Command"))), Jvm.Cond.code ({ cls := "java/lang/String", name := "equals", desc := "(Ljava/lang/Object;)Z" } : Jvm.MethodName) jdk_42_method_66_code (3 : Nat) (Option.some Jvm.ClassFile.FieldType.boolean), Jvm.Cond.code ({ cls := "java/lang/StringLatin1", name := "equals", desc := "([B[B)Z" } : Jvm.MethodName) jdk_43_method_13_code (3 : Nat) (Option.some Jvm.ClassFile.FieldType.boolean)]
set_option maxRecDepth 65536 in
theorem codes_eq : words1.filter isCode = codes1 := rfl
theorem w_codes : ∀ c ∈ words1.filter isCode, c.before args0 about1 = true := by
  rw [codes_eq]
  intro c hc
  simp only [codes1, List.mem_cons, List.not_mem_nil, or_false] at hc
  rcases hc with rfl | rfl | rfl | rfl | rfl | rfl | rfl | rfl | rfl | rfl | rfl
  · exact w_c0
  · exact w_c1
  · exact w_c2
  · exact w_c3
  · exact w_c4
  · exact w_c5
  · exact w_c6
  · exact w_c7
  · exact w_c8
  · exact w_c9
  · exact w_c10
set_option maxRecDepth 65536 in
theorem w_t1 : (words1.take 24).all (fun c => isCode c || c.before args0 about1) = true := by decide +kernel
set_option maxRecDepth 65536 in
theorem w_t2 : ((words1.drop 24).take 24).all (fun c => isCode c || c.before args0 about1) = true := by decide +kernel
set_option maxRecDepth 65536 in
theorem w_t3 : ((words1.drop 24).drop 24).all (fun c => isCode c || c.before args0 about1) = true := by decide +kernel
theorem w_tables : (allAtoms (Jvm.Cond.code x code maxLocals ret :: tables_1)).before args0 about1 = true := by
  rw [allAtoms_all]
  show words1.all (fun c => c.before args0 about1) = true
  refine all_split ?_ w_codes
  rw [← List.take_append_drop 24 words1, List.all_append, w_t1, ← List.take_append_drop 24 (words1.drop 24), List.all_append, w_t2, w_t3]
  rfl
set_option maxRecDepth 65536 in
theorem w_rest : rest_1_c.before args0 about1 = true := by decide +kernel
set_option maxRecDepth 65536 in
theorem w_case : (Jvm.Cond.and given_1 narrow_1).before args0 about1 = true := by decide +kernel
theorem w_applies : (headSpec (Jvm.Cond.code x code maxLocals ret :: tables_1) room_1).applies x e0.platform about1 = true :=
  (Spec.applies_iff w_frames).mpr ⟨w_running, w_runnable, w_alone, w_named, w_hears, w_ripe, w_room, w_tables⟩
theorem atStart : AtStart classFile x code maxLocals ret World_1 tables_1 room_1 Calls_1 rest_1 Pre_1 launch0 p0 e0 about1 theMethod args0 below0 :=
  ⟨lists_1, trivial, launch0.admits_env _ _ _, launch0.least_env, fairChoices_fair.cas, fairChoices_fair.clock, w_frames, w_args, w_heap, w_applies, trivial, w_rest, w_case⟩
end start1
theorem witness_1 : WitnessClaimed_1 := ⟨start1.p0, start1.e0, start1.about1, start1.theMethod, start1.args0, start1.below0, start1.atStart⟩
end Jvm.Pilot.@@N@@
