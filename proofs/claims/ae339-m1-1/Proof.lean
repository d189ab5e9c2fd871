import JvmDerived
import JvmDerived.Pilot.@@N@@Statement
import JvmDerived.Pilot.@@N@@Code
set_option linter.unusedVariables false
set_option linter.unusedSimpArgs false
namespace Jvm.RoadKit
open Sem ClassFile Op Lib Jvm.Stand Jvm.Free Jvm.LawKit
section New
variable {p : Program} {l : Launch} {e : Env} {R : Room} {s : State} {m : MethodId} {args : Array Value} {below : List Frame} {meth : Method} {c : Code} {T : State} {locs : List Loc} {cells slots : Nat}
theorem retI (X : Stand p l e R s m args below meth c T locs cells slots) (hx : p.tables.exec = Jvm.exec) {pc : Nat} {Ls : Array Slot} {z : Int32} {rest : List Value} (hret : meth.sig.returnType = some .int) (hd : decode c.code pc = .ok (.ireturn, 1)) {fs : List Frame}
    (hl : ∀ (f : JFrame) (acts : List Action), f.method = m → f.locked = none → f.entered = [] → (doReturn e (T.setTop f) acts (some (.int z))).1 = T.setFrames fs) : Steps p.tables e below (T.setTop (mkF m pc Ls (.int z :: rest))) (T.setFrames fs) := by
  have hm' : T.vm.method? m = some meth := X.method'
  have hn : narrow .int (.int z) = .int z := rfl
  show Steps p.tables e below (T.setTop { method := m, pc := pc, locals := Ls, stack := _ :: rest, locked := none }) _
  jvm_step X.here [X.here.top, hx, hd, hm', hret, hn]
  first | (intro acts; rw [hl _ acts rfl rfl rfl]) | rw [hl _ _ rfl rfl rfl]
  exact Steps.refl _
abbrev vI (x : Int32) : Slot := .val (.int x)
abbrev vJ (x : Int64) : Slot := .val (.long x)
abbrev vR (x : Addr) : Slot := .val (.ref x)
abbrev iI (x : Int32) : Value := .int x
abbrev iJ (x : Int64) : Value := .long x
abbrev iR (x : Addr) : Value := .ref x
/-- from one frame to another over the same heap -/
def own_Mid (X : Stand p l e R s m args below meth c T locs cells slots) (h : Heap) (F F' : JFrame) : Prop :=
  ∃ T', Stand p l e R s m args below meth c T' locs cells slots ∧ T'.heap = h ∧ ∀ t, Steps p.tables e below (T'.setTop F') t → Steps p.tables e below (T.setTop F) t
end New
end Jvm.RoadKit
namespace Jvm.Pilot.@@N@@
open Jvm Jvm.ClassFile Sem Op Lib Jvm.Free Jvm.Stand Jvm.LawKit Jvm.RoadKit Bundle Jvm.Pilot.@@N@@.Jvm.D
theorem pd_0 : parseMethodDescriptor "(BB)B" = some ⟨[.byte, .byte], some .byte⟩ := by decide +kernel

def own_xor (p1 : Int32) (p2 : Int32) : Int32 := (if p1 = (1 : Int32) then (1 : Int32) else (if p2 = (1 : Int32) then (1 : Int32) else (nar .byte (if p1 = p2 then (0 : Int32) else (2 : Int32)))))
theorem d1_0 : decode prog_93_method_14_code 0 = .ok (.iload_n 0, 1) := by decide +kernel
theorem d1_1 : decode prog_93_method_14_code 1 = .ok (.iconst 1, 1) := by decide +kernel
theorem d1_2 : decode prog_93_method_14_code 2 = .ok (.if_icmp .eq 8, 3) := by decide +kernel
theorem d1_5 : decode prog_93_method_14_code 5 = .ok (.iload_n 1, 1) := by decide +kernel
theorem d1_6 : decode prog_93_method_14_code 6 = .ok (.iconst 1, 1) := by decide +kernel
theorem d1_7 : decode prog_93_method_14_code 7 = .ok (.if_icmp .ne 5, 3) := by decide +kernel
theorem d1_10 : decode prog_93_method_14_code 10 = .ok (.iconst 1, 1) := by decide +kernel
theorem d1_11 : decode prog_93_method_14_code 11 = .ok (.ireturn, 1) := by decide +kernel
theorem d1_12 : decode prog_93_method_14_code 12 = .ok (.iload_n 0, 1) := by decide +kernel
theorem d1_13 : decode prog_93_method_14_code 13 = .ok (.iload_n 1, 1) := by decide +kernel
theorem d1_14 : decode prog_93_method_14_code 14 = .ok (.if_icmp .eq 7, 3) := by decide +kernel
theorem d1_17 : decode prog_93_method_14_code 17 = .ok (.iconst 2, 1) := by decide +kernel
theorem d1_18 : decode prog_93_method_14_code 18 = .ok (.goto 4, 3) := by decide +kernel
theorem d1_21 : decode prog_93_method_14_code 21 = .ok (.iconst 0, 1) := by decide +kernel
theorem d1_22 : decode prog_93_method_14_code 22 = .ok (.ireturn, 1) := by decide +kernel
theorem pn_0 : plainName "com/example/nullwise/nullwise/Truth" = true := by first | (simp [plainName, overriddenIn]; done) | decide +kernel
theorem ef_1 (m : MethodId) (x0 : Int32) (x1 : Int32) : entryFrame m #[(.int x0), (.int x1)] 2 = mkF m 0 #[.val (.int x0), .val (.int x1)] [] := by first | (simp [entryFrame, mkF, argsToLocals, Value.category]; done) | rfl
def Q1 (Z : State) (p1 : Int32) (p2 : Int32) (h0 : Heap) (v : Option Value) (h : Heap) (L : List Loc) : Prop := v = some (.int (own_xor p1 p2)) ∧ L = [] ∧ h = h0
set_option maxRecDepth 65536 in
set_option maxHeartbeats 40000000 in
theorem rm1 (l : Launch) (Z : State) (a0 : Array Value) (hw : ∀ d ∈ tables_1, d.before a0 Z = true) (ws : List Jvm.Cond) (p1 : Int32) (p2 : Int32) (h0 : Heap) :
    MetFree l (⟨"com/example/nullwise/nullwise/Truth", "xor", "(BB)B"⟩ : MethodName) (head1 (Jvm.Cond.code (⟨"com/example/nullwise/nullwise/Truth", "xor", "(BB)B"⟩ : MethodName) prog_93_method_14_code 2 (some .byte) :: ws) ({ frames := 0, cells := 0, slots := 0, locals := 0 } : Room)) (fun a U => a = #[(.int p1), (.int p2)] ∧ Z.Warmed39 U.vm ∧ U.heap = h0) (fun _ _ _ _ _ => True) (fun _ U o U' => ∃ v L, o = .returned v ∧ Q1 Z p1 p2 h0 v U'.heap L ∧ FrameEnd U o U' L ({ frames := 0, cells := 0, slots := 0, locals := 0 } : Room).cells ({ frames := 0, cells := 0, slots := 0, locals := 0 } : Room).slots) := by
  refine MetFree.of_bodySF (plainFor_of_name pn_0) hisR ?_
  intro p e s m args below meth c s₁ Bd hml0 hP hK
  obtain ⟨rfl, hZ, hh⟩ := hP
  have hx := Bd.exec
  have hby := Bd.bytes
  have hml : c.maxLocals = 2 := hml0
  have hown : s.vm.findClass "com/example/nullwise/nullwise/Truth" = some m.cls := findClass_of_methodNamed Bd.named
  have hnm := (name_of_methodNamed Bd.named Bd.method).1
  have X0 : Stand p l e ({ frames := 0, cells := 0, slots := 0, locals := 0 } : Room) s m #[(.int p1), (.int p2)] below meth c s₁ [] 0 0 := Stand.of_body Bd
  have e0 : s₁.heap = h0 := by rw [← hh, Bd.state]; rfl
  have pre0 : ∀ t, Steps p.tables e below (s₁.setTop (mkF m 0 #[.val (.int p1), .val (.int p2)] [])) t → Steps p.tables e below (s₁.setTop (entryFrame m #[(.int p1), (.int p2)] 2)) t := fun t k => castTop (ef_1 m p1 p2) k
  have pre2 : ∀ t, Steps p.tables e below (s₁.setTop (mkF m 2 #[vI p1, vI p2] [iI 1, iI p1])) t → Steps p.tables e below (s₁.setTop (entryFrame m #[(.int p1), (.int p2)] 2)) t := by
    intro t kt
    refine pre0 t ?_
    show Steps _ _ _ (s₁.setTop (mkF m 0 #[vI p1, vI p2] [])) _
    refine XS.iloadN X0.here hx rfl (hb hby d1_0) rfl ?_
    show Steps _ _ _ (s₁.setTop (mkF m 1 #[vI p1, vI p2] [iI p1])) _
    refine XS.iconst X0.here hx rfl (hb hby d1_1) ?_
    exact kt
  by_cases hc1 : p1 = (1 : Int32)
  · obtain ⟨fs, hr, hrun, hended, hW, hsame⟩ := X0.leave (v := some (.int (1 : Int32))) (fun h => by rw [Bd.returns] at h; cases h)
    refine ⟨_, _, pre2 _ ?_, hrun, hended, _, _, rfl, ?_, ⟨_, rfl⟩, hW, hsame.mono (by decide) (by decide)⟩
    · show Steps _ _ _ (s₁.setTop (mkF m 2 #[vI p1, vI p2] [iI 1, iI p1])) _
      refine XS.icmpYes X0.here hx rfl (pc0 := 2) (pc' := 10) rfl (hb hby d1_2) rfl (teq hc1).1 (by decide) (by decide) ?_
      show Steps _ _ _ (s₁.setTop (mkF m 10 #[vI p1, vI p2] [])) _
      refine XS.iconst X0.here hx rfl (hb hby d1_10) ?_
      show Steps _ _ _ (s₁.setTop (mkF m 11 #[vI p1, vI p2] [iI 1])) _
      exact retN X0 hx (t := .byte) Bd.returns (by simp) (hb hby d1_11) hr
    · show Q1 Z p1 p2 h0 _ s₁.heap _
      rw [e0]
      exact ⟨by first | rfl | (simp only [own_xor, if_pos hc1]; done) | (simp only [own_xor, if_pos hc1]; rfl) | (simp only [own_xor, if_pos hc1, nar] ; first | rfl | (simp; done) | decide), rfl, rfl⟩
  · have pre4 : ∀ t, Steps p.tables e below (s₁.setTop (mkF m 7 #[vI p1, vI p2] [iI 1, iI p2])) t → Steps p.tables e below (s₁.setTop (entryFrame m #[(.int p1), (.int p2)] 2)) t := by
      intro t kt
      refine pre2 t ?_
      show Steps _ _ _ (s₁.setTop (mkF m 2 #[vI p1, vI p2] [iI 1, iI p1])) _
      refine XS.icmpNo X0.here hx rfl (hb hby d1_2) rfl (feq hc1).1 ?_
      show Steps _ _ _ (s₁.setTop (mkF m 5 #[vI p1, vI p2] [])) _
      refine XS.iloadN X0.here hx rfl (hb hby d1_5) rfl ?_
      show Steps _ _ _ (s₁.setTop (mkF m 6 #[vI p1, vI p2] [iI p2])) _
      refine XS.iconst X0.here hx rfl (hb hby d1_6) ?_
      exact kt
    by_cases hc3 : p2 = (1 : Int32)
    · obtain ⟨fs, hr, hrun, hended, hW, hsame⟩ := X0.leave (v := some (.int (1 : Int32))) (fun h => by rw [Bd.returns] at h; cases h)
      refine ⟨_, _, pre4 _ ?_, hrun, hended, _, _, rfl, ?_, ⟨_, rfl⟩, hW, hsame.mono (by decide) (by decide)⟩
      · show Steps _ _ _ (s₁.setTop (mkF m 7 #[vI p1, vI p2] [iI 1, iI p2])) _
        refine XS.icmpNo X0.here hx rfl (hb hby d1_7) rfl (teq hc3).2 ?_
        show Steps _ _ _ (s₁.setTop (mkF m 10 #[vI p1, vI p2] [])) _
        refine XS.iconst X0.here hx rfl (hb hby d1_10) ?_
        show Steps _ _ _ (s₁.setTop (mkF m 11 #[vI p1, vI p2] [iI 1])) _
        exact retN X0 hx (t := .byte) Bd.returns (by simp) (hb hby d1_11) hr
      · show Q1 Z p1 p2 h0 _ s₁.heap _
        rw [e0]
        exact ⟨by first | rfl | (simp only [own_xor, if_neg hc1, if_pos hc3]; done) | (simp only [own_xor, if_neg hc1, if_pos hc3]; rfl) | (simp only [own_xor, if_neg hc1, if_pos hc3, nar] ; first | rfl | (simp; done) | decide), rfl, rfl⟩
    · obtain ⟨v5, hv5⟩ : ∃ z : Int32, z = (if p1 = p2 then (0 : Int32) else (2 : Int32)) := ⟨_, rfl⟩
      obtain ⟨T6, X6, e6, st6⟩ : own_Mid X0 h0 (mkF m 14 #[vI p1, vI p2] [iI p2, iI p1]) (mkF m 22 #[vI p1, vI p2] [iI v5]) := by
        by_cases hc7 : p1 = p2
        · refine ⟨s₁, X0, e0, fun t kt => ?_⟩
          subst hv5
          simp only [if_pos hc7] at kt
          show Steps _ _ _ (s₁.setTop (mkF m 14 #[vI p1, vI p2] [iI p2, iI p1])) _
          refine XS.icmpYes X0.here hx rfl (pc0 := 14) (pc' := 21) rfl (hb hby d1_14) rfl (teq hc7).1 (by decide) (by decide) ?_
          show Steps _ _ _ (s₁.setTop (mkF m 21 #[vI p1, vI p2] [])) _
          refine XS.iconst X0.here hx rfl (hb hby d1_21) ?_
          exact kt
        · refine ⟨s₁, X0, e0, fun t kt => ?_⟩
          subst hv5
          simp only [if_neg hc7] at kt
          show Steps _ _ _ (s₁.setTop (mkF m 14 #[vI p1, vI p2] [iI p2, iI p1])) _
          refine XS.icmpNo X0.here hx rfl (hb hby d1_14) rfl (feq hc7).1 ?_
          show Steps _ _ _ (s₁.setTop (mkF m 17 #[vI p1, vI p2] [])) _
          refine XS.iconst X0.here hx rfl (hb hby d1_17) ?_
          show Steps _ _ _ (s₁.setTop (mkF m 18 #[vI p1, vI p2] [iI 2])) _
          refine XS.goto X0.here hx rfl (pc0 := 18) (pc' := 22) rfl (hb hby d1_18) (by decide) (by decide) ?_
          exact kt
      obtain ⟨fs, hr, hrun, hended, hW, hsame⟩ := X6.leave (v := some (.int (nar .byte v5))) (fun h => by rw [Bd.returns] at h; cases h)
      refine ⟨_, _, pre4 _ ?_, hrun, hended, _, _, rfl, ?_, ⟨_, rfl⟩, hW, hsame.mono (by decide) (by decide)⟩
      · show Steps _ _ _ (s₁.setTop (mkF m 7 #[vI p1, vI p2] [iI 1, iI p2])) _
        refine XS.icmpYes X0.here hx rfl (pc0 := 7) (pc' := 12) rfl (hb hby d1_7) rfl (feq hc3).2 (by decide) (by decide) ?_
        show Steps _ _ _ (s₁.setTop (mkF m 12 #[vI p1, vI p2] [])) _
        refine XS.iloadN X0.here hx rfl (hb hby d1_12) rfl ?_
        show Steps _ _ _ (s₁.setTop (mkF m 13 #[vI p1, vI p2] [iI p1])) _
        refine XS.iloadN X0.here hx rfl (hb hby d1_13) rfl ?_
        show Steps _ _ _ (s₁.setTop (mkF m 14 #[vI p1, vI p2] [iI p2, iI p1])) _
        refine st6 _ ?_
        show Steps _ _ _ (T6.setTop (mkF m 22 #[vI p1, vI p2] [iI v5])) _
        exact retN X6 hx (t := .byte) Bd.returns (by simp) (hb hby d1_22) hr
      · show Q1 Z p1 p2 h0 _ T6.heap _
        rw [e6]
        exact ⟨by subst hv5; first | rfl | (simp only [own_xor, if_neg hc1, if_neg hc3]; done) | (simp only [own_xor, if_neg hc1, if_neg hc3]; rfl) | (simp only [own_xor, if_neg hc1, if_neg hc3, nar] ; first | rfl | (simp; done) | decide), rfl, rfl⟩
theorem own_rem (x y : Int32) (d : Int) (hy : y.toInt = d) (hd : 0 < d) : 0 ≤ ((x &&& 2147483647) % y).toInt ∧ ((x &&& 2147483647) % y).toInt < d := by
  have h0 : 0 ≤ (x &&& 2147483647).toInt := (c_and x 2147483647 (by decide)).1
  rw [(c_irem (x &&& 2147483647) y d hy).1 h0]
  exact ⟨Int.emod_nonneg _ (by omega), Int.emod_lt_of_pos _ hd⟩
theorem own_small3 (v : Int32) (h0 : 0 ≤ v.toInt) (h1 : v.toInt < 3) : v = 0 ∨ v = 1 ∨ v = 2 := by
  have h : v.toInt = 0 ∨ v.toInt = 1 ∨ v.toInt = 2 := by omega
  rcases h with h | h | h
  · exact Or.inl (Int32.toInt_inj.mp (h.trans (by decide)))
  · exact Or.inr (Or.inl (Int32.toInt_inj.mp (h.trans (by decide))))
  · exact Or.inr (Or.inr ((Int32.toInt_inj.mp (h.trans (by decide)))))
def own_tab (a b : Int32) : Int32 := if a = 1 then 1 else if b = 1 then 1 else if a = b then 0 else 2

theorem pn_1 : plainName "com/example/nullwise/nullwise/TruthXorPinLaw" = true := by first | (simp [plainName, overriddenIn]; done) | decide +kernel
theorem ef_0 (m : MethodId) (x0 : Int32) (x1 : Int32) : entryFrame m #[(.int x0), (.int x1)] maxLocals = mkF m 0 #[.val (.int x0), .val (.int x1), .unset, .unset, .unset, .unset, .unset] [] := by first | (simp [entryFrame, mkF, argsToLocals, Value.category, maxLocals]; done) | rfl
def Q0 (Z : State) (p1 : Int32) (p2 : Int32) (h0 : Heap) (n0 : Nat) (v : Option Value) (h : Heap) (L : List Loc) : Prop := v = some (.int (1 : Int32)) ∧ Fr n0 L
set_option maxRecDepth 65536 in
set_option maxHeartbeats 40000000 in
theorem rm0 (l : Launch) (Z : State) (a0 : Array Value) (hw : ∀ d ∈ tables_1, d.before a0 Z = true) (ws : List Jvm.Cond) (p1 : Int32) (p2 : Int32) (h0 : Heap) (n0 : Nat) (Z0 : n0 ≤ h0.size) :
    MetFree l x (head1 (Jvm.Cond.code x code maxLocals ret :: ws) room_1) (fun a U => a = #[(.int p1), (.int p2)] ∧ Z.Warmed39 U.vm ∧ U.heap = h0) (fun _ _ _ _ _ => True) (fun _ U o U' => ∃ v L, o = .returned v ∧ Q0 Z p1 p2 h0 n0 v U'.heap L ∧ FrameEnd U o U' L room_1.cells room_1.slots) := by
  refine MetFree.of_bodySF (plainFor_of_name pn_1) hisR ?_
  intro p e s m args below meth c s₁ Bd hml0 hP hK
  obtain ⟨rfl, hZ, hh⟩ := hP
  have hx := Bd.exec
  have hby := Bd.bytes
  have hml : c.maxLocals = 7 := hml0
  have hown : s.vm.findClass "com/example/nullwise/nullwise/TruthXorPinLaw" = some m.cls := findClass_of_methodNamed Bd.named
  have hnm := (name_of_methodNamed Bd.named Bd.method).1
  have X0 : Stand p l e room_1 s m #[(.int p1), (.int p2)] below meth c s₁ [] 0 0 := Stand.of_body Bd
  have e0 : s₁.heap = h0 := by rw [← hh, Bd.state]; rfl
  have N0 := Fr.nil n0
  have K0 := Keep.refl h0 []
  have pre0 : ∀ t, Steps p.tables e below (s₁.setTop (mkF m 0 #[.val (.int p1), .val (.int p2), .unset, .unset, .unset, .unset, .unset] [])) t → Steps p.tables e below (s₁.setTop (entryFrame m #[(.int p1), (.int p2)] maxLocals)) t := fun t k => castTop (ef_0 m p1 p2) k
  obtain ⟨lv, hlv⟩ : ∃ z : Int32, z = ((p1 &&& (2147483647 : Int32)) % (3 : Int32)) := ⟨_, rfl⟩
  have qlv : lv = 0 ∨ lv = 1 ∨ lv = 2 := by rw [hlv]; exact own_small3 _ (own_rem p1 3 3 rfl (by decide)).1 (own_rem p1 3 3 rfl (by decide)).2
  obtain ⟨rv, hrv⟩ : ∃ z : Int32, z = ((p2 &&& (2147483647 : Int32)) % (3 : Int32)) := ⟨_, rfl⟩
  have qrv : rv = 0 ∨ rv = 1 ∨ rv = 2 := by rw [hrv]; exact own_small3 _ (own_rem p2 3 3 rfl (by decide)).1 (own_rem p2 3 3 rfl (by decide)).2
  obtain ⟨T3, h3, k3, X3, e3, E3, A3, st3⟩ := newP X0 hx hZ (hw _ (List.mem_of_getElem? (i := 1) rfl)) e0 (g := (mkF m 16 #[vI p1, vI p2, vI lv, vI rv, .unset, .unset, .unset] [iI 9])) rfl (hb hby at_16) rfl (by decide) (cap := 9) (by decide) (by decide) (by decide) (by decide)
  obtain ⟨b3, g3⟩ : ∃ z, z = h0.size := ⟨_, rfl⟩
  rw [← g3] at A3 st3
  have sz_b3 : h0.size ≤ b3 := Nat.le_trans K0.1 (Nat.le_of_eq g3.symm)
  have g_b3 : n0 ≤ b3 := Nat.le_trans Z0 sz_b3
  have K3 : Keep h0 h3 [] := K0.ext E3
  have V3 : Arv Z h3 b3 k3 .int (9 : Int32) [(.int (0 : Int32)), (.int (0 : Int32)), (.int (0 : Int32)), (.int (0 : Int32)), (.int (0 : Int32)), (.int (0 : Int32)), (.int (0 : Int32)), (.int (0 : Int32)), (.int (0 : Int32))] (.int (0 : Int32)) := (Arv.new A3 (by decide)).pad (pad_rep [] (.int (0 : Int32)) 9)
  obtain ⟨cl4, Ar4, q4, S4, M4, H4, G4⟩ := V3
  have hin5 : ¬ ((0 : Int32) < 0 ∨ cl4.slots.size ≤ ((0 : Int32)).toNatClampNeg) := inb_of S4 ⟨by decide, by decide⟩
  obtain ⟨T6, h6, X6, e6, W6, st6⟩ := stI X3 hx hZ e3 Ar4 (j := (0 : Int32)) hin5 (g := (mkF m 21 #[vI p1, vI p2, vI lv, vI rv, .unset, .unset, .unset] [iI 0, iI 0, iR b3, iR b3])) rfl rfl (hb hby at_21)
  have V6 : Arv Z h6 b3 k3 .int (9 : Int32) [(.int (0 : Int32)), (.int (0 : Int32)), (.int (0 : Int32)), (.int (0 : Int32)), (.int (0 : Int32)), (.int (0 : Int32)), (.int (0 : Int32)), (.int (0 : Int32)), (.int (0 : Int32))] (.int (0 : Int32)) := Arv.set Ar4 q4 S4 M4 H4 G4 rfl W6 0 rfl (Nat.le_of_ble_eq_true rfl)
  have K6 : Keep h0 h6 [] := K3.wr W6 (Or.inr sz_b3)
  have N6 := Fr.snoc X6 N0 g_b3
  obtain ⟨cl7, Ar7, q7, S7, M7, H7, G7⟩ := V6
  have hin8 : ¬ ((1 : Int32) < 0 ∨ cl7.slots.size ≤ ((1 : Int32)).toNatClampNeg) := inb_of S7 ⟨by decide, by decide⟩
  obtain ⟨T9, h9, X9, e9, W9, st9⟩ := stI X6 hx hZ e6 Ar7 (j := (1 : Int32)) hin8 (g := (mkF m 25 #[vI p1, vI p2, vI lv, vI rv, .unset, .unset, .unset] [iI 1, iI 1, iR b3, iR b3])) rfl rfl (hb hby at_25)
  have V9 : Arv Z h9 b3 k3 .int (9 : Int32) [(.int (0 : Int32)), (.int (1 : Int32)), (.int (0 : Int32)), (.int (0 : Int32)), (.int (0 : Int32)), (.int (0 : Int32)), (.int (0 : Int32)), (.int (0 : Int32)), (.int (0 : Int32))] (.int (0 : Int32)) := Arv.set Ar7 q7 S7 M7 H7 G7 rfl W9 1 rfl (Nat.le_of_ble_eq_true rfl)
  have K9 : Keep h0 h9 [] := K6.wr W9 (Or.inr sz_b3)
  have N9 := Fr.snoc X9 N6 g_b3
  obtain ⟨cl10, Ar10, q10, S10, M10, H10, G10⟩ := V9
  have hin11 : ¬ ((2 : Int32) < 0 ∨ cl10.slots.size ≤ ((2 : Int32)).toNatClampNeg) := inb_of S10 ⟨by decide, by decide⟩
  obtain ⟨T12, h12, X12, e12, W12, st12⟩ := stI X9 hx hZ e9 Ar10 (j := (2 : Int32)) hin11 (g := (mkF m 29 #[vI p1, vI p2, vI lv, vI rv, .unset, .unset, .unset] [iI 2, iI 2, iR b3, iR b3])) rfl rfl (hb hby at_29)
  have V12 : Arv Z h12 b3 k3 .int (9 : Int32) [(.int (0 : Int32)), (.int (1 : Int32)), (.int (2 : Int32)), (.int (0 : Int32)), (.int (0 : Int32)), (.int (0 : Int32)), (.int (0 : Int32)), (.int (0 : Int32)), (.int (0 : Int32))] (.int (0 : Int32)) := Arv.set Ar10 q10 S10 M10 H10 G10 rfl W12 2 rfl (Nat.le_of_ble_eq_true rfl)
  have K12 : Keep h0 h12 [] := K9.wr W12 (Or.inr sz_b3)
  have N12 := Fr.snoc X12 N9 g_b3
  obtain ⟨cl13, Ar13, q13, S13, M13, H13, G13⟩ := V12
  have hin14 : ¬ ((3 : Int32) < 0 ∨ cl13.slots.size ≤ ((3 : Int32)).toNatClampNeg) := inb_of S13 ⟨by decide, by decide⟩
  obtain ⟨T15, h15, X15, e15, W15, st15⟩ := stI X12 hx hZ e12 Ar13 (j := (3 : Int32)) hin14 (g := (mkF m 33 #[vI p1, vI p2, vI lv, vI rv, .unset, .unset, .unset] [iI 1, iI 3, iR b3, iR b3])) rfl rfl (hb hby at_33)
  have V15 : Arv Z h15 b3 k3 .int (9 : Int32) [(.int (0 : Int32)), (.int (1 : Int32)), (.int (2 : Int32)), (.int (1 : Int32)), (.int (0 : Int32)), (.int (0 : Int32)), (.int (0 : Int32)), (.int (0 : Int32)), (.int (0 : Int32))] (.int (0 : Int32)) := Arv.set Ar13 q13 S13 M13 H13 G13 rfl W15 3 rfl (Nat.le_of_ble_eq_true rfl)
  have K15 : Keep h0 h15 [] := K12.wr W15 (Or.inr sz_b3)
  have N15 := Fr.snoc X15 N12 g_b3
  obtain ⟨cl16, Ar16, q16, S16, M16, H16, G16⟩ := V15
  have hin17 : ¬ ((4 : Int32) < 0 ∨ cl16.slots.size ≤ ((4 : Int32)).toNatClampNeg) := inb_of S16 ⟨by decide, by decide⟩
  obtain ⟨T18, h18, X18, e18, W18, st18⟩ := stI X15 hx hZ e15 Ar16 (j := (4 : Int32)) hin17 (g := (mkF m 37 #[vI p1, vI p2, vI lv, vI rv, .unset, .unset, .unset] [iI 1, iI 4, iR b3, iR b3])) rfl rfl (hb hby at_37)
  have V18 : Arv Z h18 b3 k3 .int (9 : Int32) [(.int (0 : Int32)), (.int (1 : Int32)), (.int (2 : Int32)), (.int (1 : Int32)), (.int (1 : Int32)), (.int (0 : Int32)), (.int (0 : Int32)), (.int (0 : Int32)), (.int (0 : Int32))] (.int (0 : Int32)) := Arv.set Ar16 q16 S16 M16 H16 G16 rfl W18 4 rfl (Nat.le_of_ble_eq_true rfl)
  have K18 : Keep h0 h18 [] := K15.wr W18 (Or.inr sz_b3)
  have N18 := Fr.snoc X18 N15 g_b3
  obtain ⟨cl19, Ar19, q19, S19, M19, H19, G19⟩ := V18
  have hin20 : ¬ ((5 : Int32) < 0 ∨ cl19.slots.size ≤ ((5 : Int32)).toNatClampNeg) := inb_of S19 ⟨by decide, by decide⟩
  obtain ⟨T21, h21, X21, e21, W21, st21⟩ := stI X18 hx hZ e18 Ar19 (j := (5 : Int32)) hin20 (g := (mkF m 41 #[vI p1, vI p2, vI lv, vI rv, .unset, .unset, .unset] [iI 1, iI 5, iR b3, iR b3])) rfl rfl (hb hby at_41)
  have V21 : Arv Z h21 b3 k3 .int (9 : Int32) [(.int (0 : Int32)), (.int (1 : Int32)), (.int (2 : Int32)), (.int (1 : Int32)), (.int (1 : Int32)), (.int (1 : Int32)), (.int (0 : Int32)), (.int (0 : Int32)), (.int (0 : Int32))] (.int (0 : Int32)) := Arv.set Ar19 q19 S19 M19 H19 G19 rfl W21 5 rfl (Nat.le_of_ble_eq_true rfl)
  have K21 : Keep h0 h21 [] := K18.wr W21 (Or.inr sz_b3)
  have N21 := Fr.snoc X21 N18 g_b3
  obtain ⟨cl22, Ar22, q22, S22, M22, H22, G22⟩ := V21
  have hin23 : ¬ ((6 : Int32) < 0 ∨ cl22.slots.size ≤ ((6 : Int32)).toNatClampNeg) := inb_of S22 ⟨by decide, by decide⟩
  obtain ⟨T24, h24, X24, e24, W24, st24⟩ := stI X21 hx hZ e21 Ar22 (j := (6 : Int32)) hin23 (g := (mkF m 46 #[vI p1, vI p2, vI lv, vI rv, .unset, .unset, .unset] [iI 2, iI 6, iR b3, iR b3])) rfl rfl (hb hby at_46)
  have V24 : Arv Z h24 b3 k3 .int (9 : Int32) [(.int (0 : Int32)), (.int (1 : Int32)), (.int (2 : Int32)), (.int (1 : Int32)), (.int (1 : Int32)), (.int (1 : Int32)), (.int (2 : Int32)), (.int (0 : Int32)), (.int (0 : Int32))] (.int (0 : Int32)) := Arv.set Ar22 q22 S22 M22 H22 G22 rfl W24 6 rfl (Nat.le_of_ble_eq_true rfl)
  have K24 : Keep h0 h24 [] := K21.wr W24 (Or.inr sz_b3)
  have N24 := Fr.snoc X24 N21 g_b3
  obtain ⟨cl25, Ar25, q25, S25, M25, H25, G25⟩ := V24
  have hin26 : ¬ ((7 : Int32) < 0 ∨ cl25.slots.size ≤ ((7 : Int32)).toNatClampNeg) := inb_of S25 ⟨by decide, by decide⟩
  obtain ⟨T27, h27, X27, e27, W27, st27⟩ := stI X24 hx hZ e24 Ar25 (j := (7 : Int32)) hin26 (g := (mkF m 51 #[vI p1, vI p2, vI lv, vI rv, .unset, .unset, .unset] [iI 1, iI 7, iR b3, iR b3])) rfl rfl (hb hby at_51)
  have V27 : Arv Z h27 b3 k3 .int (9 : Int32) [(.int (0 : Int32)), (.int (1 : Int32)), (.int (2 : Int32)), (.int (1 : Int32)), (.int (1 : Int32)), (.int (1 : Int32)), (.int (2 : Int32)), (.int (1 : Int32)), (.int (0 : Int32))] (.int (0 : Int32)) := Arv.set Ar25 q25 S25 M25 H25 G25 rfl W27 7 rfl (Nat.le_of_ble_eq_true rfl)
  have K27 : Keep h0 h27 [] := K24.wr W27 (Or.inr sz_b3)
  have N27 := Fr.snoc X27 N24 g_b3
  obtain ⟨cl28, Ar28, q28, S28, M28, H28, G28⟩ := V27
  have hin29 : ¬ ((8 : Int32) < 0 ∨ cl28.slots.size ≤ ((8 : Int32)).toNatClampNeg) := inb_of S28 ⟨by decide, by decide⟩
  obtain ⟨T30, h30, X30, e30, W30, st30⟩ := stI X27 hx hZ e27 Ar28 (j := (8 : Int32)) hin29 (g := (mkF m 56 #[vI p1, vI p2, vI lv, vI rv, .unset, .unset, .unset] [iI 0, iI 8, iR b3, iR b3])) rfl rfl (hb hby at_56)
  have V30 : Arv Z h30 b3 k3 .int (9 : Int32) [(.int (0 : Int32)), (.int (1 : Int32)), (.int (2 : Int32)), (.int (1 : Int32)), (.int (1 : Int32)), (.int (1 : Int32)), (.int (2 : Int32)), (.int (1 : Int32)), (.int (0 : Int32))] (.int (0 : Int32)) := Arv.set Ar28 q28 S28 M28 H28 G28 rfl W30 8 rfl (Nat.le_of_ble_eq_true rfl)
  have K30 : Keep h0 h30 [] := K27.wr W30 (Or.inr sz_b3)
  have N30 := Fr.snoc X30 N27 g_b3
  obtain ⟨cl31, Ar31, q31, S31, M31, H31, G31⟩ := V30
  have hin32 : ¬ (((lv * (3 : Int32)) + rv) < 0 ∨ cl31.slots.size ≤ (((lv * (3 : Int32)) + rv)).toNatClampNeg) := inb_of S31 (by rcases qlv with rfl | rfl | rfl <;> rcases qrv with rfl | rfl | rfl <;> decide)
  have hat33 : cl31.slots[(((lv * (3 : Int32)) + rv)).toNatClampNeg]? = some (.int (own_tab lv rv)) := Has.at H31 hin32 (by rcases qlv with rfl | rfl | rfl <;> rcases qrv with rfl | rfl | rfl <;> rfl)
  obtain ⟨_, _, ⟨T34, L34, k34, n34⟩, -, X34, ⟨Lc34, hQ34, l34, y34, z34⟩, st34⟩ := Jvm.LawKit.callS X30 hx (y := (⟨"com/example/nullwise/nullwise/Truth", "xor", "(BB)B"⟩ : MethodName)) hown (mvT hZ (hw _ (List.mem_of_getElem? (i := 2) rfl))) (mvT hZ (hw _ (List.mem_of_getElem? (i := 3) rfl))) (mvT hZ (hw _ (List.mem_of_getElem? (i := 4) rfl))) (mvT hZ (hw _ (List.mem_of_getElem? (i := 5) rfl))) (by decide) (backOf (W := 0) (rm1 l Z a0 hw [] lv.toInt8.toInt32 rv.toInt8.toInt32 h30 ) hZ (hw _ (List.mem_of_getElem? (i := 5) rfl)) (hw _ (List.mem_of_getElem? (i := 4) rfl)) (by decide) (by decide)) (g := (mkF m 73 #[vI p1, vI p2, vI lv, vI rv, vR b3, vI (own_tab lv rv), .unset] [iI rv.toInt8.toInt32, iI lv.toInt8.toInt32])) rfl (by rw [hml]; rfl) (argsL := [(.int lv.toInt8.toInt32), (.int rv.toInt8.toInt32)]) (rest := []) (lenOf pd_0 rfl) rfl (by show 2 * 0 + _ ≤ _; exact Nat.le_of_eq rfl) (hb hby at_73) (fun _ _ => ⟨rfl, e30, (by decide : 1 + 0 ≤ _), (by decide : 9 + 0 ≤ _)⟩)
  dsimp only [Pt.U, Pt.locs, Pt.cells, Pt.slots] at X34 l34 y34 z34 st34 hQ34
  subst l34 y34 z34
  obtain ⟨rfl, rfl, e34⟩ := hQ34
  try rw [List.append_nil] at X34
  have hh35 : (own_xor lv.toInt8.toInt32 rv.toInt8.toInt32) = (own_tab lv rv) := (by rcases qlv with rfl | rfl | rfl <;> rcases qrv with rfl | rfl | rfl <;> decide)
  obtain ⟨fs, hr, hrun, hended, hW, hsame⟩ := X34.leave (v := some (.int (1 : Int32))) (fun h => by rw [Bd.returns] at h; cases h)
  refine ⟨_, _, pre0 _ ?_, hrun, hended, _, _, rfl, ?_, ⟨_, rfl⟩, hW, hsame.mono (by decide) (by decide)⟩
  · show Steps _ _ _ (s₁.setTop (mkF m 0 #[vI p1, vI p2, .unset, .unset, .unset, .unset, .unset] [])) _
    refine XS.iloadN X0.here hx rfl (hb hby at_0) rfl ?_
    show Steps _ _ _ (s₁.setTop (mkF m 1 #[vI p1, vI p2, .unset, .unset, .unset, .unset, .unset] [iI p1])) _
    refine X0.ldcInt hx hown (mvT hZ (hw _ (List.mem_of_getElem? (i := 0) rfl))) (g := (mkF m 1 #[vI p1, vI p2, .unset, .unset, .unset, .unset, .unset] [iI p1])) rfl (hb hby at_1) _ ?_
    show Steps _ _ _ (s₁.setTop (mkF m 3 #[vI p1, vI p2, .unset, .unset, .unset, .unset, .unset] [iI 2147483647, iI p1])) _
    refine XS.iand X0.here hx rfl (hb hby at_3) rfl ?_
    show Steps _ _ _ (s₁.setTop (mkF m 4 #[vI p1, vI p2, .unset, .unset, .unset, .unset, .unset] [iI (p1 &&& (2147483647 : Int32))])) _
    refine XS.iconst X0.here hx rfl (hb hby at_4) ?_
    show Steps _ _ _ (s₁.setTop (mkF m 5 #[vI p1, vI p2, .unset, .unset, .unset, .unset, .unset] [iI 3, iI (p1 &&& (2147483647 : Int32))])) _
    refine iremM X0 hx rfl (hb hby at_5) rfl (by decide) ?_
    show Steps _ _ _ (s₁.setTop (mkF m 6 #[vI p1, vI p2, .unset, .unset, .unset, .unset, .unset] [iI ((p1 &&& (2147483647 : Int32)) % (3 : Int32))])) _
    refine XS.istoreN X0.here hx rfl (hb hby at_6) rfl (l' := #[vI p1, vI p2, vI ((p1 &&& (2147483647 : Int32)) % (3 : Int32)), .unset, .unset, .unset, .unset]) rfl ?_
    rw [← hlv]
    show Steps _ _ _ (s₁.setTop (mkF m 7 #[vI p1, vI p2, vI lv, .unset, .unset, .unset, .unset] [])) _
    refine XS.iloadN X0.here hx rfl (hb hby at_7) rfl ?_
    show Steps _ _ _ (s₁.setTop (mkF m 8 #[vI p1, vI p2, vI lv, .unset, .unset, .unset, .unset] [iI p2])) _
    refine X0.ldcInt hx hown (mvT hZ (hw _ (List.mem_of_getElem? (i := 0) rfl))) (g := (mkF m 8 #[vI p1, vI p2, vI lv, .unset, .unset, .unset, .unset] [iI p2])) rfl (hb hby at_8) _ ?_
    show Steps _ _ _ (s₁.setTop (mkF m 10 #[vI p1, vI p2, vI lv, .unset, .unset, .unset, .unset] [iI 2147483647, iI p2])) _
    refine XS.iand X0.here hx rfl (hb hby at_10) rfl ?_
    show Steps _ _ _ (s₁.setTop (mkF m 11 #[vI p1, vI p2, vI lv, .unset, .unset, .unset, .unset] [iI (p2 &&& (2147483647 : Int32))])) _
    refine XS.iconst X0.here hx rfl (hb hby at_11) ?_
    show Steps _ _ _ (s₁.setTop (mkF m 12 #[vI p1, vI p2, vI lv, .unset, .unset, .unset, .unset] [iI 3, iI (p2 &&& (2147483647 : Int32))])) _
    refine iremM X0 hx rfl (hb hby at_12) rfl (by decide) ?_
    show Steps _ _ _ (s₁.setTop (mkF m 13 #[vI p1, vI p2, vI lv, .unset, .unset, .unset, .unset] [iI ((p2 &&& (2147483647 : Int32)) % (3 : Int32))])) _
    refine XS.istoreN X0.here hx rfl (hb hby at_13) rfl (l' := #[vI p1, vI p2, vI lv, vI ((p2 &&& (2147483647 : Int32)) % (3 : Int32)), .unset, .unset, .unset]) rfl ?_
    rw [← hrv]
    show Steps _ _ _ (s₁.setTop (mkF m 14 #[vI p1, vI p2, vI lv, vI rv, .unset, .unset, .unset] [])) _
    refine XS.bipush X0.here hx rfl (hb hby at_14) ?_
    show Steps _ _ _ (s₁.setTop (mkF m 16 #[vI p1, vI p2, vI lv, vI rv, .unset, .unset, .unset] [iI 9])) _
    refine st3 _ ?_
    show Steps _ _ _ (T3.setTop (mkF m 18 #[vI p1, vI p2, vI lv, vI rv, .unset, .unset, .unset] [iR b3])) _
    refine XS.dup X3.here hx rfl (hb hby at_18) rfl rfl ?_
    show Steps _ _ _ (T3.setTop (mkF m 19 #[vI p1, vI p2, vI lv, vI rv, .unset, .unset, .unset] [iR b3, iR b3])) _
    refine XS.iconst X3.here hx rfl (hb hby at_19) ?_
    show Steps _ _ _ (T3.setTop (mkF m 20 #[vI p1, vI p2, vI lv, vI rv, .unset, .unset, .unset] [iI 0, iR b3, iR b3])) _
    refine XS.iconst X3.here hx rfl (hb hby at_20) ?_
    show Steps _ _ _ (T3.setTop (mkF m 21 #[vI p1, vI p2, vI lv, vI rv, .unset, .unset, .unset] [iI 0, iI 0, iR b3, iR b3])) _
    refine st6 _ ?_
    show Steps _ _ _ (T6.setTop (mkF m 22 #[vI p1, vI p2, vI lv, vI rv, .unset, .unset, .unset] [iR b3])) _
    refine XS.dup X6.here hx rfl (hb hby at_22) rfl rfl ?_
    show Steps _ _ _ (T6.setTop (mkF m 23 #[vI p1, vI p2, vI lv, vI rv, .unset, .unset, .unset] [iR b3, iR b3])) _
    refine XS.iconst X6.here hx rfl (hb hby at_23) ?_
    show Steps _ _ _ (T6.setTop (mkF m 24 #[vI p1, vI p2, vI lv, vI rv, .unset, .unset, .unset] [iI 1, iR b3, iR b3])) _
    refine XS.iconst X6.here hx rfl (hb hby at_24) ?_
    show Steps _ _ _ (T6.setTop (mkF m 25 #[vI p1, vI p2, vI lv, vI rv, .unset, .unset, .unset] [iI 1, iI 1, iR b3, iR b3])) _
    refine st9 _ ?_
    show Steps _ _ _ (T9.setTop (mkF m 26 #[vI p1, vI p2, vI lv, vI rv, .unset, .unset, .unset] [iR b3])) _
    refine XS.dup X9.here hx rfl (hb hby at_26) rfl rfl ?_
    show Steps _ _ _ (T9.setTop (mkF m 27 #[vI p1, vI p2, vI lv, vI rv, .unset, .unset, .unset] [iR b3, iR b3])) _
    refine XS.iconst X9.here hx rfl (hb hby at_27) ?_
    show Steps _ _ _ (T9.setTop (mkF m 28 #[vI p1, vI p2, vI lv, vI rv, .unset, .unset, .unset] [iI 2, iR b3, iR b3])) _
    refine XS.iconst X9.here hx rfl (hb hby at_28) ?_
    show Steps _ _ _ (T9.setTop (mkF m 29 #[vI p1, vI p2, vI lv, vI rv, .unset, .unset, .unset] [iI 2, iI 2, iR b3, iR b3])) _
    refine st12 _ ?_
    show Steps _ _ _ (T12.setTop (mkF m 30 #[vI p1, vI p2, vI lv, vI rv, .unset, .unset, .unset] [iR b3])) _
    refine XS.dup X12.here hx rfl (hb hby at_30) rfl rfl ?_
    show Steps _ _ _ (T12.setTop (mkF m 31 #[vI p1, vI p2, vI lv, vI rv, .unset, .unset, .unset] [iR b3, iR b3])) _
    refine XS.iconst X12.here hx rfl (hb hby at_31) ?_
    show Steps _ _ _ (T12.setTop (mkF m 32 #[vI p1, vI p2, vI lv, vI rv, .unset, .unset, .unset] [iI 3, iR b3, iR b3])) _
    refine XS.iconst X12.here hx rfl (hb hby at_32) ?_
    show Steps _ _ _ (T12.setTop (mkF m 33 #[vI p1, vI p2, vI lv, vI rv, .unset, .unset, .unset] [iI 1, iI 3, iR b3, iR b3])) _
    refine st15 _ ?_
    show Steps _ _ _ (T15.setTop (mkF m 34 #[vI p1, vI p2, vI lv, vI rv, .unset, .unset, .unset] [iR b3])) _
    refine XS.dup X15.here hx rfl (hb hby at_34) rfl rfl ?_
    show Steps _ _ _ (T15.setTop (mkF m 35 #[vI p1, vI p2, vI lv, vI rv, .unset, .unset, .unset] [iR b3, iR b3])) _
    refine XS.iconst X15.here hx rfl (hb hby at_35) ?_
    show Steps _ _ _ (T15.setTop (mkF m 36 #[vI p1, vI p2, vI lv, vI rv, .unset, .unset, .unset] [iI 4, iR b3, iR b3])) _
    refine XS.iconst X15.here hx rfl (hb hby at_36) ?_
    show Steps _ _ _ (T15.setTop (mkF m 37 #[vI p1, vI p2, vI lv, vI rv, .unset, .unset, .unset] [iI 1, iI 4, iR b3, iR b3])) _
    refine st18 _ ?_
    show Steps _ _ _ (T18.setTop (mkF m 38 #[vI p1, vI p2, vI lv, vI rv, .unset, .unset, .unset] [iR b3])) _
    refine XS.dup X18.here hx rfl (hb hby at_38) rfl rfl ?_
    show Steps _ _ _ (T18.setTop (mkF m 39 #[vI p1, vI p2, vI lv, vI rv, .unset, .unset, .unset] [iR b3, iR b3])) _
    refine XS.iconst X18.here hx rfl (hb hby at_39) ?_
    show Steps _ _ _ (T18.setTop (mkF m 40 #[vI p1, vI p2, vI lv, vI rv, .unset, .unset, .unset] [iI 5, iR b3, iR b3])) _
    refine XS.iconst X18.here hx rfl (hb hby at_40) ?_
    show Steps _ _ _ (T18.setTop (mkF m 41 #[vI p1, vI p2, vI lv, vI rv, .unset, .unset, .unset] [iI 1, iI 5, iR b3, iR b3])) _
    refine st21 _ ?_
    show Steps _ _ _ (T21.setTop (mkF m 42 #[vI p1, vI p2, vI lv, vI rv, .unset, .unset, .unset] [iR b3])) _
    refine XS.dup X21.here hx rfl (hb hby at_42) rfl rfl ?_
    show Steps _ _ _ (T21.setTop (mkF m 43 #[vI p1, vI p2, vI lv, vI rv, .unset, .unset, .unset] [iR b3, iR b3])) _
    refine XS.bipush X21.here hx rfl (hb hby at_43) ?_
    show Steps _ _ _ (T21.setTop (mkF m 45 #[vI p1, vI p2, vI lv, vI rv, .unset, .unset, .unset] [iI 6, iR b3, iR b3])) _
    refine XS.iconst X21.here hx rfl (hb hby at_45) ?_
    show Steps _ _ _ (T21.setTop (mkF m 46 #[vI p1, vI p2, vI lv, vI rv, .unset, .unset, .unset] [iI 2, iI 6, iR b3, iR b3])) _
    refine st24 _ ?_
    show Steps _ _ _ (T24.setTop (mkF m 47 #[vI p1, vI p2, vI lv, vI rv, .unset, .unset, .unset] [iR b3])) _
    refine XS.dup X24.here hx rfl (hb hby at_47) rfl rfl ?_
    show Steps _ _ _ (T24.setTop (mkF m 48 #[vI p1, vI p2, vI lv, vI rv, .unset, .unset, .unset] [iR b3, iR b3])) _
    refine XS.bipush X24.here hx rfl (hb hby at_48) ?_
    show Steps _ _ _ (T24.setTop (mkF m 50 #[vI p1, vI p2, vI lv, vI rv, .unset, .unset, .unset] [iI 7, iR b3, iR b3])) _
    refine XS.iconst X24.here hx rfl (hb hby at_50) ?_
    show Steps _ _ _ (T24.setTop (mkF m 51 #[vI p1, vI p2, vI lv, vI rv, .unset, .unset, .unset] [iI 1, iI 7, iR b3, iR b3])) _
    refine st27 _ ?_
    show Steps _ _ _ (T27.setTop (mkF m 52 #[vI p1, vI p2, vI lv, vI rv, .unset, .unset, .unset] [iR b3])) _
    refine XS.dup X27.here hx rfl (hb hby at_52) rfl rfl ?_
    show Steps _ _ _ (T27.setTop (mkF m 53 #[vI p1, vI p2, vI lv, vI rv, .unset, .unset, .unset] [iR b3, iR b3])) _
    refine XS.bipush X27.here hx rfl (hb hby at_53) ?_
    show Steps _ _ _ (T27.setTop (mkF m 55 #[vI p1, vI p2, vI lv, vI rv, .unset, .unset, .unset] [iI 8, iR b3, iR b3])) _
    refine XS.iconst X27.here hx rfl (hb hby at_55) ?_
    show Steps _ _ _ (T27.setTop (mkF m 56 #[vI p1, vI p2, vI lv, vI rv, .unset, .unset, .unset] [iI 0, iI 8, iR b3, iR b3])) _
    refine st30 _ ?_
    show Steps _ _ _ (T30.setTop (mkF m 57 #[vI p1, vI p2, vI lv, vI rv, .unset, .unset, .unset] [iR b3])) _
    refine XS.astore X30.here hx rfl (hb hby at_57) rfl rfl (l' := #[vI p1, vI p2, vI lv, vI rv, vR b3, .unset, .unset]) rfl ?_
    show Steps _ _ _ (T30.setTop (mkF m 59 #[vI p1, vI p2, vI lv, vI rv, vR b3, .unset, .unset] [])) _
    refine XS.aload X30.here hx rfl (hb hby at_59) rfl rfl ?_
    show Steps _ _ _ (T30.setTop (mkF m 61 #[vI p1, vI p2, vI lv, vI rv, vR b3, .unset, .unset] [iR b3])) _
    refine XS.iloadN X30.here hx rfl (hb hby at_61) rfl ?_
    show Steps _ _ _ (T30.setTop (mkF m 62 #[vI p1, vI p2, vI lv, vI rv, vR b3, .unset, .unset] [iI lv, iR b3])) _
    refine XS.iconst X30.here hx rfl (hb hby at_62) ?_
    show Steps _ _ _ (T30.setTop (mkF m 63 #[vI p1, vI p2, vI lv, vI rv, vR b3, .unset, .unset] [iI 3, iI lv, iR b3])) _
    refine XS.imul X30.here hx rfl (hb hby at_63) rfl ?_
    show Steps _ _ _ (T30.setTop (mkF m 64 #[vI p1, vI p2, vI lv, vI rv, vR b3, .unset, .unset] [iI (lv * (3 : Int32)), iR b3])) _
    refine XS.iloadN X30.here hx rfl (hb hby at_64) rfl ?_
    show Steps _ _ _ (T30.setTop (mkF m 65 #[vI p1, vI p2, vI lv, vI rv, vR b3, .unset, .unset] [iI rv, iI (lv * (3 : Int32)), iR b3])) _
    refine XS.iadd X30.here hx rfl (hb hby at_65) rfl ?_
    show Steps _ _ _ (T30.setTop (mkF m 66 #[vI p1, vI p2, vI lv, vI rv, vR b3, .unset, .unset] [iI ((lv * (3 : Int32)) + rv), iR b3])) _
    refine X30.iaload hx (j := ((lv * (3 : Int32)) + rv)) (v := (.int (own_tab lv rv))) (by rw [e30]; exact Ar31.1) (State.isArrayOf_alike hZ.alike Ar31.2.1) Ar31.2.2 hin32 hat33 (g := (mkF m 66 #[vI p1, vI p2, vI lv, vI rv, vR b3, .unset, .unset] [iI ((lv * (3 : Int32)) + rv), iR b3])) rfl rfl (hb hby at_66) _ ?_
    show Steps _ _ _ (T30.setTop (mkF m 67 #[vI p1, vI p2, vI lv, vI rv, vR b3, .unset, .unset] [iI (own_tab lv rv)])) _
    refine XS.istore X30.here hx rfl (hb hby at_67) rfl (l' := #[vI p1, vI p2, vI lv, vI rv, vR b3, vI (own_tab lv rv), .unset]) rfl ?_
    show Steps _ _ _ (T30.setTop (mkF m 69 #[vI p1, vI p2, vI lv, vI rv, vR b3, vI (own_tab lv rv), .unset] [])) _
    refine XS.iloadN X30.here hx rfl (hb hby at_69) rfl ?_
    show Steps _ _ _ (T30.setTop (mkF m 70 #[vI p1, vI p2, vI lv, vI rv, vR b3, vI (own_tab lv rv), .unset] [iI lv])) _
    refine XS.i2b X30.here hx rfl (hb hby at_70) rfl ?_
    show Steps _ _ _ (T30.setTop (mkF m 71 #[vI p1, vI p2, vI lv, vI rv, vR b3, vI (own_tab lv rv), .unset] [iI lv.toInt8.toInt32])) _
    refine XS.iloadN X30.here hx rfl (hb hby at_71) rfl ?_
    show Steps _ _ _ (T30.setTop (mkF m 72 #[vI p1, vI p2, vI lv, vI rv, vR b3, vI (own_tab lv rv), .unset] [iI rv, iI lv.toInt8.toInt32])) _
    refine XS.i2b X30.here hx rfl (hb hby at_72) rfl ?_
    show Steps _ _ _ (T30.setTop (mkF m 73 #[vI p1, vI p2, vI lv, vI rv, vR b3, vI (own_tab lv rv), .unset] [iI rv.toInt8.toInt32, iI lv.toInt8.toInt32])) _
    refine st34 _ ?_
    show Steps _ _ _ (T34.setTop (mkF m 76 #[vI p1, vI p2, vI lv, vI rv, vR b3, vI (own_tab lv rv), .unset] [iI (own_xor lv.toInt8.toInt32 rv.toInt8.toInt32)])) _
    refine XS.istore X34.here hx rfl (hb hby at_76) rfl (l' := #[vI p1, vI p2, vI lv, vI rv, vR b3, vI (own_tab lv rv), vI (own_xor lv.toInt8.toInt32 rv.toInt8.toInt32)]) rfl ?_
    show Steps _ _ _ (T34.setTop (mkF m 78 #[vI p1, vI p2, vI lv, vI rv, vR b3, vI (own_tab lv rv), vI (own_xor lv.toInt8.toInt32 rv.toInt8.toInt32)] [])) _
    refine XS.iload X34.here hx rfl (hb hby at_78) rfl ?_
    show Steps _ _ _ (T34.setTop (mkF m 80 #[vI p1, vI p2, vI lv, vI rv, vR b3, vI (own_tab lv rv), vI (own_xor lv.toInt8.toInt32 rv.toInt8.toInt32)] [iI (own_xor lv.toInt8.toInt32 rv.toInt8.toInt32)])) _
    refine XS.iload X34.here hx rfl (hb hby at_80) rfl ?_
    show Steps _ _ _ (T34.setTop (mkF m 82 #[vI p1, vI p2, vI lv, vI rv, vR b3, vI (own_tab lv rv), vI (own_xor lv.toInt8.toInt32 rv.toInt8.toInt32)] [iI (own_tab lv rv), iI (own_xor lv.toInt8.toInt32 rv.toInt8.toInt32)])) _
    refine XS.icmpNo X34.here hx rfl (hb hby at_82) rfl (teq hh35).2 ?_
    show Steps _ _ _ (T34.setTop (mkF m 85 #[vI p1, vI p2, vI lv, vI rv, vR b3, vI (own_tab lv rv), vI (own_xor lv.toInt8.toInt32 rv.toInt8.toInt32)] [])) _
    refine XS.iconst X34.here hx rfl (hb hby at_85) ?_
    show Steps _ _ _ (T34.setTop (mkF m 86 #[vI p1, vI p2, vI lv, vI rv, vR b3, vI (own_tab lv rv), vI (own_xor lv.toInt8.toInt32 rv.toInt8.toInt32)] [iI 1])) _
    refine XS.goto X34.here hx rfl (pc0 := 86) (pc' := 90) rfl (hb hby at_86) (by decide) (by decide) ?_
    show Steps _ _ _ (T34.setTop (mkF m 90 #[vI p1, vI p2, vI lv, vI rv, vR b3, vI (own_tab lv rv), vI (own_xor lv.toInt8.toInt32 rv.toInt8.toInt32)] [iI 1])) _
    exact retN X34 hx (t := .boolean) Bd.returns (by simp) (hb hby at_90) hr
  · show Q0 Z p1 p2 h0 n0 _ T34.heap _
    rw [e34]
    exact ⟨rfl, N30⟩
set_option maxRecDepth 65536 in
set_option maxHeartbeats 40000000 in
theorem comes_1 {Post : Tables → Env → Array Value → State → Outcome → State → Prop} (hpost : ∀ tb e args s v u, (limb_1_1.after args s (.returned v) u = true ∧ limb_1_2.after args s (.returned v) u = true ∧ True) → FrameEnd s (.returned v) u (Jvm.fieldLocs frame_1_writes args s ++ Jvm.arrayLocs frame_1_arrays args s ++ Jvm.staticLocs frame_1_statics s) 16 128 → Post tb e args s (.returned v) u) :
    ArmFor flags0 classFile x code maxLocals ret World_1 tables_1 room_1 Calls_1 rest_1 Pre_1 Post := by
  intro l hfl _ _ p e ha hc hk s m args below hf hA hF happ hP
  obtain ⟨hcalls, hrest, hpre⟩ := hP
  obtain ⟨-, -, -, hnamed, -, -, -, hat⟩ := (Spec.applies_iff hf).mp happ
  obtain ⟨hg, hn⟩ := and_e (Cond.before_iff.mp (show (Jvm.Cond.and given_1 narrow_1).before args s = true from hpre))
  obtain ⟨gc, gr0⟩ := and_e hg
  obtain ⟨ga0, gr1⟩ := and_e gr0
  obtain ⟨w0, w1, rfl⟩ : ∃ w0 w1 : Value, args = #[w0, w1] := by
    have hs : args.size = 2 := by simpa [Cond.value, given_1] using gc
    obtain ⟨L⟩ := args
    match L, hs with
    | [w0, w1], _ => exact ⟨w0, w1, rfl⟩
  have hw := fun d (hd : d ∈ tables_1) => atoms_spec (ws := Jvm.Cond.code x code maxLocals ret :: tables_1) hat d (List.mem_cons_of_mem _ hd)
  have hfit : Fit s := fun {y c} hc i hi => by
    obtain ⟨ha, rfl⟩ := Array.getElem?_eq_some_iff.mp hc
    have q := List.all_eq_true.mp ((Array.all_eq_true_iff_forall_mem.mp hF) _ (Array.getElem_mem ha)) i (List.mem_range.mpr hi)
    simpa [Array.getElem?_eq_getElem hi] using q
  obtain ⟨i0, ei0⟩ := is_v ga0
  obtain rfl : w0 = (.int i0) := Option.some.inj ei0
  obtain ⟨i1, ei1⟩ := is_v gr1
  obtain rfl : w1 = (.int i1) := Option.some.inj ei1
  obtain ⟨n, o, h1, h2, h3, _, L, rfl, Qv, hq⟩ := rm0 l s _ hw tables_1 i0 i1  s.heap s.heap.size (Nat.le_refl _)  p e ha hc hk s m _ below hf ((Spec.applies_iff_loose hf).mp happ).1 ⟨rfl, State.Warmed39.refl s, rfl⟩ trivial
  obtain ⟨rfl, N⟩ := Qv
  refine ⟨n, _, h1, h2, h3, hpost _ _ _ _ _ _ ⟨Cond.after_iff.mpr rfl, Cond.after_iff.mpr (eq_i res_at (Term.int_eval (1)) rfl), trivial⟩ ⟨hq.1, hq.2.1, (hq.2.2.sift fun y hy => Or.inr (N y hy)).mono (by decide) (by decide)⟩⟩
theorem main_1_1 : Claimed_1_1 := comes_1 fun _ _ _ _ _ _ h hF => ⟨h.1, hF⟩
theorem main_1_2 : Claimed_1_2 := comes_1 fun _ _ _ _ _ _ h hF => ⟨h.2.1, hF⟩
end Jvm.Pilot.@@N@@
namespace Jvm.Pilot.@@N@@
open Jvm Jvm.ClassFile Sem Op Lib Jvm.Free Jvm.Stand Jvm.Pilot.@@N@@.Jvm.D
/-! MADE BY PROGRAM (witnessworld.py) out of the Statement's table words and the real class files: 12 classes; the members and pool entries that the words name. The judged class is class 1, her method 1. -/
namespace start1
open Jvm.ClassFile
def u (s : String) : CpInfo := .utf8 (stringToUtf16 s)
/-- a pool by its gaps: so many unusable entries, then the entry; so many at the end -/
def gap : Nat → List CpInfo → List CpInfo
  | 0, r => r
  | n + 1, r => .unusable :: gap n r
def poolList (es : List (Nat × CpInfo)) (last : Nat) : List CpInfo := es.foldr (fun e r => gap e.1 (e.2 :: r)) (gap last [])
def pool (es : List (Nat × CpInfo)) (last : Nat) : Array CpInfo := ⟨poolList es last⟩
def fileOf (pool : Array CpInfo) (this : Nat) (attrs : Array Attribute := #[]) (ms : Array MethodInfo := #[]) (fl : Nat := 33) (sup : Nat := 0) (ifs : Array Nat := #[]) (fds : Array FieldInfo := #[]) : ClassFile where
  minorVersion := 0
  majorVersion := 65
  constantPool := pool
  accessFlags := fl
  thisClass := this
  superClass := sup
  interfaces := ifs
  fields := fds
  methods := ms
  attributes := attrs
def plain (name : String) (sup : Option ClassId) : Class where
  name := name
  kind := .ordinary
  loader := none
  accessFlags := 33
  super := sup
  interfaces := #[]
  cf := none
  fields := #[]
  methods := #[]
  instanceTypes := #[]
  staticTypes := #[]
  resolved := #[]
  callSites := []
  init := .initialized
  statics := none
  mirror := none

def pool0 : Array CpInfo := pool [(5, u "<init>"), (0, u "()V"), (1, .class_ 10), (1, u "java/lang/Object")] 113

def k0m0 : Method := { name := "<init>", desc := "()V", sig := { parameters := [], returnType := none }, accessFlags := 1, code := none }
/-- java/lang/Object -/
def k0 : Class := { plain "java/lang/Object" none with
  accessFlags := 33
  interfaces := #[]
  cf := some (fileOf pool0 8 #[] #[{ accessFlags := 1, nameIndex := 5, descriptorIndex := 6, attributes := #[] }] 33 0 #[] #[])
  fields := #[]
  methods := #[k0m0]
  instanceTypes := #[]
  staticTypes := #[]
  resolved := Array.replicate 124 none
  statics := none }

def pool1 : Array CpInfo := pool [(2, .class_ 4), (1, u "java/lang/Object"), (0, u "<init>"), (0, u "()V"), (0, .integer 2147483647), (0, .methodref 9 10), (0, .class_ 11), (0, .nameAndType 12 13), (0, u "com/example/nullwise/nullwise/Truth"), (0, u "xor"), (0, u "(BB)B"), (0, .class_ 15), (0, u "com/example/nullwise/nullwise/TruthXorPinLaw"), (2, u "law"), (0, u "(II)Z")] 5

def k1m0 : Method := { name := "<init>", desc := "()V", sig := { parameters := [], returnType := none }, accessFlags := 1, code := none }
def k1c1 : Code := { maxStack := 4, maxLocals := 7, code := code, exceptionTable := #[], attributes := #[] }
def k1m1 : Method := { name := "law", desc := "(II)Z", sig := { parameters := [.int, .int], returnType := some .boolean }, accessFlags := 9, code := some k1c1 }
/-- com/example/nullwise/nullwise/TruthXorPinLaw -/
def k1 : Class := { plain "com/example/nullwise/nullwise/TruthXorPinLaw" (some 0) with
  accessFlags := 49
  interfaces := #[]
  cf := some (fileOf pool1 14 #[] #[{ accessFlags := 1, nameIndex := 5, descriptorIndex := 6, attributes := #[] }, { accessFlags := 9, nameIndex := 18, descriptorIndex := 19, attributes := #[] }] 49 2 #[] #[])
  fields := #[]
  methods := #[k1m0, k1m1]
  instanceTypes := #[]
  staticTypes := #[]
  resolved := Array.replicate 25 none
  statics := none }

def pool2 : Array CpInfo := pool [(1, .class_ 2), (0, u "java/lang/constant/Constable"), (0, .class_ 4), (0, u "java/lang/Object")] 6

/-- java/lang/constant/Constable -/
def k2 : Class := { plain "java/lang/constant/Constable" (some 0) with
  accessFlags := 1537
  interfaces := #[]
  cf := some (fileOf pool2 1 #[] #[] 1537 3 #[] #[])
  fields := #[]
  methods := #[]
  instanceTypes := #[]
  staticTypes := #[]
  resolved := Array.replicate 11 none
  statics := none }

def pool3 : Array CpInfo := pool [(1, .class_ 2), (0, u "java/lang/Comparable"), (0, .class_ 4), (0, u "java/lang/Object")] 7

/-- java/lang/Comparable -/
def k3 : Class := { plain "java/lang/Comparable" (some 0) with
  accessFlags := 1537
  interfaces := #[]
  cf := some (fileOf pool3 1 #[] #[] 1537 3 #[] #[])
  fields := #[]
  methods := #[]
  instanceTypes := #[]
  staticTypes := #[]
  resolved := Array.replicate 12 none
  statics := none }

def pool4 : Array CpInfo := pool [(1, .class_ 2), (0, u "java/io/Serializable"), (0, .class_ 4), (0, u "java/lang/Object")] 2

/-- java/io/Serializable -/
def k4 : Class := { plain "java/io/Serializable" (some 0) with
  accessFlags := 1537
  interfaces := #[]
  cf := some (fileOf pool4 1 #[] #[] 1537 3 #[] #[])
  fields := #[]
  methods := #[]
  instanceTypes := #[]
  staticTypes := #[]
  resolved := Array.replicate 7 none
  statics := none }

def pool5 : Array CpInfo := pool [(2, .class_ 4), (1, u "java/lang/Enum"), (0, u "name"), (0, u "Ljava/lang/String;"), (2, u "ordinal"), (0, u "I"), (1, .class_ 14), (1, u "java/lang/Object"), (4, u "hash"), (86, .class_ 108), (1, u "java/lang/Enum$EnumDesc"), (2, .class_ 112), (0, u "java/lang/constant/Constable"), (0, .class_ 114), (0, u "java/lang/Comparable"), (0, .class_ 116), (0, u "java/io/Serializable")] 87

/-- java/lang/Enum -/
def k5 : Class := { plain "java/lang/Enum" (some 0) with
  accessFlags := 1057
  interfaces := #[2, 3, 4]
  cf := some (fileOf pool5 2 #[.nestMembers #[106]] #[] 1057 12 #[111, 113, 115] #[{ accessFlags := 18, nameIndex := 5, descriptorIndex := 6, attributes := #[] }, { accessFlags := 18, nameIndex := 9, descriptorIndex := 10, attributes := #[] }, { accessFlags := 2, nameIndex := 19, descriptorIndex := 10, attributes := #[] }])
  fields := #[{ name := "name", type := (.object "java/lang/String"), accessFlags := 18, slot := 0, constantValue := 0 }, { name := "ordinal", type := .int, accessFlags := 18, slot := 1, constantValue := 0 }, { name := "hash", type := .int, accessFlags := 2, slot := 2, constantValue := 0 }]
  methods := #[]
  instanceTypes := #[(.object "java/lang/String"), .int, .int]
  staticTypes := #[]
  resolved := Array.replicate 204 none
  statics := none }

def pool6 : Array CpInfo := pool [(1, .class_ 2), (0, u "com/example/nullwise/nullwise/Truth"), (2, u "TRUE"), (0, u "Lcom/example/nullwise/nullwise/Truth;"), (2, u "FALSE"), (2, u "NULL"), (2, u "$VALUES"), (0, u "[Lcom/example/nullwise/nullwise/Truth;"), (6, .class_ 25), (1, u "java/lang/Enum"), (8, u "code"), (0, u "B"), (2, u "BY_CODE"), (19, u "(BB)B"), (5, u "xor"), (19, u "FALSE_CODE"), (2, u "NULL_CODE"), (1, u "TRUE_CODE")] 19

def k6c0 : Code := { maxStack := 2, maxLocals := 2, code := prog_93_method_14_code, exceptionTable := #[], attributes := #[] }
def k6m0 : Method := { name := "xor", desc := "(BB)B", sig := { parameters := [.byte, .byte], returnType := some .byte }, accessFlags := 8, code := some k6c0 }
/-- com/example/nullwise/nullwise/Truth -/
def k6 : Class := { plain "com/example/nullwise/nullwise/Truth" (some 5) with
  accessFlags := 16433
  interfaces := #[]
  cf := some (fileOf pool6 1 #[] #[{ accessFlags := 8, nameIndex := 64, descriptorIndex := 58, attributes := #[] }] 16433 23 #[] #[{ accessFlags := 16409, nameIndex := 5, descriptorIndex := 6, attributes := #[] }, { accessFlags := 16409, nameIndex := 9, descriptorIndex := 6, attributes := #[] }, { accessFlags := 16409, nameIndex := 12, descriptorIndex := 6, attributes := #[] }, { accessFlags := 24, nameIndex := 84, descriptorIndex := 35, attributes := #[] }, { accessFlags := 24, nameIndex := 87, descriptorIndex := 35, attributes := #[] }, { accessFlags := 24, nameIndex := 89, descriptorIndex := 35, attributes := #[] }, { accessFlags := 26, nameIndex := 38, descriptorIndex := 16, attributes := #[] }, { accessFlags := 18, nameIndex := 34, descriptorIndex := 35, attributes := #[] }, { accessFlags := 4122, nameIndex := 15, descriptorIndex := 16, attributes := #[] }])
  fields := #[{ name := "TRUE", type := (.object "com/example/nullwise/nullwise/Truth"), accessFlags := 16409, slot := 0, constantValue := 0 }, { name := "FALSE", type := (.object "com/example/nullwise/nullwise/Truth"), accessFlags := 16409, slot := 1, constantValue := 0 }, { name := "NULL", type := (.object "com/example/nullwise/nullwise/Truth"), accessFlags := 16409, slot := 2, constantValue := 0 }, { name := "FALSE_CODE", type := .byte, accessFlags := 24, slot := 3, constantValue := 0 }, { name := "NULL_CODE", type := .byte, accessFlags := 24, slot := 4, constantValue := 0 }, { name := "TRUE_CODE", type := .byte, accessFlags := 24, slot := 5, constantValue := 0 }, { name := "BY_CODE", type := (.array (.object "com/example/nullwise/nullwise/Truth")), accessFlags := 26, slot := 6, constantValue := 0 }, { name := "code", type := .byte, accessFlags := 18, slot := 3, constantValue := 0 }, { name := "$VALUES", type := (.array (.object "com/example/nullwise/nullwise/Truth")), accessFlags := 4122, slot := 7, constantValue := 0 }]
  methods := #[k6m0]
  instanceTypes := #[(.object "java/lang/String"), .int, .int, .byte]
  staticTypes := #[(.object "com/example/nullwise/nullwise/Truth"), (.object "com/example/nullwise/nullwise/Truth"), (.object "com/example/nullwise/nullwise/Truth"), .byte, .byte, .byte, (.array (.object "com/example/nullwise/nullwise/Truth")), (.array (.object "com/example/nullwise/nullwise/Truth"))]
  resolved := Array.replicate 109 none
  statics := none }

def pool7 : Array CpInfo := pool [(1, u "java/lang/Cloneable"), (0, .class_ 1), (0, u "java/lang/Object"), (0, .class_ 3)] 3

/-- java/lang/Cloneable -/
def k7 : Class := { plain "java/lang/Cloneable" (some 0) with
  accessFlags := 1537
  interfaces := #[]
  cf := some (fileOf pool7 2 #[] #[] 1537 4 #[] #[])
  fields := #[]
  methods := #[]
  instanceTypes := #[]
  staticTypes := #[]
  resolved := Array.replicate 8 none
  statics := none }

/-- the primitive byte -/
def k8 : Class := { plain "byte" none with kind := .primitive 'B', accessFlags := 0x411 }
/-- [B -/
def k9 : Class := { plain "[B" (some 0) with kind := .array 8 .byte, interfaces := #[7, 4], accessFlags := 1041 }

/-- the primitive int -/
def k10 : Class := { plain "int" none with kind := .primitive 'I', accessFlags := 0x411 }
/-- [I -/
def k11 : Class := { plain "[I" (some 0) with kind := .array 10 .int, interfaces := #[7, 4], accessFlags := 1041 }

def heap : Heap := #[]
def classes : Array Class := #[k0, k1, k2, k3, k4, k5, k6, k7, k8, k9, k10, k11]
def interned : List (Array UInt16 × Addr) := []
def slotsUsed : Nat := 0
def theMethod : MethodId := ⟨1, 1⟩
def args0 : Array Value := #[.int 5, .int 7]
def aboutOver (below : List Frame) : State where
  vm := { classes := classes, interned := interned.toArray }
  heap := heap
  slotsUsed := slotsUsed
  threads := #[{ frames := .invoking theMethod args0 :: below }]
def below0 : List Frame := [.native { method := ⟨0, 0⟩, args := #[] }]
def about1 : State := aboutOver below0
def p0 : Program := .bare "" "" ""
def e0 : Env := launch0.env 0 0 0
theorem w_frames : about1.frames = Frame.invoking theMethod args0 :: below0 := rfl
set_option maxRecDepth 65536 in
theorem w_args : argsFit about1.vm theMethod args0 = true := by decide +kernel
set_option maxRecDepth 65536 in
theorem w_heap : heapFits about1 = true := by decide +kernel
set_option maxRecDepth 65536 in
theorem w_runnable : about1.curStatus? = some .runnable := by decide +kernel
set_option maxRecDepth 65536 in
theorem w_alone : about1.alone = true := by decide +kernel
set_option maxRecDepth 65536 in
theorem w_named : about1.methodNamed? x = some theMethod := by decide +kernel
set_option maxRecDepth 65536 in
theorem w_hears : about1.hears theMethod below0 = true := by decide +kernel
set_option maxRecDepth 65536 in
theorem w_ripe : about1.ripe theMethod args0 below0 = true := by decide +kernel
theorem w_running : about1.status = .running := rfl
set_option maxRecDepth 65536 in
theorem w_room : about1.hasRoom e0.platform room_1 = true :=
  launch0.hasRoom_least _ room_1 (by decide +kernel) (by decide +kernel) (by decide +kernel) (by decide +kernel) (by decide +kernel) (by decide +kernel)
theorem allAtoms_all (ts : List Jvm.Cond) (a : Array Jvm.Value) (st : Jvm.State) : (allAtoms ts).before a st = ts.all (fun c => c.before a st) := by
  induction ts with
  | nil => rfl
  | cons c t ih =>
    show (Jvm.Cond.and c (allAtoms t)).before a st = _
    rw [Jvm.Cond.before_and, ih, List.all_cons]
def words1 : List Jvm.Cond := Jvm.Cond.code x code maxLocals ret :: tables_1
/-- a 'code' word, met by the world's own term for the bytes: nothing is compared byte by byte -/
theorem code_word {y : MethodName} {bytes : ByteArray} {mx : Nat} {rt : Option FieldType} {a : Array Value} {s : State} {m : MethodId} {meth : Method} {c : Code} (h1 : s.methodNamed? y = some m) (h2 : s.vm.method? m = some meth) (h3 : meth.code = some c) (h4 : c.code = bytes)
    (h5 : (c.maxLocals == mx && c.exceptionTable.isEmpty && decide (c.maxStack ≤ mostOperands) && decide (meth.sig.returnType = rt) && !meth.locks && decide (parseMethodDescriptor y.desc = some meth.sig)) = true) : (Jvm.Cond.code y bytes mx rt).before a s = true := by
  simp only [Bool.and_eq_true, beq_iff_eq, Bool.not_eq_true', decide_eq_true_eq] at h5
  obtain ⟨⟨⟨⟨⟨g1, g2⟩, g3⟩, g4⟩, g5⟩, g6⟩ := h5
  simp [Cond.before, Cond.holds, Cond.value, h1, h2, h3, h4, g1, g2, g3, g4, g5, g6]
def isCode : Jvm.Cond → Bool
  | .code _ _ _ _ => true
  | _ => false
theorem all_split {L : List Jvm.Cond} {P : Jvm.Cond → Bool} (h1 : L.all (fun c => isCode c || P c) = true) (h2 : ∀ c ∈ L.filter isCode, P c = true) : L.all P = true := by
  refine List.all_eq_true.mpr fun c hc => ?_
  have h := List.all_eq_true.mp h1 c hc
  rcases Bool.eq_false_or_eq_true (isCode c) with hi | hi
  · exact h2 c (List.mem_filter.mpr ⟨hc, hi⟩)
  · simpa [hi] using h
set_option maxRecDepth 65536 in
theorem w_c0 : (Jvm.Cond.code x code maxLocals ret).before args0 about1 = true := code_word (m := ⟨1, 1⟩) (meth := k1m1) (c := k1c1) (by decide +kernel) rfl rfl rfl (by decide +kernel)
set_option maxRecDepth 65536 in
theorem w_c1 : (Jvm.Cond.code ({ cls := "com/example/nullwise/nullwise/Truth", name := "xor", desc := "(BB)B" } : Jvm.MethodName) prog_93_method_14_code (2 : Nat) (Option.some Jvm.ClassFile.FieldType.byte)).before args0 about1 = true := code_word (m := ⟨6, 0⟩) (meth := k6m0) (c := k6c0) (by decide +kernel) rfl rfl rfl (by decide +kernel)
def codes1 : List Jvm.Cond := [Jvm.Cond.code x code maxLocals ret, Jvm.Cond.code ({ cls := "com/example/nullwise/nullwise/Truth", name := "xor", desc := "(BB)B" } : Jvm.MethodName) prog_93_method_14_code (2 : Nat) (Option.some Jvm.ClassFile.FieldType.byte)]
set_option maxRecDepth 65536 in
theorem codes_eq : words1.filter isCode = codes1 := rfl
theorem w_codes : ∀ c ∈ words1.filter isCode, c.before args0 about1 = true := by
  rw [codes_eq]
  intro c hc
  simp only [codes1, List.mem_cons, List.not_mem_nil, or_false] at hc
  rcases hc with rfl | rfl
  · exact w_c0
  · exact w_c1
set_option maxRecDepth 65536 in
theorem w_t1 : words1.all (fun c => isCode c || c.before args0 about1) = true := by decide +kernel
theorem w_tables : (allAtoms (Jvm.Cond.code x code maxLocals ret :: tables_1)).before args0 about1 = true := by
  rw [allAtoms_all]
  show words1.all (fun c => c.before args0 about1) = true
  refine all_split ?_ w_codes
  rw [w_t1]
set_option maxRecDepth 65536 in
theorem w_case : (Jvm.Cond.and given_1 narrow_1).before args0 about1 = true := by decide +kernel
theorem w_applies : (headSpec (Jvm.Cond.code x code maxLocals ret :: tables_1) room_1).applies x e0.platform about1 = true :=
  (Spec.applies_iff w_frames).mpr ⟨w_running, w_runnable, w_alone, w_named, w_hears, w_ripe, w_room, w_tables⟩
theorem atStart : AtStart classFile x code maxLocals ret World_1 tables_1 room_1 Calls_1 rest_1 Pre_1 launch0 p0 e0 about1 theMethod args0 below0 :=
  ⟨lists_1, trivial, launch0.admits_env _ _ _, launch0.least_env, fairChoices_fair.cas, fairChoices_fair.clock, w_frames, w_args, w_heap, w_applies, trivial, trivial, w_case⟩
end start1
theorem witness_1 : WitnessClaimed_1 := ⟨start1.p0, start1.e0, start1.about1, start1.theMethod, start1.args0, start1.below0, start1.atStart⟩
end Jvm.Pilot.@@N@@
