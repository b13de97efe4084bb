import JvmDerived
import JvmDerived.Pilot.@@N@@Statement
import JvmDerived.Pilot.@@N@@Code
set_option linter.unusedVariables false
set_option linter.unusedSimpArgs false
namespace Jvm.RoadKit
open Sem ClassFile Op Lib Jvm.Stand Jvm.Free Jvm.LawKit
section New
variable {p : Program} {l : Launch} {e : Env} {R : Room} {s : State} {m : MethodId} {args : Array Value} {below : List Frame} {meth : Method} {c : Code} {T : State} {locs : List Loc} {cells slots : Nat}
theorem retI (X : Stand p l e R s m args below meth c T locs cells slots) (hx : p.tables.exec = Jvm.exec) {pc : Nat} {Ls : Array Slot} {z : Int32} {rest : List Value} (hret : meth.sig.returnType = some .int) (hd : decode c.code pc = .ok (.ireturn, 1)) {fs : List Frame}
    (hl : ∀ (f : JFrame) (acts : List Action), f.method = m → f.locked = none → f.entered = [] → (doReturn e (T.setTop f) acts (some (.int z))).1 = T.setFrames fs) : Steps p.tables e below (T.setTop (mkF m pc Ls (.int z :: rest))) (T.setFrames fs) := by
  have hm' : T.vm.method? m = some meth := X.method'
  have hn : narrow .int (.int z) = .int z := rfl
  show Steps p.tables e below (T.setTop { method := m, pc := pc, locals := Ls, stack := _ :: rest, locked := none }) _
  jvm_step X.here [X.here.top, hx, hd, hm', hret, hn]
  first | (intro acts; rw [hl _ acts rfl rfl rfl]) | rw [hl _ _ rfl rfl rfl]
  exact Steps.refl _
end New
end Jvm.RoadKit
namespace Jvm.Pilot.@@N@@
open Jvm Jvm.ClassFile Sem Op Lib Jvm.Free Jvm.Stand Jvm.LawKit Jvm.RoadKit Bundle Jvm.Pilot.@@N@@.Jvm.D
def own_h (c v r : Int32) : Int32 := ((if c = 0 then (0 : Int32) else 1) ||| (if v = 0 then (0 : Int32) else 2)) ||| (if r = 0 then (0 : Int32) else 4)
def own_eq (c v r c' v' r' : Int32) : Int32 := if c = c' then (if v = v' then (if r = r' then 1 else 0) else 0) else 0
def own_em (c v r : Int32) : Int32 := if c = 0 then (if v = 0 then (if r = 0 then 1 else 0) else 0) else 0
abbrev Bit (c : Int32) : Prop := c = 0 ∨ c = 1
theorem own_nar {c : Int32} (h : Bit c) : nar .boolean c = c := by rcases h with rfl | rfl <;> decide
theorem own_or_a {c d : Int32} (hc : Bit c) (hd : Bit d) (h : ¬ c = 0) : (c ||| d) = 1 := by
  rcases hc with rfl | rfl
  · exact absurd rfl h
  · rcases hd with rfl | rfl <;> decide
theorem own_or_b {c d : Int32} (hd : Bit d) (hc : c = 0) (h : ¬ d = 0) : (c ||| d) = 1 := by
  subst hc
  rcases hd with rfl | rfl
  · exact absurd rfl h
  · decide
theorem own_or_c {c d : Int32} (hc : c = 0) (hd : d = 0) : (c ||| d) = 0 := by subst hc; subst hd; decide
theorem own_or {c d : Int32} (hc : Bit c) (hd : Bit d) : Bit (c ||| d) := by rcases hc with rfl | rfl <;> rcases hd with rfl | rfl <;> decide
theorem own_l1 {c v r : Int32} (hc : Bit c) (hv : Bit v) (hr : Bit r) : ¬ own_h c v r < (0 : Int32) := by rcases hc with rfl | rfl <;> rcases hv with rfl | rfl <;> rcases hr with rfl | rfl <;> decide
theorem own_l2 {c v r : Int32} (hc : Bit c) (hv : Bit v) (hr : Bit r) : ¬ (7 : Int32) < own_h c v r := by rcases hc with rfl | rfl <;> rcases hv with rfl | rfl <;> rcases hr with rfl | rfl <;> decide
theorem own_l4 {c v r : Int32} (hc : Bit c) (hv : Bit v) (hr : Bit r) : own_em c v r = (if own_h c v r = (0 : Int32) then (1 : Int32) else 0) := by rcases hc with rfl | rfl <;> rcases hv with rfl | rfl <;> rcases hr with rfl | rfl <;> decide
theorem own_l3 {c v r c' v' r' : Int32} (hc : Bit c) (hv : Bit v) (hr : Bit r) (hc' : Bit c') (hv' : Bit v') (hr' : Bit r') : own_eq c v r c' v' r' = (if own_h c v r = own_h c' v' r' then (1 : Int32) else 0) := by
  rcases hc with rfl | rfl <;> rcases hv with rfl | rfl <;> rcases hr with rfl | rfl <;> rcases hc' with rfl | rfl <;> rcases hv' with rfl | rfl <;> rcases hr' with rfl | rfl <;> decide
theorem own_l5 {c v r c' v' r' : Int32} (hc : Bit c) (hv : Bit v) (hr : Bit r) (hc' : Bit c') (hv' : Bit v') (hr' : Bit r') : own_h (c ||| c') (v ||| v') (r ||| r') = (own_h c v r ||| own_h c' v' r') := by
  rcases hc with rfl | rfl <;> rcases hv with rfl | rfl <;> rcases hr with rfl | rfl <;> rcases hc' with rfl | rfl <;> rcases hv' with rfl | rfl <;> rcases hr' with rfl | rfl <;> decide
theorem own_ite {P : Prop} [Decidable P] : Bit (if P then (0 : Int32) else 1) := by by_cases h : P <;> simp [Bit, h]
theorem own_pn0 : plainName "java/lang/Record" = true := by first | (simp [plainName, overriddenIn]; done) | decide +kernel
theorem own_pd0 : parseMethodDescriptor "()V" = some ⟨[], none⟩ := by decide +kernel
theorem own_pn1 : plainName "com/example/retree/retree/QualifiedType$Qualifiers" = true := by first | (simp [plainName, overriddenIn]; done) | decide +kernel
theorem own_pd1 : parseMethodDescriptor "(ZZZ)V" = some ⟨[.boolean, .boolean, .boolean], none⟩ := by decide +kernel
theorem own_pd2 : parseMethodDescriptor "(Lcom/example/retree/retree/QualifiedType$Qualifiers;)Lcom/example/retree/retree/QualifiedType$Qualifiers;" = some ⟨[(.object "com/example/retree/retree/QualifiedType$Qualifiers")], some (.object "com/example/retree/retree/QualifiedType$Qualifiers")⟩ := by decide +kernel
theorem own_pd3 : parseMethodDescriptor "()I" = some ⟨[], some .int⟩ := by decide +kernel
theorem own_pd4 : parseMethodDescriptor "(Ljava/lang/Object;)Z" = some ⟨[(.object "java/lang/Object")], some .boolean⟩ := by decide +kernel
theorem own_pd5 : parseMethodDescriptor "()Z" = some ⟨[], some .boolean⟩ := by decide +kernel
theorem own_pn2 : plainName "com/example/retree/retree/QualifiersHashCodePinLaw" = true := by first | (simp [plainName, overriddenIn]; done) | decide +kernel
def Q2 (h0 : Heap) (n0 : Nat) (v : Option Value) (h : Heap) (L : List Loc) : Prop := v = none ∧ Fr n0 L ∧ h = h0
def Q1 (Z : State) (a1 : Addr) (c1 c2 c3 : Int32) (h0 : Heap) (n0 : Nat) (v : Option Value) (h : Heap) (L : List Loc) : Prop := v = none ∧ Fr n0 L ∧ Keep h0 h [a1] ∧ Exa Z h a1 "com/example/retree/retree/QualifiedType$Qualifiers" ∧ Fld Z h a1 "com/example/retree/retree/QualifiedType$Qualifiers" "isConst" "Z" (.int c1) ∧ Fld Z h a1 "com/example/retree/retree/QualifiedType$Qualifiers" "isVolatile" "Z" (.int c2) ∧ Fld Z h a1 "com/example/retree/retree/QualifiedType$Qualifiers" "isRestrict" "Z" (.int c3)
def Q4 (Z : State) (c1 c2 c3 d1 d2 d3 : Int32) (h0 : Heap) (n0 : Nat) (v : Option Value) (h : Heap) (L : List Loc) : Prop := ∃ b, v = some (.ref b) ∧ Fr n0 L ∧ Keep h0 h [] ∧ Exa Z h b "com/example/retree/retree/QualifiedType$Qualifiers" ∧ Fld Z h b "com/example/retree/retree/QualifiedType$Qualifiers" "isConst" "Z" (.int (c1 ||| d1)) ∧ Fld Z h b "com/example/retree/retree/QualifiedType$Qualifiers" "isVolatile" "Z" (.int (c2 ||| d2)) ∧ Fld Z h b "com/example/retree/retree/QualifiedType$Qualifiers" "isRestrict" "Z" (.int (c3 ||| d3))
def Q5 (c1 c2 c3 : Int32) (h0 : Heap) (n0 : Nat) (v : Option Value) (h : Heap) (L : List Loc) : Prop := v = some (.int (own_h c1 c2 c3)) ∧ Fr n0 L ∧ h = h0
def Q7 (c1 c2 c3 : Int32) (h0 : Heap) (n0 : Nat) (v : Option Value) (h : Heap) (L : List Loc) : Prop := v = some (.int (own_em c1 c2 c3)) ∧ Fr n0 L ∧ h = h0
def Q6 (c1 c2 c3 d1 d2 d3 : Int32) (h0 : Heap) (n0 : Nat) (v : Option Value) (h : Heap) (L : List Loc) : Prop := v = some (.int (own_eq c1 c2 c3 d1 d2 d3)) ∧ Fr n0 L ∧ h = h0
def Q0 (n0 : Nat) (v : Option Value) (h : Heap) (L : List Loc) : Prop := v = some (.int 1) ∧ Fr n0 L
theorem own_d2_0 : decode jdk_30_method_1_code 0 = .ok (.aload_n 0, 1) := by decide +kernel
theorem own_d2_1 : decode jdk_30_method_1_code 1 = .ok (.invokespecial 1, 3) := by decide +kernel
theorem own_d2_4 : decode jdk_30_method_1_code 4 = .ok (.return_, 1) := by decide +kernel
set_option maxRecDepth 65536 in
set_option maxHeartbeats 40000000 in
theorem rm2 (l : Launch) (Z : State) (a0 : Array Value) (hw : ∀ d ∈ tables_1, d.before a0 Z = true) (ws : List Jvm.Cond) (a1 : Addr) (h0 : Heap) (n0 : Nat) (Z0 : n0 ≤ h0.size)  :
    MetFree l (⟨"java/lang/Record", "<init>", "()V"⟩ : MethodName) (head1 (Jvm.Cond.code (⟨"java/lang/Record", "<init>", "()V"⟩ : MethodName) jdk_30_method_1_code 1 none :: ws) ({ frames := 1, cells := 0, slots := 0, locals := 12 } : Room)) (fun a U => a = #[(.ref a1)] ∧ Z.Warmed39 U.vm ∧ U.heap = h0) (fun _ _ _ _ _ => True) (fun _ U oc U' => ∃ v L, oc = .returned v ∧ Q2 h0 n0 v U'.heap L ∧ FrameEnd U oc U' L ({ frames := 1, cells := 0, slots := 0, locals := 12 } : Room).cells ({ frames := 1, cells := 0, slots := 0, locals := 12 } : Room).slots) := by
  refine MetFree.of_bodySF (plainFor_of_name own_pn0) hisR ?_
  intro p e s m args below meth c s₁ Bd hml0 hP hK
  obtain ⟨rfl, hZ, hh⟩ := hP
  have hx := Bd.exec
  have hby := Bd.bytes
  have hml : c.maxLocals = 1 := hml0
  have hown : s.vm.findClass "java/lang/Record" = some m.cls := findClass_of_methodNamed Bd.named
  have hnm := (name_of_methodNamed Bd.named Bd.method).1
  have X0 : Stand p l e ({ frames := 1, cells := 0, slots := 0, locals := 12 } : Room) s m #[(.ref a1)] below meth c s₁ [] 0 0 := Stand.of_body Bd
  have e0 : s₁.heap = h0 := by rw [← hh, Bd.state]; rfl
  have N0 := Fr.nil n0
  have G0 : Goes p e below s₁ (entryFrame m #[(.ref a1)] 1) s₁ (mkF m 0 #[.val (.ref a1)] []) := fun _ k => castTop (by first | (simp [entryFrame, mkF, argsToLocals, Value.category]; done) | rfl : (entryFrame m #[(.ref a1)] 1) = mkF m 0 #[.val (.ref a1)] []) k
  have G1 : Goes p e below s₁ (entryFrame m #[(.ref a1)] 1) s₁ (mkF m 1 #[.val (.ref a1)] [(.ref a1)]) := fun _ k => G0 _ (by
      show Steps p.tables e below (s₁.setTop (mkF m 0 #[.val (.ref a1)] [])) _
      refine XS.aloadN X0.here hx rfl (hb hby own_d2_0) rfl rfl ?_
      exact k)
  obtain ⟨T2, X2, e2, st2⟩ := initO X0 hx hZ hown (hw _ (List.mem_of_getElem? (i := 11) rfl)) (hw _ (List.mem_of_getElem? (i := 12) rfl)) (hw _ (List.mem_of_getElem? (i := 13) rfl)) e0 (g := (mkF m 1 #[.val (.ref a1)] [(.ref a1)])) rfl (by rw [hml]; rfl) rfl (hb hby own_d2_1) (by decide) (W := 0) (by show 2 * 0 + _ ≤ _; exact Nat.le_of_eq rfl) (by decide)
  have G2 : Goes p e below s₁ (entryFrame m #[(.ref a1)] 1) T2 (mkF m 4 #[.val (.ref a1)] []) := fun _ k => G1 _ (st2 _ k)
  obtain ⟨fs, hr, hrun, hended, hW, hsame⟩ := X2.leave (v := none) (fun _ => rfl)
  refine ⟨_, _, G2 _ (X2.returnOut hx Bd.returns (hb hby own_d2_4) hr), hrun, hended, _, _, rfl, ?_, ⟨_, rfl⟩, hW, hsame.mono (by decide) (by decide)⟩
  show Q2 h0 n0 _ T2.heap _
  rw [e2]
  exact ⟨rfl, N0, rfl⟩
theorem own_d1_0 : decode prog_84_method_1_code 0 = .ok (.aload_n 0, 1) := by decide +kernel
theorem own_d1_1 : decode prog_84_method_1_code 1 = .ok (.invokespecial 1, 3) := by decide +kernel
theorem own_d1_4 : decode prog_84_method_1_code 4 = .ok (.aload_n 0, 1) := by decide +kernel
theorem own_d1_5 : decode prog_84_method_1_code 5 = .ok (.iload_n 1, 1) := by decide +kernel
theorem own_d1_6 : decode prog_84_method_1_code 6 = .ok (.putfield 7, 3) := by decide +kernel
theorem own_d1_9 : decode prog_84_method_1_code 9 = .ok (.aload_n 0, 1) := by decide +kernel
theorem own_d1_10 : decode prog_84_method_1_code 10 = .ok (.iload_n 2, 1) := by decide +kernel
theorem own_d1_11 : decode prog_84_method_1_code 11 = .ok (.putfield 13, 3) := by decide +kernel
theorem own_d1_14 : decode prog_84_method_1_code 14 = .ok (.aload_n 0, 1) := by decide +kernel
theorem own_d1_15 : decode prog_84_method_1_code 15 = .ok (.iload_n 3, 1) := by decide +kernel
theorem own_d1_16 : decode prog_84_method_1_code 16 = .ok (.putfield 16, 3) := by decide +kernel
theorem own_d1_19 : decode prog_84_method_1_code 19 = .ok (.return_, 1) := by decide +kernel
set_option maxRecDepth 65536 in
set_option maxHeartbeats 40000000 in
theorem rm1 (l : Launch) (Z : State) (a0 : Array Value) (hw : ∀ d ∈ tables_1, d.before a0 Z = true) (ws : List Jvm.Cond) (a1 : Addr) (c1 c2 c3 : Int32) (h0 : Heap) (n0 : Nat) (Z0 : n0 ≤ h0.size) (E : Exa Z h0 a1 "com/example/retree/retree/QualifiedType$Qualifiers") (F1 : Fld Z h0 a1 "com/example/retree/retree/QualifiedType$Qualifiers" "isConst" "Z" (.int (0 : Int32))) (F2 : Fld Z h0 a1 "com/example/retree/retree/QualifiedType$Qualifiers" "isVolatile" "Z" (.int (0 : Int32))) (F3 : Fld Z h0 a1 "com/example/retree/retree/QualifiedType$Qualifiers" "isRestrict" "Z" (.int (0 : Int32))) (ga : n0 ≤ a1) (hb1 : Bit c1) (hb2 : Bit c2) (hb3 : Bit c3) :
    MetFree l (⟨"com/example/retree/retree/QualifiedType$Qualifiers", "<init>", "(ZZZ)V"⟩ : MethodName) (head1 (Jvm.Cond.code (⟨"com/example/retree/retree/QualifiedType$Qualifiers", "<init>", "(ZZZ)V"⟩ : MethodName) prog_84_method_1_code 4 none :: ws) ({ frames := 2, cells := 0, slots := 0, locals := 24 } : Room)) (fun a U => a = #[(.ref a1), (.int c1), (.int c2), (.int c3)] ∧ Z.Warmed39 U.vm ∧ U.heap = h0) (fun _ _ _ _ _ => True) (fun _ U oc U' => ∃ v L, oc = .returned v ∧ Q1 Z a1 c1 c2 c3 h0 n0 v U'.heap L ∧ FrameEnd U oc U' L ({ frames := 2, cells := 0, slots := 0, locals := 24 } : Room).cells ({ frames := 2, cells := 0, slots := 0, locals := 24 } : Room).slots) := by
  refine MetFree.of_bodySF (plainFor_of_name own_pn1) hisR ?_
  intro p e s m args below meth c s₁ Bd hml0 hP hK
  obtain ⟨rfl, hZ, hh⟩ := hP
  have hx := Bd.exec
  have hby := Bd.bytes
  have hml : c.maxLocals = 4 := hml0
  have hown : s.vm.findClass "com/example/retree/retree/QualifiedType$Qualifiers" = some m.cls := findClass_of_methodNamed Bd.named
  have hnm := (name_of_methodNamed Bd.named Bd.method).1
  have X0 : Stand p l e ({ frames := 2, cells := 0, slots := 0, locals := 24 } : Room) s m #[(.ref a1), (.int c1), (.int c2), (.int c3)] below meth c s₁ [] 0 0 := Stand.of_body Bd
  have e0 : s₁.heap = h0 := by rw [← hh, Bd.state]; rfl
  have N0 := Fr.nil n0
  have G0 : Goes p e below s₁ (entryFrame m #[(.ref a1), (.int c1), (.int c2), (.int c3)] 4) s₁ (mkF m 0 #[.val (.ref a1), .val (.int c1), .val (.int c2), .val (.int c3)] []) := fun _ k => castTop (by first | (simp [entryFrame, mkF, argsToLocals, Value.category]; done) | rfl : (entryFrame m #[(.ref a1), (.int c1), (.int c2), (.int c3)] 4) = mkF m 0 #[.val (.ref a1), .val (.int c1), .val (.int c2), .val (.int c3)] []) k
  have G1 : Goes p e below s₁ (entryFrame m #[(.ref a1), (.int c1), (.int c2), (.int c3)] 4) s₁ (mkF m 1 #[.val (.ref a1), .val (.int c1), .val (.int c2), .val (.int c3)] [(.ref a1)]) := fun _ k => G0 _ (by
      show Steps p.tables e below (s₁.setTop (mkF m 0 #[.val (.ref a1), .val (.int c1), .val (.int c2), .val (.int c3)] [])) _
      refine XS.aloadN X0.here hx rfl (hb hby own_d1_0) rfl rfl ?_
      exact k)
  obtain ⟨_, _, ⟨T2, L2, k2, n2⟩, -, X2, ⟨Lc2, hQ2, l2, y2, z2⟩, st2⟩ := X0.specialBack hx (y := (⟨"java/lang/Record", "<init>", "()V"⟩ : MethodName)) rfl hown (mvT hZ (hw _ (List.mem_of_getElem? (i := 6) rfl))) (mvT hZ (hw _ (List.mem_of_getElem? (i := 7) rfl))) (mvT hZ (hw _ (List.mem_of_getElem? (i := 10) rfl))) (by decide) (backOf (W := 0) (rm2 l Z a0 hw [] a1 h0 n0 Z0) hZ (hw _ (List.mem_of_getElem? (i := 10) rfl)) (hw _ (List.mem_of_getElem? (i := 9) rfl)) (by decide) (by decide)) (g := (mkF m 1 #[.val (.ref a1), .val (.int c1), .val (.int c2), .val (.int c3)] [(.ref a1)])) rfl (by rw [hml]; rfl) (Steps.refl _) (a := a1) (argsL := []) (rest := []) (lenOf own_pd0 rfl) rfl (by show 2 * 0 + _ ≤ _; exact Nat.le_of_eq rfl) (hb hby own_d1_1) (fun _ _ => ⟨rfl, e0, (by decide : 0 + 0 ≤ _), (by decide : 0 + 0 ≤ _)⟩)
  dsimp only [Pt.U, Pt.locs, Pt.cells, Pt.slots] at X2 l2 y2 z2 st2 hQ2
  subst l2 y2 z2
  obtain ⟨rfl, N2q, hh2⟩ := hQ2
  have N2 := Fr.app N0 N2q
  have G2 : Goes p e below s₁ (entryFrame m #[(.ref a1), (.int c1), (.int c2), (.int c3)] 4) T2 (mkF m 4 #[.val (.ref a1), .val (.int c1), .val (.int c2), .val (.int c3)] []) := fun _ k => G1 _ (st2.trans k)
  have G3 : Goes p e below s₁ (entryFrame m #[(.ref a1), (.int c1), (.int c2), (.int c3)] 4) T2 (mkF m 6 #[.val (.ref a1), .val (.int c1), .val (.int c2), .val (.int c3)] [(.int c1), (.ref a1)]) := fun _ k => G2 _ (by
      show Steps p.tables e below (T2.setTop (mkF m 4 #[.val (.ref a1), .val (.int c1), .val (.int c2), .val (.int c3)] [])) _
      refine XS.aloadN X2.here hx rfl (hb hby own_d1_4) rfl rfl ?_
      show Steps p.tables e below (T2.setTop (mkF m 5 #[.val (.ref a1), .val (.int c1), .val (.int c2), .val (.int c3)] [(.ref a1)])) _
      refine XS.iloadN X2.here hx rfl (hb hby own_d1_5) rfl ?_
      exact k)
  obtain ⟨T4, h4, X4, e4, W4, st4⟩ := putFN X2 hx hZ hown (hw _ (List.mem_of_getElem? (i := 14) rfl)) Via.refl hh2 F1 E (Or.inr ⟨(hw _ (List.mem_of_getElem? (i := 15) rfl)), rfl, hnm⟩) (hw _ (List.mem_of_getElem? (i := 1) rfl)) (ty := .boolean) (v' := (.int (nar .boolean c1))) (by decide) rfl (fits_nar_bool _) (g := (mkF m 6 #[.val (.ref a1), .val (.int c1), .val (.int c2), .val (.int c3)] [(.int c1), (.ref a1)])) rfl rfl (hb hby own_d1_6)
  have G4 : Goes p e below s₁ (entryFrame m #[(.ref a1), (.int c1), (.int c2), (.int c3)] 4) T4 (mkF m 9 #[.val (.ref a1), .val (.int c1), .val (.int c2), .val (.int c3)] []) := fun _ k => G3 _ (st4 _ k)
  have N4 := Fr.snoc X4 N2 ga
  have f5 := E.wr W4
  have f6 := F2.other W4 (Or.inr (slot_ne (Or.inr (hw _ (List.mem_of_getElem? (i := 17) rfl))) (Or.inr (hw _ (List.mem_of_getElem? (i := 15) rfl))) (by decide) (t := .boolean) (t' := .boolean) (by decide) (by decide)))
  have f7 := F3.other W4 (Or.inr (slot_ne (Or.inr (hw _ (List.mem_of_getElem? (i := 19) rfl))) (Or.inr (hw _ (List.mem_of_getElem? (i := 15) rfl))) (by decide) (t := .boolean) (t' := .boolean) (by decide) (by decide)))
  have f8 := Fld.same W4 F1
  rw [own_nar hb1] at f8
  have f9 := Keep.wr (Keep.refl h0 [a1]) W4 (Or.inl (List.mem_singleton.mpr rfl))
  have G10 : Goes p e below s₁ (entryFrame m #[(.ref a1), (.int c1), (.int c2), (.int c3)] 4) T4 (mkF m 11 #[.val (.ref a1), .val (.int c1), .val (.int c2), .val (.int c3)] [(.int c2), (.ref a1)]) := fun _ k => G4 _ (by
      show Steps p.tables e below (T4.setTop (mkF m 9 #[.val (.ref a1), .val (.int c1), .val (.int c2), .val (.int c3)] [])) _
      refine XS.aloadN X4.here hx rfl (hb hby own_d1_9) rfl rfl ?_
      show Steps p.tables e below (T4.setTop (mkF m 10 #[.val (.ref a1), .val (.int c1), .val (.int c2), .val (.int c3)] [(.ref a1)])) _
      refine XS.iloadN X4.here hx rfl (hb hby own_d1_10) rfl ?_
      exact k)
  obtain ⟨T11, h11, X11, e11, W11, st11⟩ := putFN X4 hx hZ hown (hw _ (List.mem_of_getElem? (i := 16) rfl)) Via.refl e4 f6 f5 (Or.inr ⟨(hw _ (List.mem_of_getElem? (i := 17) rfl)), rfl, hnm⟩) (hw _ (List.mem_of_getElem? (i := 1) rfl)) (ty := .boolean) (v' := (.int (nar .boolean c2))) (by decide) rfl (fits_nar_bool _) (g := (mkF m 11 #[.val (.ref a1), .val (.int c1), .val (.int c2), .val (.int c3)] [(.int c2), (.ref a1)])) rfl rfl (hb hby own_d1_11)
  have G11 : Goes p e below s₁ (entryFrame m #[(.ref a1), (.int c1), (.int c2), (.int c3)] 4) T11 (mkF m 14 #[.val (.ref a1), .val (.int c1), .val (.int c2), .val (.int c3)] []) := fun _ k => G10 _ (st11 _ k)
  have N11 := Fr.snoc X11 N4 ga
  have f12 := f5.wr W11
  have f13 := f7.other W11 (Or.inr (slot_ne (Or.inr (hw _ (List.mem_of_getElem? (i := 19) rfl))) (Or.inr (hw _ (List.mem_of_getElem? (i := 17) rfl))) (by decide) (t := .boolean) (t' := .boolean) (by decide) (by decide)))
  have f14 := f8.other W11 (Or.inr (slot_ne (Or.inr (hw _ (List.mem_of_getElem? (i := 15) rfl))) (Or.inr (hw _ (List.mem_of_getElem? (i := 17) rfl))) (by decide) (t := .boolean) (t' := .boolean) (by decide) (by decide)))
  have f15 := Fld.same W11 f6
  rw [own_nar hb2] at f15
  have f16 := Keep.wr f9 W11 (Or.inl (List.mem_singleton.mpr rfl))
  have G17 : Goes p e below s₁ (entryFrame m #[(.ref a1), (.int c1), (.int c2), (.int c3)] 4) T11 (mkF m 16 #[.val (.ref a1), .val (.int c1), .val (.int c2), .val (.int c3)] [(.int c3), (.ref a1)]) := fun _ k => G11 _ (by
      show Steps p.tables e below (T11.setTop (mkF m 14 #[.val (.ref a1), .val (.int c1), .val (.int c2), .val (.int c3)] [])) _
      refine XS.aloadN X11.here hx rfl (hb hby own_d1_14) rfl rfl ?_
      show Steps p.tables e below (T11.setTop (mkF m 15 #[.val (.ref a1), .val (.int c1), .val (.int c2), .val (.int c3)] [(.ref a1)])) _
      refine XS.iloadN X11.here hx rfl (hb hby own_d1_15) rfl ?_
      exact k)
  obtain ⟨T18, h18, X18, e18, W18, st18⟩ := putFN X11 hx hZ hown (hw _ (List.mem_of_getElem? (i := 18) rfl)) Via.refl e11 f13 f12 (Or.inr ⟨(hw _ (List.mem_of_getElem? (i := 19) rfl)), rfl, hnm⟩) (hw _ (List.mem_of_getElem? (i := 1) rfl)) (ty := .boolean) (v' := (.int (nar .boolean c3))) (by decide) rfl (fits_nar_bool _) (g := (mkF m 16 #[.val (.ref a1), .val (.int c1), .val (.int c2), .val (.int c3)] [(.int c3), (.ref a1)])) rfl rfl (hb hby own_d1_16)
  have G18 : Goes p e below s₁ (entryFrame m #[(.ref a1), (.int c1), (.int c2), (.int c3)] 4) T18 (mkF m 19 #[.val (.ref a1), .val (.int c1), .val (.int c2), .val (.int c3)] []) := fun _ k => G17 _ (st18 _ k)
  have N18 := Fr.snoc X18 N11 ga
  have f19 := f12.wr W18
  have f20 := f14.other W18 (Or.inr (slot_ne (Or.inr (hw _ (List.mem_of_getElem? (i := 15) rfl))) (Or.inr (hw _ (List.mem_of_getElem? (i := 19) rfl))) (by decide) (t := .boolean) (t' := .boolean) (by decide) (by decide)))
  have f21 := f15.other W18 (Or.inr (slot_ne (Or.inr (hw _ (List.mem_of_getElem? (i := 17) rfl))) (Or.inr (hw _ (List.mem_of_getElem? (i := 19) rfl))) (by decide) (t := .boolean) (t' := .boolean) (by decide) (by decide)))
  have f22 := Fld.same W18 f13
  rw [own_nar hb3] at f22
  have f23 := Keep.wr f16 W18 (Or.inl (List.mem_singleton.mpr rfl))
  obtain ⟨fs, hr, hrun, hended, hW, hsame⟩ := X18.leave (v := none) (fun _ => rfl)
  refine ⟨_, _, G18 _ (X18.returnOut hx Bd.returns (hb hby own_d1_19) hr), hrun, hended, _, _, rfl, ?_, ⟨_, rfl⟩, hW, hsame.mono (by decide) (by decide)⟩
  show Q1 Z a1 c1 c2 c3 h0 n0 _ T18.heap _
  rw [e18]
  exact ⟨rfl, N18, f23, f19, f20, f21, f22⟩
theorem own_d4_0 : decode prog_84_method_5_code 0 = .ok (.new 8, 3) := by decide +kernel
theorem own_d4_3 : decode prog_84_method_5_code 3 = .ok (.dup, 1) := by decide +kernel
theorem own_d4_4 : decode prog_84_method_5_code 4 = .ok (.aload_n 0, 1) := by decide +kernel
theorem own_d4_5 : decode prog_84_method_5_code 5 = .ok (.getfield 7, 3) := by decide +kernel
theorem own_d4_8 : decode prog_84_method_5_code 8 = .ok (.ifCond .ne 10, 3) := by decide +kernel
theorem own_d4_11 : decode prog_84_method_5_code 11 = .ok (.aload_n 1, 1) := by decide +kernel
theorem own_d4_12 : decode prog_84_method_5_code 12 = .ok (.getfield 7, 3) := by decide +kernel
theorem own_d4_15 : decode prog_84_method_5_code 15 = .ok (.ifCond .eq 7, 3) := by decide +kernel
theorem own_d4_18 : decode prog_84_method_5_code 18 = .ok (.iconst 1, 1) := by decide +kernel
theorem own_d4_19 : decode prog_84_method_5_code 19 = .ok (.goto 4, 3) := by decide +kernel
theorem own_d4_22 : decode prog_84_method_5_code 22 = .ok (.iconst 0, 1) := by decide +kernel
theorem own_d4_23 : decode prog_84_method_5_code 23 = .ok (.aload_n 0, 1) := by decide +kernel
theorem own_d4_24 : decode prog_84_method_5_code 24 = .ok (.getfield 13, 3) := by decide +kernel
theorem own_d4_27 : decode prog_84_method_5_code 27 = .ok (.ifCond .ne 10, 3) := by decide +kernel
theorem own_d4_30 : decode prog_84_method_5_code 30 = .ok (.aload_n 1, 1) := by decide +kernel
theorem own_d4_31 : decode prog_84_method_5_code 31 = .ok (.getfield 13, 3) := by decide +kernel
theorem own_d4_34 : decode prog_84_method_5_code 34 = .ok (.ifCond .eq 7, 3) := by decide +kernel
theorem own_d4_37 : decode prog_84_method_5_code 37 = .ok (.iconst 1, 1) := by decide +kernel
theorem own_d4_38 : decode prog_84_method_5_code 38 = .ok (.goto 4, 3) := by decide +kernel
theorem own_d4_41 : decode prog_84_method_5_code 41 = .ok (.iconst 0, 1) := by decide +kernel
theorem own_d4_42 : decode prog_84_method_5_code 42 = .ok (.aload_n 0, 1) := by decide +kernel
theorem own_d4_43 : decode prog_84_method_5_code 43 = .ok (.getfield 16, 3) := by decide +kernel
theorem own_d4_46 : decode prog_84_method_5_code 46 = .ok (.ifCond .ne 10, 3) := by decide +kernel
theorem own_d4_49 : decode prog_84_method_5_code 49 = .ok (.aload_n 1, 1) := by decide +kernel
theorem own_d4_50 : decode prog_84_method_5_code 50 = .ok (.getfield 16, 3) := by decide +kernel
theorem own_d4_53 : decode prog_84_method_5_code 53 = .ok (.ifCond .eq 7, 3) := by decide +kernel
theorem own_d4_56 : decode prog_84_method_5_code 56 = .ok (.iconst 1, 1) := by decide +kernel
theorem own_d4_57 : decode prog_84_method_5_code 57 = .ok (.goto 4, 3) := by decide +kernel
theorem own_d4_60 : decode prog_84_method_5_code 60 = .ok (.iconst 0, 1) := by decide +kernel
theorem own_d4_61 : decode prog_84_method_5_code 61 = .ok (.invokespecial 19, 3) := by decide +kernel
theorem own_d4_64 : decode prog_84_method_5_code 64 = .ok (.areturn, 1) := by decide +kernel
set_option maxRecDepth 65536 in
set_option maxHeartbeats 40000000 in
theorem rm4 (l : Launch) (Z : State) (a0 : Array Value) (hw : ∀ d ∈ tables_1, d.before a0 Z = true) (ws : List Jvm.Cond) (a1 a2 : Addr) (c1 c2 c3 d1 d2 d3 : Int32) (h0 : Heap) (n0 : Nat) (Z0 : n0 ≤ h0.size) (F1 : Fld Z h0 a1 "com/example/retree/retree/QualifiedType$Qualifiers" "isConst" "Z" (.int c1)) (F2 : Fld Z h0 a1 "com/example/retree/retree/QualifiedType$Qualifiers" "isVolatile" "Z" (.int c2)) (F3 : Fld Z h0 a1 "com/example/retree/retree/QualifiedType$Qualifiers" "isRestrict" "Z" (.int c3)) (Dp1 : Fld Z h0 a2 "com/example/retree/retree/QualifiedType$Qualifiers" "isConst" "Z" (.int d1)) (Dp2 : Fld Z h0 a2 "com/example/retree/retree/QualifiedType$Qualifiers" "isVolatile" "Z" (.int d2)) (Dp3 : Fld Z h0 a2 "com/example/retree/retree/QualifiedType$Qualifiers" "isRestrict" "Z" (.int d3)) (hb1 : Bit c1) (hb2 : Bit c2) (hb3 : Bit c3) (hd1 : Bit d1) (hd2 : Bit d2) (hd3 : Bit d3) :
    MetFree l (⟨"com/example/retree/retree/QualifiedType$Qualifiers", "union", "(Lcom/example/retree/retree/QualifiedType$Qualifiers;)Lcom/example/retree/retree/QualifiedType$Qualifiers;"⟩ : MethodName) (head1 (Jvm.Cond.code (⟨"com/example/retree/retree/QualifiedType$Qualifiers", "union", "(Lcom/example/retree/retree/QualifiedType$Qualifiers;)Lcom/example/retree/retree/QualifiedType$Qualifiers;"⟩ : MethodName) prog_84_method_5_code 2 (some (.object "com/example/retree/retree/QualifiedType$Qualifiers")) :: ws) ({ frames := 3, cells := 1, slots := 3, locals := 40 } : Room)) (fun a U => a = #[(.ref a1), (.ref a2)] ∧ Z.Warmed39 U.vm ∧ U.heap = h0) (fun _ _ _ _ _ => True) (fun _ U oc U' => ∃ v L, oc = .returned v ∧ Q4 Z c1 c2 c3 d1 d2 d3 h0 n0 v U'.heap L ∧ FrameEnd U oc U' L ({ frames := 3, cells := 1, slots := 3, locals := 40 } : Room).cells ({ frames := 3, cells := 1, slots := 3, locals := 40 } : Room).slots) := by
  refine MetFree.of_bodySF (plainFor_of_name own_pn1) hisR ?_
  intro p e s m args below meth c s₁ Bd hml0 hP hK
  obtain ⟨rfl, hZ, hh⟩ := hP
  have hx := Bd.exec
  have hby := Bd.bytes
  have hml : c.maxLocals = 2 := hml0
  have hown : s.vm.findClass "com/example/retree/retree/QualifiedType$Qualifiers" = some m.cls := findClass_of_methodNamed Bd.named
  have hnm := (name_of_methodNamed Bd.named Bd.method).1
  have X0 : Stand p l e ({ frames := 3, cells := 1, slots := 3, locals := 40 } : Room) s m #[(.ref a1), (.ref a2)] below meth c s₁ [] 0 0 := Stand.of_body Bd
  have e0 : s₁.heap = h0 := by rw [← hh, Bd.state]; rfl
  have N0 := Fr.nil n0
  have G0 : Goes p e below s₁ (entryFrame m #[(.ref a1), (.ref a2)] 2) s₁ (mkF m 0 #[.val (.ref a1), .val (.ref a2)] []) := fun _ k => castTop (by first | (simp [entryFrame, mkF, argsToLocals, Value.category]; done) | rfl : (entryFrame m #[(.ref a1), (.ref a2)] 2) = mkF m 0 #[.val (.ref a1), .val (.ref a2)] []) k
  obtain ⟨T1, h1, X1, e1, E1, A1, D1, -, st1⟩ := newO X0 hx hZ hown (hw _ (List.mem_of_getElem? (i := 25) rfl)) (hw _ (List.mem_of_getElem? (i := 1) rfl)) (hw _ (List.mem_of_getElem? (i := 2) rfl)) e0 (g := (mkF m 0 #[.val (.ref a1), .val (.ref a2)] [])) rfl (hb hby own_d4_0) (by decide) (by decide)
  obtain ⟨b1, g1⟩ : ∃ z, z = h0.size := ⟨_, rfl⟩
  rw [← g1] at A1 D1 st1
  have FisConst_1 : Fld Z h1 b1 "com/example/retree/retree/QualifiedType$Qualifiers" "isConst" "Z" (.int (0 : Int32)) := D1 (Or.inr (hw _ (List.mem_of_getElem? (i := 15) rfl))) (ty := .boolean) (by decide)
  have FisVolatile_1 : Fld Z h1 b1 "com/example/retree/retree/QualifiedType$Qualifiers" "isVolatile" "Z" (.int (0 : Int32)) := D1 (Or.inr (hw _ (List.mem_of_getElem? (i := 17) rfl))) (ty := .boolean) (by decide)
  have FisRestrict_1 : Fld Z h1 b1 "com/example/retree/retree/QualifiedType$Qualifiers" "isRestrict" "Z" (.int (0 : Int32)) := D1 (Or.inr (hw _ (List.mem_of_getElem? (i := 19) rfl))) (ty := .boolean) (by decide)
  have G1 : Goes p e below s₁ (entryFrame m #[(.ref a1), (.ref a2)] 2) T1 (mkF m 3 #[.val (.ref a1), .val (.ref a2)] [(.ref b1)]) := fun _ k => G0 _ (st1 _ k)
  have f2 := (Keep.refl h0 []).ext E1
  have gb : n0 ≤ b1 := Nat.le_trans Z0 (Nat.le_of_eq g1.symm)
  have Zn : n0 ≤ h1.size := Nat.le_trans Z0 E1.1
  have szb : h0.size ≤ b1 := Nat.le_of_eq g1.symm
  have f3 := F1.ext E1
  have f4 := F2.ext E1
  have f5 := F3.ext E1
  have f6 := Dp1.ext E1
  have f7 := Dp2.ext E1
  have f8 := Dp3.ext E1
  have G9 : Goes p e below s₁ (entryFrame m #[(.ref a1), (.ref a2)] 2) T1 (mkF m 5 #[.val (.ref a1), .val (.ref a2)] [(.ref a1), (.ref b1), (.ref b1)]) := fun _ k => G1 _ (by
      show Steps p.tables e below (T1.setTop (mkF m 3 #[.val (.ref a1), .val (.ref a2)] [(.ref b1)])) _
      refine XS.dup X1.here hx rfl (hb hby own_d4_3) rfl rfl ?_
      show Steps p.tables e below (T1.setTop (mkF m 4 #[.val (.ref a1), .val (.ref a2)] [(.ref b1), (.ref b1)])) _
      refine XS.aloadN X1.here hx rfl (hb hby own_d4_4) rfl rfl ?_
      exact k)
  obtain ⟨T10, X10, e10, st10⟩ := getF X1 hx hZ hown (host := "") (Or.inl (hw _ (List.mem_of_getElem? (i := 14) rfl))) Via.refl e1 f3 (g := (mkF m 5 #[.val (.ref a1), .val (.ref a2)] [(.ref a1), (.ref b1), (.ref b1)])) rfl rfl (hb hby own_d4_5)
  have G10 : Goes p e below s₁ (entryFrame m #[(.ref a1), (.ref a2)] 2) T10 (mkF m 8 #[.val (.ref a1), .val (.ref a2)] [(.int c1), (.ref b1), (.ref b1)]) := fun _ k => G9 _ (st10 _ k)
  obtain ⟨T11, X11, e11, G11⟩ : ∃ T', Stand p l e ({ frames := 3, cells := 1, slots := 3, locals := 40 } : Room) s m #[(.ref a1), (.ref a2)] below meth c T' [] 1 3 ∧ T'.heap = h1 ∧ Goes p e below s₁ (entryFrame m #[(.ref a1), (.ref a2)] 2) T' (mkF m 23 #[.val (.ref a1), .val (.ref a2)] [(.int (c1 ||| d1)), (.ref b1), (.ref b1)]) := by
    by_cases h1 : c1 = (0 : Int32)
    · have G12 : Goes p e below s₁ (entryFrame m #[(.ref a1), (.ref a2)] 2) T10 (mkF m 11 #[.val (.ref a1), .val (.ref a2)] [(.ref b1), (.ref b1)]) := fun _ k => G10 _ (by
          show Steps p.tables e below (T10.setTop (mkF m 8 #[.val (.ref a1), .val (.ref a2)] [(.int c1), (.ref b1), (.ref b1)])) _
          refine XS.ifNo X10.here hx rfl (hb hby own_d4_8) rfl ((if0 _ _).trans (teq h1).2) ?_
          exact k)
      have G13 : Goes p e below s₁ (entryFrame m #[(.ref a1), (.ref a2)] 2) T10 (mkF m 12 #[.val (.ref a1), .val (.ref a2)] [(.ref a2), (.ref b1), (.ref b1)]) := fun _ k => G12 _ (by
          show Steps p.tables e below (T10.setTop (mkF m 11 #[.val (.ref a1), .val (.ref a2)] [(.ref b1), (.ref b1)])) _
          refine XS.aloadN X10.here hx rfl (hb hby own_d4_11) rfl rfl ?_
          exact k)
      obtain ⟨T14, X14, e14, st14⟩ := getF X10 hx hZ hown (host := "") (Or.inl (hw _ (List.mem_of_getElem? (i := 14) rfl))) Via.refl e10 f6 (g := (mkF m 12 #[.val (.ref a1), .val (.ref a2)] [(.ref a2), (.ref b1), (.ref b1)])) rfl rfl (hb hby own_d4_12)
      have G14 : Goes p e below s₁ (entryFrame m #[(.ref a1), (.ref a2)] 2) T14 (mkF m 15 #[.val (.ref a1), .val (.ref a2)] [(.int d1), (.ref b1), (.ref b1)]) := fun _ k => G13 _ (st14 _ k)
      by_cases h2 : d1 = (0 : Int32)
      · have G15 : Goes p e below s₁ (entryFrame m #[(.ref a1), (.ref a2)] 2) T14 (mkF m 22 #[.val (.ref a1), .val (.ref a2)] [(.ref b1), (.ref b1)]) := fun _ k => G14 _ (by
            show Steps p.tables e below (T14.setTop (mkF m 15 #[.val (.ref a1), .val (.ref a2)] [(.int d1), (.ref b1), (.ref b1)])) _
            refine XS.ifYes X14.here hx rfl (pc0 := 15) (pc' := 22) rfl (hb hby own_d4_15) rfl ((if0 _ _).trans (teq h2).1) (by decide) (by decide) ?_
            exact k)
        have G16 : Goes p e below s₁ (entryFrame m #[(.ref a1), (.ref a2)] 2) T14 (mkF m 23 #[.val (.ref a1), .val (.ref a2)] [(.int (0 : Int32)), (.ref b1), (.ref b1)]) := fun _ k => G15 _ (by
            show Steps p.tables e below (T14.setTop (mkF m 22 #[.val (.ref a1), .val (.ref a2)] [(.ref b1), (.ref b1)])) _
            refine XS.iconst X14.here hx rfl (hb hby own_d4_22) ?_
            exact k)
        have hv : (c1 ||| d1) = (0 : Int32) := own_or_c h1 h2
        exact ⟨_, X14, e14, fun _ k => G16 _ (by rw [hv] at k; exact k)⟩
      · have G17 : Goes p e below s₁ (entryFrame m #[(.ref a1), (.ref a2)] 2) T14 (mkF m 18 #[.val (.ref a1), .val (.ref a2)] [(.ref b1), (.ref b1)]) := fun _ k => G14 _ (by
            show Steps p.tables e below (T14.setTop (mkF m 15 #[.val (.ref a1), .val (.ref a2)] [(.int d1), (.ref b1), (.ref b1)])) _
            refine XS.ifNo X14.here hx rfl (hb hby own_d4_15) rfl ((if0 _ _).trans (feq h2).1) ?_
            exact k)
        have G18 : Goes p e below s₁ (entryFrame m #[(.ref a1), (.ref a2)] 2) T14 (mkF m 23 #[.val (.ref a1), .val (.ref a2)] [(.int (1 : Int32)), (.ref b1), (.ref b1)]) := fun _ k => G17 _ (by
            show Steps p.tables e below (T14.setTop (mkF m 18 #[.val (.ref a1), .val (.ref a2)] [(.ref b1), (.ref b1)])) _
            refine XS.iconst X14.here hx rfl (hb hby own_d4_18) ?_
            show Steps p.tables e below (T14.setTop (mkF m 19 #[.val (.ref a1), .val (.ref a2)] [(.int (1 : Int32)), (.ref b1), (.ref b1)])) _
            refine XS.goto X14.here hx rfl (pc0 := 19) (pc' := 23) rfl (hb hby own_d4_19) (by decide) (by decide) ?_
            exact k)
        have hv : (c1 ||| d1) = (1 : Int32) := own_or_b hd1 h1 h2
        exact ⟨_, X14, e14, fun _ k => G18 _ (by rw [hv] at k; exact k)⟩
    · have G19 : Goes p e below s₁ (entryFrame m #[(.ref a1), (.ref a2)] 2) T10 (mkF m 18 #[.val (.ref a1), .val (.ref a2)] [(.ref b1), (.ref b1)]) := fun _ k => G10 _ (by
          show Steps p.tables e below (T10.setTop (mkF m 8 #[.val (.ref a1), .val (.ref a2)] [(.int c1), (.ref b1), (.ref b1)])) _
          refine XS.ifYes X10.here hx rfl (pc0 := 8) (pc' := 18) rfl (hb hby own_d4_8) rfl ((if0 _ _).trans (feq h1).2) (by decide) (by decide) ?_
          exact k)
      have G20 : Goes p e below s₁ (entryFrame m #[(.ref a1), (.ref a2)] 2) T10 (mkF m 23 #[.val (.ref a1), .val (.ref a2)] [(.int (1 : Int32)), (.ref b1), (.ref b1)]) := fun _ k => G19 _ (by
          show Steps p.tables e below (T10.setTop (mkF m 18 #[.val (.ref a1), .val (.ref a2)] [(.ref b1), (.ref b1)])) _
          refine XS.iconst X10.here hx rfl (hb hby own_d4_18) ?_
          show Steps p.tables e below (T10.setTop (mkF m 19 #[.val (.ref a1), .val (.ref a2)] [(.int (1 : Int32)), (.ref b1), (.ref b1)])) _
          refine XS.goto X10.here hx rfl (pc0 := 19) (pc' := 23) rfl (hb hby own_d4_19) (by decide) (by decide) ?_
          exact k)
      have hv : (c1 ||| d1) = (1 : Int32) := own_or_a hb1 hd1 h1
      exact ⟨_, X10, e10, fun _ k => G20 _ (by rw [hv] at k; exact k)⟩
  have G21 : Goes p e below s₁ (entryFrame m #[(.ref a1), (.ref a2)] 2) T11 (mkF m 24 #[.val (.ref a1), .val (.ref a2)] [(.ref a1), (.int (c1 ||| d1)), (.ref b1), (.ref b1)]) := fun _ k => G11 _ (by
      show Steps p.tables e below (T11.setTop (mkF m 23 #[.val (.ref a1), .val (.ref a2)] [(.int (c1 ||| d1)), (.ref b1), (.ref b1)])) _
      refine XS.aloadN X11.here hx rfl (hb hby own_d4_23) rfl rfl ?_
      exact k)
  obtain ⟨T22, X22, e22, st22⟩ := getF X11 hx hZ hown (host := "") (Or.inl (hw _ (List.mem_of_getElem? (i := 16) rfl))) Via.refl e11 f4 (g := (mkF m 24 #[.val (.ref a1), .val (.ref a2)] [(.ref a1), (.int (c1 ||| d1)), (.ref b1), (.ref b1)])) rfl rfl (hb hby own_d4_24)
  have G22 : Goes p e below s₁ (entryFrame m #[(.ref a1), (.ref a2)] 2) T22 (mkF m 27 #[.val (.ref a1), .val (.ref a2)] [(.int c2), (.int (c1 ||| d1)), (.ref b1), (.ref b1)]) := fun _ k => G21 _ (st22 _ k)
  obtain ⟨T23, X23, e23, G23⟩ : ∃ T', Stand p l e ({ frames := 3, cells := 1, slots := 3, locals := 40 } : Room) s m #[(.ref a1), (.ref a2)] below meth c T' [] 1 3 ∧ T'.heap = h1 ∧ Goes p e below s₁ (entryFrame m #[(.ref a1), (.ref a2)] 2) T' (mkF m 42 #[.val (.ref a1), .val (.ref a2)] [(.int (c2 ||| d2)), (.int (c1 ||| d1)), (.ref b1), (.ref b1)]) := by
    by_cases h1 : c2 = (0 : Int32)
    · have G24 : Goes p e below s₁ (entryFrame m #[(.ref a1), (.ref a2)] 2) T22 (mkF m 30 #[.val (.ref a1), .val (.ref a2)] [(.int (c1 ||| d1)), (.ref b1), (.ref b1)]) := fun _ k => G22 _ (by
          show Steps p.tables e below (T22.setTop (mkF m 27 #[.val (.ref a1), .val (.ref a2)] [(.int c2), (.int (c1 ||| d1)), (.ref b1), (.ref b1)])) _
          refine XS.ifNo X22.here hx rfl (hb hby own_d4_27) rfl ((if0 _ _).trans (teq h1).2) ?_
          exact k)
      have G25 : Goes p e below s₁ (entryFrame m #[(.ref a1), (.ref a2)] 2) T22 (mkF m 31 #[.val (.ref a1), .val (.ref a2)] [(.ref a2), (.int (c1 ||| d1)), (.ref b1), (.ref b1)]) := fun _ k => G24 _ (by
          show Steps p.tables e below (T22.setTop (mkF m 30 #[.val (.ref a1), .val (.ref a2)] [(.int (c1 ||| d1)), (.ref b1), (.ref b1)])) _
          refine XS.aloadN X22.here hx rfl (hb hby own_d4_30) rfl rfl ?_
          exact k)
      obtain ⟨T26, X26, e26, st26⟩ := getF X22 hx hZ hown (host := "") (Or.inl (hw _ (List.mem_of_getElem? (i := 16) rfl))) Via.refl e22 f7 (g := (mkF m 31 #[.val (.ref a1), .val (.ref a2)] [(.ref a2), (.int (c1 ||| d1)), (.ref b1), (.ref b1)])) rfl rfl (hb hby own_d4_31)
      have G26 : Goes p e below s₁ (entryFrame m #[(.ref a1), (.ref a2)] 2) T26 (mkF m 34 #[.val (.ref a1), .val (.ref a2)] [(.int d2), (.int (c1 ||| d1)), (.ref b1), (.ref b1)]) := fun _ k => G25 _ (st26 _ k)
      by_cases h2 : d2 = (0 : Int32)
      · have G27 : Goes p e below s₁ (entryFrame m #[(.ref a1), (.ref a2)] 2) T26 (mkF m 41 #[.val (.ref a1), .val (.ref a2)] [(.int (c1 ||| d1)), (.ref b1), (.ref b1)]) := fun _ k => G26 _ (by
            show Steps p.tables e below (T26.setTop (mkF m 34 #[.val (.ref a1), .val (.ref a2)] [(.int d2), (.int (c1 ||| d1)), (.ref b1), (.ref b1)])) _
            refine XS.ifYes X26.here hx rfl (pc0 := 34) (pc' := 41) rfl (hb hby own_d4_34) rfl ((if0 _ _).trans (teq h2).1) (by decide) (by decide) ?_
            exact k)
        have G28 : Goes p e below s₁ (entryFrame m #[(.ref a1), (.ref a2)] 2) T26 (mkF m 42 #[.val (.ref a1), .val (.ref a2)] [(.int (0 : Int32)), (.int (c1 ||| d1)), (.ref b1), (.ref b1)]) := fun _ k => G27 _ (by
            show Steps p.tables e below (T26.setTop (mkF m 41 #[.val (.ref a1), .val (.ref a2)] [(.int (c1 ||| d1)), (.ref b1), (.ref b1)])) _
            refine XS.iconst X26.here hx rfl (hb hby own_d4_41) ?_
            exact k)
        have hv : (c2 ||| d2) = (0 : Int32) := own_or_c h1 h2
        exact ⟨_, X26, e26, fun _ k => G28 _ (by rw [hv] at k; exact k)⟩
      · have G29 : Goes p e below s₁ (entryFrame m #[(.ref a1), (.ref a2)] 2) T26 (mkF m 37 #[.val (.ref a1), .val (.ref a2)] [(.int (c1 ||| d1)), (.ref b1), (.ref b1)]) := fun _ k => G26 _ (by
            show Steps p.tables e below (T26.setTop (mkF m 34 #[.val (.ref a1), .val (.ref a2)] [(.int d2), (.int (c1 ||| d1)), (.ref b1), (.ref b1)])) _
            refine XS.ifNo X26.here hx rfl (hb hby own_d4_34) rfl ((if0 _ _).trans (feq h2).1) ?_
            exact k)
        have G30 : Goes p e below s₁ (entryFrame m #[(.ref a1), (.ref a2)] 2) T26 (mkF m 42 #[.val (.ref a1), .val (.ref a2)] [(.int (1 : Int32)), (.int (c1 ||| d1)), (.ref b1), (.ref b1)]) := fun _ k => G29 _ (by
            show Steps p.tables e below (T26.setTop (mkF m 37 #[.val (.ref a1), .val (.ref a2)] [(.int (c1 ||| d1)), (.ref b1), (.ref b1)])) _
            refine XS.iconst X26.here hx rfl (hb hby own_d4_37) ?_
            show Steps p.tables e below (T26.setTop (mkF m 38 #[.val (.ref a1), .val (.ref a2)] [(.int (1 : Int32)), (.int (c1 ||| d1)), (.ref b1), (.ref b1)])) _
            refine XS.goto X26.here hx rfl (pc0 := 38) (pc' := 42) rfl (hb hby own_d4_38) (by decide) (by decide) ?_
            exact k)
        have hv : (c2 ||| d2) = (1 : Int32) := own_or_b hd2 h1 h2
        exact ⟨_, X26, e26, fun _ k => G30 _ (by rw [hv] at k; exact k)⟩
    · have G31 : Goes p e below s₁ (entryFrame m #[(.ref a1), (.ref a2)] 2) T22 (mkF m 37 #[.val (.ref a1), .val (.ref a2)] [(.int (c1 ||| d1)), (.ref b1), (.ref b1)]) := fun _ k => G22 _ (by
          show Steps p.tables e below (T22.setTop (mkF m 27 #[.val (.ref a1), .val (.ref a2)] [(.int c2), (.int (c1 ||| d1)), (.ref b1), (.ref b1)])) _
          refine XS.ifYes X22.here hx rfl (pc0 := 27) (pc' := 37) rfl (hb hby own_d4_27) rfl ((if0 _ _).trans (feq h1).2) (by decide) (by decide) ?_
          exact k)
      have G32 : Goes p e below s₁ (entryFrame m #[(.ref a1), (.ref a2)] 2) T22 (mkF m 42 #[.val (.ref a1), .val (.ref a2)] [(.int (1 : Int32)), (.int (c1 ||| d1)), (.ref b1), (.ref b1)]) := fun _ k => G31 _ (by
          show Steps p.tables e below (T22.setTop (mkF m 37 #[.val (.ref a1), .val (.ref a2)] [(.int (c1 ||| d1)), (.ref b1), (.ref b1)])) _
          refine XS.iconst X22.here hx rfl (hb hby own_d4_37) ?_
          show Steps p.tables e below (T22.setTop (mkF m 38 #[.val (.ref a1), .val (.ref a2)] [(.int (1 : Int32)), (.int (c1 ||| d1)), (.ref b1), (.ref b1)])) _
          refine XS.goto X22.here hx rfl (pc0 := 38) (pc' := 42) rfl (hb hby own_d4_38) (by decide) (by decide) ?_
          exact k)
      have hv : (c2 ||| d2) = (1 : Int32) := own_or_a hb2 hd2 h1
      exact ⟨_, X22, e22, fun _ k => G32 _ (by rw [hv] at k; exact k)⟩
  have G33 : Goes p e below s₁ (entryFrame m #[(.ref a1), (.ref a2)] 2) T23 (mkF m 43 #[.val (.ref a1), .val (.ref a2)] [(.ref a1), (.int (c2 ||| d2)), (.int (c1 ||| d1)), (.ref b1), (.ref b1)]) := fun _ k => G23 _ (by
      show Steps p.tables e below (T23.setTop (mkF m 42 #[.val (.ref a1), .val (.ref a2)] [(.int (c2 ||| d2)), (.int (c1 ||| d1)), (.ref b1), (.ref b1)])) _
      refine XS.aloadN X23.here hx rfl (hb hby own_d4_42) rfl rfl ?_
      exact k)
  obtain ⟨T34, X34, e34, st34⟩ := getF X23 hx hZ hown (host := "") (Or.inl (hw _ (List.mem_of_getElem? (i := 18) rfl))) Via.refl e23 f5 (g := (mkF m 43 #[.val (.ref a1), .val (.ref a2)] [(.ref a1), (.int (c2 ||| d2)), (.int (c1 ||| d1)), (.ref b1), (.ref b1)])) rfl rfl (hb hby own_d4_43)
  have G34 : Goes p e below s₁ (entryFrame m #[(.ref a1), (.ref a2)] 2) T34 (mkF m 46 #[.val (.ref a1), .val (.ref a2)] [(.int c3), (.int (c2 ||| d2)), (.int (c1 ||| d1)), (.ref b1), (.ref b1)]) := fun _ k => G33 _ (st34 _ k)
  obtain ⟨T35, X35, e35, G35⟩ : ∃ T', Stand p l e ({ frames := 3, cells := 1, slots := 3, locals := 40 } : Room) s m #[(.ref a1), (.ref a2)] below meth c T' [] 1 3 ∧ T'.heap = h1 ∧ Goes p e below s₁ (entryFrame m #[(.ref a1), (.ref a2)] 2) T' (mkF m 61 #[.val (.ref a1), .val (.ref a2)] [(.int (c3 ||| d3)), (.int (c2 ||| d2)), (.int (c1 ||| d1)), (.ref b1), (.ref b1)]) := by
    by_cases h1 : c3 = (0 : Int32)
    · have G36 : Goes p e below s₁ (entryFrame m #[(.ref a1), (.ref a2)] 2) T34 (mkF m 49 #[.val (.ref a1), .val (.ref a2)] [(.int (c2 ||| d2)), (.int (c1 ||| d1)), (.ref b1), (.ref b1)]) := fun _ k => G34 _ (by
          show Steps p.tables e below (T34.setTop (mkF m 46 #[.val (.ref a1), .val (.ref a2)] [(.int c3), (.int (c2 ||| d2)), (.int (c1 ||| d1)), (.ref b1), (.ref b1)])) _
          refine XS.ifNo X34.here hx rfl (hb hby own_d4_46) rfl ((if0 _ _).trans (teq h1).2) ?_
          exact k)
      have G37 : Goes p e below s₁ (entryFrame m #[(.ref a1), (.ref a2)] 2) T34 (mkF m 50 #[.val (.ref a1), .val (.ref a2)] [(.ref a2), (.int (c2 ||| d2)), (.int (c1 ||| d1)), (.ref b1), (.ref b1)]) := fun _ k => G36 _ (by
          show Steps p.tables e below (T34.setTop (mkF m 49 #[.val (.ref a1), .val (.ref a2)] [(.int (c2 ||| d2)), (.int (c1 ||| d1)), (.ref b1), (.ref b1)])) _
          refine XS.aloadN X34.here hx rfl (hb hby own_d4_49) rfl rfl ?_
          exact k)
      obtain ⟨T38, X38, e38, st38⟩ := getF X34 hx hZ hown (host := "") (Or.inl (hw _ (List.mem_of_getElem? (i := 18) rfl))) Via.refl e34 f8 (g := (mkF m 50 #[.val (.ref a1), .val (.ref a2)] [(.ref a2), (.int (c2 ||| d2)), (.int (c1 ||| d1)), (.ref b1), (.ref b1)])) rfl rfl (hb hby own_d4_50)
      have G38 : Goes p e below s₁ (entryFrame m #[(.ref a1), (.ref a2)] 2) T38 (mkF m 53 #[.val (.ref a1), .val (.ref a2)] [(.int d3), (.int (c2 ||| d2)), (.int (c1 ||| d1)), (.ref b1), (.ref b1)]) := fun _ k => G37 _ (st38 _ k)
      by_cases h2 : d3 = (0 : Int32)
      · have G39 : Goes p e below s₁ (entryFrame m #[(.ref a1), (.ref a2)] 2) T38 (mkF m 60 #[.val (.ref a1), .val (.ref a2)] [(.int (c2 ||| d2)), (.int (c1 ||| d1)), (.ref b1), (.ref b1)]) := fun _ k => G38 _ (by
            show Steps p.tables e below (T38.setTop (mkF m 53 #[.val (.ref a1), .val (.ref a2)] [(.int d3), (.int (c2 ||| d2)), (.int (c1 ||| d1)), (.ref b1), (.ref b1)])) _
            refine XS.ifYes X38.here hx rfl (pc0 := 53) (pc' := 60) rfl (hb hby own_d4_53) rfl ((if0 _ _).trans (teq h2).1) (by decide) (by decide) ?_
            exact k)
        have G40 : Goes p e below s₁ (entryFrame m #[(.ref a1), (.ref a2)] 2) T38 (mkF m 61 #[.val (.ref a1), .val (.ref a2)] [(.int (0 : Int32)), (.int (c2 ||| d2)), (.int (c1 ||| d1)), (.ref b1), (.ref b1)]) := fun _ k => G39 _ (by
            show Steps p.tables e below (T38.setTop (mkF m 60 #[.val (.ref a1), .val (.ref a2)] [(.int (c2 ||| d2)), (.int (c1 ||| d1)), (.ref b1), (.ref b1)])) _
            refine XS.iconst X38.here hx rfl (hb hby own_d4_60) ?_
            exact k)
        have hv : (c3 ||| d3) = (0 : Int32) := own_or_c h1 h2
        exact ⟨_, X38, e38, fun _ k => G40 _ (by rw [hv] at k; exact k)⟩
      · have G41 : Goes p e below s₁ (entryFrame m #[(.ref a1), (.ref a2)] 2) T38 (mkF m 56 #[.val (.ref a1), .val (.ref a2)] [(.int (c2 ||| d2)), (.int (c1 ||| d1)), (.ref b1), (.ref b1)]) := fun _ k => G38 _ (by
            show Steps p.tables e below (T38.setTop (mkF m 53 #[.val (.ref a1), .val (.ref a2)] [(.int d3), (.int (c2 ||| d2)), (.int (c1 ||| d1)), (.ref b1), (.ref b1)])) _
            refine XS.ifNo X38.here hx rfl (hb hby own_d4_53) rfl ((if0 _ _).trans (feq h2).1) ?_
            exact k)
        have G42 : Goes p e below s₁ (entryFrame m #[(.ref a1), (.ref a2)] 2) T38 (mkF m 61 #[.val (.ref a1), .val (.ref a2)] [(.int (1 : Int32)), (.int (c2 ||| d2)), (.int (c1 ||| d1)), (.ref b1), (.ref b1)]) := fun _ k => G41 _ (by
            show Steps p.tables e below (T38.setTop (mkF m 56 #[.val (.ref a1), .val (.ref a2)] [(.int (c2 ||| d2)), (.int (c1 ||| d1)), (.ref b1), (.ref b1)])) _
            refine XS.iconst X38.here hx rfl (hb hby own_d4_56) ?_
            show Steps p.tables e below (T38.setTop (mkF m 57 #[.val (.ref a1), .val (.ref a2)] [(.int (1 : Int32)), (.int (c2 ||| d2)), (.int (c1 ||| d1)), (.ref b1), (.ref b1)])) _
            refine XS.goto X38.here hx rfl (pc0 := 57) (pc' := 61) rfl (hb hby own_d4_57) (by decide) (by decide) ?_
            exact k)
        have hv : (c3 ||| d3) = (1 : Int32) := own_or_b hd3 h1 h2
        exact ⟨_, X38, e38, fun _ k => G42 _ (by rw [hv] at k; exact k)⟩
    · have G43 : Goes p e below s₁ (entryFrame m #[(.ref a1), (.ref a2)] 2) T34 (mkF m 56 #[.val (.ref a1), .val (.ref a2)] [(.int (c2 ||| d2)), (.int (c1 ||| d1)), (.ref b1), (.ref b1)]) := fun _ k => G34 _ (by
          show Steps p.tables e below (T34.setTop (mkF m 46 #[.val (.ref a1), .val (.ref a2)] [(.int c3), (.int (c2 ||| d2)), (.int (c1 ||| d1)), (.ref b1), (.ref b1)])) _
          refine XS.ifYes X34.here hx rfl (pc0 := 46) (pc' := 56) rfl (hb hby own_d4_46) rfl ((if0 _ _).trans (feq h1).2) (by decide) (by decide) ?_
          exact k)
      have G44 : Goes p e below s₁ (entryFrame m #[(.ref a1), (.ref a2)] 2) T34 (mkF m 61 #[.val (.ref a1), .val (.ref a2)] [(.int (1 : Int32)), (.int (c2 ||| d2)), (.int (c1 ||| d1)), (.ref b1), (.ref b1)]) := fun _ k => G43 _ (by
          show Steps p.tables e below (T34.setTop (mkF m 56 #[.val (.ref a1), .val (.ref a2)] [(.int (c2 ||| d2)), (.int (c1 ||| d1)), (.ref b1), (.ref b1)])) _
          refine XS.iconst X34.here hx rfl (hb hby own_d4_56) ?_
          show Steps p.tables e below (T34.setTop (mkF m 57 #[.val (.ref a1), .val (.ref a2)] [(.int (1 : Int32)), (.int (c2 ||| d2)), (.int (c1 ||| d1)), (.ref b1), (.ref b1)])) _
          refine XS.goto X34.here hx rfl (pc0 := 57) (pc' := 61) rfl (hb hby own_d4_57) (by decide) (by decide) ?_
          exact k)
      have hv : (c3 ||| d3) = (1 : Int32) := own_or_a hb3 hd3 h1
      exact ⟨_, X34, e34, fun _ k => G44 _ (by rw [hv] at k; exact k)⟩
  obtain ⟨_, _, ⟨T45, L45, k45, n45⟩, -, X45, ⟨Lc45, hQ45, l45, y45, z45⟩, st45⟩ := X35.specialBack hx (y := (⟨"com/example/retree/retree/QualifiedType$Qualifiers", "<init>", "(ZZZ)V"⟩ : MethodName)) rfl hown (mvT hZ (hw _ (List.mem_of_getElem? (i := 26) rfl))) (mvT hZ (hw _ (List.mem_of_getElem? (i := 4) rfl))) (mvT hZ (hw _ (List.mem_of_getElem? (i := 5) rfl))) (by decide) (backOf (W := 1) (rm1 l Z a0 hw [] b1 (c1 ||| d1) (c2 ||| d2) (c3 ||| d3) h1 n0 Zn A1 FisConst_1 FisVolatile_1 FisRestrict_1 gb (own_or hb1 hd1) (own_or hb2 hd2) (own_or hb3 hd3)) hZ (hw _ (List.mem_of_getElem? (i := 5) rfl)) (hw _ (List.mem_of_getElem? (i := 2) rfl)) (by decide) (by decide)) (g := (mkF m 61 #[.val (.ref a1), .val (.ref a2)] [(.int (c3 ||| d3)), (.int (c2 ||| d2)), (.int (c1 ||| d1)), (.ref b1), (.ref b1)])) rfl (by rw [hml]; rfl) (Steps.refl _) (a := b1) (argsL := [(.int (c1 ||| d1)), (.int (c2 ||| d2)), (.int (c3 ||| d3))]) (rest := [(.ref b1)]) (lenOf own_pd1 rfl) rfl (by show 2 * 0 + _ ≤ _; exact Nat.le_of_eq rfl) (hb hby own_d4_61) (fun _ _ => ⟨rfl, e35, (by decide : 1 + 0 ≤ _), (by decide : 3 + 0 ≤ _)⟩)
  dsimp only [Pt.U, Pt.locs, Pt.cells, Pt.slots] at X45 l45 y45 z45 st45 hQ45
  subst l45 y45 z45
  obtain ⟨rfl, N45q, K45, Ex45, Fa45, Fb45, Fc45⟩ := hQ45
  have N45 := Fr.app N0 N45q
  have G45 : Goes p e below s₁ (entryFrame m #[(.ref a1), (.ref a2)] 2) T45 (mkF m 64 #[.val (.ref a1), .val (.ref a2)] [(.ref b1)]) := fun _ k => G35 _ (st45.trans k)
  have Kall : Keep h0 T45.heap [] := Keep.trans f2 K45 (allS (Or.inr szb) all0)
  obtain ⟨fs, hr, hrun, hended, hW, hsame⟩ := X45.leave (v := some (.ref b1)) (fun h => by rw [Bd.returns] at h; cases h)
  refine ⟨_, _, G45 _ (by
      show Steps p.tables e below (T45.setTop (mkF m 64 #[.val (.ref a1), .val (.ref a2)] [(.ref b1)])) _
      jvm_step X45.here [X45.here.top, hx, (hb hby own_d4_64), X45.method', Bd.returns, Value.isRef, FieldType.isReference]
      first | (intro acts; rw [hr _ acts rfl rfl rfl]) | rw [hr _ _ rfl rfl rfl]
      exact Steps.refl _), hrun, hended, _, _, rfl, ?_, ⟨_, rfl⟩, hW, hsame.mono (by decide) (by decide)⟩
  show Q4 Z c1 c2 c3 d1 d2 d3 h0 n0 _ T45.heap _
  exact ⟨_, rfl, N45, Kall, Ex45, Fa45, Fb45, Fc45⟩
theorem own_d5_0 : decode prog_84_method_3_code 0 = .ok (.aload_n 0, 1) := by decide +kernel
theorem own_d5_1 : decode prog_84_method_3_code 1 = .ok (.getfield 7, 3) := by decide +kernel
theorem own_d5_4 : decode prog_84_method_3_code 4 = .ok (.ifCond .eq 7, 3) := by decide +kernel
theorem own_d5_7 : decode prog_84_method_3_code 7 = .ok (.iconst 1, 1) := by decide +kernel
theorem own_d5_8 : decode prog_84_method_3_code 8 = .ok (.goto 4, 3) := by decide +kernel
theorem own_d5_11 : decode prog_84_method_3_code 11 = .ok (.iconst 0, 1) := by decide +kernel
theorem own_d5_12 : decode prog_84_method_3_code 12 = .ok (.aload_n 0, 1) := by decide +kernel
theorem own_d5_13 : decode prog_84_method_3_code 13 = .ok (.getfield 13, 3) := by decide +kernel
theorem own_d5_16 : decode prog_84_method_3_code 16 = .ok (.ifCond .eq 7, 3) := by decide +kernel
theorem own_d5_19 : decode prog_84_method_3_code 19 = .ok (.iconst 2, 1) := by decide +kernel
theorem own_d5_20 : decode prog_84_method_3_code 20 = .ok (.goto 4, 3) := by decide +kernel
theorem own_d5_23 : decode prog_84_method_3_code 23 = .ok (.iconst 0, 1) := by decide +kernel
theorem own_d5_24 : decode prog_84_method_3_code 24 = .ok (.ior, 1) := by decide +kernel
theorem own_d5_25 : decode prog_84_method_3_code 25 = .ok (.aload_n 0, 1) := by decide +kernel
theorem own_d5_26 : decode prog_84_method_3_code 26 = .ok (.getfield 16, 3) := by decide +kernel
theorem own_d5_29 : decode prog_84_method_3_code 29 = .ok (.ifCond .eq 7, 3) := by decide +kernel
theorem own_d5_32 : decode prog_84_method_3_code 32 = .ok (.iconst 4, 1) := by decide +kernel
theorem own_d5_33 : decode prog_84_method_3_code 33 = .ok (.goto 4, 3) := by decide +kernel
theorem own_d5_36 : decode prog_84_method_3_code 36 = .ok (.iconst 0, 1) := by decide +kernel
theorem own_d5_37 : decode prog_84_method_3_code 37 = .ok (.ior, 1) := by decide +kernel
theorem own_d5_38 : decode prog_84_method_3_code 38 = .ok (.ireturn, 1) := by decide +kernel
set_option maxRecDepth 65536 in
set_option maxHeartbeats 40000000 in
theorem rm5 (l : Launch) (Z : State) (a0 : Array Value) (hw : ∀ d ∈ tables_1, d.before a0 Z = true) (ws : List Jvm.Cond) (a1 : Addr) (c1 c2 c3 : Int32) (h0 : Heap) (n0 : Nat) (Z0 : n0 ≤ h0.size) (F1 : Fld Z h0 a1 "com/example/retree/retree/QualifiedType$Qualifiers" "isConst" "Z" (.int c1)) (F2 : Fld Z h0 a1 "com/example/retree/retree/QualifiedType$Qualifiers" "isVolatile" "Z" (.int c2)) (F3 : Fld Z h0 a1 "com/example/retree/retree/QualifiedType$Qualifiers" "isRestrict" "Z" (.int c3)) :
    MetFree l (⟨"com/example/retree/retree/QualifiedType$Qualifiers", "hashCode", "()I"⟩ : MethodName) (head1 (Jvm.Cond.code (⟨"com/example/retree/retree/QualifiedType$Qualifiers", "hashCode", "()I"⟩ : MethodName) prog_84_method_3_code 1 (some .int) :: ws) ({ frames := 0, cells := 0, slots := 0, locals := 0 } : Room)) (fun a U => a = #[(.ref a1)] ∧ Z.Warmed39 U.vm ∧ U.heap = h0) (fun _ _ _ _ _ => True) (fun _ U oc U' => ∃ v L, oc = .returned v ∧ Q5 c1 c2 c3 h0 n0 v U'.heap L ∧ FrameEnd U oc U' L ({ frames := 0, cells := 0, slots := 0, locals := 0 } : Room).cells ({ frames := 0, cells := 0, slots := 0, locals := 0 } : Room).slots) := by
  refine MetFree.of_bodySF (plainFor_of_name own_pn1) hisR ?_
  intro p e s m args below meth c s₁ Bd hml0 hP hK
  obtain ⟨rfl, hZ, hh⟩ := hP
  have hx := Bd.exec
  have hby := Bd.bytes
  have hml : c.maxLocals = 1 := hml0
  have hown : s.vm.findClass "com/example/retree/retree/QualifiedType$Qualifiers" = some m.cls := findClass_of_methodNamed Bd.named
  have hnm := (name_of_methodNamed Bd.named Bd.method).1
  have X0 : Stand p l e ({ frames := 0, cells := 0, slots := 0, locals := 0 } : Room) s m #[(.ref a1)] below meth c s₁ [] 0 0 := Stand.of_body Bd
  have e0 : s₁.heap = h0 := by rw [← hh, Bd.state]; rfl
  have N0 := Fr.nil n0
  have G0 : Goes p e below s₁ (entryFrame m #[(.ref a1)] 1) s₁ (mkF m 0 #[.val (.ref a1)] []) := fun _ k => castTop (by first | (simp [entryFrame, mkF, argsToLocals, Value.category]; done) | rfl : (entryFrame m #[(.ref a1)] 1) = mkF m 0 #[.val (.ref a1)] []) k
  have G1 : Goes p e below s₁ (entryFrame m #[(.ref a1)] 1) s₁ (mkF m 1 #[.val (.ref a1)] [(.ref a1)]) := fun _ k => G0 _ (by
      show Steps p.tables e below (s₁.setTop (mkF m 0 #[.val (.ref a1)] [])) _
      refine XS.aloadN X0.here hx rfl (hb hby own_d5_0) rfl rfl ?_
      exact k)
  obtain ⟨T2, X2, e2, st2⟩ := getF X0 hx hZ hown (host := "") (Or.inl (hw _ (List.mem_of_getElem? (i := 14) rfl))) Via.refl e0 F1 (g := (mkF m 1 #[.val (.ref a1)] [(.ref a1)])) rfl rfl (hb hby own_d5_1)
  have G2 : Goes p e below s₁ (entryFrame m #[(.ref a1)] 1) T2 (mkF m 4 #[.val (.ref a1)] [(.int c1)]) := fun _ k => G1 _ (st2 _ k)
  have G3 : Goes p e below s₁ (entryFrame m #[(.ref a1)] 1) T2 (mkF m 12 #[.val (.ref a1)] [(.int (if c1 = 0 then (0 : Int32) else 1))]) := by
    by_cases hm4_3 : c1 = (0 : Int32)
    · have G5 : Goes p e below s₁ (entryFrame m #[(.ref a1)] 1) T2 (mkF m 11 #[.val (.ref a1)] []) := fun _ k => G2 _ (by
          show Steps p.tables e below (T2.setTop (mkF m 4 #[.val (.ref a1)] [(.int c1)])) _
          refine XS.ifYes X2.here hx rfl (pc0 := 4) (pc' := 11) rfl (hb hby own_d5_4) rfl ((if0 _ _).trans (teq hm4_3).1) (by decide) (by decide) ?_
          exact k)
      have G6 : Goes p e below s₁ (entryFrame m #[(.ref a1)] 1) T2 (mkF m 12 #[.val (.ref a1)] [(.int (0 : Int32))]) := fun _ k => G5 _ (by
          show Steps p.tables e below (T2.setTop (mkF m 11 #[.val (.ref a1)] [])) _
          refine XS.iconst X2.here hx rfl (hb hby own_d5_11) ?_
          exact k)
      have hv : (if c1 = 0 then (0 : Int32) else 1) = (0 : Int32) := by simp [hm4_3]
      exact fun _ k => G6 _ (by rw [hv] at k; exact k)
    · have G7 : Goes p e below s₁ (entryFrame m #[(.ref a1)] 1) T2 (mkF m 7 #[.val (.ref a1)] []) := fun _ k => G2 _ (by
          show Steps p.tables e below (T2.setTop (mkF m 4 #[.val (.ref a1)] [(.int c1)])) _
          refine XS.ifNo X2.here hx rfl (hb hby own_d5_4) rfl ((if0 _ _).trans (feq hm4_3).1) ?_
          exact k)
      have G8 : Goes p e below s₁ (entryFrame m #[(.ref a1)] 1) T2 (mkF m 12 #[.val (.ref a1)] [(.int (1 : Int32))]) := fun _ k => G7 _ (by
          show Steps p.tables e below (T2.setTop (mkF m 7 #[.val (.ref a1)] [])) _
          refine XS.iconst X2.here hx rfl (hb hby own_d5_7) ?_
          show Steps p.tables e below (T2.setTop (mkF m 8 #[.val (.ref a1)] [(.int (1 : Int32))])) _
          refine XS.goto X2.here hx rfl (pc0 := 8) (pc' := 12) rfl (hb hby own_d5_8) (by decide) (by decide) ?_
          exact k)
      have hv : (if c1 = 0 then (0 : Int32) else 1) = (1 : Int32) := by simp [hm4_3]
      exact fun _ k => G8 _ (by rw [hv] at k; exact k)
  have G9 : Goes p e below s₁ (entryFrame m #[(.ref a1)] 1) T2 (mkF m 13 #[.val (.ref a1)] [(.ref a1), (.int (if c1 = 0 then (0 : Int32) else 1))]) := fun _ k => G3 _ (by
      show Steps p.tables e below (T2.setTop (mkF m 12 #[.val (.ref a1)] [(.int (if c1 = 0 then (0 : Int32) else 1))])) _
      refine XS.aloadN X2.here hx rfl (hb hby own_d5_12) rfl rfl ?_
      exact k)
  obtain ⟨T10, X10, e10, st10⟩ := getF X2 hx hZ hown (host := "") (Or.inl (hw _ (List.mem_of_getElem? (i := 16) rfl))) Via.refl e2 F2 (g := (mkF m 13 #[.val (.ref a1)] [(.ref a1), (.int (if c1 = 0 then (0 : Int32) else 1))])) rfl rfl (hb hby own_d5_13)
  have G10 : Goes p e below s₁ (entryFrame m #[(.ref a1)] 1) T10 (mkF m 16 #[.val (.ref a1)] [(.int c2), (.int (if c1 = 0 then (0 : Int32) else 1))]) := fun _ k => G9 _ (st10 _ k)
  have G11 : Goes p e below s₁ (entryFrame m #[(.ref a1)] 1) T10 (mkF m 24 #[.val (.ref a1)] [(.int (if c2 = 0 then (0 : Int32) else 2)), (.int (if c1 = 0 then (0 : Int32) else 1))]) := by
    by_cases hm16_11 : c2 = (0 : Int32)
    · have G13 : Goes p e below s₁ (entryFrame m #[(.ref a1)] 1) T10 (mkF m 23 #[.val (.ref a1)] [(.int (if c1 = 0 then (0 : Int32) else 1))]) := fun _ k => G10 _ (by
          show Steps p.tables e below (T10.setTop (mkF m 16 #[.val (.ref a1)] [(.int c2), (.int (if c1 = 0 then (0 : Int32) else 1))])) _
          refine XS.ifYes X10.here hx rfl (pc0 := 16) (pc' := 23) rfl (hb hby own_d5_16) rfl ((if0 _ _).trans (teq hm16_11).1) (by decide) (by decide) ?_
          exact k)
      have G14 : Goes p e below s₁ (entryFrame m #[(.ref a1)] 1) T10 (mkF m 24 #[.val (.ref a1)] [(.int (0 : Int32)), (.int (if c1 = 0 then (0 : Int32) else 1))]) := fun _ k => G13 _ (by
          show Steps p.tables e below (T10.setTop (mkF m 23 #[.val (.ref a1)] [(.int (if c1 = 0 then (0 : Int32) else 1))])) _
          refine XS.iconst X10.here hx rfl (hb hby own_d5_23) ?_
          exact k)
      have hv : (if c2 = 0 then (0 : Int32) else 2) = (0 : Int32) := by simp [hm16_11]
      exact fun _ k => G14 _ (by rw [hv] at k; exact k)
    · have G15 : Goes p e below s₁ (entryFrame m #[(.ref a1)] 1) T10 (mkF m 19 #[.val (.ref a1)] [(.int (if c1 = 0 then (0 : Int32) else 1))]) := fun _ k => G10 _ (by
          show Steps p.tables e below (T10.setTop (mkF m 16 #[.val (.ref a1)] [(.int c2), (.int (if c1 = 0 then (0 : Int32) else 1))])) _
          refine XS.ifNo X10.here hx rfl (hb hby own_d5_16) rfl ((if0 _ _).trans (feq hm16_11).1) ?_
          exact k)
      have G16 : Goes p e below s₁ (entryFrame m #[(.ref a1)] 1) T10 (mkF m 24 #[.val (.ref a1)] [(.int (2 : Int32)), (.int (if c1 = 0 then (0 : Int32) else 1))]) := fun _ k => G15 _ (by
          show Steps p.tables e below (T10.setTop (mkF m 19 #[.val (.ref a1)] [(.int (if c1 = 0 then (0 : Int32) else 1))])) _
          refine XS.iconst X10.here hx rfl (hb hby own_d5_19) ?_
          show Steps p.tables e below (T10.setTop (mkF m 20 #[.val (.ref a1)] [(.int (2 : Int32)), (.int (if c1 = 0 then (0 : Int32) else 1))])) _
          refine XS.goto X10.here hx rfl (pc0 := 20) (pc' := 24) rfl (hb hby own_d5_20) (by decide) (by decide) ?_
          exact k)
      have hv : (if c2 = 0 then (0 : Int32) else 2) = (2 : Int32) := by simp [hm16_11]
      exact fun _ k => G16 _ (by rw [hv] at k; exact k)
  have G17 : Goes p e below s₁ (entryFrame m #[(.ref a1)] 1) T10 (mkF m 26 #[.val (.ref a1)] [(.ref a1), (.int ((if c1 = 0 then (0 : Int32) else 1) ||| (if c2 = 0 then (0 : Int32) else 2)))]) := fun _ k => G11 _ (by
      show Steps p.tables e below (T10.setTop (mkF m 24 #[.val (.ref a1)] [(.int (if c2 = 0 then (0 : Int32) else 2)), (.int (if c1 = 0 then (0 : Int32) else 1))])) _
      refine XS.ior X10.here hx rfl (hb hby own_d5_24) rfl ?_
      show Steps p.tables e below (T10.setTop (mkF m 25 #[.val (.ref a1)] [(.int ((if c1 = 0 then (0 : Int32) else 1) ||| (if c2 = 0 then (0 : Int32) else 2)))])) _
      refine XS.aloadN X10.here hx rfl (hb hby own_d5_25) rfl rfl ?_
      exact k)
  obtain ⟨T18, X18, e18, st18⟩ := getF X10 hx hZ hown (host := "") (Or.inl (hw _ (List.mem_of_getElem? (i := 18) rfl))) Via.refl e10 F3 (g := (mkF m 26 #[.val (.ref a1)] [(.ref a1), (.int ((if c1 = 0 then (0 : Int32) else 1) ||| (if c2 = 0 then (0 : Int32) else 2)))])) rfl rfl (hb hby own_d5_26)
  have G18 : Goes p e below s₁ (entryFrame m #[(.ref a1)] 1) T18 (mkF m 29 #[.val (.ref a1)] [(.int c3), (.int ((if c1 = 0 then (0 : Int32) else 1) ||| (if c2 = 0 then (0 : Int32) else 2)))]) := fun _ k => G17 _ (st18 _ k)
  have G19 : Goes p e below s₁ (entryFrame m #[(.ref a1)] 1) T18 (mkF m 37 #[.val (.ref a1)] [(.int (if c3 = 0 then (0 : Int32) else 4)), (.int ((if c1 = 0 then (0 : Int32) else 1) ||| (if c2 = 0 then (0 : Int32) else 2)))]) := by
    by_cases hm29_19 : c3 = (0 : Int32)
    · have G21 : Goes p e below s₁ (entryFrame m #[(.ref a1)] 1) T18 (mkF m 36 #[.val (.ref a1)] [(.int ((if c1 = 0 then (0 : Int32) else 1) ||| (if c2 = 0 then (0 : Int32) else 2)))]) := fun _ k => G18 _ (by
          show Steps p.tables e below (T18.setTop (mkF m 29 #[.val (.ref a1)] [(.int c3), (.int ((if c1 = 0 then (0 : Int32) else 1) ||| (if c2 = 0 then (0 : Int32) else 2)))])) _
          refine XS.ifYes X18.here hx rfl (pc0 := 29) (pc' := 36) rfl (hb hby own_d5_29) rfl ((if0 _ _).trans (teq hm29_19).1) (by decide) (by decide) ?_
          exact k)
      have G22 : Goes p e below s₁ (entryFrame m #[(.ref a1)] 1) T18 (mkF m 37 #[.val (.ref a1)] [(.int (0 : Int32)), (.int ((if c1 = 0 then (0 : Int32) else 1) ||| (if c2 = 0 then (0 : Int32) else 2)))]) := fun _ k => G21 _ (by
          show Steps p.tables e below (T18.setTop (mkF m 36 #[.val (.ref a1)] [(.int ((if c1 = 0 then (0 : Int32) else 1) ||| (if c2 = 0 then (0 : Int32) else 2)))])) _
          refine XS.iconst X18.here hx rfl (hb hby own_d5_36) ?_
          exact k)
      have hv : (if c3 = 0 then (0 : Int32) else 4) = (0 : Int32) := by simp [hm29_19]
      exact fun _ k => G22 _ (by rw [hv] at k; exact k)
    · have G23 : Goes p e below s₁ (entryFrame m #[(.ref a1)] 1) T18 (mkF m 32 #[.val (.ref a1)] [(.int ((if c1 = 0 then (0 : Int32) else 1) ||| (if c2 = 0 then (0 : Int32) else 2)))]) := fun _ k => G18 _ (by
          show Steps p.tables e below (T18.setTop (mkF m 29 #[.val (.ref a1)] [(.int c3), (.int ((if c1 = 0 then (0 : Int32) else 1) ||| (if c2 = 0 then (0 : Int32) else 2)))])) _
          refine XS.ifNo X18.here hx rfl (hb hby own_d5_29) rfl ((if0 _ _).trans (feq hm29_19).1) ?_
          exact k)
      have G24 : Goes p e below s₁ (entryFrame m #[(.ref a1)] 1) T18 (mkF m 37 #[.val (.ref a1)] [(.int (4 : Int32)), (.int ((if c1 = 0 then (0 : Int32) else 1) ||| (if c2 = 0 then (0 : Int32) else 2)))]) := fun _ k => G23 _ (by
          show Steps p.tables e below (T18.setTop (mkF m 32 #[.val (.ref a1)] [(.int ((if c1 = 0 then (0 : Int32) else 1) ||| (if c2 = 0 then (0 : Int32) else 2)))])) _
          refine XS.iconst X18.here hx rfl (hb hby own_d5_32) ?_
          show Steps p.tables e below (T18.setTop (mkF m 33 #[.val (.ref a1)] [(.int (4 : Int32)), (.int ((if c1 = 0 then (0 : Int32) else 1) ||| (if c2 = 0 then (0 : Int32) else 2)))])) _
          refine XS.goto X18.here hx rfl (pc0 := 33) (pc' := 37) rfl (hb hby own_d5_33) (by decide) (by decide) ?_
          exact k)
      have hv : (if c3 = 0 then (0 : Int32) else 4) = (4 : Int32) := by simp [hm29_19]
      exact fun _ k => G24 _ (by rw [hv] at k; exact k)
  have G25 : Goes p e below s₁ (entryFrame m #[(.ref a1)] 1) T18 (mkF m 38 #[.val (.ref a1)] [(.int (((if c1 = 0 then (0 : Int32) else 1) ||| (if c2 = 0 then (0 : Int32) else 2)) ||| (if c3 = 0 then (0 : Int32) else 4)))]) := fun _ k => G19 _ (by
      show Steps p.tables e below (T18.setTop (mkF m 37 #[.val (.ref a1)] [(.int (if c3 = 0 then (0 : Int32) else 4)), (.int ((if c1 = 0 then (0 : Int32) else 1) ||| (if c2 = 0 then (0 : Int32) else 2)))])) _
      refine XS.ior X18.here hx rfl (hb hby own_d5_37) rfl ?_
      exact k)
  obtain ⟨fs, hr, hrun, hended, hW, hsame⟩ := X18.leave (v := some (.int (((if c1 = 0 then (0 : Int32) else 1) ||| (if c2 = 0 then (0 : Int32) else 2)) ||| (if c3 = 0 then (0 : Int32) else 4)))) (fun h => by rw [Bd.returns] at h; cases h)
  refine ⟨_, _, G25 _ (retI X18 hx Bd.returns (hb hby own_d5_38) hr), hrun, hended, _, _, rfl, ?_, ⟨_, rfl⟩, hW, hsame.mono (by decide) (by decide)⟩
  show Q5 c1 c2 c3 h0 n0 _ T18.heap _
  rw [e18]
  exact ⟨rfl, N0, rfl⟩
theorem own_d7_0 : decode prog_84_method_4_code 0 = .ok (.aload_n 0, 1) := by decide +kernel
theorem own_d7_1 : decode prog_84_method_4_code 1 = .ok (.getfield 7, 3) := by decide +kernel
theorem own_d7_4 : decode prog_84_method_4_code 4 = .ok (.ifCond .ne 21, 3) := by decide +kernel
theorem own_d7_7 : decode prog_84_method_4_code 7 = .ok (.aload_n 0, 1) := by decide +kernel
theorem own_d7_8 : decode prog_84_method_4_code 8 = .ok (.getfield 13, 3) := by decide +kernel
theorem own_d7_11 : decode prog_84_method_4_code 11 = .ok (.ifCond .ne 14, 3) := by decide +kernel
theorem own_d7_14 : decode prog_84_method_4_code 14 = .ok (.aload_n 0, 1) := by decide +kernel
theorem own_d7_15 : decode prog_84_method_4_code 15 = .ok (.getfield 16, 3) := by decide +kernel
theorem own_d7_18 : decode prog_84_method_4_code 18 = .ok (.ifCond .ne 7, 3) := by decide +kernel
theorem own_d7_21 : decode prog_84_method_4_code 21 = .ok (.iconst 1, 1) := by decide +kernel
theorem own_d7_22 : decode prog_84_method_4_code 22 = .ok (.goto 4, 3) := by decide +kernel
theorem own_d7_25 : decode prog_84_method_4_code 25 = .ok (.iconst 0, 1) := by decide +kernel
theorem own_d7_26 : decode prog_84_method_4_code 26 = .ok (.ireturn, 1) := by decide +kernel
set_option maxRecDepth 65536 in
set_option maxHeartbeats 40000000 in
theorem rm7 (l : Launch) (Z : State) (a0 : Array Value) (hw : ∀ d ∈ tables_1, d.before a0 Z = true) (ws : List Jvm.Cond) (a1 : Addr) (c1 c2 c3 : Int32) (h0 : Heap) (n0 : Nat) (Z0 : n0 ≤ h0.size) (F1 : Fld Z h0 a1 "com/example/retree/retree/QualifiedType$Qualifiers" "isConst" "Z" (.int c1)) (F2 : Fld Z h0 a1 "com/example/retree/retree/QualifiedType$Qualifiers" "isVolatile" "Z" (.int c2)) (F3 : Fld Z h0 a1 "com/example/retree/retree/QualifiedType$Qualifiers" "isRestrict" "Z" (.int c3)) :
    MetFree l (⟨"com/example/retree/retree/QualifiedType$Qualifiers", "isEmpty", "()Z"⟩ : MethodName) (head1 (Jvm.Cond.code (⟨"com/example/retree/retree/QualifiedType$Qualifiers", "isEmpty", "()Z"⟩ : MethodName) prog_84_method_4_code 1 (some .boolean) :: ws) ({ frames := 0, cells := 0, slots := 0, locals := 0 } : Room)) (fun a U => a = #[(.ref a1)] ∧ Z.Warmed39 U.vm ∧ U.heap = h0) (fun _ _ _ _ _ => True) (fun _ U oc U' => ∃ v L, oc = .returned v ∧ Q7 c1 c2 c3 h0 n0 v U'.heap L ∧ FrameEnd U oc U' L ({ frames := 0, cells := 0, slots := 0, locals := 0 } : Room).cells ({ frames := 0, cells := 0, slots := 0, locals := 0 } : Room).slots) := by
  refine MetFree.of_bodySF (plainFor_of_name own_pn1) hisR ?_
  intro p e s m args below meth c s₁ Bd hml0 hP hK
  obtain ⟨rfl, hZ, hh⟩ := hP
  have hx := Bd.exec
  have hby := Bd.bytes
  have hml : c.maxLocals = 1 := hml0
  have hown : s.vm.findClass "com/example/retree/retree/QualifiedType$Qualifiers" = some m.cls := findClass_of_methodNamed Bd.named
  have hnm := (name_of_methodNamed Bd.named Bd.method).1
  have X0 : Stand p l e ({ frames := 0, cells := 0, slots := 0, locals := 0 } : Room) s m #[(.ref a1)] below meth c s₁ [] 0 0 := Stand.of_body Bd
  have e0 : s₁.heap = h0 := by rw [← hh, Bd.state]; rfl
  have N0 := Fr.nil n0
  have G0 : Goes p e below s₁ (entryFrame m #[(.ref a1)] 1) s₁ (mkF m 0 #[.val (.ref a1)] []) := fun _ k => castTop (by first | (simp [entryFrame, mkF, argsToLocals, Value.category]; done) | rfl : (entryFrame m #[(.ref a1)] 1) = mkF m 0 #[.val (.ref a1)] []) k
  have G1 : Goes p e below s₁ (entryFrame m #[(.ref a1)] 1) s₁ (mkF m 1 #[.val (.ref a1)] [(.ref a1)]) := fun _ k => G0 _ (by
      show Steps p.tables e below (s₁.setTop (mkF m 0 #[.val (.ref a1)] [])) _
      refine XS.aloadN X0.here hx rfl (hb hby own_d7_0) rfl rfl ?_
      exact k)
  obtain ⟨T2, X2, e2, st2⟩ := getF X0 hx hZ hown (host := "") (Or.inl (hw _ (List.mem_of_getElem? (i := 14) rfl))) Via.refl e0 F1 (g := (mkF m 1 #[.val (.ref a1)] [(.ref a1)])) rfl rfl (hb hby own_d7_1)
  have G2 : Goes p e below s₁ (entryFrame m #[(.ref a1)] 1) T2 (mkF m 4 #[.val (.ref a1)] [(.int c1)]) := fun _ k => G1 _ (st2 _ k)
  by_cases hq0 : c1 = (0 : Int32)
  · have G3 : Goes p e below s₁ (entryFrame m #[(.ref a1)] 1) T2 (mkF m 7 #[.val (.ref a1)] []) := fun _ k => G2 _ (by
        show Steps p.tables e below (T2.setTop (mkF m 4 #[.val (.ref a1)] [(.int c1)])) _
        refine XS.ifNo X2.here hx rfl (hb hby own_d7_4) rfl ((if0 _ _).trans (teq hq0).2) ?_
        exact k)
    have G4 : Goes p e below s₁ (entryFrame m #[(.ref a1)] 1) T2 (mkF m 8 #[.val (.ref a1)] [(.ref a1)]) := fun _ k => G3 _ (by
        show Steps p.tables e below (T2.setTop (mkF m 7 #[.val (.ref a1)] [])) _
        refine XS.aloadN X2.here hx rfl (hb hby own_d7_7) rfl rfl ?_
        exact k)
    obtain ⟨T5, X5, e5, st5⟩ := getF X2 hx hZ hown (host := "") (Or.inl (hw _ (List.mem_of_getElem? (i := 16) rfl))) Via.refl e2 F2 (g := (mkF m 8 #[.val (.ref a1)] [(.ref a1)])) rfl rfl (hb hby own_d7_8)
    have G5 : Goes p e below s₁ (entryFrame m #[(.ref a1)] 1) T5 (mkF m 11 #[.val (.ref a1)] [(.int c2)]) := fun _ k => G4 _ (st5 _ k)
    by_cases hq1 : c2 = (0 : Int32)
    · have G6 : Goes p e below s₁ (entryFrame m #[(.ref a1)] 1) T5 (mkF m 14 #[.val (.ref a1)] []) := fun _ k => G5 _ (by
          show Steps p.tables e below (T5.setTop (mkF m 11 #[.val (.ref a1)] [(.int c2)])) _
          refine XS.ifNo X5.here hx rfl (hb hby own_d7_11) rfl ((if0 _ _).trans (teq hq1).2) ?_
          exact k)
      have G7 : Goes p e below s₁ (entryFrame m #[(.ref a1)] 1) T5 (mkF m 15 #[.val (.ref a1)] [(.ref a1)]) := fun _ k => G6 _ (by
          show Steps p.tables e below (T5.setTop (mkF m 14 #[.val (.ref a1)] [])) _
          refine XS.aloadN X5.here hx rfl (hb hby own_d7_14) rfl rfl ?_
          exact k)
      obtain ⟨T8, X8, e8, st8⟩ := getF X5 hx hZ hown (host := "") (Or.inl (hw _ (List.mem_of_getElem? (i := 18) rfl))) Via.refl e5 F3 (g := (mkF m 15 #[.val (.ref a1)] [(.ref a1)])) rfl rfl (hb hby own_d7_15)
      have G8 : Goes p e below s₁ (entryFrame m #[(.ref a1)] 1) T8 (mkF m 18 #[.val (.ref a1)] [(.int c3)]) := fun _ k => G7 _ (st8 _ k)
      by_cases hq2 : c3 = (0 : Int32)
      · have G9 : Goes p e below s₁ (entryFrame m #[(.ref a1)] 1) T8 (mkF m 21 #[.val (.ref a1)] []) := fun _ k => G8 _ (by
            show Steps p.tables e below (T8.setTop (mkF m 18 #[.val (.ref a1)] [(.int c3)])) _
            refine XS.ifNo X8.here hx rfl (hb hby own_d7_18) rfl ((if0 _ _).trans (teq hq2).2) ?_
            exact k)
        have G10 : Goes p e below s₁ (entryFrame m #[(.ref a1)] 1) T8 (mkF m 26 #[.val (.ref a1)] [(.int (1 : Int32))]) := fun _ k => G9 _ (by
            show Steps p.tables e below (T8.setTop (mkF m 21 #[.val (.ref a1)] [])) _
            refine XS.iconst X8.here hx rfl (hb hby own_d7_21) ?_
            show Steps p.tables e below (T8.setTop (mkF m 22 #[.val (.ref a1)] [(.int (1 : Int32))])) _
            refine XS.goto X8.here hx rfl (pc0 := 22) (pc' := 26) rfl (hb hby own_d7_22) (by decide) (by decide) ?_
            exact k)
        obtain ⟨fs, hr, hrun, hended, hW, hsame⟩ := X8.leave (v := some (.int (1 : Int32))) (fun h => by rw [Bd.returns] at h; cases h)
        refine ⟨_, _, G10 _ (retN X8 hx (t := .boolean) Bd.returns (by simp) (hb hby own_d7_26) hr), hrun, hended, _, _, rfl, ?_, ⟨_, rfl⟩, hW, hsame.mono (by decide) (by decide)⟩
        show Q7 c1 c2 c3 h0 n0 _ T8.heap _
        rw [e8]
        exact ⟨by simp [own_em, hq0, hq1, hq2], N0, rfl⟩
      · have G11 : Goes p e below s₁ (entryFrame m #[(.ref a1)] 1) T8 (mkF m 25 #[.val (.ref a1)] []) := fun _ k => G8 _ (by
            show Steps p.tables e below (T8.setTop (mkF m 18 #[.val (.ref a1)] [(.int c3)])) _
            refine XS.ifYes X8.here hx rfl (pc0 := 18) (pc' := 25) rfl (hb hby own_d7_18) rfl ((if0 _ _).trans (feq hq2).2) (by decide) (by decide) ?_
            exact k)
        have G12 : Goes p e below s₁ (entryFrame m #[(.ref a1)] 1) T8 (mkF m 26 #[.val (.ref a1)] [(.int (0 : Int32))]) := fun _ k => G11 _ (by
            show Steps p.tables e below (T8.setTop (mkF m 25 #[.val (.ref a1)] [])) _
            refine XS.iconst X8.here hx rfl (hb hby own_d7_25) ?_
            exact k)
        obtain ⟨fs, hr, hrun, hended, hW, hsame⟩ := X8.leave (v := some (.int (0 : Int32))) (fun h => by rw [Bd.returns] at h; cases h)
        refine ⟨_, _, G12 _ (retN X8 hx (t := .boolean) Bd.returns (by simp) (hb hby own_d7_26) hr), hrun, hended, _, _, rfl, ?_, ⟨_, rfl⟩, hW, hsame.mono (by decide) (by decide)⟩
        show Q7 c1 c2 c3 h0 n0 _ T8.heap _
        rw [e8]
        exact ⟨by simp [own_em, hq0, hq1, hq2], N0, rfl⟩
    · have G13 : Goes p e below s₁ (entryFrame m #[(.ref a1)] 1) T5 (mkF m 25 #[.val (.ref a1)] []) := fun _ k => G5 _ (by
          show Steps p.tables e below (T5.setTop (mkF m 11 #[.val (.ref a1)] [(.int c2)])) _
          refine XS.ifYes X5.here hx rfl (pc0 := 11) (pc' := 25) rfl (hb hby own_d7_11) rfl ((if0 _ _).trans (feq hq1).2) (by decide) (by decide) ?_
          exact k)
      have G14 : Goes p e below s₁ (entryFrame m #[(.ref a1)] 1) T5 (mkF m 26 #[.val (.ref a1)] [(.int (0 : Int32))]) := fun _ k => G13 _ (by
          show Steps p.tables e below (T5.setTop (mkF m 25 #[.val (.ref a1)] [])) _
          refine XS.iconst X5.here hx rfl (hb hby own_d7_25) ?_
          exact k)
      obtain ⟨fs, hr, hrun, hended, hW, hsame⟩ := X5.leave (v := some (.int (0 : Int32))) (fun h => by rw [Bd.returns] at h; cases h)
      refine ⟨_, _, G14 _ (retN X5 hx (t := .boolean) Bd.returns (by simp) (hb hby own_d7_26) hr), hrun, hended, _, _, rfl, ?_, ⟨_, rfl⟩, hW, hsame.mono (by decide) (by decide)⟩
      show Q7 c1 c2 c3 h0 n0 _ T5.heap _
      rw [e5]
      exact ⟨by simp [own_em, hq0, hq1], N0, rfl⟩
  · have G15 : Goes p e below s₁ (entryFrame m #[(.ref a1)] 1) T2 (mkF m 25 #[.val (.ref a1)] []) := fun _ k => G2 _ (by
        show Steps p.tables e below (T2.setTop (mkF m 4 #[.val (.ref a1)] [(.int c1)])) _
        refine XS.ifYes X2.here hx rfl (pc0 := 4) (pc' := 25) rfl (hb hby own_d7_4) rfl ((if0 _ _).trans (feq hq0).2) (by decide) (by decide) ?_
        exact k)
    have G16 : Goes p e below s₁ (entryFrame m #[(.ref a1)] 1) T2 (mkF m 26 #[.val (.ref a1)] [(.int (0 : Int32))]) := fun _ k => G15 _ (by
        show Steps p.tables e below (T2.setTop (mkF m 25 #[.val (.ref a1)] [])) _
        refine XS.iconst X2.here hx rfl (hb hby own_d7_25) ?_
        exact k)
    obtain ⟨fs, hr, hrun, hended, hW, hsame⟩ := X2.leave (v := some (.int (0 : Int32))) (fun h => by rw [Bd.returns] at h; cases h)
    refine ⟨_, _, G16 _ (retN X2 hx (t := .boolean) Bd.returns (by simp) (hb hby own_d7_26) hr), hrun, hended, _, _, rfl, ?_, ⟨_, rfl⟩, hW, hsame.mono (by decide) (by decide)⟩
    show Q7 c1 c2 c3 h0 n0 _ T2.heap _
    rw [e2]
    exact ⟨by simp [own_em, hq0], N0, rfl⟩
theorem own_d6_0 : decode prog_84_method_2_code 0 = .ok (.aload_n 1, 1) := by decide +kernel
theorem own_d6_1 : decode prog_84_method_2_code 1 = .ok (.instanceof 8, 3) := by decide +kernel
theorem own_d6_4 : decode prog_84_method_2_code 4 = .ok (.ifCond .eq 45, 3) := by decide +kernel
theorem own_d6_7 : decode prog_84_method_2_code 7 = .ok (.aload_n 1, 1) := by decide +kernel
theorem own_d6_8 : decode prog_84_method_2_code 8 = .ok (.checkcast 8, 3) := by decide +kernel
theorem own_d6_11 : decode prog_84_method_2_code 11 = .ok (.astore_n 2, 1) := by decide +kernel
theorem own_d6_12 : decode prog_84_method_2_code 12 = .ok (.aload_n 0, 1) := by decide +kernel
theorem own_d6_13 : decode prog_84_method_2_code 13 = .ok (.getfield 7, 3) := by decide +kernel
theorem own_d6_16 : decode prog_84_method_2_code 16 = .ok (.aload_n 2, 1) := by decide +kernel
theorem own_d6_17 : decode prog_84_method_2_code 17 = .ok (.getfield 7, 3) := by decide +kernel
theorem own_d6_20 : decode prog_84_method_2_code 20 = .ok (.if_icmp .ne 29, 3) := by decide +kernel
theorem own_d6_23 : decode prog_84_method_2_code 23 = .ok (.aload_n 0, 1) := by decide +kernel
theorem own_d6_24 : decode prog_84_method_2_code 24 = .ok (.getfield 13, 3) := by decide +kernel
theorem own_d6_27 : decode prog_84_method_2_code 27 = .ok (.aload_n 2, 1) := by decide +kernel
theorem own_d6_28 : decode prog_84_method_2_code 28 = .ok (.getfield 13, 3) := by decide +kernel
theorem own_d6_31 : decode prog_84_method_2_code 31 = .ok (.if_icmp .ne 18, 3) := by decide +kernel
theorem own_d6_34 : decode prog_84_method_2_code 34 = .ok (.aload_n 0, 1) := by decide +kernel
theorem own_d6_35 : decode prog_84_method_2_code 35 = .ok (.getfield 16, 3) := by decide +kernel
theorem own_d6_38 : decode prog_84_method_2_code 38 = .ok (.aload_n 2, 1) := by decide +kernel
theorem own_d6_39 : decode prog_84_method_2_code 39 = .ok (.getfield 16, 3) := by decide +kernel
theorem own_d6_42 : decode prog_84_method_2_code 42 = .ok (.if_icmp .ne 7, 3) := by decide +kernel
theorem own_d6_45 : decode prog_84_method_2_code 45 = .ok (.iconst 1, 1) := by decide +kernel
theorem own_d6_46 : decode prog_84_method_2_code 46 = .ok (.goto 4, 3) := by decide +kernel
theorem own_d6_49 : decode prog_84_method_2_code 49 = .ok (.iconst 0, 1) := by decide +kernel
theorem own_d6_50 : decode prog_84_method_2_code 50 = .ok (.ireturn, 1) := by decide +kernel
set_option maxRecDepth 65536 in
set_option maxHeartbeats 40000000 in
theorem rm6 (l : Launch) (Z : State) (a0 : Array Value) (hw : ∀ d ∈ tables_1, d.before a0 Z = true) (ws : List Jvm.Cond) (a1 a2 : Addr) (c1 c2 c3 d1 d2 d3 : Int32) (h0 : Heap) (n0 : Nat) (Z0 : n0 ≤ h0.size) (F1 : Fld Z h0 a1 "com/example/retree/retree/QualifiedType$Qualifiers" "isConst" "Z" (.int c1)) (F2 : Fld Z h0 a1 "com/example/retree/retree/QualifiedType$Qualifiers" "isVolatile" "Z" (.int c2)) (F3 : Fld Z h0 a1 "com/example/retree/retree/QualifiedType$Qualifiers" "isRestrict" "Z" (.int c3)) (Dp1 : Fld Z h0 a2 "com/example/retree/retree/QualifiedType$Qualifiers" "isConst" "Z" (.int d1)) (Dp2 : Fld Z h0 a2 "com/example/retree/retree/QualifiedType$Qualifiers" "isVolatile" "Z" (.int d2)) (Dp3 : Fld Z h0 a2 "com/example/retree/retree/QualifiedType$Qualifiers" "isRestrict" "Z" (.int d3)) (E2 : Exa Z h0 a2 "com/example/retree/retree/QualifiedType$Qualifiers") :
    MetFree l (⟨"com/example/retree/retree/QualifiedType$Qualifiers", "equals", "(Ljava/lang/Object;)Z"⟩ : MethodName) (head1 (Jvm.Cond.code (⟨"com/example/retree/retree/QualifiedType$Qualifiers", "equals", "(Ljava/lang/Object;)Z"⟩ : MethodName) prog_84_method_2_code 3 (some .boolean) :: ws) ({ frames := 0, cells := 0, slots := 0, locals := 0 } : Room)) (fun a U => a = #[(.ref a1), (.ref a2)] ∧ Z.Warmed39 U.vm ∧ U.heap = h0) (fun _ _ _ _ _ => True) (fun _ U oc U' => ∃ v L, oc = .returned v ∧ Q6 c1 c2 c3 d1 d2 d3 h0 n0 v U'.heap L ∧ FrameEnd U oc U' L ({ frames := 0, cells := 0, slots := 0, locals := 0 } : Room).cells ({ frames := 0, cells := 0, slots := 0, locals := 0 } : Room).slots) := by
  refine MetFree.of_bodySF (plainFor_of_name own_pn1) hisR ?_
  intro p e s m args below meth c s₁ Bd hml0 hP hK
  obtain ⟨rfl, hZ, hh⟩ := hP
  have hx := Bd.exec
  have hby := Bd.bytes
  have hml : c.maxLocals = 3 := hml0
  have hown : s.vm.findClass "com/example/retree/retree/QualifiedType$Qualifiers" = some m.cls := findClass_of_methodNamed Bd.named
  have hnm := (name_of_methodNamed Bd.named Bd.method).1
  have X0 : Stand p l e ({ frames := 0, cells := 0, slots := 0, locals := 0 } : Room) s m #[(.ref a1), (.ref a2)] below meth c s₁ [] 0 0 := Stand.of_body Bd
  have e0 : s₁.heap = h0 := by rw [← hh, Bd.state]; rfl
  have N0 := Fr.nil n0
  have G0 : Goes p e below s₁ (entryFrame m #[(.ref a1), (.ref a2)] 3) s₁ (mkF m 0 #[.val (.ref a1), .val (.ref a2), .unset] []) := fun _ k => castTop (by first | (simp [entryFrame, mkF, argsToLocals, Value.category]; done) | rfl : (entryFrame m #[(.ref a1), (.ref a2)] 3) = mkF m 0 #[.val (.ref a1), .val (.ref a2), .unset] []) k
  have G1 : Goes p e below s₁ (entryFrame m #[(.ref a1), (.ref a2)] 3) s₁ (mkF m 1 #[.val (.ref a1), .val (.ref a2), .unset] [(.ref a2)]) := fun _ k => G0 _ (by
      show Steps p.tables e below (s₁.setTop (mkF m 0 #[.val (.ref a1), .val (.ref a2), .unset] [])) _
      refine XS.aloadN X0.here hx rfl (hb hby own_d6_0) rfl rfl ?_
      exact k)
  obtain ⟨T2, X2, e2, st2⟩ := instY X0 hx hZ hown (hw _ (List.mem_of_getElem? (i := 25) rfl)) e0 (Ins.self E2) (g := (mkF m 1 #[.val (.ref a1), .val (.ref a2), .unset] [(.ref a2)])) rfl rfl (hb hby own_d6_1)
  have G2 : Goes p e below s₁ (entryFrame m #[(.ref a1), (.ref a2)] 3) T2 (mkF m 4 #[.val (.ref a1), .val (.ref a2), .unset] [(.int (1 : Int32))]) := fun _ k => G1 _ (st2 _ k)
  have G3 : Goes p e below s₁ (entryFrame m #[(.ref a1), (.ref a2)] 3) T2 (mkF m 7 #[.val (.ref a1), .val (.ref a2), .unset] []) := fun _ k => G2 _ (by
      show Steps p.tables e below (T2.setTop (mkF m 4 #[.val (.ref a1), .val (.ref a2), .unset] [(.int (1 : Int32))])) _
      refine XS.ifNo X2.here hx rfl (hb hby own_d6_4) rfl ((if0 _ _).trans (feq (by decide : ¬ ((1 : Int32) = (0 : Int32)))).1) ?_
      exact k)
  have G4 : Goes p e below s₁ (entryFrame m #[(.ref a1), (.ref a2)] 3) T2 (mkF m 8 #[.val (.ref a1), .val (.ref a2), .unset] [(.ref a2)]) := fun _ k => G3 _ (by
      show Steps p.tables e below (T2.setTop (mkF m 7 #[.val (.ref a1), .val (.ref a2), .unset] [])) _
      refine XS.aloadN X2.here hx rfl (hb hby own_d6_7) rfl rfl ?_
      exact k)
  obtain ⟨T5, X5, e5, st5⟩ := castY X2 hx hZ hown (hw _ (List.mem_of_getElem? (i := 25) rfl)) e2 (Ins.self E2) (g := (mkF m 8 #[.val (.ref a1), .val (.ref a2), .unset] [(.ref a2)])) rfl rfl (hb hby own_d6_8)
  have G5 : Goes p e below s₁ (entryFrame m #[(.ref a1), (.ref a2)] 3) T5 (mkF m 11 #[.val (.ref a1), .val (.ref a2), .unset] [(.ref a2)]) := fun _ k => G4 _ (st5 _ k)
  have G6 : Goes p e below s₁ (entryFrame m #[(.ref a1), (.ref a2)] 3) T5 (mkF m 13 #[.val (.ref a1), .val (.ref a2), .val (.ref a2)] [(.ref a1)]) := fun _ k => G5 _ (by
      show Steps p.tables e below (T5.setTop (mkF m 11 #[.val (.ref a1), .val (.ref a2), .unset] [(.ref a2)])) _
      refine XS.astoreN X5.here hx rfl (hb hby own_d6_11) rfl rfl (l' := #[.val (.ref a1), .val (.ref a2), .val (.ref a2)]) rfl ?_
      show Steps p.tables e below (T5.setTop (mkF m 12 #[.val (.ref a1), .val (.ref a2), .val (.ref a2)] [])) _
      refine XS.aloadN X5.here hx rfl (hb hby own_d6_12) rfl rfl ?_
      exact k)
  obtain ⟨T7, X7, e7, st7⟩ := getF X5 hx hZ hown (host := "") (Or.inl (hw _ (List.mem_of_getElem? (i := 14) rfl))) Via.refl e5 F1 (g := (mkF m 13 #[.val (.ref a1), .val (.ref a2), .val (.ref a2)] [(.ref a1)])) rfl rfl (hb hby own_d6_13)
  have G7 : Goes p e below s₁ (entryFrame m #[(.ref a1), (.ref a2)] 3) T7 (mkF m 16 #[.val (.ref a1), .val (.ref a2), .val (.ref a2)] [(.int c1)]) := fun _ k => G6 _ (st7 _ k)
  have G8 : Goes p e below s₁ (entryFrame m #[(.ref a1), (.ref a2)] 3) T7 (mkF m 17 #[.val (.ref a1), .val (.ref a2), .val (.ref a2)] [(.ref a2), (.int c1)]) := fun _ k => G7 _ (by
      show Steps p.tables e below (T7.setTop (mkF m 16 #[.val (.ref a1), .val (.ref a2), .val (.ref a2)] [(.int c1)])) _
      refine XS.aloadN X7.here hx rfl (hb hby own_d6_16) rfl rfl ?_
      exact k)
  obtain ⟨T9, X9, e9, st9⟩ := getF X7 hx hZ hown (host := "") (Or.inl (hw _ (List.mem_of_getElem? (i := 14) rfl))) Via.refl e7 Dp1 (g := (mkF m 17 #[.val (.ref a1), .val (.ref a2), .val (.ref a2)] [(.ref a2), (.int c1)])) rfl rfl (hb hby own_d6_17)
  have G9 : Goes p e below s₁ (entryFrame m #[(.ref a1), (.ref a2)] 3) T9 (mkF m 20 #[.val (.ref a1), .val (.ref a2), .val (.ref a2)] [(.int d1), (.int c1)]) := fun _ k => G8 _ (st9 _ k)
  by_cases hq0 : c1 = d1
  · have G10 : Goes p e below s₁ (entryFrame m #[(.ref a1), (.ref a2)] 3) T9 (mkF m 23 #[.val (.ref a1), .val (.ref a2), .val (.ref a2)] []) := fun _ k => G9 _ (by
        show Steps p.tables e below (T9.setTop (mkF m 20 #[.val (.ref a1), .val (.ref a2), .val (.ref a2)] [(.int d1), (.int c1)])) _
        refine XS.icmpNo X9.here hx rfl (hb hby own_d6_20) rfl (teq hq0).2 ?_
        exact k)
    have G11 : Goes p e below s₁ (entryFrame m #[(.ref a1), (.ref a2)] 3) T9 (mkF m 24 #[.val (.ref a1), .val (.ref a2), .val (.ref a2)] [(.ref a1)]) := fun _ k => G10 _ (by
        show Steps p.tables e below (T9.setTop (mkF m 23 #[.val (.ref a1), .val (.ref a2), .val (.ref a2)] [])) _
        refine XS.aloadN X9.here hx rfl (hb hby own_d6_23) rfl rfl ?_
        exact k)
    obtain ⟨T12, X12, e12, st12⟩ := getF X9 hx hZ hown (host := "") (Or.inl (hw _ (List.mem_of_getElem? (i := 16) rfl))) Via.refl e9 F2 (g := (mkF m 24 #[.val (.ref a1), .val (.ref a2), .val (.ref a2)] [(.ref a1)])) rfl rfl (hb hby own_d6_24)
    have G12 : Goes p e below s₁ (entryFrame m #[(.ref a1), (.ref a2)] 3) T12 (mkF m 27 #[.val (.ref a1), .val (.ref a2), .val (.ref a2)] [(.int c2)]) := fun _ k => G11 _ (st12 _ k)
    have G13 : Goes p e below s₁ (entryFrame m #[(.ref a1), (.ref a2)] 3) T12 (mkF m 28 #[.val (.ref a1), .val (.ref a2), .val (.ref a2)] [(.ref a2), (.int c2)]) := fun _ k => G12 _ (by
        show Steps p.tables e below (T12.setTop (mkF m 27 #[.val (.ref a1), .val (.ref a2), .val (.ref a2)] [(.int c2)])) _
        refine XS.aloadN X12.here hx rfl (hb hby own_d6_27) rfl rfl ?_
        exact k)
    obtain ⟨T14, X14, e14, st14⟩ := getF X12 hx hZ hown (host := "") (Or.inl (hw _ (List.mem_of_getElem? (i := 16) rfl))) Via.refl e12 Dp2 (g := (mkF m 28 #[.val (.ref a1), .val (.ref a2), .val (.ref a2)] [(.ref a2), (.int c2)])) rfl rfl (hb hby own_d6_28)
    have G14 : Goes p e below s₁ (entryFrame m #[(.ref a1), (.ref a2)] 3) T14 (mkF m 31 #[.val (.ref a1), .val (.ref a2), .val (.ref a2)] [(.int d2), (.int c2)]) := fun _ k => G13 _ (st14 _ k)
    by_cases hq1 : c2 = d2
    · have G15 : Goes p e below s₁ (entryFrame m #[(.ref a1), (.ref a2)] 3) T14 (mkF m 34 #[.val (.ref a1), .val (.ref a2), .val (.ref a2)] []) := fun _ k => G14 _ (by
          show Steps p.tables e below (T14.setTop (mkF m 31 #[.val (.ref a1), .val (.ref a2), .val (.ref a2)] [(.int d2), (.int c2)])) _
          refine XS.icmpNo X14.here hx rfl (hb hby own_d6_31) rfl (teq hq1).2 ?_
          exact k)
      have G16 : Goes p e below s₁ (entryFrame m #[(.ref a1), (.ref a2)] 3) T14 (mkF m 35 #[.val (.ref a1), .val (.ref a2), .val (.ref a2)] [(.ref a1)]) := fun _ k => G15 _ (by
          show Steps p.tables e below (T14.setTop (mkF m 34 #[.val (.ref a1), .val (.ref a2), .val (.ref a2)] [])) _
          refine XS.aloadN X14.here hx rfl (hb hby own_d6_34) rfl rfl ?_
          exact k)
      obtain ⟨T17, X17, e17, st17⟩ := getF X14 hx hZ hown (host := "") (Or.inl (hw _ (List.mem_of_getElem? (i := 18) rfl))) Via.refl e14 F3 (g := (mkF m 35 #[.val (.ref a1), .val (.ref a2), .val (.ref a2)] [(.ref a1)])) rfl rfl (hb hby own_d6_35)
      have G17 : Goes p e below s₁ (entryFrame m #[(.ref a1), (.ref a2)] 3) T17 (mkF m 38 #[.val (.ref a1), .val (.ref a2), .val (.ref a2)] [(.int c3)]) := fun _ k => G16 _ (st17 _ k)
      have G18 : Goes p e below s₁ (entryFrame m #[(.ref a1), (.ref a2)] 3) T17 (mkF m 39 #[.val (.ref a1), .val (.ref a2), .val (.ref a2)] [(.ref a2), (.int c3)]) := fun _ k => G17 _ (by
          show Steps p.tables e below (T17.setTop (mkF m 38 #[.val (.ref a1), .val (.ref a2), .val (.ref a2)] [(.int c3)])) _
          refine XS.aloadN X17.here hx rfl (hb hby own_d6_38) rfl rfl ?_
          exact k)
      obtain ⟨T19, X19, e19, st19⟩ := getF X17 hx hZ hown (host := "") (Or.inl (hw _ (List.mem_of_getElem? (i := 18) rfl))) Via.refl e17 Dp3 (g := (mkF m 39 #[.val (.ref a1), .val (.ref a2), .val (.ref a2)] [(.ref a2), (.int c3)])) rfl rfl (hb hby own_d6_39)
      have G19 : Goes p e below s₁ (entryFrame m #[(.ref a1), (.ref a2)] 3) T19 (mkF m 42 #[.val (.ref a1), .val (.ref a2), .val (.ref a2)] [(.int d3), (.int c3)]) := fun _ k => G18 _ (st19 _ k)
      by_cases hq2 : c3 = d3
      · have G20 : Goes p e below s₁ (entryFrame m #[(.ref a1), (.ref a2)] 3) T19 (mkF m 45 #[.val (.ref a1), .val (.ref a2), .val (.ref a2)] []) := fun _ k => G19 _ (by
            show Steps p.tables e below (T19.setTop (mkF m 42 #[.val (.ref a1), .val (.ref a2), .val (.ref a2)] [(.int d3), (.int c3)])) _
            refine XS.icmpNo X19.here hx rfl (hb hby own_d6_42) rfl (teq hq2).2 ?_
            exact k)
        have G21 : Goes p e below s₁ (entryFrame m #[(.ref a1), (.ref a2)] 3) T19 (mkF m 50 #[.val (.ref a1), .val (.ref a2), .val (.ref a2)] [(.int (1 : Int32))]) := fun _ k => G20 _ (by
            show Steps p.tables e below (T19.setTop (mkF m 45 #[.val (.ref a1), .val (.ref a2), .val (.ref a2)] [])) _
            refine XS.iconst X19.here hx rfl (hb hby own_d6_45) ?_
            show Steps p.tables e below (T19.setTop (mkF m 46 #[.val (.ref a1), .val (.ref a2), .val (.ref a2)] [(.int (1 : Int32))])) _
            refine XS.goto X19.here hx rfl (pc0 := 46) (pc' := 50) rfl (hb hby own_d6_46) (by decide) (by decide) ?_
            exact k)
        obtain ⟨fs, hr, hrun, hended, hW, hsame⟩ := X19.leave (v := some (.int (1 : Int32))) (fun h => by rw [Bd.returns] at h; cases h)
        refine ⟨_, _, G21 _ (retN X19 hx (t := .boolean) Bd.returns (by simp) (hb hby own_d6_50) hr), hrun, hended, _, _, rfl, ?_, ⟨_, rfl⟩, hW, hsame.mono (by decide) (by decide)⟩
        show Q6 c1 c2 c3 d1 d2 d3 h0 n0 _ T19.heap _
        rw [e19]
        exact ⟨by simp [own_eq, hq0, hq1, hq2], N0, rfl⟩
      · have G22 : Goes p e below s₁ (entryFrame m #[(.ref a1), (.ref a2)] 3) T19 (mkF m 49 #[.val (.ref a1), .val (.ref a2), .val (.ref a2)] []) := fun _ k => G19 _ (by
            show Steps p.tables e below (T19.setTop (mkF m 42 #[.val (.ref a1), .val (.ref a2), .val (.ref a2)] [(.int d3), (.int c3)])) _
            refine XS.icmpYes X19.here hx rfl (pc0 := 42) (pc' := 49) rfl (hb hby own_d6_42) rfl (feq hq2).2 (by decide) (by decide) ?_
            exact k)
        have G23 : Goes p e below s₁ (entryFrame m #[(.ref a1), (.ref a2)] 3) T19 (mkF m 50 #[.val (.ref a1), .val (.ref a2), .val (.ref a2)] [(.int (0 : Int32))]) := fun _ k => G22 _ (by
            show Steps p.tables e below (T19.setTop (mkF m 49 #[.val (.ref a1), .val (.ref a2), .val (.ref a2)] [])) _
            refine XS.iconst X19.here hx rfl (hb hby own_d6_49) ?_
            exact k)
        obtain ⟨fs, hr, hrun, hended, hW, hsame⟩ := X19.leave (v := some (.int (0 : Int32))) (fun h => by rw [Bd.returns] at h; cases h)
        refine ⟨_, _, G23 _ (retN X19 hx (t := .boolean) Bd.returns (by simp) (hb hby own_d6_50) hr), hrun, hended, _, _, rfl, ?_, ⟨_, rfl⟩, hW, hsame.mono (by decide) (by decide)⟩
        show Q6 c1 c2 c3 d1 d2 d3 h0 n0 _ T19.heap _
        rw [e19]
        exact ⟨by simp [own_eq, hq0, hq1, hq2], N0, rfl⟩
    · have G24 : Goes p e below s₁ (entryFrame m #[(.ref a1), (.ref a2)] 3) T14 (mkF m 49 #[.val (.ref a1), .val (.ref a2), .val (.ref a2)] []) := fun _ k => G14 _ (by
          show Steps p.tables e below (T14.setTop (mkF m 31 #[.val (.ref a1), .val (.ref a2), .val (.ref a2)] [(.int d2), (.int c2)])) _
          refine XS.icmpYes X14.here hx rfl (pc0 := 31) (pc' := 49) rfl (hb hby own_d6_31) rfl (feq hq1).2 (by decide) (by decide) ?_
          exact k)
      have G25 : Goes p e below s₁ (entryFrame m #[(.ref a1), (.ref a2)] 3) T14 (mkF m 50 #[.val (.ref a1), .val (.ref a2), .val (.ref a2)] [(.int (0 : Int32))]) := fun _ k => G24 _ (by
          show Steps p.tables e below (T14.setTop (mkF m 49 #[.val (.ref a1), .val (.ref a2), .val (.ref a2)] [])) _
          refine XS.iconst X14.here hx rfl (hb hby own_d6_49) ?_
          exact k)
      obtain ⟨fs, hr, hrun, hended, hW, hsame⟩ := X14.leave (v := some (.int (0 : Int32))) (fun h => by rw [Bd.returns] at h; cases h)
      refine ⟨_, _, G25 _ (retN X14 hx (t := .boolean) Bd.returns (by simp) (hb hby own_d6_50) hr), hrun, hended, _, _, rfl, ?_, ⟨_, rfl⟩, hW, hsame.mono (by decide) (by decide)⟩
      show Q6 c1 c2 c3 d1 d2 d3 h0 n0 _ T14.heap _
      rw [e14]
      exact ⟨by simp [own_eq, hq0, hq1], N0, rfl⟩
  · have G26 : Goes p e below s₁ (entryFrame m #[(.ref a1), (.ref a2)] 3) T9 (mkF m 49 #[.val (.ref a1), .val (.ref a2), .val (.ref a2)] []) := fun _ k => G9 _ (by
        show Steps p.tables e below (T9.setTop (mkF m 20 #[.val (.ref a1), .val (.ref a2), .val (.ref a2)] [(.int d1), (.int c1)])) _
        refine XS.icmpYes X9.here hx rfl (pc0 := 20) (pc' := 49) rfl (hb hby own_d6_20) rfl (feq hq0).2 (by decide) (by decide) ?_
        exact k)
    have G27 : Goes p e below s₁ (entryFrame m #[(.ref a1), (.ref a2)] 3) T9 (mkF m 50 #[.val (.ref a1), .val (.ref a2), .val (.ref a2)] [(.int (0 : Int32))]) := fun _ k => G26 _ (by
        show Steps p.tables e below (T9.setTop (mkF m 49 #[.val (.ref a1), .val (.ref a2), .val (.ref a2)] [])) _
        refine XS.iconst X9.here hx rfl (hb hby own_d6_49) ?_
        exact k)
    obtain ⟨fs, hr, hrun, hended, hW, hsame⟩ := X9.leave (v := some (.int (0 : Int32))) (fun h => by rw [Bd.returns] at h; cases h)
    refine ⟨_, _, G27 _ (retN X9 hx (t := .boolean) Bd.returns (by simp) (hb hby own_d6_50) hr), hrun, hended, _, _, rfl, ?_, ⟨_, rfl⟩, hW, hsame.mono (by decide) (by decide)⟩
    show Q6 c1 c2 c3 d1 d2 d3 h0 n0 _ T9.heap _
    rw [e9]
    exact ⟨by simp [own_eq, hq0], N0, rfl⟩
set_option maxRecDepth 65536 in
set_option maxHeartbeats 40000000 in
theorem rm0 (l : Launch) (Z : State) (a0 : Array Value) (hw : ∀ d ∈ tables_1, d.before a0 Z = true) (ws : List Jvm.Cond) (p1 p2 : Int32) (h0 : Heap) (n0 : Nat) (Z0 : n0 ≤ h0.size)  :
    MetFree l x (head1 (Jvm.Cond.code x code maxLocals ret :: ws) room_1) (fun a U => a = #[(.int p1), (.int p2)] ∧ Z.Warmed39 U.vm ∧ U.heap = h0) (fun _ _ _ _ _ => True) (fun _ U oc U' => ∃ v L, oc = .returned v ∧ Q0 n0 v U'.heap L ∧ FrameEnd U oc U' L 16 128) := by
  refine MetFree.of_bodySF (plainFor_of_name own_pn2) hisR ?_
  intro p e s m args below meth c s₁ Bd hml0 hP hK
  obtain ⟨rfl, hZ, hh⟩ := hP
  have hx := Bd.exec
  have hby := Bd.bytes
  have hml : c.maxLocals = 12 := hml0
  have hown : s.vm.findClass "com/example/retree/retree/QualifiersHashCodePinLaw" = some m.cls := findClass_of_methodNamed Bd.named
  have hnm := (name_of_methodNamed Bd.named Bd.method).1
  have X0 : Stand p l e room_1 s m #[(.int p1), (.int p2)] below meth c s₁ [] 0 0 := Stand.of_body Bd
  have e0 : s₁.heap = h0 := by rw [← hh, Bd.state]; rfl
  have N0 := Fr.nil n0
  have G0 : Goes p e below s₁ (entryFrame m #[(.int p1), (.int p2)] maxLocals) s₁ (mkF m 0 #[.val (.int p1), .val (.int p2), .unset, .unset, .unset, .unset, .unset, .unset, .unset, .unset, .unset, .unset] []) := fun _ k => castTop (by first | (simp [entryFrame, mkF, argsToLocals, Value.category, maxLocals]; done) | rfl : (entryFrame m #[(.int p1), (.int p2)] maxLocals) = mkF m 0 #[.val (.int p1), .val (.int p2), .unset, .unset, .unset, .unset, .unset, .unset, .unset, .unset, .unset, .unset] []) k
  have Zn := Z0
  obtain ⟨T1, h1, X1, e1, E1, A1, D1, -, st1⟩ := newO X0 hx hZ hown (hw _ (List.mem_of_getElem? (i := 0) rfl)) (hw _ (List.mem_of_getElem? (i := 1) rfl)) (hw _ (List.mem_of_getElem? (i := 2) rfl)) e0 (g := (mkF m 0 #[.val (.int p1), .val (.int p2), .unset, .unset, .unset, .unset, .unset, .unset, .unset, .unset, .unset, .unset] [])) rfl (hb hby at_0) (by decide) (by decide)
  obtain ⟨b1, g1⟩ : ∃ z, z = h0.size := ⟨_, rfl⟩
  rw [← g1] at A1 D1 st1
  have FisConst_1 : Fld Z h1 b1 "com/example/retree/retree/QualifiedType$Qualifiers" "isConst" "Z" (.int (0 : Int32)) := D1 (Or.inr (hw _ (List.mem_of_getElem? (i := 15) rfl))) (ty := .boolean) (by decide)
  have FisVolatile_1 : Fld Z h1 b1 "com/example/retree/retree/QualifiedType$Qualifiers" "isVolatile" "Z" (.int (0 : Int32)) := D1 (Or.inr (hw _ (List.mem_of_getElem? (i := 17) rfl))) (ty := .boolean) (by decide)
  have FisRestrict_1 : Fld Z h1 b1 "com/example/retree/retree/QualifiedType$Qualifiers" "isRestrict" "Z" (.int (0 : Int32)) := D1 (Or.inr (hw _ (List.mem_of_getElem? (i := 19) rfl))) (ty := .boolean) (by decide)
  have G1 : Goes p e below s₁ (entryFrame m #[(.int p1), (.int p2)] maxLocals) T1 (mkF m 3 #[.val (.int p1), .val (.int p2), .unset, .unset, .unset, .unset, .unset, .unset, .unset, .unset, .unset, .unset] [(.ref b1)]) := fun _ k => G0 _ (st1 _ k)
  have gb0 : n0 ≤ b1 := Nat.le_trans Zn (Nat.le_of_eq g1.symm)
  have Zn : n0 ≤ h1.size := Nat.le_trans Zn E1.1
  have G2 : Goes p e below s₁ (entryFrame m #[(.int p1), (.int p2)] maxLocals) T1 (mkF m 4 #[.val (.int p1), .val (.int p2), .unset, .unset, .unset, .unset, .unset, .unset, .unset, .unset, .unset, .unset] [(.ref b1), (.ref b1)]) := fun _ k => G1 _ (by
      show Steps p.tables e below (T1.setTop (mkF m 3 #[.val (.int p1), .val (.int p2), .unset, .unset, .unset, .unset, .unset, .unset, .unset, .unset, .unset, .unset] [(.ref b1)])) _
      refine XS.dup X1.here hx rfl (hb hby at_3) rfl rfl ?_
      exact k)
  have G3 : Goes p e below s₁ (entryFrame m #[(.int p1), (.int p2)] maxLocals) T1 (mkF m 15 #[.val (.int p1), .val (.int p2), .unset, .unset, .unset, .unset, .unset, .unset, .unset, .unset, .unset, .unset] [(.int (if (p1 &&& (1 : Int32)) = (0 : Int32) then (0 : Int32) else 1)), (.ref b1), (.ref b1)]) := by
    have G4 : Goes p e below s₁ (entryFrame m #[(.int p1), (.int p2)] maxLocals) T1 (mkF m 7 #[.val (.int p1), .val (.int p2), .unset, .unset, .unset, .unset, .unset, .unset, .unset, .unset, .unset, .unset] [(.int (p1 &&& (1 : Int32))), (.ref b1), (.ref b1)]) := fun _ k => G2 _ (by
        show Steps p.tables e below (T1.setTop (mkF m 4 #[.val (.int p1), .val (.int p2), .unset, .unset, .unset, .unset, .unset, .unset, .unset, .unset, .unset, .unset] [(.ref b1), (.ref b1)])) _
        refine XS.iloadN X1.here hx rfl (hb hby at_4) rfl ?_
        show Steps p.tables e below (T1.setTop (mkF m 5 #[.val (.int p1), .val (.int p2), .unset, .unset, .unset, .unset, .unset, .unset, .unset, .unset, .unset, .unset] [(.int p1), (.ref b1), (.ref b1)])) _
        refine XS.iconst X1.here hx rfl (hb hby at_5) ?_
        show Steps p.tables e below (T1.setTop (mkF m 6 #[.val (.int p1), .val (.int p2), .unset, .unset, .unset, .unset, .unset, .unset, .unset, .unset, .unset, .unset] [(.int (1 : Int32)), (.int p1), (.ref b1), (.ref b1)])) _
        refine XS.iand X1.here hx rfl (hb hby at_6) rfl ?_
        exact k)
    by_cases hm7_4 : (p1 &&& (1 : Int32)) = (0 : Int32)
    · have G6 : Goes p e below s₁ (entryFrame m #[(.int p1), (.int p2)] maxLocals) T1 (mkF m 14 #[.val (.int p1), .val (.int p2), .unset, .unset, .unset, .unset, .unset, .unset, .unset, .unset, .unset, .unset] [(.ref b1), (.ref b1)]) := fun _ k => G4 _ (by
          show Steps p.tables e below (T1.setTop (mkF m 7 #[.val (.int p1), .val (.int p2), .unset, .unset, .unset, .unset, .unset, .unset, .unset, .unset, .unset, .unset] [(.int (p1 &&& (1 : Int32))), (.ref b1), (.ref b1)])) _
          refine XS.ifYes X1.here hx rfl (pc0 := 7) (pc' := 14) rfl (hb hby at_7) rfl ((if0 _ _).trans (teq hm7_4).1) (by decide) (by decide) ?_
          exact k)
      have G7 : Goes p e below s₁ (entryFrame m #[(.int p1), (.int p2)] maxLocals) T1 (mkF m 15 #[.val (.int p1), .val (.int p2), .unset, .unset, .unset, .unset, .unset, .unset, .unset, .unset, .unset, .unset] [(.int (0 : Int32)), (.ref b1), (.ref b1)]) := fun _ k => G6 _ (by
          show Steps p.tables e below (T1.setTop (mkF m 14 #[.val (.int p1), .val (.int p2), .unset, .unset, .unset, .unset, .unset, .unset, .unset, .unset, .unset, .unset] [(.ref b1), (.ref b1)])) _
          refine XS.iconst X1.here hx rfl (hb hby at_14) ?_
          exact k)
      have hv : (if (p1 &&& (1 : Int32)) = (0 : Int32) then (0 : Int32) else 1) = (0 : Int32) := by simp [hm7_4]
      exact fun _ k => G7 _ (by rw [hv] at k; exact k)
    · have G8 : Goes p e below s₁ (entryFrame m #[(.int p1), (.int p2)] maxLocals) T1 (mkF m 10 #[.val (.int p1), .val (.int p2), .unset, .unset, .unset, .unset, .unset, .unset, .unset, .unset, .unset, .unset] [(.ref b1), (.ref b1)]) := fun _ k => G4 _ (by
          show Steps p.tables e below (T1.setTop (mkF m 7 #[.val (.int p1), .val (.int p2), .unset, .unset, .unset, .unset, .unset, .unset, .unset, .unset, .unset, .unset] [(.int (p1 &&& (1 : Int32))), (.ref b1), (.ref b1)])) _
          refine XS.ifNo X1.here hx rfl (hb hby at_7) rfl ((if0 _ _).trans (feq hm7_4).1) ?_
          exact k)
      have G9 : Goes p e below s₁ (entryFrame m #[(.int p1), (.int p2)] maxLocals) T1 (mkF m 15 #[.val (.int p1), .val (.int p2), .unset, .unset, .unset, .unset, .unset, .unset, .unset, .unset, .unset, .unset] [(.int (1 : Int32)), (.ref b1), (.ref b1)]) := fun _ k => G8 _ (by
          show Steps p.tables e below (T1.setTop (mkF m 10 #[.val (.int p1), .val (.int p2), .unset, .unset, .unset, .unset, .unset, .unset, .unset, .unset, .unset, .unset] [(.ref b1), (.ref b1)])) _
          refine XS.iconst X1.here hx rfl (hb hby at_10) ?_
          show Steps p.tables e below (T1.setTop (mkF m 11 #[.val (.int p1), .val (.int p2), .unset, .unset, .unset, .unset, .unset, .unset, .unset, .unset, .unset, .unset] [(.int (1 : Int32)), (.ref b1), (.ref b1)])) _
          refine XS.goto X1.here hx rfl (pc0 := 11) (pc' := 15) rfl (hb hby at_11) (by decide) (by decide) ?_
          exact k)
      have hv : (if (p1 &&& (1 : Int32)) = (0 : Int32) then (0 : Int32) else 1) = (1 : Int32) := by simp [hm7_4]
      exact fun _ k => G9 _ (by rw [hv] at k; exact k)
  obtain ⟨c1, ec1, hbc1⟩ : ∃ z : Int32, z = (if (p1 &&& (1 : Int32)) = (0 : Int32) then (0 : Int32) else 1) ∧ Bit z := ⟨_, rfl, own_ite⟩
  rw [← ec1] at G3
  have G10 : Goes p e below s₁ (entryFrame m #[(.int p1), (.int p2)] maxLocals) T1 (mkF m 26 #[.val (.int p1), .val (.int p2), .unset, .unset, .unset, .unset, .unset, .unset, .unset, .unset, .unset, .unset] [(.int (if (p1 &&& (2 : Int32)) = (0 : Int32) then (0 : Int32) else 1)), (.int c1), (.ref b1), (.ref b1)]) := by
    have G11 : Goes p e below s₁ (entryFrame m #[(.int p1), (.int p2)] maxLocals) T1 (mkF m 18 #[.val (.int p1), .val (.int p2), .unset, .unset, .unset, .unset, .unset, .unset, .unset, .unset, .unset, .unset] [(.int (p1 &&& (2 : Int32))), (.int c1), (.ref b1), (.ref b1)]) := fun _ k => G3 _ (by
        show Steps p.tables e below (T1.setTop (mkF m 15 #[.val (.int p1), .val (.int p2), .unset, .unset, .unset, .unset, .unset, .unset, .unset, .unset, .unset, .unset] [(.int c1), (.ref b1), (.ref b1)])) _
        refine XS.iloadN X1.here hx rfl (hb hby at_15) rfl ?_
        show Steps p.tables e below (T1.setTop (mkF m 16 #[.val (.int p1), .val (.int p2), .unset, .unset, .unset, .unset, .unset, .unset, .unset, .unset, .unset, .unset] [(.int p1), (.int c1), (.ref b1), (.ref b1)])) _
        refine XS.iconst X1.here hx rfl (hb hby at_16) ?_
        show Steps p.tables e below (T1.setTop (mkF m 17 #[.val (.int p1), .val (.int p2), .unset, .unset, .unset, .unset, .unset, .unset, .unset, .unset, .unset, .unset] [(.int (2 : Int32)), (.int p1), (.int c1), (.ref b1), (.ref b1)])) _
        refine XS.iand X1.here hx rfl (hb hby at_17) rfl ?_
        exact k)
    by_cases hm18_11 : (p1 &&& (2 : Int32)) = (0 : Int32)
    · have G13 : Goes p e below s₁ (entryFrame m #[(.int p1), (.int p2)] maxLocals) T1 (mkF m 25 #[.val (.int p1), .val (.int p2), .unset, .unset, .unset, .unset, .unset, .unset, .unset, .unset, .unset, .unset] [(.int c1), (.ref b1), (.ref b1)]) := fun _ k => G11 _ (by
          show Steps p.tables e below (T1.setTop (mkF m 18 #[.val (.int p1), .val (.int p2), .unset, .unset, .unset, .unset, .unset, .unset, .unset, .unset, .unset, .unset] [(.int (p1 &&& (2 : Int32))), (.int c1), (.ref b1), (.ref b1)])) _
          refine XS.ifYes X1.here hx rfl (pc0 := 18) (pc' := 25) rfl (hb hby at_18) rfl ((if0 _ _).trans (teq hm18_11).1) (by decide) (by decide) ?_
          exact k)
      have G14 : Goes p e below s₁ (entryFrame m #[(.int p1), (.int p2)] maxLocals) T1 (mkF m 26 #[.val (.int p1), .val (.int p2), .unset, .unset, .unset, .unset, .unset, .unset, .unset, .unset, .unset, .unset] [(.int (0 : Int32)), (.int c1), (.ref b1), (.ref b1)]) := fun _ k => G13 _ (by
          show Steps p.tables e below (T1.setTop (mkF m 25 #[.val (.int p1), .val (.int p2), .unset, .unset, .unset, .unset, .unset, .unset, .unset, .unset, .unset, .unset] [(.int c1), (.ref b1), (.ref b1)])) _
          refine XS.iconst X1.here hx rfl (hb hby at_25) ?_
          exact k)
      have hv : (if (p1 &&& (2 : Int32)) = (0 : Int32) then (0 : Int32) else 1) = (0 : Int32) := by simp [hm18_11]
      exact fun _ k => G14 _ (by rw [hv] at k; exact k)
    · have G15 : Goes p e below s₁ (entryFrame m #[(.int p1), (.int p2)] maxLocals) T1 (mkF m 21 #[.val (.int p1), .val (.int p2), .unset, .unset, .unset, .unset, .unset, .unset, .unset, .unset, .unset, .unset] [(.int c1), (.ref b1), (.ref b1)]) := fun _ k => G11 _ (by
          show Steps p.tables e below (T1.setTop (mkF m 18 #[.val (.int p1), .val (.int p2), .unset, .unset, .unset, .unset, .unset, .unset, .unset, .unset, .unset, .unset] [(.int (p1 &&& (2 : Int32))), (.int c1), (.ref b1), (.ref b1)])) _
          refine XS.ifNo X1.here hx rfl (hb hby at_18) rfl ((if0 _ _).trans (feq hm18_11).1) ?_
          exact k)
      have G16 : Goes p e below s₁ (entryFrame m #[(.int p1), (.int p2)] maxLocals) T1 (mkF m 26 #[.val (.int p1), .val (.int p2), .unset, .unset, .unset, .unset, .unset, .unset, .unset, .unset, .unset, .unset] [(.int (1 : Int32)), (.int c1), (.ref b1), (.ref b1)]) := fun _ k => G15 _ (by
          show Steps p.tables e below (T1.setTop (mkF m 21 #[.val (.int p1), .val (.int p2), .unset, .unset, .unset, .unset, .unset, .unset, .unset, .unset, .unset, .unset] [(.int c1), (.ref b1), (.ref b1)])) _
          refine XS.iconst X1.here hx rfl (hb hby at_21) ?_
          show Steps p.tables e below (T1.setTop (mkF m 22 #[.val (.int p1), .val (.int p2), .unset, .unset, .unset, .unset, .unset, .unset, .unset, .unset, .unset, .unset] [(.int (1 : Int32)), (.int c1), (.ref b1), (.ref b1)])) _
          refine XS.goto X1.here hx rfl (pc0 := 22) (pc' := 26) rfl (hb hby at_22) (by decide) (by decide) ?_
          exact k)
      have hv : (if (p1 &&& (2 : Int32)) = (0 : Int32) then (0 : Int32) else 1) = (1 : Int32) := by simp [hm18_11]
      exact fun _ k => G16 _ (by rw [hv] at k; exact k)
  obtain ⟨c2, ec2, hbc2⟩ : ∃ z : Int32, z = (if (p1 &&& (2 : Int32)) = (0 : Int32) then (0 : Int32) else 1) ∧ Bit z := ⟨_, rfl, own_ite⟩
  rw [← ec2] at G10
  have G17 : Goes p e below s₁ (entryFrame m #[(.int p1), (.int p2)] maxLocals) T1 (mkF m 37 #[.val (.int p1), .val (.int p2), .unset, .unset, .unset, .unset, .unset, .unset, .unset, .unset, .unset, .unset] [(.int (if (p1 &&& (4 : Int32)) = (0 : Int32) then (0 : Int32) else 1)), (.int c2), (.int c1), (.ref b1), (.ref b1)]) := by
    have G18 : Goes p e below s₁ (entryFrame m #[(.int p1), (.int p2)] maxLocals) T1 (mkF m 29 #[.val (.int p1), .val (.int p2), .unset, .unset, .unset, .unset, .unset, .unset, .unset, .unset, .unset, .unset] [(.int (p1 &&& (4 : Int32))), (.int c2), (.int c1), (.ref b1), (.ref b1)]) := fun _ k => G10 _ (by
        show Steps p.tables e below (T1.setTop (mkF m 26 #[.val (.int p1), .val (.int p2), .unset, .unset, .unset, .unset, .unset, .unset, .unset, .unset, .unset, .unset] [(.int c2), (.int c1), (.ref b1), (.ref b1)])) _
        refine XS.iloadN X1.here hx rfl (hb hby at_26) rfl ?_
        show Steps p.tables e below (T1.setTop (mkF m 27 #[.val (.int p1), .val (.int p2), .unset, .unset, .unset, .unset, .unset, .unset, .unset, .unset, .unset, .unset] [(.int p1), (.int c2), (.int c1), (.ref b1), (.ref b1)])) _
        refine XS.iconst X1.here hx rfl (hb hby at_27) ?_
        show Steps p.tables e below (T1.setTop (mkF m 28 #[.val (.int p1), .val (.int p2), .unset, .unset, .unset, .unset, .unset, .unset, .unset, .unset, .unset, .unset] [(.int (4 : Int32)), (.int p1), (.int c2), (.int c1), (.ref b1), (.ref b1)])) _
        refine XS.iand X1.here hx rfl (hb hby at_28) rfl ?_
        exact k)
    by_cases hm29_18 : (p1 &&& (4 : Int32)) = (0 : Int32)
    · have G20 : Goes p e below s₁ (entryFrame m #[(.int p1), (.int p2)] maxLocals) T1 (mkF m 36 #[.val (.int p1), .val (.int p2), .unset, .unset, .unset, .unset, .unset, .unset, .unset, .unset, .unset, .unset] [(.int c2), (.int c1), (.ref b1), (.ref b1)]) := fun _ k => G18 _ (by
          show Steps p.tables e below (T1.setTop (mkF m 29 #[.val (.int p1), .val (.int p2), .unset, .unset, .unset, .unset, .unset, .unset, .unset, .unset, .unset, .unset] [(.int (p1 &&& (4 : Int32))), (.int c2), (.int c1), (.ref b1), (.ref b1)])) _
          refine XS.ifYes X1.here hx rfl (pc0 := 29) (pc' := 36) rfl (hb hby at_29) rfl ((if0 _ _).trans (teq hm29_18).1) (by decide) (by decide) ?_
          exact k)
      have G21 : Goes p e below s₁ (entryFrame m #[(.int p1), (.int p2)] maxLocals) T1 (mkF m 37 #[.val (.int p1), .val (.int p2), .unset, .unset, .unset, .unset, .unset, .unset, .unset, .unset, .unset, .unset] [(.int (0 : Int32)), (.int c2), (.int c1), (.ref b1), (.ref b1)]) := fun _ k => G20 _ (by
          show Steps p.tables e below (T1.setTop (mkF m 36 #[.val (.int p1), .val (.int p2), .unset, .unset, .unset, .unset, .unset, .unset, .unset, .unset, .unset, .unset] [(.int c2), (.int c1), (.ref b1), (.ref b1)])) _
          refine XS.iconst X1.here hx rfl (hb hby at_36) ?_
          exact k)
      have hv : (if (p1 &&& (4 : Int32)) = (0 : Int32) then (0 : Int32) else 1) = (0 : Int32) := by simp [hm29_18]
      exact fun _ k => G21 _ (by rw [hv] at k; exact k)
    · have G22 : Goes p e below s₁ (entryFrame m #[(.int p1), (.int p2)] maxLocals) T1 (mkF m 32 #[.val (.int p1), .val (.int p2), .unset, .unset, .unset, .unset, .unset, .unset, .unset, .unset, .unset, .unset] [(.int c2), (.int c1), (.ref b1), (.ref b1)]) := fun _ k => G18 _ (by
          show Steps p.tables e below (T1.setTop (mkF m 29 #[.val (.int p1), .val (.int p2), .unset, .unset, .unset, .unset, .unset, .unset, .unset, .unset, .unset, .unset] [(.int (p1 &&& (4 : Int32))), (.int c2), (.int c1), (.ref b1), (.ref b1)])) _
          refine XS.ifNo X1.here hx rfl (hb hby at_29) rfl ((if0 _ _).trans (feq hm29_18).1) ?_
          exact k)
      have G23 : Goes p e below s₁ (entryFrame m #[(.int p1), (.int p2)] maxLocals) T1 (mkF m 37 #[.val (.int p1), .val (.int p2), .unset, .unset, .unset, .unset, .unset, .unset, .unset, .unset, .unset, .unset] [(.int (1 : Int32)), (.int c2), (.int c1), (.ref b1), (.ref b1)]) := fun _ k => G22 _ (by
          show Steps p.tables e below (T1.setTop (mkF m 32 #[.val (.int p1), .val (.int p2), .unset, .unset, .unset, .unset, .unset, .unset, .unset, .unset, .unset, .unset] [(.int c2), (.int c1), (.ref b1), (.ref b1)])) _
          refine XS.iconst X1.here hx rfl (hb hby at_32) ?_
          show Steps p.tables e below (T1.setTop (mkF m 33 #[.val (.int p1), .val (.int p2), .unset, .unset, .unset, .unset, .unset, .unset, .unset, .unset, .unset, .unset] [(.int (1 : Int32)), (.int c2), (.int c1), (.ref b1), (.ref b1)])) _
          refine XS.goto X1.here hx rfl (pc0 := 33) (pc' := 37) rfl (hb hby at_33) (by decide) (by decide) ?_
          exact k)
      have hv : (if (p1 &&& (4 : Int32)) = (0 : Int32) then (0 : Int32) else 1) = (1 : Int32) := by simp [hm29_18]
      exact fun _ k => G23 _ (by rw [hv] at k; exact k)
  obtain ⟨c3, ec3, hbc3⟩ : ∃ z : Int32, z = (if (p1 &&& (4 : Int32)) = (0 : Int32) then (0 : Int32) else 1) ∧ Bit z := ⟨_, rfl, own_ite⟩
  rw [← ec3] at G17
  obtain ⟨_, _, ⟨T24, L24, k24, n24⟩, -, X24, ⟨Lc24, hQ24, l24, y24, z24⟩, st24⟩ := X1.specialBack hx (y := (⟨"com/example/retree/retree/QualifiedType$Qualifiers", "<init>", "(ZZZ)V"⟩ : MethodName)) rfl hown (mvT hZ (hw _ (List.mem_of_getElem? (i := 3) rfl))) (mvT hZ (hw _ (List.mem_of_getElem? (i := 4) rfl))) (mvT hZ (hw _ (List.mem_of_getElem? (i := 5) rfl))) (by decide) (backOf (W := 1) (rm1 l Z a0 hw [] b1 c1 c2 c3 h1 n0 Zn A1 FisConst_1 FisVolatile_1 FisRestrict_1 gb0 hbc1 hbc2 hbc3) hZ (hw _ (List.mem_of_getElem? (i := 5) rfl)) (hw _ (List.mem_of_getElem? (i := 2) rfl)) (by decide) (by decide)) (g := (mkF m 37 #[.val (.int p1), .val (.int p2), .unset, .unset, .unset, .unset, .unset, .unset, .unset, .unset, .unset, .unset] [(.int c3), (.int c2), (.int c1), (.ref b1), (.ref b1)])) rfl (by rw [hml]; rfl) (Steps.refl _) (a := b1) (argsL := [(.int c1), (.int c2), (.int c3)]) (rest := [(.ref b1)]) (lenOf own_pd1 rfl) rfl (by show 2 * 0 + _ ≤ _; exact Nat.le_of_eq rfl) (hb hby at_37) (fun _ _ => ⟨rfl, e1, (by decide : 1 + 0 ≤ _), (by decide : 3 + 0 ≤ _)⟩)
  dsimp only [Pt.U, Pt.locs, Pt.cells, Pt.slots] at X24 l24 y24 z24 st24 hQ24
  subst l24 y24 z24
  obtain ⟨rfl, N24q, K24, Ex24, Fa24, Fb24, Fc24⟩ := hQ24
  have N24 := Fr.app N0 N24q
  have G24 : Goes p e below s₁ (entryFrame m #[(.int p1), (.int p2)] maxLocals) T24 (mkF m 40 #[.val (.int p1), .val (.int p2), .unset, .unset, .unset, .unset, .unset, .unset, .unset, .unset, .unset, .unset] [(.ref b1)]) := fun _ k => G17 _ (st24.trans k)
  have Zn : n0 ≤ T24.heap.size := Nat.le_trans Zn K24.1
  have ltA := Ex24.lt
  have G25 : Goes p e below s₁ (entryFrame m #[(.int p1), (.int p2)] maxLocals) T24 (mkF m 41 #[.val (.int p1), .val (.int p2), .val (.ref b1), .unset, .unset, .unset, .unset, .unset, .unset, .unset, .unset, .unset] []) := fun _ k => G24 _ (by
      show Steps p.tables e below (T24.setTop (mkF m 40 #[.val (.int p1), .val (.int p2), .unset, .unset, .unset, .unset, .unset, .unset, .unset, .unset, .unset, .unset] [(.ref b1)])) _
      refine XS.astoreN X24.here hx rfl (hb hby at_40) rfl rfl (l' := #[.val (.int p1), .val (.int p2), .val (.ref b1), .unset, .unset, .unset, .unset, .unset, .unset, .unset, .unset, .unset]) rfl ?_
      exact k)
  obtain ⟨T26, h26, X26, e26, E26, A26, D26, -, st26⟩ := newO X24 hx hZ hown (hw _ (List.mem_of_getElem? (i := 0) rfl)) (hw _ (List.mem_of_getElem? (i := 1) rfl)) (hw _ (List.mem_of_getElem? (i := 2) rfl)) rfl (g := (mkF m 41 #[.val (.int p1), .val (.int p2), .val (.ref b1), .unset, .unset, .unset, .unset, .unset, .unset, .unset, .unset, .unset] [])) rfl (hb hby at_41) (by decide) (by decide)
  obtain ⟨b26, g26⟩ : ∃ z, z = T24.heap.size := ⟨_, rfl⟩
  rw [← g26] at A26 D26 st26
  have FisConst_26 : Fld Z h26 b26 "com/example/retree/retree/QualifiedType$Qualifiers" "isConst" "Z" (.int (0 : Int32)) := D26 (Or.inr (hw _ (List.mem_of_getElem? (i := 15) rfl))) (ty := .boolean) (by decide)
  have FisVolatile_26 : Fld Z h26 b26 "com/example/retree/retree/QualifiedType$Qualifiers" "isVolatile" "Z" (.int (0 : Int32)) := D26 (Or.inr (hw _ (List.mem_of_getElem? (i := 17) rfl))) (ty := .boolean) (by decide)
  have FisRestrict_26 : Fld Z h26 b26 "com/example/retree/retree/QualifiedType$Qualifiers" "isRestrict" "Z" (.int (0 : Int32)) := D26 (Or.inr (hw _ (List.mem_of_getElem? (i := 19) rfl))) (ty := .boolean) (by decide)
  have G26 : Goes p e below s₁ (entryFrame m #[(.int p1), (.int p2)] maxLocals) T26 (mkF m 44 #[.val (.int p1), .val (.int p2), .val (.ref b1), .unset, .unset, .unset, .unset, .unset, .unset, .unset, .unset, .unset] [(.ref b26)]) := fun _ k => G25 _ (st26 _ k)
  have f27 := Ex24.ext E26
  have f28 := Fa24.ext E26
  have f29 := Fb24.ext E26
  have f30 := Fc24.ext E26
  have gb1 : n0 ≤ b26 := Nat.le_trans Zn (Nat.le_of_eq g26.symm)
  have Zn : n0 ≤ h26.size := Nat.le_trans Zn E26.1
  have ne : b1 ≠ b26 := Nat.ne_of_lt (Nat.lt_of_lt_of_le ltA (Nat.le_of_eq g26.symm))
  have G31 : Goes p e below s₁ (entryFrame m #[(.int p1), (.int p2)] maxLocals) T26 (mkF m 45 #[.val (.int p1), .val (.int p2), .val (.ref b1), .unset, .unset, .unset, .unset, .unset, .unset, .unset, .unset, .unset] [(.ref b26), (.ref b26)]) := fun _ k => G26 _ (by
      show Steps p.tables e below (T26.setTop (mkF m 44 #[.val (.int p1), .val (.int p2), .val (.ref b1), .unset, .unset, .unset, .unset, .unset, .unset, .unset, .unset, .unset] [(.ref b26)])) _
      refine XS.dup X26.here hx rfl (hb hby at_44) rfl rfl ?_
      exact k)
  have G32 : Goes p e below s₁ (entryFrame m #[(.int p1), (.int p2)] maxLocals) T26 (mkF m 56 #[.val (.int p1), .val (.int p2), .val (.ref b1), .unset, .unset, .unset, .unset, .unset, .unset, .unset, .unset, .unset] [(.int (if (p2 &&& (1 : Int32)) = (0 : Int32) then (0 : Int32) else 1)), (.ref b26), (.ref b26)]) := by
    have G33 : Goes p e below s₁ (entryFrame m #[(.int p1), (.int p2)] maxLocals) T26 (mkF m 48 #[.val (.int p1), .val (.int p2), .val (.ref b1), .unset, .unset, .unset, .unset, .unset, .unset, .unset, .unset, .unset] [(.int (p2 &&& (1 : Int32))), (.ref b26), (.ref b26)]) := fun _ k => G31 _ (by
        show Steps p.tables e below (T26.setTop (mkF m 45 #[.val (.int p1), .val (.int p2), .val (.ref b1), .unset, .unset, .unset, .unset, .unset, .unset, .unset, .unset, .unset] [(.ref b26), (.ref b26)])) _
        refine XS.iloadN X26.here hx rfl (hb hby at_45) rfl ?_
        show Steps p.tables e below (T26.setTop (mkF m 46 #[.val (.int p1), .val (.int p2), .val (.ref b1), .unset, .unset, .unset, .unset, .unset, .unset, .unset, .unset, .unset] [(.int p2), (.ref b26), (.ref b26)])) _
        refine XS.iconst X26.here hx rfl (hb hby at_46) ?_
        show Steps p.tables e below (T26.setTop (mkF m 47 #[.val (.int p1), .val (.int p2), .val (.ref b1), .unset, .unset, .unset, .unset, .unset, .unset, .unset, .unset, .unset] [(.int (1 : Int32)), (.int p2), (.ref b26), (.ref b26)])) _
        refine XS.iand X26.here hx rfl (hb hby at_47) rfl ?_
        exact k)
    by_cases hm48_33 : (p2 &&& (1 : Int32)) = (0 : Int32)
    · have G35 : Goes p e below s₁ (entryFrame m #[(.int p1), (.int p2)] maxLocals) T26 (mkF m 55 #[.val (.int p1), .val (.int p2), .val (.ref b1), .unset, .unset, .unset, .unset, .unset, .unset, .unset, .unset, .unset] [(.ref b26), (.ref b26)]) := fun _ k => G33 _ (by
          show Steps p.tables e below (T26.setTop (mkF m 48 #[.val (.int p1), .val (.int p2), .val (.ref b1), .unset, .unset, .unset, .unset, .unset, .unset, .unset, .unset, .unset] [(.int (p2 &&& (1 : Int32))), (.ref b26), (.ref b26)])) _
          refine XS.ifYes X26.here hx rfl (pc0 := 48) (pc' := 55) rfl (hb hby at_48) rfl ((if0 _ _).trans (teq hm48_33).1) (by decide) (by decide) ?_
          exact k)
      have G36 : Goes p e below s₁ (entryFrame m #[(.int p1), (.int p2)] maxLocals) T26 (mkF m 56 #[.val (.int p1), .val (.int p2), .val (.ref b1), .unset, .unset, .unset, .unset, .unset, .unset, .unset, .unset, .unset] [(.int (0 : Int32)), (.ref b26), (.ref b26)]) := fun _ k => G35 _ (by
          show Steps p.tables e below (T26.setTop (mkF m 55 #[.val (.int p1), .val (.int p2), .val (.ref b1), .unset, .unset, .unset, .unset, .unset, .unset, .unset, .unset, .unset] [(.ref b26), (.ref b26)])) _
          refine XS.iconst X26.here hx rfl (hb hby at_55) ?_
          exact k)
      have hv : (if (p2 &&& (1 : Int32)) = (0 : Int32) then (0 : Int32) else 1) = (0 : Int32) := by simp [hm48_33]
      exact fun _ k => G36 _ (by rw [hv] at k; exact k)
    · have G37 : Goes p e below s₁ (entryFrame m #[(.int p1), (.int p2)] maxLocals) T26 (mkF m 51 #[.val (.int p1), .val (.int p2), .val (.ref b1), .unset, .unset, .unset, .unset, .unset, .unset, .unset, .unset, .unset] [(.ref b26), (.ref b26)]) := fun _ k => G33 _ (by
          show Steps p.tables e below (T26.setTop (mkF m 48 #[.val (.int p1), .val (.int p2), .val (.ref b1), .unset, .unset, .unset, .unset, .unset, .unset, .unset, .unset, .unset] [(.int (p2 &&& (1 : Int32))), (.ref b26), (.ref b26)])) _
          refine XS.ifNo X26.here hx rfl (hb hby at_48) rfl ((if0 _ _).trans (feq hm48_33).1) ?_
          exact k)
      have G38 : Goes p e below s₁ (entryFrame m #[(.int p1), (.int p2)] maxLocals) T26 (mkF m 56 #[.val (.int p1), .val (.int p2), .val (.ref b1), .unset, .unset, .unset, .unset, .unset, .unset, .unset, .unset, .unset] [(.int (1 : Int32)), (.ref b26), (.ref b26)]) := fun _ k => G37 _ (by
          show Steps p.tables e below (T26.setTop (mkF m 51 #[.val (.int p1), .val (.int p2), .val (.ref b1), .unset, .unset, .unset, .unset, .unset, .unset, .unset, .unset, .unset] [(.ref b26), (.ref b26)])) _
          refine XS.iconst X26.here hx rfl (hb hby at_51) ?_
          show Steps p.tables e below (T26.setTop (mkF m 52 #[.val (.int p1), .val (.int p2), .val (.ref b1), .unset, .unset, .unset, .unset, .unset, .unset, .unset, .unset, .unset] [(.int (1 : Int32)), (.ref b26), (.ref b26)])) _
          refine XS.goto X26.here hx rfl (pc0 := 52) (pc' := 56) rfl (hb hby at_52) (by decide) (by decide) ?_
          exact k)
      have hv : (if (p2 &&& (1 : Int32)) = (0 : Int32) then (0 : Int32) else 1) = (1 : Int32) := by simp [hm48_33]
      exact fun _ k => G38 _ (by rw [hv] at k; exact k)
  obtain ⟨d1, ed1, hbd1⟩ : ∃ z : Int32, z = (if (p2 &&& (1 : Int32)) = (0 : Int32) then (0 : Int32) else 1) ∧ Bit z := ⟨_, rfl, own_ite⟩
  rw [← ed1] at G32
  have G39 : Goes p e below s₁ (entryFrame m #[(.int p1), (.int p2)] maxLocals) T26 (mkF m 67 #[.val (.int p1), .val (.int p2), .val (.ref b1), .unset, .unset, .unset, .unset, .unset, .unset, .unset, .unset, .unset] [(.int (if (p2 &&& (2 : Int32)) = (0 : Int32) then (0 : Int32) else 1)), (.int d1), (.ref b26), (.ref b26)]) := by
    have G40 : Goes p e below s₁ (entryFrame m #[(.int p1), (.int p2)] maxLocals) T26 (mkF m 59 #[.val (.int p1), .val (.int p2), .val (.ref b1), .unset, .unset, .unset, .unset, .unset, .unset, .unset, .unset, .unset] [(.int (p2 &&& (2 : Int32))), (.int d1), (.ref b26), (.ref b26)]) := fun _ k => G32 _ (by
        show Steps p.tables e below (T26.setTop (mkF m 56 #[.val (.int p1), .val (.int p2), .val (.ref b1), .unset, .unset, .unset, .unset, .unset, .unset, .unset, .unset, .unset] [(.int d1), (.ref b26), (.ref b26)])) _
        refine XS.iloadN X26.here hx rfl (hb hby at_56) rfl ?_
        show Steps p.tables e below (T26.setTop (mkF m 57 #[.val (.int p1), .val (.int p2), .val (.ref b1), .unset, .unset, .unset, .unset, .unset, .unset, .unset, .unset, .unset] [(.int p2), (.int d1), (.ref b26), (.ref b26)])) _
        refine XS.iconst X26.here hx rfl (hb hby at_57) ?_
        show Steps p.tables e below (T26.setTop (mkF m 58 #[.val (.int p1), .val (.int p2), .val (.ref b1), .unset, .unset, .unset, .unset, .unset, .unset, .unset, .unset, .unset] [(.int (2 : Int32)), (.int p2), (.int d1), (.ref b26), (.ref b26)])) _
        refine XS.iand X26.here hx rfl (hb hby at_58) rfl ?_
        exact k)
    by_cases hm59_40 : (p2 &&& (2 : Int32)) = (0 : Int32)
    · have G42 : Goes p e below s₁ (entryFrame m #[(.int p1), (.int p2)] maxLocals) T26 (mkF m 66 #[.val (.int p1), .val (.int p2), .val (.ref b1), .unset, .unset, .unset, .unset, .unset, .unset, .unset, .unset, .unset] [(.int d1), (.ref b26), (.ref b26)]) := fun _ k => G40 _ (by
          show Steps p.tables e below (T26.setTop (mkF m 59 #[.val (.int p1), .val (.int p2), .val (.ref b1), .unset, .unset, .unset, .unset, .unset, .unset, .unset, .unset, .unset] [(.int (p2 &&& (2 : Int32))), (.int d1), (.ref b26), (.ref b26)])) _
          refine XS.ifYes X26.here hx rfl (pc0 := 59) (pc' := 66) rfl (hb hby at_59) rfl ((if0 _ _).trans (teq hm59_40).1) (by decide) (by decide) ?_
          exact k)
      have G43 : Goes p e below s₁ (entryFrame m #[(.int p1), (.int p2)] maxLocals) T26 (mkF m 67 #[.val (.int p1), .val (.int p2), .val (.ref b1), .unset, .unset, .unset, .unset, .unset, .unset, .unset, .unset, .unset] [(.int (0 : Int32)), (.int d1), (.ref b26), (.ref b26)]) := fun _ k => G42 _ (by
          show Steps p.tables e below (T26.setTop (mkF m 66 #[.val (.int p1), .val (.int p2), .val (.ref b1), .unset, .unset, .unset, .unset, .unset, .unset, .unset, .unset, .unset] [(.int d1), (.ref b26), (.ref b26)])) _
          refine XS.iconst X26.here hx rfl (hb hby at_66) ?_
          exact k)
      have hv : (if (p2 &&& (2 : Int32)) = (0 : Int32) then (0 : Int32) else 1) = (0 : Int32) := by simp [hm59_40]
      exact fun _ k => G43 _ (by rw [hv] at k; exact k)
    · have G44 : Goes p e below s₁ (entryFrame m #[(.int p1), (.int p2)] maxLocals) T26 (mkF m 62 #[.val (.int p1), .val (.int p2), .val (.ref b1), .unset, .unset, .unset, .unset, .unset, .unset, .unset, .unset, .unset] [(.int d1), (.ref b26), (.ref b26)]) := fun _ k => G40 _ (by
          show Steps p.tables e below (T26.setTop (mkF m 59 #[.val (.int p1), .val (.int p2), .val (.ref b1), .unset, .unset, .unset, .unset, .unset, .unset, .unset, .unset, .unset] [(.int (p2 &&& (2 : Int32))), (.int d1), (.ref b26), (.ref b26)])) _
          refine XS.ifNo X26.here hx rfl (hb hby at_59) rfl ((if0 _ _).trans (feq hm59_40).1) ?_
          exact k)
      have G45 : Goes p e below s₁ (entryFrame m #[(.int p1), (.int p2)] maxLocals) T26 (mkF m 67 #[.val (.int p1), .val (.int p2), .val (.ref b1), .unset, .unset, .unset, .unset, .unset, .unset, .unset, .unset, .unset] [(.int (1 : Int32)), (.int d1), (.ref b26), (.ref b26)]) := fun _ k => G44 _ (by
          show Steps p.tables e below (T26.setTop (mkF m 62 #[.val (.int p1), .val (.int p2), .val (.ref b1), .unset, .unset, .unset, .unset, .unset, .unset, .unset, .unset, .unset] [(.int d1), (.ref b26), (.ref b26)])) _
          refine XS.iconst X26.here hx rfl (hb hby at_62) ?_
          show Steps p.tables e below (T26.setTop (mkF m 63 #[.val (.int p1), .val (.int p2), .val (.ref b1), .unset, .unset, .unset, .unset, .unset, .unset, .unset, .unset, .unset] [(.int (1 : Int32)), (.int d1), (.ref b26), (.ref b26)])) _
          refine XS.goto X26.here hx rfl (pc0 := 63) (pc' := 67) rfl (hb hby at_63) (by decide) (by decide) ?_
          exact k)
      have hv : (if (p2 &&& (2 : Int32)) = (0 : Int32) then (0 : Int32) else 1) = (1 : Int32) := by simp [hm59_40]
      exact fun _ k => G45 _ (by rw [hv] at k; exact k)
  obtain ⟨d2, ed2, hbd2⟩ : ∃ z : Int32, z = (if (p2 &&& (2 : Int32)) = (0 : Int32) then (0 : Int32) else 1) ∧ Bit z := ⟨_, rfl, own_ite⟩
  rw [← ed2] at G39
  have G46 : Goes p e below s₁ (entryFrame m #[(.int p1), (.int p2)] maxLocals) T26 (mkF m 78 #[.val (.int p1), .val (.int p2), .val (.ref b1), .unset, .unset, .unset, .unset, .unset, .unset, .unset, .unset, .unset] [(.int (if (p2 &&& (4 : Int32)) = (0 : Int32) then (0 : Int32) else 1)), (.int d2), (.int d1), (.ref b26), (.ref b26)]) := by
    have G47 : Goes p e below s₁ (entryFrame m #[(.int p1), (.int p2)] maxLocals) T26 (mkF m 70 #[.val (.int p1), .val (.int p2), .val (.ref b1), .unset, .unset, .unset, .unset, .unset, .unset, .unset, .unset, .unset] [(.int (p2 &&& (4 : Int32))), (.int d2), (.int d1), (.ref b26), (.ref b26)]) := fun _ k => G39 _ (by
        show Steps p.tables e below (T26.setTop (mkF m 67 #[.val (.int p1), .val (.int p2), .val (.ref b1), .unset, .unset, .unset, .unset, .unset, .unset, .unset, .unset, .unset] [(.int d2), (.int d1), (.ref b26), (.ref b26)])) _
        refine XS.iloadN X26.here hx rfl (hb hby at_67) rfl ?_
        show Steps p.tables e below (T26.setTop (mkF m 68 #[.val (.int p1), .val (.int p2), .val (.ref b1), .unset, .unset, .unset, .unset, .unset, .unset, .unset, .unset, .unset] [(.int p2), (.int d2), (.int d1), (.ref b26), (.ref b26)])) _
        refine XS.iconst X26.here hx rfl (hb hby at_68) ?_
        show Steps p.tables e below (T26.setTop (mkF m 69 #[.val (.int p1), .val (.int p2), .val (.ref b1), .unset, .unset, .unset, .unset, .unset, .unset, .unset, .unset, .unset] [(.int (4 : Int32)), (.int p2), (.int d2), (.int d1), (.ref b26), (.ref b26)])) _
        refine XS.iand X26.here hx rfl (hb hby at_69) rfl ?_
        exact k)
    by_cases hm70_47 : (p2 &&& (4 : Int32)) = (0 : Int32)
    · have G49 : Goes p e below s₁ (entryFrame m #[(.int p1), (.int p2)] maxLocals) T26 (mkF m 77 #[.val (.int p1), .val (.int p2), .val (.ref b1), .unset, .unset, .unset, .unset, .unset, .unset, .unset, .unset, .unset] [(.int d2), (.int d1), (.ref b26), (.ref b26)]) := fun _ k => G47 _ (by
          show Steps p.tables e below (T26.setTop (mkF m 70 #[.val (.int p1), .val (.int p2), .val (.ref b1), .unset, .unset, .unset, .unset, .unset, .unset, .unset, .unset, .unset] [(.int (p2 &&& (4 : Int32))), (.int d2), (.int d1), (.ref b26), (.ref b26)])) _
          refine XS.ifYes X26.here hx rfl (pc0 := 70) (pc' := 77) rfl (hb hby at_70) rfl ((if0 _ _).trans (teq hm70_47).1) (by decide) (by decide) ?_
          exact k)
      have G50 : Goes p e below s₁ (entryFrame m #[(.int p1), (.int p2)] maxLocals) T26 (mkF m 78 #[.val (.int p1), .val (.int p2), .val (.ref b1), .unset, .unset, .unset, .unset, .unset, .unset, .unset, .unset, .unset] [(.int (0 : Int32)), (.int d2), (.int d1), (.ref b26), (.ref b26)]) := fun _ k => G49 _ (by
          show Steps p.tables e below (T26.setTop (mkF m 77 #[.val (.int p1), .val (.int p2), .val (.ref b1), .unset, .unset, .unset, .unset, .unset, .unset, .unset, .unset, .unset] [(.int d2), (.int d1), (.ref b26), (.ref b26)])) _
          refine XS.iconst X26.here hx rfl (hb hby at_77) ?_
          exact k)
      have hv : (if (p2 &&& (4 : Int32)) = (0 : Int32) then (0 : Int32) else 1) = (0 : Int32) := by simp [hm70_47]
      exact fun _ k => G50 _ (by rw [hv] at k; exact k)
    · have G51 : Goes p e below s₁ (entryFrame m #[(.int p1), (.int p2)] maxLocals) T26 (mkF m 73 #[.val (.int p1), .val (.int p2), .val (.ref b1), .unset, .unset, .unset, .unset, .unset, .unset, .unset, .unset, .unset] [(.int d2), (.int d1), (.ref b26), (.ref b26)]) := fun _ k => G47 _ (by
          show Steps p.tables e below (T26.setTop (mkF m 70 #[.val (.int p1), .val (.int p2), .val (.ref b1), .unset, .unset, .unset, .unset, .unset, .unset, .unset, .unset, .unset] [(.int (p2 &&& (4 : Int32))), (.int d2), (.int d1), (.ref b26), (.ref b26)])) _
          refine XS.ifNo X26.here hx rfl (hb hby at_70) rfl ((if0 _ _).trans (feq hm70_47).1) ?_
          exact k)
      have G52 : Goes p e below s₁ (entryFrame m #[(.int p1), (.int p2)] maxLocals) T26 (mkF m 78 #[.val (.int p1), .val (.int p2), .val (.ref b1), .unset, .unset, .unset, .unset, .unset, .unset, .unset, .unset, .unset] [(.int (1 : Int32)), (.int d2), (.int d1), (.ref b26), (.ref b26)]) := fun _ k => G51 _ (by
          show Steps p.tables e below (T26.setTop (mkF m 73 #[.val (.int p1), .val (.int p2), .val (.ref b1), .unset, .unset, .unset, .unset, .unset, .unset, .unset, .unset, .unset] [(.int d2), (.int d1), (.ref b26), (.ref b26)])) _
          refine XS.iconst X26.here hx rfl (hb hby at_73) ?_
          show Steps p.tables e below (T26.setTop (mkF m 74 #[.val (.int p1), .val (.int p2), .val (.ref b1), .unset, .unset, .unset, .unset, .unset, .unset, .unset, .unset, .unset] [(.int (1 : Int32)), (.int d2), (.int d1), (.ref b26), (.ref b26)])) _
          refine XS.goto X26.here hx rfl (pc0 := 74) (pc' := 78) rfl (hb hby at_74) (by decide) (by decide) ?_
          exact k)
      have hv : (if (p2 &&& (4 : Int32)) = (0 : Int32) then (0 : Int32) else 1) = (1 : Int32) := by simp [hm70_47]
      exact fun _ k => G52 _ (by rw [hv] at k; exact k)
  obtain ⟨d3, ed3, hbd3⟩ : ∃ z : Int32, z = (if (p2 &&& (4 : Int32)) = (0 : Int32) then (0 : Int32) else 1) ∧ Bit z := ⟨_, rfl, own_ite⟩
  rw [← ed3] at G46
  obtain ⟨_, _, ⟨T53, L53, k53, n53⟩, -, X53, ⟨Lc53, hQ53, l53, y53, z53⟩, st53⟩ := X26.specialBack hx (y := (⟨"com/example/retree/retree/QualifiedType$Qualifiers", "<init>", "(ZZZ)V"⟩ : MethodName)) rfl hown (mvT hZ (hw _ (List.mem_of_getElem? (i := 3) rfl))) (mvT hZ (hw _ (List.mem_of_getElem? (i := 4) rfl))) (mvT hZ (hw _ (List.mem_of_getElem? (i := 5) rfl))) (by decide) (backOf (W := 1) (rm1 l Z a0 hw [] b26 d1 d2 d3 h26 n0 Zn A26 FisConst_26 FisVolatile_26 FisRestrict_26 gb1 hbd1 hbd2 hbd3) hZ (hw _ (List.mem_of_getElem? (i := 5) rfl)) (hw _ (List.mem_of_getElem? (i := 2) rfl)) (by decide) (by decide)) (g := (mkF m 78 #[.val (.int p1), .val (.int p2), .val (.ref b1), .unset, .unset, .unset, .unset, .unset, .unset, .unset, .unset, .unset] [(.int d3), (.int d2), (.int d1), (.ref b26), (.ref b26)])) rfl (by rw [hml]; rfl) (Steps.refl _) (a := b26) (argsL := [(.int d1), (.int d2), (.int d3)]) (rest := [(.ref b26)]) (lenOf own_pd1 rfl) rfl (by show 2 * 0 + _ ≤ _; exact Nat.le_of_eq rfl) (hb hby at_78) (fun _ _ => ⟨rfl, e26, (by decide : 2 + 0 ≤ _), (by decide : 6 + 0 ≤ _)⟩)
  dsimp only [Pt.U, Pt.locs, Pt.cells, Pt.slots] at X53 l53 y53 z53 st53 hQ53
  subst l53 y53 z53
  obtain ⟨rfl, N53q, K53, Ex53, Fa53, Fb53, Fc53⟩ := hQ53
  have N53 := Fr.app N24 N53q
  have G53 : Goes p e below s₁ (entryFrame m #[(.int p1), (.int p2)] maxLocals) T53 (mkF m 81 #[.val (.int p1), .val (.int p2), .val (.ref b1), .unset, .unset, .unset, .unset, .unset, .unset, .unset, .unset, .unset] [(.ref b26)]) := fun _ k => G46 _ (st53.trans k)
  have f54 := f27.keep K53
  have f55 := f28.keep K53 (ninS ne nin0)
  have f56 := f29.keep K53 (ninS ne nin0)
  have f57 := f30.keep K53 (ninS ne nin0)
  have Zn : n0 ≤ T53.heap.size := Nat.le_trans Zn K53.1
  have G58 : Goes p e below s₁ (entryFrame m #[(.int p1), (.int p2)] maxLocals) T53 (mkF m 84 #[.val (.int p1), .val (.int p2), .val (.ref b1), .val (.ref b26), .unset, .unset, .unset, .unset, .unset, .unset, .unset, .unset] [(.ref b26), (.ref b1)]) := fun _ k => G53 _ (by
      show Steps p.tables e below (T53.setTop (mkF m 81 #[.val (.int p1), .val (.int p2), .val (.ref b1), .unset, .unset, .unset, .unset, .unset, .unset, .unset, .unset, .unset] [(.ref b26)])) _
      refine XS.astoreN X53.here hx rfl (hb hby at_81) rfl rfl (l' := #[.val (.int p1), .val (.int p2), .val (.ref b1), .val (.ref b26), .unset, .unset, .unset, .unset, .unset, .unset, .unset, .unset]) rfl ?_
      show Steps p.tables e below (T53.setTop (mkF m 82 #[.val (.int p1), .val (.int p2), .val (.ref b1), .val (.ref b26), .unset, .unset, .unset, .unset, .unset, .unset, .unset, .unset] [])) _
      refine XS.aloadN X53.here hx rfl (hb hby at_82) rfl rfl ?_
      show Steps p.tables e below (T53.setTop (mkF m 83 #[.val (.int p1), .val (.int p2), .val (.ref b1), .val (.ref b26), .unset, .unset, .unset, .unset, .unset, .unset, .unset, .unset] [(.ref b1)])) _
      refine XS.aloadN X53.here hx rfl (hb hby at_83) rfl rfl ?_
      exact k)
  obtain ⟨cq59, kq59, q59a, q59b, q59c⟩ := isOf hZ rfl f54
  obtain ⟨_, _, ⟨T59, L59, k59, n59⟩, -, X59, ⟨Lc59, hQ59, l59, y59, z59⟩, st59⟩ := X53.virtualBack hx (y := (⟨"com/example/retree/retree/QualifiedType$Qualifiers", "union", "(Lcom/example/retree/retree/QualifiedType$Qualifiers;)Lcom/example/retree/retree/QualifiedType$Qualifiers;"⟩ : MethodName)) (z := (⟨"com/example/retree/retree/QualifiedType$Qualifiers", "union", "(Lcom/example/retree/retree/QualifiedType$Qualifiers;)Lcom/example/retree/retree/QualifiedType$Qualifiers;"⟩ : MethodName)) hown (mvT hZ (hw _ (List.mem_of_getElem? (i := 20) rfl))) (mvT hZ (hw _ (List.mem_of_getElem? (i := 21) rfl))) (notFace_of_selects (args := #[]) (mvT hZ (hw _ (List.mem_of_getElem? (i := 23) rfl)))) (mvT hZ (hw _ (List.mem_of_getElem? (i := 23) rfl))) (mvT hZ (hw _ (List.mem_of_getElem? (i := 22) rfl))) (by decide) (backOf (W := 0) (rm4 l Z a0 hw [] b1 b26 c1 c2 c3 d1 d2 d3 T53.heap n0 Zn f55 f56 f57 Fa53 Fb53 Fc53 hbc1 hbc2 hbc3 hbd1 hbd2 hbd3) hZ (hw _ (List.mem_of_getElem? (i := 24) rfl)) (hw _ (List.mem_of_getElem? (i := 2) rfl)) (by decide) (by decide)) q59a q59c (g := (mkF m 84 #[.val (.int p1), .val (.int p2), .val (.ref b1), .val (.ref b26), .unset, .unset, .unset, .unset, .unset, .unset, .unset, .unset] [(.ref b26), (.ref b1)])) rfl (by rw [hml]; rfl) (Steps.refl _) (argsL := [(.ref b26)]) (rest := []) (lenOf own_pd2 rfl) rfl (by show 2 * 0 + _ ≤ _; exact Nat.le_of_eq rfl) (hb hby at_84) (fun _ _ => ⟨rfl, rfl, (by decide : 2 + 1 ≤ _), (by decide : 6 + 3 ≤ _)⟩)
  dsimp only [Pt.U, Pt.locs, Pt.cells, Pt.slots] at X59 l59 y59 z59 st59 hQ59
  subst l59 y59 z59
  obtain ⟨u59, rfl, N59q, K59, Ex59, Fa59, Fb59, Fc59⟩ := hQ59
  have N59 := Fr.app N53 N59q
  have G59 : Goes p e below s₁ (entryFrame m #[(.int p1), (.int p2)] maxLocals) T59 (mkF m 87 #[.val (.int p1), .val (.int p2), .val (.ref b1), .val (.ref b26), .unset, .unset, .unset, .unset, .unset, .unset, .unset, .unset] [(.ref u59)]) := fun _ k => G58 _ (st59.trans k)
  have f60 := f54.keep K59
  have f61 := f55.keep K59 nin0
  have f62 := f56.keep K59 nin0
  have f63 := f57.keep K59 nin0
  have f64 := Ex53.keep K59
  have f65 := Fa53.keep K59 nin0
  have f66 := Fb53.keep K59 nin0
  have f67 := Fc53.keep K59 nin0
  have Zn : n0 ≤ T59.heap.size := Nat.le_trans Zn K59.1
  have G68 : Goes p e below s₁ (entryFrame m #[(.int p1), (.int p2)] maxLocals) T59 (mkF m 90 #[.val (.int p1), .val (.int p2), .val (.ref b1), .val (.ref b26), .val (.ref u59), .unset, .unset, .unset, .unset, .unset, .unset, .unset] [(.ref b1)]) := fun _ k => G59 _ (by
      show Steps p.tables e below (T59.setTop (mkF m 87 #[.val (.int p1), .val (.int p2), .val (.ref b1), .val (.ref b26), .unset, .unset, .unset, .unset, .unset, .unset, .unset, .unset] [(.ref u59)])) _
      refine XS.astore X59.here hx rfl (hb hby at_87) rfl rfl (l' := #[.val (.int p1), .val (.int p2), .val (.ref b1), .val (.ref b26), .val (.ref u59), .unset, .unset, .unset, .unset, .unset, .unset, .unset]) rfl ?_
      show Steps p.tables e below (T59.setTop (mkF m 89 #[.val (.int p1), .val (.int p2), .val (.ref b1), .val (.ref b26), .val (.ref u59), .unset, .unset, .unset, .unset, .unset, .unset, .unset] [])) _
      refine XS.aloadN X59.here hx rfl (hb hby at_89) rfl rfl ?_
      exact k)
  obtain ⟨cq69, kq69, q69a, q69b, q69c⟩ := isOf hZ rfl f60
  obtain ⟨_, _, ⟨T69, L69, k69, n69⟩, -, X69, ⟨Lc69, hQ69, l69, y69, z69⟩, st69⟩ := X59.virtualBack hx (y := (⟨"com/example/retree/retree/QualifiedType$Qualifiers", "hashCode", "()I"⟩ : MethodName)) (z := (⟨"com/example/retree/retree/QualifiedType$Qualifiers", "hashCode", "()I"⟩ : MethodName)) hown (mvT hZ (hw _ (List.mem_of_getElem? (i := 27) rfl))) (mvT hZ (hw _ (List.mem_of_getElem? (i := 28) rfl))) (notFace_of_selects (args := #[]) (mvT hZ (hw _ (List.mem_of_getElem? (i := 30) rfl)))) (mvT hZ (hw _ (List.mem_of_getElem? (i := 30) rfl))) (mvT hZ (hw _ (List.mem_of_getElem? (i := 29) rfl))) (by decide) (backOf (W := 0) (rm5 l Z a0 hw [] b1 c1 c2 c3 T59.heap n0 Zn f61 f62 f63) hZ (hw _ (List.mem_of_getElem? (i := 31) rfl)) (hw _ (List.mem_of_getElem? (i := 2) rfl)) (by decide) (by decide)) q69a q69c (g := (mkF m 90 #[.val (.int p1), .val (.int p2), .val (.ref b1), .val (.ref b26), .val (.ref u59), .unset, .unset, .unset, .unset, .unset, .unset, .unset] [(.ref b1)])) rfl (by rw [hml]; rfl) (Steps.refl _) (argsL := []) (rest := []) (lenOf own_pd3 rfl) rfl (by show 2 * 0 + _ ≤ _; exact Nat.le_of_eq rfl) (hb hby at_90) (fun _ _ => ⟨rfl, rfl, (by decide : 3 + 0 ≤ _), (by decide : 9 + 0 ≤ _)⟩)
  dsimp only [Pt.U, Pt.locs, Pt.cells, Pt.slots] at X69 l69 y69 z69 st69 hQ69
  subst l69 y69 z69
  obtain ⟨rfl, N69q, hh69⟩ := hQ69
  have N69 := Fr.app N59 N69q
  have G69 : Goes p e below s₁ (entryFrame m #[(.int p1), (.int p2)] maxLocals) T69 (mkF m 93 #[.val (.int p1), .val (.int p2), .val (.ref b1), .val (.ref b26), .val (.ref u59), .unset, .unset, .unset, .unset, .unset, .unset, .unset] [(.int (own_h c1 c2 c3))]) := fun _ k => G68 _ (st69.trans k)
  have G70 : Goes p e below s₁ (entryFrame m #[(.int p1), (.int p2)] maxLocals) T69 (mkF m 96 #[.val (.int p1), .val (.int p2), .val (.ref b1), .val (.ref b26), .val (.ref u59), .val (.int (own_h c1 c2 c3)), .unset, .unset, .unset, .unset, .unset, .unset] [(.ref b26)]) := fun _ k => G69 _ (by
      show Steps p.tables e below (T69.setTop (mkF m 93 #[.val (.int p1), .val (.int p2), .val (.ref b1), .val (.ref b26), .val (.ref u59), .unset, .unset, .unset, .unset, .unset, .unset, .unset] [(.int (own_h c1 c2 c3))])) _
      refine XS.istore X69.here hx rfl (hb hby at_93) rfl (l' := #[.val (.int p1), .val (.int p2), .val (.ref b1), .val (.ref b26), .val (.ref u59), .val (.int (own_h c1 c2 c3)), .unset, .unset, .unset, .unset, .unset, .unset]) rfl ?_
      show Steps p.tables e below (T69.setTop (mkF m 95 #[.val (.int p1), .val (.int p2), .val (.ref b1), .val (.ref b26), .val (.ref u59), .val (.int (own_h c1 c2 c3)), .unset, .unset, .unset, .unset, .unset, .unset] [])) _
      refine XS.aloadN X69.here hx rfl (hb hby at_95) rfl rfl ?_
      exact k)
  obtain ⟨cq71, kq71, q71a, q71b, q71c⟩ := isOf hZ hh69 f64
  obtain ⟨_, _, ⟨T71, L71, k71, n71⟩, -, X71, ⟨Lc71, hQ71, l71, y71, z71⟩, st71⟩ := X69.virtualBack hx (y := (⟨"com/example/retree/retree/QualifiedType$Qualifiers", "hashCode", "()I"⟩ : MethodName)) (z := (⟨"com/example/retree/retree/QualifiedType$Qualifiers", "hashCode", "()I"⟩ : MethodName)) hown (mvT hZ (hw _ (List.mem_of_getElem? (i := 27) rfl))) (mvT hZ (hw _ (List.mem_of_getElem? (i := 28) rfl))) (notFace_of_selects (args := #[]) (mvT hZ (hw _ (List.mem_of_getElem? (i := 30) rfl)))) (mvT hZ (hw _ (List.mem_of_getElem? (i := 30) rfl))) (mvT hZ (hw _ (List.mem_of_getElem? (i := 29) rfl))) (by decide) (backOf (W := 0) (rm5 l Z a0 hw [] b26 d1 d2 d3 T59.heap n0 Zn f65 f66 f67) hZ (hw _ (List.mem_of_getElem? (i := 31) rfl)) (hw _ (List.mem_of_getElem? (i := 2) rfl)) (by decide) (by decide)) q71a q71c (g := (mkF m 96 #[.val (.int p1), .val (.int p2), .val (.ref b1), .val (.ref b26), .val (.ref u59), .val (.int (own_h c1 c2 c3)), .unset, .unset, .unset, .unset, .unset, .unset] [(.ref b26)])) rfl (by rw [hml]; rfl) (Steps.refl _) (argsL := []) (rest := []) (lenOf own_pd3 rfl) rfl (by show 2 * 0 + _ ≤ _; exact Nat.le_of_eq rfl) (hb hby at_96) (fun _ _ => ⟨rfl, hh69, (by decide : 3 + 0 ≤ _), (by decide : 9 + 0 ≤ _)⟩)
  dsimp only [Pt.U, Pt.locs, Pt.cells, Pt.slots] at X71 l71 y71 z71 st71 hQ71
  subst l71 y71 z71
  obtain ⟨rfl, N71q, hh71⟩ := hQ71
  have N71 := Fr.app N69 N71q
  have G71 : Goes p e below s₁ (entryFrame m #[(.int p1), (.int p2)] maxLocals) T71 (mkF m 99 #[.val (.int p1), .val (.int p2), .val (.ref b1), .val (.ref b26), .val (.ref u59), .val (.int (own_h c1 c2 c3)), .unset, .unset, .unset, .unset, .unset, .unset] [(.int (own_h d1 d2 d3))]) := fun _ k => G70 _ (st71.trans k)
  have G72 : Goes p e below s₁ (entryFrame m #[(.int p1), (.int p2)] maxLocals) T71 (mkF m 103 #[.val (.int p1), .val (.int p2), .val (.ref b1), .val (.ref b26), .val (.ref u59), .val (.int (own_h c1 c2 c3)), .val (.int (own_h d1 d2 d3)), .unset, .unset, .unset, .unset, .unset] [(.ref u59)]) := fun _ k => G71 _ (by
      show Steps p.tables e below (T71.setTop (mkF m 99 #[.val (.int p1), .val (.int p2), .val (.ref b1), .val (.ref b26), .val (.ref u59), .val (.int (own_h c1 c2 c3)), .unset, .unset, .unset, .unset, .unset, .unset] [(.int (own_h d1 d2 d3))])) _
      refine XS.istore X71.here hx rfl (hb hby at_99) rfl (l' := #[.val (.int p1), .val (.int p2), .val (.ref b1), .val (.ref b26), .val (.ref u59), .val (.int (own_h c1 c2 c3)), .val (.int (own_h d1 d2 d3)), .unset, .unset, .unset, .unset, .unset]) rfl ?_
      show Steps p.tables e below (T71.setTop (mkF m 101 #[.val (.int p1), .val (.int p2), .val (.ref b1), .val (.ref b26), .val (.ref u59), .val (.int (own_h c1 c2 c3)), .val (.int (own_h d1 d2 d3)), .unset, .unset, .unset, .unset, .unset] [])) _
      refine XS.aload X71.here hx rfl (hb hby at_101) rfl rfl ?_
      exact k)
  obtain ⟨cq73, kq73, q73a, q73b, q73c⟩ := isOf hZ hh71 Ex59
  obtain ⟨_, _, ⟨T73, L73, k73, n73⟩, -, X73, ⟨Lc73, hQ73, l73, y73, z73⟩, st73⟩ := X71.virtualBack hx (y := (⟨"com/example/retree/retree/QualifiedType$Qualifiers", "hashCode", "()I"⟩ : MethodName)) (z := (⟨"com/example/retree/retree/QualifiedType$Qualifiers", "hashCode", "()I"⟩ : MethodName)) hown (mvT hZ (hw _ (List.mem_of_getElem? (i := 27) rfl))) (mvT hZ (hw _ (List.mem_of_getElem? (i := 28) rfl))) (notFace_of_selects (args := #[]) (mvT hZ (hw _ (List.mem_of_getElem? (i := 30) rfl)))) (mvT hZ (hw _ (List.mem_of_getElem? (i := 30) rfl))) (mvT hZ (hw _ (List.mem_of_getElem? (i := 29) rfl))) (by decide) (backOf (W := 0) (rm5 l Z a0 hw [] u59 (c1 ||| d1) (c2 ||| d2) (c3 ||| d3) T59.heap n0 Zn Fa59 Fb59 Fc59) hZ (hw _ (List.mem_of_getElem? (i := 31) rfl)) (hw _ (List.mem_of_getElem? (i := 2) rfl)) (by decide) (by decide)) q73a q73c (g := (mkF m 103 #[.val (.int p1), .val (.int p2), .val (.ref b1), .val (.ref b26), .val (.ref u59), .val (.int (own_h c1 c2 c3)), .val (.int (own_h d1 d2 d3)), .unset, .unset, .unset, .unset, .unset] [(.ref u59)])) rfl (by rw [hml]; rfl) (Steps.refl _) (argsL := []) (rest := []) (lenOf own_pd3 rfl) rfl (by show 2 * 0 + _ ≤ _; exact Nat.le_of_eq rfl) (hb hby at_103) (fun _ _ => ⟨rfl, hh71, (by decide : 3 + 0 ≤ _), (by decide : 9 + 0 ≤ _)⟩)
  dsimp only [Pt.U, Pt.locs, Pt.cells, Pt.slots] at X73 l73 y73 z73 st73 hQ73
  subst l73 y73 z73
  obtain ⟨rfl, N73q, hh73⟩ := hQ73
  have N73 := Fr.app N71 N73q
  have G73 : Goes p e below s₁ (entryFrame m #[(.int p1), (.int p2)] maxLocals) T73 (mkF m 106 #[.val (.int p1), .val (.int p2), .val (.ref b1), .val (.ref b26), .val (.ref u59), .val (.int (own_h c1 c2 c3)), .val (.int (own_h d1 d2 d3)), .unset, .unset, .unset, .unset, .unset] [(.int (own_h (c1 ||| d1) (c2 ||| d2) (c3 ||| d3)))]) := fun _ k => G72 _ (st73.trans k)
  have G74 : Goes p e below s₁ (entryFrame m #[(.int p1), (.int p2)] maxLocals) T73 (mkF m 110 #[.val (.int p1), .val (.int p2), .val (.ref b1), .val (.ref b26), .val (.ref u59), .val (.int (own_h c1 c2 c3)), .val (.int (own_h d1 d2 d3)), .val (.int (own_h (c1 ||| d1) (c2 ||| d2) (c3 ||| d3))), .unset, .unset, .unset, .unset] [(.int (own_h c1 c2 c3))]) := fun _ k => G73 _ (by
      show Steps p.tables e below (T73.setTop (mkF m 106 #[.val (.int p1), .val (.int p2), .val (.ref b1), .val (.ref b26), .val (.ref u59), .val (.int (own_h c1 c2 c3)), .val (.int (own_h d1 d2 d3)), .unset, .unset, .unset, .unset, .unset] [(.int (own_h (c1 ||| d1) (c2 ||| d2) (c3 ||| d3)))])) _
      refine XS.istore X73.here hx rfl (hb hby at_106) rfl (l' := #[.val (.int p1), .val (.int p2), .val (.ref b1), .val (.ref b26), .val (.ref u59), .val (.int (own_h c1 c2 c3)), .val (.int (own_h d1 d2 d3)), .val (.int (own_h (c1 ||| d1) (c2 ||| d2) (c3 ||| d3))), .unset, .unset, .unset, .unset]) rfl ?_
      show Steps p.tables e below (T73.setTop (mkF m 108 #[.val (.int p1), .val (.int p2), .val (.ref b1), .val (.ref b26), .val (.ref u59), .val (.int (own_h c1 c2 c3)), .val (.int (own_h d1 d2 d3)), .val (.int (own_h (c1 ||| d1) (c2 ||| d2) (c3 ||| d3))), .unset, .unset, .unset, .unset] [])) _
      refine XS.iload X73.here hx rfl (hb hby at_108) rfl ?_
      exact k)
  have G75 : Goes p e below s₁ (entryFrame m #[(.int p1), (.int p2)] maxLocals) T73 (mkF m 113 #[.val (.int p1), .val (.int p2), .val (.ref b1), .val (.ref b26), .val (.ref u59), .val (.int (own_h c1 c2 c3)), .val (.int (own_h d1 d2 d3)), .val (.int (own_h (c1 ||| d1) (c2 ||| d2) (c3 ||| d3))), .unset, .unset, .unset, .unset] []) := fun _ k => G74 _ (by
      show Steps p.tables e below (T73.setTop (mkF m 110 #[.val (.int p1), .val (.int p2), .val (.ref b1), .val (.ref b26), .val (.ref u59), .val (.int (own_h c1 c2 c3)), .val (.int (own_h d1 d2 d3)), .val (.int (own_h (c1 ||| d1) (c2 ||| d2) (c3 ||| d3))), .unset, .unset, .unset, .unset] [(.int (own_h c1 c2 c3))])) _
      refine XS.ifNo X73.here hx rfl (hb hby at_110) rfl ((if0 _ _).trans (flt (own_l1 hbc1 hbc2 hbc3)).1) ?_
      exact k)
  have G76 : Goes p e below s₁ (entryFrame m #[(.int p1), (.int p2)] maxLocals) T73 (mkF m 117 #[.val (.int p1), .val (.int p2), .val (.ref b1), .val (.ref b26), .val (.ref u59), .val (.int (own_h c1 c2 c3)), .val (.int (own_h d1 d2 d3)), .val (.int (own_h (c1 ||| d1) (c2 ||| d2) (c3 ||| d3))), .unset, .unset, .unset, .unset] [(.int (7 : Int32)), (.int (own_h c1 c2 c3))]) := fun _ k => G75 _ (by
      show Steps p.tables e below (T73.setTop (mkF m 113 #[.val (.int p1), .val (.int p2), .val (.ref b1), .val (.ref b26), .val (.ref u59), .val (.int (own_h c1 c2 c3)), .val (.int (own_h d1 d2 d3)), .val (.int (own_h (c1 ||| d1) (c2 ||| d2) (c3 ||| d3))), .unset, .unset, .unset, .unset] [])) _
      refine XS.iload X73.here hx rfl (hb hby at_113) rfl ?_
      show Steps p.tables e below (T73.setTop (mkF m 115 #[.val (.int p1), .val (.int p2), .val (.ref b1), .val (.ref b26), .val (.ref u59), .val (.int (own_h c1 c2 c3)), .val (.int (own_h d1 d2 d3)), .val (.int (own_h (c1 ||| d1) (c2 ||| d2) (c3 ||| d3))), .unset, .unset, .unset, .unset] [(.int (own_h c1 c2 c3))])) _
      refine XS.bipush X73.here hx rfl (hb hby at_115) ?_
      exact k)
  have G77 : Goes p e below s₁ (entryFrame m #[(.int p1), (.int p2)] maxLocals) T73 (mkF m 120 #[.val (.int p1), .val (.int p2), .val (.ref b1), .val (.ref b26), .val (.ref u59), .val (.int (own_h c1 c2 c3)), .val (.int (own_h d1 d2 d3)), .val (.int (own_h (c1 ||| d1) (c2 ||| d2) (c3 ||| d3))), .unset, .unset, .unset, .unset] []) := fun _ k => G76 _ (by
      show Steps p.tables e below (T73.setTop (mkF m 117 #[.val (.int p1), .val (.int p2), .val (.ref b1), .val (.ref b26), .val (.ref u59), .val (.int (own_h c1 c2 c3)), .val (.int (own_h d1 d2 d3)), .val (.int (own_h (c1 ||| d1) (c2 ||| d2) (c3 ||| d3))), .unset, .unset, .unset, .unset] [(.int (7 : Int32)), (.int (own_h c1 c2 c3))])) _
      refine XS.icmpNo X73.here hx rfl (hb hby at_117) rfl (flt (own_l2 hbc1 hbc2 hbc3)).2.2.1 ?_
      exact k)
  have G78 : Goes p e below s₁ (entryFrame m #[(.int p1), (.int p2)] maxLocals) T73 (mkF m 122 #[.val (.int p1), .val (.int p2), .val (.ref b1), .val (.ref b26), .val (.ref u59), .val (.int (own_h c1 c2 c3)), .val (.int (own_h d1 d2 d3)), .val (.int (own_h (c1 ||| d1) (c2 ||| d2) (c3 ||| d3))), .unset, .unset, .unset, .unset] [(.int (own_h d1 d2 d3))]) := fun _ k => G77 _ (by
      show Steps p.tables e below (T73.setTop (mkF m 120 #[.val (.int p1), .val (.int p2), .val (.ref b1), .val (.ref b26), .val (.ref u59), .val (.int (own_h c1 c2 c3)), .val (.int (own_h d1 d2 d3)), .val (.int (own_h (c1 ||| d1) (c2 ||| d2) (c3 ||| d3))), .unset, .unset, .unset, .unset] [])) _
      refine XS.iload X73.here hx rfl (hb hby at_120) rfl ?_
      exact k)
  have G79 : Goes p e below s₁ (entryFrame m #[(.int p1), (.int p2)] maxLocals) T73 (mkF m 125 #[.val (.int p1), .val (.int p2), .val (.ref b1), .val (.ref b26), .val (.ref u59), .val (.int (own_h c1 c2 c3)), .val (.int (own_h d1 d2 d3)), .val (.int (own_h (c1 ||| d1) (c2 ||| d2) (c3 ||| d3))), .unset, .unset, .unset, .unset] []) := fun _ k => G78 _ (by
      show Steps p.tables e below (T73.setTop (mkF m 122 #[.val (.int p1), .val (.int p2), .val (.ref b1), .val (.ref b26), .val (.ref u59), .val (.int (own_h c1 c2 c3)), .val (.int (own_h d1 d2 d3)), .val (.int (own_h (c1 ||| d1) (c2 ||| d2) (c3 ||| d3))), .unset, .unset, .unset, .unset] [(.int (own_h d1 d2 d3))])) _
      refine XS.ifNo X73.here hx rfl (hb hby at_122) rfl ((if0 _ _).trans (flt (own_l1 hbd1 hbd2 hbd3)).1) ?_
      exact k)
  have G80 : Goes p e below s₁ (entryFrame m #[(.int p1), (.int p2)] maxLocals) T73 (mkF m 129 #[.val (.int p1), .val (.int p2), .val (.ref b1), .val (.ref b26), .val (.ref u59), .val (.int (own_h c1 c2 c3)), .val (.int (own_h d1 d2 d3)), .val (.int (own_h (c1 ||| d1) (c2 ||| d2) (c3 ||| d3))), .unset, .unset, .unset, .unset] [(.int (7 : Int32)), (.int (own_h d1 d2 d3))]) := fun _ k => G79 _ (by
      show Steps p.tables e below (T73.setTop (mkF m 125 #[.val (.int p1), .val (.int p2), .val (.ref b1), .val (.ref b26), .val (.ref u59), .val (.int (own_h c1 c2 c3)), .val (.int (own_h d1 d2 d3)), .val (.int (own_h (c1 ||| d1) (c2 ||| d2) (c3 ||| d3))), .unset, .unset, .unset, .unset] [])) _
      refine XS.iload X73.here hx rfl (hb hby at_125) rfl ?_
      show Steps p.tables e below (T73.setTop (mkF m 127 #[.val (.int p1), .val (.int p2), .val (.ref b1), .val (.ref b26), .val (.ref u59), .val (.int (own_h c1 c2 c3)), .val (.int (own_h d1 d2 d3)), .val (.int (own_h (c1 ||| d1) (c2 ||| d2) (c3 ||| d3))), .unset, .unset, .unset, .unset] [(.int (own_h d1 d2 d3))])) _
      refine XS.bipush X73.here hx rfl (hb hby at_127) ?_
      exact k)
  have G81 : Goes p e below s₁ (entryFrame m #[(.int p1), (.int p2)] maxLocals) T73 (mkF m 132 #[.val (.int p1), .val (.int p2), .val (.ref b1), .val (.ref b26), .val (.ref u59), .val (.int (own_h c1 c2 c3)), .val (.int (own_h d1 d2 d3)), .val (.int (own_h (c1 ||| d1) (c2 ||| d2) (c3 ||| d3))), .unset, .unset, .unset, .unset] []) := fun _ k => G80 _ (by
      show Steps p.tables e below (T73.setTop (mkF m 129 #[.val (.int p1), .val (.int p2), .val (.ref b1), .val (.ref b26), .val (.ref u59), .val (.int (own_h c1 c2 c3)), .val (.int (own_h d1 d2 d3)), .val (.int (own_h (c1 ||| d1) (c2 ||| d2) (c3 ||| d3))), .unset, .unset, .unset, .unset] [(.int (7 : Int32)), (.int (own_h d1 d2 d3))])) _
      refine XS.icmpNo X73.here hx rfl (hb hby at_129) rfl (flt (own_l2 hbd1 hbd2 hbd3)).2.2.1 ?_
      exact k)
  have G82 : Goes p e below s₁ (entryFrame m #[(.int p1), (.int p2)] maxLocals) T73 (mkF m 141 #[.val (.int p1), .val (.int p2), .val (.ref b1), .val (.ref b26), .val (.ref u59), .val (.int (own_h c1 c2 c3)), .val (.int (own_h d1 d2 d3)), .val (.int (own_h (c1 ||| d1) (c2 ||| d2) (c3 ||| d3))), .val (.int (1 : Int32)), .unset, .unset, .unset] [(.ref b26), (.ref b1)]) := fun _ k => G81 _ (by
      show Steps p.tables e below (T73.setTop (mkF m 132 #[.val (.int p1), .val (.int p2), .val (.ref b1), .val (.ref b26), .val (.ref u59), .val (.int (own_h c1 c2 c3)), .val (.int (own_h d1 d2 d3)), .val (.int (own_h (c1 ||| d1) (c2 ||| d2) (c3 ||| d3))), .unset, .unset, .unset, .unset] [])) _
      refine XS.iconst X73.here hx rfl (hb hby at_132) ?_
      show Steps p.tables e below (T73.setTop (mkF m 133 #[.val (.int p1), .val (.int p2), .val (.ref b1), .val (.ref b26), .val (.ref u59), .val (.int (own_h c1 c2 c3)), .val (.int (own_h d1 d2 d3)), .val (.int (own_h (c1 ||| d1) (c2 ||| d2) (c3 ||| d3))), .unset, .unset, .unset, .unset] [(.int (1 : Int32))])) _
      refine XS.goto X73.here hx rfl (pc0 := 133) (pc' := 137) rfl (hb hby at_133) (by decide) (by decide) ?_
      show Steps p.tables e below (T73.setTop (mkF m 137 #[.val (.int p1), .val (.int p2), .val (.ref b1), .val (.ref b26), .val (.ref u59), .val (.int (own_h c1 c2 c3)), .val (.int (own_h d1 d2 d3)), .val (.int (own_h (c1 ||| d1) (c2 ||| d2) (c3 ||| d3))), .unset, .unset, .unset, .unset] [(.int (1 : Int32))])) _
      refine XS.istore X73.here hx rfl (hb hby at_137) rfl (l' := #[.val (.int p1), .val (.int p2), .val (.ref b1), .val (.ref b26), .val (.ref u59), .val (.int (own_h c1 c2 c3)), .val (.int (own_h d1 d2 d3)), .val (.int (own_h (c1 ||| d1) (c2 ||| d2) (c3 ||| d3))), .val (.int (1 : Int32)), .unset, .unset, .unset]) rfl ?_
      show Steps p.tables e below (T73.setTop (mkF m 139 #[.val (.int p1), .val (.int p2), .val (.ref b1), .val (.ref b26), .val (.ref u59), .val (.int (own_h c1 c2 c3)), .val (.int (own_h d1 d2 d3)), .val (.int (own_h (c1 ||| d1) (c2 ||| d2) (c3 ||| d3))), .val (.int (1 : Int32)), .unset, .unset, .unset] [])) _
      refine XS.aloadN X73.here hx rfl (hb hby at_139) rfl rfl ?_
      show Steps p.tables e below (T73.setTop (mkF m 140 #[.val (.int p1), .val (.int p2), .val (.ref b1), .val (.ref b26), .val (.ref u59), .val (.int (own_h c1 c2 c3)), .val (.int (own_h d1 d2 d3)), .val (.int (own_h (c1 ||| d1) (c2 ||| d2) (c3 ||| d3))), .val (.int (1 : Int32)), .unset, .unset, .unset] [(.ref b1)])) _
      refine XS.aloadN X73.here hx rfl (hb hby at_140) rfl rfl ?_
      exact k)
  obtain ⟨cq83, kq83, q83a, q83b, q83c⟩ := isOf hZ hh73 f60
  obtain ⟨_, _, ⟨T83, L83, k83, n83⟩, -, X83, ⟨Lc83, hQ83, l83, y83, z83⟩, st83⟩ := X73.virtualBack hx (y := (⟨"com/example/retree/retree/QualifiedType$Qualifiers", "equals", "(Ljava/lang/Object;)Z"⟩ : MethodName)) (z := (⟨"com/example/retree/retree/QualifiedType$Qualifiers", "equals", "(Ljava/lang/Object;)Z"⟩ : MethodName)) hown (mvT hZ (hw _ (List.mem_of_getElem? (i := 32) rfl))) (mvT hZ (hw _ (List.mem_of_getElem? (i := 33) rfl))) (notFace_of_selects (args := #[]) (mvT hZ (hw _ (List.mem_of_getElem? (i := 35) rfl)))) (mvT hZ (hw _ (List.mem_of_getElem? (i := 35) rfl))) (mvT hZ (hw _ (List.mem_of_getElem? (i := 34) rfl))) (by decide) (backOf (W := 0) (rm6 l Z a0 hw [] b1 b26 c1 c2 c3 d1 d2 d3 T59.heap n0 Zn f61 f62 f63 f65 f66 f67 f64) hZ (hw _ (List.mem_of_getElem? (i := 36) rfl)) (hw _ (List.mem_of_getElem? (i := 2) rfl)) (by decide) (by decide)) q83a q83c (g := (mkF m 141 #[.val (.int p1), .val (.int p2), .val (.ref b1), .val (.ref b26), .val (.ref u59), .val (.int (own_h c1 c2 c3)), .val (.int (own_h d1 d2 d3)), .val (.int (own_h (c1 ||| d1) (c2 ||| d2) (c3 ||| d3))), .val (.int (1 : Int32)), .unset, .unset, .unset] [(.ref b26), (.ref b1)])) rfl (by rw [hml]; rfl) (Steps.refl _) (argsL := [(.ref b26)]) (rest := []) (lenOf own_pd4 rfl) rfl (by show 2 * 0 + _ ≤ _; exact Nat.le_of_eq rfl) (hb hby at_141) (fun _ _ => ⟨rfl, hh73, (by decide : 3 + 0 ≤ _), (by decide : 9 + 0 ≤ _)⟩)
  dsimp only [Pt.U, Pt.locs, Pt.cells, Pt.slots] at X83 l83 y83 z83 st83 hQ83
  subst l83 y83 z83
  obtain ⟨rfl, N83q, hh83⟩ := hQ83
  have N83 := Fr.app N73 N83q
  have G83 : Goes p e below s₁ (entryFrame m #[(.int p1), (.int p2)] maxLocals) T83 (mkF m 144 #[.val (.int p1), .val (.int p2), .val (.ref b1), .val (.ref b26), .val (.ref u59), .val (.int (own_h c1 c2 c3)), .val (.int (own_h d1 d2 d3)), .val (.int (own_h (c1 ||| d1) (c2 ||| d2) (c3 ||| d3))), .val (.int (1 : Int32)), .unset, .unset, .unset] [(.int (own_eq c1 c2 c3 d1 d2 d3))]) := fun _ k => G82 _ (st83.trans k)
  have G84 : Goes p e below s₁ (entryFrame m #[(.int p1), (.int p2)] maxLocals) T83 (mkF m 156 #[.val (.int p1), .val (.int p2), .val (.ref b1), .val (.ref b26), .val (.ref u59), .val (.int (own_h c1 c2 c3)), .val (.int (own_h d1 d2 d3)), .val (.int (own_h (c1 ||| d1) (c2 ||| d2) (c3 ||| d3))), .val (.int (1 : Int32)), .unset, .unset, .unset] [(.int (if (own_h c1 c2 c3) = (own_h d1 d2 d3) then (1 : Int32) else 0)), (.int (own_eq c1 c2 c3 d1 d2 d3))]) := by
    have G85 : Goes p e below s₁ (entryFrame m #[(.int p1), (.int p2)] maxLocals) T83 (mkF m 148 #[.val (.int p1), .val (.int p2), .val (.ref b1), .val (.ref b26), .val (.ref u59), .val (.int (own_h c1 c2 c3)), .val (.int (own_h d1 d2 d3)), .val (.int (own_h (c1 ||| d1) (c2 ||| d2) (c3 ||| d3))), .val (.int (1 : Int32)), .unset, .unset, .unset] [(.int (own_h d1 d2 d3)), (.int (own_h c1 c2 c3)), (.int (own_eq c1 c2 c3 d1 d2 d3))]) := fun _ k => G83 _ (by
        show Steps p.tables e below (T83.setTop (mkF m 144 #[.val (.int p1), .val (.int p2), .val (.ref b1), .val (.ref b26), .val (.ref u59), .val (.int (own_h c1 c2 c3)), .val (.int (own_h d1 d2 d3)), .val (.int (own_h (c1 ||| d1) (c2 ||| d2) (c3 ||| d3))), .val (.int (1 : Int32)), .unset, .unset, .unset] [(.int (own_eq c1 c2 c3 d1 d2 d3))])) _
        refine XS.iload X83.here hx rfl (hb hby at_144) rfl ?_
        show Steps p.tables e below (T83.setTop (mkF m 146 #[.val (.int p1), .val (.int p2), .val (.ref b1), .val (.ref b26), .val (.ref u59), .val (.int (own_h c1 c2 c3)), .val (.int (own_h d1 d2 d3)), .val (.int (own_h (c1 ||| d1) (c2 ||| d2) (c3 ||| d3))), .val (.int (1 : Int32)), .unset, .unset, .unset] [(.int (own_h c1 c2 c3)), (.int (own_eq c1 c2 c3 d1 d2 d3))])) _
        refine XS.iload X83.here hx rfl (hb hby at_146) rfl ?_
        exact k)
    by_cases hm148_85 : (own_h c1 c2 c3) = (own_h d1 d2 d3)
    · have G87 : Goes p e below s₁ (entryFrame m #[(.int p1), (.int p2)] maxLocals) T83 (mkF m 151 #[.val (.int p1), .val (.int p2), .val (.ref b1), .val (.ref b26), .val (.ref u59), .val (.int (own_h c1 c2 c3)), .val (.int (own_h d1 d2 d3)), .val (.int (own_h (c1 ||| d1) (c2 ||| d2) (c3 ||| d3))), .val (.int (1 : Int32)), .unset, .unset, .unset] [(.int (own_eq c1 c2 c3 d1 d2 d3))]) := fun _ k => G85 _ (by
          show Steps p.tables e below (T83.setTop (mkF m 148 #[.val (.int p1), .val (.int p2), .val (.ref b1), .val (.ref b26), .val (.ref u59), .val (.int (own_h c1 c2 c3)), .val (.int (own_h d1 d2 d3)), .val (.int (own_h (c1 ||| d1) (c2 ||| d2) (c3 ||| d3))), .val (.int (1 : Int32)), .unset, .unset, .unset] [(.int (own_h d1 d2 d3)), (.int (own_h c1 c2 c3)), (.int (own_eq c1 c2 c3 d1 d2 d3))])) _
          refine XS.icmpNo X83.here hx rfl (hb hby at_148) rfl (teq hm148_85).2 ?_
          exact k)
      have G88 : Goes p e below s₁ (entryFrame m #[(.int p1), (.int p2)] maxLocals) T83 (mkF m 156 #[.val (.int p1), .val (.int p2), .val (.ref b1), .val (.ref b26), .val (.ref u59), .val (.int (own_h c1 c2 c3)), .val (.int (own_h d1 d2 d3)), .val (.int (own_h (c1 ||| d1) (c2 ||| d2) (c3 ||| d3))), .val (.int (1 : Int32)), .unset, .unset, .unset] [(.int (1 : Int32)), (.int (own_eq c1 c2 c3 d1 d2 d3))]) := fun _ k => G87 _ (by
          show Steps p.tables e below (T83.setTop (mkF m 151 #[.val (.int p1), .val (.int p2), .val (.ref b1), .val (.ref b26), .val (.ref u59), .val (.int (own_h c1 c2 c3)), .val (.int (own_h d1 d2 d3)), .val (.int (own_h (c1 ||| d1) (c2 ||| d2) (c3 ||| d3))), .val (.int (1 : Int32)), .unset, .unset, .unset] [(.int (own_eq c1 c2 c3 d1 d2 d3))])) _
          refine XS.iconst X83.here hx rfl (hb hby at_151) ?_
          show Steps p.tables e below (T83.setTop (mkF m 152 #[.val (.int p1), .val (.int p2), .val (.ref b1), .val (.ref b26), .val (.ref u59), .val (.int (own_h c1 c2 c3)), .val (.int (own_h d1 d2 d3)), .val (.int (own_h (c1 ||| d1) (c2 ||| d2) (c3 ||| d3))), .val (.int (1 : Int32)), .unset, .unset, .unset] [(.int (1 : Int32)), (.int (own_eq c1 c2 c3 d1 d2 d3))])) _
          refine XS.goto X83.here hx rfl (pc0 := 152) (pc' := 156) rfl (hb hby at_152) (by decide) (by decide) ?_
          exact k)
      have hv : (if (own_h c1 c2 c3) = (own_h d1 d2 d3) then (1 : Int32) else 0) = (1 : Int32) := by simp [hm148_85]
      exact fun _ k => G88 _ (by rw [hv] at k; exact k)
    · have G89 : Goes p e below s₁ (entryFrame m #[(.int p1), (.int p2)] maxLocals) T83 (mkF m 155 #[.val (.int p1), .val (.int p2), .val (.ref b1), .val (.ref b26), .val (.ref u59), .val (.int (own_h c1 c2 c3)), .val (.int (own_h d1 d2 d3)), .val (.int (own_h (c1 ||| d1) (c2 ||| d2) (c3 ||| d3))), .val (.int (1 : Int32)), .unset, .unset, .unset] [(.int (own_eq c1 c2 c3 d1 d2 d3))]) := fun _ k => G85 _ (by
          show Steps p.tables e below (T83.setTop (mkF m 148 #[.val (.int p1), .val (.int p2), .val (.ref b1), .val (.ref b26), .val (.ref u59), .val (.int (own_h c1 c2 c3)), .val (.int (own_h d1 d2 d3)), .val (.int (own_h (c1 ||| d1) (c2 ||| d2) (c3 ||| d3))), .val (.int (1 : Int32)), .unset, .unset, .unset] [(.int (own_h d1 d2 d3)), (.int (own_h c1 c2 c3)), (.int (own_eq c1 c2 c3 d1 d2 d3))])) _
          refine XS.icmpYes X83.here hx rfl (pc0 := 148) (pc' := 155) rfl (hb hby at_148) rfl (feq hm148_85).2 (by decide) (by decide) ?_
          exact k)
      have G90 : Goes p e below s₁ (entryFrame m #[(.int p1), (.int p2)] maxLocals) T83 (mkF m 156 #[.val (.int p1), .val (.int p2), .val (.ref b1), .val (.ref b26), .val (.ref u59), .val (.int (own_h c1 c2 c3)), .val (.int (own_h d1 d2 d3)), .val (.int (own_h (c1 ||| d1) (c2 ||| d2) (c3 ||| d3))), .val (.int (1 : Int32)), .unset, .unset, .unset] [(.int (0 : Int32)), (.int (own_eq c1 c2 c3 d1 d2 d3))]) := fun _ k => G89 _ (by
          show Steps p.tables e below (T83.setTop (mkF m 155 #[.val (.int p1), .val (.int p2), .val (.ref b1), .val (.ref b26), .val (.ref u59), .val (.int (own_h c1 c2 c3)), .val (.int (own_h d1 d2 d3)), .val (.int (own_h (c1 ||| d1) (c2 ||| d2) (c3 ||| d3))), .val (.int (1 : Int32)), .unset, .unset, .unset] [(.int (own_eq c1 c2 c3 d1 d2 d3))])) _
          refine XS.iconst X83.here hx rfl (hb hby at_155) ?_
          exact k)
      have hv : (if (own_h c1 c2 c3) = (own_h d1 d2 d3) then (1 : Int32) else 0) = (0 : Int32) := by simp [hm148_85]
      exact fun _ k => G90 _ (by rw [hv] at k; exact k)
  have G91 : Goes p e below s₁ (entryFrame m #[(.int p1), (.int p2)] maxLocals) T83 (mkF m 159 #[.val (.int p1), .val (.int p2), .val (.ref b1), .val (.ref b26), .val (.ref u59), .val (.int (own_h c1 c2 c3)), .val (.int (own_h d1 d2 d3)), .val (.int (own_h (c1 ||| d1) (c2 ||| d2) (c3 ||| d3))), .val (.int (1 : Int32)), .unset, .unset, .unset] []) := fun _ k => G84 _ (by
      show Steps p.tables e below (T83.setTop (mkF m 156 #[.val (.int p1), .val (.int p2), .val (.ref b1), .val (.ref b26), .val (.ref u59), .val (.int (own_h c1 c2 c3)), .val (.int (own_h d1 d2 d3)), .val (.int (own_h (c1 ||| d1) (c2 ||| d2) (c3 ||| d3))), .val (.int (1 : Int32)), .unset, .unset, .unset] [(.int (if (own_h c1 c2 c3) = (own_h d1 d2 d3) then (1 : Int32) else 0)), (.int (own_eq c1 c2 c3 d1 d2 d3))])) _
      refine XS.icmpNo X83.here hx rfl (hb hby at_156) rfl (teq (own_l3 hbc1 hbc2 hbc3 hbd1 hbd2 hbd3)).2 ?_
      exact k)
  have G92 : Goes p e below s₁ (entryFrame m #[(.int p1), (.int p2)] maxLocals) T83 (mkF m 167 #[.val (.int p1), .val (.int p2), .val (.ref b1), .val (.ref b26), .val (.ref u59), .val (.int (own_h c1 c2 c3)), .val (.int (own_h d1 d2 d3)), .val (.int (own_h (c1 ||| d1) (c2 ||| d2) (c3 ||| d3))), .val (.int (1 : Int32)), .val (.int (1 : Int32)), .unset, .unset] [(.ref b1)]) := fun _ k => G91 _ (by
      show Steps p.tables e below (T83.setTop (mkF m 159 #[.val (.int p1), .val (.int p2), .val (.ref b1), .val (.ref b26), .val (.ref u59), .val (.int (own_h c1 c2 c3)), .val (.int (own_h d1 d2 d3)), .val (.int (own_h (c1 ||| d1) (c2 ||| d2) (c3 ||| d3))), .val (.int (1 : Int32)), .unset, .unset, .unset] [])) _
      refine XS.iconst X83.here hx rfl (hb hby at_159) ?_
      show Steps p.tables e below (T83.setTop (mkF m 160 #[.val (.int p1), .val (.int p2), .val (.ref b1), .val (.ref b26), .val (.ref u59), .val (.int (own_h c1 c2 c3)), .val (.int (own_h d1 d2 d3)), .val (.int (own_h (c1 ||| d1) (c2 ||| d2) (c3 ||| d3))), .val (.int (1 : Int32)), .unset, .unset, .unset] [(.int (1 : Int32))])) _
      refine XS.goto X83.here hx rfl (pc0 := 160) (pc' := 164) rfl (hb hby at_160) (by decide) (by decide) ?_
      show Steps p.tables e below (T83.setTop (mkF m 164 #[.val (.int p1), .val (.int p2), .val (.ref b1), .val (.ref b26), .val (.ref u59), .val (.int (own_h c1 c2 c3)), .val (.int (own_h d1 d2 d3)), .val (.int (own_h (c1 ||| d1) (c2 ||| d2) (c3 ||| d3))), .val (.int (1 : Int32)), .unset, .unset, .unset] [(.int (1 : Int32))])) _
      refine XS.istore X83.here hx rfl (hb hby at_164) rfl (l' := #[.val (.int p1), .val (.int p2), .val (.ref b1), .val (.ref b26), .val (.ref u59), .val (.int (own_h c1 c2 c3)), .val (.int (own_h d1 d2 d3)), .val (.int (own_h (c1 ||| d1) (c2 ||| d2) (c3 ||| d3))), .val (.int (1 : Int32)), .val (.int (1 : Int32)), .unset, .unset]) rfl ?_
      show Steps p.tables e below (T83.setTop (mkF m 166 #[.val (.int p1), .val (.int p2), .val (.ref b1), .val (.ref b26), .val (.ref u59), .val (.int (own_h c1 c2 c3)), .val (.int (own_h d1 d2 d3)), .val (.int (own_h (c1 ||| d1) (c2 ||| d2) (c3 ||| d3))), .val (.int (1 : Int32)), .val (.int (1 : Int32)), .unset, .unset] [])) _
      refine XS.aloadN X83.here hx rfl (hb hby at_166) rfl rfl ?_
      exact k)
  obtain ⟨cq93, kq93, q93a, q93b, q93c⟩ := isOf hZ hh83 f60
  obtain ⟨_, _, ⟨T93, L93, k93, n93⟩, -, X93, ⟨Lc93, hQ93, l93, y93, z93⟩, st93⟩ := X83.virtualBack hx (y := (⟨"com/example/retree/retree/QualifiedType$Qualifiers", "isEmpty", "()Z"⟩ : MethodName)) (z := (⟨"com/example/retree/retree/QualifiedType$Qualifiers", "isEmpty", "()Z"⟩ : MethodName)) hown (mvT hZ (hw _ (List.mem_of_getElem? (i := 38) rfl))) (mvT hZ (hw _ (List.mem_of_getElem? (i := 39) rfl))) (notFace_of_selects (args := #[]) (mvT hZ (hw _ (List.mem_of_getElem? (i := 41) rfl)))) (mvT hZ (hw _ (List.mem_of_getElem? (i := 41) rfl))) (mvT hZ (hw _ (List.mem_of_getElem? (i := 40) rfl))) (by decide) (backOf (W := 0) (rm7 l Z a0 hw [] b1 c1 c2 c3 T59.heap n0 Zn f61 f62 f63) hZ (hw _ (List.mem_of_getElem? (i := 42) rfl)) (hw _ (List.mem_of_getElem? (i := 2) rfl)) (by decide) (by decide)) q93a q93c (g := (mkF m 167 #[.val (.int p1), .val (.int p2), .val (.ref b1), .val (.ref b26), .val (.ref u59), .val (.int (own_h c1 c2 c3)), .val (.int (own_h d1 d2 d3)), .val (.int (own_h (c1 ||| d1) (c2 ||| d2) (c3 ||| d3))), .val (.int (1 : Int32)), .val (.int (1 : Int32)), .unset, .unset] [(.ref b1)])) rfl (by rw [hml]; rfl) (Steps.refl _) (argsL := []) (rest := []) (lenOf own_pd5 rfl) rfl (by show 2 * 0 + _ ≤ _; exact Nat.le_of_eq rfl) (hb hby at_167) (fun _ _ => ⟨rfl, hh83, (by decide : 3 + 0 ≤ _), (by decide : 9 + 0 ≤ _)⟩)
  dsimp only [Pt.U, Pt.locs, Pt.cells, Pt.slots] at X93 l93 y93 z93 st93 hQ93
  subst l93 y93 z93
  obtain ⟨rfl, N93q, hh93⟩ := hQ93
  have N93 := Fr.app N83 N93q
  have G93 : Goes p e below s₁ (entryFrame m #[(.int p1), (.int p2)] maxLocals) T93 (mkF m 170 #[.val (.int p1), .val (.int p2), .val (.ref b1), .val (.ref b26), .val (.ref u59), .val (.int (own_h c1 c2 c3)), .val (.int (own_h d1 d2 d3)), .val (.int (own_h (c1 ||| d1) (c2 ||| d2) (c3 ||| d3))), .val (.int (1 : Int32)), .val (.int (1 : Int32)), .unset, .unset] [(.int (own_em c1 c2 c3))]) := fun _ k => G92 _ (st93.trans k)
  have G94 : Goes p e below s₁ (entryFrame m #[(.int p1), (.int p2)] maxLocals) T93 (mkF m 180 #[.val (.int p1), .val (.int p2), .val (.ref b1), .val (.ref b26), .val (.ref u59), .val (.int (own_h c1 c2 c3)), .val (.int (own_h d1 d2 d3)), .val (.int (own_h (c1 ||| d1) (c2 ||| d2) (c3 ||| d3))), .val (.int (1 : Int32)), .val (.int (1 : Int32)), .unset, .unset] [(.int (if (own_h c1 c2 c3) = (0 : Int32) then (1 : Int32) else 0)), (.int (own_em c1 c2 c3))]) := by
    have G95 : Goes p e below s₁ (entryFrame m #[(.int p1), (.int p2)] maxLocals) T93 (mkF m 172 #[.val (.int p1), .val (.int p2), .val (.ref b1), .val (.ref b26), .val (.ref u59), .val (.int (own_h c1 c2 c3)), .val (.int (own_h d1 d2 d3)), .val (.int (own_h (c1 ||| d1) (c2 ||| d2) (c3 ||| d3))), .val (.int (1 : Int32)), .val (.int (1 : Int32)), .unset, .unset] [(.int (own_h c1 c2 c3)), (.int (own_em c1 c2 c3))]) := fun _ k => G93 _ (by
        show Steps p.tables e below (T93.setTop (mkF m 170 #[.val (.int p1), .val (.int p2), .val (.ref b1), .val (.ref b26), .val (.ref u59), .val (.int (own_h c1 c2 c3)), .val (.int (own_h d1 d2 d3)), .val (.int (own_h (c1 ||| d1) (c2 ||| d2) (c3 ||| d3))), .val (.int (1 : Int32)), .val (.int (1 : Int32)), .unset, .unset] [(.int (own_em c1 c2 c3))])) _
        refine XS.iload X93.here hx rfl (hb hby at_170) rfl ?_
        exact k)
    by_cases hm172_95 : (own_h c1 c2 c3) = (0 : Int32)
    · have G97 : Goes p e below s₁ (entryFrame m #[(.int p1), (.int p2)] maxLocals) T93 (mkF m 175 #[.val (.int p1), .val (.int p2), .val (.ref b1), .val (.ref b26), .val (.ref u59), .val (.int (own_h c1 c2 c3)), .val (.int (own_h d1 d2 d3)), .val (.int (own_h (c1 ||| d1) (c2 ||| d2) (c3 ||| d3))), .val (.int (1 : Int32)), .val (.int (1 : Int32)), .unset, .unset] [(.int (own_em c1 c2 c3))]) := fun _ k => G95 _ (by
          show Steps p.tables e below (T93.setTop (mkF m 172 #[.val (.int p1), .val (.int p2), .val (.ref b1), .val (.ref b26), .val (.ref u59), .val (.int (own_h c1 c2 c3)), .val (.int (own_h d1 d2 d3)), .val (.int (own_h (c1 ||| d1) (c2 ||| d2) (c3 ||| d3))), .val (.int (1 : Int32)), .val (.int (1 : Int32)), .unset, .unset] [(.int (own_h c1 c2 c3)), (.int (own_em c1 c2 c3))])) _
          refine XS.ifNo X93.here hx rfl (hb hby at_172) rfl ((if0 _ _).trans (teq hm172_95).2) ?_
          exact k)
      have G98 : Goes p e below s₁ (entryFrame m #[(.int p1), (.int p2)] maxLocals) T93 (mkF m 180 #[.val (.int p1), .val (.int p2), .val (.ref b1), .val (.ref b26), .val (.ref u59), .val (.int (own_h c1 c2 c3)), .val (.int (own_h d1 d2 d3)), .val (.int (own_h (c1 ||| d1) (c2 ||| d2) (c3 ||| d3))), .val (.int (1 : Int32)), .val (.int (1 : Int32)), .unset, .unset] [(.int (1 : Int32)), (.int (own_em c1 c2 c3))]) := fun _ k => G97 _ (by
          show Steps p.tables e below (T93.setTop (mkF m 175 #[.val (.int p1), .val (.int p2), .val (.ref b1), .val (.ref b26), .val (.ref u59), .val (.int (own_h c1 c2 c3)), .val (.int (own_h d1 d2 d3)), .val (.int (own_h (c1 ||| d1) (c2 ||| d2) (c3 ||| d3))), .val (.int (1 : Int32)), .val (.int (1 : Int32)), .unset, .unset] [(.int (own_em c1 c2 c3))])) _
          refine XS.iconst X93.here hx rfl (hb hby at_175) ?_
          show Steps p.tables e below (T93.setTop (mkF m 176 #[.val (.int p1), .val (.int p2), .val (.ref b1), .val (.ref b26), .val (.ref u59), .val (.int (own_h c1 c2 c3)), .val (.int (own_h d1 d2 d3)), .val (.int (own_h (c1 ||| d1) (c2 ||| d2) (c3 ||| d3))), .val (.int (1 : Int32)), .val (.int (1 : Int32)), .unset, .unset] [(.int (1 : Int32)), (.int (own_em c1 c2 c3))])) _
          refine XS.goto X93.here hx rfl (pc0 := 176) (pc' := 180) rfl (hb hby at_176) (by decide) (by decide) ?_
          exact k)
      have hv : (if (own_h c1 c2 c3) = (0 : Int32) then (1 : Int32) else 0) = (1 : Int32) := by simp [hm172_95]
      exact fun _ k => G98 _ (by rw [hv] at k; exact k)
    · have G99 : Goes p e below s₁ (entryFrame m #[(.int p1), (.int p2)] maxLocals) T93 (mkF m 179 #[.val (.int p1), .val (.int p2), .val (.ref b1), .val (.ref b26), .val (.ref u59), .val (.int (own_h c1 c2 c3)), .val (.int (own_h d1 d2 d3)), .val (.int (own_h (c1 ||| d1) (c2 ||| d2) (c3 ||| d3))), .val (.int (1 : Int32)), .val (.int (1 : Int32)), .unset, .unset] [(.int (own_em c1 c2 c3))]) := fun _ k => G95 _ (by
          show Steps p.tables e below (T93.setTop (mkF m 172 #[.val (.int p1), .val (.int p2), .val (.ref b1), .val (.ref b26), .val (.ref u59), .val (.int (own_h c1 c2 c3)), .val (.int (own_h d1 d2 d3)), .val (.int (own_h (c1 ||| d1) (c2 ||| d2) (c3 ||| d3))), .val (.int (1 : Int32)), .val (.int (1 : Int32)), .unset, .unset] [(.int (own_h c1 c2 c3)), (.int (own_em c1 c2 c3))])) _
          refine XS.ifYes X93.here hx rfl (pc0 := 172) (pc' := 179) rfl (hb hby at_172) rfl ((if0 _ _).trans (feq hm172_95).2) (by decide) (by decide) ?_
          exact k)
      have G100 : Goes p e below s₁ (entryFrame m #[(.int p1), (.int p2)] maxLocals) T93 (mkF m 180 #[.val (.int p1), .val (.int p2), .val (.ref b1), .val (.ref b26), .val (.ref u59), .val (.int (own_h c1 c2 c3)), .val (.int (own_h d1 d2 d3)), .val (.int (own_h (c1 ||| d1) (c2 ||| d2) (c3 ||| d3))), .val (.int (1 : Int32)), .val (.int (1 : Int32)), .unset, .unset] [(.int (0 : Int32)), (.int (own_em c1 c2 c3))]) := fun _ k => G99 _ (by
          show Steps p.tables e below (T93.setTop (mkF m 179 #[.val (.int p1), .val (.int p2), .val (.ref b1), .val (.ref b26), .val (.ref u59), .val (.int (own_h c1 c2 c3)), .val (.int (own_h d1 d2 d3)), .val (.int (own_h (c1 ||| d1) (c2 ||| d2) (c3 ||| d3))), .val (.int (1 : Int32)), .val (.int (1 : Int32)), .unset, .unset] [(.int (own_em c1 c2 c3))])) _
          refine XS.iconst X93.here hx rfl (hb hby at_179) ?_
          exact k)
      have hv : (if (own_h c1 c2 c3) = (0 : Int32) then (1 : Int32) else 0) = (0 : Int32) := by simp [hm172_95]
      exact fun _ k => G100 _ (by rw [hv] at k; exact k)
  have G101 : Goes p e below s₁ (entryFrame m #[(.int p1), (.int p2)] maxLocals) T93 (mkF m 183 #[.val (.int p1), .val (.int p2), .val (.ref b1), .val (.ref b26), .val (.ref u59), .val (.int (own_h c1 c2 c3)), .val (.int (own_h d1 d2 d3)), .val (.int (own_h (c1 ||| d1) (c2 ||| d2) (c3 ||| d3))), .val (.int (1 : Int32)), .val (.int (1 : Int32)), .unset, .unset] []) := fun _ k => G94 _ (by
      show Steps p.tables e below (T93.setTop (mkF m 180 #[.val (.int p1), .val (.int p2), .val (.ref b1), .val (.ref b26), .val (.ref u59), .val (.int (own_h c1 c2 c3)), .val (.int (own_h d1 d2 d3)), .val (.int (own_h (c1 ||| d1) (c2 ||| d2) (c3 ||| d3))), .val (.int (1 : Int32)), .val (.int (1 : Int32)), .unset, .unset] [(.int (if (own_h c1 c2 c3) = (0 : Int32) then (1 : Int32) else 0)), (.int (own_em c1 c2 c3))])) _
      refine XS.icmpNo X93.here hx rfl (hb hby at_180) rfl (teq (own_l4 hbc1 hbc2 hbc3)).2 ?_
      exact k)
  have G102 : Goes p e below s₁ (entryFrame m #[(.int p1), (.int p2)] maxLocals) T93 (mkF m 197 #[.val (.int p1), .val (.int p2), .val (.ref b1), .val (.ref b26), .val (.ref u59), .val (.int (own_h c1 c2 c3)), .val (.int (own_h d1 d2 d3)), .val (.int (own_h (c1 ||| d1) (c2 ||| d2) (c3 ||| d3))), .val (.int (1 : Int32)), .val (.int (1 : Int32)), .val (.int (1 : Int32)), .unset] [(.int ((own_h c1 c2 c3) ||| (own_h d1 d2 d3))), (.int (own_h (c1 ||| d1) (c2 ||| d2) (c3 ||| d3)))]) := fun _ k => G101 _ (by
      show Steps p.tables e below (T93.setTop (mkF m 183 #[.val (.int p1), .val (.int p2), .val (.ref b1), .val (.ref b26), .val (.ref u59), .val (.int (own_h c1 c2 c3)), .val (.int (own_h d1 d2 d3)), .val (.int (own_h (c1 ||| d1) (c2 ||| d2) (c3 ||| d3))), .val (.int (1 : Int32)), .val (.int (1 : Int32)), .unset, .unset] [])) _
      refine XS.iconst X93.here hx rfl (hb hby at_183) ?_
      show Steps p.tables e below (T93.setTop (mkF m 184 #[.val (.int p1), .val (.int p2), .val (.ref b1), .val (.ref b26), .val (.ref u59), .val (.int (own_h c1 c2 c3)), .val (.int (own_h d1 d2 d3)), .val (.int (own_h (c1 ||| d1) (c2 ||| d2) (c3 ||| d3))), .val (.int (1 : Int32)), .val (.int (1 : Int32)), .unset, .unset] [(.int (1 : Int32))])) _
      refine XS.goto X93.here hx rfl (pc0 := 184) (pc' := 188) rfl (hb hby at_184) (by decide) (by decide) ?_
      show Steps p.tables e below (T93.setTop (mkF m 188 #[.val (.int p1), .val (.int p2), .val (.ref b1), .val (.ref b26), .val (.ref u59), .val (.int (own_h c1 c2 c3)), .val (.int (own_h d1 d2 d3)), .val (.int (own_h (c1 ||| d1) (c2 ||| d2) (c3 ||| d3))), .val (.int (1 : Int32)), .val (.int (1 : Int32)), .unset, .unset] [(.int (1 : Int32))])) _
      refine XS.istore X93.here hx rfl (hb hby at_188) rfl (l' := #[.val (.int p1), .val (.int p2), .val (.ref b1), .val (.ref b26), .val (.ref u59), .val (.int (own_h c1 c2 c3)), .val (.int (own_h d1 d2 d3)), .val (.int (own_h (c1 ||| d1) (c2 ||| d2) (c3 ||| d3))), .val (.int (1 : Int32)), .val (.int (1 : Int32)), .val (.int (1 : Int32)), .unset]) rfl ?_
      show Steps p.tables e below (T93.setTop (mkF m 190 #[.val (.int p1), .val (.int p2), .val (.ref b1), .val (.ref b26), .val (.ref u59), .val (.int (own_h c1 c2 c3)), .val (.int (own_h d1 d2 d3)), .val (.int (own_h (c1 ||| d1) (c2 ||| d2) (c3 ||| d3))), .val (.int (1 : Int32)), .val (.int (1 : Int32)), .val (.int (1 : Int32)), .unset] [])) _
      refine XS.iload X93.here hx rfl (hb hby at_190) rfl ?_
      show Steps p.tables e below (T93.setTop (mkF m 192 #[.val (.int p1), .val (.int p2), .val (.ref b1), .val (.ref b26), .val (.ref u59), .val (.int (own_h c1 c2 c3)), .val (.int (own_h d1 d2 d3)), .val (.int (own_h (c1 ||| d1) (c2 ||| d2) (c3 ||| d3))), .val (.int (1 : Int32)), .val (.int (1 : Int32)), .val (.int (1 : Int32)), .unset] [(.int (own_h (c1 ||| d1) (c2 ||| d2) (c3 ||| d3)))])) _
      refine XS.iload X93.here hx rfl (hb hby at_192) rfl ?_
      show Steps p.tables e below (T93.setTop (mkF m 194 #[.val (.int p1), .val (.int p2), .val (.ref b1), .val (.ref b26), .val (.ref u59), .val (.int (own_h c1 c2 c3)), .val (.int (own_h d1 d2 d3)), .val (.int (own_h (c1 ||| d1) (c2 ||| d2) (c3 ||| d3))), .val (.int (1 : Int32)), .val (.int (1 : Int32)), .val (.int (1 : Int32)), .unset] [(.int (own_h c1 c2 c3)), (.int (own_h (c1 ||| d1) (c2 ||| d2) (c3 ||| d3)))])) _
      refine XS.iload X93.here hx rfl (hb hby at_194) rfl ?_
      show Steps p.tables e below (T93.setTop (mkF m 196 #[.val (.int p1), .val (.int p2), .val (.ref b1), .val (.ref b26), .val (.ref u59), .val (.int (own_h c1 c2 c3)), .val (.int (own_h d1 d2 d3)), .val (.int (own_h (c1 ||| d1) (c2 ||| d2) (c3 ||| d3))), .val (.int (1 : Int32)), .val (.int (1 : Int32)), .val (.int (1 : Int32)), .unset] [(.int (own_h d1 d2 d3)), (.int (own_h c1 c2 c3)), (.int (own_h (c1 ||| d1) (c2 ||| d2) (c3 ||| d3)))])) _
      refine XS.ior X93.here hx rfl (hb hby at_196) rfl ?_
      exact k)
  have G103 : Goes p e below s₁ (entryFrame m #[(.int p1), (.int p2)] maxLocals) T93 (mkF m 200 #[.val (.int p1), .val (.int p2), .val (.ref b1), .val (.ref b26), .val (.ref u59), .val (.int (own_h c1 c2 c3)), .val (.int (own_h d1 d2 d3)), .val (.int (own_h (c1 ||| d1) (c2 ||| d2) (c3 ||| d3))), .val (.int (1 : Int32)), .val (.int (1 : Int32)), .val (.int (1 : Int32)), .unset] []) := fun _ k => G102 _ (by
      show Steps p.tables e below (T93.setTop (mkF m 197 #[.val (.int p1), .val (.int p2), .val (.ref b1), .val (.ref b26), .val (.ref u59), .val (.int (own_h c1 c2 c3)), .val (.int (own_h d1 d2 d3)), .val (.int (own_h (c1 ||| d1) (c2 ||| d2) (c3 ||| d3))), .val (.int (1 : Int32)), .val (.int (1 : Int32)), .val (.int (1 : Int32)), .unset] [(.int ((own_h c1 c2 c3) ||| (own_h d1 d2 d3))), (.int (own_h (c1 ||| d1) (c2 ||| d2) (c3 ||| d3)))])) _
      refine XS.icmpNo X93.here hx rfl (hb hby at_197) rfl (teq (own_l5 hbc1 hbc2 hbc3 hbd1 hbd2 hbd3)).2 ?_
      exact k)
  have G104 : Goes p e below s₁ (entryFrame m #[(.int p1), (.int p2)] maxLocals) T93 (mkF m 209 #[.val (.int p1), .val (.int p2), .val (.ref b1), .val (.ref b26), .val (.ref u59), .val (.int (own_h c1 c2 c3)), .val (.int (own_h d1 d2 d3)), .val (.int (own_h (c1 ||| d1) (c2 ||| d2) (c3 ||| d3))), .val (.int (1 : Int32)), .val (.int (1 : Int32)), .val (.int (1 : Int32)), .val (.int (1 : Int32))] [(.int (1 : Int32))]) := fun _ k => G103 _ (by
      show Steps p.tables e below (T93.setTop (mkF m 200 #[.val (.int p1), .val (.int p2), .val (.ref b1), .val (.ref b26), .val (.ref u59), .val (.int (own_h c1 c2 c3)), .val (.int (own_h d1 d2 d3)), .val (.int (own_h (c1 ||| d1) (c2 ||| d2) (c3 ||| d3))), .val (.int (1 : Int32)), .val (.int (1 : Int32)), .val (.int (1 : Int32)), .unset] [])) _
      refine XS.iconst X93.here hx rfl (hb hby at_200) ?_
      show Steps p.tables e below (T93.setTop (mkF m 201 #[.val (.int p1), .val (.int p2), .val (.ref b1), .val (.ref b26), .val (.ref u59), .val (.int (own_h c1 c2 c3)), .val (.int (own_h d1 d2 d3)), .val (.int (own_h (c1 ||| d1) (c2 ||| d2) (c3 ||| d3))), .val (.int (1 : Int32)), .val (.int (1 : Int32)), .val (.int (1 : Int32)), .unset] [(.int (1 : Int32))])) _
      refine XS.goto X93.here hx rfl (pc0 := 201) (pc' := 205) rfl (hb hby at_201) (by decide) (by decide) ?_
      show Steps p.tables e below (T93.setTop (mkF m 205 #[.val (.int p1), .val (.int p2), .val (.ref b1), .val (.ref b26), .val (.ref u59), .val (.int (own_h c1 c2 c3)), .val (.int (own_h d1 d2 d3)), .val (.int (own_h (c1 ||| d1) (c2 ||| d2) (c3 ||| d3))), .val (.int (1 : Int32)), .val (.int (1 : Int32)), .val (.int (1 : Int32)), .unset] [(.int (1 : Int32))])) _
      refine XS.istore X93.here hx rfl (hb hby at_205) rfl (l' := #[.val (.int p1), .val (.int p2), .val (.ref b1), .val (.ref b26), .val (.ref u59), .val (.int (own_h c1 c2 c3)), .val (.int (own_h d1 d2 d3)), .val (.int (own_h (c1 ||| d1) (c2 ||| d2) (c3 ||| d3))), .val (.int (1 : Int32)), .val (.int (1 : Int32)), .val (.int (1 : Int32)), .val (.int (1 : Int32))]) rfl ?_
      show Steps p.tables e below (T93.setTop (mkF m 207 #[.val (.int p1), .val (.int p2), .val (.ref b1), .val (.ref b26), .val (.ref u59), .val (.int (own_h c1 c2 c3)), .val (.int (own_h d1 d2 d3)), .val (.int (own_h (c1 ||| d1) (c2 ||| d2) (c3 ||| d3))), .val (.int (1 : Int32)), .val (.int (1 : Int32)), .val (.int (1 : Int32)), .val (.int (1 : Int32))] [])) _
      refine XS.iload X93.here hx rfl (hb hby at_207) rfl ?_
      exact k)
  have G105 : Goes p e below s₁ (entryFrame m #[(.int p1), (.int p2)] maxLocals) T93 (mkF m 212 #[.val (.int p1), .val (.int p2), .val (.ref b1), .val (.ref b26), .val (.ref u59), .val (.int (own_h c1 c2 c3)), .val (.int (own_h d1 d2 d3)), .val (.int (own_h (c1 ||| d1) (c2 ||| d2) (c3 ||| d3))), .val (.int (1 : Int32)), .val (.int (1 : Int32)), .val (.int (1 : Int32)), .val (.int (1 : Int32))] []) := fun _ k => G104 _ (by
      show Steps p.tables e below (T93.setTop (mkF m 209 #[.val (.int p1), .val (.int p2), .val (.ref b1), .val (.ref b26), .val (.ref u59), .val (.int (own_h c1 c2 c3)), .val (.int (own_h d1 d2 d3)), .val (.int (own_h (c1 ||| d1) (c2 ||| d2) (c3 ||| d3))), .val (.int (1 : Int32)), .val (.int (1 : Int32)), .val (.int (1 : Int32)), .val (.int (1 : Int32))] [(.int (1 : Int32))])) _
      refine XS.ifNo X93.here hx rfl (hb hby at_209) rfl ((if0 _ _).trans (feq (by decide : ¬ ((1 : Int32) = (0 : Int32)))).1) ?_
      exact k)
  have G106 : Goes p e below s₁ (entryFrame m #[(.int p1), (.int p2)] maxLocals) T93 (mkF m 214 #[.val (.int p1), .val (.int p2), .val (.ref b1), .val (.ref b26), .val (.ref u59), .val (.int (own_h c1 c2 c3)), .val (.int (own_h d1 d2 d3)), .val (.int (own_h (c1 ||| d1) (c2 ||| d2) (c3 ||| d3))), .val (.int (1 : Int32)), .val (.int (1 : Int32)), .val (.int (1 : Int32)), .val (.int (1 : Int32))] [(.int (1 : Int32))]) := fun _ k => G105 _ (by
      show Steps p.tables e below (T93.setTop (mkF m 212 #[.val (.int p1), .val (.int p2), .val (.ref b1), .val (.ref b26), .val (.ref u59), .val (.int (own_h c1 c2 c3)), .val (.int (own_h d1 d2 d3)), .val (.int (own_h (c1 ||| d1) (c2 ||| d2) (c3 ||| d3))), .val (.int (1 : Int32)), .val (.int (1 : Int32)), .val (.int (1 : Int32)), .val (.int (1 : Int32))] [])) _
      refine XS.iload X93.here hx rfl (hb hby at_212) rfl ?_
      exact k)
  have G107 : Goes p e below s₁ (entryFrame m #[(.int p1), (.int p2)] maxLocals) T93 (mkF m 217 #[.val (.int p1), .val (.int p2), .val (.ref b1), .val (.ref b26), .val (.ref u59), .val (.int (own_h c1 c2 c3)), .val (.int (own_h d1 d2 d3)), .val (.int (own_h (c1 ||| d1) (c2 ||| d2) (c3 ||| d3))), .val (.int (1 : Int32)), .val (.int (1 : Int32)), .val (.int (1 : Int32)), .val (.int (1 : Int32))] []) := fun _ k => G106 _ (by
      show Steps p.tables e below (T93.setTop (mkF m 214 #[.val (.int p1), .val (.int p2), .val (.ref b1), .val (.ref b26), .val (.ref u59), .val (.int (own_h c1 c2 c3)), .val (.int (own_h d1 d2 d3)), .val (.int (own_h (c1 ||| d1) (c2 ||| d2) (c3 ||| d3))), .val (.int (1 : Int32)), .val (.int (1 : Int32)), .val (.int (1 : Int32)), .val (.int (1 : Int32))] [(.int (1 : Int32))])) _
      refine XS.ifNo X93.here hx rfl (hb hby at_214) rfl ((if0 _ _).trans (feq (by decide : ¬ ((1 : Int32) = (0 : Int32)))).1) ?_
      exact k)
  have G108 : Goes p e below s₁ (entryFrame m #[(.int p1), (.int p2)] maxLocals) T93 (mkF m 219 #[.val (.int p1), .val (.int p2), .val (.ref b1), .val (.ref b26), .val (.ref u59), .val (.int (own_h c1 c2 c3)), .val (.int (own_h d1 d2 d3)), .val (.int (own_h (c1 ||| d1) (c2 ||| d2) (c3 ||| d3))), .val (.int (1 : Int32)), .val (.int (1 : Int32)), .val (.int (1 : Int32)), .val (.int (1 : Int32))] [(.int (1 : Int32))]) := fun _ k => G107 _ (by
      show Steps p.tables e below (T93.setTop (mkF m 217 #[.val (.int p1), .val (.int p2), .val (.ref b1), .val (.ref b26), .val (.ref u59), .val (.int (own_h c1 c2 c3)), .val (.int (own_h d1 d2 d3)), .val (.int (own_h (c1 ||| d1) (c2 ||| d2) (c3 ||| d3))), .val (.int (1 : Int32)), .val (.int (1 : Int32)), .val (.int (1 : Int32)), .val (.int (1 : Int32))] [])) _
      refine XS.iload X93.here hx rfl (hb hby at_217) rfl ?_
      exact k)
  have G109 : Goes p e below s₁ (entryFrame m #[(.int p1), (.int p2)] maxLocals) T93 (mkF m 222 #[.val (.int p1), .val (.int p2), .val (.ref b1), .val (.ref b26), .val (.ref u59), .val (.int (own_h c1 c2 c3)), .val (.int (own_h d1 d2 d3)), .val (.int (own_h (c1 ||| d1) (c2 ||| d2) (c3 ||| d3))), .val (.int (1 : Int32)), .val (.int (1 : Int32)), .val (.int (1 : Int32)), .val (.int (1 : Int32))] []) := fun _ k => G108 _ (by
      show Steps p.tables e below (T93.setTop (mkF m 219 #[.val (.int p1), .val (.int p2), .val (.ref b1), .val (.ref b26), .val (.ref u59), .val (.int (own_h c1 c2 c3)), .val (.int (own_h d1 d2 d3)), .val (.int (own_h (c1 ||| d1) (c2 ||| d2) (c3 ||| d3))), .val (.int (1 : Int32)), .val (.int (1 : Int32)), .val (.int (1 : Int32)), .val (.int (1 : Int32))] [(.int (1 : Int32))])) _
      refine XS.ifNo X93.here hx rfl (hb hby at_219) rfl ((if0 _ _).trans (feq (by decide : ¬ ((1 : Int32) = (0 : Int32)))).1) ?_
      exact k)
  have G110 : Goes p e below s₁ (entryFrame m #[(.int p1), (.int p2)] maxLocals) T93 (mkF m 224 #[.val (.int p1), .val (.int p2), .val (.ref b1), .val (.ref b26), .val (.ref u59), .val (.int (own_h c1 c2 c3)), .val (.int (own_h d1 d2 d3)), .val (.int (own_h (c1 ||| d1) (c2 ||| d2) (c3 ||| d3))), .val (.int (1 : Int32)), .val (.int (1 : Int32)), .val (.int (1 : Int32)), .val (.int (1 : Int32))] [(.int (1 : Int32))]) := fun _ k => G109 _ (by
      show Steps p.tables e below (T93.setTop (mkF m 222 #[.val (.int p1), .val (.int p2), .val (.ref b1), .val (.ref b26), .val (.ref u59), .val (.int (own_h c1 c2 c3)), .val (.int (own_h d1 d2 d3)), .val (.int (own_h (c1 ||| d1) (c2 ||| d2) (c3 ||| d3))), .val (.int (1 : Int32)), .val (.int (1 : Int32)), .val (.int (1 : Int32)), .val (.int (1 : Int32))] [])) _
      refine XS.iload X93.here hx rfl (hb hby at_222) rfl ?_
      exact k)
  have G111 : Goes p e below s₁ (entryFrame m #[(.int p1), (.int p2)] maxLocals) T93 (mkF m 227 #[.val (.int p1), .val (.int p2), .val (.ref b1), .val (.ref b26), .val (.ref u59), .val (.int (own_h c1 c2 c3)), .val (.int (own_h d1 d2 d3)), .val (.int (own_h (c1 ||| d1) (c2 ||| d2) (c3 ||| d3))), .val (.int (1 : Int32)), .val (.int (1 : Int32)), .val (.int (1 : Int32)), .val (.int (1 : Int32))] []) := fun _ k => G110 _ (by
      show Steps p.tables e below (T93.setTop (mkF m 224 #[.val (.int p1), .val (.int p2), .val (.ref b1), .val (.ref b26), .val (.ref u59), .val (.int (own_h c1 c2 c3)), .val (.int (own_h d1 d2 d3)), .val (.int (own_h (c1 ||| d1) (c2 ||| d2) (c3 ||| d3))), .val (.int (1 : Int32)), .val (.int (1 : Int32)), .val (.int (1 : Int32)), .val (.int (1 : Int32))] [(.int (1 : Int32))])) _
      refine XS.ifNo X93.here hx rfl (hb hby at_224) rfl ((if0 _ _).trans (feq (by decide : ¬ ((1 : Int32) = (0 : Int32)))).1) ?_
      exact k)
  have G112 : Goes p e below s₁ (entryFrame m #[(.int p1), (.int p2)] maxLocals) T93 (mkF m 232 #[.val (.int p1), .val (.int p2), .val (.ref b1), .val (.ref b26), .val (.ref u59), .val (.int (own_h c1 c2 c3)), .val (.int (own_h d1 d2 d3)), .val (.int (own_h (c1 ||| d1) (c2 ||| d2) (c3 ||| d3))), .val (.int (1 : Int32)), .val (.int (1 : Int32)), .val (.int (1 : Int32)), .val (.int (1 : Int32))] [(.int (1 : Int32))]) := fun _ k => G111 _ (by
      show Steps p.tables e below (T93.setTop (mkF m 227 #[.val (.int p1), .val (.int p2), .val (.ref b1), .val (.ref b26), .val (.ref u59), .val (.int (own_h c1 c2 c3)), .val (.int (own_h d1 d2 d3)), .val (.int (own_h (c1 ||| d1) (c2 ||| d2) (c3 ||| d3))), .val (.int (1 : Int32)), .val (.int (1 : Int32)), .val (.int (1 : Int32)), .val (.int (1 : Int32))] [])) _
      refine XS.iconst X93.here hx rfl (hb hby at_227) ?_
      show Steps p.tables e below (T93.setTop (mkF m 228 #[.val (.int p1), .val (.int p2), .val (.ref b1), .val (.ref b26), .val (.ref u59), .val (.int (own_h c1 c2 c3)), .val (.int (own_h d1 d2 d3)), .val (.int (own_h (c1 ||| d1) (c2 ||| d2) (c3 ||| d3))), .val (.int (1 : Int32)), .val (.int (1 : Int32)), .val (.int (1 : Int32)), .val (.int (1 : Int32))] [(.int (1 : Int32))])) _
      refine XS.goto X93.here hx rfl (pc0 := 228) (pc' := 232) rfl (hb hby at_228) (by decide) (by decide) ?_
      exact k)
  obtain ⟨fs, hr, hrun, hended, hW, hsame⟩ := X93.leave (v := some (.int (1 : Int32))) (fun h => by rw [Bd.returns] at h; cases h)
  refine ⟨_, _, G112 _ (retN X93 hx (t := .boolean) Bd.returns (by simp) (hb hby at_232) hr), hrun, hended, _, _, rfl, ?_, ⟨_, rfl⟩, hW, hsame.mono (by decide) (by decide)⟩
  show Q0 n0 _ T93.heap _
  exact ⟨rfl, N93⟩
set_option maxRecDepth 65536 in
set_option maxHeartbeats 40000000 in
theorem comes_1 {Post : Tables → Env → Array Value → State → Outcome → State → Prop} (hpost : ∀ tb e args s v u, (limb_1_1.after args s (.returned v) u = true ∧ limb_1_2.after args s (.returned v) u = true ∧ True) → FrameEnd s (.returned v) u (Jvm.fieldLocs frame_1_writes args s ++ Jvm.arrayLocs frame_1_arrays args s ++ Jvm.staticLocs frame_1_statics s) 16 128 → Post tb e args s (.returned v) u) :
    ArmFor flags0 classFile x code maxLocals ret World_1 tables_1 room_1 Calls_1 rest_1 Pre_1 Post := by
  intro l hfl _ _ p e ha hc hk s m args below hf hA hF happ hP
  obtain ⟨hcalls, hrest, hpre⟩ := hP
  obtain ⟨-, -, -, hnamed, -, -, -, hat⟩ := (Spec.applies_iff hf).mp happ
  obtain ⟨hg, hn⟩ := and_e (Cond.before_iff.mp (show (Jvm.Cond.and given_1 narrow_1).before args s = true from hpre))
  obtain ⟨gc, gr0⟩ := and_e hg
  obtain ⟨gk0, gr1⟩ := and_e gr0
  obtain ⟨w0, w1, rfl⟩ : ∃ w0 w1 : Value, args = #[w0, w1] := by
    have hs : args.size = 2 := by simpa [Cond.value, given_1] using gc
    obtain ⟨L⟩ := args
    match L, hs with
    | [w0, w1], _ => exact ⟨w0, w1, rfl⟩
  have hw := fun d (hd : d ∈ tables_1) => atoms_spec (ws := Jvm.Cond.code x code maxLocals ret :: tables_1) hat d (List.mem_cons_of_mem _ hd)
  obtain ⟨i0, ei0⟩ := is_v gk0
  obtain rfl : w0 = (.int i0) := Option.some.inj ei0
  obtain ⟨i1, ei1⟩ := is_v gr1
  obtain rfl : w1 = (.int i1) := Option.some.inj ei1
  obtain ⟨n, o, h1, h2, h3, _, L, rfl, ⟨rfl, N⟩, hq⟩ := rm0 l s _ hw tables_1 i0 i1 s.heap s.heap.size (Nat.le_refl _) p e ha hc hk s m _ below hf ((Spec.applies_iff_loose hf).mp happ).1 ⟨rfl, State.Warmed39.refl s, rfl⟩ trivial
  refine ⟨n, _, h1, h2, h3, hpost _ _ _ _ _ _ ⟨Cond.after_iff.mpr rfl, Cond.after_iff.mpr (eq_i res_at (Term.int_eval (1)) rfl), trivial⟩ ⟨hq.1, hq.2.1, (hq.2.2.sift fun y hy => Or.inr (N y hy)).mono (by decide) (by decide)⟩⟩
theorem main_1_1 : Claimed_1_1 := comes_1 fun _ _ _ _ _ _ h hF => ⟨h.1, hF⟩
theorem main_1_2 : Claimed_1_2 := comes_1 fun _ _ _ _ _ _ h hF => ⟨h.2.1, hF⟩
end Jvm.Pilot.@@N@@
namespace Jvm.Pilot.@@N@@
open Jvm Jvm.ClassFile Sem Op Lib Jvm.Free Jvm.Stand Jvm.Pilot.@@N@@.Jvm.D
/-! MADE BY PROGRAM (witnessworld.py) out of the Statement's table words and the real class files: 10 classes; the members and pool entries that the words name. The judged class is class 1, her method 1. -/
namespace start1
open Jvm.ClassFile
def u (s : String) : CpInfo := .utf8 (stringToUtf16 s)
/-- a pool by its gaps: so many unusable entries, then the entry; so many at the end -/
def gap : Nat → List CpInfo → List CpInfo
  | 0, r => r
  | n + 1, r => .unusable :: gap n r
def poolList (es : List (Nat × CpInfo)) (last : Nat) : List CpInfo := es.foldr (fun e r => gap e.1 (e.2 :: r)) (gap last [])
def pool (es : List (Nat × CpInfo)) (last : Nat) : Array CpInfo := ⟨poolList es last⟩
def fileOf (pool : Array CpInfo) (this : Nat) (attrs : Array Attribute := #[]) (ms : Array MethodInfo := #[]) (fl : Nat := 33) (sup : Nat := 0) (ifs : Array Nat := #[]) (fds : Array FieldInfo := #[]) : ClassFile where
  minorVersion := 0
  majorVersion := 65
  constantPool := pool
  accessFlags := fl
  thisClass := this
  superClass := sup
  interfaces := ifs
  fields := fds
  methods := ms
  attributes := attrs
def plain (name : String) (sup : Option ClassId) : Class where
  name := name
  kind := .ordinary
  loader := none
  accessFlags := 33
  super := sup
  interfaces := #[]
  cf := none
  fields := #[]
  methods := #[]
  instanceTypes := #[]
  staticTypes := #[]
  resolved := #[]
  callSites := []
  init := .initialized
  statics := none
  mirror := none

def pool0 : Array CpInfo := pool [(5, u "<init>"), (0, u "()V"), (1, .class_ 10), (1, u "java/lang/Object")] 113

def k0c0 : Code := { maxStack := 0, maxLocals := 1, code := object_method_1_code, exceptionTable := #[], attributes := #[] }
def k0m0 : Method := { name := "<init>", desc := "()V", sig := { parameters := [], returnType := none }, accessFlags := 1, code := some k0c0 }
/-- java/lang/Object -/
def k0 : Class := { plain "java/lang/Object" none with
  accessFlags := 33
  interfaces := #[]
  cf := some (fileOf pool0 8 #[] #[{ accessFlags := 1, nameIndex := 5, descriptorIndex := 6, attributes := #[] }] 33 0 #[] #[])
  fields := #[]
  methods := #[k0m0]
  instanceTypes := #[]
  staticTypes := #[]
  resolved := Array.replicate 124 none
  statics := none }

def pool1 : Array CpInfo := pool [(2, .class_ 4), (1, u "java/lang/Object"), (0, u "<init>"), (0, u "()V"), (0, .class_ 8), (0, u "com/example/retree/retree/QualifiedType$Qualifiers"), (0, .methodref 7 10), (0, .nameAndType 5 11), (0, u "(ZZZ)V"), (0, .methodref 7 13), (0, .nameAndType 14 15), (0, u "union"), (0, u "(Lcom/example/retree/retree/QualifiedType$Qualifiers;)Lcom/example/retree/retree/QualifiedType$Qualifiers;"), (0, .methodref 7 17), (0, .nameAndType 18 19), (0, u "hashCode"), (0, u "()I"), (0, .methodref 7 21), (0, .nameAndType 22 23), (0, u "equals"), (0, u "(Ljava/lang/Object;)Z"), (0, .methodref 7 25), (0, .nameAndType 26 27), (0, u "isEmpty"), (0, u "()Z"), (0, .class_ 29), (0, u "com/example/retree/retree/QualifiersHashCodePinLaw"), (2, u "law"), (0, u "(II)Z")] 7

def k1m0 : Method := { name := "<init>", desc := "()V", sig := { parameters := [], returnType := none }, accessFlags := 1, code := none }
def k1c1 : Code := { maxStack := 6, maxLocals := 12, code := code, exceptionTable := #[], attributes := #[] }
def k1m1 : Method := { name := "law", desc := "(II)Z", sig := { parameters := [.int, .int], returnType := some .boolean }, accessFlags := 9, code := some k1c1 }
/-- com/example/retree/retree/QualifiersHashCodePinLaw -/
def k1 : Class := { plain "com/example/retree/retree/QualifiersHashCodePinLaw" (some 0) with
  accessFlags := 49
  interfaces := #[]
  cf := some (fileOf pool1 28 #[] #[{ accessFlags := 1, nameIndex := 5, descriptorIndex := 6, attributes := #[] }, { accessFlags := 9, nameIndex := 32, descriptorIndex := 33, attributes := #[] }] 49 2 #[] #[])
  fields := #[]
  methods := #[k1m0, k1m1]
  instanceTypes := #[]
  staticTypes := #[]
  resolved := Array.replicate 41 none
  statics := none }

def pool2 : Array CpInfo := pool [(1, .methodref 2 3), (0, .class_ 4), (0, .nameAndType 5 6), (0, u "java/lang/Object"), (0, u "<init>"), (0, u "()V"), (0, .class_ 8), (0, u "java/lang/Record")] 13

def k2c0 : Code := { maxStack := 1, maxLocals := 1, code := jdk_30_method_1_code, exceptionTable := #[], attributes := #[] }
def k2m0 : Method := { name := "<init>", desc := "()V", sig := { parameters := [], returnType := none }, accessFlags := 4, code := some k2c0 }
/-- java/lang/Record -/
def k2 : Class := { plain "java/lang/Record" (some 0) with
  accessFlags := 1057
  interfaces := #[]
  cf := some (fileOf pool2 7 #[] #[{ accessFlags := 4, nameIndex := 5, descriptorIndex := 6, attributes := #[] }] 1057 2 #[] #[])
  fields := #[]
  methods := #[k2m0]
  instanceTypes := #[]
  staticTypes := #[]
  resolved := Array.replicate 22 none
  statics := none }

def pool3 : Array CpInfo := pool [(1, .methodref 2 3), (0, .class_ 4), (0, .nameAndType 5 6), (0, u "java/lang/Record"), (0, u "<init>"), (0, u "()V"), (0, .fieldref 8 9), (0, .class_ 10), (0, .nameAndType 11 12), (0, u "com/example/retree/retree/QualifiedType$Qualifiers"), (0, u "isConst"), (0, u "Z"), (0, .fieldref 8 14), (0, .nameAndType 15 12), (0, u "isVolatile"), (0, .fieldref 8 17), (0, .nameAndType 18 12), (0, u "isRestrict"), (0, .methodref 8 20), (0, .nameAndType 5 21), (0, u "(ZZZ)V"), (2, u "union"), (0, u "(Lcom/example/retree/retree/QualifiedType$Qualifiers;)Lcom/example/retree/retree/QualifiedType$Qualifiers;"), (2, u "equals"), (0, u "(Ljava/lang/Object;)Z"), (8, u "isEmpty"), (0, u "()Z"), (15, u "NONE"), (0, u "Lcom/example/retree/retree/QualifiedType$Qualifiers;"), (4, u "hashCode"), (0, u "()I"), (8, .class_ 72), (0, u "com/example/retree/retree/QualifiedType")] 31

def k3c0 : Code := { maxStack := 2, maxLocals := 4, code := prog_84_method_1_code, exceptionTable := #[], attributes := #[] }
def k3m0 : Method := { name := "<init>", desc := "(ZZZ)V", sig := { parameters := [.boolean, .boolean, .boolean], returnType := none }, accessFlags := 0, code := some k3c0 }
def k3c1 : Code := { maxStack := 2, maxLocals := 3, code := prog_84_method_2_code, exceptionTable := #[], attributes := #[] }
def k3m1 : Method := { name := "equals", desc := "(Ljava/lang/Object;)Z", sig := { parameters := [(.object "java/lang/Object")], returnType := some .boolean }, accessFlags := 1, code := some k3c1 }
def k3c2 : Code := { maxStack := 2, maxLocals := 1, code := prog_84_method_3_code, exceptionTable := #[], attributes := #[] }
def k3m2 : Method := { name := "hashCode", desc := "()I", sig := { parameters := [], returnType := some .int }, accessFlags := 1, code := some k3c2 }
def k3c3 : Code := { maxStack := 1, maxLocals := 1, code := prog_84_method_4_code, exceptionTable := #[], attributes := #[] }
def k3m3 : Method := { name := "isEmpty", desc := "()Z", sig := { parameters := [], returnType := some .boolean }, accessFlags := 0, code := some k3c3 }
def k3c4 : Code := { maxStack := 5, maxLocals := 2, code := prog_84_method_5_code, exceptionTable := #[], attributes := #[] }
def k3m4 : Method := { name := "union", desc := "(Lcom/example/retree/retree/QualifiedType$Qualifiers;)Lcom/example/retree/retree/QualifiedType$Qualifiers;", sig := { parameters := [(.object "com/example/retree/retree/QualifiedType$Qualifiers")], returnType := some (.object "com/example/retree/retree/QualifiedType$Qualifiers") }, accessFlags := 0, code := some k3c4 }
/-- com/example/retree/retree/QualifiedType$Qualifiers -/
def k3 : Class := { plain "com/example/retree/retree/QualifiedType$Qualifiers" (some 2) with
  accessFlags := 48
  interfaces := #[]
  cf := some (fileOf pool3 8 #[.nestHost 71] #[{ accessFlags := 0, nameIndex := 5, descriptorIndex := 21, attributes := #[] }, { accessFlags := 1, nameIndex := 28, descriptorIndex := 29, attributes := #[] }, { accessFlags := 1, nameIndex := 61, descriptorIndex := 62, attributes := #[] }, { accessFlags := 0, nameIndex := 38, descriptorIndex := 39, attributes := #[] }, { accessFlags := 0, nameIndex := 24, descriptorIndex := 25, attributes := #[] }] 48 2 #[] #[{ accessFlags := 18, nameIndex := 11, descriptorIndex := 12, attributes := #[] }, { accessFlags := 18, nameIndex := 15, descriptorIndex := 12, attributes := #[] }, { accessFlags := 18, nameIndex := 18, descriptorIndex := 12, attributes := #[] }, { accessFlags := 24, nameIndex := 55, descriptorIndex := 56, attributes := #[] }])
  fields := #[{ name := "isConst", type := .boolean, accessFlags := 18, slot := 0, constantValue := 0 }, { name := "isVolatile", type := .boolean, accessFlags := 18, slot := 1, constantValue := 0 }, { name := "isRestrict", type := .boolean, accessFlags := 18, slot := 2, constantValue := 0 }, { name := "NONE", type := (.object "com/example/retree/retree/QualifiedType$Qualifiers"), accessFlags := 24, slot := 0, constantValue := 0 }]
  methods := #[k3m0, k3m1, k3m2, k3m3, k3m4]
  instanceTypes := #[.boolean, .boolean, .boolean]
  staticTypes := #[(.object "com/example/retree/retree/QualifiedType$Qualifiers")]
  resolved := Array.replicate 104 none
  statics := none }

def pool4 : Array CpInfo := pool [(1, u "java/lang/Cloneable"), (0, .class_ 1), (0, u "java/lang/Object"), (0, .class_ 3)] 3

/-- java/lang/Cloneable -/
def k4 : Class := { plain "java/lang/Cloneable" (some 0) with
  accessFlags := 1537
  interfaces := #[]
  cf := some (fileOf pool4 2 #[] #[] 1537 4 #[] #[])
  fields := #[]
  methods := #[]
  instanceTypes := #[]
  staticTypes := #[]
  resolved := Array.replicate 8 none
  statics := none }

def pool5 : Array CpInfo := pool [(1, u "java/io/Serializable"), (0, .class_ 1), (0, u "java/lang/Object"), (0, .class_ 3)] 3

/-- java/io/Serializable -/
def k5 : Class := { plain "java/io/Serializable" (some 0) with
  accessFlags := 1537
  interfaces := #[]
  cf := some (fileOf pool5 2 #[] #[] 1537 4 #[] #[])
  fields := #[]
  methods := #[]
  instanceTypes := #[]
  staticTypes := #[]
  resolved := Array.replicate 8 none
  statics := none }

/-- the primitive byte -/
def k6 : Class := { plain "byte" none with kind := .primitive 'B', accessFlags := 0x411 }
/-- [B -/
def k7 : Class := { plain "[B" (some 0) with kind := .array 6 .byte, interfaces := #[4, 5], accessFlags := 1041 }

/-- the primitive int -/
def k8 : Class := { plain "int" none with kind := .primitive 'I', accessFlags := 0x411 }
/-- [I -/
def k9 : Class := { plain "[I" (some 0) with kind := .array 8 .int, interfaces := #[4, 5], accessFlags := 1041 }

def heap : Heap := #[]
def classes : Array Class := #[k0, k1, k2, k3, k4, k5, k6, k7, k8, k9]
def interned : List (Array UInt16 × Addr) := []
def slotsUsed : Nat := 0
def theMethod : MethodId := ⟨1, 1⟩
def args0 : Array Value := #[.int 5, .int 3]
def aboutOver (below : List Frame) : State where
  vm := { classes := classes, interned := interned.toArray }
  heap := heap
  slotsUsed := slotsUsed
  threads := #[{ frames := .invoking theMethod args0 :: below }]
def below0 : List Frame := [.native { method := ⟨0, 0⟩, args := #[] }]
def about1 : State := aboutOver below0
def p0 : Program := .bare "" "" ""
def e0 : Env := launch0.env 0 0 0
theorem w_frames : about1.frames = Frame.invoking theMethod args0 :: below0 := rfl
set_option maxRecDepth 65536 in
theorem w_args : argsFit about1.vm theMethod args0 = true := by decide +kernel
set_option maxRecDepth 65536 in
theorem w_heap : heapFits about1 = true := by decide +kernel
set_option maxRecDepth 65536 in
theorem w_runnable : about1.curStatus? = some .runnable := by decide +kernel
set_option maxRecDepth 65536 in
theorem w_alone : about1.alone = true := by decide +kernel
set_option maxRecDepth 65536 in
theorem w_named : about1.methodNamed? x = some theMethod := by decide +kernel
set_option maxRecDepth 65536 in
theorem w_hears : about1.hears theMethod below0 = true := by decide +kernel
set_option maxRecDepth 65536 in
theorem w_ripe : about1.ripe theMethod args0 below0 = true := by decide +kernel
theorem w_running : about1.status = .running := rfl
set_option maxRecDepth 65536 in
theorem w_room : about1.hasRoom e0.platform room_1 = true :=
  launch0.hasRoom_least _ room_1 (by decide +kernel) (by decide +kernel) (by decide +kernel) (by decide +kernel) (by decide +kernel) (by decide +kernel)
theorem allAtoms_all (ts : List Jvm.Cond) (a : Array Jvm.Value) (st : Jvm.State) : (allAtoms ts).before a st = ts.all (fun c => c.before a st) := by
  induction ts with
  | nil => rfl
  | cons c t ih =>
    show (Jvm.Cond.and c (allAtoms t)).before a st = _
    rw [Jvm.Cond.before_and, ih, List.all_cons]
def words1 : List Jvm.Cond := Jvm.Cond.code x code maxLocals ret :: tables_1
/-- a 'code' word, met by the world's own term for the bytes: nothing is compared byte by byte -/
theorem code_word {y : MethodName} {bytes : ByteArray} {mx : Nat} {rt : Option FieldType} {a : Array Value} {s : State} {m : MethodId} {meth : Method} {c : Code} (h1 : s.methodNamed? y = some m) (h2 : s.vm.method? m = some meth) (h3 : meth.code = some c) (h4 : c.code = bytes)
    (h5 : (c.maxLocals == mx && c.exceptionTable.isEmpty && decide (c.maxStack ≤ mostOperands) && decide (meth.sig.returnType = rt) && !meth.locks && decide (parseMethodDescriptor y.desc = some meth.sig)) = true) : (Jvm.Cond.code y bytes mx rt).before a s = true := by
  simp only [Bool.and_eq_true, beq_iff_eq, Bool.not_eq_true', decide_eq_true_eq] at h5
  obtain ⟨⟨⟨⟨⟨g1, g2⟩, g3⟩, g4⟩, g5⟩, g6⟩ := h5
  simp [Cond.before, Cond.holds, Cond.value, h1, h2, h3, h4, g1, g2, g3, g4, g5, g6]
def isCode : Jvm.Cond → Bool
  | .code _ _ _ _ => true
  | _ => false
theorem all_split {L : List Jvm.Cond} {P : Jvm.Cond → Bool} (h1 : L.all (fun c => isCode c || P c) = true) (h2 : ∀ c ∈ L.filter isCode, P c = true) : L.all P = true := by
  refine List.all_eq_true.mpr fun c hc => ?_
  have h := List.all_eq_true.mp h1 c hc
  rcases Bool.eq_false_or_eq_true (isCode c) with hi | hi
  · exact h2 c (List.mem_filter.mpr ⟨hc, hi⟩)
  · simpa [hi] using h
set_option maxRecDepth 65536 in
theorem w_c0 : (Jvm.Cond.code x code maxLocals ret).before args0 about1 = true := code_word (m := ⟨1, 1⟩) (meth := k1m1) (c := k1c1) (by decide +kernel) rfl rfl rfl (by decide +kernel)
set_option maxRecDepth 65536 in
theorem w_c1 : (Jvm.Cond.code ({ cls := "com/example/retree/retree/QualifiedType$Qualifiers", name := "<init>", desc := "(ZZZ)V" } : Jvm.MethodName) prog_84_method_1_code (4 : Nat) (Option.none : Option Jvm.ClassFile.FieldType)).before args0 about1 = true := code_word (m := ⟨3, 0⟩) (meth := k3m0) (c := k3c0) (by decide +kernel) rfl rfl rfl (by decide +kernel)
set_option maxRecDepth 65536 in
theorem w_c2 : (Jvm.Cond.code ({ cls := "java/lang/Record", name := "<init>", desc := "()V" } : Jvm.MethodName) jdk_30_method_1_code (1 : Nat) (Option.none : Option Jvm.ClassFile.FieldType)).before args0 about1 = true := code_word (m := ⟨2, 0⟩) (meth := k2m0) (c := k2c0) (by decide +kernel) rfl rfl rfl (by decide +kernel)
set_option maxRecDepth 65536 in
theorem w_c3 : (Jvm.Cond.code ({ cls := "java/lang/Object", name := "<init>", desc := "()V" } : Jvm.MethodName) object_method_1_code (1 : Nat) (Option.none : Option Jvm.ClassFile.FieldType)).before args0 about1 = true := code_word (m := ⟨0, 0⟩) (meth := k0m0) (c := k0c0) (by decide +kernel) rfl rfl rfl (by decide +kernel)
set_option maxRecDepth 65536 in
theorem w_c4 : (Jvm.Cond.code ({ cls := "com/example/retree/retree/QualifiedType$Qualifiers", name := "union", desc := "(Lcom/example/retree/retree/QualifiedType$Qualifiers;)Lcom/example/retree/retree/QualifiedType$Qualifiers;" } : Jvm.MethodName) prog_84_method_5_code (2 : Nat) (Option.some (Jvm.ClassFile.FieldType.object "com/example/retree/retree/QualifiedType$Qualifiers"))).before args0 about1 = true := code_word (m := ⟨3, 4⟩) (meth := k3m4) (c := k3c4) (by decide +kernel) rfl rfl rfl (by decide +kernel)
set_option maxRecDepth 65536 in
theorem w_c5 : (Jvm.Cond.code ({ cls := "com/example/retree/retree/QualifiedType$Qualifiers", name := "hashCode", desc := "()I" } : Jvm.MethodName) prog_84_method_3_code (1 : Nat) (Option.some Jvm.ClassFile.FieldType.int)).before args0 about1 = true := code_word (m := ⟨3, 2⟩) (meth := k3m2) (c := k3c2) (by decide +kernel) rfl rfl rfl (by decide +kernel)
set_option maxRecDepth 65536 in
theorem w_c6 : (Jvm.Cond.code ({ cls := "com/example/retree/retree/QualifiedType$Qualifiers", name := "equals", desc := "(Ljava/lang/Object;)Z" } : Jvm.MethodName) prog_84_method_2_code (3 : Nat) (Option.some Jvm.ClassFile.FieldType.boolean)).before args0 about1 = true := code_word (m := ⟨3, 1⟩) (meth := k3m1) (c := k3c1) (by decide +kernel) rfl rfl rfl (by decide +kernel)
set_option maxRecDepth 65536 in
theorem w_c7 : (Jvm.Cond.code ({ cls := "com/example/retree/retree/QualifiedType$Qualifiers", name := "isEmpty", desc := "()Z" } : Jvm.MethodName) prog_84_method_4_code (1 : Nat) (Option.some Jvm.ClassFile.FieldType.boolean)).before args0 about1 = true := code_word (m := ⟨3, 3⟩) (meth := k3m3) (c := k3c3) (by decide +kernel) rfl rfl rfl (by decide +kernel)
def codes1 : List Jvm.Cond := [Jvm.Cond.code x code maxLocals ret, Jvm.Cond.code ({ cls := "com/example/retree/retree/QualifiedType$Qualifiers", name := "<init>", desc := "(ZZZ)V" } : Jvm.MethodName) prog_84_method_1_code (4 : Nat) (Option.none : Option Jvm.ClassFile.FieldType), Jvm.Cond.code ({ cls := "java/lang/Record", name := "<init>", desc := "()V" } : Jvm.MethodName) jdk_30_method_1_code (1 : Nat) (Option.none : Option Jvm.ClassFile.FieldType), Jvm.Cond.code ({ cls := "java/lang/Object", name := "<init>", desc := "()V" } : Jvm.MethodName) object_method_1_code (1 : Nat) (Option.none : Option Jvm.ClassFile.FieldType), Jvm.Cond.code ({ cls := "com/example/retree/retree/QualifiedType$Qualifiers", name := "union", desc := "(Lcom/example/retree/retree/QualifiedType$Qualifiers;)Lcom/example/retree/retree/QualifiedType$Qualifiers;" } : Jvm.MethodName) prog_84_method_5_code (2 : Nat) (Option.some (Jvm.ClassFile.FieldType.object "com/example/retree/retree/QualifiedType$Qualifiers")), Jvm.Cond.code ({ cls := "com/example/retree/retree/QualifiedType$Qualifiers", name := "hashCode", desc := "()I" } : Jvm.MethodName) prog_84_method_3_code (1 : Nat) (Option.some Jvm.ClassFile.FieldType.int), Jvm.Cond.code ({ cls := "com/example/retree/retree/QualifiedType$Qualifiers", name := "equals", desc := "(Ljava/lang/Object;)Z" } : Jvm.MethodName) prog_84_method_2_code (3 : Nat) (Option.some Jvm.ClassFile.FieldType.boolean), Jvm.Cond.code ({ cls := "com/example/retree/retree/QualifiedType$Qualifiers", name := "isEmpty", desc := "()Z" } : Jvm.MethodName) prog_84_method_4_code (1 : Nat) (Option.some Jvm.ClassFile.FieldType.boolean)]
set_option maxRecDepth 65536 in
theorem codes_eq : words1.filter isCode = codes1 := rfl
theorem w_codes : ∀ c ∈ words1.filter isCode, c.before args0 about1 = true := by
  rw [codes_eq]
  intro c hc
  simp only [codes1, List.mem_cons, List.not_mem_nil, or_false] at hc
  rcases hc with rfl | rfl | rfl | rfl | rfl | rfl | rfl | rfl
  · exact w_c0
  · exact w_c1
  · exact w_c2
  · exact w_c3
  · exact w_c4
  · exact w_c5
  · exact w_c6
  · exact w_c7
set_option maxRecDepth 65536 in
theorem w_t1 : (words1.take 24).all (fun c => isCode c || c.before args0 about1) = true := by decide +kernel
set_option maxRecDepth 65536 in
theorem w_t2 : (words1.drop 24).all (fun c => isCode c || c.before args0 about1) = true := by decide +kernel
theorem w_tables : (allAtoms (Jvm.Cond.code x code maxLocals ret :: tables_1)).before args0 about1 = true := by
  rw [allAtoms_all]
  show words1.all (fun c => c.before args0 about1) = true
  refine all_split ?_ w_codes
  rw [← List.take_append_drop 24 words1, List.all_append, w_t1, w_t2]
  rfl
set_option maxRecDepth 65536 in
theorem w_case : (Jvm.Cond.and given_1 narrow_1).before args0 about1 = true := by decide +kernel
theorem w_applies : (headSpec (Jvm.Cond.code x code maxLocals ret :: tables_1) room_1).applies x e0.platform about1 = true :=
  (Spec.applies_iff w_frames).mpr ⟨w_running, w_runnable, w_alone, w_named, w_hears, w_ripe, w_room, w_tables⟩
theorem atStart : AtStart classFile x code maxLocals ret World_1 tables_1 room_1 Calls_1 rest_1 Pre_1 launch0 p0 e0 about1 theMethod args0 below0 :=
  ⟨lists_1, trivial, launch0.admits_env _ _ _, launch0.least_env, fairChoices_fair.cas, fairChoices_fair.clock, w_frames, w_args, w_heap, w_applies, trivial, trivial, w_case⟩
end start1
theorem witness_1 : WitnessClaimed_1 := ⟨start1.p0, start1.e0, start1.about1, start1.theMethod, start1.args0, start1.below0, start1.atStart⟩
end Jvm.Pilot.@@N@@
