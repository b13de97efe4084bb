import JvmDerived
import JvmDerived.Pilot.@@N@@Statement
import JvmDerived.Pilot.@@N@@Code
set_option linter.unusedVariables false
set_option linter.unusedSimpArgs false
namespace Jvm.RoadKit
open Sem ClassFile Op Lib Jvm.Stand Jvm.Free Jvm.LawKit
section New
variable {p : Program} {l : Launch} {e : Env} {R : Room} {s : State} {m : MethodId} {args : Array Value} {below : List Frame} {meth : Method} {c : Code} {T : State} {locs : List Loc} {cells slots : Nat}
theorem retI (X : Stand p l e R s m args below meth c T locs cells slots) (hx : p.tables.exec = Jvm.exec) {pc : Nat} {Ls : Array Slot} {z : Int32} {rest : List Value} (hret : meth.sig.returnType = some .int) (hd : decode c.code pc = .ok (.ireturn, 1)) {fs : List Frame}
    (hl : ∀ (f : JFrame) (acts : List Action), f.method = m → f.locked = none → f.entered = [] → (doReturn e (T.setTop f) acts (some (.int z))).1 = T.setFrames fs) : Steps p.tables e below (T.setTop (mkF m pc Ls (.int z :: rest))) (T.setFrames fs) := by
  have hm' : T.vm.method? m = some meth := X.method'
  have hn : narrow .int (.int z) = .int z := rfl
  show Steps p.tables e below (T.setTop { method := m, pc := pc, locals := Ls, stack := _ :: rest, locked := none }) _
  jvm_step X.here [X.here.top, hx, hd, hm', hret, hn]
  first | (intro acts; rw [hl _ acts rfl rfl rfl]) | rw [hl _ _ rfl rfl rfl]
  exact Steps.refl _
end New
end Jvm.RoadKit
namespace Jvm.Pilot.@@N@@
open Jvm Jvm.ClassFile Sem Op Lib Jvm.Free Jvm.Stand Jvm.LawKit Jvm.RoadKit Bundle Jvm.Pilot.@@N@@.Jvm.D
def own_st (p c : Int32) : Int32 := if p = 10 then 1 else if p = 13 then (if c = 10 then 0 else 1) else 0
def own_le (b : Int32) : Int32 := if b = 10 then 1 else if b = 13 then 1 else 0
def own_al0 (b b' : Int32) : Int32 := if b = 13 then (if b' = 10 then 2 else 1) else 1
def own_al1 (b b' : Int32) : Int32 := if b = 13 then (if b' = 10 then 3 else 2) else 2
def own_nl2 (b : Int32) : Int32 := 3
def own_nl1 (b b' : Int32) : Int32 := if own_le b = 0 then own_nl2 b' else own_al1 b b'
def own_nl0 (b b' b'' : Int32) : Int32 := if own_le b = 0 then own_nl1 b' b'' else own_al0 b b'
theorem own_law0 (b b' b'' : Int32) : own_st b b' = (if own_nl0 b b' b'' = 1 then 1 else 0) := by
  simp only [own_nl0, own_nl1, own_nl2, own_al0, own_al1, own_le, own_st]
  by_cases h1 : b = 10
  · simp [h1]
  · by_cases h2 : b = 13
    · by_cases h3 : b' = 10 <;> simp [h2, h3]
    · by_cases h3 : b' = 10
      · simp [h1, h2, h3]
      · by_cases h4 : b' = 13
        · by_cases h5 : b'' = 10 <;> simp [h1, h2, h4, h5]
        · simp [h1, h2, h3, h4]
theorem own_law1 (b b' : Int32) : own_st b b' = (if own_nl1 b b' = 2 then 1 else 0) := by
  simp only [own_nl1, own_nl2, own_al1, own_le, own_st]
  by_cases h1 : b = 10
  · simp [h1]
  · by_cases h2 : b = 13
    · by_cases h3 : b' = 10 <;> simp [h2, h3]
    · simp [h1, h2]
theorem own_st01 (b b' : Int32) : own_st b b' = 0 ∨ own_st b b' = 1 := by
  simp only [own_st]
  by_cases h1 : b = 10
  · simp [h1]
  · by_cases h2 : b = 13
    · by_cases h3 : b' = 10 <;> simp [h2, h3]
    · simp [h1, h2]
theorem own_pn0 : plainName "com/example/covary/covary/CsvLinesStartsLinePinLaw" = true := by first | (simp [plainName, overriddenIn]; done) | decide +kernel
theorem own_pn1 : plainName "com/example/covary/covary/CsvLines" = true := by first | (simp [plainName, overriddenIn]; done) | decide +kernel
theorem own_pd0 : parseMethodDescriptor "(B)Z" = some ⟨[.byte], some .boolean⟩ := by decide +kernel
theorem own_pd1 : parseMethodDescriptor "([BII)I" = some ⟨[(.array .byte), .int, .int], some .int⟩ := by decide +kernel
theorem own_pd2 : parseMethodDescriptor "(I)B" = some ⟨[.int], some .byte⟩ := by decide +kernel
theorem own_pd3 : parseMethodDescriptor "([BI)Z" = some ⟨[(.array .byte), .int], some .boolean⟩ := by decide +kernel
def Q1 (h0 : Heap) (n0 : Nat) (v : Option Value) (h : Heap) (L : List Loc) : Prop := ∃ x : Int32, v = some (.int x) ∧ Fr n0 L ∧ h = h0
def Q4 (p1 : Int32) (h0 : Heap) (n0 : Nat) (v : Option Value) (h : Heap) (L : List Loc) : Prop := v = some (.int (own_le p1)) ∧ Fr n0 L ∧ h = h0
def Q5_0 (b0 b1 b2 : Int32) (h0 : Heap) (n0 : Nat) (v : Option Value) (h : Heap) (L : List Loc) : Prop := v = some (.int (own_al0 b0 b1)) ∧ Fr n0 L ∧ h = h0
def Q5_1 (b0 b1 b2 : Int32) (h0 : Heap) (n0 : Nat) (v : Option Value) (h : Heap) (L : List Loc) : Prop := v = some (.int (own_al1 b1 b2)) ∧ Fr n0 L ∧ h = h0
def Q5_2 (b0 b1 b2 : Int32) (h0 : Heap) (n0 : Nat) (v : Option Value) (h : Heap) (L : List Loc) : Prop := v = some (.int (3 : Int32)) ∧ Fr n0 L ∧ h = h0
def Q2_1 (b0 b1 b2 : Int32) (h0 : Heap) (n0 : Nat) (v : Option Value) (h : Heap) (L : List Loc) : Prop := v = some (.int (own_st b0 b1)) ∧ Fr n0 L ∧ h = h0
def Q2_2 (b0 b1 b2 : Int32) (h0 : Heap) (n0 : Nat) (v : Option Value) (h : Heap) (L : List Loc) : Prop := v = some (.int (own_st b1 b2)) ∧ Fr n0 L ∧ h = h0
def Q3_0 (b0 b1 b2 : Int32) (h0 : Heap) (n0 : Nat) (v : Option Value) (h : Heap) (L : List Loc) : Prop := v = some (.int (own_nl0 b0 b1 b2)) ∧ Fr n0 L ∧ h = h0
def Q3_1 (b0 b1 b2 : Int32) (h0 : Heap) (n0 : Nat) (v : Option Value) (h : Heap) (L : List Loc) : Prop := v = some (.int (own_nl1 b1 b2)) ∧ Fr n0 L ∧ h = h0
def Q0 (n0 : Nat) (v : Option Value) (h : Heap) (L : List Loc) : Prop := v = some (.int 1) ∧ Fr n0 L
theorem own_d1_0 : decode method_3_code 0 = .ok (.iload_n 0, 1) := by decide +kernel
theorem own_d1_1 : decode method_3_code 1 = .ok (.iconst 3, 1) := by decide +kernel
theorem own_d1_2 : decode method_3_code 2 = .ok (.iand, 1) := by decide +kernel
theorem own_d1_3 : decode method_3_code 3 = .ok (.istore_n 1, 1) := by decide +kernel
theorem own_d1_4 : decode method_3_code 4 = .ok (.iload_n 1, 1) := by decide +kernel
theorem own_d1_5 : decode method_3_code 5 = .ok (.ifCond .ne 6, 3) := by decide +kernel
theorem own_d1_8 : decode method_3_code 8 = .ok (.bipush 10, 2) := by decide +kernel
theorem own_d1_10 : decode method_3_code 10 = .ok (.ireturn, 1) := by decide +kernel
theorem own_d1_11 : decode method_3_code 11 = .ok (.iload_n 1, 1) := by decide +kernel
theorem own_d1_12 : decode method_3_code 12 = .ok (.iconst 1, 1) := by decide +kernel
theorem own_d1_13 : decode method_3_code 13 = .ok (.if_icmp .ne 6, 3) := by decide +kernel
theorem own_d1_16 : decode method_3_code 16 = .ok (.bipush 13, 2) := by decide +kernel
theorem own_d1_18 : decode method_3_code 18 = .ok (.ireturn, 1) := by decide +kernel
theorem own_d1_19 : decode method_3_code 19 = .ok (.iload_n 0, 1) := by decide +kernel
theorem own_d1_20 : decode method_3_code 20 = .ok (.iconst 2, 1) := by decide +kernel
theorem own_d1_21 : decode method_3_code 21 = .ok (.ishr, 1) := by decide +kernel
theorem own_d1_22 : decode method_3_code 22 = .ok (.i2b, 1) := by decide +kernel
theorem own_d1_23 : decode method_3_code 23 = .ok (.ireturn, 1) := by decide +kernel
set_option maxRecDepth 65536 in
set_option maxHeartbeats 40000000 in
theorem rm1 (l : Launch) (Z : State) (a0 : Array Value) (hw : ∀ d ∈ tables_1, d.before a0 Z = true) (ws : List Jvm.Cond) (p1 : Int32) (h0 : Heap) (n0 : Nat) (Z0 : n0 ≤ h0.size)  :
    MetFree l (⟨"com/example/covary/covary/CsvLinesStartsLinePinLaw", "pick", "(I)B"⟩ : MethodName) (head1 (Jvm.Cond.code (⟨"com/example/covary/covary/CsvLinesStartsLinePinLaw", "pick", "(I)B"⟩ : MethodName) method_3_code 2 (some .byte) :: ws) ({ frames := 0, cells := 0, slots := 0, locals := 0 } : Room)) (fun a U => a = #[(.int p1)] ∧ Z.Warmed39 U.vm ∧ U.heap = h0) (fun _ _ _ _ _ => True) (fun _ U oc U' => ∃ v L, oc = .returned v ∧ Q1 h0 n0 v U'.heap L ∧ FrameEnd U oc U' L ({ frames := 0, cells := 0, slots := 0, locals := 0 } : Room).cells ({ frames := 0, cells := 0, slots := 0, locals := 0 } : Room).slots) := by
  refine MetFree.of_bodySF (plainFor_of_name own_pn0) hisR ?_
  intro p e s m args below meth c s₁ Bd hml0 hP hK
  obtain ⟨rfl, hZ, hh⟩ := hP
  have hx := Bd.exec
  have hby := Bd.bytes
  have hml : c.maxLocals = 2 := hml0
  have hown : s.vm.findClass "com/example/covary/covary/CsvLinesStartsLinePinLaw" = some m.cls := findClass_of_methodNamed Bd.named
  have hnm := (name_of_methodNamed Bd.named Bd.method).1
  have X0 : Stand p l e ({ frames := 0, cells := 0, slots := 0, locals := 0 } : Room) s m #[(.int p1)] below meth c s₁ [] 0 0 := Stand.of_body Bd
  have e0 : s₁.heap = h0 := by rw [← hh, Bd.state]; rfl
  have N0 := Fr.nil n0
  have G0 : Goes p e below s₁ (entryFrame m #[(.int p1)] 2) s₁ (mkF m 0 #[.val (.int p1), .unset] []) := fun _ k => castTop (by first | (simp [entryFrame, mkF, argsToLocals, Value.category]; done) | rfl : (entryFrame m #[(.int p1)] 2) = mkF m 0 #[.val (.int p1), .unset] []) k
  have G1 : Goes p e below s₁ (entryFrame m #[(.int p1)] 2) s₁ (mkF m 5 #[.val (.int p1), .val (.int (p1 &&& (3 : Int32)))] [(.int (p1 &&& (3 : Int32)))]) := fun _ k => G0 _ (by
      show Steps p.tables e below (s₁.setTop (mkF m 0 #[.val (.int p1), .unset] [])) _
      refine XS.iloadN X0.here hx rfl (hb hby own_d1_0) rfl ?_
      show Steps p.tables e below (s₁.setTop (mkF m 1 #[.val (.int p1), .unset] [(.int p1)])) _
      refine XS.iconst X0.here hx rfl (hb hby own_d1_1) ?_
      show Steps p.tables e below (s₁.setTop (mkF m 2 #[.val (.int p1), .unset] [(.int (3 : Int32)), (.int p1)])) _
      refine XS.iand X0.here hx rfl (hb hby own_d1_2) rfl ?_
      show Steps p.tables e below (s₁.setTop (mkF m 3 #[.val (.int p1), .unset] [(.int (p1 &&& (3 : Int32)))])) _
      refine XS.istoreN X0.here hx rfl (hb hby own_d1_3) rfl (l' := #[.val (.int p1), .val (.int (p1 &&& (3 : Int32)))]) rfl ?_
      show Steps p.tables e below (s₁.setTop (mkF m 4 #[.val (.int p1), .val (.int (p1 &&& (3 : Int32)))] [])) _
      refine XS.iloadN X0.here hx rfl (hb hby own_d1_4) rfl ?_
      exact k)
  by_cases hc5 : (p1 &&& (3 : Int32)) = (0 : Int32)
  · have G2 : Goes p e below s₁ (entryFrame m #[(.int p1)] 2) s₁ (mkF m 8 #[.val (.int p1), .val (.int (p1 &&& (3 : Int32)))] []) := fun _ k => G1 _ (by
        show Steps p.tables e below (s₁.setTop (mkF m 5 #[.val (.int p1), .val (.int (p1 &&& (3 : Int32)))] [(.int (p1 &&& (3 : Int32)))])) _
        refine XS.ifNo X0.here hx rfl (hb hby own_d1_5) rfl ((if0 _ _).trans (teq hc5).2) ?_
        exact k)
    have G3 : Goes p e below s₁ (entryFrame m #[(.int p1)] 2) s₁ (mkF m 10 #[.val (.int p1), .val (.int (p1 &&& (3 : Int32)))] [(.int (10 : Int32))]) := fun _ k => G2 _ (by
        show Steps p.tables e below (s₁.setTop (mkF m 8 #[.val (.int p1), .val (.int (p1 &&& (3 : Int32)))] [])) _
        refine XS.bipush X0.here hx rfl (hb hby own_d1_8) ?_
        exact k)
    obtain ⟨fs, hr, hrun, hended, hW, hsame⟩ := X0.leave (v := some (.int (nar .byte (10 : Int32)))) (fun h => by rw [Bd.returns] at h; cases h)
    refine ⟨_, _, G3 _ (retN X0 hx (t := .byte) Bd.returns (by simp) (hb hby own_d1_10) hr), hrun, hended, _, _, rfl, ?_, ⟨_, rfl⟩, hW, hsame.mono (by decide) (by decide)⟩
    show Q1 h0 n0 _ s₁.heap _
    rw [e0]
    exact ⟨_, rfl, N0, rfl⟩
  · have G4 : Goes p e below s₁ (entryFrame m #[(.int p1)] 2) s₁ (mkF m 11 #[.val (.int p1), .val (.int (p1 &&& (3 : Int32)))] []) := fun _ k => G1 _ (by
        show Steps p.tables e below (s₁.setTop (mkF m 5 #[.val (.int p1), .val (.int (p1 &&& (3 : Int32)))] [(.int (p1 &&& (3 : Int32)))])) _
        refine XS.ifYes X0.here hx rfl (pc0 := 5) (pc' := 11) rfl (hb hby own_d1_5) rfl ((if0 _ _).trans (feq hc5).2) (by decide) (by decide) ?_
        exact k)
    have G5 : Goes p e below s₁ (entryFrame m #[(.int p1)] 2) s₁ (mkF m 13 #[.val (.int p1), .val (.int (p1 &&& (3 : Int32)))] [(.int (1 : Int32)), (.int (p1 &&& (3 : Int32)))]) := fun _ k => G4 _ (by
        show Steps p.tables e below (s₁.setTop (mkF m 11 #[.val (.int p1), .val (.int (p1 &&& (3 : Int32)))] [])) _
        refine XS.iloadN X0.here hx rfl (hb hby own_d1_11) rfl ?_
        show Steps p.tables e below (s₁.setTop (mkF m 12 #[.val (.int p1), .val (.int (p1 &&& (3 : Int32)))] [(.int (p1 &&& (3 : Int32)))])) _
        refine XS.iconst X0.here hx rfl (hb hby own_d1_12) ?_
        exact k)
    by_cases hc13 : (p1 &&& (3 : Int32)) = (1 : Int32)
    · have G6 : Goes p e below s₁ (entryFrame m #[(.int p1)] 2) s₁ (mkF m 16 #[.val (.int p1), .val (.int (p1 &&& (3 : Int32)))] []) := fun _ k => G5 _ (by
          show Steps p.tables e below (s₁.setTop (mkF m 13 #[.val (.int p1), .val (.int (p1 &&& (3 : Int32)))] [(.int (1 : Int32)), (.int (p1 &&& (3 : Int32)))])) _
          refine XS.icmpNo X0.here hx rfl (hb hby own_d1_13) rfl (teq hc13).2 ?_
          exact k)
      have G7 : Goes p e below s₁ (entryFrame m #[(.int p1)] 2) s₁ (mkF m 18 #[.val (.int p1), .val (.int (p1 &&& (3 : Int32)))] [(.int (13 : Int32))]) := fun _ k => G6 _ (by
          show Steps p.tables e below (s₁.setTop (mkF m 16 #[.val (.int p1), .val (.int (p1 &&& (3 : Int32)))] [])) _
          refine XS.bipush X0.here hx rfl (hb hby own_d1_16) ?_
          exact k)
      obtain ⟨fs, hr, hrun, hended, hW, hsame⟩ := X0.leave (v := some (.int (nar .byte (13 : Int32)))) (fun h => by rw [Bd.returns] at h; cases h)
      refine ⟨_, _, G7 _ (retN X0 hx (t := .byte) Bd.returns (by simp) (hb hby own_d1_18) hr), hrun, hended, _, _, rfl, ?_, ⟨_, rfl⟩, hW, hsame.mono (by decide) (by decide)⟩
      show Q1 h0 n0 _ s₁.heap _
      rw [e0]
      exact ⟨_, rfl, N0, rfl⟩
    · have G8 : Goes p e below s₁ (entryFrame m #[(.int p1)] 2) s₁ (mkF m 19 #[.val (.int p1), .val (.int (p1 &&& (3 : Int32)))] []) := fun _ k => G5 _ (by
          show Steps p.tables e below (s₁.setTop (mkF m 13 #[.val (.int p1), .val (.int (p1 &&& (3 : Int32)))] [(.int (1 : Int32)), (.int (p1 &&& (3 : Int32)))])) _
          refine XS.icmpYes X0.here hx rfl (pc0 := 13) (pc' := 19) rfl (hb hby own_d1_13) rfl (feq hc13).2 (by decide) (by decide) ?_
          exact k)
      have G9 : Goes p e below s₁ (entryFrame m #[(.int p1)] 2) s₁ (mkF m 23 #[.val (.int p1), .val (.int (p1 &&& (3 : Int32)))] [(.int ((p1 >>> ((2 : Int32) &&& 31)).toInt8.toInt32))]) := fun _ k => G8 _ (by
          show Steps p.tables e below (s₁.setTop (mkF m 19 #[.val (.int p1), .val (.int (p1 &&& (3 : Int32)))] [])) _
          refine XS.iloadN X0.here hx rfl (hb hby own_d1_19) rfl ?_
          show Steps p.tables e below (s₁.setTop (mkF m 20 #[.val (.int p1), .val (.int (p1 &&& (3 : Int32)))] [(.int p1)])) _
          refine XS.iconst X0.here hx rfl (hb hby own_d1_20) ?_
          show Steps p.tables e below (s₁.setTop (mkF m 21 #[.val (.int p1), .val (.int (p1 &&& (3 : Int32)))] [(.int (2 : Int32)), (.int p1)])) _
          refine XS.ishr X0.here hx rfl (hb hby own_d1_21) rfl ?_
          show Steps p.tables e below (s₁.setTop (mkF m 22 #[.val (.int p1), .val (.int (p1 &&& (3 : Int32)))] [(.int (p1 >>> ((2 : Int32) &&& 31)))])) _
          refine XS.i2b X0.here hx rfl (hb hby own_d1_22) rfl ?_
          exact k)
      obtain ⟨fs, hr, hrun, hended, hW, hsame⟩ := X0.leave (v := some (.int (nar .byte ((p1 >>> ((2 : Int32) &&& 31)).toInt8.toInt32)))) (fun h => by rw [Bd.returns] at h; cases h)
      refine ⟨_, _, G9 _ (retN X0 hx (t := .byte) Bd.returns (by simp) (hb hby own_d1_23) hr), hrun, hended, _, _, rfl, ?_, ⟨_, rfl⟩, hW, hsame.mono (by decide) (by decide)⟩
      show Q1 h0 n0 _ s₁.heap _
      rw [e0]
      exact ⟨_, rfl, N0, rfl⟩
theorem own_d4_0 : decode prog_38_method_33_code 0 = .ok (.iload_n 0, 1) := by decide +kernel
theorem own_d4_1 : decode prog_38_method_33_code 1 = .ok (.bipush 10, 2) := by decide +kernel
theorem own_d4_3 : decode prog_38_method_33_code 3 = .ok (.if_icmp .eq 9, 3) := by decide +kernel
theorem own_d4_6 : decode prog_38_method_33_code 6 = .ok (.iload_n 0, 1) := by decide +kernel
theorem own_d4_7 : decode prog_38_method_33_code 7 = .ok (.bipush 13, 2) := by decide +kernel
theorem own_d4_9 : decode prog_38_method_33_code 9 = .ok (.if_icmp .ne 7, 3) := by decide +kernel
theorem own_d4_12 : decode prog_38_method_33_code 12 = .ok (.iconst 1, 1) := by decide +kernel
theorem own_d4_13 : decode prog_38_method_33_code 13 = .ok (.goto 4, 3) := by decide +kernel
theorem own_d4_16 : decode prog_38_method_33_code 16 = .ok (.iconst 0, 1) := by decide +kernel
theorem own_d4_17 : decode prog_38_method_33_code 17 = .ok (.ireturn, 1) := by decide +kernel
set_option maxRecDepth 65536 in
set_option maxHeartbeats 40000000 in
theorem rm4 (l : Launch) (Z : State) (a0 : Array Value) (hw : ∀ d ∈ tables_1, d.before a0 Z = true) (ws : List Jvm.Cond) (p1 : Int32) (h0 : Heap) (n0 : Nat) (Z0 : n0 ≤ h0.size)  :
    MetFree l (⟨"com/example/covary/covary/CsvLines", "isLineEnd", "(B)Z"⟩ : MethodName) (head1 (Jvm.Cond.code (⟨"com/example/covary/covary/CsvLines", "isLineEnd", "(B)Z"⟩ : MethodName) prog_38_method_33_code 1 (some .boolean) :: ws) ({ frames := 0, cells := 0, slots := 0, locals := 0 } : Room)) (fun a U => a = #[(.int p1)] ∧ Z.Warmed39 U.vm ∧ U.heap = h0) (fun _ _ _ _ _ => True) (fun _ U oc U' => ∃ v L, oc = .returned v ∧ Q4 p1 h0 n0 v U'.heap L ∧ FrameEnd U oc U' L ({ frames := 0, cells := 0, slots := 0, locals := 0 } : Room).cells ({ frames := 0, cells := 0, slots := 0, locals := 0 } : Room).slots) := by
  refine MetFree.of_bodySF (plainFor_of_name own_pn1) hisR ?_
  intro p e s m args below meth c s₁ Bd hml0 hP hK
  obtain ⟨rfl, hZ, hh⟩ := hP
  have hx := Bd.exec
  have hby := Bd.bytes
  have hml : c.maxLocals = 1 := hml0
  have hown : s.vm.findClass "com/example/covary/covary/CsvLines" = some m.cls := findClass_of_methodNamed Bd.named
  have hnm := (name_of_methodNamed Bd.named Bd.method).1
  have X0 : Stand p l e ({ frames := 0, cells := 0, slots := 0, locals := 0 } : Room) s m #[(.int p1)] below meth c s₁ [] 0 0 := Stand.of_body Bd
  have e0 : s₁.heap = h0 := by rw [← hh, Bd.state]; rfl
  have N0 := Fr.nil n0
  have G0 : Goes p e below s₁ (entryFrame m #[(.int p1)] 1) s₁ (mkF m 0 #[.val (.int p1)] []) := fun _ k => castTop (by first | (simp [entryFrame, mkF, argsToLocals, Value.category]; done) | rfl : (entryFrame m #[(.int p1)] 1) = mkF m 0 #[.val (.int p1)] []) k
  have G1 : Goes p e below s₁ (entryFrame m #[(.int p1)] 1) s₁ (mkF m 3 #[.val (.int p1)] [(.int (10 : Int32)), (.int p1)]) := fun _ k => G0 _ (by
      show Steps p.tables e below (s₁.setTop (mkF m 0 #[.val (.int p1)] [])) _
      refine XS.iloadN X0.here hx rfl (hb hby own_d4_0) rfl ?_
      show Steps p.tables e below (s₁.setTop (mkF m 1 #[.val (.int p1)] [(.int p1)])) _
      refine XS.bipush X0.here hx rfl (hb hby own_d4_1) ?_
      exact k)
  by_cases h1 : p1 = (10 : Int32)
  · have G2 : Goes p e below s₁ (entryFrame m #[(.int p1)] 1) s₁ (mkF m 12 #[.val (.int p1)] []) := fun _ k => G1 _ (by
        show Steps p.tables e below (s₁.setTop (mkF m 3 #[.val (.int p1)] [(.int (10 : Int32)), (.int p1)])) _
        refine XS.icmpYes X0.here hx rfl (pc0 := 3) (pc' := 12) rfl (hb hby own_d4_3) rfl (teq h1).1 (by decide) (by decide) ?_
        exact k)
    have G3 : Goes p e below s₁ (entryFrame m #[(.int p1)] 1) s₁ (mkF m 17 #[.val (.int p1)] [(.int (1 : Int32))]) := fun _ k => G2 _ (by
        show Steps p.tables e below (s₁.setTop (mkF m 12 #[.val (.int p1)] [])) _
        refine XS.iconst X0.here hx rfl (hb hby own_d4_12) ?_
        show Steps p.tables e below (s₁.setTop (mkF m 13 #[.val (.int p1)] [(.int (1 : Int32))])) _
        refine XS.goto X0.here hx rfl (pc0 := 13) (pc' := 17) rfl (hb hby own_d4_13) (by decide) (by decide) ?_
        exact k)
    obtain ⟨fs, hr, hrun, hended, hW, hsame⟩ := X0.leave (v := some (.int (1 : Int32))) (fun h => by rw [Bd.returns] at h; cases h)
    refine ⟨_, _, G3 _ (retN X0 hx (t := .boolean) Bd.returns (by simp) (hb hby own_d4_17) hr), hrun, hended, _, _, rfl, ?_, ⟨_, rfl⟩, hW, hsame.mono (by decide) (by decide)⟩
    show Q4 p1 h0 n0 _ s₁.heap _
    rw [e0]
    exact ⟨by simp [own_le, h1], N0, rfl⟩
  · have G4 : Goes p e below s₁ (entryFrame m #[(.int p1)] 1) s₁ (mkF m 6 #[.val (.int p1)] []) := fun _ k => G1 _ (by
        show Steps p.tables e below (s₁.setTop (mkF m 3 #[.val (.int p1)] [(.int (10 : Int32)), (.int p1)])) _
        refine XS.icmpNo X0.here hx rfl (hb hby own_d4_3) rfl (feq h1).1 ?_
        exact k)
    have G5 : Goes p e below s₁ (entryFrame m #[(.int p1)] 1) s₁ (mkF m 9 #[.val (.int p1)] [(.int (13 : Int32)), (.int p1)]) := fun _ k => G4 _ (by
        show Steps p.tables e below (s₁.setTop (mkF m 6 #[.val (.int p1)] [])) _
        refine XS.iloadN X0.here hx rfl (hb hby own_d4_6) rfl ?_
        show Steps p.tables e below (s₁.setTop (mkF m 7 #[.val (.int p1)] [(.int p1)])) _
        refine XS.bipush X0.here hx rfl (hb hby own_d4_7) ?_
        exact k)
    by_cases h2 : p1 = (13 : Int32)
    · have G6 : Goes p e below s₁ (entryFrame m #[(.int p1)] 1) s₁ (mkF m 12 #[.val (.int p1)] []) := fun _ k => G5 _ (by
          show Steps p.tables e below (s₁.setTop (mkF m 9 #[.val (.int p1)] [(.int (13 : Int32)), (.int p1)])) _
          refine XS.icmpNo X0.here hx rfl (hb hby own_d4_9) rfl (teq h2).2 ?_
          exact k)
      have G7 : Goes p e below s₁ (entryFrame m #[(.int p1)] 1) s₁ (mkF m 17 #[.val (.int p1)] [(.int (1 : Int32))]) := fun _ k => G6 _ (by
          show Steps p.tables e below (s₁.setTop (mkF m 12 #[.val (.int p1)] [])) _
          refine XS.iconst X0.here hx rfl (hb hby own_d4_12) ?_
          show Steps p.tables e below (s₁.setTop (mkF m 13 #[.val (.int p1)] [(.int (1 : Int32))])) _
          refine XS.goto X0.here hx rfl (pc0 := 13) (pc' := 17) rfl (hb hby own_d4_13) (by decide) (by decide) ?_
          exact k)
      obtain ⟨fs, hr, hrun, hended, hW, hsame⟩ := X0.leave (v := some (.int (1 : Int32))) (fun h => by rw [Bd.returns] at h; cases h)
      refine ⟨_, _, G7 _ (retN X0 hx (t := .boolean) Bd.returns (by simp) (hb hby own_d4_17) hr), hrun, hended, _, _, rfl, ?_, ⟨_, rfl⟩, hW, hsame.mono (by decide) (by decide)⟩
      show Q4 p1 h0 n0 _ s₁.heap _
      rw [e0]
      exact ⟨by simp [own_le, h1, h2], N0, rfl⟩
    · have G8 : Goes p e below s₁ (entryFrame m #[(.int p1)] 1) s₁ (mkF m 16 #[.val (.int p1)] []) := fun _ k => G5 _ (by
          show Steps p.tables e below (s₁.setTop (mkF m 9 #[.val (.int p1)] [(.int (13 : Int32)), (.int p1)])) _
          refine XS.icmpYes X0.here hx rfl (pc0 := 9) (pc' := 16) rfl (hb hby own_d4_9) rfl (feq h2).2 (by decide) (by decide) ?_
          exact k)
      have G9 : Goes p e below s₁ (entryFrame m #[(.int p1)] 1) s₁ (mkF m 17 #[.val (.int p1)] [(.int (0 : Int32))]) := fun _ k => G8 _ (by
          show Steps p.tables e below (s₁.setTop (mkF m 16 #[.val (.int p1)] [])) _
          refine XS.iconst X0.here hx rfl (hb hby own_d4_16) ?_
          exact k)
      obtain ⟨fs, hr, hrun, hended, hW, hsame⟩ := X0.leave (v := some (.int (0 : Int32))) (fun h => by rw [Bd.returns] at h; cases h)
      refine ⟨_, _, G9 _ (retN X0 hx (t := .boolean) Bd.returns (by simp) (hb hby own_d4_17) hr), hrun, hended, _, _, rfl, ?_, ⟨_, rfl⟩, hW, hsame.mono (by decide) (by decide)⟩
      show Q4 p1 h0 n0 _ s₁.heap _
      rw [e0]
      exact ⟨by simp [own_le, h1, h2], N0, rfl⟩
theorem own_d5_0 : decode prog_38_method_34_code 0 = .ok (.aload_n 0, 1) := by decide +kernel
theorem own_d5_1 : decode prog_38_method_34_code 1 = .ok (.iload_n 1, 1) := by decide +kernel
theorem own_d5_2 : decode prog_38_method_34_code 2 = .ok (.baload, 1) := by decide +kernel
theorem own_d5_3 : decode prog_38_method_34_code 3 = .ok (.bipush 13, 2) := by decide +kernel
theorem own_d5_5 : decode prog_38_method_34_code 5 = .ok (.if_icmp .ne 26, 3) := by decide +kernel
theorem own_d5_8 : decode prog_38_method_34_code 8 = .ok (.iload_n 1, 1) := by decide +kernel
theorem own_d5_9 : decode prog_38_method_34_code 9 = .ok (.iconst 1, 1) := by decide +kernel
theorem own_d5_10 : decode prog_38_method_34_code 10 = .ok (.iadd, 1) := by decide +kernel
theorem own_d5_11 : decode prog_38_method_34_code 11 = .ok (.iload_n 2, 1) := by decide +kernel
theorem own_d5_12 : decode prog_38_method_34_code 12 = .ok (.if_icmp .ge 19, 3) := by decide +kernel
theorem own_d5_15 : decode prog_38_method_34_code 15 = .ok (.aload_n 0, 1) := by decide +kernel
theorem own_d5_16 : decode prog_38_method_34_code 16 = .ok (.iload_n 1, 1) := by decide +kernel
theorem own_d5_17 : decode prog_38_method_34_code 17 = .ok (.iconst 1, 1) := by decide +kernel
theorem own_d5_18 : decode prog_38_method_34_code 18 = .ok (.iadd, 1) := by decide +kernel
theorem own_d5_19 : decode prog_38_method_34_code 19 = .ok (.baload, 1) := by decide +kernel
theorem own_d5_20 : decode prog_38_method_34_code 20 = .ok (.bipush 10, 2) := by decide +kernel
theorem own_d5_22 : decode prog_38_method_34_code 22 = .ok (.if_icmp .ne 9, 3) := by decide +kernel
theorem own_d5_25 : decode prog_38_method_34_code 25 = .ok (.iload_n 1, 1) := by decide +kernel
theorem own_d5_26 : decode prog_38_method_34_code 26 = .ok (.iconst 2, 1) := by decide +kernel
theorem own_d5_27 : decode prog_38_method_34_code 27 = .ok (.iadd, 1) := by decide +kernel
theorem own_d5_28 : decode prog_38_method_34_code 28 = .ok (.goto 6, 3) := by decide +kernel
theorem own_d5_31 : decode prog_38_method_34_code 31 = .ok (.iload_n 1, 1) := by decide +kernel
theorem own_d5_32 : decode prog_38_method_34_code 32 = .ok (.iconst 1, 1) := by decide +kernel
theorem own_d5_33 : decode prog_38_method_34_code 33 = .ok (.iadd, 1) := by decide +kernel
theorem own_d5_34 : decode prog_38_method_34_code 34 = .ok (.ireturn, 1) := by decide +kernel
set_option maxRecDepth 65536 in
set_option maxHeartbeats 40000000 in
theorem rm5_0 (l : Launch) (Z : State) (a0 : Array Value) (hw : ∀ d ∈ tables_1, d.before a0 Z = true) (ws : List Jvm.Cond) (a1 : Addr) (k1 : ClassId) (b0 b1 b2 : Int32) (h0 : Heap) (n0 : Nat) (Z0 : n0 ≤ h0.size) (V : Arv Z h0 a1 k1 .byte (3 : Int32) [(.int b0), (.int b1), (.int b2)] (.int (0 : Int32))) :
    MetFree l (⟨"com/example/covary/covary/CsvLines", "afterLineEnd", "([BII)I"⟩ : MethodName) (head1 (Jvm.Cond.code (⟨"com/example/covary/covary/CsvLines", "afterLineEnd", "([BII)I"⟩ : MethodName) prog_38_method_34_code 3 (some .int) :: ws) ({ frames := 0, cells := 0, slots := 0, locals := 0 } : Room)) (fun a U => a = #[(.ref a1), (.int (0 : Int32)), (.int (3 : Int32))] ∧ Z.Warmed39 U.vm ∧ U.heap = h0) (fun _ _ _ _ _ => True) (fun _ U oc U' => ∃ v L, oc = .returned v ∧ Q5_0 b0 b1 b2 h0 n0 v U'.heap L ∧ FrameEnd U oc U' L ({ frames := 0, cells := 0, slots := 0, locals := 0 } : Room).cells ({ frames := 0, cells := 0, slots := 0, locals := 0 } : Room).slots) := by
  refine MetFree.of_bodySF (plainFor_of_name own_pn1) hisR ?_
  intro p e s m args below meth c s₁ Bd hml0 hP hK
  obtain ⟨rfl, hZ, hh⟩ := hP
  have hx := Bd.exec
  have hby := Bd.bytes
  have hml : c.maxLocals = 3 := hml0
  have hown : s.vm.findClass "com/example/covary/covary/CsvLines" = some m.cls := findClass_of_methodNamed Bd.named
  have hnm := (name_of_methodNamed Bd.named Bd.method).1
  have X0 : Stand p l e ({ frames := 0, cells := 0, slots := 0, locals := 0 } : Room) s m #[(.ref a1), (.int (0 : Int32)), (.int (3 : Int32))] below meth c s₁ [] 0 0 := Stand.of_body Bd
  have e0 : s₁.heap = h0 := by rw [← hh, Bd.state]; rfl
  have N0 := Fr.nil n0
  have G0 : Goes p e below s₁ (entryFrame m #[(.ref a1), (.int (0 : Int32)), (.int (3 : Int32))] 3) s₁ (mkF m 0 #[.val (.ref a1), .val (.int (0 : Int32)), .val (.int (3 : Int32))] []) := fun _ k => castTop (by first | (simp [entryFrame, mkF, argsToLocals, Value.category]; done) | rfl : (entryFrame m #[(.ref a1), (.int (0 : Int32)), (.int (3 : Int32))] 3) = mkF m 0 #[.val (.ref a1), .val (.int (0 : Int32)), .val (.int (3 : Int32))] []) k
  have G1 : Goes p e below s₁ (entryFrame m #[(.ref a1), (.int (0 : Int32)), (.int (3 : Int32))] 3) s₁ (mkF m 2 #[.val (.ref a1), .val (.int (0 : Int32)), .val (.int (3 : Int32))] [(.int (0 : Int32)), (.ref a1)]) := fun _ k => G0 _ (by
      show Steps p.tables e below (s₁.setTop (mkF m 0 #[.val (.ref a1), .val (.int (0 : Int32)), .val (.int (3 : Int32))] [])) _
      refine XS.aloadN X0.here hx rfl (hb hby own_d5_0) rfl rfl ?_
      show Steps p.tables e below (s₁.setTop (mkF m 1 #[.val (.ref a1), .val (.int (0 : Int32)), .val (.int (3 : Int32))] [(.ref a1)])) _
      refine XS.iloadN X0.here hx rfl (hb hby own_d5_1) rfl ?_
      exact k)
  have vc2 := V
  obtain ⟨cl2, Ar2, q2, S2, M2, H2, J2⟩ := vc2
  have hin2 : ¬ ((0 : Int32) < 0 ∨ cl2.slots.size ≤ ((0 : Int32)).toNatClampNeg) := inb_of S2 ⟨by decide, by decide⟩
  have hat2 : cl2.slots[((0 : Int32)).toNatClampNeg]? = some (.int b0) := Has.at H2 hin2 rfl
  have G3 : Goes p e below s₁ (entryFrame m #[(.ref a1), (.int (0 : Int32)), (.int (3 : Int32))] 3) s₁ (mkF m 3 #[.val (.ref a1), .val (.int (0 : Int32)), .val (.int (3 : Int32))] [(.int b0)]) := fun _ k => G1 _ (by
      show Steps p.tables e below (s₁.setTop (mkF m 2 #[.val (.ref a1), .val (.int (0 : Int32)), .val (.int (3 : Int32))] [(.int (0 : Int32)), (.ref a1)])) _
      refine X0.baloadBytes hx (j := (0 : Int32)) (v := (.int b0)) (by rw [e0]; exact Ar2.1) (State.isArrayOf_alike hZ.alike Ar2.2.1) Ar2.2.2 hin2 hat2 (g := (mkF m 2 #[.val (.ref a1), .val (.int (0 : Int32)), .val (.int (3 : Int32))] [(.int (0 : Int32)), (.ref a1)])) rfl rfl (hb hby own_d5_2) _ ?_
      exact k)
  have G4 : Goes p e below s₁ (entryFrame m #[(.ref a1), (.int (0 : Int32)), (.int (3 : Int32))] 3) s₁ (mkF m 5 #[.val (.ref a1), .val (.int (0 : Int32)), .val (.int (3 : Int32))] [(.int (13 : Int32)), (.int b0)]) := fun _ k => G3 _ (by
      show Steps p.tables e below (s₁.setTop (mkF m 3 #[.val (.ref a1), .val (.int (0 : Int32)), .val (.int (3 : Int32))] [(.int b0)])) _
      refine XS.bipush X0.here hx rfl (hb hby own_d5_3) ?_
      exact k)
  by_cases h1 : b0 = (13 : Int32)
  · have G5 : Goes p e below s₁ (entryFrame m #[(.ref a1), (.int (0 : Int32)), (.int (3 : Int32))] 3) s₁ (mkF m 8 #[.val (.ref a1), .val (.int (0 : Int32)), .val (.int (3 : Int32))] []) := fun _ k => G4 _ (by
        show Steps p.tables e below (s₁.setTop (mkF m 5 #[.val (.ref a1), .val (.int (0 : Int32)), .val (.int (3 : Int32))] [(.int (13 : Int32)), (.int b0)])) _
        refine XS.icmpNo X0.here hx rfl (hb hby own_d5_5) rfl (teq h1).2 ?_
        exact k)
    have G6 : Goes p e below s₁ (entryFrame m #[(.ref a1), (.int (0 : Int32)), (.int (3 : Int32))] 3) s₁ (mkF m 12 #[.val (.ref a1), .val (.int (0 : Int32)), .val (.int (3 : Int32))] [(.int (3 : Int32)), (.int (1 : Int32))]) := fun _ k => G5 _ (by
        show Steps p.tables e below (s₁.setTop (mkF m 8 #[.val (.ref a1), .val (.int (0 : Int32)), .val (.int (3 : Int32))] [])) _
        refine XS.iloadN X0.here hx rfl (hb hby own_d5_8) rfl ?_
        show Steps p.tables e below (s₁.setTop (mkF m 9 #[.val (.ref a1), .val (.int (0 : Int32)), .val (.int (3 : Int32))] [(.int (0 : Int32))])) _
        refine XS.iconst X0.here hx rfl (hb hby own_d5_9) ?_
        show Steps p.tables e below (s₁.setTop (mkF m 10 #[.val (.ref a1), .val (.int (0 : Int32)), .val (.int (3 : Int32))] [(.int (1 : Int32)), (.int (0 : Int32))])) _
        refine XS.iadd X0.here hx rfl (hb hby own_d5_10) rfl ?_
        show Steps p.tables e below (s₁.setTop (mkF m 11 #[.val (.ref a1), .val (.int (0 : Int32)), .val (.int (3 : Int32))] [(.int (1 : Int32))])) _
        refine XS.iloadN X0.here hx rfl (hb hby own_d5_11) rfl ?_
        exact k)
    have G7 : Goes p e below s₁ (entryFrame m #[(.ref a1), (.int (0 : Int32)), (.int (3 : Int32))] 3) s₁ (mkF m 15 #[.val (.ref a1), .val (.int (0 : Int32)), .val (.int (3 : Int32))] []) := fun _ k => G6 _ (by
        show Steps p.tables e below (s₁.setTop (mkF m 12 #[.val (.ref a1), .val (.int (0 : Int32)), .val (.int (3 : Int32))] [(.int (3 : Int32)), (.int (1 : Int32))])) _
        refine XS.icmpNo X0.here hx rfl (hb hby own_d5_12) rfl (tlt (by decide : (1 : Int32) < (3 : Int32))).2.1 ?_
        exact k)
    have G8 : Goes p e below s₁ (entryFrame m #[(.ref a1), (.int (0 : Int32)), (.int (3 : Int32))] 3) s₁ (mkF m 19 #[.val (.ref a1), .val (.int (0 : Int32)), .val (.int (3 : Int32))] [(.int (1 : Int32)), (.ref a1)]) := fun _ k => G7 _ (by
        show Steps p.tables e below (s₁.setTop (mkF m 15 #[.val (.ref a1), .val (.int (0 : Int32)), .val (.int (3 : Int32))] [])) _
        refine XS.aloadN X0.here hx rfl (hb hby own_d5_15) rfl rfl ?_
        show Steps p.tables e below (s₁.setTop (mkF m 16 #[.val (.ref a1), .val (.int (0 : Int32)), .val (.int (3 : Int32))] [(.ref a1)])) _
        refine XS.iloadN X0.here hx rfl (hb hby own_d5_16) rfl ?_
        show Steps p.tables e below (s₁.setTop (mkF m 17 #[.val (.ref a1), .val (.int (0 : Int32)), .val (.int (3 : Int32))] [(.int (0 : Int32)), (.ref a1)])) _
        refine XS.iconst X0.here hx rfl (hb hby own_d5_17) ?_
        show Steps p.tables e below (s₁.setTop (mkF m 18 #[.val (.ref a1), .val (.int (0 : Int32)), .val (.int (3 : Int32))] [(.int (1 : Int32)), (.int (0 : Int32)), (.ref a1)])) _
        refine XS.iadd X0.here hx rfl (hb hby own_d5_18) rfl ?_
        exact k)
    have vc9 := V
    obtain ⟨cl9, Ar9, q9, S9, M9, H9, J9⟩ := vc9
    have hin9 : ¬ ((1 : Int32) < 0 ∨ cl9.slots.size ≤ ((1 : Int32)).toNatClampNeg) := inb_of S9 ⟨by decide, by decide⟩
    have hat9 : cl9.slots[((1 : Int32)).toNatClampNeg]? = some (.int b1) := Has.at H9 hin9 rfl
    have G10 : Goes p e below s₁ (entryFrame m #[(.ref a1), (.int (0 : Int32)), (.int (3 : Int32))] 3) s₁ (mkF m 20 #[.val (.ref a1), .val (.int (0 : Int32)), .val (.int (3 : Int32))] [(.int b1)]) := fun _ k => G8 _ (by
        show Steps p.tables e below (s₁.setTop (mkF m 19 #[.val (.ref a1), .val (.int (0 : Int32)), .val (.int (3 : Int32))] [(.int (1 : Int32)), (.ref a1)])) _
        refine X0.baloadBytes hx (j := (1 : Int32)) (v := (.int b1)) (by rw [e0]; exact Ar9.1) (State.isArrayOf_alike hZ.alike Ar9.2.1) Ar9.2.2 hin9 hat9 (g := (mkF m 19 #[.val (.ref a1), .val (.int (0 : Int32)), .val (.int (3 : Int32))] [(.int (1 : Int32)), (.ref a1)])) rfl rfl (hb hby own_d5_19) _ ?_
        exact k)
    have G11 : Goes p e below s₁ (entryFrame m #[(.ref a1), (.int (0 : Int32)), (.int (3 : Int32))] 3) s₁ (mkF m 22 #[.val (.ref a1), .val (.int (0 : Int32)), .val (.int (3 : Int32))] [(.int (10 : Int32)), (.int b1)]) := fun _ k => G10 _ (by
        show Steps p.tables e below (s₁.setTop (mkF m 20 #[.val (.ref a1), .val (.int (0 : Int32)), .val (.int (3 : Int32))] [(.int b1)])) _
        refine XS.bipush X0.here hx rfl (hb hby own_d5_20) ?_
        exact k)
    by_cases h2 : b1 = (10 : Int32)
    · have G12 : Goes p e below s₁ (entryFrame m #[(.ref a1), (.int (0 : Int32)), (.int (3 : Int32))] 3) s₁ (mkF m 25 #[.val (.ref a1), .val (.int (0 : Int32)), .val (.int (3 : Int32))] []) := fun _ k => G11 _ (by
          show Steps p.tables e below (s₁.setTop (mkF m 22 #[.val (.ref a1), .val (.int (0 : Int32)), .val (.int (3 : Int32))] [(.int (10 : Int32)), (.int b1)])) _
          refine XS.icmpNo X0.here hx rfl (hb hby own_d5_22) rfl (teq h2).2 ?_
          exact k)
      have G13 : Goes p e below s₁ (entryFrame m #[(.ref a1), (.int (0 : Int32)), (.int (3 : Int32))] 3) s₁ (mkF m 34 #[.val (.ref a1), .val (.int (0 : Int32)), .val (.int (3 : Int32))] [(.int (2 : Int32))]) := fun _ k => G12 _ (by
          show Steps p.tables e below (s₁.setTop (mkF m 25 #[.val (.ref a1), .val (.int (0 : Int32)), .val (.int (3 : Int32))] [])) _
          refine XS.iloadN X0.here hx rfl (hb hby own_d5_25) rfl ?_
          show Steps p.tables e below (s₁.setTop (mkF m 26 #[.val (.ref a1), .val (.int (0 : Int32)), .val (.int (3 : Int32))] [(.int (0 : Int32))])) _
          refine XS.iconst X0.here hx rfl (hb hby own_d5_26) ?_
          show Steps p.tables e below (s₁.setTop (mkF m 27 #[.val (.ref a1), .val (.int (0 : Int32)), .val (.int (3 : Int32))] [(.int (2 : Int32)), (.int (0 : Int32))])) _
          refine XS.iadd X0.here hx rfl (hb hby own_d5_27) rfl ?_
          show Steps p.tables e below (s₁.setTop (mkF m 28 #[.val (.ref a1), .val (.int (0 : Int32)), .val (.int (3 : Int32))] [(.int (2 : Int32))])) _
          refine XS.goto X0.here hx rfl (pc0 := 28) (pc' := 34) rfl (hb hby own_d5_28) (by decide) (by decide) ?_
          exact k)
      obtain ⟨fs, hr, hrun, hended, hW, hsame⟩ := X0.leave (v := some (.int (2 : Int32))) (fun h => by rw [Bd.returns] at h; cases h)
      refine ⟨_, _, G13 _ (retI X0 hx Bd.returns (hb hby own_d5_34) hr), hrun, hended, _, _, rfl, ?_, ⟨_, rfl⟩, hW, hsame.mono (by decide) (by decide)⟩
      show Q5_0 b0 b1 b2 h0 n0 _ s₁.heap _
      rw [e0]
      exact ⟨by simp [own_al0, h1, h2], N0, rfl⟩
    · have G14 : Goes p e below s₁ (entryFrame m #[(.ref a1), (.int (0 : Int32)), (.int (3 : Int32))] 3) s₁ (mkF m 31 #[.val (.ref a1), .val (.int (0 : Int32)), .val (.int (3 : Int32))] []) := fun _ k => G11 _ (by
          show Steps p.tables e below (s₁.setTop (mkF m 22 #[.val (.ref a1), .val (.int (0 : Int32)), .val (.int (3 : Int32))] [(.int (10 : Int32)), (.int b1)])) _
          refine XS.icmpYes X0.here hx rfl (pc0 := 22) (pc' := 31) rfl (hb hby own_d5_22) rfl (feq h2).2 (by decide) (by decide) ?_
          exact k)
      have G15 : Goes p e below s₁ (entryFrame m #[(.ref a1), (.int (0 : Int32)), (.int (3 : Int32))] 3) s₁ (mkF m 34 #[.val (.ref a1), .val (.int (0 : Int32)), .val (.int (3 : Int32))] [(.int (1 : Int32))]) := fun _ k => G14 _ (by
          show Steps p.tables e below (s₁.setTop (mkF m 31 #[.val (.ref a1), .val (.int (0 : Int32)), .val (.int (3 : Int32))] [])) _
          refine XS.iloadN X0.here hx rfl (hb hby own_d5_31) rfl ?_
          show Steps p.tables e below (s₁.setTop (mkF m 32 #[.val (.ref a1), .val (.int (0 : Int32)), .val (.int (3 : Int32))] [(.int (0 : Int32))])) _
          refine XS.iconst X0.here hx rfl (hb hby own_d5_32) ?_
          show Steps p.tables e below (s₁.setTop (mkF m 33 #[.val (.ref a1), .val (.int (0 : Int32)), .val (.int (3 : Int32))] [(.int (1 : Int32)), (.int (0 : Int32))])) _
          refine XS.iadd X0.here hx rfl (hb hby own_d5_33) rfl ?_
          exact k)
      obtain ⟨fs, hr, hrun, hended, hW, hsame⟩ := X0.leave (v := some (.int (1 : Int32))) (fun h => by rw [Bd.returns] at h; cases h)
      refine ⟨_, _, G15 _ (retI X0 hx Bd.returns (hb hby own_d5_34) hr), hrun, hended, _, _, rfl, ?_, ⟨_, rfl⟩, hW, hsame.mono (by decide) (by decide)⟩
      show Q5_0 b0 b1 b2 h0 n0 _ s₁.heap _
      rw [e0]
      exact ⟨by simp [own_al0, h1, h2], N0, rfl⟩
  · have G16 : Goes p e below s₁ (entryFrame m #[(.ref a1), (.int (0 : Int32)), (.int (3 : Int32))] 3) s₁ (mkF m 31 #[.val (.ref a1), .val (.int (0 : Int32)), .val (.int (3 : Int32))] []) := fun _ k => G4 _ (by
        show Steps p.tables e below (s₁.setTop (mkF m 5 #[.val (.ref a1), .val (.int (0 : Int32)), .val (.int (3 : Int32))] [(.int (13 : Int32)), (.int b0)])) _
        refine XS.icmpYes X0.here hx rfl (pc0 := 5) (pc' := 31) rfl (hb hby own_d5_5) rfl (feq h1).2 (by decide) (by decide) ?_
        exact k)
    have G17 : Goes p e below s₁ (entryFrame m #[(.ref a1), (.int (0 : Int32)), (.int (3 : Int32))] 3) s₁ (mkF m 34 #[.val (.ref a1), .val (.int (0 : Int32)), .val (.int (3 : Int32))] [(.int (1 : Int32))]) := fun _ k => G16 _ (by
        show Steps p.tables e below (s₁.setTop (mkF m 31 #[.val (.ref a1), .val (.int (0 : Int32)), .val (.int (3 : Int32))] [])) _
        refine XS.iloadN X0.here hx rfl (hb hby own_d5_31) rfl ?_
        show Steps p.tables e below (s₁.setTop (mkF m 32 #[.val (.ref a1), .val (.int (0 : Int32)), .val (.int (3 : Int32))] [(.int (0 : Int32))])) _
        refine XS.iconst X0.here hx rfl (hb hby own_d5_32) ?_
        show Steps p.tables e below (s₁.setTop (mkF m 33 #[.val (.ref a1), .val (.int (0 : Int32)), .val (.int (3 : Int32))] [(.int (1 : Int32)), (.int (0 : Int32))])) _
        refine XS.iadd X0.here hx rfl (hb hby own_d5_33) rfl ?_
        exact k)
    obtain ⟨fs, hr, hrun, hended, hW, hsame⟩ := X0.leave (v := some (.int (1 : Int32))) (fun h => by rw [Bd.returns] at h; cases h)
    refine ⟨_, _, G17 _ (retI X0 hx Bd.returns (hb hby own_d5_34) hr), hrun, hended, _, _, rfl, ?_, ⟨_, rfl⟩, hW, hsame.mono (by decide) (by decide)⟩
    show Q5_0 b0 b1 b2 h0 n0 _ s₁.heap _
    rw [e0]
    exact ⟨by simp [own_al0, h1], N0, rfl⟩
set_option maxRecDepth 65536 in
set_option maxHeartbeats 40000000 in
theorem rm5_1 (l : Launch) (Z : State) (a0 : Array Value) (hw : ∀ d ∈ tables_1, d.before a0 Z = true) (ws : List Jvm.Cond) (a1 : Addr) (k1 : ClassId) (b0 b1 b2 : Int32) (h0 : Heap) (n0 : Nat) (Z0 : n0 ≤ h0.size) (V : Arv Z h0 a1 k1 .byte (3 : Int32) [(.int b0), (.int b1), (.int b2)] (.int (0 : Int32))) :
    MetFree l (⟨"com/example/covary/covary/CsvLines", "afterLineEnd", "([BII)I"⟩ : MethodName) (head1 (Jvm.Cond.code (⟨"com/example/covary/covary/CsvLines", "afterLineEnd", "([BII)I"⟩ : MethodName) prog_38_method_34_code 3 (some .int) :: ws) ({ frames := 0, cells := 0, slots := 0, locals := 0 } : Room)) (fun a U => a = #[(.ref a1), (.int (1 : Int32)), (.int (3 : Int32))] ∧ Z.Warmed39 U.vm ∧ U.heap = h0) (fun _ _ _ _ _ => True) (fun _ U oc U' => ∃ v L, oc = .returned v ∧ Q5_1 b0 b1 b2 h0 n0 v U'.heap L ∧ FrameEnd U oc U' L ({ frames := 0, cells := 0, slots := 0, locals := 0 } : Room).cells ({ frames := 0, cells := 0, slots := 0, locals := 0 } : Room).slots) := by
  refine MetFree.of_bodySF (plainFor_of_name own_pn1) hisR ?_
  intro p e s m args below meth c s₁ Bd hml0 hP hK
  obtain ⟨rfl, hZ, hh⟩ := hP
  have hx := Bd.exec
  have hby := Bd.bytes
  have hml : c.maxLocals = 3 := hml0
  have hown : s.vm.findClass "com/example/covary/covary/CsvLines" = some m.cls := findClass_of_methodNamed Bd.named
  have hnm := (name_of_methodNamed Bd.named Bd.method).1
  have X0 : Stand p l e ({ frames := 0, cells := 0, slots := 0, locals := 0 } : Room) s m #[(.ref a1), (.int (1 : Int32)), (.int (3 : Int32))] below meth c s₁ [] 0 0 := Stand.of_body Bd
  have e0 : s₁.heap = h0 := by rw [← hh, Bd.state]; rfl
  have N0 := Fr.nil n0
  have G0 : Goes p e below s₁ (entryFrame m #[(.ref a1), (.int (1 : Int32)), (.int (3 : Int32))] 3) s₁ (mkF m 0 #[.val (.ref a1), .val (.int (1 : Int32)), .val (.int (3 : Int32))] []) := fun _ k => castTop (by first | (simp [entryFrame, mkF, argsToLocals, Value.category]; done) | rfl : (entryFrame m #[(.ref a1), (.int (1 : Int32)), (.int (3 : Int32))] 3) = mkF m 0 #[.val (.ref a1), .val (.int (1 : Int32)), .val (.int (3 : Int32))] []) k
  have G1 : Goes p e below s₁ (entryFrame m #[(.ref a1), (.int (1 : Int32)), (.int (3 : Int32))] 3) s₁ (mkF m 2 #[.val (.ref a1), .val (.int (1 : Int32)), .val (.int (3 : Int32))] [(.int (1 : Int32)), (.ref a1)]) := fun _ k => G0 _ (by
      show Steps p.tables e below (s₁.setTop (mkF m 0 #[.val (.ref a1), .val (.int (1 : Int32)), .val (.int (3 : Int32))] [])) _
      refine XS.aloadN X0.here hx rfl (hb hby own_d5_0) rfl rfl ?_
      show Steps p.tables e below (s₁.setTop (mkF m 1 #[.val (.ref a1), .val (.int (1 : Int32)), .val (.int (3 : Int32))] [(.ref a1)])) _
      refine XS.iloadN X0.here hx rfl (hb hby own_d5_1) rfl ?_
      exact k)
  have vc2 := V
  obtain ⟨cl2, Ar2, q2, S2, M2, H2, J2⟩ := vc2
  have hin2 : ¬ ((1 : Int32) < 0 ∨ cl2.slots.size ≤ ((1 : Int32)).toNatClampNeg) := inb_of S2 ⟨by decide, by decide⟩
  have hat2 : cl2.slots[((1 : Int32)).toNatClampNeg]? = some (.int b1) := Has.at H2 hin2 rfl
  have G3 : Goes p e below s₁ (entryFrame m #[(.ref a1), (.int (1 : Int32)), (.int (3 : Int32))] 3) s₁ (mkF m 3 #[.val (.ref a1), .val (.int (1 : Int32)), .val (.int (3 : Int32))] [(.int b1)]) := fun _ k => G1 _ (by
      show Steps p.tables e below (s₁.setTop (mkF m 2 #[.val (.ref a1), .val (.int (1 : Int32)), .val (.int (3 : Int32))] [(.int (1 : Int32)), (.ref a1)])) _
      refine X0.baloadBytes hx (j := (1 : Int32)) (v := (.int b1)) (by rw [e0]; exact Ar2.1) (State.isArrayOf_alike hZ.alike Ar2.2.1) Ar2.2.2 hin2 hat2 (g := (mkF m 2 #[.val (.ref a1), .val (.int (1 : Int32)), .val (.int (3 : Int32))] [(.int (1 : Int32)), (.ref a1)])) rfl rfl (hb hby own_d5_2) _ ?_
      exact k)
  have G4 : Goes p e below s₁ (entryFrame m #[(.ref a1), (.int (1 : Int32)), (.int (3 : Int32))] 3) s₁ (mkF m 5 #[.val (.ref a1), .val (.int (1 : Int32)), .val (.int (3 : Int32))] [(.int (13 : Int32)), (.int b1)]) := fun _ k => G3 _ (by
      show Steps p.tables e below (s₁.setTop (mkF m 3 #[.val (.ref a1), .val (.int (1 : Int32)), .val (.int (3 : Int32))] [(.int b1)])) _
      refine XS.bipush X0.here hx rfl (hb hby own_d5_3) ?_
      exact k)
  by_cases h1 : b1 = (13 : Int32)
  · have G5 : Goes p e below s₁ (entryFrame m #[(.ref a1), (.int (1 : Int32)), (.int (3 : Int32))] 3) s₁ (mkF m 8 #[.val (.ref a1), .val (.int (1 : Int32)), .val (.int (3 : Int32))] []) := fun _ k => G4 _ (by
        show Steps p.tables e below (s₁.setTop (mkF m 5 #[.val (.ref a1), .val (.int (1 : Int32)), .val (.int (3 : Int32))] [(.int (13 : Int32)), (.int b1)])) _
        refine XS.icmpNo X0.here hx rfl (hb hby own_d5_5) rfl (teq h1).2 ?_
        exact k)
    have G6 : Goes p e below s₁ (entryFrame m #[(.ref a1), (.int (1 : Int32)), (.int (3 : Int32))] 3) s₁ (mkF m 12 #[.val (.ref a1), .val (.int (1 : Int32)), .val (.int (3 : Int32))] [(.int (3 : Int32)), (.int (2 : Int32))]) := fun _ k => G5 _ (by
        show Steps p.tables e below (s₁.setTop (mkF m 8 #[.val (.ref a1), .val (.int (1 : Int32)), .val (.int (3 : Int32))] [])) _
        refine XS.iloadN X0.here hx rfl (hb hby own_d5_8) rfl ?_
        show Steps p.tables e below (s₁.setTop (mkF m 9 #[.val (.ref a1), .val (.int (1 : Int32)), .val (.int (3 : Int32))] [(.int (1 : Int32))])) _
        refine XS.iconst X0.here hx rfl (hb hby own_d5_9) ?_
        show Steps p.tables e below (s₁.setTop (mkF m 10 #[.val (.ref a1), .val (.int (1 : Int32)), .val (.int (3 : Int32))] [(.int (1 : Int32)), (.int (1 : Int32))])) _
        refine XS.iadd X0.here hx rfl (hb hby own_d5_10) rfl ?_
        show Steps p.tables e below (s₁.setTop (mkF m 11 #[.val (.ref a1), .val (.int (1 : Int32)), .val (.int (3 : Int32))] [(.int (2 : Int32))])) _
        refine XS.iloadN X0.here hx rfl (hb hby own_d5_11) rfl ?_
        exact k)
    have G7 : Goes p e below s₁ (entryFrame m #[(.ref a1), (.int (1 : Int32)), (.int (3 : Int32))] 3) s₁ (mkF m 15 #[.val (.ref a1), .val (.int (1 : Int32)), .val (.int (3 : Int32))] []) := fun _ k => G6 _ (by
        show Steps p.tables e below (s₁.setTop (mkF m 12 #[.val (.ref a1), .val (.int (1 : Int32)), .val (.int (3 : Int32))] [(.int (3 : Int32)), (.int (2 : Int32))])) _
        refine XS.icmpNo X0.here hx rfl (hb hby own_d5_12) rfl (tlt (by decide : (2 : Int32) < (3 : Int32))).2.1 ?_
        exact k)
    have G8 : Goes p e below s₁ (entryFrame m #[(.ref a1), (.int (1 : Int32)), (.int (3 : Int32))] 3) s₁ (mkF m 19 #[.val (.ref a1), .val (.int (1 : Int32)), .val (.int (3 : Int32))] [(.int (2 : Int32)), (.ref a1)]) := fun _ k => G7 _ (by
        show Steps p.tables e below (s₁.setTop (mkF m 15 #[.val (.ref a1), .val (.int (1 : Int32)), .val (.int (3 : Int32))] [])) _
        refine XS.aloadN X0.here hx rfl (hb hby own_d5_15) rfl rfl ?_
        show Steps p.tables e below (s₁.setTop (mkF m 16 #[.val (.ref a1), .val (.int (1 : Int32)), .val (.int (3 : Int32))] [(.ref a1)])) _
        refine XS.iloadN X0.here hx rfl (hb hby own_d5_16) rfl ?_
        show Steps p.tables e below (s₁.setTop (mkF m 17 #[.val (.ref a1), .val (.int (1 : Int32)), .val (.int (3 : Int32))] [(.int (1 : Int32)), (.ref a1)])) _
        refine XS.iconst X0.here hx rfl (hb hby own_d5_17) ?_
        show Steps p.tables e below (s₁.setTop (mkF m 18 #[.val (.ref a1), .val (.int (1 : Int32)), .val (.int (3 : Int32))] [(.int (1 : Int32)), (.int (1 : Int32)), (.ref a1)])) _
        refine XS.iadd X0.here hx rfl (hb hby own_d5_18) rfl ?_
        exact k)
    have vc9 := V
    obtain ⟨cl9, Ar9, q9, S9, M9, H9, J9⟩ := vc9
    have hin9 : ¬ ((2 : Int32) < 0 ∨ cl9.slots.size ≤ ((2 : Int32)).toNatClampNeg) := inb_of S9 ⟨by decide, by decide⟩
    have hat9 : cl9.slots[((2 : Int32)).toNatClampNeg]? = some (.int b2) := Has.at H9 hin9 rfl
    have G10 : Goes p e below s₁ (entryFrame m #[(.ref a1), (.int (1 : Int32)), (.int (3 : Int32))] 3) s₁ (mkF m 20 #[.val (.ref a1), .val (.int (1 : Int32)), .val (.int (3 : Int32))] [(.int b2)]) := fun _ k => G8 _ (by
        show Steps p.tables e below (s₁.setTop (mkF m 19 #[.val (.ref a1), .val (.int (1 : Int32)), .val (.int (3 : Int32))] [(.int (2 : Int32)), (.ref a1)])) _
        refine X0.baloadBytes hx (j := (2 : Int32)) (v := (.int b2)) (by rw [e0]; exact Ar9.1) (State.isArrayOf_alike hZ.alike Ar9.2.1) Ar9.2.2 hin9 hat9 (g := (mkF m 19 #[.val (.ref a1), .val (.int (1 : Int32)), .val (.int (3 : Int32))] [(.int (2 : Int32)), (.ref a1)])) rfl rfl (hb hby own_d5_19) _ ?_
        exact k)
    have G11 : Goes p e below s₁ (entryFrame m #[(.ref a1), (.int (1 : Int32)), (.int (3 : Int32))] 3) s₁ (mkF m 22 #[.val (.ref a1), .val (.int (1 : Int32)), .val (.int (3 : Int32))] [(.int (10 : Int32)), (.int b2)]) := fun _ k => G10 _ (by
        show Steps p.tables e below (s₁.setTop (mkF m 20 #[.val (.ref a1), .val (.int (1 : Int32)), .val (.int (3 : Int32))] [(.int b2)])) _
        refine XS.bipush X0.here hx rfl (hb hby own_d5_20) ?_
        exact k)
    by_cases h2 : b2 = (10 : Int32)
    · have G12 : Goes p e below s₁ (entryFrame m #[(.ref a1), (.int (1 : Int32)), (.int (3 : Int32))] 3) s₁ (mkF m 25 #[.val (.ref a1), .val (.int (1 : Int32)), .val (.int (3 : Int32))] []) := fun _ k => G11 _ (by
          show Steps p.tables e below (s₁.setTop (mkF m 22 #[.val (.ref a1), .val (.int (1 : Int32)), .val (.int (3 : Int32))] [(.int (10 : Int32)), (.int b2)])) _
          refine XS.icmpNo X0.here hx rfl (hb hby own_d5_22) rfl (teq h2).2 ?_
          exact k)
      have G13 : Goes p e below s₁ (entryFrame m #[(.ref a1), (.int (1 : Int32)), (.int (3 : Int32))] 3) s₁ (mkF m 34 #[.val (.ref a1), .val (.int (1 : Int32)), .val (.int (3 : Int32))] [(.int (3 : Int32))]) := fun _ k => G12 _ (by
          show Steps p.tables e below (s₁.setTop (mkF m 25 #[.val (.ref a1), .val (.int (1 : Int32)), .val (.int (3 : Int32))] [])) _
          refine XS.iloadN X0.here hx rfl (hb hby own_d5_25) rfl ?_
          show Steps p.tables e below (s₁.setTop (mkF m 26 #[.val (.ref a1), .val (.int (1 : Int32)), .val (.int (3 : Int32))] [(.int (1 : Int32))])) _
          refine XS.iconst X0.here hx rfl (hb hby own_d5_26) ?_
          show Steps p.tables e below (s₁.setTop (mkF m 27 #[.val (.ref a1), .val (.int (1 : Int32)), .val (.int (3 : Int32))] [(.int (2 : Int32)), (.int (1 : Int32))])) _
          refine XS.iadd X0.here hx rfl (hb hby own_d5_27) rfl ?_
          show Steps p.tables e below (s₁.setTop (mkF m 28 #[.val (.ref a1), .val (.int (1 : Int32)), .val (.int (3 : Int32))] [(.int (3 : Int32))])) _
          refine XS.goto X0.here hx rfl (pc0 := 28) (pc' := 34) rfl (hb hby own_d5_28) (by decide) (by decide) ?_
          exact k)
      obtain ⟨fs, hr, hrun, hended, hW, hsame⟩ := X0.leave (v := some (.int (3 : Int32))) (fun h => by rw [Bd.returns] at h; cases h)
      refine ⟨_, _, G13 _ (retI X0 hx Bd.returns (hb hby own_d5_34) hr), hrun, hended, _, _, rfl, ?_, ⟨_, rfl⟩, hW, hsame.mono (by decide) (by decide)⟩
      show Q5_1 b0 b1 b2 h0 n0 _ s₁.heap _
      rw [e0]
      exact ⟨by simp [own_al1, h1, h2], N0, rfl⟩
    · have G14 : Goes p e below s₁ (entryFrame m #[(.ref a1), (.int (1 : Int32)), (.int (3 : Int32))] 3) s₁ (mkF m 31 #[.val (.ref a1), .val (.int (1 : Int32)), .val (.int (3 : Int32))] []) := fun _ k => G11 _ (by
          show Steps p.tables e below (s₁.setTop (mkF m 22 #[.val (.ref a1), .val (.int (1 : Int32)), .val (.int (3 : Int32))] [(.int (10 : Int32)), (.int b2)])) _
          refine XS.icmpYes X0.here hx rfl (pc0 := 22) (pc' := 31) rfl (hb hby own_d5_22) rfl (feq h2).2 (by decide) (by decide) ?_
          exact k)
      have G15 : Goes p e below s₁ (entryFrame m #[(.ref a1), (.int (1 : Int32)), (.int (3 : Int32))] 3) s₁ (mkF m 34 #[.val (.ref a1), .val (.int (1 : Int32)), .val (.int (3 : Int32))] [(.int (2 : Int32))]) := fun _ k => G14 _ (by
          show Steps p.tables e below (s₁.setTop (mkF m 31 #[.val (.ref a1), .val (.int (1 : Int32)), .val (.int (3 : Int32))] [])) _
          refine XS.iloadN X0.here hx rfl (hb hby own_d5_31) rfl ?_
          show Steps p.tables e below (s₁.setTop (mkF m 32 #[.val (.ref a1), .val (.int (1 : Int32)), .val (.int (3 : Int32))] [(.int (1 : Int32))])) _
          refine XS.iconst X0.here hx rfl (hb hby own_d5_32) ?_
          show Steps p.tables e below (s₁.setTop (mkF m 33 #[.val (.ref a1), .val (.int (1 : Int32)), .val (.int (3 : Int32))] [(.int (1 : Int32)), (.int (1 : Int32))])) _
          refine XS.iadd X0.here hx rfl (hb hby own_d5_33) rfl ?_
          exact k)
      obtain ⟨fs, hr, hrun, hended, hW, hsame⟩ := X0.leave (v := some (.int (2 : Int32))) (fun h => by rw [Bd.returns] at h; cases h)
      refine ⟨_, _, G15 _ (retI X0 hx Bd.returns (hb hby own_d5_34) hr), hrun, hended, _, _, rfl, ?_, ⟨_, rfl⟩, hW, hsame.mono (by decide) (by decide)⟩
      show Q5_1 b0 b1 b2 h0 n0 _ s₁.heap _
      rw [e0]
      exact ⟨by simp [own_al1, h1, h2], N0, rfl⟩
  · have G16 : Goes p e below s₁ (entryFrame m #[(.ref a1), (.int (1 : Int32)), (.int (3 : Int32))] 3) s₁ (mkF m 31 #[.val (.ref a1), .val (.int (1 : Int32)), .val (.int (3 : Int32))] []) := fun _ k => G4 _ (by
        show Steps p.tables e below (s₁.setTop (mkF m 5 #[.val (.ref a1), .val (.int (1 : Int32)), .val (.int (3 : Int32))] [(.int (13 : Int32)), (.int b1)])) _
        refine XS.icmpYes X0.here hx rfl (pc0 := 5) (pc' := 31) rfl (hb hby own_d5_5) rfl (feq h1).2 (by decide) (by decide) ?_
        exact k)
    have G17 : Goes p e below s₁ (entryFrame m #[(.ref a1), (.int (1 : Int32)), (.int (3 : Int32))] 3) s₁ (mkF m 34 #[.val (.ref a1), .val (.int (1 : Int32)), .val (.int (3 : Int32))] [(.int (2 : Int32))]) := fun _ k => G16 _ (by
        show Steps p.tables e below (s₁.setTop (mkF m 31 #[.val (.ref a1), .val (.int (1 : Int32)), .val (.int (3 : Int32))] [])) _
        refine XS.iloadN X0.here hx rfl (hb hby own_d5_31) rfl ?_
        show Steps p.tables e below (s₁.setTop (mkF m 32 #[.val (.ref a1), .val (.int (1 : Int32)), .val (.int (3 : Int32))] [(.int (1 : Int32))])) _
        refine XS.iconst X0.here hx rfl (hb hby own_d5_32) ?_
        show Steps p.tables e below (s₁.setTop (mkF m 33 #[.val (.ref a1), .val (.int (1 : Int32)), .val (.int (3 : Int32))] [(.int (1 : Int32)), (.int (1 : Int32))])) _
        refine XS.iadd X0.here hx rfl (hb hby own_d5_33) rfl ?_
        exact k)
    obtain ⟨fs, hr, hrun, hended, hW, hsame⟩ := X0.leave (v := some (.int (2 : Int32))) (fun h => by rw [Bd.returns] at h; cases h)
    refine ⟨_, _, G17 _ (retI X0 hx Bd.returns (hb hby own_d5_34) hr), hrun, hended, _, _, rfl, ?_, ⟨_, rfl⟩, hW, hsame.mono (by decide) (by decide)⟩
    show Q5_1 b0 b1 b2 h0 n0 _ s₁.heap _
    rw [e0]
    exact ⟨by simp [own_al1, h1], N0, rfl⟩
set_option maxRecDepth 65536 in
set_option maxHeartbeats 40000000 in
theorem rm5_2 (l : Launch) (Z : State) (a0 : Array Value) (hw : ∀ d ∈ tables_1, d.before a0 Z = true) (ws : List Jvm.Cond) (a1 : Addr) (k1 : ClassId) (b0 b1 b2 : Int32) (h0 : Heap) (n0 : Nat) (Z0 : n0 ≤ h0.size) (V : Arv Z h0 a1 k1 .byte (3 : Int32) [(.int b0), (.int b1), (.int b2)] (.int (0 : Int32))) :
    MetFree l (⟨"com/example/covary/covary/CsvLines", "afterLineEnd", "([BII)I"⟩ : MethodName) (head1 (Jvm.Cond.code (⟨"com/example/covary/covary/CsvLines", "afterLineEnd", "([BII)I"⟩ : MethodName) prog_38_method_34_code 3 (some .int) :: ws) ({ frames := 0, cells := 0, slots := 0, locals := 0 } : Room)) (fun a U => a = #[(.ref a1), (.int (2 : Int32)), (.int (3 : Int32))] ∧ Z.Warmed39 U.vm ∧ U.heap = h0) (fun _ _ _ _ _ => True) (fun _ U oc U' => ∃ v L, oc = .returned v ∧ Q5_2 b0 b1 b2 h0 n0 v U'.heap L ∧ FrameEnd U oc U' L ({ frames := 0, cells := 0, slots := 0, locals := 0 } : Room).cells ({ frames := 0, cells := 0, slots := 0, locals := 0 } : Room).slots) := by
  refine MetFree.of_bodySF (plainFor_of_name own_pn1) hisR ?_
  intro p e s m args below meth c s₁ Bd hml0 hP hK
  obtain ⟨rfl, hZ, hh⟩ := hP
  have hx := Bd.exec
  have hby := Bd.bytes
  have hml : c.maxLocals = 3 := hml0
  have hown : s.vm.findClass "com/example/covary/covary/CsvLines" = some m.cls := findClass_of_methodNamed Bd.named
  have hnm := (name_of_methodNamed Bd.named Bd.method).1
  have X0 : Stand p l e ({ frames := 0, cells := 0, slots := 0, locals := 0 } : Room) s m #[(.ref a1), (.int (2 : Int32)), (.int (3 : Int32))] below meth c s₁ [] 0 0 := Stand.of_body Bd
  have e0 : s₁.heap = h0 := by rw [← hh, Bd.state]; rfl
  have N0 := Fr.nil n0
  have G0 : Goes p e below s₁ (entryFrame m #[(.ref a1), (.int (2 : Int32)), (.int (3 : Int32))] 3) s₁ (mkF m 0 #[.val (.ref a1), .val (.int (2 : Int32)), .val (.int (3 : Int32))] []) := fun _ k => castTop (by first | (simp [entryFrame, mkF, argsToLocals, Value.category]; done) | rfl : (entryFrame m #[(.ref a1), (.int (2 : Int32)), (.int (3 : Int32))] 3) = mkF m 0 #[.val (.ref a1), .val (.int (2 : Int32)), .val (.int (3 : Int32))] []) k
  have G1 : Goes p e below s₁ (entryFrame m #[(.ref a1), (.int (2 : Int32)), (.int (3 : Int32))] 3) s₁ (mkF m 2 #[.val (.ref a1), .val (.int (2 : Int32)), .val (.int (3 : Int32))] [(.int (2 : Int32)), (.ref a1)]) := fun _ k => G0 _ (by
      show Steps p.tables e below (s₁.setTop (mkF m 0 #[.val (.ref a1), .val (.int (2 : Int32)), .val (.int (3 : Int32))] [])) _
      refine XS.aloadN X0.here hx rfl (hb hby own_d5_0) rfl rfl ?_
      show Steps p.tables e below (s₁.setTop (mkF m 1 #[.val (.ref a1), .val (.int (2 : Int32)), .val (.int (3 : Int32))] [(.ref a1)])) _
      refine XS.iloadN X0.here hx rfl (hb hby own_d5_1) rfl ?_
      exact k)
  have vc2 := V
  obtain ⟨cl2, Ar2, q2, S2, M2, H2, J2⟩ := vc2
  have hin2 : ¬ ((2 : Int32) < 0 ∨ cl2.slots.size ≤ ((2 : Int32)).toNatClampNeg) := inb_of S2 ⟨by decide, by decide⟩
  have hat2 : cl2.slots[((2 : Int32)).toNatClampNeg]? = some (.int b2) := Has.at H2 hin2 rfl
  have G3 : Goes p e below s₁ (entryFrame m #[(.ref a1), (.int (2 : Int32)), (.int (3 : Int32))] 3) s₁ (mkF m 3 #[.val (.ref a1), .val (.int (2 : Int32)), .val (.int (3 : Int32))] [(.int b2)]) := fun _ k => G1 _ (by
      show Steps p.tables e below (s₁.setTop (mkF m 2 #[.val (.ref a1), .val (.int (2 : Int32)), .val (.int (3 : Int32))] [(.int (2 : Int32)), (.ref a1)])) _
      refine X0.baloadBytes hx (j := (2 : Int32)) (v := (.int b2)) (by rw [e0]; exact Ar2.1) (State.isArrayOf_alike hZ.alike Ar2.2.1) Ar2.2.2 hin2 hat2 (g := (mkF m 2 #[.val (.ref a1), .val (.int (2 : Int32)), .val (.int (3 : Int32))] [(.int (2 : Int32)), (.ref a1)])) rfl rfl (hb hby own_d5_2) _ ?_
      exact k)
  have G4 : Goes p e below s₁ (entryFrame m #[(.ref a1), (.int (2 : Int32)), (.int (3 : Int32))] 3) s₁ (mkF m 5 #[.val (.ref a1), .val (.int (2 : Int32)), .val (.int (3 : Int32))] [(.int (13 : Int32)), (.int b2)]) := fun _ k => G3 _ (by
      show Steps p.tables e below (s₁.setTop (mkF m 3 #[.val (.ref a1), .val (.int (2 : Int32)), .val (.int (3 : Int32))] [(.int b2)])) _
      refine XS.bipush X0.here hx rfl (hb hby own_d5_3) ?_
      exact k)
  by_cases h1 : b2 = (13 : Int32)
  · have G5 : Goes p e below s₁ (entryFrame m #[(.ref a1), (.int (2 : Int32)), (.int (3 : Int32))] 3) s₁ (mkF m 8 #[.val (.ref a1), .val (.int (2 : Int32)), .val (.int (3 : Int32))] []) := fun _ k => G4 _ (by
        show Steps p.tables e below (s₁.setTop (mkF m 5 #[.val (.ref a1), .val (.int (2 : Int32)), .val (.int (3 : Int32))] [(.int (13 : Int32)), (.int b2)])) _
        refine XS.icmpNo X0.here hx rfl (hb hby own_d5_5) rfl (teq h1).2 ?_
        exact k)
    have G6 : Goes p e below s₁ (entryFrame m #[(.ref a1), (.int (2 : Int32)), (.int (3 : Int32))] 3) s₁ (mkF m 12 #[.val (.ref a1), .val (.int (2 : Int32)), .val (.int (3 : Int32))] [(.int (3 : Int32)), (.int (3 : Int32))]) := fun _ k => G5 _ (by
        show Steps p.tables e below (s₁.setTop (mkF m 8 #[.val (.ref a1), .val (.int (2 : Int32)), .val (.int (3 : Int32))] [])) _
        refine XS.iloadN X0.here hx rfl (hb hby own_d5_8) rfl ?_
        show Steps p.tables e below (s₁.setTop (mkF m 9 #[.val (.ref a1), .val (.int (2 : Int32)), .val (.int (3 : Int32))] [(.int (2 : Int32))])) _
        refine XS.iconst X0.here hx rfl (hb hby own_d5_9) ?_
        show Steps p.tables e below (s₁.setTop (mkF m 10 #[.val (.ref a1), .val (.int (2 : Int32)), .val (.int (3 : Int32))] [(.int (1 : Int32)), (.int (2 : Int32))])) _
        refine XS.iadd X0.here hx rfl (hb hby own_d5_10) rfl ?_
        show Steps p.tables e below (s₁.setTop (mkF m 11 #[.val (.ref a1), .val (.int (2 : Int32)), .val (.int (3 : Int32))] [(.int (3 : Int32))])) _
        refine XS.iloadN X0.here hx rfl (hb hby own_d5_11) rfl ?_
        exact k)
    have G7 : Goes p e below s₁ (entryFrame m #[(.ref a1), (.int (2 : Int32)), (.int (3 : Int32))] 3) s₁ (mkF m 31 #[.val (.ref a1), .val (.int (2 : Int32)), .val (.int (3 : Int32))] []) := fun _ k => G6 _ (by
        show Steps p.tables e below (s₁.setTop (mkF m 12 #[.val (.ref a1), .val (.int (2 : Int32)), .val (.int (3 : Int32))] [(.int (3 : Int32)), (.int (3 : Int32))])) _
        refine XS.icmpYes X0.here hx rfl (pc0 := 12) (pc' := 31) rfl (hb hby own_d5_12) rfl (flt (by decide : ¬ ((3 : Int32) < (3 : Int32)))).2.1 (by decide) (by decide) ?_
        exact k)
    have G8 : Goes p e below s₁ (entryFrame m #[(.ref a1), (.int (2 : Int32)), (.int (3 : Int32))] 3) s₁ (mkF m 34 #[.val (.ref a1), .val (.int (2 : Int32)), .val (.int (3 : Int32))] [(.int (3 : Int32))]) := fun _ k => G7 _ (by
        show Steps p.tables e below (s₁.setTop (mkF m 31 #[.val (.ref a1), .val (.int (2 : Int32)), .val (.int (3 : Int32))] [])) _
        refine XS.iloadN X0.here hx rfl (hb hby own_d5_31) rfl ?_
        show Steps p.tables e below (s₁.setTop (mkF m 32 #[.val (.ref a1), .val (.int (2 : Int32)), .val (.int (3 : Int32))] [(.int (2 : Int32))])) _
        refine XS.iconst X0.here hx rfl (hb hby own_d5_32) ?_
        show Steps p.tables e below (s₁.setTop (mkF m 33 #[.val (.ref a1), .val (.int (2 : Int32)), .val (.int (3 : Int32))] [(.int (1 : Int32)), (.int (2 : Int32))])) _
        refine XS.iadd X0.here hx rfl (hb hby own_d5_33) rfl ?_
        exact k)
    obtain ⟨fs, hr, hrun, hended, hW, hsame⟩ := X0.leave (v := some (.int (3 : Int32))) (fun h => by rw [Bd.returns] at h; cases h)
    refine ⟨_, _, G8 _ (retI X0 hx Bd.returns (hb hby own_d5_34) hr), hrun, hended, _, _, rfl, ?_, ⟨_, rfl⟩, hW, hsame.mono (by decide) (by decide)⟩
    show Q5_2 b0 b1 b2 h0 n0 _ s₁.heap _
    rw [e0]
    exact ⟨by simp [h1], N0, rfl⟩
  · have G9 : Goes p e below s₁ (entryFrame m #[(.ref a1), (.int (2 : Int32)), (.int (3 : Int32))] 3) s₁ (mkF m 31 #[.val (.ref a1), .val (.int (2 : Int32)), .val (.int (3 : Int32))] []) := fun _ k => G4 _ (by
        show Steps p.tables e below (s₁.setTop (mkF m 5 #[.val (.ref a1), .val (.int (2 : Int32)), .val (.int (3 : Int32))] [(.int (13 : Int32)), (.int b2)])) _
        refine XS.icmpYes X0.here hx rfl (pc0 := 5) (pc' := 31) rfl (hb hby own_d5_5) rfl (feq h1).2 (by decide) (by decide) ?_
        exact k)
    have G10 : Goes p e below s₁ (entryFrame m #[(.ref a1), (.int (2 : Int32)), (.int (3 : Int32))] 3) s₁ (mkF m 34 #[.val (.ref a1), .val (.int (2 : Int32)), .val (.int (3 : Int32))] [(.int (3 : Int32))]) := fun _ k => G9 _ (by
        show Steps p.tables e below (s₁.setTop (mkF m 31 #[.val (.ref a1), .val (.int (2 : Int32)), .val (.int (3 : Int32))] [])) _
        refine XS.iloadN X0.here hx rfl (hb hby own_d5_31) rfl ?_
        show Steps p.tables e below (s₁.setTop (mkF m 32 #[.val (.ref a1), .val (.int (2 : Int32)), .val (.int (3 : Int32))] [(.int (2 : Int32))])) _
        refine XS.iconst X0.here hx rfl (hb hby own_d5_32) ?_
        show Steps p.tables e below (s₁.setTop (mkF m 33 #[.val (.ref a1), .val (.int (2 : Int32)), .val (.int (3 : Int32))] [(.int (1 : Int32)), (.int (2 : Int32))])) _
        refine XS.iadd X0.here hx rfl (hb hby own_d5_33) rfl ?_
        exact k)
    obtain ⟨fs, hr, hrun, hended, hW, hsame⟩ := X0.leave (v := some (.int (3 : Int32))) (fun h => by rw [Bd.returns] at h; cases h)
    refine ⟨_, _, G10 _ (retI X0 hx Bd.returns (hb hby own_d5_34) hr), hrun, hended, _, _, rfl, ?_, ⟨_, rfl⟩, hW, hsame.mono (by decide) (by decide)⟩
    show Q5_2 b0 b1 b2 h0 n0 _ s₁.heap _
    rw [e0]
    exact ⟨by simp [h1], N0, rfl⟩
theorem own_d2_0 : decode prog_38_method_7_code 0 = .ok (.aload_n 0, 1) := by decide +kernel
theorem own_d2_1 : decode prog_38_method_7_code 1 = .ok (.iload_n 1, 1) := by decide +kernel
theorem own_d2_2 : decode prog_38_method_7_code 2 = .ok (.iconst 1, 1) := by decide +kernel
theorem own_d2_3 : decode prog_38_method_7_code 3 = .ok (.isub, 1) := by decide +kernel
theorem own_d2_4 : decode prog_38_method_7_code 4 = .ok (.baload, 1) := by decide +kernel
theorem own_d2_5 : decode prog_38_method_7_code 5 = .ok (.bipush 10, 2) := by decide +kernel
theorem own_d2_7 : decode prog_38_method_7_code 7 = .ok (.if_icmp .eq 21, 3) := by decide +kernel
theorem own_d2_10 : decode prog_38_method_7_code 10 = .ok (.aload_n 0, 1) := by decide +kernel
theorem own_d2_11 : decode prog_38_method_7_code 11 = .ok (.iload_n 1, 1) := by decide +kernel
theorem own_d2_12 : decode prog_38_method_7_code 12 = .ok (.iconst 1, 1) := by decide +kernel
theorem own_d2_13 : decode prog_38_method_7_code 13 = .ok (.isub, 1) := by decide +kernel
theorem own_d2_14 : decode prog_38_method_7_code 14 = .ok (.baload, 1) := by decide +kernel
theorem own_d2_15 : decode prog_38_method_7_code 15 = .ok (.bipush 13, 2) := by decide +kernel
theorem own_d2_17 : decode prog_38_method_7_code 17 = .ok (.if_icmp .ne 15, 3) := by decide +kernel
theorem own_d2_20 : decode prog_38_method_7_code 20 = .ok (.aload_n 0, 1) := by decide +kernel
theorem own_d2_21 : decode prog_38_method_7_code 21 = .ok (.iload_n 1, 1) := by decide +kernel
theorem own_d2_22 : decode prog_38_method_7_code 22 = .ok (.baload, 1) := by decide +kernel
theorem own_d2_23 : decode prog_38_method_7_code 23 = .ok (.bipush 10, 2) := by decide +kernel
theorem own_d2_25 : decode prog_38_method_7_code 25 = .ok (.if_icmp .eq 7, 3) := by decide +kernel
theorem own_d2_28 : decode prog_38_method_7_code 28 = .ok (.iconst 1, 1) := by decide +kernel
theorem own_d2_29 : decode prog_38_method_7_code 29 = .ok (.goto 4, 3) := by decide +kernel
theorem own_d2_32 : decode prog_38_method_7_code 32 = .ok (.iconst 0, 1) := by decide +kernel
theorem own_d2_33 : decode prog_38_method_7_code 33 = .ok (.ireturn, 1) := by decide +kernel
set_option maxRecDepth 65536 in
set_option maxHeartbeats 40000000 in
theorem rm2_1 (l : Launch) (Z : State) (a0 : Array Value) (hw : ∀ d ∈ tables_1, d.before a0 Z = true) (ws : List Jvm.Cond) (a1 : Addr) (k1 : ClassId) (b0 b1 b2 : Int32) (h0 : Heap) (n0 : Nat) (Z0 : n0 ≤ h0.size) (V : Arv Z h0 a1 k1 .byte (3 : Int32) [(.int b0), (.int b1), (.int b2)] (.int (0 : Int32))) :
    MetFree l (⟨"com/example/covary/covary/CsvLines", "startsLine", "([BI)Z"⟩ : MethodName) (head1 (Jvm.Cond.code (⟨"com/example/covary/covary/CsvLines", "startsLine", "([BI)Z"⟩ : MethodName) prog_38_method_7_code 2 (some .boolean) :: ws) ({ frames := 0, cells := 0, slots := 0, locals := 0 } : Room)) (fun a U => a = #[(.ref a1), (.int (1 : Int32))] ∧ Z.Warmed39 U.vm ∧ U.heap = h0) (fun _ _ _ _ _ => True) (fun _ U oc U' => ∃ v L, oc = .returned v ∧ Q2_1 b0 b1 b2 h0 n0 v U'.heap L ∧ FrameEnd U oc U' L ({ frames := 0, cells := 0, slots := 0, locals := 0 } : Room).cells ({ frames := 0, cells := 0, slots := 0, locals := 0 } : Room).slots) := by
  refine MetFree.of_bodySF (plainFor_of_name own_pn1) hisR ?_
  intro p e s m args below meth c s₁ Bd hml0 hP hK
  obtain ⟨rfl, hZ, hh⟩ := hP
  have hx := Bd.exec
  have hby := Bd.bytes
  have hml : c.maxLocals = 2 := hml0
  have hown : s.vm.findClass "com/example/covary/covary/CsvLines" = some m.cls := findClass_of_methodNamed Bd.named
  have hnm := (name_of_methodNamed Bd.named Bd.method).1
  have X0 : Stand p l e ({ frames := 0, cells := 0, slots := 0, locals := 0 } : Room) s m #[(.ref a1), (.int (1 : Int32))] below meth c s₁ [] 0 0 := Stand.of_body Bd
  have e0 : s₁.heap = h0 := by rw [← hh, Bd.state]; rfl
  have N0 := Fr.nil n0
  have G0 : Goes p e below s₁ (entryFrame m #[(.ref a1), (.int (1 : Int32))] 2) s₁ (mkF m 0 #[.val (.ref a1), .val (.int (1 : Int32))] []) := fun _ k => castTop (by first | (simp [entryFrame, mkF, argsToLocals, Value.category]; done) | rfl : (entryFrame m #[(.ref a1), (.int (1 : Int32))] 2) = mkF m 0 #[.val (.ref a1), .val (.int (1 : Int32))] []) k
  have G1 : Goes p e below s₁ (entryFrame m #[(.ref a1), (.int (1 : Int32))] 2) s₁ (mkF m 4 #[.val (.ref a1), .val (.int (1 : Int32))] [(.int (0 : Int32)), (.ref a1)]) := fun _ k => G0 _ (by
      show Steps p.tables e below (s₁.setTop (mkF m 0 #[.val (.ref a1), .val (.int (1 : Int32))] [])) _
      refine XS.aloadN X0.here hx rfl (hb hby own_d2_0) rfl rfl ?_
      show Steps p.tables e below (s₁.setTop (mkF m 1 #[.val (.ref a1), .val (.int (1 : Int32))] [(.ref a1)])) _
      refine XS.iloadN X0.here hx rfl (hb hby own_d2_1) rfl ?_
      show Steps p.tables e below (s₁.setTop (mkF m 2 #[.val (.ref a1), .val (.int (1 : Int32))] [(.int (1 : Int32)), (.ref a1)])) _
      refine XS.iconst X0.here hx rfl (hb hby own_d2_2) ?_
      show Steps p.tables e below (s₁.setTop (mkF m 3 #[.val (.ref a1), .val (.int (1 : Int32))] [(.int (1 : Int32)), (.int (1 : Int32)), (.ref a1)])) _
      refine XS.isub X0.here hx rfl (hb hby own_d2_3) rfl ?_
      exact k)
  have vc2 := V
  obtain ⟨cl2, Ar2, q2, S2, M2, H2, J2⟩ := vc2
  have hin2 : ¬ ((0 : Int32) < 0 ∨ cl2.slots.size ≤ ((0 : Int32)).toNatClampNeg) := inb_of S2 ⟨by decide, by decide⟩
  have hat2 : cl2.slots[((0 : Int32)).toNatClampNeg]? = some (.int b0) := Has.at H2 hin2 rfl
  have G3 : Goes p e below s₁ (entryFrame m #[(.ref a1), (.int (1 : Int32))] 2) s₁ (mkF m 5 #[.val (.ref a1), .val (.int (1 : Int32))] [(.int b0)]) := fun _ k => G1 _ (by
      show Steps p.tables e below (s₁.setTop (mkF m 4 #[.val (.ref a1), .val (.int (1 : Int32))] [(.int (0 : Int32)), (.ref a1)])) _
      refine X0.baloadBytes hx (j := (0 : Int32)) (v := (.int b0)) (by rw [e0]; exact Ar2.1) (State.isArrayOf_alike hZ.alike Ar2.2.1) Ar2.2.2 hin2 hat2 (g := (mkF m 4 #[.val (.ref a1), .val (.int (1 : Int32))] [(.int (0 : Int32)), (.ref a1)])) rfl rfl (hb hby own_d2_4) _ ?_
      exact k)
  have G4 : Goes p e below s₁ (entryFrame m #[(.ref a1), (.int (1 : Int32))] 2) s₁ (mkF m 7 #[.val (.ref a1), .val (.int (1 : Int32))] [(.int (10 : Int32)), (.int b0)]) := fun _ k => G3 _ (by
      show Steps p.tables e below (s₁.setTop (mkF m 5 #[.val (.ref a1), .val (.int (1 : Int32))] [(.int b0)])) _
      refine XS.bipush X0.here hx rfl (hb hby own_d2_5) ?_
      exact k)
  by_cases h1 : b0 = (10 : Int32)
  · have G5 : Goes p e below s₁ (entryFrame m #[(.ref a1), (.int (1 : Int32))] 2) s₁ (mkF m 28 #[.val (.ref a1), .val (.int (1 : Int32))] []) := fun _ k => G4 _ (by
        show Steps p.tables e below (s₁.setTop (mkF m 7 #[.val (.ref a1), .val (.int (1 : Int32))] [(.int (10 : Int32)), (.int b0)])) _
        refine XS.icmpYes X0.here hx rfl (pc0 := 7) (pc' := 28) rfl (hb hby own_d2_7) rfl (teq h1).1 (by decide) (by decide) ?_
        exact k)
    have G6 : Goes p e below s₁ (entryFrame m #[(.ref a1), (.int (1 : Int32))] 2) s₁ (mkF m 33 #[.val (.ref a1), .val (.int (1 : Int32))] [(.int (1 : Int32))]) := fun _ k => G5 _ (by
        show Steps p.tables e below (s₁.setTop (mkF m 28 #[.val (.ref a1), .val (.int (1 : Int32))] [])) _
        refine XS.iconst X0.here hx rfl (hb hby own_d2_28) ?_
        show Steps p.tables e below (s₁.setTop (mkF m 29 #[.val (.ref a1), .val (.int (1 : Int32))] [(.int (1 : Int32))])) _
        refine XS.goto X0.here hx rfl (pc0 := 29) (pc' := 33) rfl (hb hby own_d2_29) (by decide) (by decide) ?_
        exact k)
    obtain ⟨fs, hr, hrun, hended, hW, hsame⟩ := X0.leave (v := some (.int (1 : Int32))) (fun h => by rw [Bd.returns] at h; cases h)
    refine ⟨_, _, G6 _ (retN X0 hx (t := .boolean) Bd.returns (by simp) (hb hby own_d2_33) hr), hrun, hended, _, _, rfl, ?_, ⟨_, rfl⟩, hW, hsame.mono (by decide) (by decide)⟩
    show Q2_1 b0 b1 b2 h0 n0 _ s₁.heap _
    rw [e0]
    exact ⟨by simp [own_st, h1], N0, rfl⟩
  · have G7 : Goes p e below s₁ (entryFrame m #[(.ref a1), (.int (1 : Int32))] 2) s₁ (mkF m 10 #[.val (.ref a1), .val (.int (1 : Int32))] []) := fun _ k => G4 _ (by
        show Steps p.tables e below (s₁.setTop (mkF m 7 #[.val (.ref a1), .val (.int (1 : Int32))] [(.int (10 : Int32)), (.int b0)])) _
        refine XS.icmpNo X0.here hx rfl (hb hby own_d2_7) rfl (feq h1).1 ?_
        exact k)
    have G8 : Goes p e below s₁ (entryFrame m #[(.ref a1), (.int (1 : Int32))] 2) s₁ (mkF m 14 #[.val (.ref a1), .val (.int (1 : Int32))] [(.int (0 : Int32)), (.ref a1)]) := fun _ k => G7 _ (by
        show Steps p.tables e below (s₁.setTop (mkF m 10 #[.val (.ref a1), .val (.int (1 : Int32))] [])) _
        refine XS.aloadN X0.here hx rfl (hb hby own_d2_10) rfl rfl ?_
        show Steps p.tables e below (s₁.setTop (mkF m 11 #[.val (.ref a1), .val (.int (1 : Int32))] [(.ref a1)])) _
        refine XS.iloadN X0.here hx rfl (hb hby own_d2_11) rfl ?_
        show Steps p.tables e below (s₁.setTop (mkF m 12 #[.val (.ref a1), .val (.int (1 : Int32))] [(.int (1 : Int32)), (.ref a1)])) _
        refine XS.iconst X0.here hx rfl (hb hby own_d2_12) ?_
        show Steps p.tables e below (s₁.setTop (mkF m 13 #[.val (.ref a1), .val (.int (1 : Int32))] [(.int (1 : Int32)), (.int (1 : Int32)), (.ref a1)])) _
        refine XS.isub X0.here hx rfl (hb hby own_d2_13) rfl ?_
        exact k)
    have vc9 := V
    obtain ⟨cl9, Ar9, q9, S9, M9, H9, J9⟩ := vc9
    have hin9 : ¬ ((0 : Int32) < 0 ∨ cl9.slots.size ≤ ((0 : Int32)).toNatClampNeg) := inb_of S9 ⟨by decide, by decide⟩
    have hat9 : cl9.slots[((0 : Int32)).toNatClampNeg]? = some (.int b0) := Has.at H9 hin9 rfl
    have G10 : Goes p e below s₁ (entryFrame m #[(.ref a1), (.int (1 : Int32))] 2) s₁ (mkF m 15 #[.val (.ref a1), .val (.int (1 : Int32))] [(.int b0)]) := fun _ k => G8 _ (by
        show Steps p.tables e below (s₁.setTop (mkF m 14 #[.val (.ref a1), .val (.int (1 : Int32))] [(.int (0 : Int32)), (.ref a1)])) _
        refine X0.baloadBytes hx (j := (0 : Int32)) (v := (.int b0)) (by rw [e0]; exact Ar9.1) (State.isArrayOf_alike hZ.alike Ar9.2.1) Ar9.2.2 hin9 hat9 (g := (mkF m 14 #[.val (.ref a1), .val (.int (1 : Int32))] [(.int (0 : Int32)), (.ref a1)])) rfl rfl (hb hby own_d2_14) _ ?_
        exact k)
    have G11 : Goes p e below s₁ (entryFrame m #[(.ref a1), (.int (1 : Int32))] 2) s₁ (mkF m 17 #[.val (.ref a1), .val (.int (1 : Int32))] [(.int (13 : Int32)), (.int b0)]) := fun _ k => G10 _ (by
        show Steps p.tables e below (s₁.setTop (mkF m 15 #[.val (.ref a1), .val (.int (1 : Int32))] [(.int b0)])) _
        refine XS.bipush X0.here hx rfl (hb hby own_d2_15) ?_
        exact k)
    by_cases h2 : b0 = (13 : Int32)
    · have G12 : Goes p e below s₁ (entryFrame m #[(.ref a1), (.int (1 : Int32))] 2) s₁ (mkF m 20 #[.val (.ref a1), .val (.int (1 : Int32))] []) := fun _ k => G11 _ (by
          show Steps p.tables e below (s₁.setTop (mkF m 17 #[.val (.ref a1), .val (.int (1 : Int32))] [(.int (13 : Int32)), (.int b0)])) _
          refine XS.icmpNo X0.here hx rfl (hb hby own_d2_17) rfl (teq h2).2 ?_
          exact k)
      have G13 : Goes p e below s₁ (entryFrame m #[(.ref a1), (.int (1 : Int32))] 2) s₁ (mkF m 22 #[.val (.ref a1), .val (.int (1 : Int32))] [(.int (1 : Int32)), (.ref a1)]) := fun _ k => G12 _ (by
          show Steps p.tables e below (s₁.setTop (mkF m 20 #[.val (.ref a1), .val (.int (1 : Int32))] [])) _
          refine XS.aloadN X0.here hx rfl (hb hby own_d2_20) rfl rfl ?_
          show Steps p.tables e below (s₁.setTop (mkF m 21 #[.val (.ref a1), .val (.int (1 : Int32))] [(.ref a1)])) _
          refine XS.iloadN X0.here hx rfl (hb hby own_d2_21) rfl ?_
          exact k)
      have vc14 := V
      obtain ⟨cl14, Ar14, q14, S14, M14, H14, J14⟩ := vc14
      have hin14 : ¬ ((1 : Int32) < 0 ∨ cl14.slots.size ≤ ((1 : Int32)).toNatClampNeg) := inb_of S14 ⟨by decide, by decide⟩
      have hat14 : cl14.slots[((1 : Int32)).toNatClampNeg]? = some (.int b1) := Has.at H14 hin14 rfl
      have G15 : Goes p e below s₁ (entryFrame m #[(.ref a1), (.int (1 : Int32))] 2) s₁ (mkF m 23 #[.val (.ref a1), .val (.int (1 : Int32))] [(.int b1)]) := fun _ k => G13 _ (by
          show Steps p.tables e below (s₁.setTop (mkF m 22 #[.val (.ref a1), .val (.int (1 : Int32))] [(.int (1 : Int32)), (.ref a1)])) _
          refine X0.baloadBytes hx (j := (1 : Int32)) (v := (.int b1)) (by rw [e0]; exact Ar14.1) (State.isArrayOf_alike hZ.alike Ar14.2.1) Ar14.2.2 hin14 hat14 (g := (mkF m 22 #[.val (.ref a1), .val (.int (1 : Int32))] [(.int (1 : Int32)), (.ref a1)])) rfl rfl (hb hby own_d2_22) _ ?_
          exact k)
      have G16 : Goes p e below s₁ (entryFrame m #[(.ref a1), (.int (1 : Int32))] 2) s₁ (mkF m 25 #[.val (.ref a1), .val (.int (1 : Int32))] [(.int (10 : Int32)), (.int b1)]) := fun _ k => G15 _ (by
          show Steps p.tables e below (s₁.setTop (mkF m 23 #[.val (.ref a1), .val (.int (1 : Int32))] [(.int b1)])) _
          refine XS.bipush X0.here hx rfl (hb hby own_d2_23) ?_
          exact k)
      by_cases h3 : b1 = (10 : Int32)
      · have G17 : Goes p e below s₁ (entryFrame m #[(.ref a1), (.int (1 : Int32))] 2) s₁ (mkF m 32 #[.val (.ref a1), .val (.int (1 : Int32))] []) := fun _ k => G16 _ (by
            show Steps p.tables e below (s₁.setTop (mkF m 25 #[.val (.ref a1), .val (.int (1 : Int32))] [(.int (10 : Int32)), (.int b1)])) _
            refine XS.icmpYes X0.here hx rfl (pc0 := 25) (pc' := 32) rfl (hb hby own_d2_25) rfl (teq h3).1 (by decide) (by decide) ?_
            exact k)
        have G18 : Goes p e below s₁ (entryFrame m #[(.ref a1), (.int (1 : Int32))] 2) s₁ (mkF m 33 #[.val (.ref a1), .val (.int (1 : Int32))] [(.int (0 : Int32))]) := fun _ k => G17 _ (by
            show Steps p.tables e below (s₁.setTop (mkF m 32 #[.val (.ref a1), .val (.int (1 : Int32))] [])) _
            refine XS.iconst X0.here hx rfl (hb hby own_d2_32) ?_
            exact k)
        obtain ⟨fs, hr, hrun, hended, hW, hsame⟩ := X0.leave (v := some (.int (0 : Int32))) (fun h => by rw [Bd.returns] at h; cases h)
        refine ⟨_, _, G18 _ (retN X0 hx (t := .boolean) Bd.returns (by simp) (hb hby own_d2_33) hr), hrun, hended, _, _, rfl, ?_, ⟨_, rfl⟩, hW, hsame.mono (by decide) (by decide)⟩
        show Q2_1 b0 b1 b2 h0 n0 _ s₁.heap _
        rw [e0]
        exact ⟨by simp [own_st, h1, h2, h3], N0, rfl⟩
      · have G19 : Goes p e below s₁ (entryFrame m #[(.ref a1), (.int (1 : Int32))] 2) s₁ (mkF m 28 #[.val (.ref a1), .val (.int (1 : Int32))] []) := fun _ k => G16 _ (by
            show Steps p.tables e below (s₁.setTop (mkF m 25 #[.val (.ref a1), .val (.int (1 : Int32))] [(.int (10 : Int32)), (.int b1)])) _
            refine XS.icmpNo X0.here hx rfl (hb hby own_d2_25) rfl (feq h3).1 ?_
            exact k)
        have G20 : Goes p e below s₁ (entryFrame m #[(.ref a1), (.int (1 : Int32))] 2) s₁ (mkF m 33 #[.val (.ref a1), .val (.int (1 : Int32))] [(.int (1 : Int32))]) := fun _ k => G19 _ (by
            show Steps p.tables e below (s₁.setTop (mkF m 28 #[.val (.ref a1), .val (.int (1 : Int32))] [])) _
            refine XS.iconst X0.here hx rfl (hb hby own_d2_28) ?_
            show Steps p.tables e below (s₁.setTop (mkF m 29 #[.val (.ref a1), .val (.int (1 : Int32))] [(.int (1 : Int32))])) _
            refine XS.goto X0.here hx rfl (pc0 := 29) (pc' := 33) rfl (hb hby own_d2_29) (by decide) (by decide) ?_
            exact k)
        obtain ⟨fs, hr, hrun, hended, hW, hsame⟩ := X0.leave (v := some (.int (1 : Int32))) (fun h => by rw [Bd.returns] at h; cases h)
        refine ⟨_, _, G20 _ (retN X0 hx (t := .boolean) Bd.returns (by simp) (hb hby own_d2_33) hr), hrun, hended, _, _, rfl, ?_, ⟨_, rfl⟩, hW, hsame.mono (by decide) (by decide)⟩
        show Q2_1 b0 b1 b2 h0 n0 _ s₁.heap _
        rw [e0]
        exact ⟨by simp [own_st, h1, h2, h3], N0, rfl⟩
    · have G21 : Goes p e below s₁ (entryFrame m #[(.ref a1), (.int (1 : Int32))] 2) s₁ (mkF m 32 #[.val (.ref a1), .val (.int (1 : Int32))] []) := fun _ k => G11 _ (by
          show Steps p.tables e below (s₁.setTop (mkF m 17 #[.val (.ref a1), .val (.int (1 : Int32))] [(.int (13 : Int32)), (.int b0)])) _
          refine XS.icmpYes X0.here hx rfl (pc0 := 17) (pc' := 32) rfl (hb hby own_d2_17) rfl (feq h2).2 (by decide) (by decide) ?_
          exact k)
      have G22 : Goes p e below s₁ (entryFrame m #[(.ref a1), (.int (1 : Int32))] 2) s₁ (mkF m 33 #[.val (.ref a1), .val (.int (1 : Int32))] [(.int (0 : Int32))]) := fun _ k => G21 _ (by
          show Steps p.tables e below (s₁.setTop (mkF m 32 #[.val (.ref a1), .val (.int (1 : Int32))] [])) _
          refine XS.iconst X0.here hx rfl (hb hby own_d2_32) ?_
          exact k)
      obtain ⟨fs, hr, hrun, hended, hW, hsame⟩ := X0.leave (v := some (.int (0 : Int32))) (fun h => by rw [Bd.returns] at h; cases h)
      refine ⟨_, _, G22 _ (retN X0 hx (t := .boolean) Bd.returns (by simp) (hb hby own_d2_33) hr), hrun, hended, _, _, rfl, ?_, ⟨_, rfl⟩, hW, hsame.mono (by decide) (by decide)⟩
      show Q2_1 b0 b1 b2 h0 n0 _ s₁.heap _
      rw [e0]
      exact ⟨by simp [own_st, h1, h2], N0, rfl⟩
set_option maxRecDepth 65536 in
set_option maxHeartbeats 40000000 in
theorem rm2_2 (l : Launch) (Z : State) (a0 : Array Value) (hw : ∀ d ∈ tables_1, d.before a0 Z = true) (ws : List Jvm.Cond) (a1 : Addr) (k1 : ClassId) (b0 b1 b2 : Int32) (h0 : Heap) (n0 : Nat) (Z0 : n0 ≤ h0.size) (V : Arv Z h0 a1 k1 .byte (3 : Int32) [(.int b0), (.int b1), (.int b2)] (.int (0 : Int32))) :
    MetFree l (⟨"com/example/covary/covary/CsvLines", "startsLine", "([BI)Z"⟩ : MethodName) (head1 (Jvm.Cond.code (⟨"com/example/covary/covary/CsvLines", "startsLine", "([BI)Z"⟩ : MethodName) prog_38_method_7_code 2 (some .boolean) :: ws) ({ frames := 0, cells := 0, slots := 0, locals := 0 } : Room)) (fun a U => a = #[(.ref a1), (.int (2 : Int32))] ∧ Z.Warmed39 U.vm ∧ U.heap = h0) (fun _ _ _ _ _ => True) (fun _ U oc U' => ∃ v L, oc = .returned v ∧ Q2_2 b0 b1 b2 h0 n0 v U'.heap L ∧ FrameEnd U oc U' L ({ frames := 0, cells := 0, slots := 0, locals := 0 } : Room).cells ({ frames := 0, cells := 0, slots := 0, locals := 0 } : Room).slots) := by
  refine MetFree.of_bodySF (plainFor_of_name own_pn1) hisR ?_
  intro p e s m args below meth c s₁ Bd hml0 hP hK
  obtain ⟨rfl, hZ, hh⟩ := hP
  have hx := Bd.exec
  have hby := Bd.bytes
  have hml : c.maxLocals = 2 := hml0
  have hown : s.vm.findClass "com/example/covary/covary/CsvLines" = some m.cls := findClass_of_methodNamed Bd.named
  have hnm := (name_of_methodNamed Bd.named Bd.method).1
  have X0 : Stand p l e ({ frames := 0, cells := 0, slots := 0, locals := 0 } : Room) s m #[(.ref a1), (.int (2 : Int32))] below meth c s₁ [] 0 0 := Stand.of_body Bd
  have e0 : s₁.heap = h0 := by rw [← hh, Bd.state]; rfl
  have N0 := Fr.nil n0
  have G0 : Goes p e below s₁ (entryFrame m #[(.ref a1), (.int (2 : Int32))] 2) s₁ (mkF m 0 #[.val (.ref a1), .val (.int (2 : Int32))] []) := fun _ k => castTop (by first | (simp [entryFrame, mkF, argsToLocals, Value.category]; done) | rfl : (entryFrame m #[(.ref a1), (.int (2 : Int32))] 2) = mkF m 0 #[.val (.ref a1), .val (.int (2 : Int32))] []) k
  have G1 : Goes p e below s₁ (entryFrame m #[(.ref a1), (.int (2 : Int32))] 2) s₁ (mkF m 4 #[.val (.ref a1), .val (.int (2 : Int32))] [(.int (1 : Int32)), (.ref a1)]) := fun _ k => G0 _ (by
      show Steps p.tables e below (s₁.setTop (mkF m 0 #[.val (.ref a1), .val (.int (2 : Int32))] [])) _
      refine XS.aloadN X0.here hx rfl (hb hby own_d2_0) rfl rfl ?_
      show Steps p.tables e below (s₁.setTop (mkF m 1 #[.val (.ref a1), .val (.int (2 : Int32))] [(.ref a1)])) _
      refine XS.iloadN X0.here hx rfl (hb hby own_d2_1) rfl ?_
      show Steps p.tables e below (s₁.setTop (mkF m 2 #[.val (.ref a1), .val (.int (2 : Int32))] [(.int (2 : Int32)), (.ref a1)])) _
      refine XS.iconst X0.here hx rfl (hb hby own_d2_2) ?_
      show Steps p.tables e below (s₁.setTop (mkF m 3 #[.val (.ref a1), .val (.int (2 : Int32))] [(.int (1 : Int32)), (.int (2 : Int32)), (.ref a1)])) _
      refine XS.isub X0.here hx rfl (hb hby own_d2_3) rfl ?_
      exact k)
  have vc2 := V
  obtain ⟨cl2, Ar2, q2, S2, M2, H2, J2⟩ := vc2
  have hin2 : ¬ ((1 : Int32) < 0 ∨ cl2.slots.size ≤ ((1 : Int32)).toNatClampNeg) := inb_of S2 ⟨by decide, by decide⟩
  have hat2 : cl2.slots[((1 : Int32)).toNatClampNeg]? = some (.int b1) := Has.at H2 hin2 rfl
  have G3 : Goes p e below s₁ (entryFrame m #[(.ref a1), (.int (2 : Int32))] 2) s₁ (mkF m 5 #[.val (.ref a1), .val (.int (2 : Int32))] [(.int b1)]) := fun _ k => G1 _ (by
      show Steps p.tables e below (s₁.setTop (mkF m 4 #[.val (.ref a1), .val (.int (2 : Int32))] [(.int (1 : Int32)), (.ref a1)])) _
      refine X0.baloadBytes hx (j := (1 : Int32)) (v := (.int b1)) (by rw [e0]; exact Ar2.1) (State.isArrayOf_alike hZ.alike Ar2.2.1) Ar2.2.2 hin2 hat2 (g := (mkF m 4 #[.val (.ref a1), .val (.int (2 : Int32))] [(.int (1 : Int32)), (.ref a1)])) rfl rfl (hb hby own_d2_4) _ ?_
      exact k)
  have G4 : Goes p e below s₁ (entryFrame m #[(.ref a1), (.int (2 : Int32))] 2) s₁ (mkF m 7 #[.val (.ref a1), .val (.int (2 : Int32))] [(.int (10 : Int32)), (.int b1)]) := fun _ k => G3 _ (by
      show Steps p.tables e below (s₁.setTop (mkF m 5 #[.val (.ref a1), .val (.int (2 : Int32))] [(.int b1)])) _
      refine XS.bipush X0.here hx rfl (hb hby own_d2_5) ?_
      exact k)
  by_cases h1 : b1 = (10 : Int32)
  · have G5 : Goes p e below s₁ (entryFrame m #[(.ref a1), (.int (2 : Int32))] 2) s₁ (mkF m 28 #[.val (.ref a1), .val (.int (2 : Int32))] []) := fun _ k => G4 _ (by
        show Steps p.tables e below (s₁.setTop (mkF m 7 #[.val (.ref a1), .val (.int (2 : Int32))] [(.int (10 : Int32)), (.int b1)])) _
        refine XS.icmpYes X0.here hx rfl (pc0 := 7) (pc' := 28) rfl (hb hby own_d2_7) rfl (teq h1).1 (by decide) (by decide) ?_
        exact k)
    have G6 : Goes p e below s₁ (entryFrame m #[(.ref a1), (.int (2 : Int32))] 2) s₁ (mkF m 33 #[.val (.ref a1), .val (.int (2 : Int32))] [(.int (1 : Int32))]) := fun _ k => G5 _ (by
        show Steps p.tables e below (s₁.setTop (mkF m 28 #[.val (.ref a1), .val (.int (2 : Int32))] [])) _
        refine XS.iconst X0.here hx rfl (hb hby own_d2_28) ?_
        show Steps p.tables e below (s₁.setTop (mkF m 29 #[.val (.ref a1), .val (.int (2 : Int32))] [(.int (1 : Int32))])) _
        refine XS.goto X0.here hx rfl (pc0 := 29) (pc' := 33) rfl (hb hby own_d2_29) (by decide) (by decide) ?_
        exact k)
    obtain ⟨fs, hr, hrun, hended, hW, hsame⟩ := X0.leave (v := some (.int (1 : Int32))) (fun h => by rw [Bd.returns] at h; cases h)
    refine ⟨_, _, G6 _ (retN X0 hx (t := .boolean) Bd.returns (by simp) (hb hby own_d2_33) hr), hrun, hended, _, _, rfl, ?_, ⟨_, rfl⟩, hW, hsame.mono (by decide) (by decide)⟩
    show Q2_2 b0 b1 b2 h0 n0 _ s₁.heap _
    rw [e0]
    exact ⟨by simp [own_st, h1], N0, rfl⟩
  · have G7 : Goes p e below s₁ (entryFrame m #[(.ref a1), (.int (2 : Int32))] 2) s₁ (mkF m 10 #[.val (.ref a1), .val (.int (2 : Int32))] []) := fun _ k => G4 _ (by
        show Steps p.tables e below (s₁.setTop (mkF m 7 #[.val (.ref a1), .val (.int (2 : Int32))] [(.int (10 : Int32)), (.int b1)])) _
        refine XS.icmpNo X0.here hx rfl (hb hby own_d2_7) rfl (feq h1).1 ?_
        exact k)
    have G8 : Goes p e below s₁ (entryFrame m #[(.ref a1), (.int (2 : Int32))] 2) s₁ (mkF m 14 #[.val (.ref a1), .val (.int (2 : Int32))] [(.int (1 : Int32)), (.ref a1)]) := fun _ k => G7 _ (by
        show Steps p.tables e below (s₁.setTop (mkF m 10 #[.val (.ref a1), .val (.int (2 : Int32))] [])) _
        refine XS.aloadN X0.here hx rfl (hb hby own_d2_10) rfl rfl ?_
        show Steps p.tables e below (s₁.setTop (mkF m 11 #[.val (.ref a1), .val (.int (2 : Int32))] [(.ref a1)])) _
        refine XS.iloadN X0.here hx rfl (hb hby own_d2_11) rfl ?_
        show Steps p.tables e below (s₁.setTop (mkF m 12 #[.val (.ref a1), .val (.int (2 : Int32))] [(.int (2 : Int32)), (.ref a1)])) _
        refine XS.iconst X0.here hx rfl (hb hby own_d2_12) ?_
        show Steps p.tables e below (s₁.setTop (mkF m 13 #[.val (.ref a1), .val (.int (2 : Int32))] [(.int (1 : Int32)), (.int (2 : Int32)), (.ref a1)])) _
        refine XS.isub X0.here hx rfl (hb hby own_d2_13) rfl ?_
        exact k)
    have vc9 := V
    obtain ⟨cl9, Ar9, q9, S9, M9, H9, J9⟩ := vc9
    have hin9 : ¬ ((1 : Int32) < 0 ∨ cl9.slots.size ≤ ((1 : Int32)).toNatClampNeg) := inb_of S9 ⟨by decide, by decide⟩
    have hat9 : cl9.slots[((1 : Int32)).toNatClampNeg]? = some (.int b1) := Has.at H9 hin9 rfl
    have G10 : Goes p e below s₁ (entryFrame m #[(.ref a1), (.int (2 : Int32))] 2) s₁ (mkF m 15 #[.val (.ref a1), .val (.int (2 : Int32))] [(.int b1)]) := fun _ k => G8 _ (by
        show Steps p.tables e below (s₁.setTop (mkF m 14 #[.val (.ref a1), .val (.int (2 : Int32))] [(.int (1 : Int32)), (.ref a1)])) _
        refine X0.baloadBytes hx (j := (1 : Int32)) (v := (.int b1)) (by rw [e0]; exact Ar9.1) (State.isArrayOf_alike hZ.alike Ar9.2.1) Ar9.2.2 hin9 hat9 (g := (mkF m 14 #[.val (.ref a1), .val (.int (2 : Int32))] [(.int (1 : Int32)), (.ref a1)])) rfl rfl (hb hby own_d2_14) _ ?_
        exact k)
    have G11 : Goes p e below s₁ (entryFrame m #[(.ref a1), (.int (2 : Int32))] 2) s₁ (mkF m 17 #[.val (.ref a1), .val (.int (2 : Int32))] [(.int (13 : Int32)), (.int b1)]) := fun _ k => G10 _ (by
        show Steps p.tables e below (s₁.setTop (mkF m 15 #[.val (.ref a1), .val (.int (2 : Int32))] [(.int b1)])) _
        refine XS.bipush X0.here hx rfl (hb hby own_d2_15) ?_
        exact k)
    by_cases h2 : b1 = (13 : Int32)
    · have G12 : Goes p e below s₁ (entryFrame m #[(.ref a1), (.int (2 : Int32))] 2) s₁ (mkF m 20 #[.val (.ref a1), .val (.int (2 : Int32))] []) := fun _ k => G11 _ (by
          show Steps p.tables e below (s₁.setTop (mkF m 17 #[.val (.ref a1), .val (.int (2 : Int32))] [(.int (13 : Int32)), (.int b1)])) _
          refine XS.icmpNo X0.here hx rfl (hb hby own_d2_17) rfl (teq h2).2 ?_
          exact k)
      have G13 : Goes p e below s₁ (entryFrame m #[(.ref a1), (.int (2 : Int32))] 2) s₁ (mkF m 22 #[.val (.ref a1), .val (.int (2 : Int32))] [(.int (2 : Int32)), (.ref a1)]) := fun _ k => G12 _ (by
          show Steps p.tables e below (s₁.setTop (mkF m 20 #[.val (.ref a1), .val (.int (2 : Int32))] [])) _
          refine XS.aloadN X0.here hx rfl (hb hby own_d2_20) rfl rfl ?_
          show Steps p.tables e below (s₁.setTop (mkF m 21 #[.val (.ref a1), .val (.int (2 : Int32))] [(.ref a1)])) _
          refine XS.iloadN X0.here hx rfl (hb hby own_d2_21) rfl ?_
          exact k)
      have vc14 := V
      obtain ⟨cl14, Ar14, q14, S14, M14, H14, J14⟩ := vc14
      have hin14 : ¬ ((2 : Int32) < 0 ∨ cl14.slots.size ≤ ((2 : Int32)).toNatClampNeg) := inb_of S14 ⟨by decide, by decide⟩
      have hat14 : cl14.slots[((2 : Int32)).toNatClampNeg]? = some (.int b2) := Has.at H14 hin14 rfl
      have G15 : Goes p e below s₁ (entryFrame m #[(.ref a1), (.int (2 : Int32))] 2) s₁ (mkF m 23 #[.val (.ref a1), .val (.int (2 : Int32))] [(.int b2)]) := fun _ k => G13 _ (by
          show Steps p.tables e below (s₁.setTop (mkF m 22 #[.val (.ref a1), .val (.int (2 : Int32))] [(.int (2 : Int32)), (.ref a1)])) _
          refine X0.baloadBytes hx (j := (2 : Int32)) (v := (.int b2)) (by rw [e0]; exact Ar14.1) (State.isArrayOf_alike hZ.alike Ar14.2.1) Ar14.2.2 hin14 hat14 (g := (mkF m 22 #[.val (.ref a1), .val (.int (2 : Int32))] [(.int (2 : Int32)), (.ref a1)])) rfl rfl (hb hby own_d2_22) _ ?_
          exact k)
      have G16 : Goes p e below s₁ (entryFrame m #[(.ref a1), (.int (2 : Int32))] 2) s₁ (mkF m 25 #[.val (.ref a1), .val (.int (2 : Int32))] [(.int (10 : Int32)), (.int b2)]) := fun _ k => G15 _ (by
          show Steps p.tables e below (s₁.setTop (mkF m 23 #[.val (.ref a1), .val (.int (2 : Int32))] [(.int b2)])) _
          refine XS.bipush X0.here hx rfl (hb hby own_d2_23) ?_
          exact k)
      by_cases h3 : b2 = (10 : Int32)
      · have G17 : Goes p e below s₁ (entryFrame m #[(.ref a1), (.int (2 : Int32))] 2) s₁ (mkF m 32 #[.val (.ref a1), .val (.int (2 : Int32))] []) := fun _ k => G16 _ (by
            show Steps p.tables e below (s₁.setTop (mkF m 25 #[.val (.ref a1), .val (.int (2 : Int32))] [(.int (10 : Int32)), (.int b2)])) _
            refine XS.icmpYes X0.here hx rfl (pc0 := 25) (pc' := 32) rfl (hb hby own_d2_25) rfl (teq h3).1 (by decide) (by decide) ?_
            exact k)
        have G18 : Goes p e below s₁ (entryFrame m #[(.ref a1), (.int (2 : Int32))] 2) s₁ (mkF m 33 #[.val (.ref a1), .val (.int (2 : Int32))] [(.int (0 : Int32))]) := fun _ k => G17 _ (by
            show Steps p.tables e below (s₁.setTop (mkF m 32 #[.val (.ref a1), .val (.int (2 : Int32))] [])) _
            refine XS.iconst X0.here hx rfl (hb hby own_d2_32) ?_
            exact k)
        obtain ⟨fs, hr, hrun, hended, hW, hsame⟩ := X0.leave (v := some (.int (0 : Int32))) (fun h => by rw [Bd.returns] at h; cases h)
        refine ⟨_, _, G18 _ (retN X0 hx (t := .boolean) Bd.returns (by simp) (hb hby own_d2_33) hr), hrun, hended, _, _, rfl, ?_, ⟨_, rfl⟩, hW, hsame.mono (by decide) (by decide)⟩
        show Q2_2 b0 b1 b2 h0 n0 _ s₁.heap _
        rw [e0]
        exact ⟨by simp [own_st, h1, h2, h3], N0, rfl⟩
      · have G19 : Goes p e below s₁ (entryFrame m #[(.ref a1), (.int (2 : Int32))] 2) s₁ (mkF m 28 #[.val (.ref a1), .val (.int (2 : Int32))] []) := fun _ k => G16 _ (by
            show Steps p.tables e below (s₁.setTop (mkF m 25 #[.val (.ref a1), .val (.int (2 : Int32))] [(.int (10 : Int32)), (.int b2)])) _
            refine XS.icmpNo X0.here hx rfl (hb hby own_d2_25) rfl (feq h3).1 ?_
            exact k)
        have G20 : Goes p e below s₁ (entryFrame m #[(.ref a1), (.int (2 : Int32))] 2) s₁ (mkF m 33 #[.val (.ref a1), .val (.int (2 : Int32))] [(.int (1 : Int32))]) := fun _ k => G19 _ (by
            show Steps p.tables e below (s₁.setTop (mkF m 28 #[.val (.ref a1), .val (.int (2 : Int32))] [])) _
            refine XS.iconst X0.here hx rfl (hb hby own_d2_28) ?_
            show Steps p.tables e below (s₁.setTop (mkF m 29 #[.val (.ref a1), .val (.int (2 : Int32))] [(.int (1 : Int32))])) _
            refine XS.goto X0.here hx rfl (pc0 := 29) (pc' := 33) rfl (hb hby own_d2_29) (by decide) (by decide) ?_
            exact k)
        obtain ⟨fs, hr, hrun, hended, hW, hsame⟩ := X0.leave (v := some (.int (1 : Int32))) (fun h => by rw [Bd.returns] at h; cases h)
        refine ⟨_, _, G20 _ (retN X0 hx (t := .boolean) Bd.returns (by simp) (hb hby own_d2_33) hr), hrun, hended, _, _, rfl, ?_, ⟨_, rfl⟩, hW, hsame.mono (by decide) (by decide)⟩
        show Q2_2 b0 b1 b2 h0 n0 _ s₁.heap _
        rw [e0]
        exact ⟨by simp [own_st, h1, h2, h3], N0, rfl⟩
    · have G21 : Goes p e below s₁ (entryFrame m #[(.ref a1), (.int (2 : Int32))] 2) s₁ (mkF m 32 #[.val (.ref a1), .val (.int (2 : Int32))] []) := fun _ k => G11 _ (by
          show Steps p.tables e below (s₁.setTop (mkF m 17 #[.val (.ref a1), .val (.int (2 : Int32))] [(.int (13 : Int32)), (.int b1)])) _
          refine XS.icmpYes X0.here hx rfl (pc0 := 17) (pc' := 32) rfl (hb hby own_d2_17) rfl (feq h2).2 (by decide) (by decide) ?_
          exact k)
      have G22 : Goes p e below s₁ (entryFrame m #[(.ref a1), (.int (2 : Int32))] 2) s₁ (mkF m 33 #[.val (.ref a1), .val (.int (2 : Int32))] [(.int (0 : Int32))]) := fun _ k => G21 _ (by
          show Steps p.tables e below (s₁.setTop (mkF m 32 #[.val (.ref a1), .val (.int (2 : Int32))] [])) _
          refine XS.iconst X0.here hx rfl (hb hby own_d2_32) ?_
          exact k)
      obtain ⟨fs, hr, hrun, hended, hW, hsame⟩ := X0.leave (v := some (.int (0 : Int32))) (fun h => by rw [Bd.returns] at h; cases h)
      refine ⟨_, _, G22 _ (retN X0 hx (t := .boolean) Bd.returns (by simp) (hb hby own_d2_33) hr), hrun, hended, _, _, rfl, ?_, ⟨_, rfl⟩, hW, hsame.mono (by decide) (by decide)⟩
      show Q2_2 b0 b1 b2 h0 n0 _ s₁.heap _
      rw [e0]
      exact ⟨by simp [own_st, h1, h2], N0, rfl⟩
theorem own_d3_0 : decode prog_38_method_6_code 0 = .ok (.iload_n 1, 1) := by decide +kernel
theorem own_d3_1 : decode prog_38_method_6_code 1 = .ok (.istore_n 3, 1) := by decide +kernel
theorem own_d3_2 : decode prog_38_method_6_code 2 = .ok (.iload_n 3, 1) := by decide +kernel
theorem own_d3_3 : decode prog_38_method_6_code 3 = .ok (.iload_n 2, 1) := by decide +kernel
theorem own_d3_4 : decode prog_38_method_6_code 4 = .ok (.if_icmp .ge 25, 3) := by decide +kernel
theorem own_d3_7 : decode prog_38_method_6_code 7 = .ok (.aload_n 0, 1) := by decide +kernel
theorem own_d3_8 : decode prog_38_method_6_code 8 = .ok (.iload_n 3, 1) := by decide +kernel
theorem own_d3_9 : decode prog_38_method_6_code 9 = .ok (.baload, 1) := by decide +kernel
theorem own_d3_10 : decode prog_38_method_6_code 10 = .ok (.invokestatic 90, 3) := by decide +kernel
theorem own_d3_13 : decode prog_38_method_6_code 13 = .ok (.ifCond .eq 10, 3) := by decide +kernel
theorem own_d3_16 : decode prog_38_method_6_code 16 = .ok (.aload_n 0, 1) := by decide +kernel
theorem own_d3_17 : decode prog_38_method_6_code 17 = .ok (.iload_n 3, 1) := by decide +kernel
theorem own_d3_18 : decode prog_38_method_6_code 18 = .ok (.iload_n 2, 1) := by decide +kernel
theorem own_d3_19 : decode prog_38_method_6_code 19 = .ok (.invokestatic 94, 3) := by decide +kernel
theorem own_d3_22 : decode prog_38_method_6_code 22 = .ok (.ireturn, 1) := by decide +kernel
theorem own_d3_23 : decode prog_38_method_6_code 23 = .ok (.iinc 3 1, 3) := by decide +kernel
theorem own_d3_26 : decode prog_38_method_6_code 26 = .ok (.goto (-24), 3) := by decide +kernel
theorem own_d3_29 : decode prog_38_method_6_code 29 = .ok (.iload_n 2, 1) := by decide +kernel
theorem own_d3_30 : decode prog_38_method_6_code 30 = .ok (.ireturn, 1) := by decide +kernel
set_option maxRecDepth 65536 in
set_option maxHeartbeats 40000000 in
theorem rm3_0 (l : Launch) (Z : State) (a0 : Array Value) (hw : ∀ d ∈ tables_1, d.before a0 Z = true) (ws : List Jvm.Cond) (a1 : Addr) (k1 : ClassId) (b0 b1 b2 : Int32) (h0 : Heap) (n0 : Nat) (Z0 : n0 ≤ h0.size) (V : Arv Z h0 a1 k1 .byte (3 : Int32) [(.int b0), (.int b1), (.int b2)] (.int (0 : Int32))) :
    MetFree l (⟨"com/example/covary/covary/CsvLines", "nextLine", "([BII)I"⟩ : MethodName) (head1 (Jvm.Cond.code (⟨"com/example/covary/covary/CsvLines", "nextLine", "([BII)I"⟩ : MethodName) prog_38_method_6_code 4 (some .int) :: ws) ({ frames := 1, cells := 0, slots := 0, locals := 14 } : Room)) (fun a U => a = #[(.ref a1), (.int (0 : Int32)), (.int (3 : Int32))] ∧ Z.Warmed39 U.vm ∧ U.heap = h0) (fun _ _ _ _ _ => True) (fun _ U oc U' => ∃ v L, oc = .returned v ∧ Q3_0 b0 b1 b2 h0 n0 v U'.heap L ∧ FrameEnd U oc U' L ({ frames := 1, cells := 0, slots := 0, locals := 14 } : Room).cells ({ frames := 1, cells := 0, slots := 0, locals := 14 } : Room).slots) := by
  refine MetFree.of_bodySF (plainFor_of_name own_pn1) hisR ?_
  intro p e s m args below meth c s₁ Bd hml0 hP hK
  obtain ⟨rfl, hZ, hh⟩ := hP
  have hx := Bd.exec
  have hby := Bd.bytes
  have hml : c.maxLocals = 4 := hml0
  have hown : s.vm.findClass "com/example/covary/covary/CsvLines" = some m.cls := findClass_of_methodNamed Bd.named
  have hnm := (name_of_methodNamed Bd.named Bd.method).1
  have X0 : Stand p l e ({ frames := 1, cells := 0, slots := 0, locals := 14 } : Room) s m #[(.ref a1), (.int (0 : Int32)), (.int (3 : Int32))] below meth c s₁ [] 0 0 := Stand.of_body Bd
  have e0 : s₁.heap = h0 := by rw [← hh, Bd.state]; rfl
  have N0 := Fr.nil n0
  have G0 : Goes p e below s₁ (entryFrame m #[(.ref a1), (.int (0 : Int32)), (.int (3 : Int32))] 4) s₁ (mkF m 0 #[.val (.ref a1), .val (.int (0 : Int32)), .val (.int (3 : Int32)), .unset] []) := fun _ k => castTop (by first | (simp [entryFrame, mkF, argsToLocals, Value.category]; done) | rfl : (entryFrame m #[(.ref a1), (.int (0 : Int32)), (.int (3 : Int32))] 4) = mkF m 0 #[.val (.ref a1), .val (.int (0 : Int32)), .val (.int (3 : Int32)), .unset] []) k
  have G1 : Goes p e below s₁ (entryFrame m #[(.ref a1), (.int (0 : Int32)), (.int (3 : Int32))] 4) s₁ (mkF m 2 #[.val (.ref a1), .val (.int (0 : Int32)), .val (.int (3 : Int32)), .val (.int (0 : Int32))] []) := fun _ k => G0 _ (by
      show Steps p.tables e below (s₁.setTop (mkF m 0 #[.val (.ref a1), .val (.int (0 : Int32)), .val (.int (3 : Int32)), .unset] [])) _
      refine XS.iloadN X0.here hx rfl (hb hby own_d3_0) rfl ?_
      show Steps p.tables e below (s₁.setTop (mkF m 1 #[.val (.ref a1), .val (.int (0 : Int32)), .val (.int (3 : Int32)), .unset] [(.int (0 : Int32))])) _
      refine XS.istoreN X0.here hx rfl (hb hby own_d3_1) rfl (l' := #[.val (.ref a1), .val (.int (0 : Int32)), .val (.int (3 : Int32)), .val (.int (0 : Int32))]) rfl ?_
      exact k)
  have G2 : Goes p e below s₁ (entryFrame m #[(.ref a1), (.int (0 : Int32)), (.int (3 : Int32))] 4) s₁ (mkF m 4 #[.val (.ref a1), .val (.int (0 : Int32)), .val (.int (3 : Int32)), .val (.int (0 : Int32))] [(.int (3 : Int32)), (.int (0 : Int32))]) := fun _ k => G1 _ (by
      show Steps p.tables e below (s₁.setTop (mkF m 2 #[.val (.ref a1), .val (.int (0 : Int32)), .val (.int (3 : Int32)), .val (.int (0 : Int32))] [])) _
      refine XS.iloadN X0.here hx rfl (hb hby own_d3_2) rfl ?_
      show Steps p.tables e below (s₁.setTop (mkF m 3 #[.val (.ref a1), .val (.int (0 : Int32)), .val (.int (3 : Int32)), .val (.int (0 : Int32))] [(.int (0 : Int32))])) _
      refine XS.iloadN X0.here hx rfl (hb hby own_d3_3) rfl ?_
      exact k)
  have G3 : Goes p e below s₁ (entryFrame m #[(.ref a1), (.int (0 : Int32)), (.int (3 : Int32))] 4) s₁ (mkF m 7 #[.val (.ref a1), .val (.int (0 : Int32)), .val (.int (3 : Int32)), .val (.int (0 : Int32))] []) := fun _ k => G2 _ (by
      show Steps p.tables e below (s₁.setTop (mkF m 4 #[.val (.ref a1), .val (.int (0 : Int32)), .val (.int (3 : Int32)), .val (.int (0 : Int32))] [(.int (3 : Int32)), (.int (0 : Int32))])) _
      refine XS.icmpNo X0.here hx rfl (hb hby own_d3_4) rfl (tlt (by decide : (0 : Int32) < (3 : Int32))).2.1 ?_
      exact k)
  have G4 : Goes p e below s₁ (entryFrame m #[(.ref a1), (.int (0 : Int32)), (.int (3 : Int32))] 4) s₁ (mkF m 9 #[.val (.ref a1), .val (.int (0 : Int32)), .val (.int (3 : Int32)), .val (.int (0 : Int32))] [(.int (0 : Int32)), (.ref a1)]) := fun _ k => G3 _ (by
      show Steps p.tables e below (s₁.setTop (mkF m 7 #[.val (.ref a1), .val (.int (0 : Int32)), .val (.int (3 : Int32)), .val (.int (0 : Int32))] [])) _
      refine XS.aloadN X0.here hx rfl (hb hby own_d3_7) rfl rfl ?_
      show Steps p.tables e below (s₁.setTop (mkF m 8 #[.val (.ref a1), .val (.int (0 : Int32)), .val (.int (3 : Int32)), .val (.int (0 : Int32))] [(.ref a1)])) _
      refine XS.iloadN X0.here hx rfl (hb hby own_d3_8) rfl ?_
      exact k)
  have vc5 := V
  obtain ⟨cl5, Ar5, q5, S5, M5, H5, J5⟩ := vc5
  have hin5 : ¬ ((0 : Int32) < 0 ∨ cl5.slots.size ≤ ((0 : Int32)).toNatClampNeg) := inb_of S5 ⟨by decide, by decide⟩
  have hat5 : cl5.slots[((0 : Int32)).toNatClampNeg]? = some (.int b0) := Has.at H5 hin5 rfl
  have G6 : Goes p e below s₁ (entryFrame m #[(.ref a1), (.int (0 : Int32)), (.int (3 : Int32))] 4) s₁ (mkF m 10 #[.val (.ref a1), .val (.int (0 : Int32)), .val (.int (3 : Int32)), .val (.int (0 : Int32))] [(.int b0)]) := fun _ k => G4 _ (by
      show Steps p.tables e below (s₁.setTop (mkF m 9 #[.val (.ref a1), .val (.int (0 : Int32)), .val (.int (3 : Int32)), .val (.int (0 : Int32))] [(.int (0 : Int32)), (.ref a1)])) _
      refine X0.baloadBytes hx (j := (0 : Int32)) (v := (.int b0)) (by rw [e0]; exact Ar5.1) (State.isArrayOf_alike hZ.alike Ar5.2.1) Ar5.2.2 hin5 hat5 (g := (mkF m 9 #[.val (.ref a1), .val (.int (0 : Int32)), .val (.int (3 : Int32)), .val (.int (0 : Int32))] [(.int (0 : Int32)), (.ref a1)])) rfl rfl (hb hby own_d3_9) _ ?_
      exact k)
  obtain ⟨_, _, ⟨T7, L7, k7, n7⟩, -, X7, ⟨Lc7, hQ7, l7, y7, z7⟩, st7⟩ := Jvm.LawKit.callS X0 hx (y := (⟨"com/example/covary/covary/CsvLines", "isLineEnd", "(B)Z"⟩ : MethodName)) hown (mvT hZ (hw _ (List.mem_of_getElem? (i := 12) rfl))) (mvT hZ (hw _ (List.mem_of_getElem? (i := 13) rfl))) (mvT hZ (hw _ (List.mem_of_getElem? (i := 7) rfl))) (mvT hZ (hw _ (List.mem_of_getElem? (i := 14) rfl))) (by decide) (backOf (W := 0) (rm4 l Z a0 hw [] b0 h0 n0 Z0) hZ (hw _ (List.mem_of_getElem? (i := 14) rfl)) (hw _ (List.mem_of_getElem? (i := 7) rfl)) (by decide) (by decide)) (g := (mkF m 10 #[.val (.ref a1), .val (.int (0 : Int32)), .val (.int (3 : Int32)), .val (.int (0 : Int32))] [(.int b0)])) rfl (by rw [hml]; rfl) (argsL := [(.int b0)]) (rest := []) (lenOf own_pd0 rfl) rfl (by show 2 * 0 + _ ≤ _; exact Nat.le_of_eq rfl) (hb hby own_d3_10) (fun _ _ => ⟨rfl, e0, (by decide : 0 + 0 ≤ _), (by decide : 0 + 0 ≤ _)⟩)
  dsimp only [Pt.U, Pt.locs, Pt.cells, Pt.slots] at X7 l7 y7 z7 st7 hQ7
  subst l7 y7 z7
  obtain ⟨rfl, N7q, hh7⟩ := hQ7
  have N7 := Fr.app N0 N7q
  have G7 : Goes p e below s₁ (entryFrame m #[(.ref a1), (.int (0 : Int32)), (.int (3 : Int32))] 4) T7 (mkF m 13 #[.val (.ref a1), .val (.int (0 : Int32)), .val (.int (3 : Int32)), .val (.int (0 : Int32))] [(.int (own_le b0))]) := fun _ k => G6 _ (st7 _ k)
  by_cases hq0 : (own_le b0) = (0 : Int32)
  · have G8 : Goes p e below s₁ (entryFrame m #[(.ref a1), (.int (0 : Int32)), (.int (3 : Int32))] 4) T7 (mkF m 23 #[.val (.ref a1), .val (.int (0 : Int32)), .val (.int (3 : Int32)), .val (.int (0 : Int32))] []) := fun _ k => G7 _ (by
        show Steps p.tables e below (T7.setTop (mkF m 13 #[.val (.ref a1), .val (.int (0 : Int32)), .val (.int (3 : Int32)), .val (.int (0 : Int32))] [(.int (own_le b0))])) _
        refine XS.ifYes X7.here hx rfl (pc0 := 13) (pc' := 23) rfl (hb hby own_d3_13) rfl ((if0 _ _).trans (teq hq0).1) (by decide) (by decide) ?_
        exact k)
    have G9 : Goes p e below s₁ (entryFrame m #[(.ref a1), (.int (0 : Int32)), (.int (3 : Int32))] 4) T7 (mkF m 2 #[.val (.ref a1), .val (.int (0 : Int32)), .val (.int (3 : Int32)), .val (.int (1 : Int32))] []) := fun _ k => G8 _ (by
        show Steps p.tables e below (T7.setTop (mkF m 23 #[.val (.ref a1), .val (.int (0 : Int32)), .val (.int (3 : Int32)), .val (.int (0 : Int32))] [])) _
        refine XS.iinc X7.here hx rfl (hb hby own_d3_23) rfl (l' := #[.val (.ref a1), .val (.int (0 : Int32)), .val (.int (3 : Int32)), .val (.int (1 : Int32))]) rfl ?_
        show Steps p.tables e below (T7.setTop (mkF m 26 #[.val (.ref a1), .val (.int (0 : Int32)), .val (.int (3 : Int32)), .val (.int (1 : Int32))] [])) _
        refine XS.goto X7.here hx rfl (pc0 := 26) (pc' := 2) rfl (hb hby own_d3_26) (by decide) (by decide) ?_
        exact k)
    have G10 : Goes p e below s₁ (entryFrame m #[(.ref a1), (.int (0 : Int32)), (.int (3 : Int32))] 4) T7 (mkF m 4 #[.val (.ref a1), .val (.int (0 : Int32)), .val (.int (3 : Int32)), .val (.int (1 : Int32))] [(.int (3 : Int32)), (.int (1 : Int32))]) := fun _ k => G9 _ (by
        show Steps p.tables e below (T7.setTop (mkF m 2 #[.val (.ref a1), .val (.int (0 : Int32)), .val (.int (3 : Int32)), .val (.int (1 : Int32))] [])) _
        refine XS.iloadN X7.here hx rfl (hb hby own_d3_2) rfl ?_
        show Steps p.tables e below (T7.setTop (mkF m 3 #[.val (.ref a1), .val (.int (0 : Int32)), .val (.int (3 : Int32)), .val (.int (1 : Int32))] [(.int (1 : Int32))])) _
        refine XS.iloadN X7.here hx rfl (hb hby own_d3_3) rfl ?_
        exact k)
    have G11 : Goes p e below s₁ (entryFrame m #[(.ref a1), (.int (0 : Int32)), (.int (3 : Int32))] 4) T7 (mkF m 7 #[.val (.ref a1), .val (.int (0 : Int32)), .val (.int (3 : Int32)), .val (.int (1 : Int32))] []) := fun _ k => G10 _ (by
        show Steps p.tables e below (T7.setTop (mkF m 4 #[.val (.ref a1), .val (.int (0 : Int32)), .val (.int (3 : Int32)), .val (.int (1 : Int32))] [(.int (3 : Int32)), (.int (1 : Int32))])) _
        refine XS.icmpNo X7.here hx rfl (hb hby own_d3_4) rfl (tlt (by decide : (1 : Int32) < (3 : Int32))).2.1 ?_
        exact k)
    have G12 : Goes p e below s₁ (entryFrame m #[(.ref a1), (.int (0 : Int32)), (.int (3 : Int32))] 4) T7 (mkF m 9 #[.val (.ref a1), .val (.int (0 : Int32)), .val (.int (3 : Int32)), .val (.int (1 : Int32))] [(.int (1 : Int32)), (.ref a1)]) := fun _ k => G11 _ (by
        show Steps p.tables e below (T7.setTop (mkF m 7 #[.val (.ref a1), .val (.int (0 : Int32)), .val (.int (3 : Int32)), .val (.int (1 : Int32))] [])) _
        refine XS.aloadN X7.here hx rfl (hb hby own_d3_7) rfl rfl ?_
        show Steps p.tables e below (T7.setTop (mkF m 8 #[.val (.ref a1), .val (.int (0 : Int32)), .val (.int (3 : Int32)), .val (.int (1 : Int32))] [(.ref a1)])) _
        refine XS.iloadN X7.here hx rfl (hb hby own_d3_8) rfl ?_
        exact k)
    have vc13 := V
    obtain ⟨cl13, Ar13, q13, S13, M13, H13, J13⟩ := vc13
    have hin13 : ¬ ((1 : Int32) < 0 ∨ cl13.slots.size ≤ ((1 : Int32)).toNatClampNeg) := inb_of S13 ⟨by decide, by decide⟩
    have hat13 : cl13.slots[((1 : Int32)).toNatClampNeg]? = some (.int b1) := Has.at H13 hin13 rfl
    have G14 : Goes p e below s₁ (entryFrame m #[(.ref a1), (.int (0 : Int32)), (.int (3 : Int32))] 4) T7 (mkF m 10 #[.val (.ref a1), .val (.int (0 : Int32)), .val (.int (3 : Int32)), .val (.int (1 : Int32))] [(.int b1)]) := fun _ k => G12 _ (by
        show Steps p.tables e below (T7.setTop (mkF m 9 #[.val (.ref a1), .val (.int (0 : Int32)), .val (.int (3 : Int32)), .val (.int (1 : Int32))] [(.int (1 : Int32)), (.ref a1)])) _
        refine X7.baloadBytes hx (j := (1 : Int32)) (v := (.int b1)) (by rw [hh7]; exact Ar13.1) (State.isArrayOf_alike hZ.alike Ar13.2.1) Ar13.2.2 hin13 hat13 (g := (mkF m 9 #[.val (.ref a1), .val (.int (0 : Int32)), .val (.int (3 : Int32)), .val (.int (1 : Int32))] [(.int (1 : Int32)), (.ref a1)])) rfl rfl (hb hby own_d3_9) _ ?_
        exact k)
    obtain ⟨_, _, ⟨T15, L15, k15, n15⟩, -, X15, ⟨Lc15, hQ15, l15, y15, z15⟩, st15⟩ := Jvm.LawKit.callS X7 hx (y := (⟨"com/example/covary/covary/CsvLines", "isLineEnd", "(B)Z"⟩ : MethodName)) hown (mvT hZ (hw _ (List.mem_of_getElem? (i := 12) rfl))) (mvT hZ (hw _ (List.mem_of_getElem? (i := 13) rfl))) (mvT hZ (hw _ (List.mem_of_getElem? (i := 7) rfl))) (mvT hZ (hw _ (List.mem_of_getElem? (i := 14) rfl))) (by decide) (backOf (W := 0) (rm4 l Z a0 hw [] b1 h0 n0 Z0) hZ (hw _ (List.mem_of_getElem? (i := 14) rfl)) (hw _ (List.mem_of_getElem? (i := 7) rfl)) (by decide) (by decide)) (g := (mkF m 10 #[.val (.ref a1), .val (.int (0 : Int32)), .val (.int (3 : Int32)), .val (.int (1 : Int32))] [(.int b1)])) rfl (by rw [hml]; rfl) (argsL := [(.int b1)]) (rest := []) (lenOf own_pd0 rfl) rfl (by show 2 * 0 + _ ≤ _; exact Nat.le_of_eq rfl) (hb hby own_d3_10) (fun _ _ => ⟨rfl, hh7, (by decide : 0 + 0 ≤ _), (by decide : 0 + 0 ≤ _)⟩)
    dsimp only [Pt.U, Pt.locs, Pt.cells, Pt.slots] at X15 l15 y15 z15 st15 hQ15
    subst l15 y15 z15
    obtain ⟨rfl, N15q, hh15⟩ := hQ15
    have N15 := Fr.app N7 N15q
    have G15 : Goes p e below s₁ (entryFrame m #[(.ref a1), (.int (0 : Int32)), (.int (3 : Int32))] 4) T15 (mkF m 13 #[.val (.ref a1), .val (.int (0 : Int32)), .val (.int (3 : Int32)), .val (.int (1 : Int32))] [(.int (own_le b1))]) := fun _ k => G14 _ (st15 _ k)
    by_cases hq1 : (own_le b1) = (0 : Int32)
    · have G16 : Goes p e below s₁ (entryFrame m #[(.ref a1), (.int (0 : Int32)), (.int (3 : Int32))] 4) T15 (mkF m 23 #[.val (.ref a1), .val (.int (0 : Int32)), .val (.int (3 : Int32)), .val (.int (1 : Int32))] []) := fun _ k => G15 _ (by
          show Steps p.tables e below (T15.setTop (mkF m 13 #[.val (.ref a1), .val (.int (0 : Int32)), .val (.int (3 : Int32)), .val (.int (1 : Int32))] [(.int (own_le b1))])) _
          refine XS.ifYes X15.here hx rfl (pc0 := 13) (pc' := 23) rfl (hb hby own_d3_13) rfl ((if0 _ _).trans (teq hq1).1) (by decide) (by decide) ?_
          exact k)
      have G17 : Goes p e below s₁ (entryFrame m #[(.ref a1), (.int (0 : Int32)), (.int (3 : Int32))] 4) T15 (mkF m 2 #[.val (.ref a1), .val (.int (0 : Int32)), .val (.int (3 : Int32)), .val (.int (2 : Int32))] []) := fun _ k => G16 _ (by
          show Steps p.tables e below (T15.setTop (mkF m 23 #[.val (.ref a1), .val (.int (0 : Int32)), .val (.int (3 : Int32)), .val (.int (1 : Int32))] [])) _
          refine XS.iinc X15.here hx rfl (hb hby own_d3_23) rfl (l' := #[.val (.ref a1), .val (.int (0 : Int32)), .val (.int (3 : Int32)), .val (.int (2 : Int32))]) rfl ?_
          show Steps p.tables e below (T15.setTop (mkF m 26 #[.val (.ref a1), .val (.int (0 : Int32)), .val (.int (3 : Int32)), .val (.int (2 : Int32))] [])) _
          refine XS.goto X15.here hx rfl (pc0 := 26) (pc' := 2) rfl (hb hby own_d3_26) (by decide) (by decide) ?_
          exact k)
      have G18 : Goes p e below s₁ (entryFrame m #[(.ref a1), (.int (0 : Int32)), (.int (3 : Int32))] 4) T15 (mkF m 4 #[.val (.ref a1), .val (.int (0 : Int32)), .val (.int (3 : Int32)), .val (.int (2 : Int32))] [(.int (3 : Int32)), (.int (2 : Int32))]) := fun _ k => G17 _ (by
          show Steps p.tables e below (T15.setTop (mkF m 2 #[.val (.ref a1), .val (.int (0 : Int32)), .val (.int (3 : Int32)), .val (.int (2 : Int32))] [])) _
          refine XS.iloadN X15.here hx rfl (hb hby own_d3_2) rfl ?_
          show Steps p.tables e below (T15.setTop (mkF m 3 #[.val (.ref a1), .val (.int (0 : Int32)), .val (.int (3 : Int32)), .val (.int (2 : Int32))] [(.int (2 : Int32))])) _
          refine XS.iloadN X15.here hx rfl (hb hby own_d3_3) rfl ?_
          exact k)
      have G19 : Goes p e below s₁ (entryFrame m #[(.ref a1), (.int (0 : Int32)), (.int (3 : Int32))] 4) T15 (mkF m 7 #[.val (.ref a1), .val (.int (0 : Int32)), .val (.int (3 : Int32)), .val (.int (2 : Int32))] []) := fun _ k => G18 _ (by
          show Steps p.tables e below (T15.setTop (mkF m 4 #[.val (.ref a1), .val (.int (0 : Int32)), .val (.int (3 : Int32)), .val (.int (2 : Int32))] [(.int (3 : Int32)), (.int (2 : Int32))])) _
          refine XS.icmpNo X15.here hx rfl (hb hby own_d3_4) rfl (tlt (by decide : (2 : Int32) < (3 : Int32))).2.1 ?_
          exact k)
      have G20 : Goes p e below s₁ (entryFrame m #[(.ref a1), (.int (0 : Int32)), (.int (3 : Int32))] 4) T15 (mkF m 9 #[.val (.ref a1), .val (.int (0 : Int32)), .val (.int (3 : Int32)), .val (.int (2 : Int32))] [(.int (2 : Int32)), (.ref a1)]) := fun _ k => G19 _ (by
          show Steps p.tables e below (T15.setTop (mkF m 7 #[.val (.ref a1), .val (.int (0 : Int32)), .val (.int (3 : Int32)), .val (.int (2 : Int32))] [])) _
          refine XS.aloadN X15.here hx rfl (hb hby own_d3_7) rfl rfl ?_
          show Steps p.tables e below (T15.setTop (mkF m 8 #[.val (.ref a1), .val (.int (0 : Int32)), .val (.int (3 : Int32)), .val (.int (2 : Int32))] [(.ref a1)])) _
          refine XS.iloadN X15.here hx rfl (hb hby own_d3_8) rfl ?_
          exact k)
      have vc21 := V
      obtain ⟨cl21, Ar21, q21, S21, M21, H21, J21⟩ := vc21
      have hin21 : ¬ ((2 : Int32) < 0 ∨ cl21.slots.size ≤ ((2 : Int32)).toNatClampNeg) := inb_of S21 ⟨by decide, by decide⟩
      have hat21 : cl21.slots[((2 : Int32)).toNatClampNeg]? = some (.int b2) := Has.at H21 hin21 rfl
      have G22 : Goes p e below s₁ (entryFrame m #[(.ref a1), (.int (0 : Int32)), (.int (3 : Int32))] 4) T15 (mkF m 10 #[.val (.ref a1), .val (.int (0 : Int32)), .val (.int (3 : Int32)), .val (.int (2 : Int32))] [(.int b2)]) := fun _ k => G20 _ (by
          show Steps p.tables e below (T15.setTop (mkF m 9 #[.val (.ref a1), .val (.int (0 : Int32)), .val (.int (3 : Int32)), .val (.int (2 : Int32))] [(.int (2 : Int32)), (.ref a1)])) _
          refine X15.baloadBytes hx (j := (2 : Int32)) (v := (.int b2)) (by rw [hh15]; exact Ar21.1) (State.isArrayOf_alike hZ.alike Ar21.2.1) Ar21.2.2 hin21 hat21 (g := (mkF m 9 #[.val (.ref a1), .val (.int (0 : Int32)), .val (.int (3 : Int32)), .val (.int (2 : Int32))] [(.int (2 : Int32)), (.ref a1)])) rfl rfl (hb hby own_d3_9) _ ?_
          exact k)
      obtain ⟨_, _, ⟨T23, L23, k23, n23⟩, -, X23, ⟨Lc23, hQ23, l23, y23, z23⟩, st23⟩ := Jvm.LawKit.callS X15 hx (y := (⟨"com/example/covary/covary/CsvLines", "isLineEnd", "(B)Z"⟩ : MethodName)) hown (mvT hZ (hw _ (List.mem_of_getElem? (i := 12) rfl))) (mvT hZ (hw _ (List.mem_of_getElem? (i := 13) rfl))) (mvT hZ (hw _ (List.mem_of_getElem? (i := 7) rfl))) (mvT hZ (hw _ (List.mem_of_getElem? (i := 14) rfl))) (by decide) (backOf (W := 0) (rm4 l Z a0 hw [] b2 h0 n0 Z0) hZ (hw _ (List.mem_of_getElem? (i := 14) rfl)) (hw _ (List.mem_of_getElem? (i := 7) rfl)) (by decide) (by decide)) (g := (mkF m 10 #[.val (.ref a1), .val (.int (0 : Int32)), .val (.int (3 : Int32)), .val (.int (2 : Int32))] [(.int b2)])) rfl (by rw [hml]; rfl) (argsL := [(.int b2)]) (rest := []) (lenOf own_pd0 rfl) rfl (by show 2 * 0 + _ ≤ _; exact Nat.le_of_eq rfl) (hb hby own_d3_10) (fun _ _ => ⟨rfl, hh15, (by decide : 0 + 0 ≤ _), (by decide : 0 + 0 ≤ _)⟩)
      dsimp only [Pt.U, Pt.locs, Pt.cells, Pt.slots] at X23 l23 y23 z23 st23 hQ23
      subst l23 y23 z23
      obtain ⟨rfl, N23q, hh23⟩ := hQ23
      have N23 := Fr.app N15 N23q
      have G23 : Goes p e below s₁ (entryFrame m #[(.ref a1), (.int (0 : Int32)), (.int (3 : Int32))] 4) T23 (mkF m 13 #[.val (.ref a1), .val (.int (0 : Int32)), .val (.int (3 : Int32)), .val (.int (2 : Int32))] [(.int (own_le b2))]) := fun _ k => G22 _ (st23 _ k)
      by_cases hq2 : (own_le b2) = (0 : Int32)
      · have G24 : Goes p e below s₁ (entryFrame m #[(.ref a1), (.int (0 : Int32)), (.int (3 : Int32))] 4) T23 (mkF m 23 #[.val (.ref a1), .val (.int (0 : Int32)), .val (.int (3 : Int32)), .val (.int (2 : Int32))] []) := fun _ k => G23 _ (by
            show Steps p.tables e below (T23.setTop (mkF m 13 #[.val (.ref a1), .val (.int (0 : Int32)), .val (.int (3 : Int32)), .val (.int (2 : Int32))] [(.int (own_le b2))])) _
            refine XS.ifYes X23.here hx rfl (pc0 := 13) (pc' := 23) rfl (hb hby own_d3_13) rfl ((if0 _ _).trans (teq hq2).1) (by decide) (by decide) ?_
            exact k)
        have G25 : Goes p e below s₁ (entryFrame m #[(.ref a1), (.int (0 : Int32)), (.int (3 : Int32))] 4) T23 (mkF m 2 #[.val (.ref a1), .val (.int (0 : Int32)), .val (.int (3 : Int32)), .val (.int (3 : Int32))] []) := fun _ k => G24 _ (by
            show Steps p.tables e below (T23.setTop (mkF m 23 #[.val (.ref a1), .val (.int (0 : Int32)), .val (.int (3 : Int32)), .val (.int (2 : Int32))] [])) _
            refine XS.iinc X23.here hx rfl (hb hby own_d3_23) rfl (l' := #[.val (.ref a1), .val (.int (0 : Int32)), .val (.int (3 : Int32)), .val (.int (3 : Int32))]) rfl ?_
            show Steps p.tables e below (T23.setTop (mkF m 26 #[.val (.ref a1), .val (.int (0 : Int32)), .val (.int (3 : Int32)), .val (.int (3 : Int32))] [])) _
            refine XS.goto X23.here hx rfl (pc0 := 26) (pc' := 2) rfl (hb hby own_d3_26) (by decide) (by decide) ?_
            exact k)
        have G26 : Goes p e below s₁ (entryFrame m #[(.ref a1), (.int (0 : Int32)), (.int (3 : Int32))] 4) T23 (mkF m 4 #[.val (.ref a1), .val (.int (0 : Int32)), .val (.int (3 : Int32)), .val (.int (3 : Int32))] [(.int (3 : Int32)), (.int (3 : Int32))]) := fun _ k => G25 _ (by
            show Steps p.tables e below (T23.setTop (mkF m 2 #[.val (.ref a1), .val (.int (0 : Int32)), .val (.int (3 : Int32)), .val (.int (3 : Int32))] [])) _
            refine XS.iloadN X23.here hx rfl (hb hby own_d3_2) rfl ?_
            show Steps p.tables e below (T23.setTop (mkF m 3 #[.val (.ref a1), .val (.int (0 : Int32)), .val (.int (3 : Int32)), .val (.int (3 : Int32))] [(.int (3 : Int32))])) _
            refine XS.iloadN X23.here hx rfl (hb hby own_d3_3) rfl ?_
            exact k)
        have G27 : Goes p e below s₁ (entryFrame m #[(.ref a1), (.int (0 : Int32)), (.int (3 : Int32))] 4) T23 (mkF m 29 #[.val (.ref a1), .val (.int (0 : Int32)), .val (.int (3 : Int32)), .val (.int (3 : Int32))] []) := fun _ k => G26 _ (by
            show Steps p.tables e below (T23.setTop (mkF m 4 #[.val (.ref a1), .val (.int (0 : Int32)), .val (.int (3 : Int32)), .val (.int (3 : Int32))] [(.int (3 : Int32)), (.int (3 : Int32))])) _
            refine XS.icmpYes X23.here hx rfl (pc0 := 4) (pc' := 29) rfl (hb hby own_d3_4) rfl (flt (by decide : ¬ ((3 : Int32) < (3 : Int32)))).2.1 (by decide) (by decide) ?_
            exact k)
        have G28 : Goes p e below s₁ (entryFrame m #[(.ref a1), (.int (0 : Int32)), (.int (3 : Int32))] 4) T23 (mkF m 30 #[.val (.ref a1), .val (.int (0 : Int32)), .val (.int (3 : Int32)), .val (.int (3 : Int32))] [(.int (3 : Int32))]) := fun _ k => G27 _ (by
            show Steps p.tables e below (T23.setTop (mkF m 29 #[.val (.ref a1), .val (.int (0 : Int32)), .val (.int (3 : Int32)), .val (.int (3 : Int32))] [])) _
            refine XS.iloadN X23.here hx rfl (hb hby own_d3_29) rfl ?_
            exact k)
        obtain ⟨fs, hr, hrun, hended, hW, hsame⟩ := X23.leave (v := some (.int (3 : Int32))) (fun h => by rw [Bd.returns] at h; cases h)
        refine ⟨_, _, G28 _ (retI X23 hx Bd.returns (hb hby own_d3_30) hr), hrun, hended, _, _, rfl, ?_, ⟨_, rfl⟩, hW, hsame.mono (by decide) (by decide)⟩
        show Q3_0 b0 b1 b2 h0 n0 _ T23.heap _
        rw [hh23]
        exact ⟨by simp [own_nl0, own_nl1, own_nl2, hq0, hq1, hq2], N23, rfl⟩
      · have G29 : Goes p e below s₁ (entryFrame m #[(.ref a1), (.int (0 : Int32)), (.int (3 : Int32))] 4) T23 (mkF m 16 #[.val (.ref a1), .val (.int (0 : Int32)), .val (.int (3 : Int32)), .val (.int (2 : Int32))] []) := fun _ k => G23 _ (by
            show Steps p.tables e below (T23.setTop (mkF m 13 #[.val (.ref a1), .val (.int (0 : Int32)), .val (.int (3 : Int32)), .val (.int (2 : Int32))] [(.int (own_le b2))])) _
            refine XS.ifNo X23.here hx rfl (hb hby own_d3_13) rfl ((if0 _ _).trans (feq hq2).1) ?_
            exact k)
        have G30 : Goes p e below s₁ (entryFrame m #[(.ref a1), (.int (0 : Int32)), (.int (3 : Int32))] 4) T23 (mkF m 19 #[.val (.ref a1), .val (.int (0 : Int32)), .val (.int (3 : Int32)), .val (.int (2 : Int32))] [(.int (3 : Int32)), (.int (2 : Int32)), (.ref a1)]) := fun _ k => G29 _ (by
            show Steps p.tables e below (T23.setTop (mkF m 16 #[.val (.ref a1), .val (.int (0 : Int32)), .val (.int (3 : Int32)), .val (.int (2 : Int32))] [])) _
            refine XS.aloadN X23.here hx rfl (hb hby own_d3_16) rfl rfl ?_
            show Steps p.tables e below (T23.setTop (mkF m 17 #[.val (.ref a1), .val (.int (0 : Int32)), .val (.int (3 : Int32)), .val (.int (2 : Int32))] [(.ref a1)])) _
            refine XS.iloadN X23.here hx rfl (hb hby own_d3_17) rfl ?_
            show Steps p.tables e below (T23.setTop (mkF m 18 #[.val (.ref a1), .val (.int (0 : Int32)), .val (.int (3 : Int32)), .val (.int (2 : Int32))] [(.int (2 : Int32)), (.ref a1)])) _
            refine XS.iloadN X23.here hx rfl (hb hby own_d3_18) rfl ?_
            exact k)
        obtain ⟨_, _, ⟨T31, L31, k31, n31⟩, -, X31, ⟨Lc31, hQ31, l31, y31, z31⟩, st31⟩ := Jvm.LawKit.callS X23 hx (y := (⟨"com/example/covary/covary/CsvLines", "afterLineEnd", "([BII)I"⟩ : MethodName)) hown (mvT hZ (hw _ (List.mem_of_getElem? (i := 15) rfl))) (mvT hZ (hw _ (List.mem_of_getElem? (i := 16) rfl))) (mvT hZ (hw _ (List.mem_of_getElem? (i := 7) rfl))) (mvT hZ (hw _ (List.mem_of_getElem? (i := 17) rfl))) (by decide) (backOf (W := 0) (rm5_2 l Z a0 hw [] a1 k1 b0 b1 b2 h0 n0 Z0 V) hZ (hw _ (List.mem_of_getElem? (i := 17) rfl)) (hw _ (List.mem_of_getElem? (i := 7) rfl)) (by decide) (by decide)) (g := (mkF m 19 #[.val (.ref a1), .val (.int (0 : Int32)), .val (.int (3 : Int32)), .val (.int (2 : Int32))] [(.int (3 : Int32)), (.int (2 : Int32)), (.ref a1)])) rfl (by rw [hml]; rfl) (argsL := [(.ref a1), (.int (2 : Int32)), (.int (3 : Int32))]) (rest := []) (lenOf own_pd1 rfl) rfl (by show 2 * 0 + _ ≤ _; exact Nat.le_of_eq rfl) (hb hby own_d3_19) (fun _ _ => ⟨rfl, hh23, (by decide : 0 + 0 ≤ _), (by decide : 0 + 0 ≤ _)⟩)
        dsimp only [Pt.U, Pt.locs, Pt.cells, Pt.slots] at X31 l31 y31 z31 st31 hQ31
        subst l31 y31 z31
        obtain ⟨rfl, N31q, hh31⟩ := hQ31
        have N31 := Fr.app N23 N31q
        have G31 : Goes p e below s₁ (entryFrame m #[(.ref a1), (.int (0 : Int32)), (.int (3 : Int32))] 4) T31 (mkF m 22 #[.val (.ref a1), .val (.int (0 : Int32)), .val (.int (3 : Int32)), .val (.int (2 : Int32))] [(.int (3 : Int32))]) := fun _ k => G30 _ (st31 _ k)
        obtain ⟨fs, hr, hrun, hended, hW, hsame⟩ := X31.leave (v := some (.int (3 : Int32))) (fun h => by rw [Bd.returns] at h; cases h)
        refine ⟨_, _, G31 _ (retI X31 hx Bd.returns (hb hby own_d3_22) hr), hrun, hended, _, _, rfl, ?_, ⟨_, rfl⟩, hW, hsame.mono (by decide) (by decide)⟩
        show Q3_0 b0 b1 b2 h0 n0 _ T31.heap _
        rw [hh31]
        exact ⟨by simp [own_nl0, own_nl1, own_nl2, hq0, hq1, hq2], N31, rfl⟩
    · have G32 : Goes p e below s₁ (entryFrame m #[(.ref a1), (.int (0 : Int32)), (.int (3 : Int32))] 4) T15 (mkF m 16 #[.val (.ref a1), .val (.int (0 : Int32)), .val (.int (3 : Int32)), .val (.int (1 : Int32))] []) := fun _ k => G15 _ (by
          show Steps p.tables e below (T15.setTop (mkF m 13 #[.val (.ref a1), .val (.int (0 : Int32)), .val (.int (3 : Int32)), .val (.int (1 : Int32))] [(.int (own_le b1))])) _
          refine XS.ifNo X15.here hx rfl (hb hby own_d3_13) rfl ((if0 _ _).trans (feq hq1).1) ?_
          exact k)
      have G33 : Goes p e below s₁ (entryFrame m #[(.ref a1), (.int (0 : Int32)), (.int (3 : Int32))] 4) T15 (mkF m 19 #[.val (.ref a1), .val (.int (0 : Int32)), .val (.int (3 : Int32)), .val (.int (1 : Int32))] [(.int (3 : Int32)), (.int (1 : Int32)), (.ref a1)]) := fun _ k => G32 _ (by
          show Steps p.tables e below (T15.setTop (mkF m 16 #[.val (.ref a1), .val (.int (0 : Int32)), .val (.int (3 : Int32)), .val (.int (1 : Int32))] [])) _
          refine XS.aloadN X15.here hx rfl (hb hby own_d3_16) rfl rfl ?_
          show Steps p.tables e below (T15.setTop (mkF m 17 #[.val (.ref a1), .val (.int (0 : Int32)), .val (.int (3 : Int32)), .val (.int (1 : Int32))] [(.ref a1)])) _
          refine XS.iloadN X15.here hx rfl (hb hby own_d3_17) rfl ?_
          show Steps p.tables e below (T15.setTop (mkF m 18 #[.val (.ref a1), .val (.int (0 : Int32)), .val (.int (3 : Int32)), .val (.int (1 : Int32))] [(.int (1 : Int32)), (.ref a1)])) _
          refine XS.iloadN X15.here hx rfl (hb hby own_d3_18) rfl ?_
          exact k)
      obtain ⟨_, _, ⟨T34, L34, k34, n34⟩, -, X34, ⟨Lc34, hQ34, l34, y34, z34⟩, st34⟩ := Jvm.LawKit.callS X15 hx (y := (⟨"com/example/covary/covary/CsvLines", "afterLineEnd", "([BII)I"⟩ : MethodName)) hown (mvT hZ (hw _ (List.mem_of_getElem? (i := 15) rfl))) (mvT hZ (hw _ (List.mem_of_getElem? (i := 16) rfl))) (mvT hZ (hw _ (List.mem_of_getElem? (i := 7) rfl))) (mvT hZ (hw _ (List.mem_of_getElem? (i := 17) rfl))) (by decide) (backOf (W := 0) (rm5_1 l Z a0 hw [] a1 k1 b0 b1 b2 h0 n0 Z0 V) hZ (hw _ (List.mem_of_getElem? (i := 17) rfl)) (hw _ (List.mem_of_getElem? (i := 7) rfl)) (by decide) (by decide)) (g := (mkF m 19 #[.val (.ref a1), .val (.int (0 : Int32)), .val (.int (3 : Int32)), .val (.int (1 : Int32))] [(.int (3 : Int32)), (.int (1 : Int32)), (.ref a1)])) rfl (by rw [hml]; rfl) (argsL := [(.ref a1), (.int (1 : Int32)), (.int (3 : Int32))]) (rest := []) (lenOf own_pd1 rfl) rfl (by show 2 * 0 + _ ≤ _; exact Nat.le_of_eq rfl) (hb hby own_d3_19) (fun _ _ => ⟨rfl, hh15, (by decide : 0 + 0 ≤ _), (by decide : 0 + 0 ≤ _)⟩)
      dsimp only [Pt.U, Pt.locs, Pt.cells, Pt.slots] at X34 l34 y34 z34 st34 hQ34
      subst l34 y34 z34
      obtain ⟨rfl, N34q, hh34⟩ := hQ34
      have N34 := Fr.app N15 N34q
      have G34 : Goes p e below s₁ (entryFrame m #[(.ref a1), (.int (0 : Int32)), (.int (3 : Int32))] 4) T34 (mkF m 22 #[.val (.ref a1), .val (.int (0 : Int32)), .val (.int (3 : Int32)), .val (.int (1 : Int32))] [(.int (own_al1 b1 b2))]) := fun _ k => G33 _ (st34 _ k)
      obtain ⟨fs, hr, hrun, hended, hW, hsame⟩ := X34.leave (v := some (.int (own_al1 b1 b2))) (fun h => by rw [Bd.returns] at h; cases h)
      refine ⟨_, _, G34 _ (retI X34 hx Bd.returns (hb hby own_d3_22) hr), hrun, hended, _, _, rfl, ?_, ⟨_, rfl⟩, hW, hsame.mono (by decide) (by decide)⟩
      show Q3_0 b0 b1 b2 h0 n0 _ T34.heap _
      rw [hh34]
      exact ⟨by simp [own_nl0, own_nl1, own_nl2, hq0, hq1], N34, rfl⟩
  · have G35 : Goes p e below s₁ (entryFrame m #[(.ref a1), (.int (0 : Int32)), (.int (3 : Int32))] 4) T7 (mkF m 16 #[.val (.ref a1), .val (.int (0 : Int32)), .val (.int (3 : Int32)), .val (.int (0 : Int32))] []) := fun _ k => G7 _ (by
        show Steps p.tables e below (T7.setTop (mkF m 13 #[.val (.ref a1), .val (.int (0 : Int32)), .val (.int (3 : Int32)), .val (.int (0 : Int32))] [(.int (own_le b0))])) _
        refine XS.ifNo X7.here hx rfl (hb hby own_d3_13) rfl ((if0 _ _).trans (feq hq0).1) ?_
        exact k)
    have G36 : Goes p e below s₁ (entryFrame m #[(.ref a1), (.int (0 : Int32)), (.int (3 : Int32))] 4) T7 (mkF m 19 #[.val (.ref a1), .val (.int (0 : Int32)), .val (.int (3 : Int32)), .val (.int (0 : Int32))] [(.int (3 : Int32)), (.int (0 : Int32)), (.ref a1)]) := fun _ k => G35 _ (by
        show Steps p.tables e below (T7.setTop (mkF m 16 #[.val (.ref a1), .val (.int (0 : Int32)), .val (.int (3 : Int32)), .val (.int (0 : Int32))] [])) _
        refine XS.aloadN X7.here hx rfl (hb hby own_d3_16) rfl rfl ?_
        show Steps p.tables e below (T7.setTop (mkF m 17 #[.val (.ref a1), .val (.int (0 : Int32)), .val (.int (3 : Int32)), .val (.int (0 : Int32))] [(.ref a1)])) _
        refine XS.iloadN X7.here hx rfl (hb hby own_d3_17) rfl ?_
        show Steps p.tables e below (T7.setTop (mkF m 18 #[.val (.ref a1), .val (.int (0 : Int32)), .val (.int (3 : Int32)), .val (.int (0 : Int32))] [(.int (0 : Int32)), (.ref a1)])) _
        refine XS.iloadN X7.here hx rfl (hb hby own_d3_18) rfl ?_
        exact k)
    obtain ⟨_, _, ⟨T37, L37, k37, n37⟩, -, X37, ⟨Lc37, hQ37, l37, y37, z37⟩, st37⟩ := Jvm.LawKit.callS X7 hx (y := (⟨"com/example/covary/covary/CsvLines", "afterLineEnd", "([BII)I"⟩ : MethodName)) hown (mvT hZ (hw _ (List.mem_of_getElem? (i := 15) rfl))) (mvT hZ (hw _ (List.mem_of_getElem? (i := 16) rfl))) (mvT hZ (hw _ (List.mem_of_getElem? (i := 7) rfl))) (mvT hZ (hw _ (List.mem_of_getElem? (i := 17) rfl))) (by decide) (backOf (W := 0) (rm5_0 l Z a0 hw [] a1 k1 b0 b1 b2 h0 n0 Z0 V) hZ (hw _ (List.mem_of_getElem? (i := 17) rfl)) (hw _ (List.mem_of_getElem? (i := 7) rfl)) (by decide) (by decide)) (g := (mkF m 19 #[.val (.ref a1), .val (.int (0 : Int32)), .val (.int (3 : Int32)), .val (.int (0 : Int32))] [(.int (3 : Int32)), (.int (0 : Int32)), (.ref a1)])) rfl (by rw [hml]; rfl) (argsL := [(.ref a1), (.int (0 : Int32)), (.int (3 : Int32))]) (rest := []) (lenOf own_pd1 rfl) rfl (by show 2 * 0 + _ ≤ _; exact Nat.le_of_eq rfl) (hb hby own_d3_19) (fun _ _ => ⟨rfl, hh7, (by decide : 0 + 0 ≤ _), (by decide : 0 + 0 ≤ _)⟩)
    dsimp only [Pt.U, Pt.locs, Pt.cells, Pt.slots] at X37 l37 y37 z37 st37 hQ37
    subst l37 y37 z37
    obtain ⟨rfl, N37q, hh37⟩ := hQ37
    have N37 := Fr.app N7 N37q
    have G37 : Goes p e below s₁ (entryFrame m #[(.ref a1), (.int (0 : Int32)), (.int (3 : Int32))] 4) T37 (mkF m 22 #[.val (.ref a1), .val (.int (0 : Int32)), .val (.int (3 : Int32)), .val (.int (0 : Int32))] [(.int (own_al0 b0 b1))]) := fun _ k => G36 _ (st37 _ k)
    obtain ⟨fs, hr, hrun, hended, hW, hsame⟩ := X37.leave (v := some (.int (own_al0 b0 b1))) (fun h => by rw [Bd.returns] at h; cases h)
    refine ⟨_, _, G37 _ (retI X37 hx Bd.returns (hb hby own_d3_22) hr), hrun, hended, _, _, rfl, ?_, ⟨_, rfl⟩, hW, hsame.mono (by decide) (by decide)⟩
    show Q3_0 b0 b1 b2 h0 n0 _ T37.heap _
    rw [hh37]
    exact ⟨by simp [own_nl0, own_nl1, own_nl2, hq0], N37, rfl⟩
set_option maxRecDepth 65536 in
set_option maxHeartbeats 40000000 in
theorem rm3_1 (l : Launch) (Z : State) (a0 : Array Value) (hw : ∀ d ∈ tables_1, d.before a0 Z = true) (ws : List Jvm.Cond) (a1 : Addr) (k1 : ClassId) (b0 b1 b2 : Int32) (h0 : Heap) (n0 : Nat) (Z0 : n0 ≤ h0.size) (V : Arv Z h0 a1 k1 .byte (3 : Int32) [(.int b0), (.int b1), (.int b2)] (.int (0 : Int32))) :
    MetFree l (⟨"com/example/covary/covary/CsvLines", "nextLine", "([BII)I"⟩ : MethodName) (head1 (Jvm.Cond.code (⟨"com/example/covary/covary/CsvLines", "nextLine", "([BII)I"⟩ : MethodName) prog_38_method_6_code 4 (some .int) :: ws) ({ frames := 1, cells := 0, slots := 0, locals := 14 } : Room)) (fun a U => a = #[(.ref a1), (.int (1 : Int32)), (.int (3 : Int32))] ∧ Z.Warmed39 U.vm ∧ U.heap = h0) (fun _ _ _ _ _ => True) (fun _ U oc U' => ∃ v L, oc = .returned v ∧ Q3_1 b0 b1 b2 h0 n0 v U'.heap L ∧ FrameEnd U oc U' L ({ frames := 1, cells := 0, slots := 0, locals := 14 } : Room).cells ({ frames := 1, cells := 0, slots := 0, locals := 14 } : Room).slots) := by
  refine MetFree.of_bodySF (plainFor_of_name own_pn1) hisR ?_
  intro p e s m args below meth c s₁ Bd hml0 hP hK
  obtain ⟨rfl, hZ, hh⟩ := hP
  have hx := Bd.exec
  have hby := Bd.bytes
  have hml : c.maxLocals = 4 := hml0
  have hown : s.vm.findClass "com/example/covary/covary/CsvLines" = some m.cls := findClass_of_methodNamed Bd.named
  have hnm := (name_of_methodNamed Bd.named Bd.method).1
  have X0 : Stand p l e ({ frames := 1, cells := 0, slots := 0, locals := 14 } : Room) s m #[(.ref a1), (.int (1 : Int32)), (.int (3 : Int32))] below meth c s₁ [] 0 0 := Stand.of_body Bd
  have e0 : s₁.heap = h0 := by rw [← hh, Bd.state]; rfl
  have N0 := Fr.nil n0
  have G0 : Goes p e below s₁ (entryFrame m #[(.ref a1), (.int (1 : Int32)), (.int (3 : Int32))] 4) s₁ (mkF m 0 #[.val (.ref a1), .val (.int (1 : Int32)), .val (.int (3 : Int32)), .unset] []) := fun _ k => castTop (by first | (simp [entryFrame, mkF, argsToLocals, Value.category]; done) | rfl : (entryFrame m #[(.ref a1), (.int (1 : Int32)), (.int (3 : Int32))] 4) = mkF m 0 #[.val (.ref a1), .val (.int (1 : Int32)), .val (.int (3 : Int32)), .unset] []) k
  have G1 : Goes p e below s₁ (entryFrame m #[(.ref a1), (.int (1 : Int32)), (.int (3 : Int32))] 4) s₁ (mkF m 2 #[.val (.ref a1), .val (.int (1 : Int32)), .val (.int (3 : Int32)), .val (.int (1 : Int32))] []) := fun _ k => G0 _ (by
      show Steps p.tables e below (s₁.setTop (mkF m 0 #[.val (.ref a1), .val (.int (1 : Int32)), .val (.int (3 : Int32)), .unset] [])) _
      refine XS.iloadN X0.here hx rfl (hb hby own_d3_0) rfl ?_
      show Steps p.tables e below (s₁.setTop (mkF m 1 #[.val (.ref a1), .val (.int (1 : Int32)), .val (.int (3 : Int32)), .unset] [(.int (1 : Int32))])) _
      refine XS.istoreN X0.here hx rfl (hb hby own_d3_1) rfl (l' := #[.val (.ref a1), .val (.int (1 : Int32)), .val (.int (3 : Int32)), .val (.int (1 : Int32))]) rfl ?_
      exact k)
  have G2 : Goes p e below s₁ (entryFrame m #[(.ref a1), (.int (1 : Int32)), (.int (3 : Int32))] 4) s₁ (mkF m 4 #[.val (.ref a1), .val (.int (1 : Int32)), .val (.int (3 : Int32)), .val (.int (1 : Int32))] [(.int (3 : Int32)), (.int (1 : Int32))]) := fun _ k => G1 _ (by
      show Steps p.tables e below (s₁.setTop (mkF m 2 #[.val (.ref a1), .val (.int (1 : Int32)), .val (.int (3 : Int32)), .val (.int (1 : Int32))] [])) _
      refine XS.iloadN X0.here hx rfl (hb hby own_d3_2) rfl ?_
      show Steps p.tables e below (s₁.setTop (mkF m 3 #[.val (.ref a1), .val (.int (1 : Int32)), .val (.int (3 : Int32)), .val (.int (1 : Int32))] [(.int (1 : Int32))])) _
      refine XS.iloadN X0.here hx rfl (hb hby own_d3_3) rfl ?_
      exact k)
  have G3 : Goes p e below s₁ (entryFrame m #[(.ref a1), (.int (1 : Int32)), (.int (3 : Int32))] 4) s₁ (mkF m 7 #[.val (.ref a1), .val (.int (1 : Int32)), .val (.int (3 : Int32)), .val (.int (1 : Int32))] []) := fun _ k => G2 _ (by
      show Steps p.tables e below (s₁.setTop (mkF m 4 #[.val (.ref a1), .val (.int (1 : Int32)), .val (.int (3 : Int32)), .val (.int (1 : Int32))] [(.int (3 : Int32)), (.int (1 : Int32))])) _
      refine XS.icmpNo X0.here hx rfl (hb hby own_d3_4) rfl (tlt (by decide : (1 : Int32) < (3 : Int32))).2.1 ?_
      exact k)
  have G4 : Goes p e below s₁ (entryFrame m #[(.ref a1), (.int (1 : Int32)), (.int (3 : Int32))] 4) s₁ (mkF m 9 #[.val (.ref a1), .val (.int (1 : Int32)), .val (.int (3 : Int32)), .val (.int (1 : Int32))] [(.int (1 : Int32)), (.ref a1)]) := fun _ k => G3 _ (by
      show Steps p.tables e below (s₁.setTop (mkF m 7 #[.val (.ref a1), .val (.int (1 : Int32)), .val (.int (3 : Int32)), .val (.int (1 : Int32))] [])) _
      refine XS.aloadN X0.here hx rfl (hb hby own_d3_7) rfl rfl ?_
      show Steps p.tables e below (s₁.setTop (mkF m 8 #[.val (.ref a1), .val (.int (1 : Int32)), .val (.int (3 : Int32)), .val (.int (1 : Int32))] [(.ref a1)])) _
      refine XS.iloadN X0.here hx rfl (hb hby own_d3_8) rfl ?_
      exact k)
  have vc5 := V
  obtain ⟨cl5, Ar5, q5, S5, M5, H5, J5⟩ := vc5
  have hin5 : ¬ ((1 : Int32) < 0 ∨ cl5.slots.size ≤ ((1 : Int32)).toNatClampNeg) := inb_of S5 ⟨by decide, by decide⟩
  have hat5 : cl5.slots[((1 : Int32)).toNatClampNeg]? = some (.int b1) := Has.at H5 hin5 rfl
  have G6 : Goes p e below s₁ (entryFrame m #[(.ref a1), (.int (1 : Int32)), (.int (3 : Int32))] 4) s₁ (mkF m 10 #[.val (.ref a1), .val (.int (1 : Int32)), .val (.int (3 : Int32)), .val (.int (1 : Int32))] [(.int b1)]) := fun _ k => G4 _ (by
      show Steps p.tables e below (s₁.setTop (mkF m 9 #[.val (.ref a1), .val (.int (1 : Int32)), .val (.int (3 : Int32)), .val (.int (1 : Int32))] [(.int (1 : Int32)), (.ref a1)])) _
      refine X0.baloadBytes hx (j := (1 : Int32)) (v := (.int b1)) (by rw [e0]; exact Ar5.1) (State.isArrayOf_alike hZ.alike Ar5.2.1) Ar5.2.2 hin5 hat5 (g := (mkF m 9 #[.val (.ref a1), .val (.int (1 : Int32)), .val (.int (3 : Int32)), .val (.int (1 : Int32))] [(.int (1 : Int32)), (.ref a1)])) rfl rfl (hb hby own_d3_9) _ ?_
      exact k)
  obtain ⟨_, _, ⟨T7, L7, k7, n7⟩, -, X7, ⟨Lc7, hQ7, l7, y7, z7⟩, st7⟩ := Jvm.LawKit.callS X0 hx (y := (⟨"com/example/covary/covary/CsvLines", "isLineEnd", "(B)Z"⟩ : MethodName)) hown (mvT hZ (hw _ (List.mem_of_getElem? (i := 12) rfl))) (mvT hZ (hw _ (List.mem_of_getElem? (i := 13) rfl))) (mvT hZ (hw _ (List.mem_of_getElem? (i := 7) rfl))) (mvT hZ (hw _ (List.mem_of_getElem? (i := 14) rfl))) (by decide) (backOf (W := 0) (rm4 l Z a0 hw [] b1 h0 n0 Z0) hZ (hw _ (List.mem_of_getElem? (i := 14) rfl)) (hw _ (List.mem_of_getElem? (i := 7) rfl)) (by decide) (by decide)) (g := (mkF m 10 #[.val (.ref a1), .val (.int (1 : Int32)), .val (.int (3 : Int32)), .val (.int (1 : Int32))] [(.int b1)])) rfl (by rw [hml]; rfl) (argsL := [(.int b1)]) (rest := []) (lenOf own_pd0 rfl) rfl (by show 2 * 0 + _ ≤ _; exact Nat.le_of_eq rfl) (hb hby own_d3_10) (fun _ _ => ⟨rfl, e0, (by decide : 0 + 0 ≤ _), (by decide : 0 + 0 ≤ _)⟩)
  dsimp only [Pt.U, Pt.locs, Pt.cells, Pt.slots] at X7 l7 y7 z7 st7 hQ7
  subst l7 y7 z7
  obtain ⟨rfl, N7q, hh7⟩ := hQ7
  have N7 := Fr.app N0 N7q
  have G7 : Goes p e below s₁ (entryFrame m #[(.ref a1), (.int (1 : Int32)), (.int (3 : Int32))] 4) T7 (mkF m 13 #[.val (.ref a1), .val (.int (1 : Int32)), .val (.int (3 : Int32)), .val (.int (1 : Int32))] [(.int (own_le b1))]) := fun _ k => G6 _ (st7 _ k)
  by_cases hq1 : (own_le b1) = (0 : Int32)
  · have G8 : Goes p e below s₁ (entryFrame m #[(.ref a1), (.int (1 : Int32)), (.int (3 : Int32))] 4) T7 (mkF m 23 #[.val (.ref a1), .val (.int (1 : Int32)), .val (.int (3 : Int32)), .val (.int (1 : Int32))] []) := fun _ k => G7 _ (by
        show Steps p.tables e below (T7.setTop (mkF m 13 #[.val (.ref a1), .val (.int (1 : Int32)), .val (.int (3 : Int32)), .val (.int (1 : Int32))] [(.int (own_le b1))])) _
        refine XS.ifYes X7.here hx rfl (pc0 := 13) (pc' := 23) rfl (hb hby own_d3_13) rfl ((if0 _ _).trans (teq hq1).1) (by decide) (by decide) ?_
        exact k)
    have G9 : Goes p e below s₁ (entryFrame m #[(.ref a1), (.int (1 : Int32)), (.int (3 : Int32))] 4) T7 (mkF m 2 #[.val (.ref a1), .val (.int (1 : Int32)), .val (.int (3 : Int32)), .val (.int (2 : Int32))] []) := fun _ k => G8 _ (by
        show Steps p.tables e below (T7.setTop (mkF m 23 #[.val (.ref a1), .val (.int (1 : Int32)), .val (.int (3 : Int32)), .val (.int (1 : Int32))] [])) _
        refine XS.iinc X7.here hx rfl (hb hby own_d3_23) rfl (l' := #[.val (.ref a1), .val (.int (1 : Int32)), .val (.int (3 : Int32)), .val (.int (2 : Int32))]) rfl ?_
        show Steps p.tables e below (T7.setTop (mkF m 26 #[.val (.ref a1), .val (.int (1 : Int32)), .val (.int (3 : Int32)), .val (.int (2 : Int32))] [])) _
        refine XS.goto X7.here hx rfl (pc0 := 26) (pc' := 2) rfl (hb hby own_d3_26) (by decide) (by decide) ?_
        exact k)
    have G10 : Goes p e below s₁ (entryFrame m #[(.ref a1), (.int (1 : Int32)), (.int (3 : Int32))] 4) T7 (mkF m 4 #[.val (.ref a1), .val (.int (1 : Int32)), .val (.int (3 : Int32)), .val (.int (2 : Int32))] [(.int (3 : Int32)), (.int (2 : Int32))]) := fun _ k => G9 _ (by
        show Steps p.tables e below (T7.setTop (mkF m 2 #[.val (.ref a1), .val (.int (1 : Int32)), .val (.int (3 : Int32)), .val (.int (2 : Int32))] [])) _
        refine XS.iloadN X7.here hx rfl (hb hby own_d3_2) rfl ?_
        show Steps p.tables e below (T7.setTop (mkF m 3 #[.val (.ref a1), .val (.int (1 : Int32)), .val (.int (3 : Int32)), .val (.int (2 : Int32))] [(.int (2 : Int32))])) _
        refine XS.iloadN X7.here hx rfl (hb hby own_d3_3) rfl ?_
        exact k)
    have G11 : Goes p e below s₁ (entryFrame m #[(.ref a1), (.int (1 : Int32)), (.int (3 : Int32))] 4) T7 (mkF m 7 #[.val (.ref a1), .val (.int (1 : Int32)), .val (.int (3 : Int32)), .val (.int (2 : Int32))] []) := fun _ k => G10 _ (by
        show Steps p.tables e below (T7.setTop (mkF m 4 #[.val (.ref a1), .val (.int (1 : Int32)), .val (.int (3 : Int32)), .val (.int (2 : Int32))] [(.int (3 : Int32)), (.int (2 : Int32))])) _
        refine XS.icmpNo X7.here hx rfl (hb hby own_d3_4) rfl (tlt (by decide : (2 : Int32) < (3 : Int32))).2.1 ?_
        exact k)
    have G12 : Goes p e below s₁ (entryFrame m #[(.ref a1), (.int (1 : Int32)), (.int (3 : Int32))] 4) T7 (mkF m 9 #[.val (.ref a1), .val (.int (1 : Int32)), .val (.int (3 : Int32)), .val (.int (2 : Int32))] [(.int (2 : Int32)), (.ref a1)]) := fun _ k => G11 _ (by
        show Steps p.tables e below (T7.setTop (mkF m 7 #[.val (.ref a1), .val (.int (1 : Int32)), .val (.int (3 : Int32)), .val (.int (2 : Int32))] [])) _
        refine XS.aloadN X7.here hx rfl (hb hby own_d3_7) rfl rfl ?_
        show Steps p.tables e below (T7.setTop (mkF m 8 #[.val (.ref a1), .val (.int (1 : Int32)), .val (.int (3 : Int32)), .val (.int (2 : Int32))] [(.ref a1)])) _
        refine XS.iloadN X7.here hx rfl (hb hby own_d3_8) rfl ?_
        exact k)
    have vc13 := V
    obtain ⟨cl13, Ar13, q13, S13, M13, H13, J13⟩ := vc13
    have hin13 : ¬ ((2 : Int32) < 0 ∨ cl13.slots.size ≤ ((2 : Int32)).toNatClampNeg) := inb_of S13 ⟨by decide, by decide⟩
    have hat13 : cl13.slots[((2 : Int32)).toNatClampNeg]? = some (.int b2) := Has.at H13 hin13 rfl
    have G14 : Goes p e below s₁ (entryFrame m #[(.ref a1), (.int (1 : Int32)), (.int (3 : Int32))] 4) T7 (mkF m 10 #[.val (.ref a1), .val (.int (1 : Int32)), .val (.int (3 : Int32)), .val (.int (2 : Int32))] [(.int b2)]) := fun _ k => G12 _ (by
        show Steps p.tables e below (T7.setTop (mkF m 9 #[.val (.ref a1), .val (.int (1 : Int32)), .val (.int (3 : Int32)), .val (.int (2 : Int32))] [(.int (2 : Int32)), (.ref a1)])) _
        refine X7.baloadBytes hx (j := (2 : Int32)) (v := (.int b2)) (by rw [hh7]; exact Ar13.1) (State.isArrayOf_alike hZ.alike Ar13.2.1) Ar13.2.2 hin13 hat13 (g := (mkF m 9 #[.val (.ref a1), .val (.int (1 : Int32)), .val (.int (3 : Int32)), .val (.int (2 : Int32))] [(.int (2 : Int32)), (.ref a1)])) rfl rfl (hb hby own_d3_9) _ ?_
        exact k)
    obtain ⟨_, _, ⟨T15, L15, k15, n15⟩, -, X15, ⟨Lc15, hQ15, l15, y15, z15⟩, st15⟩ := Jvm.LawKit.callS X7 hx (y := (⟨"com/example/covary/covary/CsvLines", "isLineEnd", "(B)Z"⟩ : MethodName)) hown (mvT hZ (hw _ (List.mem_of_getElem? (i := 12) rfl))) (mvT hZ (hw _ (List.mem_of_getElem? (i := 13) rfl))) (mvT hZ (hw _ (List.mem_of_getElem? (i := 7) rfl))) (mvT hZ (hw _ (List.mem_of_getElem? (i := 14) rfl))) (by decide) (backOf (W := 0) (rm4 l Z a0 hw [] b2 h0 n0 Z0) hZ (hw _ (List.mem_of_getElem? (i := 14) rfl)) (hw _ (List.mem_of_getElem? (i := 7) rfl)) (by decide) (by decide)) (g := (mkF m 10 #[.val (.ref a1), .val (.int (1 : Int32)), .val (.int (3 : Int32)), .val (.int (2 : Int32))] [(.int b2)])) rfl (by rw [hml]; rfl) (argsL := [(.int b2)]) (rest := []) (lenOf own_pd0 rfl) rfl (by show 2 * 0 + _ ≤ _; exact Nat.le_of_eq rfl) (hb hby own_d3_10) (fun _ _ => ⟨rfl, hh7, (by decide : 0 + 0 ≤ _), (by decide : 0 + 0 ≤ _)⟩)
    dsimp only [Pt.U, Pt.locs, Pt.cells, Pt.slots] at X15 l15 y15 z15 st15 hQ15
    subst l15 y15 z15
    obtain ⟨rfl, N15q, hh15⟩ := hQ15
    have N15 := Fr.app N7 N15q
    have G15 : Goes p e below s₁ (entryFrame m #[(.ref a1), (.int (1 : Int32)), (.int (3 : Int32))] 4) T15 (mkF m 13 #[.val (.ref a1), .val (.int (1 : Int32)), .val (.int (3 : Int32)), .val (.int (2 : Int32))] [(.int (own_le b2))]) := fun _ k => G14 _ (st15 _ k)
    by_cases hq2 : (own_le b2) = (0 : Int32)
    · have G16 : Goes p e below s₁ (entryFrame m #[(.ref a1), (.int (1 : Int32)), (.int (3 : Int32))] 4) T15 (mkF m 23 #[.val (.ref a1), .val (.int (1 : Int32)), .val (.int (3 : Int32)), .val (.int (2 : Int32))] []) := fun _ k => G15 _ (by
          show Steps p.tables e below (T15.setTop (mkF m 13 #[.val (.ref a1), .val (.int (1 : Int32)), .val (.int (3 : Int32)), .val (.int (2 : Int32))] [(.int (own_le b2))])) _
          refine XS.ifYes X15.here hx rfl (pc0 := 13) (pc' := 23) rfl (hb hby own_d3_13) rfl ((if0 _ _).trans (teq hq2).1) (by decide) (by decide) ?_
          exact k)
      have G17 : Goes p e below s₁ (entryFrame m #[(.ref a1), (.int (1 : Int32)), (.int (3 : Int32))] 4) T15 (mkF m 2 #[.val (.ref a1), .val (.int (1 : Int32)), .val (.int (3 : Int32)), .val (.int (3 : Int32))] []) := fun _ k => G16 _ (by
          show Steps p.tables e below (T15.setTop (mkF m 23 #[.val (.ref a1), .val (.int (1 : Int32)), .val (.int (3 : Int32)), .val (.int (2 : Int32))] [])) _
          refine XS.iinc X15.here hx rfl (hb hby own_d3_23) rfl (l' := #[.val (.ref a1), .val (.int (1 : Int32)), .val (.int (3 : Int32)), .val (.int (3 : Int32))]) rfl ?_
          show Steps p.tables e below (T15.setTop (mkF m 26 #[.val (.ref a1), .val (.int (1 : Int32)), .val (.int (3 : Int32)), .val (.int (3 : Int32))] [])) _
          refine XS.goto X15.here hx rfl (pc0 := 26) (pc' := 2) rfl (hb hby own_d3_26) (by decide) (by decide) ?_
          exact k)
      have G18 : Goes p e below s₁ (entryFrame m #[(.ref a1), (.int (1 : Int32)), (.int (3 : Int32))] 4) T15 (mkF m 4 #[.val (.ref a1), .val (.int (1 : Int32)), .val (.int (3 : Int32)), .val (.int (3 : Int32))] [(.int (3 : Int32)), (.int (3 : Int32))]) := fun _ k => G17 _ (by
          show Steps p.tables e below (T15.setTop (mkF m 2 #[.val (.ref a1), .val (.int (1 : Int32)), .val (.int (3 : Int32)), .val (.int (3 : Int32))] [])) _
          refine XS.iloadN X15.here hx rfl (hb hby own_d3_2) rfl ?_
          show Steps p.tables e below (T15.setTop (mkF m 3 #[.val (.ref a1), .val (.int (1 : Int32)), .val (.int (3 : Int32)), .val (.int (3 : Int32))] [(.int (3 : Int32))])) _
          refine XS.iloadN X15.here hx rfl (hb hby own_d3_3) rfl ?_
          exact k)
      have G19 : Goes p e below s₁ (entryFrame m #[(.ref a1), (.int (1 : Int32)), (.int (3 : Int32))] 4) T15 (mkF m 29 #[.val (.ref a1), .val (.int (1 : Int32)), .val (.int (3 : Int32)), .val (.int (3 : Int32))] []) := fun _ k => G18 _ (by
          show Steps p.tables e below (T15.setTop (mkF m 4 #[.val (.ref a1), .val (.int (1 : Int32)), .val (.int (3 : Int32)), .val (.int (3 : Int32))] [(.int (3 : Int32)), (.int (3 : Int32))])) _
          refine XS.icmpYes X15.here hx rfl (pc0 := 4) (pc' := 29) rfl (hb hby own_d3_4) rfl (flt (by decide : ¬ ((3 : Int32) < (3 : Int32)))).2.1 (by decide) (by decide) ?_
          exact k)
      have G20 : Goes p e below s₁ (entryFrame m #[(.ref a1), (.int (1 : Int32)), (.int (3 : Int32))] 4) T15 (mkF m 30 #[.val (.ref a1), .val (.int (1 : Int32)), .val (.int (3 : Int32)), .val (.int (3 : Int32))] [(.int (3 : Int32))]) := fun _ k => G19 _ (by
          show Steps p.tables e below (T15.setTop (mkF m 29 #[.val (.ref a1), .val (.int (1 : Int32)), .val (.int (3 : Int32)), .val (.int (3 : Int32))] [])) _
          refine XS.iloadN X15.here hx rfl (hb hby own_d3_29) rfl ?_
          exact k)
      obtain ⟨fs, hr, hrun, hended, hW, hsame⟩ := X15.leave (v := some (.int (3 : Int32))) (fun h => by rw [Bd.returns] at h; cases h)
      refine ⟨_, _, G20 _ (retI X15 hx Bd.returns (hb hby own_d3_30) hr), hrun, hended, _, _, rfl, ?_, ⟨_, rfl⟩, hW, hsame.mono (by decide) (by decide)⟩
      show Q3_1 b0 b1 b2 h0 n0 _ T15.heap _
      rw [hh15]
      exact ⟨by simp [own_nl0, own_nl1, own_nl2, hq1, hq2], N15, rfl⟩
    · have G21 : Goes p e below s₁ (entryFrame m #[(.ref a1), (.int (1 : Int32)), (.int (3 : Int32))] 4) T15 (mkF m 16 #[.val (.ref a1), .val (.int (1 : Int32)), .val (.int (3 : Int32)), .val (.int (2 : Int32))] []) := fun _ k => G15 _ (by
          show Steps p.tables e below (T15.setTop (mkF m 13 #[.val (.ref a1), .val (.int (1 : Int32)), .val (.int (3 : Int32)), .val (.int (2 : Int32))] [(.int (own_le b2))])) _
          refine XS.ifNo X15.here hx rfl (hb hby own_d3_13) rfl ((if0 _ _).trans (feq hq2).1) ?_
          exact k)
      have G22 : Goes p e below s₁ (entryFrame m #[(.ref a1), (.int (1 : Int32)), (.int (3 : Int32))] 4) T15 (mkF m 19 #[.val (.ref a1), .val (.int (1 : Int32)), .val (.int (3 : Int32)), .val (.int (2 : Int32))] [(.int (3 : Int32)), (.int (2 : Int32)), (.ref a1)]) := fun _ k => G21 _ (by
          show Steps p.tables e below (T15.setTop (mkF m 16 #[.val (.ref a1), .val (.int (1 : Int32)), .val (.int (3 : Int32)), .val (.int (2 : Int32))] [])) _
          refine XS.aloadN X15.here hx rfl (hb hby own_d3_16) rfl rfl ?_
          show Steps p.tables e below (T15.setTop (mkF m 17 #[.val (.ref a1), .val (.int (1 : Int32)), .val (.int (3 : Int32)), .val (.int (2 : Int32))] [(.ref a1)])) _
          refine XS.iloadN X15.here hx rfl (hb hby own_d3_17) rfl ?_
          show Steps p.tables e below (T15.setTop (mkF m 18 #[.val (.ref a1), .val (.int (1 : Int32)), .val (.int (3 : Int32)), .val (.int (2 : Int32))] [(.int (2 : Int32)), (.ref a1)])) _
          refine XS.iloadN X15.here hx rfl (hb hby own_d3_18) rfl ?_
          exact k)
      obtain ⟨_, _, ⟨T23, L23, k23, n23⟩, -, X23, ⟨Lc23, hQ23, l23, y23, z23⟩, st23⟩ := Jvm.LawKit.callS X15 hx (y := (⟨"com/example/covary/covary/CsvLines", "afterLineEnd", "([BII)I"⟩ : MethodName)) hown (mvT hZ (hw _ (List.mem_of_getElem? (i := 15) rfl))) (mvT hZ (hw _ (List.mem_of_getElem? (i := 16) rfl))) (mvT hZ (hw _ (List.mem_of_getElem? (i := 7) rfl))) (mvT hZ (hw _ (List.mem_of_getElem? (i := 17) rfl))) (by decide) (backOf (W := 0) (rm5_2 l Z a0 hw [] a1 k1 b0 b1 b2 h0 n0 Z0 V) hZ (hw _ (List.mem_of_getElem? (i := 17) rfl)) (hw _ (List.mem_of_getElem? (i := 7) rfl)) (by decide) (by decide)) (g := (mkF m 19 #[.val (.ref a1), .val (.int (1 : Int32)), .val (.int (3 : Int32)), .val (.int (2 : Int32))] [(.int (3 : Int32)), (.int (2 : Int32)), (.ref a1)])) rfl (by rw [hml]; rfl) (argsL := [(.ref a1), (.int (2 : Int32)), (.int (3 : Int32))]) (rest := []) (lenOf own_pd1 rfl) rfl (by show 2 * 0 + _ ≤ _; exact Nat.le_of_eq rfl) (hb hby own_d3_19) (fun _ _ => ⟨rfl, hh15, (by decide : 0 + 0 ≤ _), (by decide : 0 + 0 ≤ _)⟩)
      dsimp only [Pt.U, Pt.locs, Pt.cells, Pt.slots] at X23 l23 y23 z23 st23 hQ23
      subst l23 y23 z23
      obtain ⟨rfl, N23q, hh23⟩ := hQ23
      have N23 := Fr.app N15 N23q
      have G23 : Goes p e below s₁ (entryFrame m #[(.ref a1), (.int (1 : Int32)), (.int (3 : Int32))] 4) T23 (mkF m 22 #[.val (.ref a1), .val (.int (1 : Int32)), .val (.int (3 : Int32)), .val (.int (2 : Int32))] [(.int (3 : Int32))]) := fun _ k => G22 _ (st23 _ k)
      obtain ⟨fs, hr, hrun, hended, hW, hsame⟩ := X23.leave (v := some (.int (3 : Int32))) (fun h => by rw [Bd.returns] at h; cases h)
      refine ⟨_, _, G23 _ (retI X23 hx Bd.returns (hb hby own_d3_22) hr), hrun, hended, _, _, rfl, ?_, ⟨_, rfl⟩, hW, hsame.mono (by decide) (by decide)⟩
      show Q3_1 b0 b1 b2 h0 n0 _ T23.heap _
      rw [hh23]
      exact ⟨by simp [own_nl0, own_nl1, own_nl2, hq1, hq2], N23, rfl⟩
  · have G24 : Goes p e below s₁ (entryFrame m #[(.ref a1), (.int (1 : Int32)), (.int (3 : Int32))] 4) T7 (mkF m 16 #[.val (.ref a1), .val (.int (1 : Int32)), .val (.int (3 : Int32)), .val (.int (1 : Int32))] []) := fun _ k => G7 _ (by
        show Steps p.tables e below (T7.setTop (mkF m 13 #[.val (.ref a1), .val (.int (1 : Int32)), .val (.int (3 : Int32)), .val (.int (1 : Int32))] [(.int (own_le b1))])) _
        refine XS.ifNo X7.here hx rfl (hb hby own_d3_13) rfl ((if0 _ _).trans (feq hq1).1) ?_
        exact k)
    have G25 : Goes p e below s₁ (entryFrame m #[(.ref a1), (.int (1 : Int32)), (.int (3 : Int32))] 4) T7 (mkF m 19 #[.val (.ref a1), .val (.int (1 : Int32)), .val (.int (3 : Int32)), .val (.int (1 : Int32))] [(.int (3 : Int32)), (.int (1 : Int32)), (.ref a1)]) := fun _ k => G24 _ (by
        show Steps p.tables e below (T7.setTop (mkF m 16 #[.val (.ref a1), .val (.int (1 : Int32)), .val (.int (3 : Int32)), .val (.int (1 : Int32))] [])) _
        refine XS.aloadN X7.here hx rfl (hb hby own_d3_16) rfl rfl ?_
        show Steps p.tables e below (T7.setTop (mkF m 17 #[.val (.ref a1), .val (.int (1 : Int32)), .val (.int (3 : Int32)), .val (.int (1 : Int32))] [(.ref a1)])) _
        refine XS.iloadN X7.here hx rfl (hb hby own_d3_17) rfl ?_
        show Steps p.tables e below (T7.setTop (mkF m 18 #[.val (.ref a1), .val (.int (1 : Int32)), .val (.int (3 : Int32)), .val (.int (1 : Int32))] [(.int (1 : Int32)), (.ref a1)])) _
        refine XS.iloadN X7.here hx rfl (hb hby own_d3_18) rfl ?_
        exact k)
    obtain ⟨_, _, ⟨T26, L26, k26, n26⟩, -, X26, ⟨Lc26, hQ26, l26, y26, z26⟩, st26⟩ := Jvm.LawKit.callS X7 hx (y := (⟨"com/example/covary/covary/CsvLines", "afterLineEnd", "([BII)I"⟩ : MethodName)) hown (mvT hZ (hw _ (List.mem_of_getElem? (i := 15) rfl))) (mvT hZ (hw _ (List.mem_of_getElem? (i := 16) rfl))) (mvT hZ (hw _ (List.mem_of_getElem? (i := 7) rfl))) (mvT hZ (hw _ (List.mem_of_getElem? (i := 17) rfl))) (by decide) (backOf (W := 0) (rm5_1 l Z a0 hw [] a1 k1 b0 b1 b2 h0 n0 Z0 V) hZ (hw _ (List.mem_of_getElem? (i := 17) rfl)) (hw _ (List.mem_of_getElem? (i := 7) rfl)) (by decide) (by decide)) (g := (mkF m 19 #[.val (.ref a1), .val (.int (1 : Int32)), .val (.int (3 : Int32)), .val (.int (1 : Int32))] [(.int (3 : Int32)), (.int (1 : Int32)), (.ref a1)])) rfl (by rw [hml]; rfl) (argsL := [(.ref a1), (.int (1 : Int32)), (.int (3 : Int32))]) (rest := []) (lenOf own_pd1 rfl) rfl (by show 2 * 0 + _ ≤ _; exact Nat.le_of_eq rfl) (hb hby own_d3_19) (fun _ _ => ⟨rfl, hh7, (by decide : 0 + 0 ≤ _), (by decide : 0 + 0 ≤ _)⟩)
    dsimp only [Pt.U, Pt.locs, Pt.cells, Pt.slots] at X26 l26 y26 z26 st26 hQ26
    subst l26 y26 z26
    obtain ⟨rfl, N26q, hh26⟩ := hQ26
    have N26 := Fr.app N7 N26q
    have G26 : Goes p e below s₁ (entryFrame m #[(.ref a1), (.int (1 : Int32)), (.int (3 : Int32))] 4) T26 (mkF m 22 #[.val (.ref a1), .val (.int (1 : Int32)), .val (.int (3 : Int32)), .val (.int (1 : Int32))] [(.int (own_al1 b1 b2))]) := fun _ k => G25 _ (st26 _ k)
    obtain ⟨fs, hr, hrun, hended, hW, hsame⟩ := X26.leave (v := some (.int (own_al1 b1 b2))) (fun h => by rw [Bd.returns] at h; cases h)
    refine ⟨_, _, G26 _ (retI X26 hx Bd.returns (hb hby own_d3_22) hr), hrun, hended, _, _, rfl, ?_, ⟨_, rfl⟩, hW, hsame.mono (by decide) (by decide)⟩
    show Q3_1 b0 b1 b2 h0 n0 _ T26.heap _
    rw [hh26]
    exact ⟨by simp [own_nl0, own_nl1, own_nl2, hq1], N26, rfl⟩
set_option maxRecDepth 65536 in
set_option maxHeartbeats 40000000 in
theorem rm0 (l : Launch) (Z : State) (a0 : Array Value) (hw : ∀ d ∈ tables_1, d.before a0 Z = true) (ws : List Jvm.Cond) (p1 p2 p3 p4 : Int32) (h0 : Heap) (n0 : Nat) (Z0 : n0 ≤ h0.size)  :
    MetFree l x (head1 (Jvm.Cond.code x code maxLocals ret :: ws) room_1) (fun a U => a = #[(.int p1), (.int p2), (.int p3), (.int p4)] ∧ Z.Warmed39 U.vm ∧ U.heap = h0) (fun _ _ _ _ _ => True) (fun _ U oc U' => ∃ v L, oc = .returned v ∧ Q0 n0 v U'.heap L ∧ FrameEnd U oc U' L 16 128) := by
  refine MetFree.of_bodySF (plainFor_of_name own_pn0) hisR ?_
  intro p e s m args below meth c s₁ Bd hml0 hP hK
  obtain ⟨rfl, hZ, hh⟩ := hP
  have hx := Bd.exec
  have hby := Bd.bytes
  have hml : c.maxLocals = 11 := hml0
  have hown : s.vm.findClass "com/example/covary/covary/CsvLinesStartsLinePinLaw" = some m.cls := findClass_of_methodNamed Bd.named
  have hnm := (name_of_methodNamed Bd.named Bd.method).1
  have X0 : Stand p l e room_1 s m #[(.int p1), (.int p2), (.int p3), (.int p4)] below meth c s₁ [] 0 0 := Stand.of_body Bd
  have e0 : s₁.heap = h0 := by rw [← hh, Bd.state]; rfl
  have N0 := Fr.nil n0
  have G0 : Goes p e below s₁ (entryFrame m #[(.int p1), (.int p2), (.int p3), (.int p4)] maxLocals) s₁ (mkF m 0 #[.val (.int p1), .val (.int p2), .val (.int p3), .val (.int p4), .unset, .unset, .unset, .unset, .unset, .unset, .unset] []) := fun _ k => castTop (by first | (simp [entryFrame, mkF, argsToLocals, Value.category, maxLocals]; done) | rfl : (entryFrame m #[(.int p1), (.int p2), (.int p3), (.int p4)] maxLocals) = mkF m 0 #[.val (.int p1), .val (.int p2), .val (.int p3), .val (.int p4), .unset, .unset, .unset, .unset, .unset, .unset, .unset] []) k
  have G1 : Goes p e below s₁ (entryFrame m #[(.int p1), (.int p2), (.int p3), (.int p4)] maxLocals) s₁ (mkF m 1 #[.val (.int p1), .val (.int p2), .val (.int p3), .val (.int p4), .unset, .unset, .unset, .unset, .unset, .unset, .unset] [(.int (3 : Int32))]) := fun _ k => G0 _ (by
      show Steps p.tables e below (s₁.setTop (mkF m 0 #[.val (.int p1), .val (.int p2), .val (.int p3), .val (.int p4), .unset, .unset, .unset, .unset, .unset, .unset, .unset] [])) _
      refine XS.iconst X0.here hx rfl (hb hby at_0) ?_
      exact k)
  obtain ⟨T2, h2, k2, X2, e2, E2, A2, st2⟩ := newP X0 hx hZ (hw _ (List.mem_of_getElem? (i := 0) rfl)) e0 (g := (mkF m 1 #[.val (.int p1), .val (.int p2), .val (.int p3), .val (.int p4), .unset, .unset, .unset, .unset, .unset, .unset, .unset] [(.int (3 : Int32))])) rfl (hb hby at_1) rfl (by decide) (cap := 3) (by decide) (by decide) (by decide) (by decide)
  obtain ⟨b2, g2⟩ : ∃ z, z = h0.size := ⟨_, rfl⟩
  rw [← g2] at A2 st2
  have V2 : Arv Z h2 b2 k2 .byte (3 : Int32) [(.int (0 : Int32)), (.int (0 : Int32)), (.int (0 : Int32))] (.int (0 : Int32)) := (Arv.new A2 (by decide)).pad (pad_rep [] (.int (0 : Int32)) 3)
  have G2 : Goes p e below s₁ (entryFrame m #[(.int p1), (.int p2), (.int p3), (.int p4)] maxLocals) T2 (mkF m 3 #[.val (.int p1), .val (.int p2), .val (.int p3), .val (.int p4), .unset, .unset, .unset, .unset, .unset, .unset, .unset] [(.ref b2)]) := fun _ k => G1 _ (st2 _ k)
  have gb : n0 ≤ b2 := Nat.le_trans Z0 (Nat.le_of_eq g2.symm)
  have Zn : n0 ≤ h2.size := Nat.le_trans Z0 E2.1
  have G3 : Goes p e below s₁ (entryFrame m #[(.int p1), (.int p2), (.int p3), (.int p4)] maxLocals) T2 (mkF m 9 #[.val (.int p1), .val (.int p2), .val (.int p3), .val (.int p4), .val (.ref b2), .unset, .unset, .unset, .unset, .unset, .unset] [(.int p1), (.int (0 : Int32)), (.ref b2)]) := fun _ k => G2 _ (by
      show Steps p.tables e below (T2.setTop (mkF m 3 #[.val (.int p1), .val (.int p2), .val (.int p3), .val (.int p4), .unset, .unset, .unset, .unset, .unset, .unset, .unset] [(.ref b2)])) _
      refine XS.astore X2.here hx rfl (hb hby at_3) rfl rfl (l' := #[.val (.int p1), .val (.int p2), .val (.int p3), .val (.int p4), .val (.ref b2), .unset, .unset, .unset, .unset, .unset, .unset]) rfl ?_
      show Steps p.tables e below (T2.setTop (mkF m 5 #[.val (.int p1), .val (.int p2), .val (.int p3), .val (.int p4), .val (.ref b2), .unset, .unset, .unset, .unset, .unset, .unset] [])) _
      refine XS.aload X2.here hx rfl (hb hby at_5) rfl rfl ?_
      show Steps p.tables e below (T2.setTop (mkF m 7 #[.val (.int p1), .val (.int p2), .val (.int p3), .val (.int p4), .val (.ref b2), .unset, .unset, .unset, .unset, .unset, .unset] [(.ref b2)])) _
      refine XS.iconst X2.here hx rfl (hb hby at_7) ?_
      show Steps p.tables e below (T2.setTop (mkF m 8 #[.val (.int p1), .val (.int p2), .val (.int p3), .val (.int p4), .val (.ref b2), .unset, .unset, .unset, .unset, .unset, .unset] [(.int (0 : Int32)), (.ref b2)])) _
      refine XS.iloadN X2.here hx rfl (hb hby at_8) rfl ?_
      exact k)
  obtain ⟨_, _, ⟨T4, L4, k4, n4⟩, -, X4, ⟨Lc4, hQ4, l4, y4, z4⟩, st4⟩ := Jvm.LawKit.callS X2 hx (y := (⟨"com/example/covary/covary/CsvLinesStartsLinePinLaw", "pick", "(I)B"⟩ : MethodName)) hown (mvT hZ (hw _ (List.mem_of_getElem? (i := 1) rfl))) (mvT hZ (hw _ (List.mem_of_getElem? (i := 2) rfl))) (mvT hZ (hw _ (List.mem_of_getElem? (i := 3) rfl))) (mvT hZ (hw _ (List.mem_of_getElem? (i := 4) rfl))) (by decide) (backOf (W := 2) (rm1 l Z a0 hw [] p1 h2 n0 Zn) hZ (hw _ (List.mem_of_getElem? (i := 4) rfl)) (hw _ (List.mem_of_getElem? (i := 3) rfl)) (by decide) (by decide)) (g := (mkF m 9 #[.val (.int p1), .val (.int p2), .val (.int p3), .val (.int p4), .val (.ref b2), .unset, .unset, .unset, .unset, .unset, .unset] [(.int p1), (.int (0 : Int32)), (.ref b2)])) rfl (by rw [hml]; rfl) (argsL := [(.int p1)]) (rest := [(.int (0 : Int32)), (.ref b2)]) (lenOf own_pd2 rfl) rfl (by show 2 * 0 + _ ≤ _; exact Nat.le_of_eq rfl) (hb hby at_9) (fun _ _ => ⟨rfl, e2, (by decide : 1 + 0 ≤ _), (by decide : 3 + 0 ≤ _)⟩)
  dsimp only [Pt.U, Pt.locs, Pt.cells, Pt.slots] at X4 l4 y4 z4 st4 hQ4
  subst l4 y4 z4
  obtain ⟨x4, rfl, N4q, hh4⟩ := hQ4
  have N4 := Fr.app N0 N4q
  have G4 : Goes p e below s₁ (entryFrame m #[(.int p1), (.int p2), (.int p3), (.int p4)] maxLocals) T4 (mkF m 12 #[.val (.int p1), .val (.int p2), .val (.int p3), .val (.int p4), .val (.ref b2), .unset, .unset, .unset, .unset, .unset, .unset] [(.int x4), (.int (0 : Int32)), (.ref b2)]) := fun _ k => G3 _ (st4 _ k)
  obtain ⟨c0, hc0⟩ : ∃ z : Int32, z = nar .byte x4 := ⟨_, rfl⟩
  have vc5 := V2
  obtain ⟨cl5, Ar5, q5, S5, M5, H5, J5⟩ := vc5
  have hin5 : ¬ ((0 : Int32) < 0 ∨ cl5.slots.size ≤ ((0 : Int32)).toNatClampNeg) := inb_of S5 ⟨by decide, by decide⟩
  obtain ⟨T5, h5, X5, e5, W5, st5⟩ := stB X4 hx hZ hh4 Ar5 (j := (0 : Int32)) hin5 (g := (mkF m 12 #[.val (.int p1), .val (.int p2), .val (.int p3), .val (.int p4), .val (.ref b2), .unset, .unset, .unset, .unset, .unset, .unset] [(.int x4), (.int (0 : Int32)), (.ref b2)])) rfl rfl (hb hby at_12)
  have V5 : Arv Z h5 b2 k2 .byte (3 : Int32) [(.int (nar .byte x4)), (.int (0 : Int32)), (.int (0 : Int32))] (.int (0 : Int32)) := Arv.set Ar5 q5 S5 M5 H5 J5 (fits_nar_byte _) W5 0 rfl (Nat.le_of_ble_eq_true rfl)
  have G5 : Goes p e below s₁ (entryFrame m #[(.int p1), (.int p2), (.int p3), (.int p4)] maxLocals) T5 (mkF m 13 #[.val (.int p1), .val (.int p2), .val (.int p3), .val (.int p4), .val (.ref b2), .unset, .unset, .unset, .unset, .unset, .unset] []) := fun _ k => G4 _ (st5 _ k)
  have N5 := Fr.snoc X5 N4 gb
  have Zn : n0 ≤ h5.size := Nat.le_trans Zn (Nat.le_of_eq W5.size.symm)
  have G6 : Goes p e below s₁ (entryFrame m #[(.int p1), (.int p2), (.int p3), (.int p4)] maxLocals) T5 (mkF m 17 #[.val (.int p1), .val (.int p2), .val (.int p3), .val (.int p4), .val (.ref b2), .unset, .unset, .unset, .unset, .unset, .unset] [(.int p2), (.int (1 : Int32)), (.ref b2)]) := fun _ k => G5 _ (by
      show Steps p.tables e below (T5.setTop (mkF m 13 #[.val (.int p1), .val (.int p2), .val (.int p3), .val (.int p4), .val (.ref b2), .unset, .unset, .unset, .unset, .unset, .unset] [])) _
      refine XS.aload X5.here hx rfl (hb hby at_13) rfl rfl ?_
      show Steps p.tables e below (T5.setTop (mkF m 15 #[.val (.int p1), .val (.int p2), .val (.int p3), .val (.int p4), .val (.ref b2), .unset, .unset, .unset, .unset, .unset, .unset] [(.ref b2)])) _
      refine XS.iconst X5.here hx rfl (hb hby at_15) ?_
      show Steps p.tables e below (T5.setTop (mkF m 16 #[.val (.int p1), .val (.int p2), .val (.int p3), .val (.int p4), .val (.ref b2), .unset, .unset, .unset, .unset, .unset, .unset] [(.int (1 : Int32)), (.ref b2)])) _
      refine XS.iloadN X5.here hx rfl (hb hby at_16) rfl ?_
      exact k)
  obtain ⟨_, _, ⟨T7, L7, k7, n7⟩, -, X7, ⟨Lc7, hQ7, l7, y7, z7⟩, st7⟩ := Jvm.LawKit.callS X5 hx (y := (⟨"com/example/covary/covary/CsvLinesStartsLinePinLaw", "pick", "(I)B"⟩ : MethodName)) hown (mvT hZ (hw _ (List.mem_of_getElem? (i := 1) rfl))) (mvT hZ (hw _ (List.mem_of_getElem? (i := 2) rfl))) (mvT hZ (hw _ (List.mem_of_getElem? (i := 3) rfl))) (mvT hZ (hw _ (List.mem_of_getElem? (i := 4) rfl))) (by decide) (backOf (W := 2) (rm1 l Z a0 hw [] p2 h5 n0 Zn) hZ (hw _ (List.mem_of_getElem? (i := 4) rfl)) (hw _ (List.mem_of_getElem? (i := 3) rfl)) (by decide) (by decide)) (g := (mkF m 17 #[.val (.int p1), .val (.int p2), .val (.int p3), .val (.int p4), .val (.ref b2), .unset, .unset, .unset, .unset, .unset, .unset] [(.int p2), (.int (1 : Int32)), (.ref b2)])) rfl (by rw [hml]; rfl) (argsL := [(.int p2)]) (rest := [(.int (1 : Int32)), (.ref b2)]) (lenOf own_pd2 rfl) rfl (by show 2 * 0 + _ ≤ _; exact Nat.le_of_eq rfl) (hb hby at_17) (fun _ _ => ⟨rfl, e5, (by decide : 1 + 0 ≤ _), (by decide : 3 + 0 ≤ _)⟩)
  dsimp only [Pt.U, Pt.locs, Pt.cells, Pt.slots] at X7 l7 y7 z7 st7 hQ7
  subst l7 y7 z7
  obtain ⟨x7, rfl, N7q, hh7⟩ := hQ7
  have N7 := Fr.app N5 N7q
  have G7 : Goes p e below s₁ (entryFrame m #[(.int p1), (.int p2), (.int p3), (.int p4)] maxLocals) T7 (mkF m 20 #[.val (.int p1), .val (.int p2), .val (.int p3), .val (.int p4), .val (.ref b2), .unset, .unset, .unset, .unset, .unset, .unset] [(.int x7), (.int (1 : Int32)), (.ref b2)]) := fun _ k => G6 _ (st7 _ k)
  obtain ⟨c1, hc1⟩ : ∃ z : Int32, z = nar .byte x7 := ⟨_, rfl⟩
  have vc8 := V5
  obtain ⟨cl8, Ar8, q8, S8, M8, H8, J8⟩ := vc8
  have hin8 : ¬ ((1 : Int32) < 0 ∨ cl8.slots.size ≤ ((1 : Int32)).toNatClampNeg) := inb_of S8 ⟨by decide, by decide⟩
  obtain ⟨T8, h8, X8, e8, W8, st8⟩ := stB X7 hx hZ hh7 Ar8 (j := (1 : Int32)) hin8 (g := (mkF m 20 #[.val (.int p1), .val (.int p2), .val (.int p3), .val (.int p4), .val (.ref b2), .unset, .unset, .unset, .unset, .unset, .unset] [(.int x7), (.int (1 : Int32)), (.ref b2)])) rfl rfl (hb hby at_20)
  have V8 : Arv Z h8 b2 k2 .byte (3 : Int32) [(.int (nar .byte x4)), (.int (nar .byte x7)), (.int (0 : Int32))] (.int (0 : Int32)) := Arv.set Ar8 q8 S8 M8 H8 J8 (fits_nar_byte _) W8 1 rfl (Nat.le_of_ble_eq_true rfl)
  have G8 : Goes p e below s₁ (entryFrame m #[(.int p1), (.int p2), (.int p3), (.int p4)] maxLocals) T8 (mkF m 21 #[.val (.int p1), .val (.int p2), .val (.int p3), .val (.int p4), .val (.ref b2), .unset, .unset, .unset, .unset, .unset, .unset] []) := fun _ k => G7 _ (st8 _ k)
  have N8 := Fr.snoc X8 N7 gb
  have Zn : n0 ≤ h8.size := Nat.le_trans Zn (Nat.le_of_eq W8.size.symm)
  have G9 : Goes p e below s₁ (entryFrame m #[(.int p1), (.int p2), (.int p3), (.int p4)] maxLocals) T8 (mkF m 25 #[.val (.int p1), .val (.int p2), .val (.int p3), .val (.int p4), .val (.ref b2), .unset, .unset, .unset, .unset, .unset, .unset] [(.int p3), (.int (2 : Int32)), (.ref b2)]) := fun _ k => G8 _ (by
      show Steps p.tables e below (T8.setTop (mkF m 21 #[.val (.int p1), .val (.int p2), .val (.int p3), .val (.int p4), .val (.ref b2), .unset, .unset, .unset, .unset, .unset, .unset] [])) _
      refine XS.aload X8.here hx rfl (hb hby at_21) rfl rfl ?_
      show Steps p.tables e below (T8.setTop (mkF m 23 #[.val (.int p1), .val (.int p2), .val (.int p3), .val (.int p4), .val (.ref b2), .unset, .unset, .unset, .unset, .unset, .unset] [(.ref b2)])) _
      refine XS.iconst X8.here hx rfl (hb hby at_23) ?_
      show Steps p.tables e below (T8.setTop (mkF m 24 #[.val (.int p1), .val (.int p2), .val (.int p3), .val (.int p4), .val (.ref b2), .unset, .unset, .unset, .unset, .unset, .unset] [(.int (2 : Int32)), (.ref b2)])) _
      refine XS.iloadN X8.here hx rfl (hb hby at_24) rfl ?_
      exact k)
  obtain ⟨_, _, ⟨T10, L10, k10, n10⟩, -, X10, ⟨Lc10, hQ10, l10, y10, z10⟩, st10⟩ := Jvm.LawKit.callS X8 hx (y := (⟨"com/example/covary/covary/CsvLinesStartsLinePinLaw", "pick", "(I)B"⟩ : MethodName)) hown (mvT hZ (hw _ (List.mem_of_getElem? (i := 1) rfl))) (mvT hZ (hw _ (List.mem_of_getElem? (i := 2) rfl))) (mvT hZ (hw _ (List.mem_of_getElem? (i := 3) rfl))) (mvT hZ (hw _ (List.mem_of_getElem? (i := 4) rfl))) (by decide) (backOf (W := 2) (rm1 l Z a0 hw [] p3 h8 n0 Zn) hZ (hw _ (List.mem_of_getElem? (i := 4) rfl)) (hw _ (List.mem_of_getElem? (i := 3) rfl)) (by decide) (by decide)) (g := (mkF m 25 #[.val (.int p1), .val (.int p2), .val (.int p3), .val (.int p4), .val (.ref b2), .unset, .unset, .unset, .unset, .unset, .unset] [(.int p3), (.int (2 : Int32)), (.ref b2)])) rfl (by rw [hml]; rfl) (argsL := [(.int p3)]) (rest := [(.int (2 : Int32)), (.ref b2)]) (lenOf own_pd2 rfl) rfl (by show 2 * 0 + _ ≤ _; exact Nat.le_of_eq rfl) (hb hby at_25) (fun _ _ => ⟨rfl, e8, (by decide : 1 + 0 ≤ _), (by decide : 3 + 0 ≤ _)⟩)
  dsimp only [Pt.U, Pt.locs, Pt.cells, Pt.slots] at X10 l10 y10 z10 st10 hQ10
  subst l10 y10 z10
  obtain ⟨x10, rfl, N10q, hh10⟩ := hQ10
  have N10 := Fr.app N8 N10q
  have G10 : Goes p e below s₁ (entryFrame m #[(.int p1), (.int p2), (.int p3), (.int p4)] maxLocals) T10 (mkF m 28 #[.val (.int p1), .val (.int p2), .val (.int p3), .val (.int p4), .val (.ref b2), .unset, .unset, .unset, .unset, .unset, .unset] [(.int x10), (.int (2 : Int32)), (.ref b2)]) := fun _ k => G9 _ (st10 _ k)
  obtain ⟨c2, hc2⟩ : ∃ z : Int32, z = nar .byte x10 := ⟨_, rfl⟩
  have vc11 := V8
  obtain ⟨cl11, Ar11, q11, S11, M11, H11, J11⟩ := vc11
  have hin11 : ¬ ((2 : Int32) < 0 ∨ cl11.slots.size ≤ ((2 : Int32)).toNatClampNeg) := inb_of S11 ⟨by decide, by decide⟩
  obtain ⟨T11, h11, X11, e11, W11, st11⟩ := stB X10 hx hZ hh10 Ar11 (j := (2 : Int32)) hin11 (g := (mkF m 28 #[.val (.int p1), .val (.int p2), .val (.int p3), .val (.int p4), .val (.ref b2), .unset, .unset, .unset, .unset, .unset, .unset] [(.int x10), (.int (2 : Int32)), (.ref b2)])) rfl rfl (hb hby at_28)
  have V11 : Arv Z h11 b2 k2 .byte (3 : Int32) [(.int (nar .byte x4)), (.int (nar .byte x7)), (.int (nar .byte x10))] (.int (0 : Int32)) := Arv.set Ar11 q11 S11 M11 H11 J11 (fits_nar_byte _) W11 2 rfl (Nat.le_of_ble_eq_true rfl)
  have G11 : Goes p e below s₁ (entryFrame m #[(.int p1), (.int p2), (.int p3), (.int p4)] maxLocals) T11 (mkF m 29 #[.val (.int p1), .val (.int p2), .val (.int p3), .val (.int p4), .val (.ref b2), .unset, .unset, .unset, .unset, .unset, .unset] []) := fun _ k => G10 _ (st11 _ k)
  have N11 := Fr.snoc X11 N10 gb
  have Zn : n0 ≤ h11.size := Nat.le_trans Zn (Nat.le_of_eq W11.size.symm)
  rw [← hc0] at V11
  rw [← hc1] at V11
  rw [← hc2] at V11
  have G12 : Goes p e below s₁ (entryFrame m #[(.int p1), (.int p2), (.int p3), (.int p4)] maxLocals) T11 (mkF m 36 #[.val (.int p1), .val (.int p2), .val (.int p3), .val (.int p4), .val (.ref b2), .val (.int ((1 : Int32) + (p4 &&& (1 : Int32)))), .unset, .unset, .unset, .unset, .unset] []) := fun _ k => G11 _ (by
      show Steps p.tables e below (T11.setTop (mkF m 29 #[.val (.int p1), .val (.int p2), .val (.int p3), .val (.int p4), .val (.ref b2), .unset, .unset, .unset, .unset, .unset, .unset] [])) _
      refine XS.iconst X11.here hx rfl (hb hby at_29) ?_
      show Steps p.tables e below (T11.setTop (mkF m 30 #[.val (.int p1), .val (.int p2), .val (.int p3), .val (.int p4), .val (.ref b2), .unset, .unset, .unset, .unset, .unset, .unset] [(.int (1 : Int32))])) _
      refine XS.iloadN X11.here hx rfl (hb hby at_30) rfl ?_
      show Steps p.tables e below (T11.setTop (mkF m 31 #[.val (.int p1), .val (.int p2), .val (.int p3), .val (.int p4), .val (.ref b2), .unset, .unset, .unset, .unset, .unset, .unset] [(.int p4), (.int (1 : Int32))])) _
      refine XS.iconst X11.here hx rfl (hb hby at_31) ?_
      show Steps p.tables e below (T11.setTop (mkF m 32 #[.val (.int p1), .val (.int p2), .val (.int p3), .val (.int p4), .val (.ref b2), .unset, .unset, .unset, .unset, .unset, .unset] [(.int (1 : Int32)), (.int p4), (.int (1 : Int32))])) _
      refine XS.iand X11.here hx rfl (hb hby at_32) rfl ?_
      show Steps p.tables e below (T11.setTop (mkF m 33 #[.val (.int p1), .val (.int p2), .val (.int p3), .val (.int p4), .val (.ref b2), .unset, .unset, .unset, .unset, .unset, .unset] [(.int (p4 &&& (1 : Int32))), (.int (1 : Int32))])) _
      refine XS.iadd X11.here hx rfl (hb hby at_33) rfl ?_
      show Steps p.tables e below (T11.setTop (mkF m 34 #[.val (.int p1), .val (.int p2), .val (.int p3), .val (.int p4), .val (.ref b2), .unset, .unset, .unset, .unset, .unset, .unset] [(.int ((1 : Int32) + (p4 &&& (1 : Int32))))])) _
      refine XS.istore X11.here hx rfl (hb hby at_34) rfl (l' := #[.val (.int p1), .val (.int p2), .val (.int p3), .val (.int p4), .val (.ref b2), .val (.int ((1 : Int32) + (p4 &&& (1 : Int32)))), .unset, .unset, .unset, .unset, .unset]) rfl ?_
      exact k)
  have hs : (1 : Int32) + (p4 &&& 1) = 1 ∨ (1 : Int32) + (p4 &&& 1) = 2 := by rcases and_one p4 with h | h <;> rw [h] <;> decide
  rcases hs with hs | hs
  · rw [hs] at G12
    have G13 : Goes p e below s₁ (entryFrame m #[(.int p1), (.int p2), (.int p3), (.int p4)] maxLocals) T11 (mkF m 42 #[.val (.int p1), .val (.int p2), .val (.int p3), .val (.int p4), .val (.ref b2), .val (.int (1 : Int32)), .unset, .unset, .unset, .unset, .unset] [(.int (0 : Int32)), (.ref b2)]) := fun _ k => G12 _ (by
        show Steps p.tables e below (T11.setTop (mkF m 36 #[.val (.int p1), .val (.int p2), .val (.int p3), .val (.int p4), .val (.ref b2), .val (.int (1 : Int32)), .unset, .unset, .unset, .unset, .unset] [])) _
        refine XS.aload X11.here hx rfl (hb hby at_36) rfl rfl ?_
        show Steps p.tables e below (T11.setTop (mkF m 38 #[.val (.int p1), .val (.int p2), .val (.int p3), .val (.int p4), .val (.ref b2), .val (.int (1 : Int32)), .unset, .unset, .unset, .unset, .unset] [(.ref b2)])) _
        refine XS.iload X11.here hx rfl (hb hby at_38) rfl ?_
        show Steps p.tables e below (T11.setTop (mkF m 40 #[.val (.int p1), .val (.int p2), .val (.int p3), .val (.int p4), .val (.ref b2), .val (.int (1 : Int32)), .unset, .unset, .unset, .unset, .unset] [(.int (1 : Int32)), (.ref b2)])) _
        refine XS.iconst X11.here hx rfl (hb hby at_40) ?_
        show Steps p.tables e below (T11.setTop (mkF m 41 #[.val (.int p1), .val (.int p2), .val (.int p3), .val (.int p4), .val (.ref b2), .val (.int (1 : Int32)), .unset, .unset, .unset, .unset, .unset] [(.int (1 : Int32)), (.int (1 : Int32)), (.ref b2)])) _
        refine XS.isub X11.here hx rfl (hb hby at_41) rfl ?_
        exact k)
    have vc14 := V11
    obtain ⟨cl14, Ar14, q14, S14, M14, H14, J14⟩ := vc14
    have hin14 : ¬ ((0 : Int32) < 0 ∨ cl14.slots.size ≤ ((0 : Int32)).toNatClampNeg) := inb_of S14 ⟨by decide, by decide⟩
    have hat14 : cl14.slots[((0 : Int32)).toNatClampNeg]? = some (.int c0) := Has.at H14 hin14 rfl
    have G15 : Goes p e below s₁ (entryFrame m #[(.int p1), (.int p2), (.int p3), (.int p4)] maxLocals) T11 (mkF m 43 #[.val (.int p1), .val (.int p2), .val (.int p3), .val (.int p4), .val (.ref b2), .val (.int (1 : Int32)), .unset, .unset, .unset, .unset, .unset] [(.int c0)]) := fun _ k => G13 _ (by
        show Steps p.tables e below (T11.setTop (mkF m 42 #[.val (.int p1), .val (.int p2), .val (.int p3), .val (.int p4), .val (.ref b2), .val (.int (1 : Int32)), .unset, .unset, .unset, .unset, .unset] [(.int (0 : Int32)), (.ref b2)])) _
        refine X11.baloadBytes hx (j := (0 : Int32)) (v := (.int c0)) (by rw [e11]; exact Ar14.1) (State.isArrayOf_alike hZ.alike Ar14.2.1) Ar14.2.2 hin14 hat14 (g := (mkF m 42 #[.val (.int p1), .val (.int p2), .val (.int p3), .val (.int p4), .val (.ref b2), .val (.int (1 : Int32)), .unset, .unset, .unset, .unset, .unset] [(.int (0 : Int32)), (.ref b2)])) rfl rfl (hb hby at_42) _ ?_
        exact k)
    have G16 : Goes p e below s₁ (entryFrame m #[(.int p1), (.int p2), (.int p3), (.int p4)] maxLocals) T11 (mkF m 49 #[.val (.int p1), .val (.int p2), .val (.int p3), .val (.int p4), .val (.ref b2), .val (.int (1 : Int32)), .val (.int c0), .unset, .unset, .unset, .unset] [(.int (1 : Int32)), (.ref b2)]) := fun _ k => G15 _ (by
        show Steps p.tables e below (T11.setTop (mkF m 43 #[.val (.int p1), .val (.int p2), .val (.int p3), .val (.int p4), .val (.ref b2), .val (.int (1 : Int32)), .unset, .unset, .unset, .unset, .unset] [(.int c0)])) _
        refine XS.istore X11.here hx rfl (hb hby at_43) rfl (l' := #[.val (.int p1), .val (.int p2), .val (.int p3), .val (.int p4), .val (.ref b2), .val (.int (1 : Int32)), .val (.int c0), .unset, .unset, .unset, .unset]) rfl ?_
        show Steps p.tables e below (T11.setTop (mkF m 45 #[.val (.int p1), .val (.int p2), .val (.int p3), .val (.int p4), .val (.ref b2), .val (.int (1 : Int32)), .val (.int c0), .unset, .unset, .unset, .unset] [])) _
        refine XS.aload X11.here hx rfl (hb hby at_45) rfl rfl ?_
        show Steps p.tables e below (T11.setTop (mkF m 47 #[.val (.int p1), .val (.int p2), .val (.int p3), .val (.int p4), .val (.ref b2), .val (.int (1 : Int32)), .val (.int c0), .unset, .unset, .unset, .unset] [(.ref b2)])) _
        refine XS.iload X11.here hx rfl (hb hby at_47) rfl ?_
        exact k)
    have vc17 := V11
    obtain ⟨cl17, Ar17, q17, S17, M17, H17, J17⟩ := vc17
    have hin17 : ¬ ((1 : Int32) < 0 ∨ cl17.slots.size ≤ ((1 : Int32)).toNatClampNeg) := inb_of S17 ⟨by decide, by decide⟩
    have hat17 : cl17.slots[((1 : Int32)).toNatClampNeg]? = some (.int c1) := Has.at H17 hin17 rfl
    have G18 : Goes p e below s₁ (entryFrame m #[(.int p1), (.int p2), (.int p3), (.int p4)] maxLocals) T11 (mkF m 50 #[.val (.int p1), .val (.int p2), .val (.int p3), .val (.int p4), .val (.ref b2), .val (.int (1 : Int32)), .val (.int c0), .unset, .unset, .unset, .unset] [(.int c1)]) := fun _ k => G16 _ (by
        show Steps p.tables e below (T11.setTop (mkF m 49 #[.val (.int p1), .val (.int p2), .val (.int p3), .val (.int p4), .val (.ref b2), .val (.int (1 : Int32)), .val (.int c0), .unset, .unset, .unset, .unset] [(.int (1 : Int32)), (.ref b2)])) _
        refine X11.baloadBytes hx (j := (1 : Int32)) (v := (.int c1)) (by rw [e11]; exact Ar17.1) (State.isArrayOf_alike hZ.alike Ar17.2.1) Ar17.2.2 hin17 hat17 (g := (mkF m 49 #[.val (.int p1), .val (.int p2), .val (.int p3), .val (.int p4), .val (.ref b2), .val (.int (1 : Int32)), .val (.int c0), .unset, .unset, .unset, .unset] [(.int (1 : Int32)), (.ref b2)])) rfl rfl (hb hby at_49) _ ?_
        exact k)
    have G19 : Goes p e below s₁ (entryFrame m #[(.int p1), (.int p2), (.int p3), (.int p4)] maxLocals) T11 (mkF m 52 #[.val (.int p1), .val (.int p2), .val (.int p3), .val (.int p4), .val (.ref b2), .val (.int (1 : Int32)), .val (.int c0), .val (.int c1), .unset, .unset, .unset] []) := fun _ k => G18 _ (by
        show Steps p.tables e below (T11.setTop (mkF m 50 #[.val (.int p1), .val (.int p2), .val (.int p3), .val (.int p4), .val (.ref b2), .val (.int (1 : Int32)), .val (.int c0), .unset, .unset, .unset, .unset] [(.int c1)])) _
        refine XS.istore X11.here hx rfl (hb hby at_50) rfl (l' := #[.val (.int p1), .val (.int p2), .val (.int p3), .val (.int p4), .val (.ref b2), .val (.int (1 : Int32)), .val (.int c0), .val (.int c1), .unset, .unset, .unset]) rfl ?_
        exact k)
    have G20 : Goes p e below s₁ (entryFrame m #[(.int p1), (.int p2), (.int p3), (.int p4)] maxLocals) T11 (mkF m 92 #[.val (.int p1), .val (.int p2), .val (.int p3), .val (.int p4), .val (.ref b2), .val (.int (1 : Int32)), .val (.int c0), .val (.int c1), .val (.int (own_st c0 c1)), .unset, .unset] []) := by
      have G21 : Goes p e below s₁ (entryFrame m #[(.int p1), (.int p2), (.int p3), (.int p4)] maxLocals) T11 (mkF m 56 #[.val (.int p1), .val (.int p2), .val (.int p3), .val (.int p4), .val (.ref b2), .val (.int (1 : Int32)), .val (.int c0), .val (.int c1), .unset, .unset, .unset] [(.int (10 : Int32)), (.int c0)]) := fun _ k => G19 _ (by
          show Steps p.tables e below (T11.setTop (mkF m 52 #[.val (.int p1), .val (.int p2), .val (.int p3), .val (.int p4), .val (.ref b2), .val (.int (1 : Int32)), .val (.int c0), .val (.int c1), .unset, .unset, .unset] [])) _
          refine XS.iload X11.here hx rfl (hb hby at_52) rfl ?_
          show Steps p.tables e below (T11.setTop (mkF m 54 #[.val (.int p1), .val (.int p2), .val (.int p3), .val (.int p4), .val (.ref b2), .val (.int (1 : Int32)), .val (.int c0), .val (.int c1), .unset, .unset, .unset] [(.int c0)])) _
          refine XS.bipush X11.here hx rfl (hb hby at_54) ?_
          exact k)
      by_cases hm56_21 : c0 = (10 : Int32)
      · have G23 : Goes p e below s₁ (entryFrame m #[(.int p1), (.int p2), (.int p3), (.int p4)] maxLocals) T11 (mkF m 59 #[.val (.int p1), .val (.int p2), .val (.int p3), .val (.int p4), .val (.ref b2), .val (.int (1 : Int32)), .val (.int c0), .val (.int c1), .unset, .unset, .unset] []) := fun _ k => G21 _ (by
            show Steps p.tables e below (T11.setTop (mkF m 56 #[.val (.int p1), .val (.int p2), .val (.int p3), .val (.int p4), .val (.ref b2), .val (.int (1 : Int32)), .val (.int c0), .val (.int c1), .unset, .unset, .unset] [(.int (10 : Int32)), (.int c0)])) _
            refine XS.icmpNo X11.here hx rfl (hb hby at_56) rfl (teq hm56_21).2 ?_
            exact k)
        have G24 : Goes p e below s₁ (entryFrame m #[(.int p1), (.int p2), (.int p3), (.int p4)] maxLocals) T11 (mkF m 92 #[.val (.int p1), .val (.int p2), .val (.int p3), .val (.int p4), .val (.ref b2), .val (.int (1 : Int32)), .val (.int c0), .val (.int c1), .val (.int (1 : Int32)), .unset, .unset] []) := fun _ k => G23 _ (by
            show Steps p.tables e below (T11.setTop (mkF m 59 #[.val (.int p1), .val (.int p2), .val (.int p3), .val (.int p4), .val (.ref b2), .val (.int (1 : Int32)), .val (.int c0), .val (.int c1), .unset, .unset, .unset] [])) _
            refine XS.iconst X11.here hx rfl (hb hby at_59) ?_
            show Steps p.tables e below (T11.setTop (mkF m 60 #[.val (.int p1), .val (.int p2), .val (.int p3), .val (.int p4), .val (.ref b2), .val (.int (1 : Int32)), .val (.int c0), .val (.int c1), .unset, .unset, .unset] [(.int (1 : Int32))])) _
            refine XS.istore X11.here hx rfl (hb hby at_60) rfl (l' := #[.val (.int p1), .val (.int p2), .val (.int p3), .val (.int p4), .val (.ref b2), .val (.int (1 : Int32)), .val (.int c0), .val (.int c1), .val (.int (1 : Int32)), .unset, .unset]) rfl ?_
            show Steps p.tables e below (T11.setTop (mkF m 62 #[.val (.int p1), .val (.int p2), .val (.int p3), .val (.int p4), .val (.ref b2), .val (.int (1 : Int32)), .val (.int c0), .val (.int c1), .val (.int (1 : Int32)), .unset, .unset] [])) _
            refine XS.goto X11.here hx rfl (pc0 := 62) (pc' := 92) rfl (hb hby at_62) (by decide) (by decide) ?_
            exact k)
        have hv : (own_st c0 c1) = (1 : Int32) := by simp [hm56_21, own_st]
        exact fun _ k => G24 _ (by rw [hv] at k; exact k)
      · have G25 : Goes p e below s₁ (entryFrame m #[(.int p1), (.int p2), (.int p3), (.int p4)] maxLocals) T11 (mkF m 65 #[.val (.int p1), .val (.int p2), .val (.int p3), .val (.int p4), .val (.ref b2), .val (.int (1 : Int32)), .val (.int c0), .val (.int c1), .unset, .unset, .unset] []) := fun _ k => G21 _ (by
            show Steps p.tables e below (T11.setTop (mkF m 56 #[.val (.int p1), .val (.int p2), .val (.int p3), .val (.int p4), .val (.ref b2), .val (.int (1 : Int32)), .val (.int c0), .val (.int c1), .unset, .unset, .unset] [(.int (10 : Int32)), (.int c0)])) _
            refine XS.icmpYes X11.here hx rfl (pc0 := 56) (pc' := 65) rfl (hb hby at_56) rfl (feq hm56_21).2 (by decide) (by decide) ?_
            exact k)
        have G26 : Goes p e below s₁ (entryFrame m #[(.int p1), (.int p2), (.int p3), (.int p4)] maxLocals) T11 (mkF m 69 #[.val (.int p1), .val (.int p2), .val (.int p3), .val (.int p4), .val (.ref b2), .val (.int (1 : Int32)), .val (.int c0), .val (.int c1), .unset, .unset, .unset] [(.int (13 : Int32)), (.int c0)]) := fun _ k => G25 _ (by
            show Steps p.tables e below (T11.setTop (mkF m 65 #[.val (.int p1), .val (.int p2), .val (.int p3), .val (.int p4), .val (.ref b2), .val (.int (1 : Int32)), .val (.int c0), .val (.int c1), .unset, .unset, .unset] [])) _
            refine XS.iload X11.here hx rfl (hb hby at_65) rfl ?_
            show Steps p.tables e below (T11.setTop (mkF m 67 #[.val (.int p1), .val (.int p2), .val (.int p3), .val (.int p4), .val (.ref b2), .val (.int (1 : Int32)), .val (.int c0), .val (.int c1), .unset, .unset, .unset] [(.int c0)])) _
            refine XS.bipush X11.here hx rfl (hb hby at_67) ?_
            exact k)
        by_cases hm69_26 : c0 = (13 : Int32)
        · have G28 : Goes p e below s₁ (entryFrame m #[(.int p1), (.int p2), (.int p3), (.int p4)] maxLocals) T11 (mkF m 72 #[.val (.int p1), .val (.int p2), .val (.int p3), .val (.int p4), .val (.ref b2), .val (.int (1 : Int32)), .val (.int c0), .val (.int c1), .unset, .unset, .unset] []) := fun _ k => G26 _ (by
              show Steps p.tables e below (T11.setTop (mkF m 69 #[.val (.int p1), .val (.int p2), .val (.int p3), .val (.int p4), .val (.ref b2), .val (.int (1 : Int32)), .val (.int c0), .val (.int c1), .unset, .unset, .unset] [(.int (13 : Int32)), (.int c0)])) _
              refine XS.icmpNo X11.here hx rfl (hb hby at_69) rfl (teq hm69_26).2 ?_
              exact k)
          have G29 : Goes p e below s₁ (entryFrame m #[(.int p1), (.int p2), (.int p3), (.int p4)] maxLocals) T11 (mkF m 76 #[.val (.int p1), .val (.int p2), .val (.int p3), .val (.int p4), .val (.ref b2), .val (.int (1 : Int32)), .val (.int c0), .val (.int c1), .unset, .unset, .unset] [(.int (10 : Int32)), (.int c1)]) := fun _ k => G28 _ (by
              show Steps p.tables e below (T11.setTop (mkF m 72 #[.val (.int p1), .val (.int p2), .val (.int p3), .val (.int p4), .val (.ref b2), .val (.int (1 : Int32)), .val (.int c0), .val (.int c1), .unset, .unset, .unset] [])) _
              refine XS.iload X11.here hx rfl (hb hby at_72) rfl ?_
              show Steps p.tables e below (T11.setTop (mkF m 74 #[.val (.int p1), .val (.int p2), .val (.int p3), .val (.int p4), .val (.ref b2), .val (.int (1 : Int32)), .val (.int c0), .val (.int c1), .unset, .unset, .unset] [(.int c1)])) _
              refine XS.bipush X11.here hx rfl (hb hby at_74) ?_
              exact k)
          by_cases hm76_29 : c1 = (10 : Int32)
          · have G31 : Goes p e below s₁ (entryFrame m #[(.int p1), (.int p2), (.int p3), (.int p4)] maxLocals) T11 (mkF m 83 #[.val (.int p1), .val (.int p2), .val (.int p3), .val (.int p4), .val (.ref b2), .val (.int (1 : Int32)), .val (.int c0), .val (.int c1), .unset, .unset, .unset] []) := fun _ k => G29 _ (by
                show Steps p.tables e below (T11.setTop (mkF m 76 #[.val (.int p1), .val (.int p2), .val (.int p3), .val (.int p4), .val (.ref b2), .val (.int (1 : Int32)), .val (.int c0), .val (.int c1), .unset, .unset, .unset] [(.int (10 : Int32)), (.int c1)])) _
                refine XS.icmpYes X11.here hx rfl (pc0 := 76) (pc' := 83) rfl (hb hby at_76) rfl (teq hm76_29).1 (by decide) (by decide) ?_
                exact k)
            have G32 : Goes p e below s₁ (entryFrame m #[(.int p1), (.int p2), (.int p3), (.int p4)] maxLocals) T11 (mkF m 92 #[.val (.int p1), .val (.int p2), .val (.int p3), .val (.int p4), .val (.ref b2), .val (.int (1 : Int32)), .val (.int c0), .val (.int c1), .val (.int (0 : Int32)), .unset, .unset] []) := fun _ k => G31 _ (by
                show Steps p.tables e below (T11.setTop (mkF m 83 #[.val (.int p1), .val (.int p2), .val (.int p3), .val (.int p4), .val (.ref b2), .val (.int (1 : Int32)), .val (.int c0), .val (.int c1), .unset, .unset, .unset] [])) _
                refine XS.iconst X11.here hx rfl (hb hby at_83) ?_
                show Steps p.tables e below (T11.setTop (mkF m 84 #[.val (.int p1), .val (.int p2), .val (.int p3), .val (.int p4), .val (.ref b2), .val (.int (1 : Int32)), .val (.int c0), .val (.int c1), .unset, .unset, .unset] [(.int (0 : Int32))])) _
                refine XS.istore X11.here hx rfl (hb hby at_84) rfl (l' := #[.val (.int p1), .val (.int p2), .val (.int p3), .val (.int p4), .val (.ref b2), .val (.int (1 : Int32)), .val (.int c0), .val (.int c1), .val (.int (0 : Int32)), .unset, .unset]) rfl ?_
                show Steps p.tables e below (T11.setTop (mkF m 86 #[.val (.int p1), .val (.int p2), .val (.int p3), .val (.int p4), .val (.ref b2), .val (.int (1 : Int32)), .val (.int c0), .val (.int c1), .val (.int (0 : Int32)), .unset, .unset] [])) _
                refine XS.goto X11.here hx rfl (pc0 := 86) (pc' := 92) rfl (hb hby at_86) (by decide) (by decide) ?_
                exact k)
            have hv : (own_st c0 c1) = (0 : Int32) := by simp [hm56_21, hm69_26, hm76_29, own_st]
            exact fun _ k => G32 _ (by rw [hv] at k; exact k)
          · have G33 : Goes p e below s₁ (entryFrame m #[(.int p1), (.int p2), (.int p3), (.int p4)] maxLocals) T11 (mkF m 79 #[.val (.int p1), .val (.int p2), .val (.int p3), .val (.int p4), .val (.ref b2), .val (.int (1 : Int32)), .val (.int c0), .val (.int c1), .unset, .unset, .unset] []) := fun _ k => G29 _ (by
                show Steps p.tables e below (T11.setTop (mkF m 76 #[.val (.int p1), .val (.int p2), .val (.int p3), .val (.int p4), .val (.ref b2), .val (.int (1 : Int32)), .val (.int c0), .val (.int c1), .unset, .unset, .unset] [(.int (10 : Int32)), (.int c1)])) _
                refine XS.icmpNo X11.here hx rfl (hb hby at_76) rfl (feq hm76_29).1 ?_
                exact k)
            have G34 : Goes p e below s₁ (entryFrame m #[(.int p1), (.int p2), (.int p3), (.int p4)] maxLocals) T11 (mkF m 92 #[.val (.int p1), .val (.int p2), .val (.int p3), .val (.int p4), .val (.ref b2), .val (.int (1 : Int32)), .val (.int c0), .val (.int c1), .val (.int (1 : Int32)), .unset, .unset] []) := fun _ k => G33 _ (by
                show Steps p.tables e below (T11.setTop (mkF m 79 #[.val (.int p1), .val (.int p2), .val (.int p3), .val (.int p4), .val (.ref b2), .val (.int (1 : Int32)), .val (.int c0), .val (.int c1), .unset, .unset, .unset] [])) _
                refine XS.iconst X11.here hx rfl (hb hby at_79) ?_
                show Steps p.tables e below (T11.setTop (mkF m 80 #[.val (.int p1), .val (.int p2), .val (.int p3), .val (.int p4), .val (.ref b2), .val (.int (1 : Int32)), .val (.int c0), .val (.int c1), .unset, .unset, .unset] [(.int (1 : Int32))])) _
                refine XS.goto X11.here hx rfl (pc0 := 80) (pc' := 84) rfl (hb hby at_80) (by decide) (by decide) ?_
                show Steps p.tables e below (T11.setTop (mkF m 84 #[.val (.int p1), .val (.int p2), .val (.int p3), .val (.int p4), .val (.ref b2), .val (.int (1 : Int32)), .val (.int c0), .val (.int c1), .unset, .unset, .unset] [(.int (1 : Int32))])) _
                refine XS.istore X11.here hx rfl (hb hby at_84) rfl (l' := #[.val (.int p1), .val (.int p2), .val (.int p3), .val (.int p4), .val (.ref b2), .val (.int (1 : Int32)), .val (.int c0), .val (.int c1), .val (.int (1 : Int32)), .unset, .unset]) rfl ?_
                show Steps p.tables e below (T11.setTop (mkF m 86 #[.val (.int p1), .val (.int p2), .val (.int p3), .val (.int p4), .val (.ref b2), .val (.int (1 : Int32)), .val (.int c0), .val (.int c1), .val (.int (1 : Int32)), .unset, .unset] [])) _
                refine XS.goto X11.here hx rfl (pc0 := 86) (pc' := 92) rfl (hb hby at_86) (by decide) (by decide) ?_
                exact k)
            have hv : (own_st c0 c1) = (1 : Int32) := by simp [hm56_21, hm69_26, hm76_29, own_st]
            exact fun _ k => G34 _ (by rw [hv] at k; exact k)
        · have G35 : Goes p e below s₁ (entryFrame m #[(.int p1), (.int p2), (.int p3), (.int p4)] maxLocals) T11 (mkF m 89 #[.val (.int p1), .val (.int p2), .val (.int p3), .val (.int p4), .val (.ref b2), .val (.int (1 : Int32)), .val (.int c0), .val (.int c1), .unset, .unset, .unset] []) := fun _ k => G26 _ (by
              show Steps p.tables e below (T11.setTop (mkF m 69 #[.val (.int p1), .val (.int p2), .val (.int p3), .val (.int p4), .val (.ref b2), .val (.int (1 : Int32)), .val (.int c0), .val (.int c1), .unset, .unset, .unset] [(.int (13 : Int32)), (.int c0)])) _
              refine XS.icmpYes X11.here hx rfl (pc0 := 69) (pc' := 89) rfl (hb hby at_69) rfl (feq hm69_26).2 (by decide) (by decide) ?_
              exact k)
          have G36 : Goes p e below s₁ (entryFrame m #[(.int p1), (.int p2), (.int p3), (.int p4)] maxLocals) T11 (mkF m 92 #[.val (.int p1), .val (.int p2), .val (.int p3), .val (.int p4), .val (.ref b2), .val (.int (1 : Int32)), .val (.int c0), .val (.int c1), .val (.int (0 : Int32)), .unset, .unset] []) := fun _ k => G35 _ (by
              show Steps p.tables e below (T11.setTop (mkF m 89 #[.val (.int p1), .val (.int p2), .val (.int p3), .val (.int p4), .val (.ref b2), .val (.int (1 : Int32)), .val (.int c0), .val (.int c1), .unset, .unset, .unset] [])) _
              refine XS.iconst X11.here hx rfl (hb hby at_89) ?_
              show Steps p.tables e below (T11.setTop (mkF m 90 #[.val (.int p1), .val (.int p2), .val (.int p3), .val (.int p4), .val (.ref b2), .val (.int (1 : Int32)), .val (.int c0), .val (.int c1), .unset, .unset, .unset] [(.int (0 : Int32))])) _
              refine XS.istore X11.here hx rfl (hb hby at_90) rfl (l' := #[.val (.int p1), .val (.int p2), .val (.int p3), .val (.int p4), .val (.ref b2), .val (.int (1 : Int32)), .val (.int c0), .val (.int c1), .val (.int (0 : Int32)), .unset, .unset]) rfl ?_
              exact k)
          have hv : (own_st c0 c1) = (0 : Int32) := by simp [hm56_21, hm69_26, own_st]
          exact fun _ k => G36 _ (by rw [hv] at k; exact k)
    have G37 : Goes p e below s₁ (entryFrame m #[(.int p1), (.int p2), (.int p3), (.int p4)] maxLocals) T11 (mkF m 96 #[.val (.int p1), .val (.int p2), .val (.int p3), .val (.int p4), .val (.ref b2), .val (.int (1 : Int32)), .val (.int c0), .val (.int c1), .val (.int (own_st c0 c1)), .unset, .unset] [(.int (1 : Int32)), (.ref b2)]) := fun _ k => G20 _ (by
        show Steps p.tables e below (T11.setTop (mkF m 92 #[.val (.int p1), .val (.int p2), .val (.int p3), .val (.int p4), .val (.ref b2), .val (.int (1 : Int32)), .val (.int c0), .val (.int c1), .val (.int (own_st c0 c1)), .unset, .unset] [])) _
        refine XS.aload X11.here hx rfl (hb hby at_92) rfl rfl ?_
        show Steps p.tables e below (T11.setTop (mkF m 94 #[.val (.int p1), .val (.int p2), .val (.int p3), .val (.int p4), .val (.ref b2), .val (.int (1 : Int32)), .val (.int c0), .val (.int c1), .val (.int (own_st c0 c1)), .unset, .unset] [(.ref b2)])) _
        refine XS.iload X11.here hx rfl (hb hby at_94) rfl ?_
        exact k)
    obtain ⟨_, _, ⟨T38, L38, k38, n38⟩, -, X38, ⟨Lc38, hQ38, l38, y38, z38⟩, st38⟩ := Jvm.LawKit.callS X11 hx (y := (⟨"com/example/covary/covary/CsvLines", "startsLine", "([BI)Z"⟩ : MethodName)) hown (mvT hZ (hw _ (List.mem_of_getElem? (i := 5) rfl))) (mvT hZ (hw _ (List.mem_of_getElem? (i := 6) rfl))) (mvT hZ (hw _ (List.mem_of_getElem? (i := 7) rfl))) (mvT hZ (hw _ (List.mem_of_getElem? (i := 8) rfl))) (by decide) (backOf (W := 0) (rm2_1 l Z a0 hw [] b2 k2 c0 c1 c2 h11 n0 Zn V11) hZ (hw _ (List.mem_of_getElem? (i := 8) rfl)) (hw _ (List.mem_of_getElem? (i := 7) rfl)) (by decide) (by decide)) (g := (mkF m 96 #[.val (.int p1), .val (.int p2), .val (.int p3), .val (.int p4), .val (.ref b2), .val (.int (1 : Int32)), .val (.int c0), .val (.int c1), .val (.int (own_st c0 c1)), .unset, .unset] [(.int (1 : Int32)), (.ref b2)])) rfl (by rw [hml]; rfl) (argsL := [(.ref b2), (.int (1 : Int32))]) (rest := []) (lenOf own_pd3 rfl) rfl (by show 2 * 0 + _ ≤ _; exact Nat.le_of_eq rfl) (hb hby at_96) (fun _ _ => ⟨rfl, e11, (by decide : 1 + 0 ≤ _), (by decide : 3 + 0 ≤ _)⟩)
    dsimp only [Pt.U, Pt.locs, Pt.cells, Pt.slots] at X38 l38 y38 z38 st38 hQ38
    subst l38 y38 z38
    obtain ⟨rfl, N38q, hh38⟩ := hQ38
    have N38 := Fr.app N11 N38q
    have G38 : Goes p e below s₁ (entryFrame m #[(.int p1), (.int p2), (.int p3), (.int p4)] maxLocals) T38 (mkF m 99 #[.val (.int p1), .val (.int p2), .val (.int p3), .val (.int p4), .val (.ref b2), .val (.int (1 : Int32)), .val (.int c0), .val (.int c1), .val (.int (own_st c0 c1)), .unset, .unset] [(.int (own_st c0 c1))]) := fun _ k => G37 _ (st38 _ k)
    have G39 : Goes p e below s₁ (entryFrame m #[(.int p1), (.int p2), (.int p3), (.int p4)] maxLocals) T38 (mkF m 108 #[.val (.int p1), .val (.int p2), .val (.int p3), .val (.int p4), .val (.ref b2), .val (.int (1 : Int32)), .val (.int c0), .val (.int c1), .val (.int (own_st c0 c1)), .val (.int (own_st c0 c1)), .unset] [(.int (3 : Int32)), (.int (0 : Int32)), (.ref b2)]) := fun _ k => G38 _ (by
        show Steps p.tables e below (T38.setTop (mkF m 99 #[.val (.int p1), .val (.int p2), .val (.int p3), .val (.int p4), .val (.ref b2), .val (.int (1 : Int32)), .val (.int c0), .val (.int c1), .val (.int (own_st c0 c1)), .unset, .unset] [(.int (own_st c0 c1))])) _
        refine XS.istore X38.here hx rfl (hb hby at_99) rfl (l' := #[.val (.int p1), .val (.int p2), .val (.int p3), .val (.int p4), .val (.ref b2), .val (.int (1 : Int32)), .val (.int c0), .val (.int c1), .val (.int (own_st c0 c1)), .val (.int (own_st c0 c1)), .unset]) rfl ?_
        show Steps p.tables e below (T38.setTop (mkF m 101 #[.val (.int p1), .val (.int p2), .val (.int p3), .val (.int p4), .val (.ref b2), .val (.int (1 : Int32)), .val (.int c0), .val (.int c1), .val (.int (own_st c0 c1)), .val (.int (own_st c0 c1)), .unset] [])) _
        refine XS.aload X38.here hx rfl (hb hby at_101) rfl rfl ?_
        show Steps p.tables e below (T38.setTop (mkF m 103 #[.val (.int p1), .val (.int p2), .val (.int p3), .val (.int p4), .val (.ref b2), .val (.int (1 : Int32)), .val (.int c0), .val (.int c1), .val (.int (own_st c0 c1)), .val (.int (own_st c0 c1)), .unset] [(.ref b2)])) _
        refine XS.iload X38.here hx rfl (hb hby at_103) rfl ?_
        show Steps p.tables e below (T38.setTop (mkF m 105 #[.val (.int p1), .val (.int p2), .val (.int p3), .val (.int p4), .val (.ref b2), .val (.int (1 : Int32)), .val (.int c0), .val (.int c1), .val (.int (own_st c0 c1)), .val (.int (own_st c0 c1)), .unset] [(.int (1 : Int32)), (.ref b2)])) _
        refine XS.iconst X38.here hx rfl (hb hby at_105) ?_
        show Steps p.tables e below (T38.setTop (mkF m 106 #[.val (.int p1), .val (.int p2), .val (.int p3), .val (.int p4), .val (.ref b2), .val (.int (1 : Int32)), .val (.int c0), .val (.int c1), .val (.int (own_st c0 c1)), .val (.int (own_st c0 c1)), .unset] [(.int (1 : Int32)), (.int (1 : Int32)), (.ref b2)])) _
        refine XS.isub X38.here hx rfl (hb hby at_106) rfl ?_
        show Steps p.tables e below (T38.setTop (mkF m 107 #[.val (.int p1), .val (.int p2), .val (.int p3), .val (.int p4), .val (.ref b2), .val (.int (1 : Int32)), .val (.int c0), .val (.int c1), .val (.int (own_st c0 c1)), .val (.int (own_st c0 c1)), .unset] [(.int (0 : Int32)), (.ref b2)])) _
        refine XS.iconst X38.here hx rfl (hb hby at_107) ?_
        exact k)
    obtain ⟨_, _, ⟨T40, L40, k40, n40⟩, -, X40, ⟨Lc40, hQ40, l40, y40, z40⟩, st40⟩ := Jvm.LawKit.callS X38 hx (y := (⟨"com/example/covary/covary/CsvLines", "nextLine", "([BII)I"⟩ : MethodName)) hown (mvT hZ (hw _ (List.mem_of_getElem? (i := 9) rfl))) (mvT hZ (hw _ (List.mem_of_getElem? (i := 10) rfl))) (mvT hZ (hw _ (List.mem_of_getElem? (i := 7) rfl))) (mvT hZ (hw _ (List.mem_of_getElem? (i := 11) rfl))) (by decide) (backOf (W := 0) (rm3_0 l Z a0 hw [] b2 k2 c0 c1 c2 h11 n0 Zn V11) hZ (hw _ (List.mem_of_getElem? (i := 11) rfl)) (hw _ (List.mem_of_getElem? (i := 7) rfl)) (by decide) (by decide)) (g := (mkF m 108 #[.val (.int p1), .val (.int p2), .val (.int p3), .val (.int p4), .val (.ref b2), .val (.int (1 : Int32)), .val (.int c0), .val (.int c1), .val (.int (own_st c0 c1)), .val (.int (own_st c0 c1)), .unset] [(.int (3 : Int32)), (.int (0 : Int32)), (.ref b2)])) rfl (by rw [hml]; rfl) (argsL := [(.ref b2), (.int (0 : Int32)), (.int (3 : Int32))]) (rest := []) (lenOf own_pd1 rfl) rfl (by show 2 * 0 + _ ≤ _; exact Nat.le_of_eq rfl) (hb hby at_108) (fun _ _ => ⟨rfl, hh38, (by decide : 1 + 0 ≤ _), (by decide : 3 + 0 ≤ _)⟩)
    dsimp only [Pt.U, Pt.locs, Pt.cells, Pt.slots] at X40 l40 y40 z40 st40 hQ40
    subst l40 y40 z40
    obtain ⟨rfl, N40q, hh40⟩ := hQ40
    have N40 := Fr.app N38 N40q
    have G40 : Goes p e below s₁ (entryFrame m #[(.int p1), (.int p2), (.int p3), (.int p4)] maxLocals) T40 (mkF m 111 #[.val (.int p1), .val (.int p2), .val (.int p3), .val (.int p4), .val (.ref b2), .val (.int (1 : Int32)), .val (.int c0), .val (.int c1), .val (.int (own_st c0 c1)), .val (.int (own_st c0 c1)), .unset] [(.int (own_nl0 c0 c1 c2))]) := fun _ k => G39 _ (st40 _ k)
    have G41 : Goes p e below s₁ (entryFrame m #[(.int p1), (.int p2), (.int p3), (.int p4)] maxLocals) T40 (mkF m 117 #[.val (.int p1), .val (.int p2), .val (.int p3), .val (.int p4), .val (.ref b2), .val (.int (1 : Int32)), .val (.int c0), .val (.int c1), .val (.int (own_st c0 c1)), .val (.int (own_st c0 c1)), .val (.int (own_nl0 c0 c1 c2))] [(.int (own_st c0 c1)), (.int (own_st c0 c1))]) := fun _ k => G40 _ (by
        show Steps p.tables e below (T40.setTop (mkF m 111 #[.val (.int p1), .val (.int p2), .val (.int p3), .val (.int p4), .val (.ref b2), .val (.int (1 : Int32)), .val (.int c0), .val (.int c1), .val (.int (own_st c0 c1)), .val (.int (own_st c0 c1)), .unset] [(.int (own_nl0 c0 c1 c2))])) _
        refine XS.istore X40.here hx rfl (hb hby at_111) rfl (l' := #[.val (.int p1), .val (.int p2), .val (.int p3), .val (.int p4), .val (.ref b2), .val (.int (1 : Int32)), .val (.int c0), .val (.int c1), .val (.int (own_st c0 c1)), .val (.int (own_st c0 c1)), .val (.int (own_nl0 c0 c1 c2))]) rfl ?_
        show Steps p.tables e below (T40.setTop (mkF m 113 #[.val (.int p1), .val (.int p2), .val (.int p3), .val (.int p4), .val (.ref b2), .val (.int (1 : Int32)), .val (.int c0), .val (.int c1), .val (.int (own_st c0 c1)), .val (.int (own_st c0 c1)), .val (.int (own_nl0 c0 c1 c2))] [])) _
        refine XS.iload X40.here hx rfl (hb hby at_113) rfl ?_
        show Steps p.tables e below (T40.setTop (mkF m 115 #[.val (.int p1), .val (.int p2), .val (.int p3), .val (.int p4), .val (.ref b2), .val (.int (1 : Int32)), .val (.int c0), .val (.int c1), .val (.int (own_st c0 c1)), .val (.int (own_st c0 c1)), .val (.int (own_nl0 c0 c1 c2))] [(.int (own_st c0 c1))])) _
        refine XS.iload X40.here hx rfl (hb hby at_115) rfl ?_
        exact k)
    have G42 : Goes p e below s₁ (entryFrame m #[(.int p1), (.int p2), (.int p3), (.int p4)] maxLocals) T40 (mkF m 120 #[.val (.int p1), .val (.int p2), .val (.int p3), .val (.int p4), .val (.ref b2), .val (.int (1 : Int32)), .val (.int c0), .val (.int c1), .val (.int (own_st c0 c1)), .val (.int (own_st c0 c1)), .val (.int (own_nl0 c0 c1 c2))] []) := fun _ k => G41 _ (by
        show Steps p.tables e below (T40.setTop (mkF m 117 #[.val (.int p1), .val (.int p2), .val (.int p3), .val (.int p4), .val (.ref b2), .val (.int (1 : Int32)), .val (.int c0), .val (.int c1), .val (.int (own_st c0 c1)), .val (.int (own_st c0 c1)), .val (.int (own_nl0 c0 c1 c2))] [(.int (own_st c0 c1)), (.int (own_st c0 c1))])) _
        refine XS.icmpNo X40.here hx rfl (hb hby at_117) rfl (teq rfl).2 ?_
        exact k)
    have G43 : Goes p e below s₁ (entryFrame m #[(.int p1), (.int p2), (.int p3), (.int p4)] maxLocals) T40 (mkF m 126 #[.val (.int p1), .val (.int p2), .val (.int p3), .val (.int p4), .val (.ref b2), .val (.int (1 : Int32)), .val (.int c0), .val (.int c1), .val (.int (own_st c0 c1)), .val (.int (own_st c0 c1)), .val (.int (own_nl0 c0 c1 c2))] [(.int (1 : Int32)), (.int (own_nl0 c0 c1 c2)), (.int (own_st c0 c1))]) := fun _ k => G42 _ (by
        show Steps p.tables e below (T40.setTop (mkF m 120 #[.val (.int p1), .val (.int p2), .val (.int p3), .val (.int p4), .val (.ref b2), .val (.int (1 : Int32)), .val (.int c0), .val (.int c1), .val (.int (own_st c0 c1)), .val (.int (own_st c0 c1)), .val (.int (own_nl0 c0 c1 c2))] [])) _
        refine XS.iload X40.here hx rfl (hb hby at_120) rfl ?_
        show Steps p.tables e below (T40.setTop (mkF m 122 #[.val (.int p1), .val (.int p2), .val (.int p3), .val (.int p4), .val (.ref b2), .val (.int (1 : Int32)), .val (.int c0), .val (.int c1), .val (.int (own_st c0 c1)), .val (.int (own_st c0 c1)), .val (.int (own_nl0 c0 c1 c2))] [(.int (own_st c0 c1))])) _
        refine XS.iload X40.here hx rfl (hb hby at_122) rfl ?_
        show Steps p.tables e below (T40.setTop (mkF m 124 #[.val (.int p1), .val (.int p2), .val (.int p3), .val (.int p4), .val (.ref b2), .val (.int (1 : Int32)), .val (.int c0), .val (.int c1), .val (.int (own_st c0 c1)), .val (.int (own_st c0 c1)), .val (.int (own_nl0 c0 c1 c2))] [(.int (own_nl0 c0 c1 c2)), (.int (own_st c0 c1))])) _
        refine XS.iload X40.here hx rfl (hb hby at_124) rfl ?_
        exact k)
    have G44 : Goes p e below s₁ (entryFrame m #[(.int p1), (.int p2), (.int p3), (.int p4)] maxLocals) T40 (mkF m 134 #[.val (.int p1), .val (.int p2), .val (.int p3), .val (.int p4), .val (.ref b2), .val (.int (1 : Int32)), .val (.int c0), .val (.int c1), .val (.int (own_st c0 c1)), .val (.int (own_st c0 c1)), .val (.int (own_nl0 c0 c1 c2))] [(.int (if (own_nl0 c0 c1 c2) = (1 : Int32) then (1 : Int32) else 0)), (.int (own_st c0 c1))]) := by
      by_cases hm126_44 : (own_nl0 c0 c1 c2) = (1 : Int32)
      · have G46 : Goes p e below s₁ (entryFrame m #[(.int p1), (.int p2), (.int p3), (.int p4)] maxLocals) T40 (mkF m 129 #[.val (.int p1), .val (.int p2), .val (.int p3), .val (.int p4), .val (.ref b2), .val (.int (1 : Int32)), .val (.int c0), .val (.int c1), .val (.int (own_st c0 c1)), .val (.int (own_st c0 c1)), .val (.int (own_nl0 c0 c1 c2))] [(.int (own_st c0 c1))]) := fun _ k => G43 _ (by
            show Steps p.tables e below (T40.setTop (mkF m 126 #[.val (.int p1), .val (.int p2), .val (.int p3), .val (.int p4), .val (.ref b2), .val (.int (1 : Int32)), .val (.int c0), .val (.int c1), .val (.int (own_st c0 c1)), .val (.int (own_st c0 c1)), .val (.int (own_nl0 c0 c1 c2))] [(.int (1 : Int32)), (.int (own_nl0 c0 c1 c2)), (.int (own_st c0 c1))])) _
            refine XS.icmpNo X40.here hx rfl (hb hby at_126) rfl (teq hm126_44).2 ?_
            exact k)
        have G47 : Goes p e below s₁ (entryFrame m #[(.int p1), (.int p2), (.int p3), (.int p4)] maxLocals) T40 (mkF m 134 #[.val (.int p1), .val (.int p2), .val (.int p3), .val (.int p4), .val (.ref b2), .val (.int (1 : Int32)), .val (.int c0), .val (.int c1), .val (.int (own_st c0 c1)), .val (.int (own_st c0 c1)), .val (.int (own_nl0 c0 c1 c2))] [(.int (1 : Int32)), (.int (own_st c0 c1))]) := fun _ k => G46 _ (by
            show Steps p.tables e below (T40.setTop (mkF m 129 #[.val (.int p1), .val (.int p2), .val (.int p3), .val (.int p4), .val (.ref b2), .val (.int (1 : Int32)), .val (.int c0), .val (.int c1), .val (.int (own_st c0 c1)), .val (.int (own_st c0 c1)), .val (.int (own_nl0 c0 c1 c2))] [(.int (own_st c0 c1))])) _
            refine XS.iconst X40.here hx rfl (hb hby at_129) ?_
            show Steps p.tables e below (T40.setTop (mkF m 130 #[.val (.int p1), .val (.int p2), .val (.int p3), .val (.int p4), .val (.ref b2), .val (.int (1 : Int32)), .val (.int c0), .val (.int c1), .val (.int (own_st c0 c1)), .val (.int (own_st c0 c1)), .val (.int (own_nl0 c0 c1 c2))] [(.int (1 : Int32)), (.int (own_st c0 c1))])) _
            refine XS.goto X40.here hx rfl (pc0 := 130) (pc' := 134) rfl (hb hby at_130) (by decide) (by decide) ?_
            exact k)
        have hv : (if (own_nl0 c0 c1 c2) = (1 : Int32) then (1 : Int32) else 0) = (1 : Int32) := by simp [hm126_44]
        exact fun _ k => G47 _ (by rw [hv] at k; exact k)
      · have G48 : Goes p e below s₁ (entryFrame m #[(.int p1), (.int p2), (.int p3), (.int p4)] maxLocals) T40 (mkF m 133 #[.val (.int p1), .val (.int p2), .val (.int p3), .val (.int p4), .val (.ref b2), .val (.int (1 : Int32)), .val (.int c0), .val (.int c1), .val (.int (own_st c0 c1)), .val (.int (own_st c0 c1)), .val (.int (own_nl0 c0 c1 c2))] [(.int (own_st c0 c1))]) := fun _ k => G43 _ (by
            show Steps p.tables e below (T40.setTop (mkF m 126 #[.val (.int p1), .val (.int p2), .val (.int p3), .val (.int p4), .val (.ref b2), .val (.int (1 : Int32)), .val (.int c0), .val (.int c1), .val (.int (own_st c0 c1)), .val (.int (own_st c0 c1)), .val (.int (own_nl0 c0 c1 c2))] [(.int (1 : Int32)), (.int (own_nl0 c0 c1 c2)), (.int (own_st c0 c1))])) _
            refine XS.icmpYes X40.here hx rfl (pc0 := 126) (pc' := 133) rfl (hb hby at_126) rfl (feq hm126_44).2 (by decide) (by decide) ?_
            exact k)
        have G49 : Goes p e below s₁ (entryFrame m #[(.int p1), (.int p2), (.int p3), (.int p4)] maxLocals) T40 (mkF m 134 #[.val (.int p1), .val (.int p2), .val (.int p3), .val (.int p4), .val (.ref b2), .val (.int (1 : Int32)), .val (.int c0), .val (.int c1), .val (.int (own_st c0 c1)), .val (.int (own_st c0 c1)), .val (.int (own_nl0 c0 c1 c2))] [(.int (0 : Int32)), (.int (own_st c0 c1))]) := fun _ k => G48 _ (by
            show Steps p.tables e below (T40.setTop (mkF m 133 #[.val (.int p1), .val (.int p2), .val (.int p3), .val (.int p4), .val (.ref b2), .val (.int (1 : Int32)), .val (.int c0), .val (.int c1), .val (.int (own_st c0 c1)), .val (.int (own_st c0 c1)), .val (.int (own_nl0 c0 c1 c2))] [(.int (own_st c0 c1))])) _
            refine XS.iconst X40.here hx rfl (hb hby at_133) ?_
            exact k)
        have hv : (if (own_nl0 c0 c1 c2) = (1 : Int32) then (1 : Int32) else 0) = (0 : Int32) := by simp [hm126_44]
        exact fun _ k => G49 _ (by rw [hv] at k; exact k)
    have G50 : Goes p e below s₁ (entryFrame m #[(.int p1), (.int p2), (.int p3), (.int p4)] maxLocals) T40 (mkF m 137 #[.val (.int p1), .val (.int p2), .val (.int p3), .val (.int p4), .val (.ref b2), .val (.int (1 : Int32)), .val (.int c0), .val (.int c1), .val (.int (own_st c0 c1)), .val (.int (own_st c0 c1)), .val (.int (own_nl0 c0 c1 c2))] []) := fun _ k => G44 _ (by
        show Steps p.tables e below (T40.setTop (mkF m 134 #[.val (.int p1), .val (.int p2), .val (.int p3), .val (.int p4), .val (.ref b2), .val (.int (1 : Int32)), .val (.int c0), .val (.int c1), .val (.int (own_st c0 c1)), .val (.int (own_st c0 c1)), .val (.int (own_nl0 c0 c1 c2))] [(.int (if (own_nl0 c0 c1 c2) = (1 : Int32) then (1 : Int32) else 0)), (.int (own_st c0 c1))])) _
        refine XS.icmpNo X40.here hx rfl (hb hby at_134) rfl (teq (own_law0 c0 c1 c2)).2 ?_
        exact k)
    have G51 : Goes p e below s₁ (entryFrame m #[(.int p1), (.int p2), (.int p3), (.int p4)] maxLocals) T40 (mkF m 142 #[.val (.int p1), .val (.int p2), .val (.int p3), .val (.int p4), .val (.ref b2), .val (.int (1 : Int32)), .val (.int c0), .val (.int c1), .val (.int (own_st c0 c1)), .val (.int (own_st c0 c1)), .val (.int (own_nl0 c0 c1 c2))] [(.int (1 : Int32))]) := fun _ k => G50 _ (by
        show Steps p.tables e below (T40.setTop (mkF m 137 #[.val (.int p1), .val (.int p2), .val (.int p3), .val (.int p4), .val (.ref b2), .val (.int (1 : Int32)), .val (.int c0), .val (.int c1), .val (.int (own_st c0 c1)), .val (.int (own_st c0 c1)), .val (.int (own_nl0 c0 c1 c2))] [])) _
        refine XS.iconst X40.here hx rfl (hb hby at_137) ?_
        show Steps p.tables e below (T40.setTop (mkF m 138 #[.val (.int p1), .val (.int p2), .val (.int p3), .val (.int p4), .val (.ref b2), .val (.int (1 : Int32)), .val (.int c0), .val (.int c1), .val (.int (own_st c0 c1)), .val (.int (own_st c0 c1)), .val (.int (own_nl0 c0 c1 c2))] [(.int (1 : Int32))])) _
        refine XS.goto X40.here hx rfl (pc0 := 138) (pc' := 142) rfl (hb hby at_138) (by decide) (by decide) ?_
        exact k)
    obtain ⟨fs, hr, hrun, hended, hW, hsame⟩ := X40.leave (v := some (.int (1 : Int32))) (fun h => by rw [Bd.returns] at h; cases h)
    refine ⟨_, _, G51 _ (retN X40 hx (t := .boolean) Bd.returns (by simp) (hb hby at_142) hr), hrun, hended, _, _, rfl, ?_, ⟨_, rfl⟩, hW, hsame.mono (by decide) (by decide)⟩
    show Q0 n0 _ T40.heap _
    exact ⟨rfl, N40⟩
  · rw [hs] at G12
    have G52 : Goes p e below s₁ (entryFrame m #[(.int p1), (.int p2), (.int p3), (.int p4)] maxLocals) T11 (mkF m 42 #[.val (.int p1), .val (.int p2), .val (.int p3), .val (.int p4), .val (.ref b2), .val (.int (2 : Int32)), .unset, .unset, .unset, .unset, .unset] [(.int (1 : Int32)), (.ref b2)]) := fun _ k => G12 _ (by
        show Steps p.tables e below (T11.setTop (mkF m 36 #[.val (.int p1), .val (.int p2), .val (.int p3), .val (.int p4), .val (.ref b2), .val (.int (2 : Int32)), .unset, .unset, .unset, .unset, .unset] [])) _
        refine XS.aload X11.here hx rfl (hb hby at_36) rfl rfl ?_
        show Steps p.tables e below (T11.setTop (mkF m 38 #[.val (.int p1), .val (.int p2), .val (.int p3), .val (.int p4), .val (.ref b2), .val (.int (2 : Int32)), .unset, .unset, .unset, .unset, .unset] [(.ref b2)])) _
        refine XS.iload X11.here hx rfl (hb hby at_38) rfl ?_
        show Steps p.tables e below (T11.setTop (mkF m 40 #[.val (.int p1), .val (.int p2), .val (.int p3), .val (.int p4), .val (.ref b2), .val (.int (2 : Int32)), .unset, .unset, .unset, .unset, .unset] [(.int (2 : Int32)), (.ref b2)])) _
        refine XS.iconst X11.here hx rfl (hb hby at_40) ?_
        show Steps p.tables e below (T11.setTop (mkF m 41 #[.val (.int p1), .val (.int p2), .val (.int p3), .val (.int p4), .val (.ref b2), .val (.int (2 : Int32)), .unset, .unset, .unset, .unset, .unset] [(.int (1 : Int32)), (.int (2 : Int32)), (.ref b2)])) _
        refine XS.isub X11.here hx rfl (hb hby at_41) rfl ?_
        exact k)
    have vc53 := V11
    obtain ⟨cl53, Ar53, q53, S53, M53, H53, J53⟩ := vc53
    have hin53 : ¬ ((1 : Int32) < 0 ∨ cl53.slots.size ≤ ((1 : Int32)).toNatClampNeg) := inb_of S53 ⟨by decide, by decide⟩
    have hat53 : cl53.slots[((1 : Int32)).toNatClampNeg]? = some (.int c1) := Has.at H53 hin53 rfl
    have G54 : Goes p e below s₁ (entryFrame m #[(.int p1), (.int p2), (.int p3), (.int p4)] maxLocals) T11 (mkF m 43 #[.val (.int p1), .val (.int p2), .val (.int p3), .val (.int p4), .val (.ref b2), .val (.int (2 : Int32)), .unset, .unset, .unset, .unset, .unset] [(.int c1)]) := fun _ k => G52 _ (by
        show Steps p.tables e below (T11.setTop (mkF m 42 #[.val (.int p1), .val (.int p2), .val (.int p3), .val (.int p4), .val (.ref b2), .val (.int (2 : Int32)), .unset, .unset, .unset, .unset, .unset] [(.int (1 : Int32)), (.ref b2)])) _
        refine X11.baloadBytes hx (j := (1 : Int32)) (v := (.int c1)) (by rw [e11]; exact Ar53.1) (State.isArrayOf_alike hZ.alike Ar53.2.1) Ar53.2.2 hin53 hat53 (g := (mkF m 42 #[.val (.int p1), .val (.int p2), .val (.int p3), .val (.int p4), .val (.ref b2), .val (.int (2 : Int32)), .unset, .unset, .unset, .unset, .unset] [(.int (1 : Int32)), (.ref b2)])) rfl rfl (hb hby at_42) _ ?_
        exact k)
    have G55 : Goes p e below s₁ (entryFrame m #[(.int p1), (.int p2), (.int p3), (.int p4)] maxLocals) T11 (mkF m 49 #[.val (.int p1), .val (.int p2), .val (.int p3), .val (.int p4), .val (.ref b2), .val (.int (2 : Int32)), .val (.int c1), .unset, .unset, .unset, .unset] [(.int (2 : Int32)), (.ref b2)]) := fun _ k => G54 _ (by
        show Steps p.tables e below (T11.setTop (mkF m 43 #[.val (.int p1), .val (.int p2), .val (.int p3), .val (.int p4), .val (.ref b2), .val (.int (2 : Int32)), .unset, .unset, .unset, .unset, .unset] [(.int c1)])) _
        refine XS.istore X11.here hx rfl (hb hby at_43) rfl (l' := #[.val (.int p1), .val (.int p2), .val (.int p3), .val (.int p4), .val (.ref b2), .val (.int (2 : Int32)), .val (.int c1), .unset, .unset, .unset, .unset]) rfl ?_
        show Steps p.tables e below (T11.setTop (mkF m 45 #[.val (.int p1), .val (.int p2), .val (.int p3), .val (.int p4), .val (.ref b2), .val (.int (2 : Int32)), .val (.int c1), .unset, .unset, .unset, .unset] [])) _
        refine XS.aload X11.here hx rfl (hb hby at_45) rfl rfl ?_
        show Steps p.tables e below (T11.setTop (mkF m 47 #[.val (.int p1), .val (.int p2), .val (.int p3), .val (.int p4), .val (.ref b2), .val (.int (2 : Int32)), .val (.int c1), .unset, .unset, .unset, .unset] [(.ref b2)])) _
        refine XS.iload X11.here hx rfl (hb hby at_47) rfl ?_
        exact k)
    have vc56 := V11
    obtain ⟨cl56, Ar56, q56, S56, M56, H56, J56⟩ := vc56
    have hin56 : ¬ ((2 : Int32) < 0 ∨ cl56.slots.size ≤ ((2 : Int32)).toNatClampNeg) := inb_of S56 ⟨by decide, by decide⟩
    have hat56 : cl56.slots[((2 : Int32)).toNatClampNeg]? = some (.int c2) := Has.at H56 hin56 rfl
    have G57 : Goes p e below s₁ (entryFrame m #[(.int p1), (.int p2), (.int p3), (.int p4)] maxLocals) T11 (mkF m 50 #[.val (.int p1), .val (.int p2), .val (.int p3), .val (.int p4), .val (.ref b2), .val (.int (2 : Int32)), .val (.int c1), .unset, .unset, .unset, .unset] [(.int c2)]) := fun _ k => G55 _ (by
        show Steps p.tables e below (T11.setTop (mkF m 49 #[.val (.int p1), .val (.int p2), .val (.int p3), .val (.int p4), .val (.ref b2), .val (.int (2 : Int32)), .val (.int c1), .unset, .unset, .unset, .unset] [(.int (2 : Int32)), (.ref b2)])) _
        refine X11.baloadBytes hx (j := (2 : Int32)) (v := (.int c2)) (by rw [e11]; exact Ar56.1) (State.isArrayOf_alike hZ.alike Ar56.2.1) Ar56.2.2 hin56 hat56 (g := (mkF m 49 #[.val (.int p1), .val (.int p2), .val (.int p3), .val (.int p4), .val (.ref b2), .val (.int (2 : Int32)), .val (.int c1), .unset, .unset, .unset, .unset] [(.int (2 : Int32)), (.ref b2)])) rfl rfl (hb hby at_49) _ ?_
        exact k)
    have G58 : Goes p e below s₁ (entryFrame m #[(.int p1), (.int p2), (.int p3), (.int p4)] maxLocals) T11 (mkF m 52 #[.val (.int p1), .val (.int p2), .val (.int p3), .val (.int p4), .val (.ref b2), .val (.int (2 : Int32)), .val (.int c1), .val (.int c2), .unset, .unset, .unset] []) := fun _ k => G57 _ (by
        show Steps p.tables e below (T11.setTop (mkF m 50 #[.val (.int p1), .val (.int p2), .val (.int p3), .val (.int p4), .val (.ref b2), .val (.int (2 : Int32)), .val (.int c1), .unset, .unset, .unset, .unset] [(.int c2)])) _
        refine XS.istore X11.here hx rfl (hb hby at_50) rfl (l' := #[.val (.int p1), .val (.int p2), .val (.int p3), .val (.int p4), .val (.ref b2), .val (.int (2 : Int32)), .val (.int c1), .val (.int c2), .unset, .unset, .unset]) rfl ?_
        exact k)
    have G59 : Goes p e below s₁ (entryFrame m #[(.int p1), (.int p2), (.int p3), (.int p4)] maxLocals) T11 (mkF m 92 #[.val (.int p1), .val (.int p2), .val (.int p3), .val (.int p4), .val (.ref b2), .val (.int (2 : Int32)), .val (.int c1), .val (.int c2), .val (.int (own_st c1 c2)), .unset, .unset] []) := by
      have G60 : Goes p e below s₁ (entryFrame m #[(.int p1), (.int p2), (.int p3), (.int p4)] maxLocals) T11 (mkF m 56 #[.val (.int p1), .val (.int p2), .val (.int p3), .val (.int p4), .val (.ref b2), .val (.int (2 : Int32)), .val (.int c1), .val (.int c2), .unset, .unset, .unset] [(.int (10 : Int32)), (.int c1)]) := fun _ k => G58 _ (by
          show Steps p.tables e below (T11.setTop (mkF m 52 #[.val (.int p1), .val (.int p2), .val (.int p3), .val (.int p4), .val (.ref b2), .val (.int (2 : Int32)), .val (.int c1), .val (.int c2), .unset, .unset, .unset] [])) _
          refine XS.iload X11.here hx rfl (hb hby at_52) rfl ?_
          show Steps p.tables e below (T11.setTop (mkF m 54 #[.val (.int p1), .val (.int p2), .val (.int p3), .val (.int p4), .val (.ref b2), .val (.int (2 : Int32)), .val (.int c1), .val (.int c2), .unset, .unset, .unset] [(.int c1)])) _
          refine XS.bipush X11.here hx rfl (hb hby at_54) ?_
          exact k)
      by_cases hm56_60 : c1 = (10 : Int32)
      · have G62 : Goes p e below s₁ (entryFrame m #[(.int p1), (.int p2), (.int p3), (.int p4)] maxLocals) T11 (mkF m 59 #[.val (.int p1), .val (.int p2), .val (.int p3), .val (.int p4), .val (.ref b2), .val (.int (2 : Int32)), .val (.int c1), .val (.int c2), .unset, .unset, .unset] []) := fun _ k => G60 _ (by
            show Steps p.tables e below (T11.setTop (mkF m 56 #[.val (.int p1), .val (.int p2), .val (.int p3), .val (.int p4), .val (.ref b2), .val (.int (2 : Int32)), .val (.int c1), .val (.int c2), .unset, .unset, .unset] [(.int (10 : Int32)), (.int c1)])) _
            refine XS.icmpNo X11.here hx rfl (hb hby at_56) rfl (teq hm56_60).2 ?_
            exact k)
        have G63 : Goes p e below s₁ (entryFrame m #[(.int p1), (.int p2), (.int p3), (.int p4)] maxLocals) T11 (mkF m 92 #[.val (.int p1), .val (.int p2), .val (.int p3), .val (.int p4), .val (.ref b2), .val (.int (2 : Int32)), .val (.int c1), .val (.int c2), .val (.int (1 : Int32)), .unset, .unset] []) := fun _ k => G62 _ (by
            show Steps p.tables e below (T11.setTop (mkF m 59 #[.val (.int p1), .val (.int p2), .val (.int p3), .val (.int p4), .val (.ref b2), .val (.int (2 : Int32)), .val (.int c1), .val (.int c2), .unset, .unset, .unset] [])) _
            refine XS.iconst X11.here hx rfl (hb hby at_59) ?_
            show Steps p.tables e below (T11.setTop (mkF m 60 #[.val (.int p1), .val (.int p2), .val (.int p3), .val (.int p4), .val (.ref b2), .val (.int (2 : Int32)), .val (.int c1), .val (.int c2), .unset, .unset, .unset] [(.int (1 : Int32))])) _
            refine XS.istore X11.here hx rfl (hb hby at_60) rfl (l' := #[.val (.int p1), .val (.int p2), .val (.int p3), .val (.int p4), .val (.ref b2), .val (.int (2 : Int32)), .val (.int c1), .val (.int c2), .val (.int (1 : Int32)), .unset, .unset]) rfl ?_
            show Steps p.tables e below (T11.setTop (mkF m 62 #[.val (.int p1), .val (.int p2), .val (.int p3), .val (.int p4), .val (.ref b2), .val (.int (2 : Int32)), .val (.int c1), .val (.int c2), .val (.int (1 : Int32)), .unset, .unset] [])) _
            refine XS.goto X11.here hx rfl (pc0 := 62) (pc' := 92) rfl (hb hby at_62) (by decide) (by decide) ?_
            exact k)
        have hv : (own_st c1 c2) = (1 : Int32) := by simp [hm56_60, own_st]
        exact fun _ k => G63 _ (by rw [hv] at k; exact k)
      · have G64 : Goes p e below s₁ (entryFrame m #[(.int p1), (.int p2), (.int p3), (.int p4)] maxLocals) T11 (mkF m 65 #[.val (.int p1), .val (.int p2), .val (.int p3), .val (.int p4), .val (.ref b2), .val (.int (2 : Int32)), .val (.int c1), .val (.int c2), .unset, .unset, .unset] []) := fun _ k => G60 _ (by
            show Steps p.tables e below (T11.setTop (mkF m 56 #[.val (.int p1), .val (.int p2), .val (.int p3), .val (.int p4), .val (.ref b2), .val (.int (2 : Int32)), .val (.int c1), .val (.int c2), .unset, .unset, .unset] [(.int (10 : Int32)), (.int c1)])) _
            refine XS.icmpYes X11.here hx rfl (pc0 := 56) (pc' := 65) rfl (hb hby at_56) rfl (feq hm56_60).2 (by decide) (by decide) ?_
            exact k)
        have G65 : Goes p e below s₁ (entryFrame m #[(.int p1), (.int p2), (.int p3), (.int p4)] maxLocals) T11 (mkF m 69 #[.val (.int p1), .val (.int p2), .val (.int p3), .val (.int p4), .val (.ref b2), .val (.int (2 : Int32)), .val (.int c1), .val (.int c2), .unset, .unset, .unset] [(.int (13 : Int32)), (.int c1)]) := fun _ k => G64 _ (by
            show Steps p.tables e below (T11.setTop (mkF m 65 #[.val (.int p1), .val (.int p2), .val (.int p3), .val (.int p4), .val (.ref b2), .val (.int (2 : Int32)), .val (.int c1), .val (.int c2), .unset, .unset, .unset] [])) _
            refine XS.iload X11.here hx rfl (hb hby at_65) rfl ?_
            show Steps p.tables e below (T11.setTop (mkF m 67 #[.val (.int p1), .val (.int p2), .val (.int p3), .val (.int p4), .val (.ref b2), .val (.int (2 : Int32)), .val (.int c1), .val (.int c2), .unset, .unset, .unset] [(.int c1)])) _
            refine XS.bipush X11.here hx rfl (hb hby at_67) ?_
            exact k)
        by_cases hm69_65 : c1 = (13 : Int32)
        · have G67 : Goes p e below s₁ (entryFrame m #[(.int p1), (.int p2), (.int p3), (.int p4)] maxLocals) T11 (mkF m 72 #[.val (.int p1), .val (.int p2), .val (.int p3), .val (.int p4), .val (.ref b2), .val (.int (2 : Int32)), .val (.int c1), .val (.int c2), .unset, .unset, .unset] []) := fun _ k => G65 _ (by
              show Steps p.tables e below (T11.setTop (mkF m 69 #[.val (.int p1), .val (.int p2), .val (.int p3), .val (.int p4), .val (.ref b2), .val (.int (2 : Int32)), .val (.int c1), .val (.int c2), .unset, .unset, .unset] [(.int (13 : Int32)), (.int c1)])) _
              refine XS.icmpNo X11.here hx rfl (hb hby at_69) rfl (teq hm69_65).2 ?_
              exact k)
          have G68 : Goes p e below s₁ (entryFrame m #[(.int p1), (.int p2), (.int p3), (.int p4)] maxLocals) T11 (mkF m 76 #[.val (.int p1), .val (.int p2), .val (.int p3), .val (.int p4), .val (.ref b2), .val (.int (2 : Int32)), .val (.int c1), .val (.int c2), .unset, .unset, .unset] [(.int (10 : Int32)), (.int c2)]) := fun _ k => G67 _ (by
              show Steps p.tables e below (T11.setTop (mkF m 72 #[.val (.int p1), .val (.int p2), .val (.int p3), .val (.int p4), .val (.ref b2), .val (.int (2 : Int32)), .val (.int c1), .val (.int c2), .unset, .unset, .unset] [])) _
              refine XS.iload X11.here hx rfl (hb hby at_72) rfl ?_
              show Steps p.tables e below (T11.setTop (mkF m 74 #[.val (.int p1), .val (.int p2), .val (.int p3), .val (.int p4), .val (.ref b2), .val (.int (2 : Int32)), .val (.int c1), .val (.int c2), .unset, .unset, .unset] [(.int c2)])) _
              refine XS.bipush X11.here hx rfl (hb hby at_74) ?_
              exact k)
          by_cases hm76_68 : c2 = (10 : Int32)
          · have G70 : Goes p e below s₁ (entryFrame m #[(.int p1), (.int p2), (.int p3), (.int p4)] maxLocals) T11 (mkF m 83 #[.val (.int p1), .val (.int p2), .val (.int p3), .val (.int p4), .val (.ref b2), .val (.int (2 : Int32)), .val (.int c1), .val (.int c2), .unset, .unset, .unset] []) := fun _ k => G68 _ (by
                show Steps p.tables e below (T11.setTop (mkF m 76 #[.val (.int p1), .val (.int p2), .val (.int p3), .val (.int p4), .val (.ref b2), .val (.int (2 : Int32)), .val (.int c1), .val (.int c2), .unset, .unset, .unset] [(.int (10 : Int32)), (.int c2)])) _
                refine XS.icmpYes X11.here hx rfl (pc0 := 76) (pc' := 83) rfl (hb hby at_76) rfl (teq hm76_68).1 (by decide) (by decide) ?_
                exact k)
            have G71 : Goes p e below s₁ (entryFrame m #[(.int p1), (.int p2), (.int p3), (.int p4)] maxLocals) T11 (mkF m 92 #[.val (.int p1), .val (.int p2), .val (.int p3), .val (.int p4), .val (.ref b2), .val (.int (2 : Int32)), .val (.int c1), .val (.int c2), .val (.int (0 : Int32)), .unset, .unset] []) := fun _ k => G70 _ (by
                show Steps p.tables e below (T11.setTop (mkF m 83 #[.val (.int p1), .val (.int p2), .val (.int p3), .val (.int p4), .val (.ref b2), .val (.int (2 : Int32)), .val (.int c1), .val (.int c2), .unset, .unset, .unset] [])) _
                refine XS.iconst X11.here hx rfl (hb hby at_83) ?_
                show Steps p.tables e below (T11.setTop (mkF m 84 #[.val (.int p1), .val (.int p2), .val (.int p3), .val (.int p4), .val (.ref b2), .val (.int (2 : Int32)), .val (.int c1), .val (.int c2), .unset, .unset, .unset] [(.int (0 : Int32))])) _
                refine XS.istore X11.here hx rfl (hb hby at_84) rfl (l' := #[.val (.int p1), .val (.int p2), .val (.int p3), .val (.int p4), .val (.ref b2), .val (.int (2 : Int32)), .val (.int c1), .val (.int c2), .val (.int (0 : Int32)), .unset, .unset]) rfl ?_
                show Steps p.tables e below (T11.setTop (mkF m 86 #[.val (.int p1), .val (.int p2), .val (.int p3), .val (.int p4), .val (.ref b2), .val (.int (2 : Int32)), .val (.int c1), .val (.int c2), .val (.int (0 : Int32)), .unset, .unset] [])) _
                refine XS.goto X11.here hx rfl (pc0 := 86) (pc' := 92) rfl (hb hby at_86) (by decide) (by decide) ?_
                exact k)
            have hv : (own_st c1 c2) = (0 : Int32) := by simp [hm56_60, hm69_65, hm76_68, own_st]
            exact fun _ k => G71 _ (by rw [hv] at k; exact k)
          · have G72 : Goes p e below s₁ (entryFrame m #[(.int p1), (.int p2), (.int p3), (.int p4)] maxLocals) T11 (mkF m 79 #[.val (.int p1), .val (.int p2), .val (.int p3), .val (.int p4), .val (.ref b2), .val (.int (2 : Int32)), .val (.int c1), .val (.int c2), .unset, .unset, .unset] []) := fun _ k => G68 _ (by
                show Steps p.tables e below (T11.setTop (mkF m 76 #[.val (.int p1), .val (.int p2), .val (.int p3), .val (.int p4), .val (.ref b2), .val (.int (2 : Int32)), .val (.int c1), .val (.int c2), .unset, .unset, .unset] [(.int (10 : Int32)), (.int c2)])) _
                refine XS.icmpNo X11.here hx rfl (hb hby at_76) rfl (feq hm76_68).1 ?_
                exact k)
            have G73 : Goes p e below s₁ (entryFrame m #[(.int p1), (.int p2), (.int p3), (.int p4)] maxLocals) T11 (mkF m 92 #[.val (.int p1), .val (.int p2), .val (.int p3), .val (.int p4), .val (.ref b2), .val (.int (2 : Int32)), .val (.int c1), .val (.int c2), .val (.int (1 : Int32)), .unset, .unset] []) := fun _ k => G72 _ (by
                show Steps p.tables e below (T11.setTop (mkF m 79 #[.val (.int p1), .val (.int p2), .val (.int p3), .val (.int p4), .val (.ref b2), .val (.int (2 : Int32)), .val (.int c1), .val (.int c2), .unset, .unset, .unset] [])) _
                refine XS.iconst X11.here hx rfl (hb hby at_79) ?_
                show Steps p.tables e below (T11.setTop (mkF m 80 #[.val (.int p1), .val (.int p2), .val (.int p3), .val (.int p4), .val (.ref b2), .val (.int (2 : Int32)), .val (.int c1), .val (.int c2), .unset, .unset, .unset] [(.int (1 : Int32))])) _
                refine XS.goto X11.here hx rfl (pc0 := 80) (pc' := 84) rfl (hb hby at_80) (by decide) (by decide) ?_
                show Steps p.tables e below (T11.setTop (mkF m 84 #[.val (.int p1), .val (.int p2), .val (.int p3), .val (.int p4), .val (.ref b2), .val (.int (2 : Int32)), .val (.int c1), .val (.int c2), .unset, .unset, .unset] [(.int (1 : Int32))])) _
                refine XS.istore X11.here hx rfl (hb hby at_84) rfl (l' := #[.val (.int p1), .val (.int p2), .val (.int p3), .val (.int p4), .val (.ref b2), .val (.int (2 : Int32)), .val (.int c1), .val (.int c2), .val (.int (1 : Int32)), .unset, .unset]) rfl ?_
                show Steps p.tables e below (T11.setTop (mkF m 86 #[.val (.int p1), .val (.int p2), .val (.int p3), .val (.int p4), .val (.ref b2), .val (.int (2 : Int32)), .val (.int c1), .val (.int c2), .val (.int (1 : Int32)), .unset, .unset] [])) _
                refine XS.goto X11.here hx rfl (pc0 := 86) (pc' := 92) rfl (hb hby at_86) (by decide) (by decide) ?_
                exact k)
            have hv : (own_st c1 c2) = (1 : Int32) := by simp [hm56_60, hm69_65, hm76_68, own_st]
            exact fun _ k => G73 _ (by rw [hv] at k; exact k)
        · have G74 : Goes p e below s₁ (entryFrame m #[(.int p1), (.int p2), (.int p3), (.int p4)] maxLocals) T11 (mkF m 89 #[.val (.int p1), .val (.int p2), .val (.int p3), .val (.int p4), .val (.ref b2), .val (.int (2 : Int32)), .val (.int c1), .val (.int c2), .unset, .unset, .unset] []) := fun _ k => G65 _ (by
              show Steps p.tables e below (T11.setTop (mkF m 69 #[.val (.int p1), .val (.int p2), .val (.int p3), .val (.int p4), .val (.ref b2), .val (.int (2 : Int32)), .val (.int c1), .val (.int c2), .unset, .unset, .unset] [(.int (13 : Int32)), (.int c1)])) _
              refine XS.icmpYes X11.here hx rfl (pc0 := 69) (pc' := 89) rfl (hb hby at_69) rfl (feq hm69_65).2 (by decide) (by decide) ?_
              exact k)
          have G75 : Goes p e below s₁ (entryFrame m #[(.int p1), (.int p2), (.int p3), (.int p4)] maxLocals) T11 (mkF m 92 #[.val (.int p1), .val (.int p2), .val (.int p3), .val (.int p4), .val (.ref b2), .val (.int (2 : Int32)), .val (.int c1), .val (.int c2), .val (.int (0 : Int32)), .unset, .unset] []) := fun _ k => G74 _ (by
              show Steps p.tables e below (T11.setTop (mkF m 89 #[.val (.int p1), .val (.int p2), .val (.int p3), .val (.int p4), .val (.ref b2), .val (.int (2 : Int32)), .val (.int c1), .val (.int c2), .unset, .unset, .unset] [])) _
              refine XS.iconst X11.here hx rfl (hb hby at_89) ?_
              show Steps p.tables e below (T11.setTop (mkF m 90 #[.val (.int p1), .val (.int p2), .val (.int p3), .val (.int p4), .val (.ref b2), .val (.int (2 : Int32)), .val (.int c1), .val (.int c2), .unset, .unset, .unset] [(.int (0 : Int32))])) _
              refine XS.istore X11.here hx rfl (hb hby at_90) rfl (l' := #[.val (.int p1), .val (.int p2), .val (.int p3), .val (.int p4), .val (.ref b2), .val (.int (2 : Int32)), .val (.int c1), .val (.int c2), .val (.int (0 : Int32)), .unset, .unset]) rfl ?_
              exact k)
          have hv : (own_st c1 c2) = (0 : Int32) := by simp [hm56_60, hm69_65, own_st]
          exact fun _ k => G75 _ (by rw [hv] at k; exact k)
    have G76 : Goes p e below s₁ (entryFrame m #[(.int p1), (.int p2), (.int p3), (.int p4)] maxLocals) T11 (mkF m 96 #[.val (.int p1), .val (.int p2), .val (.int p3), .val (.int p4), .val (.ref b2), .val (.int (2 : Int32)), .val (.int c1), .val (.int c2), .val (.int (own_st c1 c2)), .unset, .unset] [(.int (2 : Int32)), (.ref b2)]) := fun _ k => G59 _ (by
        show Steps p.tables e below (T11.setTop (mkF m 92 #[.val (.int p1), .val (.int p2), .val (.int p3), .val (.int p4), .val (.ref b2), .val (.int (2 : Int32)), .val (.int c1), .val (.int c2), .val (.int (own_st c1 c2)), .unset, .unset] [])) _
        refine XS.aload X11.here hx rfl (hb hby at_92) rfl rfl ?_
        show Steps p.tables e below (T11.setTop (mkF m 94 #[.val (.int p1), .val (.int p2), .val (.int p3), .val (.int p4), .val (.ref b2), .val (.int (2 : Int32)), .val (.int c1), .val (.int c2), .val (.int (own_st c1 c2)), .unset, .unset] [(.ref b2)])) _
        refine XS.iload X11.here hx rfl (hb hby at_94) rfl ?_
        exact k)
    obtain ⟨_, _, ⟨T77, L77, k77, n77⟩, -, X77, ⟨Lc77, hQ77, l77, y77, z77⟩, st77⟩ := Jvm.LawKit.callS X11 hx (y := (⟨"com/example/covary/covary/CsvLines", "startsLine", "([BI)Z"⟩ : MethodName)) hown (mvT hZ (hw _ (List.mem_of_getElem? (i := 5) rfl))) (mvT hZ (hw _ (List.mem_of_getElem? (i := 6) rfl))) (mvT hZ (hw _ (List.mem_of_getElem? (i := 7) rfl))) (mvT hZ (hw _ (List.mem_of_getElem? (i := 8) rfl))) (by decide) (backOf (W := 0) (rm2_2 l Z a0 hw [] b2 k2 c0 c1 c2 h11 n0 Zn V11) hZ (hw _ (List.mem_of_getElem? (i := 8) rfl)) (hw _ (List.mem_of_getElem? (i := 7) rfl)) (by decide) (by decide)) (g := (mkF m 96 #[.val (.int p1), .val (.int p2), .val (.int p3), .val (.int p4), .val (.ref b2), .val (.int (2 : Int32)), .val (.int c1), .val (.int c2), .val (.int (own_st c1 c2)), .unset, .unset] [(.int (2 : Int32)), (.ref b2)])) rfl (by rw [hml]; rfl) (argsL := [(.ref b2), (.int (2 : Int32))]) (rest := []) (lenOf own_pd3 rfl) rfl (by show 2 * 0 + _ ≤ _; exact Nat.le_of_eq rfl) (hb hby at_96) (fun _ _ => ⟨rfl, e11, (by decide : 1 + 0 ≤ _), (by decide : 3 + 0 ≤ _)⟩)
    dsimp only [Pt.U, Pt.locs, Pt.cells, Pt.slots] at X77 l77 y77 z77 st77 hQ77
    subst l77 y77 z77
    obtain ⟨rfl, N77q, hh77⟩ := hQ77
    have N77 := Fr.app N11 N77q
    have G77 : Goes p e below s₁ (entryFrame m #[(.int p1), (.int p2), (.int p3), (.int p4)] maxLocals) T77 (mkF m 99 #[.val (.int p1), .val (.int p2), .val (.int p3), .val (.int p4), .val (.ref b2), .val (.int (2 : Int32)), .val (.int c1), .val (.int c2), .val (.int (own_st c1 c2)), .unset, .unset] [(.int (own_st c1 c2))]) := fun _ k => G76 _ (st77 _ k)
    have G78 : Goes p e below s₁ (entryFrame m #[(.int p1), (.int p2), (.int p3), (.int p4)] maxLocals) T77 (mkF m 108 #[.val (.int p1), .val (.int p2), .val (.int p3), .val (.int p4), .val (.ref b2), .val (.int (2 : Int32)), .val (.int c1), .val (.int c2), .val (.int (own_st c1 c2)), .val (.int (own_st c1 c2)), .unset] [(.int (3 : Int32)), (.int (1 : Int32)), (.ref b2)]) := fun _ k => G77 _ (by
        show Steps p.tables e below (T77.setTop (mkF m 99 #[.val (.int p1), .val (.int p2), .val (.int p3), .val (.int p4), .val (.ref b2), .val (.int (2 : Int32)), .val (.int c1), .val (.int c2), .val (.int (own_st c1 c2)), .unset, .unset] [(.int (own_st c1 c2))])) _
        refine XS.istore X77.here hx rfl (hb hby at_99) rfl (l' := #[.val (.int p1), .val (.int p2), .val (.int p3), .val (.int p4), .val (.ref b2), .val (.int (2 : Int32)), .val (.int c1), .val (.int c2), .val (.int (own_st c1 c2)), .val (.int (own_st c1 c2)), .unset]) rfl ?_
        show Steps p.tables e below (T77.setTop (mkF m 101 #[.val (.int p1), .val (.int p2), .val (.int p3), .val (.int p4), .val (.ref b2), .val (.int (2 : Int32)), .val (.int c1), .val (.int c2), .val (.int (own_st c1 c2)), .val (.int (own_st c1 c2)), .unset] [])) _
        refine XS.aload X77.here hx rfl (hb hby at_101) rfl rfl ?_
        show Steps p.tables e below (T77.setTop (mkF m 103 #[.val (.int p1), .val (.int p2), .val (.int p3), .val (.int p4), .val (.ref b2), .val (.int (2 : Int32)), .val (.int c1), .val (.int c2), .val (.int (own_st c1 c2)), .val (.int (own_st c1 c2)), .unset] [(.ref b2)])) _
        refine XS.iload X77.here hx rfl (hb hby at_103) rfl ?_
        show Steps p.tables e below (T77.setTop (mkF m 105 #[.val (.int p1), .val (.int p2), .val (.int p3), .val (.int p4), .val (.ref b2), .val (.int (2 : Int32)), .val (.int c1), .val (.int c2), .val (.int (own_st c1 c2)), .val (.int (own_st c1 c2)), .unset] [(.int (2 : Int32)), (.ref b2)])) _
        refine XS.iconst X77.here hx rfl (hb hby at_105) ?_
        show Steps p.tables e below (T77.setTop (mkF m 106 #[.val (.int p1), .val (.int p2), .val (.int p3), .val (.int p4), .val (.ref b2), .val (.int (2 : Int32)), .val (.int c1), .val (.int c2), .val (.int (own_st c1 c2)), .val (.int (own_st c1 c2)), .unset] [(.int (1 : Int32)), (.int (2 : Int32)), (.ref b2)])) _
        refine XS.isub X77.here hx rfl (hb hby at_106) rfl ?_
        show Steps p.tables e below (T77.setTop (mkF m 107 #[.val (.int p1), .val (.int p2), .val (.int p3), .val (.int p4), .val (.ref b2), .val (.int (2 : Int32)), .val (.int c1), .val (.int c2), .val (.int (own_st c1 c2)), .val (.int (own_st c1 c2)), .unset] [(.int (1 : Int32)), (.ref b2)])) _
        refine XS.iconst X77.here hx rfl (hb hby at_107) ?_
        exact k)
    obtain ⟨_, _, ⟨T79, L79, k79, n79⟩, -, X79, ⟨Lc79, hQ79, l79, y79, z79⟩, st79⟩ := Jvm.LawKit.callS X77 hx (y := (⟨"com/example/covary/covary/CsvLines", "nextLine", "([BII)I"⟩ : MethodName)) hown (mvT hZ (hw _ (List.mem_of_getElem? (i := 9) rfl))) (mvT hZ (hw _ (List.mem_of_getElem? (i := 10) rfl))) (mvT hZ (hw _ (List.mem_of_getElem? (i := 7) rfl))) (mvT hZ (hw _ (List.mem_of_getElem? (i := 11) rfl))) (by decide) (backOf (W := 0) (rm3_1 l Z a0 hw [] b2 k2 c0 c1 c2 h11 n0 Zn V11) hZ (hw _ (List.mem_of_getElem? (i := 11) rfl)) (hw _ (List.mem_of_getElem? (i := 7) rfl)) (by decide) (by decide)) (g := (mkF m 108 #[.val (.int p1), .val (.int p2), .val (.int p3), .val (.int p4), .val (.ref b2), .val (.int (2 : Int32)), .val (.int c1), .val (.int c2), .val (.int (own_st c1 c2)), .val (.int (own_st c1 c2)), .unset] [(.int (3 : Int32)), (.int (1 : Int32)), (.ref b2)])) rfl (by rw [hml]; rfl) (argsL := [(.ref b2), (.int (1 : Int32)), (.int (3 : Int32))]) (rest := []) (lenOf own_pd1 rfl) rfl (by show 2 * 0 + _ ≤ _; exact Nat.le_of_eq rfl) (hb hby at_108) (fun _ _ => ⟨rfl, hh77, (by decide : 1 + 0 ≤ _), (by decide : 3 + 0 ≤ _)⟩)
    dsimp only [Pt.U, Pt.locs, Pt.cells, Pt.slots] at X79 l79 y79 z79 st79 hQ79
    subst l79 y79 z79
    obtain ⟨rfl, N79q, hh79⟩ := hQ79
    have N79 := Fr.app N77 N79q
    have G79 : Goes p e below s₁ (entryFrame m #[(.int p1), (.int p2), (.int p3), (.int p4)] maxLocals) T79 (mkF m 111 #[.val (.int p1), .val (.int p2), .val (.int p3), .val (.int p4), .val (.ref b2), .val (.int (2 : Int32)), .val (.int c1), .val (.int c2), .val (.int (own_st c1 c2)), .val (.int (own_st c1 c2)), .unset] [(.int (own_nl1 c1 c2))]) := fun _ k => G78 _ (st79 _ k)
    have G80 : Goes p e below s₁ (entryFrame m #[(.int p1), (.int p2), (.int p3), (.int p4)] maxLocals) T79 (mkF m 117 #[.val (.int p1), .val (.int p2), .val (.int p3), .val (.int p4), .val (.ref b2), .val (.int (2 : Int32)), .val (.int c1), .val (.int c2), .val (.int (own_st c1 c2)), .val (.int (own_st c1 c2)), .val (.int (own_nl1 c1 c2))] [(.int (own_st c1 c2)), (.int (own_st c1 c2))]) := fun _ k => G79 _ (by
        show Steps p.tables e below (T79.setTop (mkF m 111 #[.val (.int p1), .val (.int p2), .val (.int p3), .val (.int p4), .val (.ref b2), .val (.int (2 : Int32)), .val (.int c1), .val (.int c2), .val (.int (own_st c1 c2)), .val (.int (own_st c1 c2)), .unset] [(.int (own_nl1 c1 c2))])) _
        refine XS.istore X79.here hx rfl (hb hby at_111) rfl (l' := #[.val (.int p1), .val (.int p2), .val (.int p3), .val (.int p4), .val (.ref b2), .val (.int (2 : Int32)), .val (.int c1), .val (.int c2), .val (.int (own_st c1 c2)), .val (.int (own_st c1 c2)), .val (.int (own_nl1 c1 c2))]) rfl ?_
        show Steps p.tables e below (T79.setTop (mkF m 113 #[.val (.int p1), .val (.int p2), .val (.int p3), .val (.int p4), .val (.ref b2), .val (.int (2 : Int32)), .val (.int c1), .val (.int c2), .val (.int (own_st c1 c2)), .val (.int (own_st c1 c2)), .val (.int (own_nl1 c1 c2))] [])) _
        refine XS.iload X79.here hx rfl (hb hby at_113) rfl ?_
        show Steps p.tables e below (T79.setTop (mkF m 115 #[.val (.int p1), .val (.int p2), .val (.int p3), .val (.int p4), .val (.ref b2), .val (.int (2 : Int32)), .val (.int c1), .val (.int c2), .val (.int (own_st c1 c2)), .val (.int (own_st c1 c2)), .val (.int (own_nl1 c1 c2))] [(.int (own_st c1 c2))])) _
        refine XS.iload X79.here hx rfl (hb hby at_115) rfl ?_
        exact k)
    have G81 : Goes p e below s₁ (entryFrame m #[(.int p1), (.int p2), (.int p3), (.int p4)] maxLocals) T79 (mkF m 120 #[.val (.int p1), .val (.int p2), .val (.int p3), .val (.int p4), .val (.ref b2), .val (.int (2 : Int32)), .val (.int c1), .val (.int c2), .val (.int (own_st c1 c2)), .val (.int (own_st c1 c2)), .val (.int (own_nl1 c1 c2))] []) := fun _ k => G80 _ (by
        show Steps p.tables e below (T79.setTop (mkF m 117 #[.val (.int p1), .val (.int p2), .val (.int p3), .val (.int p4), .val (.ref b2), .val (.int (2 : Int32)), .val (.int c1), .val (.int c2), .val (.int (own_st c1 c2)), .val (.int (own_st c1 c2)), .val (.int (own_nl1 c1 c2))] [(.int (own_st c1 c2)), (.int (own_st c1 c2))])) _
        refine XS.icmpNo X79.here hx rfl (hb hby at_117) rfl (teq rfl).2 ?_
        exact k)
    have G82 : Goes p e below s₁ (entryFrame m #[(.int p1), (.int p2), (.int p3), (.int p4)] maxLocals) T79 (mkF m 126 #[.val (.int p1), .val (.int p2), .val (.int p3), .val (.int p4), .val (.ref b2), .val (.int (2 : Int32)), .val (.int c1), .val (.int c2), .val (.int (own_st c1 c2)), .val (.int (own_st c1 c2)), .val (.int (own_nl1 c1 c2))] [(.int (2 : Int32)), (.int (own_nl1 c1 c2)), (.int (own_st c1 c2))]) := fun _ k => G81 _ (by
        show Steps p.tables e below (T79.setTop (mkF m 120 #[.val (.int p1), .val (.int p2), .val (.int p3), .val (.int p4), .val (.ref b2), .val (.int (2 : Int32)), .val (.int c1), .val (.int c2), .val (.int (own_st c1 c2)), .val (.int (own_st c1 c2)), .val (.int (own_nl1 c1 c2))] [])) _
        refine XS.iload X79.here hx rfl (hb hby at_120) rfl ?_
        show Steps p.tables e below (T79.setTop (mkF m 122 #[.val (.int p1), .val (.int p2), .val (.int p3), .val (.int p4), .val (.ref b2), .val (.int (2 : Int32)), .val (.int c1), .val (.int c2), .val (.int (own_st c1 c2)), .val (.int (own_st c1 c2)), .val (.int (own_nl1 c1 c2))] [(.int (own_st c1 c2))])) _
        refine XS.iload X79.here hx rfl (hb hby at_122) rfl ?_
        show Steps p.tables e below (T79.setTop (mkF m 124 #[.val (.int p1), .val (.int p2), .val (.int p3), .val (.int p4), .val (.ref b2), .val (.int (2 : Int32)), .val (.int c1), .val (.int c2), .val (.int (own_st c1 c2)), .val (.int (own_st c1 c2)), .val (.int (own_nl1 c1 c2))] [(.int (own_nl1 c1 c2)), (.int (own_st c1 c2))])) _
        refine XS.iload X79.here hx rfl (hb hby at_124) rfl ?_
        exact k)
    have G83 : Goes p e below s₁ (entryFrame m #[(.int p1), (.int p2), (.int p3), (.int p4)] maxLocals) T79 (mkF m 134 #[.val (.int p1), .val (.int p2), .val (.int p3), .val (.int p4), .val (.ref b2), .val (.int (2 : Int32)), .val (.int c1), .val (.int c2), .val (.int (own_st c1 c2)), .val (.int (own_st c1 c2)), .val (.int (own_nl1 c1 c2))] [(.int (if (own_nl1 c1 c2) = (2 : Int32) then (1 : Int32) else 0)), (.int (own_st c1 c2))]) := by
      by_cases hm126_83 : (own_nl1 c1 c2) = (2 : Int32)
      · have G85 : Goes p e below s₁ (entryFrame m #[(.int p1), (.int p2), (.int p3), (.int p4)] maxLocals) T79 (mkF m 129 #[.val (.int p1), .val (.int p2), .val (.int p3), .val (.int p4), .val (.ref b2), .val (.int (2 : Int32)), .val (.int c1), .val (.int c2), .val (.int (own_st c1 c2)), .val (.int (own_st c1 c2)), .val (.int (own_nl1 c1 c2))] [(.int (own_st c1 c2))]) := fun _ k => G82 _ (by
            show Steps p.tables e below (T79.setTop (mkF m 126 #[.val (.int p1), .val (.int p2), .val (.int p3), .val (.int p4), .val (.ref b2), .val (.int (2 : Int32)), .val (.int c1), .val (.int c2), .val (.int (own_st c1 c2)), .val (.int (own_st c1 c2)), .val (.int (own_nl1 c1 c2))] [(.int (2 : Int32)), (.int (own_nl1 c1 c2)), (.int (own_st c1 c2))])) _
            refine XS.icmpNo X79.here hx rfl (hb hby at_126) rfl (teq hm126_83).2 ?_
            exact k)
        have G86 : Goes p e below s₁ (entryFrame m #[(.int p1), (.int p2), (.int p3), (.int p4)] maxLocals) T79 (mkF m 134 #[.val (.int p1), .val (.int p2), .val (.int p3), .val (.int p4), .val (.ref b2), .val (.int (2 : Int32)), .val (.int c1), .val (.int c2), .val (.int (own_st c1 c2)), .val (.int (own_st c1 c2)), .val (.int (own_nl1 c1 c2))] [(.int (1 : Int32)), (.int (own_st c1 c2))]) := fun _ k => G85 _ (by
            show Steps p.tables e below (T79.setTop (mkF m 129 #[.val (.int p1), .val (.int p2), .val (.int p3), .val (.int p4), .val (.ref b2), .val (.int (2 : Int32)), .val (.int c1), .val (.int c2), .val (.int (own_st c1 c2)), .val (.int (own_st c1 c2)), .val (.int (own_nl1 c1 c2))] [(.int (own_st c1 c2))])) _
            refine XS.iconst X79.here hx rfl (hb hby at_129) ?_
            show Steps p.tables e below (T79.setTop (mkF m 130 #[.val (.int p1), .val (.int p2), .val (.int p3), .val (.int p4), .val (.ref b2), .val (.int (2 : Int32)), .val (.int c1), .val (.int c2), .val (.int (own_st c1 c2)), .val (.int (own_st c1 c2)), .val (.int (own_nl1 c1 c2))] [(.int (1 : Int32)), (.int (own_st c1 c2))])) _
            refine XS.goto X79.here hx rfl (pc0 := 130) (pc' := 134) rfl (hb hby at_130) (by decide) (by decide) ?_
            exact k)
        have hv : (if (own_nl1 c1 c2) = (2 : Int32) then (1 : Int32) else 0) = (1 : Int32) := by simp [hm126_83]
        exact fun _ k => G86 _ (by rw [hv] at k; exact k)
      · have G87 : Goes p e below s₁ (entryFrame m #[(.int p1), (.int p2), (.int p3), (.int p4)] maxLocals) T79 (mkF m 133 #[.val (.int p1), .val (.int p2), .val (.int p3), .val (.int p4), .val (.ref b2), .val (.int (2 : Int32)), .val (.int c1), .val (.int c2), .val (.int (own_st c1 c2)), .val (.int (own_st c1 c2)), .val (.int (own_nl1 c1 c2))] [(.int (own_st c1 c2))]) := fun _ k => G82 _ (by
            show Steps p.tables e below (T79.setTop (mkF m 126 #[.val (.int p1), .val (.int p2), .val (.int p3), .val (.int p4), .val (.ref b2), .val (.int (2 : Int32)), .val (.int c1), .val (.int c2), .val (.int (own_st c1 c2)), .val (.int (own_st c1 c2)), .val (.int (own_nl1 c1 c2))] [(.int (2 : Int32)), (.int (own_nl1 c1 c2)), (.int (own_st c1 c2))])) _
            refine XS.icmpYes X79.here hx rfl (pc0 := 126) (pc' := 133) rfl (hb hby at_126) rfl (feq hm126_83).2 (by decide) (by decide) ?_
            exact k)
        have G88 : Goes p e below s₁ (entryFrame m #[(.int p1), (.int p2), (.int p3), (.int p4)] maxLocals) T79 (mkF m 134 #[.val (.int p1), .val (.int p2), .val (.int p3), .val (.int p4), .val (.ref b2), .val (.int (2 : Int32)), .val (.int c1), .val (.int c2), .val (.int (own_st c1 c2)), .val (.int (own_st c1 c2)), .val (.int (own_nl1 c1 c2))] [(.int (0 : Int32)), (.int (own_st c1 c2))]) := fun _ k => G87 _ (by
            show Steps p.tables e below (T79.setTop (mkF m 133 #[.val (.int p1), .val (.int p2), .val (.int p3), .val (.int p4), .val (.ref b2), .val (.int (2 : Int32)), .val (.int c1), .val (.int c2), .val (.int (own_st c1 c2)), .val (.int (own_st c1 c2)), .val (.int (own_nl1 c1 c2))] [(.int (own_st c1 c2))])) _
            refine XS.iconst X79.here hx rfl (hb hby at_133) ?_
            exact k)
        have hv : (if (own_nl1 c1 c2) = (2 : Int32) then (1 : Int32) else 0) = (0 : Int32) := by simp [hm126_83]
        exact fun _ k => G88 _ (by rw [hv] at k; exact k)
    have G89 : Goes p e below s₁ (entryFrame m #[(.int p1), (.int p2), (.int p3), (.int p4)] maxLocals) T79 (mkF m 137 #[.val (.int p1), .val (.int p2), .val (.int p3), .val (.int p4), .val (.ref b2), .val (.int (2 : Int32)), .val (.int c1), .val (.int c2), .val (.int (own_st c1 c2)), .val (.int (own_st c1 c2)), .val (.int (own_nl1 c1 c2))] []) := fun _ k => G83 _ (by
        show Steps p.tables e below (T79.setTop (mkF m 134 #[.val (.int p1), .val (.int p2), .val (.int p3), .val (.int p4), .val (.ref b2), .val (.int (2 : Int32)), .val (.int c1), .val (.int c2), .val (.int (own_st c1 c2)), .val (.int (own_st c1 c2)), .val (.int (own_nl1 c1 c2))] [(.int (if (own_nl1 c1 c2) = (2 : Int32) then (1 : Int32) else 0)), (.int (own_st c1 c2))])) _
        refine XS.icmpNo X79.here hx rfl (hb hby at_134) rfl (teq (own_law1 c1 c2)).2 ?_
        exact k)
    have G90 : Goes p e below s₁ (entryFrame m #[(.int p1), (.int p2), (.int p3), (.int p4)] maxLocals) T79 (mkF m 142 #[.val (.int p1), .val (.int p2), .val (.int p3), .val (.int p4), .val (.ref b2), .val (.int (2 : Int32)), .val (.int c1), .val (.int c2), .val (.int (own_st c1 c2)), .val (.int (own_st c1 c2)), .val (.int (own_nl1 c1 c2))] [(.int (1 : Int32))]) := fun _ k => G89 _ (by
        show Steps p.tables e below (T79.setTop (mkF m 137 #[.val (.int p1), .val (.int p2), .val (.int p3), .val (.int p4), .val (.ref b2), .val (.int (2 : Int32)), .val (.int c1), .val (.int c2), .val (.int (own_st c1 c2)), .val (.int (own_st c1 c2)), .val (.int (own_nl1 c1 c2))] [])) _
        refine XS.iconst X79.here hx rfl (hb hby at_137) ?_
        show Steps p.tables e below (T79.setTop (mkF m 138 #[.val (.int p1), .val (.int p2), .val (.int p3), .val (.int p4), .val (.ref b2), .val (.int (2 : Int32)), .val (.int c1), .val (.int c2), .val (.int (own_st c1 c2)), .val (.int (own_st c1 c2)), .val (.int (own_nl1 c1 c2))] [(.int (1 : Int32))])) _
        refine XS.goto X79.here hx rfl (pc0 := 138) (pc' := 142) rfl (hb hby at_138) (by decide) (by decide) ?_
        exact k)
    obtain ⟨fs, hr, hrun, hended, hW, hsame⟩ := X79.leave (v := some (.int (1 : Int32))) (fun h => by rw [Bd.returns] at h; cases h)
    refine ⟨_, _, G90 _ (retN X79 hx (t := .boolean) Bd.returns (by simp) (hb hby at_142) hr), hrun, hended, _, _, rfl, ?_, ⟨_, rfl⟩, hW, hsame.mono (by decide) (by decide)⟩
    show Q0 n0 _ T79.heap _
    exact ⟨rfl, N79⟩
set_option maxRecDepth 65536 in
set_option maxHeartbeats 40000000 in
theorem comes_1 {Post : Tables → Env → Array Value → State → Outcome → State → Prop} (hpost : ∀ tb e args s v u, (limb_1_1.after args s (.returned v) u = true ∧ limb_1_2.after args s (.returned v) u = true ∧ True) → FrameEnd s (.returned v) u (Jvm.fieldLocs frame_1_writes args s ++ Jvm.arrayLocs frame_1_arrays args s ++ Jvm.staticLocs frame_1_statics s) 16 128 → Post tb e args s (.returned v) u) :
    ArmFor flags0 classFile x code maxLocals ret World_1 tables_1 room_1 Calls_1 rest_1 Pre_1 Post := by
  intro l hfl _ _ p e ha hc hk s m args below hf hA hF happ hP
  obtain ⟨hcalls, hrest, hpre⟩ := hP
  obtain ⟨-, -, -, hnamed, -, -, -, hat⟩ := (Spec.applies_iff hf).mp happ
  obtain ⟨hg, hn⟩ := and_e (Cond.before_iff.mp (show (Jvm.Cond.and given_1 narrow_1).before args s = true from hpre))
  obtain ⟨g16, g17⟩ := and_e hg
  obtain ⟨g18, g19⟩ := and_e g17
  obtain ⟨g20, g21⟩ := and_e g19
  obtain ⟨g22, g23⟩ := and_e g21
  obtain ⟨w0, w1, w2, w3, rfl⟩ : ∃ w0 w1 w2 w3 : Value, args = #[w0, w1, w2, w3] := by
    have hs : args.size = 4 := by simpa [Cond.value, given_1] using g16
    obtain ⟨L⟩ := args
    match L, hs with
    | [w0, w1, w2, w3], _ => exact ⟨w0, w1, w2, w3, rfl⟩
  have hw := fun d (hd : d ∈ tables_1) => atoms_spec (ws := Jvm.Cond.code x code maxLocals ret :: tables_1) hat d (List.mem_cons_of_mem _ hd)
  obtain ⟨i0, ei0⟩ := is_v g18
  obtain rfl : w0 = (.int i0) := Option.some.inj ei0
  obtain ⟨i1, ei1⟩ := is_v g20
  obtain rfl : w1 = (.int i1) := Option.some.inj ei1
  obtain ⟨i2, ei2⟩ := is_v g22
  obtain rfl : w2 = (.int i2) := Option.some.inj ei2
  obtain ⟨i3, ei3⟩ := is_v g23
  obtain rfl : w3 = (.int i3) := Option.some.inj ei3
  obtain ⟨n, o, h1, h2, h3, _, L, rfl, ⟨rfl, N⟩, hq⟩ := rm0 l s _ hw tables_1 i0 i1 i2 i3 s.heap s.heap.size (Nat.le_refl _) p e ha hc hk s m _ below hf ((Spec.applies_iff_loose hf).mp happ).1 ⟨rfl, State.Warmed39.refl s, rfl⟩ trivial
  refine ⟨n, _, h1, h2, h3, hpost _ _ _ _ _ _ ⟨Cond.after_iff.mpr rfl, Cond.after_iff.mpr (eq_i res_at (Term.int_eval (1)) rfl), trivial⟩ ⟨hq.1, hq.2.1, (hq.2.2.sift fun y hy => Or.inr (N y hy)).mono (by decide) (by decide)⟩⟩
theorem main_1_1 : Claimed_1_1 := comes_1 fun _ _ _ _ _ _ h hF => ⟨h.1, hF⟩
theorem main_1_2 : Claimed_1_2 := comes_1 fun _ _ _ _ _ _ h hF => ⟨h.2.1, hF⟩
end Jvm.Pilot.@@N@@
namespace Jvm.Pilot.@@N@@
open Jvm Jvm.ClassFile Sem Op Lib Jvm.Free Jvm.Stand Jvm.Pilot.@@N@@.Jvm.D
/-! MADE BY PROGRAM (witnessworld.py) out of the Statement's table words and the real class files: 9 classes; the members and pool entries that the words name. The judged class is class 1, her method 1. -/
namespace start1
open Jvm.ClassFile
def u (s : String) : CpInfo := .utf8 (stringToUtf16 s)
/-- a pool by its gaps: so many unusable entries, then the entry; so many at the end -/
def gap : Nat → List CpInfo → List CpInfo
  | 0, r => r
  | n + 1, r => .unusable :: gap n r
def poolList (es : List (Nat × CpInfo)) (last : Nat) : List CpInfo := es.foldr (fun e r => gap e.1 (e.2 :: r)) (gap last [])
def pool (es : List (Nat × CpInfo)) (last : Nat) : Array CpInfo := ⟨poolList es last⟩
def fileOf (pool : Array CpInfo) (this : Nat) (attrs : Array Attribute := #[]) (ms : Array MethodInfo := #[]) (fl : Nat := 33) (sup : Nat := 0) (ifs : Array Nat := #[]) (fds : Array FieldInfo := #[]) : ClassFile where
  minorVersion := 0
  majorVersion := 65
  constantPool := pool
  accessFlags := fl
  thisClass := this
  superClass := sup
  interfaces := ifs
  fields := fds
  methods := ms
  attributes := attrs
def plain (name : String) (sup : Option ClassId) : Class where
  name := name
  kind := .ordinary
  loader := none
  accessFlags := 33
  super := sup
  interfaces := #[]
  cf := none
  fields := #[]
  methods := #[]
  instanceTypes := #[]
  staticTypes := #[]
  resolved := #[]
  callSites := []
  init := .initialized
  statics := none
  mirror := none

def pool0 : Array CpInfo := pool [(5, u "<init>"), (0, u "()V"), (1, .class_ 10), (1, u "java/lang/Object")] 113

def k0m0 : Method := { name := "<init>", desc := "()V", sig := { parameters := [], returnType := none }, accessFlags := 1, code := none }
/-- java/lang/Object -/
def k0 : Class := { plain "java/lang/Object" none with
  accessFlags := 33
  interfaces := #[]
  cf := some (fileOf pool0 8 #[] #[{ accessFlags := 1, nameIndex := 5, descriptorIndex := 6, attributes := #[] }] 33 0 #[] #[])
  fields := #[]
  methods := #[k0m0]
  instanceTypes := #[]
  staticTypes := #[]
  resolved := Array.replicate 124 none
  statics := none }

def pool1 : Array CpInfo := pool [(2, .class_ 4), (1, u "java/lang/Object"), (0, u "<init>"), (0, u "()V"), (0, .methodref 8 9), (0, .class_ 10), (0, .nameAndType 11 12), (0, u "com/example/covary/covary/CsvLinesStartsLinePinLaw"), (0, u "pick"), (0, u "(I)B"), (0, .methodref 14 15), (0, .class_ 16), (0, .nameAndType 17 18), (0, u "com/example/covary/covary/CsvLines"), (0, u "startsLine"), (0, u "([BI)Z"), (0, .methodref 14 20), (0, .nameAndType 21 22), (0, u "nextLine"), (0, u "([BII)I"), (2, u "law"), (0, u "(IIII)Z")] 5

def k1m0 : Method := { name := "<init>", desc := "()V", sig := { parameters := [], returnType := none }, accessFlags := 1, code := none }
def k1c1 : Code := { maxStack := 3, maxLocals := 11, code := code, exceptionTable := #[], attributes := #[] }
def k1m1 : Method := { name := "law", desc := "(IIII)Z", sig := { parameters := [.int, .int, .int, .int], returnType := some .boolean }, accessFlags := 9, code := some k1c1 }
def k1c2 : Code := { maxStack := 2, maxLocals := 2, code := method_3_code, exceptionTable := #[], attributes := #[] }
def k1m2 : Method := { name := "pick", desc := "(I)B", sig := { parameters := [.int], returnType := some .byte }, accessFlags := 10, code := some k1c2 }
/-- com/example/covary/covary/CsvLinesStartsLinePinLaw -/
def k1 : Class := { plain "com/example/covary/covary/CsvLinesStartsLinePinLaw" (some 0) with
  accessFlags := 49
  interfaces := #[]
  cf := some (fileOf pool1 8 #[] #[{ accessFlags := 1, nameIndex := 5, descriptorIndex := 6, attributes := #[] }, { accessFlags := 9, nameIndex := 25, descriptorIndex := 26, attributes := #[] }, { accessFlags := 10, nameIndex := 11, descriptorIndex := 12, attributes := #[] }] 49 2 #[] #[])
  fields := #[]
  methods := #[k1m0, k1m1, k1m2]
  instanceTypes := #[]
  staticTypes := #[]
  resolved := Array.replicate 32 none
  statics := none }

def pool2 : Array CpInfo := pool [(2, .class_ 4), (1, u "java/lang/Object"), (15, .class_ 22), (1, u "com/example/covary/covary/CsvLines"), (0, u "decoder"), (0, u "Ljava/nio/charset/CharsetDecoder;"), (2, u "starts"), (0, u "[I"), (2, u "ends"), (4, u "quoted"), (0, u "[Ljava/lang/String;"), (2, u "file"), (0, u "Ljava/lang/String;"), (2, u "bytes"), (0, u "[B"), (2, u "next"), (0, u "I"), (2, u "end"), (2, u "lineNumber"), (27, u "BYTE_ORDER_MARK"), (6, .methodref 20 91), (0, .nameAndType 92 93), (0, u "isLineEnd"), (0, u "(B)Z"), (0, .methodref 20 95), (0, .nameAndType 96 97), (0, u "afterLineEnd"), (0, u "([BII)I"), (2, u "count"), (2, u "ascii"), (0, u "Z"), (119, u "RETURNS"), (0, u "J"), (6, u "NEWLINES"), (14, .class_ 248), (0, u "com/example/covary/covary/CsvLines$LineCount"), (14, u "MISSING"), (0, u "[[B"), (20, u "COMMAS"), (2, u "HIGH_BITS"), (2, u "startsLine"), (0, u "([BI)Z"), (72, u "NOT_UTF8"), (1, u "CSV_FILE"), (10, u "nextLine")] 40

def k2c0 : Code := { maxStack := 3, maxLocals := 4, code := prog_38_method_6_code, exceptionTable := #[], attributes := #[] }
def k2m0 : Method := { name := "nextLine", desc := "([BII)I", sig := { parameters := [(.array .byte), .int, .int], returnType := some .int }, accessFlags := 8, code := some k2c0 }
def k2c1 : Code := { maxStack := 3, maxLocals := 2, code := prog_38_method_7_code, exceptionTable := #[], attributes := #[] }
def k2m1 : Method := { name := "startsLine", desc := "([BI)Z", sig := { parameters := [(.array .byte), .int], returnType := some .boolean }, accessFlags := 8, code := some k2c1 }
def k2c2 : Code := { maxStack := 2, maxLocals := 1, code := prog_38_method_33_code, exceptionTable := #[], attributes := #[] }
def k2m2 : Method := { name := "isLineEnd", desc := "(B)Z", sig := { parameters := [.byte], returnType := some .boolean }, accessFlags := 10, code := some k2c2 }
def k2c3 : Code := { maxStack := 3, maxLocals := 3, code := prog_38_method_34_code, exceptionTable := #[], attributes := #[] }
def k2m3 : Method := { name := "afterLineEnd", desc := "([BII)I", sig := { parameters := [(.array .byte), .int, .int], returnType := some .int }, accessFlags := 10, code := some k2c3 }
/-- com/example/covary/covary/CsvLines -/
def k2 : Class := { plain "com/example/covary/covary/CsvLines" (some 0) with
  accessFlags := 48
  interfaces := #[]
  cf := some (fileOf pool2 20 #[.nestMembers #[247]] #[{ accessFlags := 8, nameIndex := 378, descriptorIndex := 97, attributes := #[] }, { accessFlags := 8, nameIndex := 291, descriptorIndex := 292, attributes := #[] }, { accessFlags := 10, nameIndex := 92, descriptorIndex := 93, attributes := #[] }, { accessFlags := 10, nameIndex := 96, descriptorIndex := 97, attributes := #[] }] 48 2 #[] #[{ accessFlags := 26, nameIndex := 232, descriptorIndex := 225, attributes := #[] }, { accessFlags := 26, nameIndex := 224, descriptorIndex := 225, attributes := #[] }, { accessFlags := 26, nameIndex := 285, descriptorIndex := 225, attributes := #[] }, { accessFlags := 26, nameIndex := 288, descriptorIndex := 225, attributes := #[] }, { accessFlags := 24, nameIndex := 365, descriptorIndex := 41, attributes := #[] }, { accessFlags := 24, nameIndex := 367, descriptorIndex := 41, attributes := #[] }, { accessFlags := 26, nameIndex := 83, descriptorIndex := 45, attributes := #[] }, { accessFlags := 26, nameIndex := 263, descriptorIndex := 264, attributes := #[] }, { accessFlags := 18, nameIndex := 40, descriptorIndex := 41, attributes := #[] }, { accessFlags := 18, nameIndex := 44, descriptorIndex := 45, attributes := #[] }, { accessFlags := 18, nameIndex := 23, descriptorIndex := 24, attributes := #[] }, { accessFlags := 18, nameIndex := 52, descriptorIndex := 49, attributes := #[] }, { accessFlags := 2, nameIndex := 48, descriptorIndex := 49, attributes := #[] }, { accessFlags := 2, nameIndex := 55, descriptorIndex := 49, attributes := #[] }, { accessFlags := 2, nameIndex := 100, descriptorIndex := 49, attributes := #[] }, { accessFlags := 2, nameIndex := 103, descriptorIndex := 104, attributes := #[] }, { accessFlags := 2, nameIndex := 27, descriptorIndex := 28, attributes := #[] }, { accessFlags := 2, nameIndex := 31, descriptorIndex := 28, attributes := #[] }, { accessFlags := 2, nameIndex := 36, descriptorIndex := 37, attributes := #[] }])
  fields := #[{ name := "NEWLINES", type := .long, accessFlags := 26, slot := 0, constantValue := 0 }, { name := "RETURNS", type := .long, accessFlags := 26, slot := 1, constantValue := 0 }, { name := "COMMAS", type := .long, accessFlags := 26, slot := 2, constantValue := 0 }, { name := "HIGH_BITS", type := .long, accessFlags := 26, slot := 3, constantValue := 0 }, { name := "NOT_UTF8", type := (.object "java/lang/String"), accessFlags := 24, slot := 4, constantValue := 0 }, { name := "CSV_FILE", type := (.object "java/lang/String"), accessFlags := 24, slot := 5, constantValue := 0 }, { name := "BYTE_ORDER_MARK", type := (.array .byte), accessFlags := 26, slot := 6, constantValue := 0 }, { name := "MISSING", type := (.array (.array .byte)), accessFlags := 26, slot := 7, constantValue := 0 }, { name := "file", type := (.object "java/lang/String"), accessFlags := 18, slot := 0, constantValue := 0 }, { name := "bytes", type := (.array .byte), accessFlags := 18, slot := 1, constantValue := 0 }, { name := "decoder", type := (.object "java/nio/charset/CharsetDecoder"), accessFlags := 18, slot := 2, constantValue := 0 }, { name := "end", type := .int, accessFlags := 18, slot := 3, constantValue := 0 }, { name := "next", type := .int, accessFlags := 2, slot := 4, constantValue := 0 }, { name := "lineNumber", type := .int, accessFlags := 2, slot := 5, constantValue := 0 }, { name := "count", type := .int, accessFlags := 2, slot := 6, constantValue := 0 }, { name := "ascii", type := .boolean, accessFlags := 2, slot := 7, constantValue := 0 }, { name := "starts", type := (.array .int), accessFlags := 2, slot := 8, constantValue := 0 }, { name := "ends", type := (.array .int), accessFlags := 2, slot := 9, constantValue := 0 }, { name := "quoted", type := (.array (.object "java/lang/String")), accessFlags := 2, slot := 10, constantValue := 0 }]
  methods := #[k2m0, k2m1, k2m2, k2m3]
  instanceTypes := #[(.object "java/lang/String"), (.array .byte), (.object "java/nio/charset/CharsetDecoder"), .int, .int, .int, .int, .boolean, (.array .int), (.array .int), (.array (.object "java/lang/String"))]
  staticTypes := #[.long, .long, .long, .long, (.object "java/lang/String"), (.object "java/lang/String"), (.array .byte), (.array (.array .byte))]
  resolved := Array.replicate 419 none
  statics := none }

def pool3 : Array CpInfo := pool [(1, u "java/lang/Cloneable"), (0, .class_ 1), (0, u "java/lang/Object"), (0, .class_ 3)] 3

/-- java/lang/Cloneable -/
def k3 : Class := { plain "java/lang/Cloneable" (some 0) with
  accessFlags := 1537
  interfaces := #[]
  cf := some (fileOf pool3 2 #[] #[] 1537 4 #[] #[])
  fields := #[]
  methods := #[]
  instanceTypes := #[]
  staticTypes := #[]
  resolved := Array.replicate 8 none
  statics := none }

def pool4 : Array CpInfo := pool [(1, u "java/io/Serializable"), (0, .class_ 1), (0, u "java/lang/Object"), (0, .class_ 3)] 3

/-- java/io/Serializable -/
def k4 : Class := { plain "java/io/Serializable" (some 0) with
  accessFlags := 1537
  interfaces := #[]
  cf := some (fileOf pool4 2 #[] #[] 1537 4 #[] #[])
  fields := #[]
  methods := #[]
  instanceTypes := #[]
  staticTypes := #[]
  resolved := Array.replicate 8 none
  statics := none }

/-- the primitive byte -/
def k5 : Class := { plain "byte" none with kind := .primitive 'B', accessFlags := 0x411 }
/-- [B -/
def k6 : Class := { plain "[B" (some 0) with kind := .array 5 .byte, interfaces := #[3, 4], accessFlags := 1041 }

/-- the primitive int -/
def k7 : Class := { plain "int" none with kind := .primitive 'I', accessFlags := 0x411 }
/-- [I -/
def k8 : Class := { plain "[I" (some 0) with kind := .array 7 .int, interfaces := #[3, 4], accessFlags := 1041 }

def heap : Heap := #[]
def classes : Array Class := #[k0, k1, k2, k3, k4, k5, k6, k7, k8]
def interned : List (Array UInt16 × Addr) := []
def slotsUsed : Nat := 0
def theMethod : MethodId := ⟨1, 1⟩
def args0 : Array Value := #[.int 5, .int 3, .int 4, .int 3]
def aboutOver (below : List Frame) : State where
  vm := { classes := classes, interned := interned.toArray }
  heap := heap
  slotsUsed := slotsUsed
  threads := #[{ frames := .invoking theMethod args0 :: below }]
def below0 : List Frame := [.native { method := ⟨0, 0⟩, args := #[] }]
def about1 : State := aboutOver below0
def p0 : Program := .bare "" "" ""
def e0 : Env := launch0.env 0 0 0
theorem w_frames : about1.frames = Frame.invoking theMethod args0 :: below0 := rfl
set_option maxRecDepth 65536 in
theorem w_args : argsFit about1.vm theMethod args0 = true := by decide +kernel
set_option maxRecDepth 65536 in
theorem w_heap : heapFits about1 = true := by decide +kernel
set_option maxRecDepth 65536 in
theorem w_runnable : about1.curStatus? = some .runnable := by decide +kernel
set_option maxRecDepth 65536 in
theorem w_alone : about1.alone = true := by decide +kernel
set_option maxRecDepth 65536 in
theorem w_named : about1.methodNamed? x = some theMethod := by decide +kernel
set_option maxRecDepth 65536 in
theorem w_hears : about1.hears theMethod below0 = true := by decide +kernel
set_option maxRecDepth 65536 in
theorem w_ripe : about1.ripe theMethod args0 below0 = true := by decide +kernel
theorem w_running : about1.status = .running := rfl
set_option maxRecDepth 65536 in
theorem w_room : about1.hasRoom e0.platform room_1 = true :=
  launch0.hasRoom_least _ room_1 (by decide +kernel) (by decide +kernel) (by decide +kernel) (by decide +kernel) (by decide +kernel) (by decide +kernel)
theorem allAtoms_all (ts : List Jvm.Cond) (a : Array Jvm.Value) (st : Jvm.State) : (allAtoms ts).before a st = ts.all (fun c => c.before a st) := by
  induction ts with
  | nil => rfl
  | cons c t ih =>
    show (Jvm.Cond.and c (allAtoms t)).before a st = _
    rw [Jvm.Cond.before_and, ih, List.all_cons]
def words1 : List Jvm.Cond := Jvm.Cond.code x code maxLocals ret :: tables_1
/-- a 'code' word, met by the world's own term for the bytes: nothing is compared byte by byte -/
theorem code_word {y : MethodName} {bytes : ByteArray} {mx : Nat} {rt : Option FieldType} {a : Array Value} {s : State} {m : MethodId} {meth : Method} {c : Code} (h1 : s.methodNamed? y = some m) (h2 : s.vm.method? m = some meth) (h3 : meth.code = some c) (h4 : c.code = bytes)
    (h5 : (c.maxLocals == mx && c.exceptionTable.isEmpty && decide (c.maxStack ≤ mostOperands) && decide (meth.sig.returnType = rt) && !meth.locks && decide (parseMethodDescriptor y.desc = some meth.sig)) = true) : (Jvm.Cond.code y bytes mx rt).before a s = true := by
  simp only [Bool.and_eq_true, beq_iff_eq, Bool.not_eq_true', decide_eq_true_eq] at h5
  obtain ⟨⟨⟨⟨⟨g1, g2⟩, g3⟩, g4⟩, g5⟩, g6⟩ := h5
  simp [Cond.before, Cond.holds, Cond.value, h1, h2, h3, h4, g1, g2, g3, g4, g5, g6]
def isCode : Jvm.Cond → Bool
  | .code _ _ _ _ => true
  | _ => false
theorem all_split {L : List Jvm.Cond} {P : Jvm.Cond → Bool} (h1 : L.all (fun c => isCode c || P c) = true) (h2 : ∀ c ∈ L.filter isCode, P c = true) : L.all P = true := by
  refine List.all_eq_true.mpr fun c hc => ?_
  have h := List.all_eq_true.mp h1 c hc
  rcases Bool.eq_false_or_eq_true (isCode c) with hi | hi
  · exact h2 c (List.mem_filter.mpr ⟨hc, hi⟩)
  · simpa [hi] using h
set_option maxRecDepth 65536 in
theorem w_c0 : (Jvm.Cond.code x code maxLocals ret).before args0 about1 = true := code_word (m := ⟨1, 1⟩) (meth := k1m1) (c := k1c1) (by decide +kernel) rfl rfl rfl (by decide +kernel)
set_option maxRecDepth 65536 in
theorem w_c1 : (Jvm.Cond.code ({ cls := "com/example/covary/covary/CsvLinesStartsLinePinLaw", name := "pick", desc := "(I)B" } : Jvm.MethodName) method_3_code (2 : Nat) (Option.some Jvm.ClassFile.FieldType.byte)).before args0 about1 = true := code_word (m := ⟨1, 2⟩) (meth := k1m2) (c := k1c2) (by decide +kernel) rfl rfl rfl (by decide +kernel)
set_option maxRecDepth 65536 in
theorem w_c2 : (Jvm.Cond.code ({ cls := "com/example/covary/covary/CsvLines", name := "startsLine", desc := "([BI)Z" } : Jvm.MethodName) prog_38_method_7_code (2 : Nat) (Option.some Jvm.ClassFile.FieldType.boolean)).before args0 about1 = true := code_word (m := ⟨2, 1⟩) (meth := k2m1) (c := k2c1) (by decide +kernel) rfl rfl rfl (by decide +kernel)
set_option maxRecDepth 65536 in
theorem w_c3 : (Jvm.Cond.code ({ cls := "com/example/covary/covary/CsvLines", name := "nextLine", desc := "([BII)I" } : Jvm.MethodName) prog_38_method_6_code (4 : Nat) (Option.some Jvm.ClassFile.FieldType.int)).before args0 about1 = true := code_word (m := ⟨2, 0⟩) (meth := k2m0) (c := k2c0) (by decide +kernel) rfl rfl rfl (by decide +kernel)
set_option maxRecDepth 65536 in
theorem w_c4 : (Jvm.Cond.code ({ cls := "com/example/covary/covary/CsvLines", name := "isLineEnd", desc := "(B)Z" } : Jvm.MethodName) prog_38_method_33_code (1 : Nat) (Option.some Jvm.ClassFile.FieldType.boolean)).before args0 about1 = true := code_word (m := ⟨2, 2⟩) (meth := k2m2) (c := k2c2) (by decide +kernel) rfl rfl rfl (by decide +kernel)
set_option maxRecDepth 65536 in
theorem w_c5 : (Jvm.Cond.code ({ cls := "com/example/covary/covary/CsvLines", name := "afterLineEnd", desc := "([BII)I" } : Jvm.MethodName) prog_38_method_34_code (3 : Nat) (Option.some Jvm.ClassFile.FieldType.int)).before args0 about1 = true := code_word (m := ⟨2, 3⟩) (meth := k2m3) (c := k2c3) (by decide +kernel) rfl rfl rfl (by decide +kernel)
def codes1 : List Jvm.Cond := [Jvm.Cond.code x code maxLocals ret, Jvm.Cond.code ({ cls := "com/example/covary/covary/CsvLinesStartsLinePinLaw", name := "pick", desc := "(I)B" } : Jvm.MethodName) method_3_code (2 : Nat) (Option.some Jvm.ClassFile.FieldType.byte), Jvm.Cond.code ({ cls := "com/example/covary/covary/CsvLines", name := "startsLine", desc := "([BI)Z" } : Jvm.MethodName) prog_38_method_7_code (2 : Nat) (Option.some Jvm.ClassFile.FieldType.boolean), Jvm.Cond.code ({ cls := "com/example/covary/covary/CsvLines", name := "nextLine", desc := "([BII)I" } : Jvm.MethodName) prog_38_method_6_code (4 : Nat) (Option.some Jvm.ClassFile.FieldType.int), Jvm.Cond.code ({ cls := "com/example/covary/covary/CsvLines", name := "isLineEnd", desc := "(B)Z" } : Jvm.MethodName) prog_38_method_33_code (1 : Nat) (Option.some Jvm.ClassFile.FieldType.boolean), Jvm.Cond.code ({ cls := "com/example/covary/covary/CsvLines", name := "afterLineEnd", desc := "([BII)I" } : Jvm.MethodName) prog_38_method_34_code (3 : Nat) (Option.some Jvm.ClassFile.FieldType.int)]
set_option maxRecDepth 65536 in
theorem codes_eq : words1.filter isCode = codes1 := rfl
theorem w_codes : ∀ c ∈ words1.filter isCode, c.before args0 about1 = true := by
  rw [codes_eq]
  intro c hc
  simp only [codes1, List.mem_cons, List.not_mem_nil, or_false] at hc
  rcases hc with rfl | rfl | rfl | rfl | rfl | rfl
  · exact w_c0
  · exact w_c1
  · exact w_c2
  · exact w_c3
  · exact w_c4
  · exact w_c5
set_option maxRecDepth 65536 in
theorem w_t1 : words1.all (fun c => isCode c || c.before args0 about1) = true := by decide +kernel
theorem w_tables : (allAtoms (Jvm.Cond.code x code maxLocals ret :: tables_1)).before args0 about1 = true := by
  rw [allAtoms_all]
  show words1.all (fun c => c.before args0 about1) = true
  refine all_split ?_ w_codes
  rw [w_t1]
set_option maxRecDepth 65536 in
theorem w_case : (Jvm.Cond.and given_1 narrow_1).before args0 about1 = true := by decide +kernel
theorem w_applies : (headSpec (Jvm.Cond.code x code maxLocals ret :: tables_1) room_1).applies x e0.platform about1 = true :=
  (Spec.applies_iff w_frames).mpr ⟨w_running, w_runnable, w_alone, w_named, w_hears, w_ripe, w_room, w_tables⟩
theorem atStart : AtStart classFile x code maxLocals ret World_1 tables_1 room_1 Calls_1 rest_1 Pre_1 launch0 p0 e0 about1 theMethod args0 below0 :=
  ⟨lists_1, trivial, launch0.admits_env _ _ _, launch0.least_env, fairChoices_fair.cas, fairChoices_fair.clock, w_frames, w_args, w_heap, w_applies, trivial, trivial, w_case⟩
end start1
theorem witness_1 : WitnessClaimed_1 := ⟨start1.p0, start1.e0, start1.about1, start1.theMethod, start1.args0, start1.below0, start1.atStart⟩
end Jvm.Pilot.@@N@@
