import JvmDerived
import JvmDerived.Pilot.@@N@@Statement
import JvmDerived.Pilot.@@N@@Code
set_option linter.unusedVariables false
set_option linter.unusedSimpArgs false
namespace Jvm.RoadKit
open Sem ClassFile Op Lib Jvm.Stand Jvm.Free Jvm.LawKit
section New
variable {p : Program} {l : Launch} {e : Env} {R : Room} {s : State} {m : MethodId} {args : Array Value} {below : List Frame} {meth : Method} {c : Code} {T : State} {locs : List Loc} {cells slots : Nat}
theorem retI (X : Stand p l e R s m args below meth c T locs cells slots) (hx : p.tables.exec = Jvm.exec) {pc : Nat} {Ls : Array Slot} {z : Int32} {rest : List Value} (hret : meth.sig.returnType = some .int) (hd : decode c.code pc = .ok (.ireturn, 1)) {fs : List Frame}
    (hl : ∀ (f : JFrame) (acts : List Action), f.method = m → f.locked = none → f.entered = [] → (doReturn e (T.setTop f) acts (some (.int z))).1 = T.setFrames fs) : Steps p.tables e below (T.setTop (mkF m pc Ls (.int z :: rest))) (T.setFrames fs) := by
  have hm' : T.vm.method? m = some meth := X.method'
  have hn : narrow .int (.int z) = .int z := rfl
  show Steps p.tables e below (T.setTop { method := m, pc := pc, locals := Ls, stack := _ :: rest, locked := none }) _
  jvm_step X.here [X.here.top, hx, hd, hm', hret, hn]
  first | (intro acts; rw [hl _ acts rfl rfl rfl]) | rw [hl _ _ rfl rfl rfl]
  exact Steps.refl _
end New
end Jvm.RoadKit
namespace Jvm.Pilot.@@N@@
open Jvm Jvm.ClassFile Sem Op Lib Jvm.Free Jvm.Stand Jvm.LawKit Jvm.RoadKit Bundle Jvm.Pilot.@@N@@.Jvm.D
def own_sp (c : Int32) : Int32 := if c = 32 then 1 else if c = 9 then 1 else if c = 10 then 1 else if c = 13 then 1 else if c = 12 then 1 else if c = 11 then 1 else 0
def own_ex (c : Int32) : Int32 := if c = 32 then 1 else if c < 9 then 0 else if 13 < c then 0 else 1
theorem own_law (c : Int32) : own_sp c = own_ex c := by
  simp only [own_sp, own_ex]
  by_cases h0 : c = 32
  · simp [h0]
  by_cases h1 : c = 9
  · subst h1; decide
  by_cases h2 : c = 10
  · subst h2; decide
  by_cases h3 : c = 13
  · subst h3; decide
  by_cases h4 : c = 12
  · subst h4; decide
  by_cases h5 : c = 11
  · subst h5; decide
  simp only [h0, h1, h2, h3, h4, h5, if_false]
  by_cases h6 : c < 9
  · simp [h6]
  by_cases h7 : 13 < c
  · simp [h6, h7]
  exfalso
  rw [Int32.lt_iff_toInt_lt, show (9 : Int32).toInt = 9 from by decide] at h6
  rw [Int32.lt_iff_toInt_lt, show (13 : Int32).toInt = 13 from by decide] at h7
  have n1 : c.toInt ≠ 9 := fun q => h1 (Int32.toInt_inj.mp q)
  have n2 : c.toInt ≠ 10 := fun q => h2 (Int32.toInt_inj.mp q)
  have n3 : c.toInt ≠ 13 := fun q => h3 (Int32.toInt_inj.mp q)
  have n4 : c.toInt ≠ 12 := fun q => h4 (Int32.toInt_inj.mp q)
  have n5 : c.toInt ≠ 11 := fun q => h5 (Int32.toInt_inj.mp q)
  omega
theorem own_pn0 : plainName "com/example/twinlatch/twinlatch/jdbc/SqlScan" = true := by first | (simp [plainName, overriddenIn]; done) | decide +kernel
theorem own_pd0 : parseMethodDescriptor "(C)Z" = some ⟨[.char], some .boolean⟩ := by decide +kernel
theorem own_pn1 : plainName "com/example/twinlatch/twinlatch/jdbc/SqlScanIsSpacePinLaw" = true := by first | (simp [plainName, overriddenIn]; done) | decide +kernel
def Q1 (p1 : Int32) (h0 : Heap) (n0 : Nat) (v : Option Value) (h : Heap) (L : List Loc) : Prop := v = some (.int (own_sp p1)) ∧ Fr n0 L ∧ h = h0
def Q0 (n0 : Nat) (v : Option Value) (h : Heap) (L : List Loc) : Prop := v = some (.int 1) ∧ Fr n0 L
theorem own_d1_0 : decode prog_76_method_6_code 0 = .ok (.iload_n 0, 1) := by decide +kernel
theorem own_d1_1 : decode prog_76_method_6_code 1 = .ok (.bipush 32, 2) := by decide +kernel
theorem own_d1_3 : decode prog_76_method_6_code 3 = .ok (.if_icmp .eq 33, 3) := by decide +kernel
theorem own_d1_6 : decode prog_76_method_6_code 6 = .ok (.iload_n 0, 1) := by decide +kernel
theorem own_d1_7 : decode prog_76_method_6_code 7 = .ok (.bipush 9, 2) := by decide +kernel
theorem own_d1_9 : decode prog_76_method_6_code 9 = .ok (.if_icmp .eq 27, 3) := by decide +kernel
theorem own_d1_12 : decode prog_76_method_6_code 12 = .ok (.iload_n 0, 1) := by decide +kernel
theorem own_d1_13 : decode prog_76_method_6_code 13 = .ok (.bipush 10, 2) := by decide +kernel
theorem own_d1_15 : decode prog_76_method_6_code 15 = .ok (.if_icmp .eq 21, 3) := by decide +kernel
theorem own_d1_18 : decode prog_76_method_6_code 18 = .ok (.iload_n 0, 1) := by decide +kernel
theorem own_d1_19 : decode prog_76_method_6_code 19 = .ok (.bipush 13, 2) := by decide +kernel
theorem own_d1_21 : decode prog_76_method_6_code 21 = .ok (.if_icmp .eq 15, 3) := by decide +kernel
theorem own_d1_24 : decode prog_76_method_6_code 24 = .ok (.iload_n 0, 1) := by decide +kernel
theorem own_d1_25 : decode prog_76_method_6_code 25 = .ok (.bipush 12, 2) := by decide +kernel
theorem own_d1_27 : decode prog_76_method_6_code 27 = .ok (.if_icmp .eq 9, 3) := by decide +kernel
theorem own_d1_30 : decode prog_76_method_6_code 30 = .ok (.iload_n 0, 1) := by decide +kernel
theorem own_d1_31 : decode prog_76_method_6_code 31 = .ok (.bipush 11, 2) := by decide +kernel
theorem own_d1_33 : decode prog_76_method_6_code 33 = .ok (.if_icmp .ne 7, 3) := by decide +kernel
theorem own_d1_36 : decode prog_76_method_6_code 36 = .ok (.iconst 1, 1) := by decide +kernel
theorem own_d1_37 : decode prog_76_method_6_code 37 = .ok (.goto 4, 3) := by decide +kernel
theorem own_d1_40 : decode prog_76_method_6_code 40 = .ok (.iconst 0, 1) := by decide +kernel
theorem own_d1_41 : decode prog_76_method_6_code 41 = .ok (.ireturn, 1) := by decide +kernel
set_option maxRecDepth 65536 in
set_option maxHeartbeats 40000000 in
theorem rm1 (l : Launch) (Z : State) (a0 : Array Value) (hw : ∀ d ∈ tables_1, d.before a0 Z = true) (ws : List Jvm.Cond) (p1 : Int32) (h0 : Heap) (n0 : Nat) (Z0 : n0 ≤ h0.size)  :
    MetFree l (⟨"com/example/twinlatch/twinlatch/jdbc/SqlScan", "isSpace", "(C)Z"⟩ : MethodName) (head1 (Jvm.Cond.code (⟨"com/example/twinlatch/twinlatch/jdbc/SqlScan", "isSpace", "(C)Z"⟩ : MethodName) prog_76_method_6_code 1 (some .boolean) :: ws) ({ frames := 0, cells := 0, slots := 0, locals := 0 } : Room)) (fun a U => a = #[(.int p1)] ∧ Z.Warmed39 U.vm ∧ U.heap = h0) (fun _ _ _ _ _ => True) (fun _ U oc U' => ∃ v L, oc = .returned v ∧ Q1 p1 h0 n0 v U'.heap L ∧ FrameEnd U oc U' L ({ frames := 0, cells := 0, slots := 0, locals := 0 } : Room).cells ({ frames := 0, cells := 0, slots := 0, locals := 0 } : Room).slots) := by
  refine MetFree.of_bodySF (plainFor_of_name own_pn0) hisR ?_
  intro p e s m args below meth c s₁ Bd hml0 hP hK
  obtain ⟨rfl, hZ, hh⟩ := hP
  have hx := Bd.exec
  have hby := Bd.bytes
  have hml : c.maxLocals = 1 := hml0
  have hown : s.vm.findClass "com/example/twinlatch/twinlatch/jdbc/SqlScan" = some m.cls := findClass_of_methodNamed Bd.named
  have hnm := (name_of_methodNamed Bd.named Bd.method).1
  have X0 : Stand p l e ({ frames := 0, cells := 0, slots := 0, locals := 0 } : Room) s m #[(.int p1)] below meth c s₁ [] 0 0 := Stand.of_body Bd
  have e0 : s₁.heap = h0 := by rw [← hh, Bd.state]; rfl
  have N0 := Fr.nil n0
  have G0 : Goes p e below s₁ (entryFrame m #[(.int p1)] 1) s₁ (mkF m 0 #[.val (.int p1)] []) := fun _ k => castTop (by first | (simp [entryFrame, mkF, argsToLocals, Value.category]; done) | rfl : (entryFrame m #[(.int p1)] 1) = mkF m 0 #[.val (.int p1)] []) k
  have G1 : Goes p e below s₁ (entryFrame m #[(.int p1)] 1) s₁ (mkF m 41 #[.val (.int p1)] [(.int (own_sp p1))]) := by
    have G2 : Goes p e below s₁ (entryFrame m #[(.int p1)] 1) s₁ (mkF m 3 #[.val (.int p1)] [(.int (32 : Int32)), (.int p1)]) := fun _ k => G0 _ (by
        show Steps p.tables e below (s₁.setTop (mkF m 0 #[.val (.int p1)] [])) _
        refine XS.iloadN X0.here hx rfl (hb hby own_d1_0) rfl ?_
        show Steps p.tables e below (s₁.setTop (mkF m 1 #[.val (.int p1)] [(.int p1)])) _
        refine XS.bipush X0.here hx rfl (hb hby own_d1_1) ?_
        exact k)
    by_cases hm3_2 : p1 = (32 : Int32)
    · have G4 : Goes p e below s₁ (entryFrame m #[(.int p1)] 1) s₁ (mkF m 36 #[.val (.int p1)] []) := fun _ k => G2 _ (by
          show Steps p.tables e below (s₁.setTop (mkF m 3 #[.val (.int p1)] [(.int (32 : Int32)), (.int p1)])) _
          refine XS.icmpYes X0.here hx rfl (pc0 := 3) (pc' := 36) rfl (hb hby own_d1_3) rfl (teq hm3_2).1 (by decide) (by decide) ?_
          exact k)
      have G5 : Goes p e below s₁ (entryFrame m #[(.int p1)] 1) s₁ (mkF m 41 #[.val (.int p1)] [(.int (1 : Int32))]) := fun _ k => G4 _ (by
          show Steps p.tables e below (s₁.setTop (mkF m 36 #[.val (.int p1)] [])) _
          refine XS.iconst X0.here hx rfl (hb hby own_d1_36) ?_
          show Steps p.tables e below (s₁.setTop (mkF m 37 #[.val (.int p1)] [(.int (1 : Int32))])) _
          refine XS.goto X0.here hx rfl (pc0 := 37) (pc' := 41) rfl (hb hby own_d1_37) (by decide) (by decide) ?_
          exact k)
      have hv : (own_sp p1) = (1 : Int32) := by simp [hm3_2, own_sp]
      exact fun _ k => G5 _ (by rw [hv] at k; exact k)
    · have G6 : Goes p e below s₁ (entryFrame m #[(.int p1)] 1) s₁ (mkF m 6 #[.val (.int p1)] []) := fun _ k => G2 _ (by
          show Steps p.tables e below (s₁.setTop (mkF m 3 #[.val (.int p1)] [(.int (32 : Int32)), (.int p1)])) _
          refine XS.icmpNo X0.here hx rfl (hb hby own_d1_3) rfl (feq hm3_2).1 ?_
          exact k)
      have G7 : Goes p e below s₁ (entryFrame m #[(.int p1)] 1) s₁ (mkF m 9 #[.val (.int p1)] [(.int (9 : Int32)), (.int p1)]) := fun _ k => G6 _ (by
          show Steps p.tables e below (s₁.setTop (mkF m 6 #[.val (.int p1)] [])) _
          refine XS.iloadN X0.here hx rfl (hb hby own_d1_6) rfl ?_
          show Steps p.tables e below (s₁.setTop (mkF m 7 #[.val (.int p1)] [(.int p1)])) _
          refine XS.bipush X0.here hx rfl (hb hby own_d1_7) ?_
          exact k)
      by_cases hm9_7 : p1 = (9 : Int32)
      · have G9 : Goes p e below s₁ (entryFrame m #[(.int p1)] 1) s₁ (mkF m 36 #[.val (.int p1)] []) := fun _ k => G7 _ (by
            show Steps p.tables e below (s₁.setTop (mkF m 9 #[.val (.int p1)] [(.int (9 : Int32)), (.int p1)])) _
            refine XS.icmpYes X0.here hx rfl (pc0 := 9) (pc' := 36) rfl (hb hby own_d1_9) rfl (teq hm9_7).1 (by decide) (by decide) ?_
            exact k)
        have G10 : Goes p e below s₁ (entryFrame m #[(.int p1)] 1) s₁ (mkF m 41 #[.val (.int p1)] [(.int (1 : Int32))]) := fun _ k => G9 _ (by
            show Steps p.tables e below (s₁.setTop (mkF m 36 #[.val (.int p1)] [])) _
            refine XS.iconst X0.here hx rfl (hb hby own_d1_36) ?_
            show Steps p.tables e below (s₁.setTop (mkF m 37 #[.val (.int p1)] [(.int (1 : Int32))])) _
            refine XS.goto X0.here hx rfl (pc0 := 37) (pc' := 41) rfl (hb hby own_d1_37) (by decide) (by decide) ?_
            exact k)
        have hv : (own_sp p1) = (1 : Int32) := by simp [hm3_2, hm9_7, own_sp]
        exact fun _ k => G10 _ (by rw [hv] at k; exact k)
      · have G11 : Goes p e below s₁ (entryFrame m #[(.int p1)] 1) s₁ (mkF m 12 #[.val (.int p1)] []) := fun _ k => G7 _ (by
            show Steps p.tables e below (s₁.setTop (mkF m 9 #[.val (.int p1)] [(.int (9 : Int32)), (.int p1)])) _
            refine XS.icmpNo X0.here hx rfl (hb hby own_d1_9) rfl (feq hm9_7).1 ?_
            exact k)
        have G12 : Goes p e below s₁ (entryFrame m #[(.int p1)] 1) s₁ (mkF m 15 #[.val (.int p1)] [(.int (10 : Int32)), (.int p1)]) := fun _ k => G11 _ (by
            show Steps p.tables e below (s₁.setTop (mkF m 12 #[.val (.int p1)] [])) _
            refine XS.iloadN X0.here hx rfl (hb hby own_d1_12) rfl ?_
            show Steps p.tables e below (s₁.setTop (mkF m 13 #[.val (.int p1)] [(.int p1)])) _
            refine XS.bipush X0.here hx rfl (hb hby own_d1_13) ?_
            exact k)
        by_cases hm15_12 : p1 = (10 : Int32)
        · have G14 : Goes p e below s₁ (entryFrame m #[(.int p1)] 1) s₁ (mkF m 36 #[.val (.int p1)] []) := fun _ k => G12 _ (by
              show Steps p.tables e below (s₁.setTop (mkF m 15 #[.val (.int p1)] [(.int (10 : Int32)), (.int p1)])) _
              refine XS.icmpYes X0.here hx rfl (pc0 := 15) (pc' := 36) rfl (hb hby own_d1_15) rfl (teq hm15_12).1 (by decide) (by decide) ?_
              exact k)
          have G15 : Goes p e below s₁ (entryFrame m #[(.int p1)] 1) s₁ (mkF m 41 #[.val (.int p1)] [(.int (1 : Int32))]) := fun _ k => G14 _ (by
              show Steps p.tables e below (s₁.setTop (mkF m 36 #[.val (.int p1)] [])) _
              refine XS.iconst X0.here hx rfl (hb hby own_d1_36) ?_
              show Steps p.tables e below (s₁.setTop (mkF m 37 #[.val (.int p1)] [(.int (1 : Int32))])) _
              refine XS.goto X0.here hx rfl (pc0 := 37) (pc' := 41) rfl (hb hby own_d1_37) (by decide) (by decide) ?_
              exact k)
          have hv : (own_sp p1) = (1 : Int32) := by simp [hm3_2, hm9_7, hm15_12, own_sp]
          exact fun _ k => G15 _ (by rw [hv] at k; exact k)
        · have G16 : Goes p e below s₁ (entryFrame m #[(.int p1)] 1) s₁ (mkF m 18 #[.val (.int p1)] []) := fun _ k => G12 _ (by
              show Steps p.tables e below (s₁.setTop (mkF m 15 #[.val (.int p1)] [(.int (10 : Int32)), (.int p1)])) _
              refine XS.icmpNo X0.here hx rfl (hb hby own_d1_15) rfl (feq hm15_12).1 ?_
              exact k)
          have G17 : Goes p e below s₁ (entryFrame m #[(.int p1)] 1) s₁ (mkF m 21 #[.val (.int p1)] [(.int (13 : Int32)), (.int p1)]) := fun _ k => G16 _ (by
              show Steps p.tables e below (s₁.setTop (mkF m 18 #[.val (.int p1)] [])) _
              refine XS.iloadN X0.here hx rfl (hb hby own_d1_18) rfl ?_
              show Steps p.tables e below (s₁.setTop (mkF m 19 #[.val (.int p1)] [(.int p1)])) _
              refine XS.bipush X0.here hx rfl (hb hby own_d1_19) ?_
              exact k)
          by_cases hm21_17 : p1 = (13 : Int32)
          · have G19 : Goes p e below s₁ (entryFrame m #[(.int p1)] 1) s₁ (mkF m 36 #[.val (.int p1)] []) := fun _ k => G17 _ (by
                show Steps p.tables e below (s₁.setTop (mkF m 21 #[.val (.int p1)] [(.int (13 : Int32)), (.int p1)])) _
                refine XS.icmpYes X0.here hx rfl (pc0 := 21) (pc' := 36) rfl (hb hby own_d1_21) rfl (teq hm21_17).1 (by decide) (by decide) ?_
                exact k)
            have G20 : Goes p e below s₁ (entryFrame m #[(.int p1)] 1) s₁ (mkF m 41 #[.val (.int p1)] [(.int (1 : Int32))]) := fun _ k => G19 _ (by
                show Steps p.tables e below (s₁.setTop (mkF m 36 #[.val (.int p1)] [])) _
                refine XS.iconst X0.here hx rfl (hb hby own_d1_36) ?_
                show Steps p.tables e below (s₁.setTop (mkF m 37 #[.val (.int p1)] [(.int (1 : Int32))])) _
                refine XS.goto X0.here hx rfl (pc0 := 37) (pc' := 41) rfl (hb hby own_d1_37) (by decide) (by decide) ?_
                exact k)
            have hv : (own_sp p1) = (1 : Int32) := by simp [hm3_2, hm9_7, hm15_12, hm21_17, own_sp]
            exact fun _ k => G20 _ (by rw [hv] at k; exact k)
          · have G21 : Goes p e below s₁ (entryFrame m #[(.int p1)] 1) s₁ (mkF m 24 #[.val (.int p1)] []) := fun _ k => G17 _ (by
                show Steps p.tables e below (s₁.setTop (mkF m 21 #[.val (.int p1)] [(.int (13 : Int32)), (.int p1)])) _
                refine XS.icmpNo X0.here hx rfl (hb hby own_d1_21) rfl (feq hm21_17).1 ?_
                exact k)
            have G22 : Goes p e below s₁ (entryFrame m #[(.int p1)] 1) s₁ (mkF m 27 #[.val (.int p1)] [(.int (12 : Int32)), (.int p1)]) := fun _ k => G21 _ (by
                show Steps p.tables e below (s₁.setTop (mkF m 24 #[.val (.int p1)] [])) _
                refine XS.iloadN X0.here hx rfl (hb hby own_d1_24) rfl ?_
                show Steps p.tables e below (s₁.setTop (mkF m 25 #[.val (.int p1)] [(.int p1)])) _
                refine XS.bipush X0.here hx rfl (hb hby own_d1_25) ?_
                exact k)
            by_cases hm27_22 : p1 = (12 : Int32)
            · have G24 : Goes p e below s₁ (entryFrame m #[(.int p1)] 1) s₁ (mkF m 36 #[.val (.int p1)] []) := fun _ k => G22 _ (by
                  show Steps p.tables e below (s₁.setTop (mkF m 27 #[.val (.int p1)] [(.int (12 : Int32)), (.int p1)])) _
                  refine XS.icmpYes X0.here hx rfl (pc0 := 27) (pc' := 36) rfl (hb hby own_d1_27) rfl (teq hm27_22).1 (by decide) (by decide) ?_
                  exact k)
              have G25 : Goes p e below s₁ (entryFrame m #[(.int p1)] 1) s₁ (mkF m 41 #[.val (.int p1)] [(.int (1 : Int32))]) := fun _ k => G24 _ (by
                  show Steps p.tables e below (s₁.setTop (mkF m 36 #[.val (.int p1)] [])) _
                  refine XS.iconst X0.here hx rfl (hb hby own_d1_36) ?_
                  show Steps p.tables e below (s₁.setTop (mkF m 37 #[.val (.int p1)] [(.int (1 : Int32))])) _
                  refine XS.goto X0.here hx rfl (pc0 := 37) (pc' := 41) rfl (hb hby own_d1_37) (by decide) (by decide) ?_
                  exact k)
              have hv : (own_sp p1) = (1 : Int32) := by simp [hm3_2, hm9_7, hm15_12, hm21_17, hm27_22, own_sp]
              exact fun _ k => G25 _ (by rw [hv] at k; exact k)
            · have G26 : Goes p e below s₁ (entryFrame m #[(.int p1)] 1) s₁ (mkF m 30 #[.val (.int p1)] []) := fun _ k => G22 _ (by
                  show Steps p.tables e below (s₁.setTop (mkF m 27 #[.val (.int p1)] [(.int (12 : Int32)), (.int p1)])) _
                  refine XS.icmpNo X0.here hx rfl (hb hby own_d1_27) rfl (feq hm27_22).1 ?_
                  exact k)
              have G27 : Goes p e below s₁ (entryFrame m #[(.int p1)] 1) s₁ (mkF m 33 #[.val (.int p1)] [(.int (11 : Int32)), (.int p1)]) := fun _ k => G26 _ (by
                  show Steps p.tables e below (s₁.setTop (mkF m 30 #[.val (.int p1)] [])) _
                  refine XS.iloadN X0.here hx rfl (hb hby own_d1_30) rfl ?_
                  show Steps p.tables e below (s₁.setTop (mkF m 31 #[.val (.int p1)] [(.int p1)])) _
                  refine XS.bipush X0.here hx rfl (hb hby own_d1_31) ?_
                  exact k)
              by_cases hm33_27 : p1 = (11 : Int32)
              · have G29 : Goes p e below s₁ (entryFrame m #[(.int p1)] 1) s₁ (mkF m 36 #[.val (.int p1)] []) := fun _ k => G27 _ (by
                    show Steps p.tables e below (s₁.setTop (mkF m 33 #[.val (.int p1)] [(.int (11 : Int32)), (.int p1)])) _
                    refine XS.icmpNo X0.here hx rfl (hb hby own_d1_33) rfl (teq hm33_27).2 ?_
                    exact k)
                have G30 : Goes p e below s₁ (entryFrame m #[(.int p1)] 1) s₁ (mkF m 41 #[.val (.int p1)] [(.int (1 : Int32))]) := fun _ k => G29 _ (by
                    show Steps p.tables e below (s₁.setTop (mkF m 36 #[.val (.int p1)] [])) _
                    refine XS.iconst X0.here hx rfl (hb hby own_d1_36) ?_
                    show Steps p.tables e below (s₁.setTop (mkF m 37 #[.val (.int p1)] [(.int (1 : Int32))])) _
                    refine XS.goto X0.here hx rfl (pc0 := 37) (pc' := 41) rfl (hb hby own_d1_37) (by decide) (by decide) ?_
                    exact k)
                have hv : (own_sp p1) = (1 : Int32) := by simp [hm3_2, hm9_7, hm15_12, hm21_17, hm27_22, hm33_27, own_sp]
                exact fun _ k => G30 _ (by rw [hv] at k; exact k)
              · have G31 : Goes p e below s₁ (entryFrame m #[(.int p1)] 1) s₁ (mkF m 40 #[.val (.int p1)] []) := fun _ k => G27 _ (by
                    show Steps p.tables e below (s₁.setTop (mkF m 33 #[.val (.int p1)] [(.int (11 : Int32)), (.int p1)])) _
                    refine XS.icmpYes X0.here hx rfl (pc0 := 33) (pc' := 40) rfl (hb hby own_d1_33) rfl (feq hm33_27).2 (by decide) (by decide) ?_
                    exact k)
                have G32 : Goes p e below s₁ (entryFrame m #[(.int p1)] 1) s₁ (mkF m 41 #[.val (.int p1)] [(.int (0 : Int32))]) := fun _ k => G31 _ (by
                    show Steps p.tables e below (s₁.setTop (mkF m 40 #[.val (.int p1)] [])) _
                    refine XS.iconst X0.here hx rfl (hb hby own_d1_40) ?_
                    exact k)
                have hv : (own_sp p1) = (0 : Int32) := by simp [hm3_2, hm9_7, hm15_12, hm21_17, hm27_22, hm33_27, own_sp]
                exact fun _ k => G32 _ (by rw [hv] at k; exact k)
  have hn : nar .boolean (own_sp p1) = own_sp p1 := by
    have q : own_sp p1 = 0 ∨ own_sp p1 = 1 := by unfold own_sp; (repeat' split) <;> simp
    rcases q with q | q <;> rw [q] <;> decide
  obtain ⟨fs, hr, hrun, hended, hW, hsame⟩ := X0.leave (v := some (.int (nar .boolean (own_sp p1)))) (fun h => by rw [Bd.returns] at h; cases h)
  refine ⟨_, _, G1 _ (retN X0 hx (t := .boolean) Bd.returns (by simp) (hb hby own_d1_41) hr), hrun, hended, _, _, rfl, ?_, ⟨_, rfl⟩, hW, hsame.mono (by decide) (by decide)⟩
  show Q1 p1 h0 n0 _ s₁.heap _
  rw [e0]
  exact ⟨by rw [hn], N0, rfl⟩
set_option maxRecDepth 65536 in
set_option maxHeartbeats 40000000 in
theorem rm0 (l : Launch) (Z : State) (a0 : Array Value) (hw : ∀ d ∈ tables_1, d.before a0 Z = true) (ws : List Jvm.Cond) (p1 : Int32) (h0 : Heap) (n0 : Nat) (Z0 : n0 ≤ h0.size)  :
    MetFree l x (head1 (Jvm.Cond.code x code maxLocals ret :: ws) room_1) (fun a U => a = #[(.int p1)] ∧ Z.Warmed39 U.vm ∧ U.heap = h0) (fun _ _ _ _ _ => True) (fun _ U oc U' => ∃ v L, oc = .returned v ∧ Q0 n0 v U'.heap L ∧ FrameEnd U oc U' L 0 0) := by
  refine MetFree.of_bodySF (plainFor_of_name own_pn1) hisR ?_
  intro p e s m args below meth c s₁ Bd hml0 hP hK
  obtain ⟨rfl, hZ, hh⟩ := hP
  have hx := Bd.exec
  have hby := Bd.bytes
  have hml : c.maxLocals = 3 := hml0
  have hown : s.vm.findClass "com/example/twinlatch/twinlatch/jdbc/SqlScanIsSpacePinLaw" = some m.cls := findClass_of_methodNamed Bd.named
  have hnm := (name_of_methodNamed Bd.named Bd.method).1
  have X0 : Stand p l e room_1 s m #[(.int p1)] below meth c s₁ [] 0 0 := Stand.of_body Bd
  have e0 : s₁.heap = h0 := by rw [← hh, Bd.state]; rfl
  have N0 := Fr.nil n0
  have G0 : Goes p e below s₁ (entryFrame m #[(.int p1)] maxLocals) s₁ (mkF m 0 #[.val (.int p1), .unset, .unset] []) := fun _ k => castTop (by first | (simp [entryFrame, mkF, argsToLocals, Value.category, maxLocals]; done) | rfl : (entryFrame m #[(.int p1)] maxLocals) = mkF m 0 #[.val (.int p1), .unset, .unset] []) k
  have G1 : Goes p e below s₁ (entryFrame m #[(.int p1)] maxLocals) s₁ (mkF m 6 #[.val (.int p1), .val (.int ((p1 &&& (65535 : Int32)).toUInt32.toUInt16.toUInt32.toInt32)), .unset] []) := fun _ k => G0 _ (by
      show Steps p.tables e below (s₁.setTop (mkF m 0 #[.val (.int p1), .unset, .unset] [])) _
      refine XS.iloadN X0.here hx rfl (hb hby at_0) rfl ?_
      show Steps p.tables e below (s₁.setTop (mkF m 1 #[.val (.int p1), .unset, .unset] [(.int p1)])) _
      refine Jvm.Stand.ldcI X0 hx hown (mvT hZ (hw _ (List.mem_of_getElem? (i := 0) rfl))) (g := (mkF m 1 #[.val (.int p1), .unset, .unset] [(.int p1)])) rfl (hb hby at_1) ?_
      show Steps p.tables e below (s₁.setTop (mkF m 3 #[.val (.int p1), .unset, .unset] [(.int (65535 : Int32)), (.int p1)])) _
      refine XS.iand X0.here hx rfl (hb hby at_3) rfl ?_
      show Steps p.tables e below (s₁.setTop (mkF m 4 #[.val (.int p1), .unset, .unset] [(.int (p1 &&& (65535 : Int32)))])) _
      refine XS.i2c X0.here hx rfl (hb hby at_4) rfl ?_
      show Steps p.tables e below (s₁.setTop (mkF m 5 #[.val (.int p1), .unset, .unset] [(.int ((p1 &&& (65535 : Int32)).toUInt32.toUInt16.toUInt32.toInt32))])) _
      refine XS.istoreN X0.here hx rfl (hb hby at_5) rfl (l' := #[.val (.int p1), .val (.int ((p1 &&& (65535 : Int32)).toUInt32.toUInt16.toUInt32.toInt32)), .unset]) rfl ?_
      exact k)
  obtain ⟨c1, ec⟩ : ∃ z : Int32, z = ((p1 &&& (65535 : Int32)).toUInt32.toUInt16.toUInt32.toInt32) := ⟨_, rfl⟩
  rw [← ec] at G1
  have G2 : Goes p e below s₁ (entryFrame m #[(.int p1)] maxLocals) s₁ (mkF m 29 #[.val (.int p1), .val (.int c1), .unset] [(.int (own_ex c1))]) := by
    have G3 : Goes p e below s₁ (entryFrame m #[(.int p1)] maxLocals) s₁ (mkF m 9 #[.val (.int p1), .val (.int c1), .unset] [(.int (32 : Int32)), (.int c1)]) := fun _ k => G1 _ (by
        show Steps p.tables e below (s₁.setTop (mkF m 6 #[.val (.int p1), .val (.int c1), .unset] [])) _
        refine XS.iloadN X0.here hx rfl (hb hby at_6) rfl ?_
        show Steps p.tables e below (s₁.setTop (mkF m 7 #[.val (.int p1), .val (.int c1), .unset] [(.int c1)])) _
        refine XS.bipush X0.here hx rfl (hb hby at_7) ?_
        exact k)
    by_cases hm9_3 : c1 = (32 : Int32)
    · have G5 : Goes p e below s₁ (entryFrame m #[(.int p1)] maxLocals) s₁ (mkF m 24 #[.val (.int p1), .val (.int c1), .unset] []) := fun _ k => G3 _ (by
          show Steps p.tables e below (s₁.setTop (mkF m 9 #[.val (.int p1), .val (.int c1), .unset] [(.int (32 : Int32)), (.int c1)])) _
          refine XS.icmpYes X0.here hx rfl (pc0 := 9) (pc' := 24) rfl (hb hby at_9) rfl (teq hm9_3).1 (by decide) (by decide) ?_
          exact k)
      have G6 : Goes p e below s₁ (entryFrame m #[(.int p1)] maxLocals) s₁ (mkF m 29 #[.val (.int p1), .val (.int c1), .unset] [(.int (1 : Int32))]) := fun _ k => G5 _ (by
          show Steps p.tables e below (s₁.setTop (mkF m 24 #[.val (.int p1), .val (.int c1), .unset] [])) _
          refine XS.iconst X0.here hx rfl (hb hby at_24) ?_
          show Steps p.tables e below (s₁.setTop (mkF m 25 #[.val (.int p1), .val (.int c1), .unset] [(.int (1 : Int32))])) _
          refine XS.goto X0.here hx rfl (pc0 := 25) (pc' := 29) rfl (hb hby at_25) (by decide) (by decide) ?_
          exact k)
      have hv : (own_ex c1) = (1 : Int32) := by simp [hm9_3, own_ex]
      exact fun _ k => G6 _ (by rw [hv] at k; exact k)
    · have G7 : Goes p e below s₁ (entryFrame m #[(.int p1)] maxLocals) s₁ (mkF m 12 #[.val (.int p1), .val (.int c1), .unset] []) := fun _ k => G3 _ (by
          show Steps p.tables e below (s₁.setTop (mkF m 9 #[.val (.int p1), .val (.int c1), .unset] [(.int (32 : Int32)), (.int c1)])) _
          refine XS.icmpNo X0.here hx rfl (hb hby at_9) rfl (feq hm9_3).1 ?_
          exact k)
      have G8 : Goes p e below s₁ (entryFrame m #[(.int p1)] maxLocals) s₁ (mkF m 15 #[.val (.int p1), .val (.int c1), .unset] [(.int (9 : Int32)), (.int c1)]) := fun _ k => G7 _ (by
          show Steps p.tables e below (s₁.setTop (mkF m 12 #[.val (.int p1), .val (.int c1), .unset] [])) _
          refine XS.iloadN X0.here hx rfl (hb hby at_12) rfl ?_
          show Steps p.tables e below (s₁.setTop (mkF m 13 #[.val (.int p1), .val (.int c1), .unset] [(.int c1)])) _
          refine XS.bipush X0.here hx rfl (hb hby at_13) ?_
          exact k)
      by_cases hm15_8 : c1 < (9 : Int32)
      · have G10 : Goes p e below s₁ (entryFrame m #[(.int p1)] maxLocals) s₁ (mkF m 28 #[.val (.int p1), .val (.int c1), .unset] []) := fun _ k => G8 _ (by
            show Steps p.tables e below (s₁.setTop (mkF m 15 #[.val (.int p1), .val (.int c1), .unset] [(.int (9 : Int32)), (.int c1)])) _
            refine XS.icmpYes X0.here hx rfl (pc0 := 15) (pc' := 28) rfl (hb hby at_15) rfl (tlt hm15_8).1 (by decide) (by decide) ?_
            exact k)
        have G11 : Goes p e below s₁ (entryFrame m #[(.int p1)] maxLocals) s₁ (mkF m 29 #[.val (.int p1), .val (.int c1), .unset] [(.int (0 : Int32))]) := fun _ k => G10 _ (by
            show Steps p.tables e below (s₁.setTop (mkF m 28 #[.val (.int p1), .val (.int c1), .unset] [])) _
            refine XS.iconst X0.here hx rfl (hb hby at_28) ?_
            exact k)
        have hv : (own_ex c1) = (0 : Int32) := by simp [hm9_3, hm15_8, own_ex]
        exact fun _ k => G11 _ (by rw [hv] at k; exact k)
      · have G12 : Goes p e below s₁ (entryFrame m #[(.int p1)] maxLocals) s₁ (mkF m 18 #[.val (.int p1), .val (.int c1), .unset] []) := fun _ k => G8 _ (by
            show Steps p.tables e below (s₁.setTop (mkF m 15 #[.val (.int p1), .val (.int c1), .unset] [(.int (9 : Int32)), (.int c1)])) _
            refine XS.icmpNo X0.here hx rfl (hb hby at_15) rfl (flt hm15_8).1 ?_
            exact k)
        have G13 : Goes p e below s₁ (entryFrame m #[(.int p1)] maxLocals) s₁ (mkF m 21 #[.val (.int p1), .val (.int c1), .unset] [(.int (13 : Int32)), (.int c1)]) := fun _ k => G12 _ (by
            show Steps p.tables e below (s₁.setTop (mkF m 18 #[.val (.int p1), .val (.int c1), .unset] [])) _
            refine XS.iloadN X0.here hx rfl (hb hby at_18) rfl ?_
            show Steps p.tables e below (s₁.setTop (mkF m 19 #[.val (.int p1), .val (.int c1), .unset] [(.int c1)])) _
            refine XS.bipush X0.here hx rfl (hb hby at_19) ?_
            exact k)
        by_cases hm21_13 : (13 : Int32) < c1
        · have G15 : Goes p e below s₁ (entryFrame m #[(.int p1)] maxLocals) s₁ (mkF m 28 #[.val (.int p1), .val (.int c1), .unset] []) := fun _ k => G13 _ (by
              show Steps p.tables e below (s₁.setTop (mkF m 21 #[.val (.int p1), .val (.int c1), .unset] [(.int (13 : Int32)), (.int c1)])) _
              refine XS.icmpYes X0.here hx rfl (pc0 := 21) (pc' := 28) rfl (hb hby at_21) rfl (tlt hm21_13).2.2.1 (by decide) (by decide) ?_
              exact k)
          have G16 : Goes p e below s₁ (entryFrame m #[(.int p1)] maxLocals) s₁ (mkF m 29 #[.val (.int p1), .val (.int c1), .unset] [(.int (0 : Int32))]) := fun _ k => G15 _ (by
              show Steps p.tables e below (s₁.setTop (mkF m 28 #[.val (.int p1), .val (.int c1), .unset] [])) _
              refine XS.iconst X0.here hx rfl (hb hby at_28) ?_
              exact k)
          have hv : (own_ex c1) = (0 : Int32) := by simp [hm9_3, hm15_8, hm21_13, own_ex]
          exact fun _ k => G16 _ (by rw [hv] at k; exact k)
        · have G17 : Goes p e below s₁ (entryFrame m #[(.int p1)] maxLocals) s₁ (mkF m 24 #[.val (.int p1), .val (.int c1), .unset] []) := fun _ k => G13 _ (by
              show Steps p.tables e below (s₁.setTop (mkF m 21 #[.val (.int p1), .val (.int c1), .unset] [(.int (13 : Int32)), (.int c1)])) _
              refine XS.icmpNo X0.here hx rfl (hb hby at_21) rfl (flt hm21_13).2.2.1 ?_
              exact k)
          have G18 : Goes p e below s₁ (entryFrame m #[(.int p1)] maxLocals) s₁ (mkF m 29 #[.val (.int p1), .val (.int c1), .unset] [(.int (1 : Int32))]) := fun _ k => G17 _ (by
              show Steps p.tables e below (s₁.setTop (mkF m 24 #[.val (.int p1), .val (.int c1), .unset] [])) _
              refine XS.iconst X0.here hx rfl (hb hby at_24) ?_
              show Steps p.tables e below (s₁.setTop (mkF m 25 #[.val (.int p1), .val (.int c1), .unset] [(.int (1 : Int32))])) _
              refine XS.goto X0.here hx rfl (pc0 := 25) (pc' := 29) rfl (hb hby at_25) (by decide) (by decide) ?_
              exact k)
          have hv : (own_ex c1) = (1 : Int32) := by simp [hm9_3, hm15_8, hm21_13, own_ex]
          exact fun _ k => G18 _ (by rw [hv] at k; exact k)
  have G19 : Goes p e below s₁ (entryFrame m #[(.int p1)] maxLocals) s₁ (mkF m 31 #[.val (.int p1), .val (.int c1), .val (.int (own_ex c1))] [(.int c1)]) := fun _ k => G2 _ (by
      show Steps p.tables e below (s₁.setTop (mkF m 29 #[.val (.int p1), .val (.int c1), .unset] [(.int (own_ex c1))])) _
      refine XS.istoreN X0.here hx rfl (hb hby at_29) rfl (l' := #[.val (.int p1), .val (.int c1), .val (.int (own_ex c1))]) rfl ?_
      show Steps p.tables e below (s₁.setTop (mkF m 30 #[.val (.int p1), .val (.int c1), .val (.int (own_ex c1))] [])) _
      refine XS.iloadN X0.here hx rfl (hb hby at_30) rfl ?_
      exact k)
  obtain ⟨_, _, ⟨T20, L20, k20, n20⟩, -, X20, ⟨Lc20, hQ20, l20, y20, z20⟩, st20⟩ := Jvm.LawKit.callS X0 hx (y := (⟨"com/example/twinlatch/twinlatch/jdbc/SqlScan", "isSpace", "(C)Z"⟩ : MethodName)) hown (mvT hZ (hw _ (List.mem_of_getElem? (i := 1) rfl))) (mvT hZ (hw _ (List.mem_of_getElem? (i := 2) rfl))) (mvT hZ (hw _ (List.mem_of_getElem? (i := 3) rfl))) (mvT hZ (hw _ (List.mem_of_getElem? (i := 4) rfl))) (by decide) (backOf (W := 0) (rm1 l Z a0 hw [] c1 h0 n0 Z0) hZ (hw _ (List.mem_of_getElem? (i := 4) rfl)) (hw _ (List.mem_of_getElem? (i := 3) rfl)) (by decide) (by decide)) (g := (mkF m 31 #[.val (.int p1), .val (.int c1), .val (.int (own_ex c1))] [(.int c1)])) rfl (by rw [hml]; rfl) (argsL := [(.int c1)]) (rest := []) (lenOf own_pd0 rfl) rfl (by show 2 * 0 + _ ≤ _; exact Nat.le_of_eq rfl) (hb hby at_31) (fun _ _ => ⟨rfl, e0, (by decide : 0 + 0 ≤ _), (by decide : 0 + 0 ≤ _)⟩)
  dsimp only [Pt.U, Pt.locs, Pt.cells, Pt.slots] at X20 l20 y20 z20 st20 hQ20
  subst l20 y20 z20
  obtain ⟨rfl, N20q, hh20⟩ := hQ20
  have N20 := Fr.app N0 N20q
  have G20 : Goes p e below s₁ (entryFrame m #[(.int p1)] maxLocals) T20 (mkF m 34 #[.val (.int p1), .val (.int c1), .val (.int (own_ex c1))] [(.int (own_sp c1))]) := fun _ k => G19 _ (st20 _ k)
  have G21 : Goes p e below s₁ (entryFrame m #[(.int p1)] maxLocals) T20 (mkF m 35 #[.val (.int p1), .val (.int c1), .val (.int (own_ex c1))] [(.int (own_ex c1)), (.int (own_sp c1))]) := fun _ k => G20 _ (by
      show Steps p.tables e below (T20.setTop (mkF m 34 #[.val (.int p1), .val (.int c1), .val (.int (own_ex c1))] [(.int (own_sp c1))])) _
      refine XS.iloadN X20.here hx rfl (hb hby at_34) rfl ?_
      exact k)
  have G22 : Goes p e below s₁ (entryFrame m #[(.int p1)] maxLocals) T20 (mkF m 38 #[.val (.int p1), .val (.int c1), .val (.int (own_ex c1))] []) := fun _ k => G21 _ (by
      show Steps p.tables e below (T20.setTop (mkF m 35 #[.val (.int p1), .val (.int c1), .val (.int (own_ex c1))] [(.int (own_ex c1)), (.int (own_sp c1))])) _
      refine XS.icmpNo X20.here hx rfl (hb hby at_35) rfl (teq (own_law c1)).2 ?_
      exact k)
  have G23 : Goes p e below s₁ (entryFrame m #[(.int p1)] maxLocals) T20 (mkF m 43 #[.val (.int p1), .val (.int c1), .val (.int (own_ex c1))] [(.int (1 : Int32))]) := fun _ k => G22 _ (by
      show Steps p.tables e below (T20.setTop (mkF m 38 #[.val (.int p1), .val (.int c1), .val (.int (own_ex c1))] [])) _
      refine XS.iconst X20.here hx rfl (hb hby at_38) ?_
      show Steps p.tables e below (T20.setTop (mkF m 39 #[.val (.int p1), .val (.int c1), .val (.int (own_ex c1))] [(.int (1 : Int32))])) _
      refine XS.goto X20.here hx rfl (pc0 := 39) (pc' := 43) rfl (hb hby at_39) (by decide) (by decide) ?_
      exact k)
  obtain ⟨fs, hr, hrun, hended, hW, hsame⟩ := X20.leave (v := some (.int (1 : Int32))) (fun h => by rw [Bd.returns] at h; cases h)
  refine ⟨_, _, G23 _ (retN X20 hx (t := .boolean) Bd.returns (by simp) (hb hby at_43) hr), hrun, hended, _, _, rfl, ?_, ⟨_, rfl⟩, hW, hsame.mono (by decide) (by decide)⟩
  show Q0 n0 _ T20.heap _
  exact ⟨rfl, N20⟩
set_option maxRecDepth 65536 in
set_option maxHeartbeats 40000000 in
theorem comes_1 {Post : Tables → Env → Array Value → State → Outcome → State → Prop} (hpost : ∀ tb e args s v u, (limb_1_1.after args s (.returned v) u = true ∧ limb_1_2.after args s (.returned v) u = true ∧ True) → FrameEnd s (.returned v) u (Jvm.fieldLocs frame_1_writes args s ++ Jvm.arrayLocs frame_1_arrays args s ++ Jvm.staticLocs frame_1_statics s) 0 0 → Post tb e args s (.returned v) u) :
    ArmFor flags0 classFile x code maxLocals ret World_1 tables_1 room_1 Calls_1 rest_1 Pre_1 Post := by
  intro l hfl _ _ p e ha hc hk s m args below hf hA hF happ hP
  obtain ⟨hcalls, hrest, hpre⟩ := hP
  obtain ⟨-, -, -, hnamed, -, -, -, hat⟩ := (Spec.applies_iff hf).mp happ
  obtain ⟨hg, hn⟩ := and_e (Cond.before_iff.mp (show (Jvm.Cond.and given_1 narrow_1).before args s = true from hpre))
  obtain ⟨gc, gr0⟩ := and_e hg
  obtain ⟨w0, rfl⟩ : ∃ w0 : Value, args = #[w0] := by
    have hs : args.size = 1 := by simpa [Cond.value, given_1] using gc
    obtain ⟨L⟩ := args
    match L, hs with
    | [w0], _ => exact ⟨w0, rfl⟩
  have hw := fun d (hd : d ∈ tables_1) => atoms_spec (ws := Jvm.Cond.code x code maxLocals ret :: tables_1) hat d (List.mem_cons_of_mem _ hd)
  obtain ⟨i0, ei0⟩ := is_v gr0
  obtain rfl : w0 = (.int i0) := Option.some.inj ei0
  obtain ⟨n, o, h1, h2, h3, _, L, rfl, ⟨rfl, N⟩, hq⟩ := rm0 l s _ hw tables_1 i0 s.heap s.heap.size (Nat.le_refl _) p e ha hc hk s m _ below hf ((Spec.applies_iff_loose hf).mp happ).1 ⟨rfl, State.Warmed39.refl s, rfl⟩ trivial
  refine ⟨n, _, h1, h2, h3, hpost _ _ _ _ _ _ ⟨Cond.after_iff.mpr rfl, Cond.after_iff.mpr (eq_i res_at (Term.int_eval (1)) rfl), trivial⟩ ⟨hq.1, hq.2.1, (hq.2.2.sift fun y hy => Or.inr (N y hy)).mono (by decide) (by decide)⟩⟩
theorem main_1_1 : Claimed_1_1 := comes_1 fun _ _ _ _ _ _ h hF => ⟨h.1, hF⟩
theorem main_1_2 : Claimed_1_2 := comes_1 fun _ _ _ _ _ _ h hF => ⟨h.2.1, hF⟩
end Jvm.Pilot.@@N@@
namespace Jvm.Pilot.@@N@@
open Jvm Jvm.ClassFile Sem Op Lib Jvm.Free Jvm.Stand Jvm.Pilot.@@N@@.Jvm.D
/-! MADE BY PROGRAM (witnessworld.py) out of the Statement's table words and the real class files: 9 classes; the members and pool entries that the words name. The judged class is class 1, her method 1. -/
namespace start1
open Jvm.ClassFile
def u (s : String) : CpInfo := .utf8 (stringToUtf16 s)
/-- a pool by its gaps: so many unusable entries, then the entry; so many at the end -/
def gap : Nat → List CpInfo → List CpInfo
  | 0, r => r
  | n + 1, r => .unusable :: gap n r
def poolList (es : List (Nat × CpInfo)) (last : Nat) : List CpInfo := es.foldr (fun e r => gap e.1 (e.2 :: r)) (gap last [])
def pool (es : List (Nat × CpInfo)) (last : Nat) : Array CpInfo := ⟨poolList es last⟩
def fileOf (pool : Array CpInfo) (this : Nat) (attrs : Array Attribute := #[]) (ms : Array MethodInfo := #[]) (fl : Nat := 33) (sup : Nat := 0) (ifs : Array Nat := #[]) (fds : Array FieldInfo := #[]) : ClassFile where
  minorVersion := 0
  majorVersion := 65
  constantPool := pool
  accessFlags := fl
  thisClass := this
  superClass := sup
  interfaces := ifs
  fields := fds
  methods := ms
  attributes := attrs
def plain (name : String) (sup : Option ClassId) : Class where
  name := name
  kind := .ordinary
  loader := none
  accessFlags := 33
  super := sup
  interfaces := #[]
  cf := none
  fields := #[]
  methods := #[]
  instanceTypes := #[]
  staticTypes := #[]
  resolved := #[]
  callSites := []
  init := .initialized
  statics := none
  mirror := none

def pool0 : Array CpInfo := pool [(5, u "<init>"), (0, u "()V"), (1, .class_ 10), (1, u "java/lang/Object")] 113

def k0m0 : Method := { name := "<init>", desc := "()V", sig := { parameters := [], returnType := none }, accessFlags := 1, code := none }
/-- java/lang/Object -/
def k0 : Class := { plain "java/lang/Object" none with
  accessFlags := 33
  interfaces := #[]
  cf := some (fileOf pool0 8 #[] #[{ accessFlags := 1, nameIndex := 5, descriptorIndex := 6, attributes := #[] }] 33 0 #[] #[])
  fields := #[]
  methods := #[k0m0]
  instanceTypes := #[]
  staticTypes := #[]
  resolved := Array.replicate 124 none
  statics := none }

def pool1 : Array CpInfo := pool [(2, .class_ 4), (1, u "java/lang/Object"), (0, u "<init>"), (0, u "()V"), (0, .integer 65535), (0, .methodref 9 10), (0, .class_ 11), (0, .nameAndType 12 13), (0, u "com/example/twinlatch/twinlatch/jdbc/SqlScan"), (0, u "isSpace"), (0, u "(C)Z"), (0, .class_ 15), (0, u "com/example/twinlatch/twinlatch/jdbc/SqlScanIsSpacePinLaw"), (2, u "law"), (0, u "(I)Z")] 3

def k1m0 : Method := { name := "<init>", desc := "()V", sig := { parameters := [], returnType := none }, accessFlags := 1, code := none }
def k1c1 : Code := { maxStack := 2, maxLocals := 3, code := code, exceptionTable := #[], attributes := #[] }
def k1m1 : Method := { name := "law", desc := "(I)Z", sig := { parameters := [.int], returnType := some .boolean }, accessFlags := 9, code := some k1c1 }
/-- com/example/twinlatch/twinlatch/jdbc/SqlScanIsSpacePinLaw -/
def k1 : Class := { plain "com/example/twinlatch/twinlatch/jdbc/SqlScanIsSpacePinLaw" (some 0) with
  accessFlags := 49
  interfaces := #[]
  cf := some (fileOf pool1 14 #[] #[{ accessFlags := 1, nameIndex := 5, descriptorIndex := 6, attributes := #[] }, { accessFlags := 9, nameIndex := 18, descriptorIndex := 19, attributes := #[] }] 49 2 #[] #[])
  fields := #[]
  methods := #[k1m0, k1m1]
  instanceTypes := #[]
  staticTypes := #[]
  resolved := Array.replicate 23 none
  statics := none }

def pool2 : Array CpInfo := pool [(2, .class_ 4), (1, u "java/lang/Object"), (3, .class_ 10), (1, u "com/example/twinlatch/twinlatch/jdbc/SqlScan"), (0, u "sql"), (0, u "Ljava/lang/String;"), (2, u "leading"), (0, u "I"), (5, .class_ 24), (1, u "com/example/twinlatch/twinlatch/jdbc/SqlScan$Token"), (16, .class_ 42), (0, u "com/example/twinlatch/twinlatch/jdbc/SqlScan$Lead"), (39, u "position"), (14, u "tokenStart"), (38, u "isSpace"), (0, u "(C)Z")] 22

def k2c0 : Code := { maxStack := 2, maxLocals := 1, code := prog_76_method_6_code, exceptionTable := #[], attributes := #[] }
def k2m0 : Method := { name := "isSpace", desc := "(C)Z", sig := { parameters := [.char], returnType := some .boolean }, accessFlags := 8, code := some k2c0 }
/-- com/example/twinlatch/twinlatch/jdbc/SqlScan -/
def k2 : Class := { plain "com/example/twinlatch/twinlatch/jdbc/SqlScan" (some 0) with
  accessFlags := 1056
  interfaces := #[]
  cf := some (fileOf pool2 8 #[.nestMembers #[41, 22]] #[{ accessFlags := 8, nameIndex := 136, descriptorIndex := 137, attributes := #[] }] 1056 2 #[] #[{ accessFlags := 16, nameIndex := 11, descriptorIndex := 12, attributes := #[] }, { accessFlags := 0, nameIndex := 82, descriptorIndex := 16, attributes := #[] }, { accessFlags := 0, nameIndex := 97, descriptorIndex := 16, attributes := #[] }, { accessFlags := 18, nameIndex := 15, descriptorIndex := 16, attributes := #[] }])
  fields := #[{ name := "sql", type := (.object "java/lang/String"), accessFlags := 16, slot := 0, constantValue := 0 }, { name := "position", type := .int, accessFlags := 0, slot := 1, constantValue := 0 }, { name := "tokenStart", type := .int, accessFlags := 0, slot := 2, constantValue := 0 }, { name := "leading", type := .int, accessFlags := 18, slot := 3, constantValue := 0 }]
  methods := #[k2m0]
  instanceTypes := #[(.object "java/lang/String"), .int, .int, .int]
  staticTypes := #[]
  resolved := Array.replicate 160 none
  statics := none }

def pool3 : Array CpInfo := pool [(1, u "java/lang/Cloneable"), (0, .class_ 1), (0, u "java/lang/Object"), (0, .class_ 3)] 3

/-- java/lang/Cloneable -/
def k3 : Class := { plain "java/lang/Cloneable" (some 0) with
  accessFlags := 1537
  interfaces := #[]
  cf := some (fileOf pool3 2 #[] #[] 1537 4 #[] #[])
  fields := #[]
  methods := #[]
  instanceTypes := #[]
  staticTypes := #[]
  resolved := Array.replicate 8 none
  statics := none }

def pool4 : Array CpInfo := pool [(1, u "java/io/Serializable"), (0, .class_ 1), (0, u "java/lang/Object"), (0, .class_ 3)] 3

/-- java/io/Serializable -/
def k4 : Class := { plain "java/io/Serializable" (some 0) with
  accessFlags := 1537
  interfaces := #[]
  cf := some (fileOf pool4 2 #[] #[] 1537 4 #[] #[])
  fields := #[]
  methods := #[]
  instanceTypes := #[]
  staticTypes := #[]
  resolved := Array.replicate 8 none
  statics := none }

/-- the primitive byte -/
def k5 : Class := { plain "byte" none with kind := .primitive 'B', accessFlags := 0x411 }
/-- [B -/
def k6 : Class := { plain "[B" (some 0) with kind := .array 5 .byte, interfaces := #[3, 4], accessFlags := 1041 }

/-- the primitive int -/
def k7 : Class := { plain "int" none with kind := .primitive 'I', accessFlags := 0x411 }
/-- [I -/
def k8 : Class := { plain "[I" (some 0) with kind := .array 7 .int, interfaces := #[3, 4], accessFlags := 1041 }

def heap : Heap := #[]
def classes : Array Class := #[k0, k1, k2, k3, k4, k5, k6, k7, k8]
def interned : List (Array UInt16 × Addr) := []
def slotsUsed : Nat := 0
def theMethod : MethodId := ⟨1, 1⟩
def args0 : Array Value := #[.int 5]
def aboutOver (below : List Frame) : State where
  vm := { classes := classes, interned := interned.toArray }
  heap := heap
  slotsUsed := slotsUsed
  threads := #[{ frames := .invoking theMethod args0 :: below }]
def below0 : List Frame := [.native { method := ⟨0, 0⟩, args := #[] }]
def about1 : State := aboutOver below0
def p0 : Program := .bare "" "" ""
def e0 : Env := launch0.env 0 0 0
theorem w_frames : about1.frames = Frame.invoking theMethod args0 :: below0 := rfl
set_option maxRecDepth 65536 in
theorem w_args : argsFit about1.vm theMethod args0 = true := by decide +kernel
set_option maxRecDepth 65536 in
theorem w_heap : heapFits about1 = true := by decide +kernel
set_option maxRecDepth 65536 in
theorem w_runnable : about1.curStatus? = some .runnable := by decide +kernel
set_option maxRecDepth 65536 in
theorem w_alone : about1.alone = true := by decide +kernel
set_option maxRecDepth 65536 in
theorem w_named : about1.methodNamed? x = some theMethod := by decide +kernel
set_option maxRecDepth 65536 in
theorem w_hears : about1.hears theMethod below0 = true := by decide +kernel
set_option maxRecDepth 65536 in
theorem w_ripe : about1.ripe theMethod args0 below0 = true := by decide +kernel
theorem w_running : about1.status = .running := rfl
set_option maxRecDepth 65536 in
theorem w_room : about1.hasRoom e0.platform room_1 = true :=
  launch0.hasRoom_least _ room_1 (by decide +kernel) (by decide +kernel) (by decide +kernel) (by decide +kernel) (by decide +kernel) (by decide +kernel)
theorem allAtoms_all (ts : List Jvm.Cond) (a : Array Jvm.Value) (st : Jvm.State) : (allAtoms ts).before a st = ts.all (fun c => c.before a st) := by
  induction ts with
  | nil => rfl
  | cons c t ih =>
    show (Jvm.Cond.and c (allAtoms t)).before a st = _
    rw [Jvm.Cond.before_and, ih, List.all_cons]
def words1 : List Jvm.Cond := Jvm.Cond.code x code maxLocals ret :: tables_1
/-- a 'code' word, met by the world's own term for the bytes: nothing is compared byte by byte -/
theorem code_word {y : MethodName} {bytes : ByteArray} {mx : Nat} {rt : Option FieldType} {a : Array Value} {s : State} {m : MethodId} {meth : Method} {c : Code} (h1 : s.methodNamed? y = some m) (h2 : s.vm.method? m = some meth) (h3 : meth.code = some c) (h4 : c.code = bytes)
    (h5 : (c.maxLocals == mx && c.exceptionTable.isEmpty && decide (c.maxStack ≤ mostOperands) && decide (meth.sig.returnType = rt) && !meth.locks && decide (parseMethodDescriptor y.desc = some meth.sig)) = true) : (Jvm.Cond.code y bytes mx rt).before a s = true := by
  simp only [Bool.and_eq_true, beq_iff_eq, Bool.not_eq_true', decide_eq_true_eq] at h5
  obtain ⟨⟨⟨⟨⟨g1, g2⟩, g3⟩, g4⟩, g5⟩, g6⟩ := h5
  simp [Cond.before, Cond.holds, Cond.value, h1, h2, h3, h4, g1, g2, g3, g4, g5, g6]
def isCode : Jvm.Cond → Bool
  | .code _ _ _ _ => true
  | _ => false
theorem all_split {L : List Jvm.Cond} {P : Jvm.Cond → Bool} (h1 : L.all (fun c => isCode c || P c) = true) (h2 : ∀ c ∈ L.filter isCode, P c = true) : L.all P = true := by
  refine List.all_eq_true.mpr fun c hc => ?_
  have h := List.all_eq_true.mp h1 c hc
  rcases Bool.eq_false_or_eq_true (isCode c) with hi | hi
  · exact h2 c (List.mem_filter.mpr ⟨hc, hi⟩)
  · simpa [hi] using h
set_option maxRecDepth 65536 in
theorem w_c0 : (Jvm.Cond.code x code maxLocals ret).before args0 about1 = true := code_word (m := ⟨1, 1⟩) (meth := k1m1) (c := k1c1) (by decide +kernel) rfl rfl rfl (by decide +kernel)
set_option maxRecDepth 65536 in
theorem w_c1 : (Jvm.Cond.code ({ cls := "com/example/twinlatch/twinlatch/jdbc/SqlScan", name := "isSpace", desc := "(C)Z" } : Jvm.MethodName) prog_76_method_6_code (1 : Nat) (Option.some Jvm.ClassFile.FieldType.boolean)).before args0 about1 = true := code_word (m := ⟨2, 0⟩) (meth := k2m0) (c := k2c0) (by decide +kernel) rfl rfl rfl (by decide +kernel)
def codes1 : List Jvm.Cond := [Jvm.Cond.code x code maxLocals ret, Jvm.Cond.code ({ cls := "com/example/twinlatch/twinlatch/jdbc/SqlScan", name := "isSpace", desc := "(C)Z" } : Jvm.MethodName) prog_76_method_6_code (1 : Nat) (Option.some Jvm.ClassFile.FieldType.boolean)]
set_option maxRecDepth 65536 in
theorem codes_eq : words1.filter isCode = codes1 := rfl
theorem w_codes : ∀ c ∈ words1.filter isCode, c.before args0 about1 = true := by
  rw [codes_eq]
  intro c hc
  simp only [codes1, List.mem_cons, List.not_mem_nil, or_false] at hc
  rcases hc with rfl | rfl
  · exact w_c0
  · exact w_c1
set_option maxRecDepth 65536 in
theorem w_t1 : words1.all (fun c => isCode c || c.before args0 about1) = true := by decide +kernel
theorem w_tables : (allAtoms (Jvm.Cond.code x code maxLocals ret :: tables_1)).before args0 about1 = true := by
  rw [allAtoms_all]
  show words1.all (fun c => c.before args0 about1) = true
  refine all_split ?_ w_codes
  rw [w_t1]
set_option maxRecDepth 65536 in
theorem w_case : (Jvm.Cond.and given_1 narrow_1).before args0 about1 = true := by decide +kernel
theorem w_applies : (headSpec (Jvm.Cond.code x code maxLocals ret :: tables_1) room_1).applies x e0.platform about1 = true :=
  (Spec.applies_iff w_frames).mpr ⟨w_running, w_runnable, w_alone, w_named, w_hears, w_ripe, w_room, w_tables⟩
theorem atStart : AtStart classFile x code maxLocals ret World_1 tables_1 room_1 Calls_1 rest_1 Pre_1 launch0 p0 e0 about1 theMethod args0 below0 :=
  ⟨lists_1, trivial, launch0.admits_env _ _ _, launch0.least_env, fairChoices_fair.cas, fairChoices_fair.clock, w_frames, w_args, w_heap, w_applies, trivial, trivial, w_case⟩
end start1
theorem witness_1 : WitnessClaimed_1 := ⟨start1.p0, start1.e0, start1.about1, start1.theMethod, start1.args0, start1.below0, start1.atStart⟩
end Jvm.Pilot.@@N@@
