import JvmDerived
import JvmDerived.Pilot.@@N@@Statement
import JvmDerived.Pilot.@@N@@Code
set_option linter.unusedVariables false
set_option linter.unusedSimpArgs false
namespace Jvm.RoadKit
open Sem ClassFile Op Lib Jvm.Stand Jvm.Free Jvm.LawKit
section New
variable {p : Program} {l : Launch} {e : Env} {R : Room} {s : State} {m : MethodId} {args : Array Value} {below : List Frame} {meth : Method} {c : Code} {T : State} {locs : List Loc} {cells slots : Nat}
theorem retI (X : Stand p l e R s m args below meth c T locs cells slots) (hx : p.tables.exec = Jvm.exec) {pc : Nat} {Ls : Array Slot} {z : Int32} {rest : List Value} (hret : meth.sig.returnType = some .int) (hd : decode c.code pc = .ok (.ireturn, 1)) {fs : List Frame}
    (hl : ∀ (f : JFrame) (acts : List Action), f.method = m → f.locked = none → f.entered = [] → (doReturn e (T.setTop f) acts (some (.int z))).1 = T.setFrames fs) : Steps p.tables e below (T.setTop (mkF m pc Ls (.int z :: rest))) (T.setFrames fs) := by
  have hm' : T.vm.method? m = some meth := X.method'
  have hn : narrow .int (.int z) = .int z := rfl
  show Steps p.tables e below (T.setTop { method := m, pc := pc, locals := Ls, stack := _ :: rest, locked := none }) _
  jvm_step X.here [X.here.top, hx, hd, hm', hret, hn]
  first | (intro acts; rw [hl _ acts rfl rfl rfl]) | rw [hl _ _ rfl rfl rfl]
  exact Steps.refl _
end New
end Jvm.RoadKit
namespace Jvm.Pilot.@@N@@
open Jvm Jvm.ClassFile Sem Op Lib Jvm.Free Jvm.Stand Jvm.LawKit Jvm.RoadKit Bundle Jvm.Pilot.@@N@@.Jvm.D
def own_cnt (x : Int32) : Int32 := if (x &&& (255 : Int32)) = (0 : Int32) then (256 : Int32) else (x &&& (255 : Int32))
def own_wc (s n : Int32) : Int32 := (s <<< ((8 : Int32) &&& 31)) ||| (n &&& (255 : Int32))
theorem own_m (x : Int32) : (x &&& (255 : Int32)).toInt = x.toBitVec.toNat % 256 := by
  have e : (x &&& (255 : Int32)).toBitVec.toNat = x.toBitVec.toNat % 256 := by
    rw [Int32.toBitVec_and, BitVec.toNat_and, show (255 : Int32).toBitVec.toNat = 2 ^ 8 - 1 from by decide, Nat.and_two_pow_sub_one_eq_mod]
  have : (x &&& (255 : Int32)).toInt = (x &&& (255 : Int32)).toBitVec.toInt := rfl
  rw [this, BitVec.toInt_eq_toNat_cond, if_pos (by omega), e]
  rfl
theorem own_rng (x : Int32) : 0 ≤ (x &&& (255 : Int32)).toInt ∧ (x &&& (255 : Int32)).toInt ≤ 255 := by rw [own_m]; omega
theorem own_c256 : (256 : Int32).toInt = 256 := by decide
theorem own_cnt_rng (x : Int32) : 1 ≤ (own_cnt x).toInt ∧ (own_cnt x).toInt ≤ 256 := by
  unfold own_cnt
  have r := own_rng x
  split
  · rw [own_c256]; omega
  · rename_i h
    have : (x &&& (255 : Int32)).toInt ≠ 0 := fun q => h (Int32.toInt_inj.mp q)
    omega
theorem own_l1 (x : Int32) : ¬ own_cnt x < (1 : Int32) := by
  rw [Int32.lt_iff_toInt_lt, show (1 : Int32).toInt = 1 from by decide]; have := own_cnt_rng x; omega
theorem own_l2 (x : Int32) : ¬ (256 : Int32) < own_cnt x := by
  rw [Int32.lt_iff_toInt_lt, own_c256]; have := own_cnt_rng x; omega
theorem own_l3 (x : Int32) : (own_cnt x &&& (255 : Int32)) = (x &&& (255 : Int32)) := by
  unfold own_cnt
  split
  · rename_i h; rw [h]; decide
  · rw [Int32.and_assoc, show ((255 : Int32) &&& (255 : Int32)) = 255 from by decide]
theorem own_n (a : Int32) : ((a &&& (255 : Int32)) + (1 : Int32)).toInt = (a &&& (255 : Int32)).toInt + 1 := by
  have r := own_rng a
  rw [Int32.toInt_add, show (1 : Int32).toInt = 1 from by decide]
  exact Int.bmod_eq_of_le (by omega) (by omega)
theorem own_l4 (a : Int32) : ¬ ((a &&& (255 : Int32)) + (1 : Int32)) < (1 : Int32) := by
  rw [Int32.lt_iff_toInt_lt, own_n, show (1 : Int32).toInt = 1 from by decide]; have := own_rng a; omega
theorem own_l5 (a : Int32) : ¬ (256 : Int32) < ((a &&& (255 : Int32)) + (1 : Int32)) := by
  rw [Int32.lt_iff_toInt_lt, own_n, own_c256]; have := own_rng a; omega
theorem own_wc_low (s n : Int32) : (own_wc s n &&& (255 : Int32)) = (n &&& (255 : Int32)) := by
  apply Int32.toBitVec_inj.mp
  have m : ∀ i : Nat, 8 ≤ i → (255#32).getLsbD i = false := fun i hi => by
    have : (255#32).toNat < 2 ^ i := Nat.lt_of_lt_of_le (by decide : (255#32).toNat < 2 ^ 8) (Nat.pow_le_pow_right (by decide) hi)
    exact Nat.testBit_lt_two_pow this
  have e : (own_wc s n &&& (255 : Int32)).toBitVec = ((s.toBitVec <<< 8) ||| (n.toBitVec &&& 255#32)) &&& 255#32 := rfl
  have e2 : (n &&& (255 : Int32)).toBitVec = n.toBitVec &&& 255#32 := rfl
  rw [e, e2]
  apply BitVec.eq_of_getLsbD_eq
  intro i hi
  rw [BitVec.getLsbD_and, BitVec.getLsbD_or, BitVec.getLsbD_and, BitVec.getLsbD_shiftLeft]
  by_cases h : i < 8
  · simp [h]
  · rw [m i (by omega)]; simp
theorem own_l6 (s a : Int32) : own_cnt (own_wc s ((a &&& (255 : Int32)) + (1 : Int32))) = ((a &&& (255 : Int32)) + (1 : Int32)) := by
  have r := own_rng a
  have nn := own_n a
  generalize ((a &&& (255 : Int32)) + (1 : Int32)) = n at *
  unfold own_cnt
  rw [own_wc_low]
  have e := own_m n
  have t : n.toInt = (n.toBitVec.toNat : Int) := by
    have h : n.toInt = n.toBitVec.toInt := rfl
    have c := BitVec.toInt_eq_toNat_cond n.toBitVec
    rw [← h] at c
    have lt := n.toBitVec.isLt
    split at c <;> omega
  split
  · rename_i h
    rw [h] at e
    apply Int32.toInt_inj.mp
    rw [own_c256]
    rw [show (0 : Int32).toInt = 0 from by decide] at e
    omega
  · rename_i h
    have ne : (n &&& (255 : Int32)).toInt ≠ 0 := fun q => h (Int32.toInt_inj.mp q)
    apply Int32.toInt_inj.mp
    omega
theorem own_pn0 : plainName "com/example/cardwire/cardwire/transport/apdu/StatusWord" = true := by first | (simp [plainName, overriddenIn]; done) | decide +kernel
theorem own_pd0 : parseMethodDescriptor "(I)I" = some ⟨[.int], some .int⟩ := by decide +kernel
theorem own_pd1 : parseMethodDescriptor "(II)I" = some ⟨[.int, .int], some .int⟩ := by decide +kernel
theorem own_pn1 : plainName "com/example/cardwire/cardwire/transport/apdu/StatusWordCountPinLaw" = true := by first | (simp [plainName, overriddenIn]; done) | decide +kernel
def Q1 (p1 : Int32) (h0 : Heap) (n0 : Nat) (v : Option Value) (h : Heap) (L : List Loc) : Prop := v = some (.int (own_cnt p1)) ∧ Fr n0 L ∧ h = h0
def Q2 (p1 p2 : Int32) (h0 : Heap) (n0 : Nat) (v : Option Value) (h : Heap) (L : List Loc) : Prop := v = some (.int (own_wc p1 p2)) ∧ Fr n0 L ∧ h = h0
def Q0 (n0 : Nat) (v : Option Value) (h : Heap) (L : List Loc) : Prop := v = some (.int 1) ∧ Fr n0 L
theorem own_d1_0 : decode prog_108_method_5_code 0 = .ok (.iload_n 0, 1) := by decide +kernel
theorem own_d1_1 : decode prog_108_method_5_code 1 = .ok (.sipush 255, 3) := by decide +kernel
theorem own_d1_4 : decode prog_108_method_5_code 4 = .ok (.iand, 1) := by decide +kernel
theorem own_d1_5 : decode prog_108_method_5_code 5 = .ok (.istore_n 1, 1) := by decide +kernel
theorem own_d1_6 : decode prog_108_method_5_code 6 = .ok (.iload_n 1, 1) := by decide +kernel
theorem own_d1_7 : decode prog_108_method_5_code 7 = .ok (.ifCond .ne 9, 3) := by decide +kernel
theorem own_d1_10 : decode prog_108_method_5_code 10 = .ok (.sipush 256, 3) := by decide +kernel
theorem own_d1_13 : decode prog_108_method_5_code 13 = .ok (.goto 4, 3) := by decide +kernel
theorem own_d1_16 : decode prog_108_method_5_code 16 = .ok (.iload_n 1, 1) := by decide +kernel
theorem own_d1_17 : decode prog_108_method_5_code 17 = .ok (.ireturn, 1) := by decide +kernel
set_option maxRecDepth 65536 in
set_option maxHeartbeats 40000000 in
theorem rm1 (l : Launch) (Z : State) (a0 : Array Value) (hw : ∀ d ∈ tables_1, d.before a0 Z = true) (ws : List Jvm.Cond) (p1 : Int32) (h0 : Heap) (n0 : Nat) (Z0 : n0 ≤ h0.size)  :
    MetFree l (⟨"com/example/cardwire/cardwire/transport/apdu/StatusWord", "count", "(I)I"⟩ : MethodName) (head1 (Jvm.Cond.code (⟨"com/example/cardwire/cardwire/transport/apdu/StatusWord", "count", "(I)I"⟩ : MethodName) prog_108_method_5_code 2 (some .int) :: ws) ({ frames := 0, cells := 0, slots := 0, locals := 0 } : Room)) (fun a U => a = #[(.int p1)] ∧ Z.Warmed39 U.vm ∧ U.heap = h0) (fun _ _ _ _ _ => True) (fun _ U oc U' => ∃ v L, oc = .returned v ∧ Q1 p1 h0 n0 v U'.heap L ∧ FrameEnd U oc U' L ({ frames := 0, cells := 0, slots := 0, locals := 0 } : Room).cells ({ frames := 0, cells := 0, slots := 0, locals := 0 } : Room).slots) := by
  refine MetFree.of_bodySF (plainFor_of_name own_pn0) hisR ?_
  intro p e s m args below meth c s₁ Bd hml0 hP hK
  obtain ⟨rfl, hZ, hh⟩ := hP
  have hx := Bd.exec
  have hby := Bd.bytes
  have hml : c.maxLocals = 2 := hml0
  have hown : s.vm.findClass "com/example/cardwire/cardwire/transport/apdu/StatusWord" = some m.cls := findClass_of_methodNamed Bd.named
  have hnm := (name_of_methodNamed Bd.named Bd.method).1
  have X0 : Stand p l e ({ frames := 0, cells := 0, slots := 0, locals := 0 } : Room) s m #[(.int p1)] below meth c s₁ [] 0 0 := Stand.of_body Bd
  have e0 : s₁.heap = h0 := by rw [← hh, Bd.state]; rfl
  have N0 := Fr.nil n0
  have G0 : Goes p e below s₁ (entryFrame m #[(.int p1)] 2) s₁ (mkF m 0 #[.val (.int p1), .unset] []) := fun _ k => castTop (by first | (simp [entryFrame, mkF, argsToLocals, Value.category]; done) | rfl : (entryFrame m #[(.int p1)] 2) = mkF m 0 #[.val (.int p1), .unset] []) k
  have G1 : Goes p e below s₁ (entryFrame m #[(.int p1)] 2) s₁ (mkF m 7 #[.val (.int p1), .val (.int (p1 &&& (255 : Int32)))] [(.int (p1 &&& (255 : Int32)))]) := fun _ k => G0 _ (by
      show Steps p.tables e below (s₁.setTop (mkF m 0 #[.val (.int p1), .unset] [])) _
      refine XS.iloadN X0.here hx rfl (hb hby own_d1_0) rfl ?_
      show Steps p.tables e below (s₁.setTop (mkF m 1 #[.val (.int p1), .unset] [(.int p1)])) _
      refine XS.sipush X0.here hx rfl (hb hby own_d1_1) ?_
      show Steps p.tables e below (s₁.setTop (mkF m 4 #[.val (.int p1), .unset] [(.int (255 : Int32)), (.int p1)])) _
      refine XS.iand X0.here hx rfl (hb hby own_d1_4) rfl ?_
      show Steps p.tables e below (s₁.setTop (mkF m 5 #[.val (.int p1), .unset] [(.int (p1 &&& (255 : Int32)))])) _
      refine XS.istoreN X0.here hx rfl (hb hby own_d1_5) rfl (l' := #[.val (.int p1), .val (.int (p1 &&& (255 : Int32)))]) rfl ?_
      show Steps p.tables e below (s₁.setTop (mkF m 6 #[.val (.int p1), .val (.int (p1 &&& (255 : Int32)))] [])) _
      refine XS.iloadN X0.here hx rfl (hb hby own_d1_6) rfl ?_
      exact k)
  by_cases h1 : (p1 &&& (255 : Int32)) = (0 : Int32)
  · have G2 : Goes p e below s₁ (entryFrame m #[(.int p1)] 2) s₁ (mkF m 10 #[.val (.int p1), .val (.int (p1 &&& (255 : Int32)))] []) := fun _ k => G1 _ (by
        show Steps p.tables e below (s₁.setTop (mkF m 7 #[.val (.int p1), .val (.int (p1 &&& (255 : Int32)))] [(.int (p1 &&& (255 : Int32)))])) _
        refine XS.ifNo X0.here hx rfl (hb hby own_d1_7) rfl ((if0 _ _).trans (teq h1).2) ?_
        exact k)
    have G3 : Goes p e below s₁ (entryFrame m #[(.int p1)] 2) s₁ (mkF m 17 #[.val (.int p1), .val (.int (p1 &&& (255 : Int32)))] [(.int (256 : Int32))]) := fun _ k => G2 _ (by
        show Steps p.tables e below (s₁.setTop (mkF m 10 #[.val (.int p1), .val (.int (p1 &&& (255 : Int32)))] [])) _
        refine XS.sipush X0.here hx rfl (hb hby own_d1_10) ?_
        show Steps p.tables e below (s₁.setTop (mkF m 13 #[.val (.int p1), .val (.int (p1 &&& (255 : Int32)))] [(.int (256 : Int32))])) _
        refine XS.goto X0.here hx rfl (pc0 := 13) (pc' := 17) rfl (hb hby own_d1_13) (by decide) (by decide) ?_
        exact k)
    obtain ⟨fs, hr, hrun, hended, hW, hsame⟩ := X0.leave (v := some (.int (256 : Int32))) (fun h => by rw [Bd.returns] at h; cases h)
    refine ⟨_, _, G3 _ (retI X0 hx Bd.returns (hb hby own_d1_17) hr), hrun, hended, _, _, rfl, ?_, ⟨_, rfl⟩, hW, hsame.mono (by decide) (by decide)⟩
    show Q1 p1 h0 n0 _ s₁.heap _
    rw [e0]
    exact ⟨by rw [own_cnt, if_pos h1], N0, rfl⟩
  · have G4 : Goes p e below s₁ (entryFrame m #[(.int p1)] 2) s₁ (mkF m 16 #[.val (.int p1), .val (.int (p1 &&& (255 : Int32)))] []) := fun _ k => G1 _ (by
        show Steps p.tables e below (s₁.setTop (mkF m 7 #[.val (.int p1), .val (.int (p1 &&& (255 : Int32)))] [(.int (p1 &&& (255 : Int32)))])) _
        refine XS.ifYes X0.here hx rfl (pc0 := 7) (pc' := 16) rfl (hb hby own_d1_7) rfl ((if0 _ _).trans (feq h1).2) (by decide) (by decide) ?_
        exact k)
    have G5 : Goes p e below s₁ (entryFrame m #[(.int p1)] 2) s₁ (mkF m 17 #[.val (.int p1), .val (.int (p1 &&& (255 : Int32)))] [(.int (p1 &&& (255 : Int32)))]) := fun _ k => G4 _ (by
        show Steps p.tables e below (s₁.setTop (mkF m 16 #[.val (.int p1), .val (.int (p1 &&& (255 : Int32)))] [])) _
        refine XS.iloadN X0.here hx rfl (hb hby own_d1_16) rfl ?_
        exact k)
    obtain ⟨fs, hr, hrun, hended, hW, hsame⟩ := X0.leave (v := some (.int (p1 &&& (255 : Int32)))) (fun h => by rw [Bd.returns] at h; cases h)
    refine ⟨_, _, G5 _ (retI X0 hx Bd.returns (hb hby own_d1_17) hr), hrun, hended, _, _, rfl, ?_, ⟨_, rfl⟩, hW, hsame.mono (by decide) (by decide)⟩
    show Q1 p1 h0 n0 _ s₁.heap _
    rw [e0]
    exact ⟨by rw [own_cnt, if_neg h1], N0, rfl⟩
theorem own_d2_0 : decode prog_108_method_4_code 0 = .ok (.iload_n 1, 1) := by decide +kernel
theorem own_d2_1 : decode prog_108_method_4_code 1 = .ok (.iconst 1, 1) := by decide +kernel
theorem own_d2_2 : decode prog_108_method_4_code 2 = .ok (.if_icmp .lt 10, 3) := by decide +kernel
theorem own_d2_5 : decode prog_108_method_4_code 5 = .ok (.iload_n 1, 1) := by decide +kernel
theorem own_d2_6 : decode prog_108_method_4_code 6 = .ok (.sipush 256, 3) := by decide +kernel
theorem own_d2_9 : decode prog_108_method_4_code 9 = .ok (.if_icmp .le 17, 3) := by decide +kernel
theorem own_d2_26 : decode prog_108_method_4_code 26 = .ok (.iload_n 0, 1) := by decide +kernel
theorem own_d2_27 : decode prog_108_method_4_code 27 = .ok (.bipush 8, 2) := by decide +kernel
theorem own_d2_29 : decode prog_108_method_4_code 29 = .ok (.ishl, 1) := by decide +kernel
theorem own_d2_30 : decode prog_108_method_4_code 30 = .ok (.iload_n 1, 1) := by decide +kernel
theorem own_d2_31 : decode prog_108_method_4_code 31 = .ok (.sipush 255, 3) := by decide +kernel
theorem own_d2_34 : decode prog_108_method_4_code 34 = .ok (.iand, 1) := by decide +kernel
theorem own_d2_35 : decode prog_108_method_4_code 35 = .ok (.ior, 1) := by decide +kernel
theorem own_d2_36 : decode prog_108_method_4_code 36 = .ok (.ireturn, 1) := by decide +kernel
set_option maxRecDepth 65536 in
set_option maxHeartbeats 40000000 in
theorem rm2 (l : Launch) (Z : State) (a0 : Array Value) (hw : ∀ d ∈ tables_1, d.before a0 Z = true) (ws : List Jvm.Cond) (p1 p2 : Int32) (h0 : Heap) (n0 : Nat) (Z0 : n0 ≤ h0.size) (g1 : ¬ p2 < (1 : Int32)) (g2 : ¬ (256 : Int32) < p2) :
    MetFree l (⟨"com/example/cardwire/cardwire/transport/apdu/StatusWord", "withCount", "(II)I"⟩ : MethodName) (head1 (Jvm.Cond.code (⟨"com/example/cardwire/cardwire/transport/apdu/StatusWord", "withCount", "(II)I"⟩ : MethodName) prog_108_method_4_code 2 (some .int) :: ws) ({ frames := 0, cells := 0, slots := 0, locals := 0 } : Room)) (fun a U => a = #[(.int p1), (.int p2)] ∧ Z.Warmed39 U.vm ∧ U.heap = h0) (fun _ _ _ _ _ => True) (fun _ U oc U' => ∃ v L, oc = .returned v ∧ Q2 p1 p2 h0 n0 v U'.heap L ∧ FrameEnd U oc U' L ({ frames := 0, cells := 0, slots := 0, locals := 0 } : Room).cells ({ frames := 0, cells := 0, slots := 0, locals := 0 } : Room).slots) := by
  refine MetFree.of_bodySF (plainFor_of_name own_pn0) hisR ?_
  intro p e s m args below meth c s₁ Bd hml0 hP hK
  obtain ⟨rfl, hZ, hh⟩ := hP
  have hx := Bd.exec
  have hby := Bd.bytes
  have hml : c.maxLocals = 2 := hml0
  have hown : s.vm.findClass "com/example/cardwire/cardwire/transport/apdu/StatusWord" = some m.cls := findClass_of_methodNamed Bd.named
  have hnm := (name_of_methodNamed Bd.named Bd.method).1
  have X0 : Stand p l e ({ frames := 0, cells := 0, slots := 0, locals := 0 } : Room) s m #[(.int p1), (.int p2)] below meth c s₁ [] 0 0 := Stand.of_body Bd
  have e0 : s₁.heap = h0 := by rw [← hh, Bd.state]; rfl
  have N0 := Fr.nil n0
  have G0 : Goes p e below s₁ (entryFrame m #[(.int p1), (.int p2)] 2) s₁ (mkF m 0 #[.val (.int p1), .val (.int p2)] []) := fun _ k => castTop (by first | (simp [entryFrame, mkF, argsToLocals, Value.category]; done) | rfl : (entryFrame m #[(.int p1), (.int p2)] 2) = mkF m 0 #[.val (.int p1), .val (.int p2)] []) k
  have G1 : Goes p e below s₁ (entryFrame m #[(.int p1), (.int p2)] 2) s₁ (mkF m 2 #[.val (.int p1), .val (.int p2)] [(.int (1 : Int32)), (.int p2)]) := fun _ k => G0 _ (by
      show Steps p.tables e below (s₁.setTop (mkF m 0 #[.val (.int p1), .val (.int p2)] [])) _
      refine XS.iloadN X0.here hx rfl (hb hby own_d2_0) rfl ?_
      show Steps p.tables e below (s₁.setTop (mkF m 1 #[.val (.int p1), .val (.int p2)] [(.int p2)])) _
      refine XS.iconst X0.here hx rfl (hb hby own_d2_1) ?_
      exact k)
  have G2 : Goes p e below s₁ (entryFrame m #[(.int p1), (.int p2)] 2) s₁ (mkF m 5 #[.val (.int p1), .val (.int p2)] []) := fun _ k => G1 _ (by
      show Steps p.tables e below (s₁.setTop (mkF m 2 #[.val (.int p1), .val (.int p2)] [(.int (1 : Int32)), (.int p2)])) _
      refine XS.icmpNo X0.here hx rfl (hb hby own_d2_2) rfl (flt g1).1 ?_
      exact k)
  have G3 : Goes p e below s₁ (entryFrame m #[(.int p1), (.int p2)] 2) s₁ (mkF m 9 #[.val (.int p1), .val (.int p2)] [(.int (256 : Int32)), (.int p2)]) := fun _ k => G2 _ (by
      show Steps p.tables e below (s₁.setTop (mkF m 5 #[.val (.int p1), .val (.int p2)] [])) _
      refine XS.iloadN X0.here hx rfl (hb hby own_d2_5) rfl ?_
      show Steps p.tables e below (s₁.setTop (mkF m 6 #[.val (.int p1), .val (.int p2)] [(.int p2)])) _
      refine XS.sipush X0.here hx rfl (hb hby own_d2_6) ?_
      exact k)
  have G4 : Goes p e below s₁ (entryFrame m #[(.int p1), (.int p2)] 2) s₁ (mkF m 26 #[.val (.int p1), .val (.int p2)] []) := fun _ k => G3 _ (by
      show Steps p.tables e below (s₁.setTop (mkF m 9 #[.val (.int p1), .val (.int p2)] [(.int (256 : Int32)), (.int p2)])) _
      refine XS.icmpYes X0.here hx rfl (pc0 := 9) (pc' := 26) rfl (hb hby own_d2_9) rfl (flt g2).2.2.2 (by decide) (by decide) ?_
      exact k)
  have G5 : Goes p e below s₁ (entryFrame m #[(.int p1), (.int p2)] 2) s₁ (mkF m 36 #[.val (.int p1), .val (.int p2)] [(.int ((p1 <<< ((8 : Int32) &&& 31)) ||| (p2 &&& (255 : Int32))))]) := fun _ k => G4 _ (by
      show Steps p.tables e below (s₁.setTop (mkF m 26 #[.val (.int p1), .val (.int p2)] [])) _
      refine XS.iloadN X0.here hx rfl (hb hby own_d2_26) rfl ?_
      show Steps p.tables e below (s₁.setTop (mkF m 27 #[.val (.int p1), .val (.int p2)] [(.int p1)])) _
      refine XS.bipush X0.here hx rfl (hb hby own_d2_27) ?_
      show Steps p.tables e below (s₁.setTop (mkF m 29 #[.val (.int p1), .val (.int p2)] [(.int (8 : Int32)), (.int p1)])) _
      refine XS.ishl X0.here hx rfl (hb hby own_d2_29) rfl ?_
      show Steps p.tables e below (s₁.setTop (mkF m 30 #[.val (.int p1), .val (.int p2)] [(.int (p1 <<< ((8 : Int32) &&& 31)))])) _
      refine XS.iloadN X0.here hx rfl (hb hby own_d2_30) rfl ?_
      show Steps p.tables e below (s₁.setTop (mkF m 31 #[.val (.int p1), .val (.int p2)] [(.int p2), (.int (p1 <<< ((8 : Int32) &&& 31)))])) _
      refine XS.sipush X0.here hx rfl (hb hby own_d2_31) ?_
      show Steps p.tables e below (s₁.setTop (mkF m 34 #[.val (.int p1), .val (.int p2)] [(.int (255 : Int32)), (.int p2), (.int (p1 <<< ((8 : Int32) &&& 31)))])) _
      refine XS.iand X0.here hx rfl (hb hby own_d2_34) rfl ?_
      show Steps p.tables e below (s₁.setTop (mkF m 35 #[.val (.int p1), .val (.int p2)] [(.int (p2 &&& (255 : Int32))), (.int (p1 <<< ((8 : Int32) &&& 31)))])) _
      refine XS.ior X0.here hx rfl (hb hby own_d2_35) rfl ?_
      exact k)
  obtain ⟨fs, hr, hrun, hended, hW, hsame⟩ := X0.leave (v := some (.int ((p1 <<< ((8 : Int32) &&& 31)) ||| (p2 &&& (255 : Int32))))) (fun h => by rw [Bd.returns] at h; cases h)
  refine ⟨_, _, G5 _ (retI X0 hx Bd.returns (hb hby own_d2_36) hr), hrun, hended, _, _, rfl, ?_, ⟨_, rfl⟩, hW, hsame.mono (by decide) (by decide)⟩
  show Q2 p1 p2 h0 n0 _ s₁.heap _
  rw [e0]
  exact ⟨rfl, N0, rfl⟩
set_option maxRecDepth 65536 in
set_option maxHeartbeats 40000000 in
theorem rm0 (l : Launch) (Z : State) (a0 : Array Value) (hw : ∀ d ∈ tables_1, d.before a0 Z = true) (ws : List Jvm.Cond) (p1 p2 p3 : Int32) (h0 : Heap) (n0 : Nat) (Z0 : n0 ≤ h0.size)  :
    MetFree l x (head1 (Jvm.Cond.code x code maxLocals ret :: ws) room_1) (fun a U => a = #[(.int p1), (.int p2), (.int p3)] ∧ Z.Warmed39 U.vm ∧ U.heap = h0) (fun _ _ _ _ _ => True) (fun _ U oc U' => ∃ v L, oc = .returned v ∧ Q0 n0 v U'.heap L ∧ FrameEnd U oc U' L 0 0) := by
  refine MetFree.of_bodySF (plainFor_of_name own_pn1) hisR ?_
  intro p e s m args below meth c s₁ Bd hml0 hP hK
  obtain ⟨rfl, hZ, hh⟩ := hP
  have hx := Bd.exec
  have hby := Bd.bytes
  have hml : c.maxLocals = 5 := hml0
  have hown : s.vm.findClass "com/example/cardwire/cardwire/transport/apdu/StatusWordCountPinLaw" = some m.cls := findClass_of_methodNamed Bd.named
  have hnm := (name_of_methodNamed Bd.named Bd.method).1
  have X0 : Stand p l e room_1 s m #[(.int p1), (.int p2), (.int p3)] below meth c s₁ [] 0 0 := Stand.of_body Bd
  have e0 : s₁.heap = h0 := by rw [← hh, Bd.state]; rfl
  have N0 := Fr.nil n0
  have G0 : Goes p e below s₁ (entryFrame m #[(.int p1), (.int p2), (.int p3)] maxLocals) s₁ (mkF m 0 #[.val (.int p1), .val (.int p2), .val (.int p3), .unset, .unset] []) := fun _ k => castTop (by first | (simp [entryFrame, mkF, argsToLocals, Value.category, maxLocals]; done) | rfl : (entryFrame m #[(.int p1), (.int p2), (.int p3)] maxLocals) = mkF m 0 #[.val (.int p1), .val (.int p2), .val (.int p3), .unset, .unset] []) k
  have G1 : Goes p e below s₁ (entryFrame m #[(.int p1), (.int p2), (.int p3)] maxLocals) s₁ (mkF m 1 #[.val (.int p1), .val (.int p2), .val (.int p3), .unset, .unset] [(.int p1)]) := fun _ k => G0 _ (by
      show Steps p.tables e below (s₁.setTop (mkF m 0 #[.val (.int p1), .val (.int p2), .val (.int p3), .unset, .unset] [])) _
      refine XS.iloadN X0.here hx rfl (hb hby at_0) rfl ?_
      exact k)
  obtain ⟨_, _, ⟨T2, L2, k2, n2⟩, -, X2, ⟨Lc2, hQ2, l2, y2, z2⟩, st2⟩ := Jvm.LawKit.callS X0 hx (y := (⟨"com/example/cardwire/cardwire/transport/apdu/StatusWord", "count", "(I)I"⟩ : MethodName)) hown (mvT hZ (hw _ (List.mem_of_getElem? (i := 0) rfl))) (mvT hZ (hw _ (List.mem_of_getElem? (i := 1) rfl))) (mvT hZ (hw _ (List.mem_of_getElem? (i := 2) rfl))) (mvT hZ (hw _ (List.mem_of_getElem? (i := 3) rfl))) (by decide) (backOf (W := 0) (rm1 l Z a0 hw [] p1 h0 n0 Z0) hZ (hw _ (List.mem_of_getElem? (i := 3) rfl)) (hw _ (List.mem_of_getElem? (i := 2) rfl)) (by decide) (by decide)) (g := (mkF m 1 #[.val (.int p1), .val (.int p2), .val (.int p3), .unset, .unset] [(.int p1)])) rfl (by rw [hml]; rfl) (argsL := [(.int p1)]) (rest := []) (lenOf own_pd0 rfl) rfl (by show 2 * 0 + _ ≤ _; exact Nat.le_of_eq rfl) (hb hby at_1) (fun _ _ => ⟨rfl, e0, (by decide : 0 + 0 ≤ _), (by decide : 0 + 0 ≤ _)⟩)
  dsimp only [Pt.U, Pt.locs, Pt.cells, Pt.slots] at X2 l2 y2 z2 st2 hQ2
  subst l2 y2 z2
  obtain ⟨rfl, N2q, hh2⟩ := hQ2
  have N2 := Fr.app N0 N2q
  have G2 : Goes p e below s₁ (entryFrame m #[(.int p1), (.int p2), (.int p3)] maxLocals) T2 (mkF m 4 #[.val (.int p1), .val (.int p2), .val (.int p3), .unset, .unset] [(.int (own_cnt p1))]) := fun _ k => G1 _ (st2 _ k)
  have G3 : Goes p e below s₁ (entryFrame m #[(.int p1), (.int p2), (.int p3)] maxLocals) T2 (mkF m 7 #[.val (.int p1), .val (.int p2), .val (.int p3), .val (.int (own_cnt p1)), .unset] [(.int (1 : Int32)), (.int (own_cnt p1))]) := fun _ k => G2 _ (by
      show Steps p.tables e below (T2.setTop (mkF m 4 #[.val (.int p1), .val (.int p2), .val (.int p3), .unset, .unset] [(.int (own_cnt p1))])) _
      refine XS.istoreN X2.here hx rfl (hb hby at_4) rfl (l' := #[.val (.int p1), .val (.int p2), .val (.int p3), .val (.int (own_cnt p1)), .unset]) rfl ?_
      show Steps p.tables e below (T2.setTop (mkF m 5 #[.val (.int p1), .val (.int p2), .val (.int p3), .val (.int (own_cnt p1)), .unset] [])) _
      refine XS.iloadN X2.here hx rfl (hb hby at_5) rfl ?_
      show Steps p.tables e below (T2.setTop (mkF m 6 #[.val (.int p1), .val (.int p2), .val (.int p3), .val (.int (own_cnt p1)), .unset] [(.int (own_cnt p1))])) _
      refine XS.iconst X2.here hx rfl (hb hby at_6) ?_
      exact k)
  have G4 : Goes p e below s₁ (entryFrame m #[(.int p1), (.int p2), (.int p3)] maxLocals) T2 (mkF m 10 #[.val (.int p1), .val (.int p2), .val (.int p3), .val (.int (own_cnt p1)), .unset] []) := fun _ k => G3 _ (by
      show Steps p.tables e below (T2.setTop (mkF m 7 #[.val (.int p1), .val (.int p2), .val (.int p3), .val (.int (own_cnt p1)), .unset] [(.int (1 : Int32)), (.int (own_cnt p1))])) _
      refine XS.icmpNo X2.here hx rfl (hb hby at_7) rfl (flt (own_l1 p1)).1 ?_
      exact k)
  have G5 : Goes p e below s₁ (entryFrame m #[(.int p1), (.int p2), (.int p3)] maxLocals) T2 (mkF m 14 #[.val (.int p1), .val (.int p2), .val (.int p3), .val (.int (own_cnt p1)), .unset] [(.int (256 : Int32)), (.int (own_cnt p1))]) := fun _ k => G4 _ (by
      show Steps p.tables e below (T2.setTop (mkF m 10 #[.val (.int p1), .val (.int p2), .val (.int p3), .val (.int (own_cnt p1)), .unset] [])) _
      refine XS.iloadN X2.here hx rfl (hb hby at_10) rfl ?_
      show Steps p.tables e below (T2.setTop (mkF m 11 #[.val (.int p1), .val (.int p2), .val (.int p3), .val (.int (own_cnt p1)), .unset] [(.int (own_cnt p1))])) _
      refine XS.sipush X2.here hx rfl (hb hby at_11) ?_
      exact k)
  have G6 : Goes p e below s₁ (entryFrame m #[(.int p1), (.int p2), (.int p3)] maxLocals) T2 (mkF m 19 #[.val (.int p1), .val (.int p2), .val (.int p3), .val (.int (own_cnt p1)), .unset] []) := fun _ k => G5 _ (by
      show Steps p.tables e below (T2.setTop (mkF m 14 #[.val (.int p1), .val (.int p2), .val (.int p3), .val (.int (own_cnt p1)), .unset] [(.int (256 : Int32)), (.int (own_cnt p1))])) _
      refine XS.icmpYes X2.here hx rfl (pc0 := 14) (pc' := 19) rfl (hb hby at_14) rfl (flt (own_l2 p1)).2.2.2 (by decide) (by decide) ?_
      exact k)
  have G7 : Goes p e below s₁ (entryFrame m #[(.int p1), (.int p2), (.int p3)] maxLocals) T2 (mkF m 29 #[.val (.int p1), .val (.int p2), .val (.int p3), .val (.int (own_cnt p1)), .unset] [(.int (p1 &&& (255 : Int32))), (.int ((own_cnt p1) &&& (255 : Int32)))]) := fun _ k => G6 _ (by
      show Steps p.tables e below (T2.setTop (mkF m 19 #[.val (.int p1), .val (.int p2), .val (.int p3), .val (.int (own_cnt p1)), .unset] [])) _
      refine XS.iloadN X2.here hx rfl (hb hby at_19) rfl ?_
      show Steps p.tables e below (T2.setTop (mkF m 20 #[.val (.int p1), .val (.int p2), .val (.int p3), .val (.int (own_cnt p1)), .unset] [(.int (own_cnt p1))])) _
      refine XS.sipush X2.here hx rfl (hb hby at_20) ?_
      show Steps p.tables e below (T2.setTop (mkF m 23 #[.val (.int p1), .val (.int p2), .val (.int p3), .val (.int (own_cnt p1)), .unset] [(.int (255 : Int32)), (.int (own_cnt p1))])) _
      refine XS.iand X2.here hx rfl (hb hby at_23) rfl ?_
      show Steps p.tables e below (T2.setTop (mkF m 24 #[.val (.int p1), .val (.int p2), .val (.int p3), .val (.int (own_cnt p1)), .unset] [(.int ((own_cnt p1) &&& (255 : Int32)))])) _
      refine XS.iloadN X2.here hx rfl (hb hby at_24) rfl ?_
      show Steps p.tables e below (T2.setTop (mkF m 25 #[.val (.int p1), .val (.int p2), .val (.int p3), .val (.int (own_cnt p1)), .unset] [(.int p1), (.int ((own_cnt p1) &&& (255 : Int32)))])) _
      refine XS.sipush X2.here hx rfl (hb hby at_25) ?_
      show Steps p.tables e below (T2.setTop (mkF m 28 #[.val (.int p1), .val (.int p2), .val (.int p3), .val (.int (own_cnt p1)), .unset] [(.int (255 : Int32)), (.int p1), (.int ((own_cnt p1) &&& (255 : Int32)))])) _
      refine XS.iand X2.here hx rfl (hb hby at_28) rfl ?_
      exact k)
  have G8 : Goes p e below s₁ (entryFrame m #[(.int p1), (.int p2), (.int p3)] maxLocals) T2 (mkF m 34 #[.val (.int p1), .val (.int p2), .val (.int p3), .val (.int (own_cnt p1)), .unset] []) := fun _ k => G7 _ (by
      show Steps p.tables e below (T2.setTop (mkF m 29 #[.val (.int p1), .val (.int p2), .val (.int p3), .val (.int (own_cnt p1)), .unset] [(.int (p1 &&& (255 : Int32))), (.int ((own_cnt p1) &&& (255 : Int32)))])) _
      refine XS.icmpYes X2.here hx rfl (pc0 := 29) (pc' := 34) rfl (hb hby at_29) rfl (teq (own_l3 p1)).1 (by decide) (by decide) ?_
      exact k)
  have G9 : Goes p e below s₁ (entryFrame m #[(.int p1), (.int p2), (.int p3)] maxLocals) T2 (mkF m 46 #[.val (.int p1), .val (.int p2), .val (.int p3), .val (.int (own_cnt p1)), .val (.int ((p3 &&& (255 : Int32)) + (1 : Int32)))] [(.int ((p3 &&& (255 : Int32)) + (1 : Int32))), (.int p2)]) := fun _ k => G8 _ (by
      show Steps p.tables e below (T2.setTop (mkF m 34 #[.val (.int p1), .val (.int p2), .val (.int p3), .val (.int (own_cnt p1)), .unset] [])) _
      refine XS.iloadN X2.here hx rfl (hb hby at_34) rfl ?_
      show Steps p.tables e below (T2.setTop (mkF m 35 #[.val (.int p1), .val (.int p2), .val (.int p3), .val (.int (own_cnt p1)), .unset] [(.int p3)])) _
      refine XS.sipush X2.here hx rfl (hb hby at_35) ?_
      show Steps p.tables e below (T2.setTop (mkF m 38 #[.val (.int p1), .val (.int p2), .val (.int p3), .val (.int (own_cnt p1)), .unset] [(.int (255 : Int32)), (.int p3)])) _
      refine XS.iand X2.here hx rfl (hb hby at_38) rfl ?_
      show Steps p.tables e below (T2.setTop (mkF m 39 #[.val (.int p1), .val (.int p2), .val (.int p3), .val (.int (own_cnt p1)), .unset] [(.int (p3 &&& (255 : Int32)))])) _
      refine XS.iconst X2.here hx rfl (hb hby at_39) ?_
      show Steps p.tables e below (T2.setTop (mkF m 40 #[.val (.int p1), .val (.int p2), .val (.int p3), .val (.int (own_cnt p1)), .unset] [(.int (1 : Int32)), (.int (p3 &&& (255 : Int32)))])) _
      refine XS.iadd X2.here hx rfl (hb hby at_40) rfl ?_
      show Steps p.tables e below (T2.setTop (mkF m 41 #[.val (.int p1), .val (.int p2), .val (.int p3), .val (.int (own_cnt p1)), .unset] [(.int ((p3 &&& (255 : Int32)) + (1 : Int32)))])) _
      refine XS.istore X2.here hx rfl (hb hby at_41) rfl (l' := #[.val (.int p1), .val (.int p2), .val (.int p3), .val (.int (own_cnt p1)), .val (.int ((p3 &&& (255 : Int32)) + (1 : Int32)))]) rfl ?_
      show Steps p.tables e below (T2.setTop (mkF m 43 #[.val (.int p1), .val (.int p2), .val (.int p3), .val (.int (own_cnt p1)), .val (.int ((p3 &&& (255 : Int32)) + (1 : Int32)))] [])) _
      refine XS.iloadN X2.here hx rfl (hb hby at_43) rfl ?_
      show Steps p.tables e below (T2.setTop (mkF m 44 #[.val (.int p1), .val (.int p2), .val (.int p3), .val (.int (own_cnt p1)), .val (.int ((p3 &&& (255 : Int32)) + (1 : Int32)))] [(.int p2)])) _
      refine XS.iload X2.here hx rfl (hb hby at_44) rfl ?_
      exact k)
  obtain ⟨_, _, ⟨T10, L10, k10, n10⟩, -, X10, ⟨Lc10, hQ10, l10, y10, z10⟩, st10⟩ := Jvm.LawKit.callS X2 hx (y := (⟨"com/example/cardwire/cardwire/transport/apdu/StatusWord", "withCount", "(II)I"⟩ : MethodName)) hown (mvT hZ (hw _ (List.mem_of_getElem? (i := 4) rfl))) (mvT hZ (hw _ (List.mem_of_getElem? (i := 5) rfl))) (mvT hZ (hw _ (List.mem_of_getElem? (i := 2) rfl))) (mvT hZ (hw _ (List.mem_of_getElem? (i := 6) rfl))) (by decide) (backOf (W := 0) (rm2 l Z a0 hw [] p2 ((p3 &&& (255 : Int32)) + (1 : Int32)) h0 n0 Z0 (own_l4 p3) (own_l5 p3)) hZ (hw _ (List.mem_of_getElem? (i := 6) rfl)) (hw _ (List.mem_of_getElem? (i := 2) rfl)) (by decide) (by decide)) (g := (mkF m 46 #[.val (.int p1), .val (.int p2), .val (.int p3), .val (.int (own_cnt p1)), .val (.int ((p3 &&& (255 : Int32)) + (1 : Int32)))] [(.int ((p3 &&& (255 : Int32)) + (1 : Int32))), (.int p2)])) rfl (by rw [hml]; rfl) (argsL := [(.int p2), (.int ((p3 &&& (255 : Int32)) + (1 : Int32)))]) (rest := []) (lenOf own_pd1 rfl) rfl (by show 2 * 0 + _ ≤ _; exact Nat.le_of_eq rfl) (hb hby at_46) (fun _ _ => ⟨rfl, hh2, (by decide : 0 + 0 ≤ _), (by decide : 0 + 0 ≤ _)⟩)
  dsimp only [Pt.U, Pt.locs, Pt.cells, Pt.slots] at X10 l10 y10 z10 st10 hQ10
  subst l10 y10 z10
  obtain ⟨rfl, N10q, hh10⟩ := hQ10
  have N10 := Fr.app N2 N10q
  have G10 : Goes p e below s₁ (entryFrame m #[(.int p1), (.int p2), (.int p3)] maxLocals) T10 (mkF m 49 #[.val (.int p1), .val (.int p2), .val (.int p3), .val (.int (own_cnt p1)), .val (.int ((p3 &&& (255 : Int32)) + (1 : Int32)))] [(.int (own_wc p2 ((p3 &&& (255 : Int32)) + (1 : Int32))))]) := fun _ k => G9 _ (st10 _ k)
  obtain ⟨_, _, ⟨T11, L11, k11, n11⟩, -, X11, ⟨Lc11, hQ11, l11, y11, z11⟩, st11⟩ := Jvm.LawKit.callS X10 hx (y := (⟨"com/example/cardwire/cardwire/transport/apdu/StatusWord", "count", "(I)I"⟩ : MethodName)) hown (mvT hZ (hw _ (List.mem_of_getElem? (i := 0) rfl))) (mvT hZ (hw _ (List.mem_of_getElem? (i := 1) rfl))) (mvT hZ (hw _ (List.mem_of_getElem? (i := 2) rfl))) (mvT hZ (hw _ (List.mem_of_getElem? (i := 3) rfl))) (by decide) (backOf (W := 0) (rm1 l Z a0 hw [] (own_wc p2 ((p3 &&& (255 : Int32)) + (1 : Int32))) h0 n0 Z0) hZ (hw _ (List.mem_of_getElem? (i := 3) rfl)) (hw _ (List.mem_of_getElem? (i := 2) rfl)) (by decide) (by decide)) (g := (mkF m 49 #[.val (.int p1), .val (.int p2), .val (.int p3), .val (.int (own_cnt p1)), .val (.int ((p3 &&& (255 : Int32)) + (1 : Int32)))] [(.int (own_wc p2 ((p3 &&& (255 : Int32)) + (1 : Int32))))])) rfl (by rw [hml]; rfl) (argsL := [(.int (own_wc p2 ((p3 &&& (255 : Int32)) + (1 : Int32))))]) (rest := []) (lenOf own_pd0 rfl) rfl (by show 2 * 0 + _ ≤ _; exact Nat.le_of_eq rfl) (hb hby at_49) (fun _ _ => ⟨rfl, hh10, (by decide : 0 + 0 ≤ _), (by decide : 0 + 0 ≤ _)⟩)
  dsimp only [Pt.U, Pt.locs, Pt.cells, Pt.slots] at X11 l11 y11 z11 st11 hQ11
  subst l11 y11 z11
  obtain ⟨rfl, N11q, hh11⟩ := hQ11
  have N11 := Fr.app N10 N11q
  have G11 : Goes p e below s₁ (entryFrame m #[(.int p1), (.int p2), (.int p3)] maxLocals) T11 (mkF m 52 #[.val (.int p1), .val (.int p2), .val (.int p3), .val (.int (own_cnt p1)), .val (.int ((p3 &&& (255 : Int32)) + (1 : Int32)))] [(.int (own_cnt (own_wc p2 ((p3 &&& (255 : Int32)) + (1 : Int32)))))]) := fun _ k => G10 _ (st11 _ k)
  have G12 : Goes p e below s₁ (entryFrame m #[(.int p1), (.int p2), (.int p3)] maxLocals) T11 (mkF m 54 #[.val (.int p1), .val (.int p2), .val (.int p3), .val (.int (own_cnt p1)), .val (.int ((p3 &&& (255 : Int32)) + (1 : Int32)))] [(.int ((p3 &&& (255 : Int32)) + (1 : Int32))), (.int (own_cnt (own_wc p2 ((p3 &&& (255 : Int32)) + (1 : Int32)))))]) := fun _ k => G11 _ (by
      show Steps p.tables e below (T11.setTop (mkF m 52 #[.val (.int p1), .val (.int p2), .val (.int p3), .val (.int (own_cnt p1)), .val (.int ((p3 &&& (255 : Int32)) + (1 : Int32)))] [(.int (own_cnt (own_wc p2 ((p3 &&& (255 : Int32)) + (1 : Int32)))))])) _
      refine XS.iload X11.here hx rfl (hb hby at_52) rfl ?_
      exact k)
  have G13 : Goes p e below s₁ (entryFrame m #[(.int p1), (.int p2), (.int p3)] maxLocals) T11 (mkF m 57 #[.val (.int p1), .val (.int p2), .val (.int p3), .val (.int (own_cnt p1)), .val (.int ((p3 &&& (255 : Int32)) + (1 : Int32)))] []) := fun _ k => G12 _ (by
      show Steps p.tables e below (T11.setTop (mkF m 54 #[.val (.int p1), .val (.int p2), .val (.int p3), .val (.int (own_cnt p1)), .val (.int ((p3 &&& (255 : Int32)) + (1 : Int32)))] [(.int ((p3 &&& (255 : Int32)) + (1 : Int32))), (.int (own_cnt (own_wc p2 ((p3 &&& (255 : Int32)) + (1 : Int32)))))])) _
      refine XS.icmpNo X11.here hx rfl (hb hby at_54) rfl (teq (own_l6 p2 p3)).2 ?_
      exact k)
  have G14 : Goes p e below s₁ (entryFrame m #[(.int p1), (.int p2), (.int p3)] maxLocals) T11 (mkF m 62 #[.val (.int p1), .val (.int p2), .val (.int p3), .val (.int (own_cnt p1)), .val (.int ((p3 &&& (255 : Int32)) + (1 : Int32)))] [(.int (1 : Int32))]) := fun _ k => G13 _ (by
      show Steps p.tables e below (T11.setTop (mkF m 57 #[.val (.int p1), .val (.int p2), .val (.int p3), .val (.int (own_cnt p1)), .val (.int ((p3 &&& (255 : Int32)) + (1 : Int32)))] [])) _
      refine XS.iconst X11.here hx rfl (hb hby at_57) ?_
      show Steps p.tables e below (T11.setTop (mkF m 58 #[.val (.int p1), .val (.int p2), .val (.int p3), .val (.int (own_cnt p1)), .val (.int ((p3 &&& (255 : Int32)) + (1 : Int32)))] [(.int (1 : Int32))])) _
      refine XS.goto X11.here hx rfl (pc0 := 58) (pc' := 62) rfl (hb hby at_58) (by decide) (by decide) ?_
      exact k)
  obtain ⟨fs, hr, hrun, hended, hW, hsame⟩ := X11.leave (v := some (.int (1 : Int32))) (fun h => by rw [Bd.returns] at h; cases h)
  refine ⟨_, _, G14 _ (retN X11 hx (t := .boolean) Bd.returns (by simp) (hb hby at_62) hr), hrun, hended, _, _, rfl, ?_, ⟨_, rfl⟩, hW, hsame.mono (by decide) (by decide)⟩
  show Q0 n0 _ T11.heap _
  exact ⟨rfl, N11⟩
set_option maxRecDepth 65536 in
set_option maxHeartbeats 40000000 in
theorem comes_1 {Post : Tables → Env → Array Value → State → Outcome → State → Prop} (hpost : ∀ tb e args s v u, (limb_1_1.after args s (.returned v) u = true ∧ limb_1_2.after args s (.returned v) u = true ∧ True) → FrameEnd s (.returned v) u (Jvm.fieldLocs frame_1_writes args s ++ Jvm.arrayLocs frame_1_arrays args s ++ Jvm.staticLocs frame_1_statics s) 0 0 → Post tb e args s (.returned v) u) :
    ArmFor flags0 classFile x code maxLocals ret World_1 tables_1 room_1 Calls_1 rest_1 Pre_1 Post := by
  intro l hfl _ _ p e ha hc hk s m args below hf hA hF happ hP
  obtain ⟨hcalls, hrest, hpre⟩ := hP
  obtain ⟨-, -, -, hnamed, -, -, -, hat⟩ := (Spec.applies_iff hf).mp happ
  obtain ⟨hg, hn⟩ := and_e (Cond.before_iff.mp (show (Jvm.Cond.and given_1 narrow_1).before args s = true from hpre))
  obtain ⟨gc, gr0⟩ := and_e hg
  obtain ⟨gk0, gr1⟩ := and_e gr0
  obtain ⟨gk1, gr2⟩ := and_e gr1
  obtain ⟨w0, w1, w2, rfl⟩ : ∃ w0 w1 w2 : Value, args = #[w0, w1, w2] := by
    have hs : args.size = 3 := by simpa [Cond.value, given_1] using gc
    obtain ⟨L⟩ := args
    match L, hs with
    | [w0, w1, w2], _ => exact ⟨w0, w1, w2, rfl⟩
  have hw := fun d (hd : d ∈ tables_1) => atoms_spec (ws := Jvm.Cond.code x code maxLocals ret :: tables_1) hat d (List.mem_cons_of_mem _ hd)
  obtain ⟨i0, ei0⟩ := is_v gk0
  obtain rfl : w0 = (.int i0) := Option.some.inj ei0
  obtain ⟨i1, ei1⟩ := is_v gk1
  obtain rfl : w1 = (.int i1) := Option.some.inj ei1
  obtain ⟨i2, ei2⟩ := is_v gr2
  obtain rfl : w2 = (.int i2) := Option.some.inj ei2
  obtain ⟨n, o, h1, h2, h3, _, L, rfl, ⟨rfl, N⟩, hq⟩ := rm0 l s _ hw tables_1 i0 i1 i2 s.heap s.heap.size (Nat.le_refl _) p e ha hc hk s m _ below hf ((Spec.applies_iff_loose hf).mp happ).1 ⟨rfl, State.Warmed39.refl s, rfl⟩ trivial
  refine ⟨n, _, h1, h2, h3, hpost _ _ _ _ _ _ ⟨Cond.after_iff.mpr rfl, Cond.after_iff.mpr (eq_i res_at (Term.int_eval (1)) rfl), trivial⟩ ⟨hq.1, hq.2.1, (hq.2.2.sift fun y hy => Or.inr (N y hy)).mono (by decide) (by decide)⟩⟩
theorem main_1_1 : Claimed_1_1 := comes_1 fun _ _ _ _ _ _ h hF => ⟨h.1, hF⟩
theorem main_1_2 : Claimed_1_2 := comes_1 fun _ _ _ _ _ _ h hF => ⟨h.2.1, hF⟩
end Jvm.Pilot.@@N@@
namespace Jvm.Pilot.@@N@@
open Jvm Jvm.ClassFile Sem Op Lib Jvm.Free Jvm.Stand Jvm.Pilot.@@N@@.Jvm.D
/-! MADE BY PROGRAM (witnessworld.py) out of the Statement's table words and the real class files: 9 classes; the members and pool entries that the words name. The judged class is class 1, her method 1. -/
namespace start1
open Jvm.ClassFile
def u (s : String) : CpInfo := .utf8 (stringToUtf16 s)
/-- a pool by its gaps: so many unusable entries, then the entry; so many at the end -/
def gap : Nat → List CpInfo → List CpInfo
  | 0, r => r
  | n + 1, r => .unusable :: gap n r
def poolList (es : List (Nat × CpInfo)) (last : Nat) : List CpInfo := es.foldr (fun e r => gap e.1 (e.2 :: r)) (gap last [])
def pool (es : List (Nat × CpInfo)) (last : Nat) : Array CpInfo := ⟨poolList es last⟩
def fileOf (pool : Array CpInfo) (this : Nat) (attrs : Array Attribute := #[]) (ms : Array MethodInfo := #[]) (fl : Nat := 33) (sup : Nat := 0) (ifs : Array Nat := #[]) (fds : Array FieldInfo := #[]) : ClassFile where
  minorVersion := 0
  majorVersion := 65
  constantPool := pool
  accessFlags := fl
  thisClass := this
  superClass := sup
  interfaces := ifs
  fields := fds
  methods := ms
  attributes := attrs
def plain (name : String) (sup : Option ClassId) : Class where
  name := name
  kind := .ordinary
  loader := none
  accessFlags := 33
  super := sup
  interfaces := #[]
  cf := none
  fields := #[]
  methods := #[]
  instanceTypes := #[]
  staticTypes := #[]
  resolved := #[]
  callSites := []
  init := .initialized
  statics := none
  mirror := none

def pool0 : Array CpInfo := pool [(5, u "<init>"), (0, u "()V"), (1, .class_ 10), (1, u "java/lang/Object")] 113

def k0m0 : Method := { name := "<init>", desc := "()V", sig := { parameters := [], returnType := none }, accessFlags := 1, code := none }
/-- java/lang/Object -/
def k0 : Class := { plain "java/lang/Object" none with
  accessFlags := 33
  interfaces := #[]
  cf := some (fileOf pool0 8 #[] #[{ accessFlags := 1, nameIndex := 5, descriptorIndex := 6, attributes := #[] }] 33 0 #[] #[])
  fields := #[]
  methods := #[k0m0]
  instanceTypes := #[]
  staticTypes := #[]
  resolved := Array.replicate 124 none
  statics := none }

def pool1 : Array CpInfo := pool [(2, .class_ 4), (1, u "java/lang/Object"), (0, u "<init>"), (0, u "()V"), (0, .methodref 8 9), (0, .class_ 10), (0, .nameAndType 11 12), (0, u "com/example/cardwire/cardwire/transport/apdu/StatusWord"), (0, u "count"), (0, u "(I)I"), (0, .methodref 8 14), (0, .nameAndType 15 16), (0, u "withCount"), (0, u "(II)I"), (0, .class_ 18), (0, u "com/example/cardwire/cardwire/transport/apdu/StatusWordCountPinLaw"), (2, u "law"), (0, u "(III)Z")] 3

def k1m0 : Method := { name := "<init>", desc := "()V", sig := { parameters := [], returnType := none }, accessFlags := 2, code := none }
def k1c1 : Code := { maxStack := 3, maxLocals := 5, code := code, exceptionTable := #[], attributes := #[] }
def k1m1 : Method := { name := "law", desc := "(III)Z", sig := { parameters := [.int, .int, .int], returnType := some .boolean }, accessFlags := 9, code := some k1c1 }
/-- com/example/cardwire/cardwire/transport/apdu/StatusWordCountPinLaw -/
def k1 : Class := { plain "com/example/cardwire/cardwire/transport/apdu/StatusWordCountPinLaw" (some 0) with
  accessFlags := 49
  interfaces := #[]
  cf := some (fileOf pool1 17 #[] #[{ accessFlags := 2, nameIndex := 5, descriptorIndex := 6, attributes := #[] }, { accessFlags := 9, nameIndex := 21, descriptorIndex := 22, attributes := #[] }] 49 2 #[] #[])
  fields := #[]
  methods := #[k1m0, k1m1]
  instanceTypes := #[]
  staticTypes := #[]
  resolved := Array.replicate 26 none
  statics := none }

def pool2 : Array CpInfo := pool [(2, .class_ 4), (1, u "java/lang/Object"), (0, u "<init>"), (0, u "()V"), (9, .class_ 17), (0, u "com/example/cardwire/cardwire/transport/apdu/StatusWord"), (8, u "(I)I"), (0, u "NO_ERROR"), (0, u "I"), (1, u "SW1_BYTES_AVAILABLE"), (1, u "SW1_WRONG_LE"), (1, u "WARNING_NO_INFORMATION"), (1, u "MORE_DATA_AVAILABLE"), (1, u "RESPONSE_DATA_AVAILABLE"), (1, u "MORE_DATA_EXPECTED"), (1, u "WRONG_LENGTH"), (1, u "LOGICAL_CHANNEL_NOT_SUPPORTED"), (1, u "CONDITIONS_NOT_SATISFIED"), (1, u "WRONG_DATA"), (1, u "FUNCTION_NOT_SUPPORTED"), (1, u "FILE_NOT_FOUND"), (1, u "NOT_ENOUGH_MEMORY"), (1, u "INCORRECT_P1_P2"), (1, u "REFERENCED_DATA_NOT_FOUND"), (1, u "INS_NOT_SUPPORTED"), (1, u "CLA_NOT_SUPPORTED"), (1, u "AUTHENTICATION_ERROR"), (1, u "SECURITY_SESSION_EXPIRED"), (5, u "withCount"), (0, u "(II)I"), (1, u "count")] 18

def k2m0 : Method := { name := "<init>", desc := "()V", sig := { parameters := [], returnType := none }, accessFlags := 2, code := none }
def k2c1 : Code := { maxStack := 3, maxLocals := 2, code := prog_108_method_4_code, exceptionTable := #[], attributes := #[] }
def k2m1 : Method := { name := "withCount", desc := "(II)I", sig := { parameters := [.int, .int], returnType := some .int }, accessFlags := 9, code := some k2c1 }
def k2c2 : Code := { maxStack := 2, maxLocals := 2, code := prog_108_method_5_code, exceptionTable := #[], attributes := #[] }
def k2m2 : Method := { name := "count", desc := "(I)I", sig := { parameters := [.int], returnType := some .int }, accessFlags := 9, code := some k2c2 }
/-- com/example/cardwire/cardwire/transport/apdu/StatusWord -/
def k2 : Class := { plain "com/example/cardwire/cardwire/transport/apdu/StatusWord" (some 0) with
  accessFlags := 49
  interfaces := #[]
  cf := some (fileOf pool2 16 #[] #[{ accessFlags := 2, nameIndex := 5, descriptorIndex := 6, attributes := #[] }, { accessFlags := 9, nameIndex := 72, descriptorIndex := 73, attributes := #[] }, { accessFlags := 9, nameIndex := 75, descriptorIndex := 26, attributes := #[] }] 49 2 #[] #[{ accessFlags := 25, nameIndex := 27, descriptorIndex := 28, attributes := #[] }, { accessFlags := 25, nameIndex := 30, descriptorIndex := 28, attributes := #[] }, { accessFlags := 25, nameIndex := 32, descriptorIndex := 28, attributes := #[] }, { accessFlags := 25, nameIndex := 34, descriptorIndex := 28, attributes := #[] }, { accessFlags := 25, nameIndex := 36, descriptorIndex := 28, attributes := #[] }, { accessFlags := 25, nameIndex := 38, descriptorIndex := 28, attributes := #[] }, { accessFlags := 25, nameIndex := 40, descriptorIndex := 28, attributes := #[] }, { accessFlags := 25, nameIndex := 42, descriptorIndex := 28, attributes := #[] }, { accessFlags := 25, nameIndex := 44, descriptorIndex := 28, attributes := #[] }, { accessFlags := 25, nameIndex := 46, descriptorIndex := 28, attributes := #[] }, { accessFlags := 25, nameIndex := 48, descriptorIndex := 28, attributes := #[] }, { accessFlags := 25, nameIndex := 50, descriptorIndex := 28, attributes := #[] }, { accessFlags := 25, nameIndex := 52, descriptorIndex := 28, attributes := #[] }, { accessFlags := 25, nameIndex := 54, descriptorIndex := 28, attributes := #[] }, { accessFlags := 25, nameIndex := 56, descriptorIndex := 28, attributes := #[] }, { accessFlags := 25, nameIndex := 58, descriptorIndex := 28, attributes := #[] }, { accessFlags := 25, nameIndex := 60, descriptorIndex := 28, attributes := #[] }, { accessFlags := 25, nameIndex := 62, descriptorIndex := 28, attributes := #[] }, { accessFlags := 25, nameIndex := 64, descriptorIndex := 28, attributes := #[] }, { accessFlags := 25, nameIndex := 66, descriptorIndex := 28, attributes := #[] }])
  fields := #[{ name := "NO_ERROR", type := .int, accessFlags := 25, slot := 0, constantValue := 0 }, { name := "SW1_BYTES_AVAILABLE", type := .int, accessFlags := 25, slot := 1, constantValue := 0 }, { name := "SW1_WRONG_LE", type := .int, accessFlags := 25, slot := 2, constantValue := 0 }, { name := "WARNING_NO_INFORMATION", type := .int, accessFlags := 25, slot := 3, constantValue := 0 }, { name := "MORE_DATA_AVAILABLE", type := .int, accessFlags := 25, slot := 4, constantValue := 0 }, { name := "RESPONSE_DATA_AVAILABLE", type := .int, accessFlags := 25, slot := 5, constantValue := 0 }, { name := "MORE_DATA_EXPECTED", type := .int, accessFlags := 25, slot := 6, constantValue := 0 }, { name := "WRONG_LENGTH", type := .int, accessFlags := 25, slot := 7, constantValue := 0 }, { name := "LOGICAL_CHANNEL_NOT_SUPPORTED", type := .int, accessFlags := 25, slot := 8, constantValue := 0 }, { name := "CONDITIONS_NOT_SATISFIED", type := .int, accessFlags := 25, slot := 9, constantValue := 0 }, { name := "WRONG_DATA", type := .int, accessFlags := 25, slot := 10, constantValue := 0 }, { name := "FUNCTION_NOT_SUPPORTED", type := .int, accessFlags := 25, slot := 11, constantValue := 0 }, { name := "FILE_NOT_FOUND", type := .int, accessFlags := 25, slot := 12, constantValue := 0 }, { name := "NOT_ENOUGH_MEMORY", type := .int, accessFlags := 25, slot := 13, constantValue := 0 }, { name := "INCORRECT_P1_P2", type := .int, accessFlags := 25, slot := 14, constantValue := 0 }, { name := "REFERENCED_DATA_NOT_FOUND", type := .int, accessFlags := 25, slot := 15, constantValue := 0 }, { name := "INS_NOT_SUPPORTED", type := .int, accessFlags := 25, slot := 16, constantValue := 0 }, { name := "CLA_NOT_SUPPORTED", type := .int, accessFlags := 25, slot := 17, constantValue := 0 }, { name := "AUTHENTICATION_ERROR", type := .int, accessFlags := 25, slot := 18, constantValue := 0 }, { name := "SECURITY_SESSION_EXPIRED", type := .int, accessFlags := 25, slot := 19, constantValue := 0 }]
  methods := #[k2m0, k2m1, k2m2]
  instanceTypes := #[]
  staticTypes := #[.int, .int, .int, .int, .int, .int, .int, .int, .int, .int, .int, .int, .int, .int, .int, .int, .int, .int, .int, .int]
  resolved := Array.replicate 94 none
  statics := none }

def pool3 : Array CpInfo := pool [(1, u "java/lang/Cloneable"), (0, .class_ 1), (0, u "java/lang/Object"), (0, .class_ 3)] 3

/-- java/lang/Cloneable -/
def k3 : Class := { plain "java/lang/Cloneable" (some 0) with
  accessFlags := 1537
  interfaces := #[]
  cf := some (fileOf pool3 2 #[] #[] 1537 4 #[] #[])
  fields := #[]
  methods := #[]
  instanceTypes := #[]
  staticTypes := #[]
  resolved := Array.replicate 8 none
  statics := none }

def pool4 : Array CpInfo := pool [(1, u "java/io/Serializable"), (0, .class_ 1), (0, u "java/lang/Object"), (0, .class_ 3)] 3

/-- java/io/Serializable -/
def k4 : Class := { plain "java/io/Serializable" (some 0) with
  accessFlags := 1537
  interfaces := #[]
  cf := some (fileOf pool4 2 #[] #[] 1537 4 #[] #[])
  fields := #[]
  methods := #[]
  instanceTypes := #[]
  staticTypes := #[]
  resolved := Array.replicate 8 none
  statics := none }

/-- the primitive byte -/
def k5 : Class := { plain "byte" none with kind := .primitive 'B', accessFlags := 0x411 }
/-- [B -/
def k6 : Class := { plain "[B" (some 0) with kind := .array 5 .byte, interfaces := #[3, 4], accessFlags := 1041 }

/-- the primitive int -/
def k7 : Class := { plain "int" none with kind := .primitive 'I', accessFlags := 0x411 }
/-- [I -/
def k8 : Class := { plain "[I" (some 0) with kind := .array 7 .int, interfaces := #[3, 4], accessFlags := 1041 }

def heap : Heap := #[]
def classes : Array Class := #[k0, k1, k2, k3, k4, k5, k6, k7, k8]
def interned : List (Array UInt16 × Addr) := []
def slotsUsed : Nat := 0
def theMethod : MethodId := ⟨1, 1⟩
def args0 : Array Value := #[.int 5, .int 6, .int 7]
def aboutOver (below : List Frame) : State where
  vm := { classes := classes, interned := interned.toArray }
  heap := heap
  slotsUsed := slotsUsed
  threads := #[{ frames := .invoking theMethod args0 :: below }]
def below0 : List Frame := [.native { method := ⟨0, 0⟩, args := #[] }]
def about1 : State := aboutOver below0
def p0 : Program := .bare "" "" ""
def e0 : Env := launch0.env 0 0 0
theorem w_frames : about1.frames = Frame.invoking theMethod args0 :: below0 := rfl
set_option maxRecDepth 65536 in
theorem w_args : argsFit about1.vm theMethod args0 = true := by decide +kernel
set_option maxRecDepth 65536 in
theorem w_heap : heapFits about1 = true := by decide +kernel
set_option maxRecDepth 65536 in
theorem w_runnable : about1.curStatus? = some .runnable := by decide +kernel
set_option maxRecDepth 65536 in
theorem w_alone : about1.alone = true := by decide +kernel
set_option maxRecDepth 65536 in
theorem w_named : about1.methodNamed? x = some theMethod := by decide +kernel
set_option maxRecDepth 65536 in
theorem w_hears : about1.hears theMethod below0 = true := by decide +kernel
set_option maxRecDepth 65536 in
theorem w_ripe : about1.ripe theMethod args0 below0 = true := by decide +kernel
theorem w_running : about1.status = .running := rfl
set_option maxRecDepth 65536 in
theorem w_room : about1.hasRoom e0.platform room_1 = true :=
  launch0.hasRoom_least _ room_1 (by decide +kernel) (by decide +kernel) (by decide +kernel) (by decide +kernel) (by decide +kernel) (by decide +kernel)
theorem allAtoms_all (ts : List Jvm.Cond) (a : Array Jvm.Value) (st : Jvm.State) : (allAtoms ts).before a st = ts.all (fun c => c.before a st) := by
  induction ts with
  | nil => rfl
  | cons c t ih =>
    show (Jvm.Cond.and c (allAtoms t)).before a st = _
    rw [Jvm.Cond.before_and, ih, List.all_cons]
def words1 : List Jvm.Cond := Jvm.Cond.code x code maxLocals ret :: tables_1
/-- a 'code' word, met by the world's own term for the bytes: nothing is compared byte by byte -/
theorem code_word {y : MethodName} {bytes : ByteArray} {mx : Nat} {rt : Option FieldType} {a : Array Value} {s : State} {m : MethodId} {meth : Method} {c : Code} (h1 : s.methodNamed? y = some m) (h2 : s.vm.method? m = some meth) (h3 : meth.code = some c) (h4 : c.code = bytes)
    (h5 : (c.maxLocals == mx && c.exceptionTable.isEmpty && decide (c.maxStack ≤ mostOperands) && decide (meth.sig.returnType = rt) && !meth.locks && decide (parseMethodDescriptor y.desc = some meth.sig)) = true) : (Jvm.Cond.code y bytes mx rt).before a s = true := by
  simp only [Bool.and_eq_true, beq_iff_eq, Bool.not_eq_true', decide_eq_true_eq] at h5
  obtain ⟨⟨⟨⟨⟨g1, g2⟩, g3⟩, g4⟩, g5⟩, g6⟩ := h5
  simp [Cond.before, Cond.holds, Cond.value, h1, h2, h3, h4, g1, g2, g3, g4, g5, g6]
def isCode : Jvm.Cond → Bool
  | .code _ _ _ _ => true
  | _ => false
theorem all_split {L : List Jvm.Cond} {P : Jvm.Cond → Bool} (h1 : L.all (fun c => isCode c || P c) = true) (h2 : ∀ c ∈ L.filter isCode, P c = true) : L.all P = true := by
  refine List.all_eq_true.mpr fun c hc => ?_
  have h := List.all_eq_true.mp h1 c hc
  rcases Bool.eq_false_or_eq_true (isCode c) with hi | hi
  · exact h2 c (List.mem_filter.mpr ⟨hc, hi⟩)
  · simpa [hi] using h
set_option maxRecDepth 65536 in
theorem w_c0 : (Jvm.Cond.code x code maxLocals ret).before args0 about1 = true := code_word (m := ⟨1, 1⟩) (meth := k1m1) (c := k1c1) (by decide +kernel) rfl rfl rfl (by decide +kernel)
set_option maxRecDepth 65536 in
theorem w_c1 : (Jvm.Cond.code ({ cls := "com/example/cardwire/cardwire/transport/apdu/StatusWord", name := "count", desc := "(I)I" } : Jvm.MethodName) prog_108_method_5_code (2 : Nat) (Option.some Jvm.ClassFile.FieldType.int)).before args0 about1 = true := code_word (m := ⟨2, 2⟩) (meth := k2m2) (c := k2c2) (by decide +kernel) rfl rfl rfl (by decide +kernel)
set_option maxRecDepth 65536 in
theorem w_c2 : (Jvm.Cond.code ({ cls := "com/example/cardwire/cardwire/transport/apdu/StatusWord", name := "withCount", desc := "(II)I" } : Jvm.MethodName) prog_108_method_4_code (2 : Nat) (Option.some Jvm.ClassFile.FieldType.int)).before args0 about1 = true := code_word (m := ⟨2, 1⟩) (meth := k2m1) (c := k2c1) (by decide +kernel) rfl rfl rfl (by decide +kernel)
def codes1 : List Jvm.Cond := [Jvm.Cond.code x code maxLocals ret, Jvm.Cond.code ({ cls := "com/example/cardwire/cardwire/transport/apdu/StatusWord", name := "count", desc := "(I)I" } : Jvm.MethodName) prog_108_method_5_code (2 : Nat) (Option.some Jvm.ClassFile.FieldType.int), Jvm.Cond.code ({ cls := "com/example/cardwire/cardwire/transport/apdu/StatusWord", name := "withCount", desc := "(II)I" } : Jvm.MethodName) prog_108_method_4_code (2 : Nat) (Option.some Jvm.ClassFile.FieldType.int)]
set_option maxRecDepth 65536 in
theorem codes_eq : words1.filter isCode = codes1 := rfl
theorem w_codes : ∀ c ∈ words1.filter isCode, c.before args0 about1 = true := by
  rw [codes_eq]
  intro c hc
  simp only [codes1, List.mem_cons, List.not_mem_nil, or_false] at hc
  rcases hc with rfl | rfl | rfl
  · exact w_c0
  · exact w_c1
  · exact w_c2
set_option maxRecDepth 65536 in
theorem w_t1 : words1.all (fun c => isCode c || c.before args0 about1) = true := by decide +kernel
theorem w_tables : (allAtoms (Jvm.Cond.code x code maxLocals ret :: tables_1)).before args0 about1 = true := by
  rw [allAtoms_all]
  show words1.all (fun c => c.before args0 about1) = true
  refine all_split ?_ w_codes
  rw [w_t1]
set_option maxRecDepth 65536 in
theorem w_case : (Jvm.Cond.and given_1 narrow_1).before args0 about1 = true := by decide +kernel
theorem w_applies : (headSpec (Jvm.Cond.code x code maxLocals ret :: tables_1) room_1).applies x e0.platform about1 = true :=
  (Spec.applies_iff w_frames).mpr ⟨w_running, w_runnable, w_alone, w_named, w_hears, w_ripe, w_room, w_tables⟩
theorem atStart : AtStart classFile x code maxLocals ret World_1 tables_1 room_1 Calls_1 rest_1 Pre_1 launch0 p0 e0 about1 theMethod args0 below0 :=
  ⟨lists_1, trivial, launch0.admits_env _ _ _, launch0.least_env, fairChoices_fair.cas, fairChoices_fair.clock, w_frames, w_args, w_heap, w_applies, trivial, trivial, w_case⟩
end start1
theorem witness_1 : WitnessClaimed_1 := ⟨start1.p0, start1.e0, start1.about1, start1.theMethod, start1.args0, start1.below0, start1.atStart⟩
end Jvm.Pilot.@@N@@
