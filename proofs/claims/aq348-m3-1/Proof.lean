import JvmDerived
import JvmDerived.Pilot.@@N@@Statement
import JvmDerived.Pilot.@@N@@Code
set_option linter.unusedVariables false
set_option linter.unusedSimpArgs false
namespace Jvm.RoadKit
open Sem ClassFile Op Lib Jvm.Stand Jvm.Free Jvm.LawKit
section New
variable {p : Program} {l : Launch} {e : Env} {R : Room} {s : State} {m : MethodId} {args : Array Value} {below : List Frame} {meth : Method} {c : Code} {T : State} {locs : List Loc} {cells slots : Nat}
theorem retI (X : Stand p l e R s m args below meth c T locs cells slots) (hx : p.tables.exec = Jvm.exec) {pc : Nat} {Ls : Array Slot} {z : Int32} {rest : List Value} (hret : meth.sig.returnType = some .int) (hd : decode c.code pc = .ok (.ireturn, 1)) {fs : List Frame}
    (hl : ∀ (f : JFrame) (acts : List Action), f.method = m → f.locked = none → f.entered = [] → (doReturn e (T.setTop f) acts (some (.int z))).1 = T.setFrames fs) : Steps p.tables e below (T.setTop (mkF m pc Ls (.int z :: rest))) (T.setFrames fs) := by
  have hm' : T.vm.method? m = some meth := X.method'
  have hn : narrow .int (.int z) = .int z := rfl
  show Steps p.tables e below (T.setTop { method := m, pc := pc, locals := Ls, stack := _ :: rest, locked := none }) _
  jvm_step X.here [X.here.top, hx, hd, hm', hret, hn]
  first | (intro acts; rw [hl _ acts rfl rfl rfl]) | rw [hl _ _ rfl rfl rfl]
  exact Steps.refl _
end New
end Jvm.RoadKit
namespace Jvm.Pilot.@@N@@
open Jvm Jvm.ClassFile Sem Op Lib Jvm.Free Jvm.Stand Jvm.LawKit Jvm.RoadKit Bundle Jvm.Pilot.@@N@@.Jvm.D
theorem own_mask (x : Int64) : 0 ≤ (x &&& (9223372036854775807 : Int64)).toInt := by
  have e : (x &&& (9223372036854775807 : Int64)).toInt = (x.toBitVec &&& 9223372036854775807#64).toInt := rfl
  have n1 : (x.toBitVec &&& 9223372036854775807#64).toNat = x.toBitVec.toNat % 2 ^ 63 := by
    rw [BitVec.toNat_and, show (9223372036854775807#64).toNat = 2 ^ 63 - 1 from by decide, Nat.and_two_pow_sub_one_eq_mod]
  rw [e, BitVec.toInt_eq_toNat_cond, n1]
  have := Nat.mod_lt x.toBitVec.toNat (show 0 < 2 ^ 63 by decide)
  split <;> omega
theorem own_half : (4611686018427387903 : Int64).toInt = 4611686018427387903 := by decide
theorem own_add {x y : Int64} (h1 : -9223372036854775808 ≤ x.toInt + y.toInt) (h2 : x.toInt + y.toInt < 9223372036854775808) : (x + y).toInt = x.toInt + y.toInt := by
  rw [Int64.toInt_add]; exact Int.bmod_eq_of_le (by omega) (by omega)
theorem own_sub {x y : Int64} (h1 : -9223372036854775808 ≤ x.toInt - y.toInt) (h2 : x.toInt - y.toInt < 9223372036854775808) : (x - y).toInt = x.toInt - y.toInt := by
  rw [Int64.toInt_sub]; exact Int.bmod_eq_of_le (by omega) (by omega)
def own_sum (a b : Int64) : Int64 := if 0 < lcmpW a ((4611686018427387903 : Int64) - b) then (9223372036854775807 : Int64) else a + b
theorem own_sub_half {b : Int64} (hb : 0 ≤ b.toInt) : ((4611686018427387903 : Int64) - b).toInt = 4611686018427387903 - b.toInt := by
  have r := rng64 b
  rw [own_sub (by rw [own_half]; omega) (by rw [own_half]; omega), own_half]
theorem own_big {a b : Int64} (ha : 0 ≤ a.toInt) (hb : 0 ≤ b.toInt) (h : 4611686018427387903 < a.toInt + b.toInt) : own_sum a b = (9223372036854775807 : Int64) := by
  rw [own_sum, if_pos]
  rw [lw_gt, Int64.lt_iff_toInt_lt, own_sub_half hb]
  omega
theorem own_small {a b : Int64} (ha : 0 ≤ a.toInt) (hb : 0 ≤ b.toInt) (h : a.toInt + b.toInt ≤ 4611686018427387903) : own_sum a b = a + b := by
  rw [own_sum, if_neg]
  rw [lw_gt, Int64.lt_iff_toInt_lt, own_sub_half hb]
  omega
theorem own_l1 {a b : Int64} (ha : 0 ≤ a.toInt) (hb : 0 ≤ b.toInt) (h : 0 < lcmpW a (4611686018427387903 : Int64)) : own_sum a b = (9223372036854775807 : Int64) := by
  rw [lw_gt, Int64.lt_iff_toInt_lt, own_half] at h
  exact own_big ha hb (by omega)
theorem own_l2 {a b : Int64} (ha : 0 ≤ a.toInt) (hb : 0 ≤ b.toInt) (h : 0 < lcmpW b (4611686018427387903 : Int64)) : own_sum a b = (9223372036854775807 : Int64) := by
  rw [lw_gt, Int64.lt_iff_toInt_lt, own_half] at h
  exact own_big ha hb (by omega)
theorem own_sumI {a b : Int64} (h1 : ¬ 0 < lcmpW a (4611686018427387903 : Int64)) (h2 : ¬ 0 < lcmpW b (4611686018427387903 : Int64)) (ha : 0 ≤ a.toInt) (hb : 0 ≤ b.toInt) : (a + b).toInt = a.toInt + b.toInt := by
  rw [lw_gt, Int64.lt_iff_toInt_lt, own_half] at h1 h2
  exact own_add (by omega) (by omega)
theorem own_l3 {a b : Int64} (ha : 0 ≤ a.toInt) (hb : 0 ≤ b.toInt) (h1 : ¬ 0 < lcmpW a (4611686018427387903 : Int64)) (h2 : ¬ 0 < lcmpW b (4611686018427387903 : Int64)) (h3 : 0 < lcmpW (a + b) (4611686018427387903 : Int64)) : own_sum a b = (9223372036854775807 : Int64) := by
  rw [lw_gt, Int64.lt_iff_toInt_lt, own_half, own_sumI h1 h2 ha hb] at h3
  exact own_big ha hb h3
theorem own_l4 {a b : Int64} (ha : 0 ≤ a.toInt) (hb : 0 ≤ b.toInt) (h1 : ¬ 0 < lcmpW a (4611686018427387903 : Int64)) (h2 : ¬ 0 < lcmpW b (4611686018427387903 : Int64)) (h3 : ¬ 0 < lcmpW (a + b) (4611686018427387903 : Int64)) : own_sum a b = a + b := by
  rw [lw_gt, Int64.lt_iff_toInt_lt, own_half, own_sumI h1 h2 ha hb] at h3
  exact own_small ha hb (by omega)
theorem own_pn0 : plainName "com/example/clariq/clariq/operators/RegexTerm" = true := by first | (simp [plainName, overriddenIn]; done) | decide +kernel
theorem own_pd0 : parseMethodDescriptor "(JJ)J" = some ⟨[.long, .long], some .long⟩ := by decide +kernel
theorem own_pn1 : plainName "com/example/clariq/clariq/operators/RegexTermSumPinLaw" = true := by first | (simp [plainName, overriddenIn]; done) | decide +kernel
def Q1 (q1 q2 : Int64) (h0 : Heap) (n0 : Nat) (v : Option Value) (h : Heap) (L : List Loc) : Prop := v = some (.long (own_sum q1 q2)) ∧ Fr n0 L ∧ h = h0
def Q0 (n0 : Nat) (v : Option Value) (h : Heap) (L : List Loc) : Prop := v = some (.int 1) ∧ Fr n0 L
theorem own_d1_0 : decode prog_133_method_2_code 0 = .ok (.lload_n 0, 1) := by decide +kernel
theorem own_d1_1 : decode prog_133_method_2_code 1 = .ok (.ldc2_w 5, 3) := by decide +kernel
theorem own_d1_4 : decode prog_133_method_2_code 4 = .ok (.lload_n 2, 1) := by decide +kernel
theorem own_d1_5 : decode prog_133_method_2_code 5 = .ok (.lsub, 1) := by decide +kernel
theorem own_d1_6 : decode prog_133_method_2_code 6 = .ok (.lcmp, 1) := by decide +kernel
theorem own_d1_7 : decode prog_133_method_2_code 7 = .ok (.ifCond .le 9, 3) := by decide +kernel
theorem own_d1_10 : decode prog_133_method_2_code 10 = .ok (.ldc2_w 7, 3) := by decide +kernel
theorem own_d1_13 : decode prog_133_method_2_code 13 = .ok (.goto 6, 3) := by decide +kernel
theorem own_d1_16 : decode prog_133_method_2_code 16 = .ok (.lload_n 0, 1) := by decide +kernel
theorem own_d1_17 : decode prog_133_method_2_code 17 = .ok (.lload_n 2, 1) := by decide +kernel
theorem own_d1_18 : decode prog_133_method_2_code 18 = .ok (.ladd, 1) := by decide +kernel
theorem own_d1_19 : decode prog_133_method_2_code 19 = .ok (.lreturn, 1) := by decide +kernel
set_option maxRecDepth 65536 in
set_option maxHeartbeats 40000000 in
theorem rm1 (l : Launch) (Z : State) (a0 : Array Value) (hw : ∀ d ∈ tables_1, d.before a0 Z = true) (ws : List Jvm.Cond) (q1 q2 : Int64) (h0 : Heap) (n0 : Nat) (Z0 : n0 ≤ h0.size)  :
    MetFree l (⟨"com/example/clariq/clariq/operators/RegexTerm", "sum", "(JJ)J"⟩ : MethodName) (head1 (Jvm.Cond.code (⟨"com/example/clariq/clariq/operators/RegexTerm", "sum", "(JJ)J"⟩ : MethodName) prog_133_method_2_code 4 (some .long) :: ws) ({ frames := 0, cells := 0, slots := 0, locals := 0 } : Room)) (fun a U => a = #[(.long q1), (.long q2)] ∧ Z.Warmed39 U.vm ∧ U.heap = h0) (fun _ _ _ _ _ => True) (fun _ U oc U' => ∃ v L, oc = .returned v ∧ Q1 q1 q2 h0 n0 v U'.heap L ∧ FrameEnd U oc U' L ({ frames := 0, cells := 0, slots := 0, locals := 0 } : Room).cells ({ frames := 0, cells := 0, slots := 0, locals := 0 } : Room).slots) := by
  refine MetFree.of_bodySF (plainFor_of_name own_pn0) hisR ?_
  intro p e s m args below meth c s₁ Bd hml0 hP hK
  obtain ⟨rfl, hZ, hh⟩ := hP
  have hx := Bd.exec
  have hby := Bd.bytes
  have hml : c.maxLocals = 4 := hml0
  have hown : s.vm.findClass "com/example/clariq/clariq/operators/RegexTerm" = some m.cls := findClass_of_methodNamed Bd.named
  have hnm := (name_of_methodNamed Bd.named Bd.method).1
  have X0 : Stand p l e ({ frames := 0, cells := 0, slots := 0, locals := 0 } : Room) s m #[(.long q1), (.long q2)] below meth c s₁ [] 0 0 := Stand.of_body Bd
  have e0 : s₁.heap = h0 := by rw [← hh, Bd.state]; rfl
  have N0 := Fr.nil n0
  have G0 : Goes p e below s₁ (entryFrame m #[(.long q1), (.long q2)] 4) s₁ (mkF m 0 #[.val (.long q1), .second, .val (.long q2), .second] []) := fun _ k => castTop (by first | (simp [entryFrame, mkF, argsToLocals, Value.category]; done) | rfl : (entryFrame m #[(.long q1), (.long q2)] 4) = mkF m 0 #[.val (.long q1), .second, .val (.long q2), .second] []) k
  have G1 : Goes p e below s₁ (entryFrame m #[(.long q1), (.long q2)] 4) s₁ (mkF m 7 #[.val (.long q1), .second, .val (.long q2), .second] [(.int (lcmpW q1 ((4611686018427387903 : Int64) - q2)))]) := fun _ k => G0 _ (by
      show Steps p.tables e below (s₁.setTop (mkF m 0 #[.val (.long q1), .second, .val (.long q2), .second] [])) _
      refine XS.lloadN X0.here hx rfl (hb hby own_d1_0) rfl ?_
      show Steps p.tables e below (s₁.setTop (mkF m 1 #[.val (.long q1), .second, .val (.long q2), .second] [(.long q1)])) _
      refine Jvm.Stand.ldc2J X0 hx hown (mvT hZ (hw _ (List.mem_of_getElem? (i := 6) rfl))) (g := (mkF m 1 #[.val (.long q1), .second, .val (.long q2), .second] [(.long q1)])) rfl (hb hby own_d1_1) ?_
      show Steps p.tables e below (s₁.setTop (mkF m 4 #[.val (.long q1), .second, .val (.long q2), .second] [(.long (4611686018427387903 : Int64)), (.long q1)])) _
      refine XS.lloadN X0.here hx rfl (hb hby own_d1_4) rfl ?_
      show Steps p.tables e below (s₁.setTop (mkF m 5 #[.val (.long q1), .second, .val (.long q2), .second] [(.long q2), (.long (4611686018427387903 : Int64)), (.long q1)])) _
      refine XS.lsub X0.here hx rfl (hb hby own_d1_5) rfl ?_
      show Steps p.tables e below (s₁.setTop (mkF m 6 #[.val (.long q1), .second, .val (.long q2), .second] [(.long ((4611686018427387903 : Int64) - q2)), (.long q1)])) _
      refine XS.lcmp X0.here hx rfl (hb hby own_d1_6) rfl ?_
      exact k)
  by_cases h1 : (0 : Int32) < (lcmpW q1 ((4611686018427387903 : Int64) - q2))
  · have G2 : Goes p e below s₁ (entryFrame m #[(.long q1), (.long q2)] 4) s₁ (mkF m 10 #[.val (.long q1), .second, .val (.long q2), .second] []) := fun _ k => G1 _ (by
        show Steps p.tables e below (s₁.setTop (mkF m 7 #[.val (.long q1), .second, .val (.long q2), .second] [(.int (lcmpW q1 ((4611686018427387903 : Int64) - q2)))])) _
        refine XS.ifNo X0.here hx rfl (hb hby own_d1_7) rfl ((if0 _ _).trans (tlt h1).2.2.2) ?_
        exact k)
    have G3 : Goes p e below s₁ (entryFrame m #[(.long q1), (.long q2)] 4) s₁ (mkF m 19 #[.val (.long q1), .second, .val (.long q2), .second] [(.long (9223372036854775807 : Int64))]) := fun _ k => G2 _ (by
        show Steps p.tables e below (s₁.setTop (mkF m 10 #[.val (.long q1), .second, .val (.long q2), .second] [])) _
        refine Jvm.Stand.ldc2J X0 hx hown (mvT hZ (hw _ (List.mem_of_getElem? (i := 7) rfl))) (g := (mkF m 10 #[.val (.long q1), .second, .val (.long q2), .second] [])) rfl (hb hby own_d1_10) ?_
        show Steps p.tables e below (s₁.setTop (mkF m 13 #[.val (.long q1), .second, .val (.long q2), .second] [(.long (9223372036854775807 : Int64))])) _
        refine XS.goto X0.here hx rfl (pc0 := 13) (pc' := 19) rfl (hb hby own_d1_13) (by decide) (by decide) ?_
        exact k)
    obtain ⟨fs, hr, hrun, hended, hW, hsame⟩ := X0.leave (v := some (.long (9223372036854775807 : Int64))) (fun h => by rw [Bd.returns] at h; cases h)
    refine ⟨_, _, G3 _ (by
        show Steps p.tables e below (s₁.setTop (mkF m 19 #[.val (.long q1), .second, .val (.long q2), .second] [(.long (9223372036854775807 : Int64))])) _
        jvm_step X0.here [X0.here.top, hx, (hb hby own_d1_19), X0.method', Bd.returns, narrow]
        first | (intro acts; rw [hr _ acts rfl rfl rfl]) | rw [hr _ _ rfl rfl rfl]
        exact Steps.refl _), hrun, hended, _, _, rfl, ?_, ⟨_, rfl⟩, hW, hsame.mono (by decide) (by decide)⟩
    show Q1 q1 q2 h0 n0 _ s₁.heap _
    rw [e0]
    exact ⟨by rw [own_sum, if_pos h1], N0, rfl⟩
  · have G4 : Goes p e below s₁ (entryFrame m #[(.long q1), (.long q2)] 4) s₁ (mkF m 16 #[.val (.long q1), .second, .val (.long q2), .second] []) := fun _ k => G1 _ (by
        show Steps p.tables e below (s₁.setTop (mkF m 7 #[.val (.long q1), .second, .val (.long q2), .second] [(.int (lcmpW q1 ((4611686018427387903 : Int64) - q2)))])) _
        refine XS.ifYes X0.here hx rfl (pc0 := 7) (pc' := 16) rfl (hb hby own_d1_7) rfl ((if0 _ _).trans (flt h1).2.2.2) (by decide) (by decide) ?_
        exact k)
    have G5 : Goes p e below s₁ (entryFrame m #[(.long q1), (.long q2)] 4) s₁ (mkF m 19 #[.val (.long q1), .second, .val (.long q2), .second] [(.long (q1 + q2))]) := fun _ k => G4 _ (by
        show Steps p.tables e below (s₁.setTop (mkF m 16 #[.val (.long q1), .second, .val (.long q2), .second] [])) _
        refine XS.lloadN X0.here hx rfl (hb hby own_d1_16) rfl ?_
        show Steps p.tables e below (s₁.setTop (mkF m 17 #[.val (.long q1), .second, .val (.long q2), .second] [(.long q1)])) _
        refine XS.lloadN X0.here hx rfl (hb hby own_d1_17) rfl ?_
        show Steps p.tables e below (s₁.setTop (mkF m 18 #[.val (.long q1), .second, .val (.long q2), .second] [(.long q2), (.long q1)])) _
        refine XS.ladd X0.here hx rfl (hb hby own_d1_18) rfl ?_
        exact k)
    obtain ⟨fs, hr, hrun, hended, hW, hsame⟩ := X0.leave (v := some (.long (q1 + q2))) (fun h => by rw [Bd.returns] at h; cases h)
    refine ⟨_, _, G5 _ (by
        show Steps p.tables e below (s₁.setTop (mkF m 19 #[.val (.long q1), .second, .val (.long q2), .second] [(.long (q1 + q2))])) _
        jvm_step X0.here [X0.here.top, hx, (hb hby own_d1_19), X0.method', Bd.returns, narrow]
        first | (intro acts; rw [hr _ acts rfl rfl rfl]) | rw [hr _ _ rfl rfl rfl]
        exact Steps.refl _), hrun, hended, _, _, rfl, ?_, ⟨_, rfl⟩, hW, hsame.mono (by decide) (by decide)⟩
    show Q1 q1 q2 h0 n0 _ s₁.heap _
    rw [e0]
    exact ⟨by rw [own_sum, if_neg h1], N0, rfl⟩
set_option maxRecDepth 65536 in
set_option maxHeartbeats 40000000 in
theorem rm0 (l : Launch) (Z : State) (a0 : Array Value) (hw : ∀ d ∈ tables_1, d.before a0 Z = true) (ws : List Jvm.Cond) (q1 q2 : Int64) (h0 : Heap) (n0 : Nat) (Z0 : n0 ≤ h0.size)  :
    MetFree l x (head1 (Jvm.Cond.code x code maxLocals ret :: ws) room_1) (fun a U => a = #[(.long q1), (.long q2)] ∧ Z.Warmed39 U.vm ∧ U.heap = h0) (fun _ _ _ _ _ => True) (fun _ U oc U' => ∃ v L, oc = .returned v ∧ Q0 n0 v U'.heap L ∧ FrameEnd U oc U' L 0 0) := by
  refine MetFree.of_bodySF (plainFor_of_name own_pn1) hisR ?_
  intro p e s m args below meth c s₁ Bd hml0 hP hK
  obtain ⟨rfl, hZ, hh⟩ := hP
  have hx := Bd.exec
  have hby := Bd.bytes
  have hml : c.maxLocals = 14 := hml0
  have hown : s.vm.findClass "com/example/clariq/clariq/operators/RegexTermSumPinLaw" = some m.cls := findClass_of_methodNamed Bd.named
  have hnm := (name_of_methodNamed Bd.named Bd.method).1
  have X0 : Stand p l e room_1 s m #[(.long q1), (.long q2)] below meth c s₁ [] 0 0 := Stand.of_body Bd
  have e0 : s₁.heap = h0 := by rw [← hh, Bd.state]; rfl
  have N0 := Fr.nil n0
  have G0 : Goes p e below s₁ (entryFrame m #[(.long q1), (.long q2)] maxLocals) s₁ (mkF m 0 #[.val (.long q1), .second, .val (.long q2), .second, .unset, .unset, .unset, .unset, .unset, .unset, .unset, .unset, .unset, .unset] []) := fun _ k => castTop (by first | (simp [entryFrame, mkF, argsToLocals, Value.category, maxLocals]; done) | rfl : (entryFrame m #[(.long q1), (.long q2)] maxLocals) = mkF m 0 #[.val (.long q1), .second, .val (.long q2), .second, .unset, .unset, .unset, .unset, .unset, .unset, .unset, .unset, .unset, .unset] []) k
  have G1 : Goes p e below s₁ (entryFrame m #[(.long q1), (.long q2)] maxLocals) s₁ (mkF m 14 #[.val (.long q1), .second, .val (.long q2), .second, .val (.long (q1 &&& (9223372036854775807 : Int64))), .second, .val (.long (q2 &&& (9223372036854775807 : Int64))), .second, .unset, .unset, .unset, .unset, .unset, .unset] []) := fun _ k => G0 _ (by
      show Steps p.tables e below (s₁.setTop (mkF m 0 #[.val (.long q1), .second, .val (.long q2), .second, .unset, .unset, .unset, .unset, .unset, .unset, .unset, .unset, .unset, .unset] [])) _
      refine XS.lloadN X0.here hx rfl (hb hby at_0) rfl ?_
      show Steps p.tables e below (s₁.setTop (mkF m 1 #[.val (.long q1), .second, .val (.long q2), .second, .unset, .unset, .unset, .unset, .unset, .unset, .unset, .unset, .unset, .unset] [(.long q1)])) _
      refine Jvm.Stand.ldc2J X0 hx hown (mvT hZ (hw _ (List.mem_of_getElem? (i := 0) rfl))) (g := (mkF m 1 #[.val (.long q1), .second, .val (.long q2), .second, .unset, .unset, .unset, .unset, .unset, .unset, .unset, .unset, .unset, .unset] [(.long q1)])) rfl (hb hby at_1) ?_
      show Steps p.tables e below (s₁.setTop (mkF m 4 #[.val (.long q1), .second, .val (.long q2), .second, .unset, .unset, .unset, .unset, .unset, .unset, .unset, .unset, .unset, .unset] [(.long (9223372036854775807 : Int64)), (.long q1)])) _
      refine XS.land X0.here hx rfl (hb hby at_4) rfl ?_
      show Steps p.tables e below (s₁.setTop (mkF m 5 #[.val (.long q1), .second, .val (.long q2), .second, .unset, .unset, .unset, .unset, .unset, .unset, .unset, .unset, .unset, .unset] [(.long (q1 &&& (9223372036854775807 : Int64)))])) _
      refine XS.lstore X0.here hx rfl (hb hby at_5) rfl (l' := #[.val (.long q1), .second, .val (.long q2), .second, .val (.long (q1 &&& (9223372036854775807 : Int64))), .second, .unset, .unset, .unset, .unset, .unset, .unset, .unset, .unset]) rfl ?_
      show Steps p.tables e below (s₁.setTop (mkF m 7 #[.val (.long q1), .second, .val (.long q2), .second, .val (.long (q1 &&& (9223372036854775807 : Int64))), .second, .unset, .unset, .unset, .unset, .unset, .unset, .unset, .unset] [])) _
      refine XS.lloadN X0.here hx rfl (hb hby at_7) rfl ?_
      show Steps p.tables e below (s₁.setTop (mkF m 8 #[.val (.long q1), .second, .val (.long q2), .second, .val (.long (q1 &&& (9223372036854775807 : Int64))), .second, .unset, .unset, .unset, .unset, .unset, .unset, .unset, .unset] [(.long q2)])) _
      refine Jvm.Stand.ldc2J X0 hx hown (mvT hZ (hw _ (List.mem_of_getElem? (i := 0) rfl))) (g := (mkF m 8 #[.val (.long q1), .second, .val (.long q2), .second, .val (.long (q1 &&& (9223372036854775807 : Int64))), .second, .unset, .unset, .unset, .unset, .unset, .unset, .unset, .unset] [(.long q2)])) rfl (hb hby at_8) ?_
      show Steps p.tables e below (s₁.setTop (mkF m 11 #[.val (.long q1), .second, .val (.long q2), .second, .val (.long (q1 &&& (9223372036854775807 : Int64))), .second, .unset, .unset, .unset, .unset, .unset, .unset, .unset, .unset] [(.long (9223372036854775807 : Int64)), (.long q2)])) _
      refine XS.land X0.here hx rfl (hb hby at_11) rfl ?_
      show Steps p.tables e below (s₁.setTop (mkF m 12 #[.val (.long q1), .second, .val (.long q2), .second, .val (.long (q1 &&& (9223372036854775807 : Int64))), .second, .unset, .unset, .unset, .unset, .unset, .unset, .unset, .unset] [(.long (q2 &&& (9223372036854775807 : Int64)))])) _
      refine XS.lstore X0.here hx rfl (hb hby at_12) rfl (l' := #[.val (.long q1), .second, .val (.long q2), .second, .val (.long (q1 &&& (9223372036854775807 : Int64))), .second, .val (.long (q2 &&& (9223372036854775807 : Int64))), .second, .unset, .unset, .unset, .unset, .unset, .unset]) rfl ?_
      exact k)
  obtain ⟨a, ea, na⟩ : ∃ z : Int64, z = (q1 &&& (9223372036854775807 : Int64)) ∧ 0 ≤ z.toInt := ⟨_, rfl, own_mask _⟩
  rw [← ea] at G1
  obtain ⟨b, eb, nb⟩ : ∃ z : Int64, z = (q2 &&& (9223372036854775807 : Int64)) ∧ 0 ≤ z.toInt := ⟨_, rfl, own_mask _⟩
  rw [← eb] at G1
  have G2 : Goes p e below s₁ (entryFrame m #[(.long q1), (.long q2)] maxLocals) s₁ (mkF m 24 #[.val (.long q1), .second, .val (.long q2), .second, .val (.long a), .second, .val (.long b), .second, .val (.long (4611686018427387903 : Int64)), .second, .unset, .unset, .unset, .unset] [(.int (lcmpW a (4611686018427387903 : Int64)))]) := fun _ k => G1 _ (by
      show Steps p.tables e below (s₁.setTop (mkF m 14 #[.val (.long q1), .second, .val (.long q2), .second, .val (.long a), .second, .val (.long b), .second, .unset, .unset, .unset, .unset, .unset, .unset] [])) _
      refine Jvm.Stand.ldc2J X0 hx hown (mvT hZ (hw _ (List.mem_of_getElem? (i := 1) rfl))) (g := (mkF m 14 #[.val (.long q1), .second, .val (.long q2), .second, .val (.long a), .second, .val (.long b), .second, .unset, .unset, .unset, .unset, .unset, .unset] [])) rfl (hb hby at_14) ?_
      show Steps p.tables e below (s₁.setTop (mkF m 17 #[.val (.long q1), .second, .val (.long q2), .second, .val (.long a), .second, .val (.long b), .second, .unset, .unset, .unset, .unset, .unset, .unset] [(.long (4611686018427387903 : Int64))])) _
      refine XS.lstore X0.here hx rfl (hb hby at_17) rfl (l' := #[.val (.long q1), .second, .val (.long q2), .second, .val (.long a), .second, .val (.long b), .second, .val (.long (4611686018427387903 : Int64)), .second, .unset, .unset, .unset, .unset]) rfl ?_
      show Steps p.tables e below (s₁.setTop (mkF m 19 #[.val (.long q1), .second, .val (.long q2), .second, .val (.long a), .second, .val (.long b), .second, .val (.long (4611686018427387903 : Int64)), .second, .unset, .unset, .unset, .unset] [])) _
      refine XS.lload X0.here hx rfl (hb hby at_19) rfl ?_
      show Steps p.tables e below (s₁.setTop (mkF m 21 #[.val (.long q1), .second, .val (.long q2), .second, .val (.long a), .second, .val (.long b), .second, .val (.long (4611686018427387903 : Int64)), .second, .unset, .unset, .unset, .unset] [(.long a)])) _
      refine XS.lload X0.here hx rfl (hb hby at_21) rfl ?_
      show Steps p.tables e below (s₁.setTop (mkF m 23 #[.val (.long q1), .second, .val (.long q2), .second, .val (.long a), .second, .val (.long b), .second, .val (.long (4611686018427387903 : Int64)), .second, .unset, .unset, .unset, .unset] [(.long (4611686018427387903 : Int64)), (.long a)])) _
      refine XS.lcmp X0.here hx rfl (hb hby at_23) rfl ?_
      exact k)
  by_cases h1 : (0 : Int32) < (lcmpW a (4611686018427387903 : Int64))
  · have G3 : Goes p e below s₁ (entryFrame m #[(.long q1), (.long q2)] maxLocals) s₁ (mkF m 35 #[.val (.long q1), .second, .val (.long q2), .second, .val (.long a), .second, .val (.long b), .second, .val (.long (4611686018427387903 : Int64)), .second, .unset, .unset, .unset, .unset] []) := fun _ k => G2 _ (by
        show Steps p.tables e below (s₁.setTop (mkF m 24 #[.val (.long q1), .second, .val (.long q2), .second, .val (.long a), .second, .val (.long b), .second, .val (.long (4611686018427387903 : Int64)), .second, .unset, .unset, .unset, .unset] [(.int (lcmpW a (4611686018427387903 : Int64)))])) _
        refine XS.ifYes X0.here hx rfl (pc0 := 24) (pc' := 35) rfl (hb hby at_24) rfl ((if0 _ _).trans (tlt h1).2.2.1) (by decide) (by decide) ?_
        exact k)
    have G4 : Goes p e below s₁ (entryFrame m #[(.long q1), (.long q2)] maxLocals) s₁ (mkF m 74 #[.val (.long q1), .second, .val (.long q2), .second, .val (.long a), .second, .val (.long b), .second, .val (.long (4611686018427387903 : Int64)), .second, .val (.long (9223372036854775807 : Int64)), .second, .unset, .unset] [(.long b), (.long a)]) := fun _ k => G3 _ (by
        show Steps p.tables e below (s₁.setTop (mkF m 35 #[.val (.long q1), .second, .val (.long q2), .second, .val (.long a), .second, .val (.long b), .second, .val (.long (4611686018427387903 : Int64)), .second, .unset, .unset, .unset, .unset] [])) _
        refine Jvm.Stand.ldc2J X0 hx hown (mvT hZ (hw _ (List.mem_of_getElem? (i := 0) rfl))) (g := (mkF m 35 #[.val (.long q1), .second, .val (.long q2), .second, .val (.long a), .second, .val (.long b), .second, .val (.long (4611686018427387903 : Int64)), .second, .unset, .unset, .unset, .unset] [])) rfl (hb hby at_35) ?_
        show Steps p.tables e below (s₁.setTop (mkF m 38 #[.val (.long q1), .second, .val (.long q2), .second, .val (.long a), .second, .val (.long b), .second, .val (.long (4611686018427387903 : Int64)), .second, .unset, .unset, .unset, .unset] [(.long (9223372036854775807 : Int64))])) _
        refine XS.lstore X0.here hx rfl (hb hby at_38) rfl (l' := #[.val (.long q1), .second, .val (.long q2), .second, .val (.long a), .second, .val (.long b), .second, .val (.long (4611686018427387903 : Int64)), .second, .val (.long (9223372036854775807 : Int64)), .second, .unset, .unset]) rfl ?_
        show Steps p.tables e below (s₁.setTop (mkF m 40 #[.val (.long q1), .second, .val (.long q2), .second, .val (.long a), .second, .val (.long b), .second, .val (.long (4611686018427387903 : Int64)), .second, .val (.long (9223372036854775807 : Int64)), .second, .unset, .unset] [])) _
        refine XS.goto X0.here hx rfl (pc0 := 40) (pc' := 70) rfl (hb hby at_40) (by decide) (by decide) ?_
        show Steps p.tables e below (s₁.setTop (mkF m 70 #[.val (.long q1), .second, .val (.long q2), .second, .val (.long a), .second, .val (.long b), .second, .val (.long (4611686018427387903 : Int64)), .second, .val (.long (9223372036854775807 : Int64)), .second, .unset, .unset] [])) _
        refine XS.lload X0.here hx rfl (hb hby at_70) rfl ?_
        show Steps p.tables e below (s₁.setTop (mkF m 72 #[.val (.long q1), .second, .val (.long q2), .second, .val (.long a), .second, .val (.long b), .second, .val (.long (4611686018427387903 : Int64)), .second, .val (.long (9223372036854775807 : Int64)), .second, .unset, .unset] [(.long a)])) _
        refine XS.lload X0.here hx rfl (hb hby at_72) rfl ?_
        exact k)
    obtain ⟨_, _, ⟨T5, L5, k5, n5⟩, -, X5, ⟨Lc5, hQ5, l5, y5, z5⟩, st5⟩ := Jvm.LawKit.callS X0 hx (y := (⟨"com/example/clariq/clariq/operators/RegexTerm", "sum", "(JJ)J"⟩ : MethodName)) hown (mvT hZ (hw _ (List.mem_of_getElem? (i := 2) rfl))) (mvT hZ (hw _ (List.mem_of_getElem? (i := 3) rfl))) (mvT hZ (hw _ (List.mem_of_getElem? (i := 4) rfl))) (mvT hZ (hw _ (List.mem_of_getElem? (i := 5) rfl))) (by decide) (backOf (W := 0) (rm1 l Z a0 hw [] a b h0 n0 Z0) hZ (hw _ (List.mem_of_getElem? (i := 5) rfl)) (hw _ (List.mem_of_getElem? (i := 4) rfl)) (by decide) (by decide)) (g := (mkF m 74 #[.val (.long q1), .second, .val (.long q2), .second, .val (.long a), .second, .val (.long b), .second, .val (.long (4611686018427387903 : Int64)), .second, .val (.long (9223372036854775807 : Int64)), .second, .unset, .unset] [(.long b), (.long a)])) rfl (by rw [hml]; rfl) (argsL := [(.long a), (.long b)]) (rest := []) (lenOf own_pd0 rfl) rfl (by show 2 * 0 + _ ≤ _; exact Nat.le_of_eq rfl) (hb hby at_74) (fun _ _ => ⟨rfl, e0, (by decide : 0 + 0 ≤ _), (by decide : 0 + 0 ≤ _)⟩)
    dsimp only [Pt.U, Pt.locs, Pt.cells, Pt.slots] at X5 l5 y5 z5 st5 hQ5
    subst l5 y5 z5
    obtain ⟨rfl, N5q, hh5⟩ := hQ5
    have N5 := Fr.app N0 N5q
    have G5 : Goes p e below s₁ (entryFrame m #[(.long q1), (.long q2)] maxLocals) T5 (mkF m 77 #[.val (.long q1), .second, .val (.long q2), .second, .val (.long a), .second, .val (.long b), .second, .val (.long (4611686018427387903 : Int64)), .second, .val (.long (9223372036854775807 : Int64)), .second, .unset, .unset] [(.long (own_sum a b))]) := fun _ k => G4 _ (st5 _ k)
    have G6 : Goes p e below s₁ (entryFrame m #[(.long q1), (.long q2)] maxLocals) T5 (mkF m 80 #[.val (.long q1), .second, .val (.long q2), .second, .val (.long a), .second, .val (.long b), .second, .val (.long (4611686018427387903 : Int64)), .second, .val (.long (9223372036854775807 : Int64)), .second, .unset, .unset] [(.int (lcmpW (own_sum a b) (9223372036854775807 : Int64)))]) := fun _ k => G5 _ (by
        show Steps p.tables e below (T5.setTop (mkF m 77 #[.val (.long q1), .second, .val (.long q2), .second, .val (.long a), .second, .val (.long b), .second, .val (.long (4611686018427387903 : Int64)), .second, .val (.long (9223372036854775807 : Int64)), .second, .unset, .unset] [(.long (own_sum a b))])) _
        refine XS.lload X5.here hx rfl (hb hby at_77) rfl ?_
        show Steps p.tables e below (T5.setTop (mkF m 79 #[.val (.long q1), .second, .val (.long q2), .second, .val (.long a), .second, .val (.long b), .second, .val (.long (4611686018427387903 : Int64)), .second, .val (.long (9223372036854775807 : Int64)), .second, .unset, .unset] [(.long (9223372036854775807 : Int64)), (.long (own_sum a b))])) _
        refine XS.lcmp X5.here hx rfl (hb hby at_79) rfl ?_
        exact k)
    have G7 : Goes p e below s₁ (entryFrame m #[(.long q1), (.long q2)] maxLocals) T5 (mkF m 83 #[.val (.long q1), .second, .val (.long q2), .second, .val (.long a), .second, .val (.long b), .second, .val (.long (4611686018427387903 : Int64)), .second, .val (.long (9223372036854775807 : Int64)), .second, .unset, .unset] []) := fun _ k => G6 _ (by
        show Steps p.tables e below (T5.setTop (mkF m 80 #[.val (.long q1), .second, .val (.long q2), .second, .val (.long a), .second, .val (.long b), .second, .val (.long (4611686018427387903 : Int64)), .second, .val (.long (9223372036854775807 : Int64)), .second, .unset, .unset] [(.int (lcmpW (own_sum a b) (9223372036854775807 : Int64)))])) _
        refine XS.ifNo X5.here hx rfl (hb hby at_80) rfl ((if0 _ _).trans (teq ((lw_eq _ _).mpr (own_l1 na nb h1))).2) ?_
        exact k)
    have G8 : Goes p e below s₁ (entryFrame m #[(.long q1), (.long q2)] maxLocals) T5 (mkF m 88 #[.val (.long q1), .second, .val (.long q2), .second, .val (.long a), .second, .val (.long b), .second, .val (.long (4611686018427387903 : Int64)), .second, .val (.long (9223372036854775807 : Int64)), .second, .unset, .unset] [(.int (1 : Int32))]) := fun _ k => G7 _ (by
        show Steps p.tables e below (T5.setTop (mkF m 83 #[.val (.long q1), .second, .val (.long q2), .second, .val (.long a), .second, .val (.long b), .second, .val (.long (4611686018427387903 : Int64)), .second, .val (.long (9223372036854775807 : Int64)), .second, .unset, .unset] [])) _
        refine XS.iconst X5.here hx rfl (hb hby at_83) ?_
        show Steps p.tables e below (T5.setTop (mkF m 84 #[.val (.long q1), .second, .val (.long q2), .second, .val (.long a), .second, .val (.long b), .second, .val (.long (4611686018427387903 : Int64)), .second, .val (.long (9223372036854775807 : Int64)), .second, .unset, .unset] [(.int (1 : Int32))])) _
        refine XS.goto X5.here hx rfl (pc0 := 84) (pc' := 88) rfl (hb hby at_84) (by decide) (by decide) ?_
        exact k)
    obtain ⟨fs, hr, hrun, hended, hW, hsame⟩ := X5.leave (v := some (.int (1 : Int32))) (fun h => by rw [Bd.returns] at h; cases h)
    refine ⟨_, _, G8 _ (retN X5 hx (t := .boolean) Bd.returns (by simp) (hb hby at_88) hr), hrun, hended, _, _, rfl, ?_, ⟨_, rfl⟩, hW, hsame.mono (by decide) (by decide)⟩
    show Q0 n0 _ T5.heap _
    exact ⟨rfl, N5⟩
  · have G9 : Goes p e below s₁ (entryFrame m #[(.long q1), (.long q2)] maxLocals) s₁ (mkF m 27 #[.val (.long q1), .second, .val (.long q2), .second, .val (.long a), .second, .val (.long b), .second, .val (.long (4611686018427387903 : Int64)), .second, .unset, .unset, .unset, .unset] []) := fun _ k => G2 _ (by
        show Steps p.tables e below (s₁.setTop (mkF m 24 #[.val (.long q1), .second, .val (.long q2), .second, .val (.long a), .second, .val (.long b), .second, .val (.long (4611686018427387903 : Int64)), .second, .unset, .unset, .unset, .unset] [(.int (lcmpW a (4611686018427387903 : Int64)))])) _
        refine XS.ifNo X0.here hx rfl (hb hby at_24) rfl ((if0 _ _).trans (flt h1).2.2.1) ?_
        exact k)
    have G10 : Goes p e below s₁ (entryFrame m #[(.long q1), (.long q2)] maxLocals) s₁ (mkF m 32 #[.val (.long q1), .second, .val (.long q2), .second, .val (.long a), .second, .val (.long b), .second, .val (.long (4611686018427387903 : Int64)), .second, .unset, .unset, .unset, .unset] [(.int (lcmpW b (4611686018427387903 : Int64)))]) := fun _ k => G9 _ (by
        show Steps p.tables e below (s₁.setTop (mkF m 27 #[.val (.long q1), .second, .val (.long q2), .second, .val (.long a), .second, .val (.long b), .second, .val (.long (4611686018427387903 : Int64)), .second, .unset, .unset, .unset, .unset] [])) _
        refine XS.lload X0.here hx rfl (hb hby at_27) rfl ?_
        show Steps p.tables e below (s₁.setTop (mkF m 29 #[.val (.long q1), .second, .val (.long q2), .second, .val (.long a), .second, .val (.long b), .second, .val (.long (4611686018427387903 : Int64)), .second, .unset, .unset, .unset, .unset] [(.long b)])) _
        refine XS.lload X0.here hx rfl (hb hby at_29) rfl ?_
        show Steps p.tables e below (s₁.setTop (mkF m 31 #[.val (.long q1), .second, .val (.long q2), .second, .val (.long a), .second, .val (.long b), .second, .val (.long (4611686018427387903 : Int64)), .second, .unset, .unset, .unset, .unset] [(.long (4611686018427387903 : Int64)), (.long b)])) _
        refine XS.lcmp X0.here hx rfl (hb hby at_31) rfl ?_
        exact k)
    by_cases h2 : (0 : Int32) < (lcmpW b (4611686018427387903 : Int64))
    · have G11 : Goes p e below s₁ (entryFrame m #[(.long q1), (.long q2)] maxLocals) s₁ (mkF m 35 #[.val (.long q1), .second, .val (.long q2), .second, .val (.long a), .second, .val (.long b), .second, .val (.long (4611686018427387903 : Int64)), .second, .unset, .unset, .unset, .unset] []) := fun _ k => G10 _ (by
          show Steps p.tables e below (s₁.setTop (mkF m 32 #[.val (.long q1), .second, .val (.long q2), .second, .val (.long a), .second, .val (.long b), .second, .val (.long (4611686018427387903 : Int64)), .second, .unset, .unset, .unset, .unset] [(.int (lcmpW b (4611686018427387903 : Int64)))])) _
          refine XS.ifNo X0.here hx rfl (hb hby at_32) rfl ((if0 _ _).trans (tlt h2).2.2.2) ?_
          exact k)
      have G12 : Goes p e below s₁ (entryFrame m #[(.long q1), (.long q2)] maxLocals) s₁ (mkF m 74 #[.val (.long q1), .second, .val (.long q2), .second, .val (.long a), .second, .val (.long b), .second, .val (.long (4611686018427387903 : Int64)), .second, .val (.long (9223372036854775807 : Int64)), .second, .unset, .unset] [(.long b), (.long a)]) := fun _ k => G11 _ (by
          show Steps p.tables e below (s₁.setTop (mkF m 35 #[.val (.long q1), .second, .val (.long q2), .second, .val (.long a), .second, .val (.long b), .second, .val (.long (4611686018427387903 : Int64)), .second, .unset, .unset, .unset, .unset] [])) _
          refine Jvm.Stand.ldc2J X0 hx hown (mvT hZ (hw _ (List.mem_of_getElem? (i := 0) rfl))) (g := (mkF m 35 #[.val (.long q1), .second, .val (.long q2), .second, .val (.long a), .second, .val (.long b), .second, .val (.long (4611686018427387903 : Int64)), .second, .unset, .unset, .unset, .unset] [])) rfl (hb hby at_35) ?_
          show Steps p.tables e below (s₁.setTop (mkF m 38 #[.val (.long q1), .second, .val (.long q2), .second, .val (.long a), .second, .val (.long b), .second, .val (.long (4611686018427387903 : Int64)), .second, .unset, .unset, .unset, .unset] [(.long (9223372036854775807 : Int64))])) _
          refine XS.lstore X0.here hx rfl (hb hby at_38) rfl (l' := #[.val (.long q1), .second, .val (.long q2), .second, .val (.long a), .second, .val (.long b), .second, .val (.long (4611686018427387903 : Int64)), .second, .val (.long (9223372036854775807 : Int64)), .second, .unset, .unset]) rfl ?_
          show Steps p.tables e below (s₁.setTop (mkF m 40 #[.val (.long q1), .second, .val (.long q2), .second, .val (.long a), .second, .val (.long b), .second, .val (.long (4611686018427387903 : Int64)), .second, .val (.long (9223372036854775807 : Int64)), .second, .unset, .unset] [])) _
          refine XS.goto X0.here hx rfl (pc0 := 40) (pc' := 70) rfl (hb hby at_40) (by decide) (by decide) ?_
          show Steps p.tables e below (s₁.setTop (mkF m 70 #[.val (.long q1), .second, .val (.long q2), .second, .val (.long a), .second, .val (.long b), .second, .val (.long (4611686018427387903 : Int64)), .second, .val (.long (9223372036854775807 : Int64)), .second, .unset, .unset] [])) _
          refine XS.lload X0.here hx rfl (hb hby at_70) rfl ?_
          show Steps p.tables e below (s₁.setTop (mkF m 72 #[.val (.long q1), .second, .val (.long q2), .second, .val (.long a), .second, .val (.long b), .second, .val (.long (4611686018427387903 : Int64)), .second, .val (.long (9223372036854775807 : Int64)), .second, .unset, .unset] [(.long a)])) _
          refine XS.lload X0.here hx rfl (hb hby at_72) rfl ?_
          exact k)
      obtain ⟨_, _, ⟨T13, L13, k13, n13⟩, -, X13, ⟨Lc13, hQ13, l13, y13, z13⟩, st13⟩ := Jvm.LawKit.callS X0 hx (y := (⟨"com/example/clariq/clariq/operators/RegexTerm", "sum", "(JJ)J"⟩ : MethodName)) hown (mvT hZ (hw _ (List.mem_of_getElem? (i := 2) rfl))) (mvT hZ (hw _ (List.mem_of_getElem? (i := 3) rfl))) (mvT hZ (hw _ (List.mem_of_getElem? (i := 4) rfl))) (mvT hZ (hw _ (List.mem_of_getElem? (i := 5) rfl))) (by decide) (backOf (W := 0) (rm1 l Z a0 hw [] a b h0 n0 Z0) hZ (hw _ (List.mem_of_getElem? (i := 5) rfl)) (hw _ (List.mem_of_getElem? (i := 4) rfl)) (by decide) (by decide)) (g := (mkF m 74 #[.val (.long q1), .second, .val (.long q2), .second, .val (.long a), .second, .val (.long b), .second, .val (.long (4611686018427387903 : Int64)), .second, .val (.long (9223372036854775807 : Int64)), .second, .unset, .unset] [(.long b), (.long a)])) rfl (by rw [hml]; rfl) (argsL := [(.long a), (.long b)]) (rest := []) (lenOf own_pd0 rfl) rfl (by show 2 * 0 + _ ≤ _; exact Nat.le_of_eq rfl) (hb hby at_74) (fun _ _ => ⟨rfl, e0, (by decide : 0 + 0 ≤ _), (by decide : 0 + 0 ≤ _)⟩)
      dsimp only [Pt.U, Pt.locs, Pt.cells, Pt.slots] at X13 l13 y13 z13 st13 hQ13
      subst l13 y13 z13
      obtain ⟨rfl, N13q, hh13⟩ := hQ13
      have N13 := Fr.app N0 N13q
      have G13 : Goes p e below s₁ (entryFrame m #[(.long q1), (.long q2)] maxLocals) T13 (mkF m 77 #[.val (.long q1), .second, .val (.long q2), .second, .val (.long a), .second, .val (.long b), .second, .val (.long (4611686018427387903 : Int64)), .second, .val (.long (9223372036854775807 : Int64)), .second, .unset, .unset] [(.long (own_sum a b))]) := fun _ k => G12 _ (st13 _ k)
      have G14 : Goes p e below s₁ (entryFrame m #[(.long q1), (.long q2)] maxLocals) T13 (mkF m 80 #[.val (.long q1), .second, .val (.long q2), .second, .val (.long a), .second, .val (.long b), .second, .val (.long (4611686018427387903 : Int64)), .second, .val (.long (9223372036854775807 : Int64)), .second, .unset, .unset] [(.int (lcmpW (own_sum a b) (9223372036854775807 : Int64)))]) := fun _ k => G13 _ (by
          show Steps p.tables e below (T13.setTop (mkF m 77 #[.val (.long q1), .second, .val (.long q2), .second, .val (.long a), .second, .val (.long b), .second, .val (.long (4611686018427387903 : Int64)), .second, .val (.long (9223372036854775807 : Int64)), .second, .unset, .unset] [(.long (own_sum a b))])) _
          refine XS.lload X13.here hx rfl (hb hby at_77) rfl ?_
          show Steps p.tables e below (T13.setTop (mkF m 79 #[.val (.long q1), .second, .val (.long q2), .second, .val (.long a), .second, .val (.long b), .second, .val (.long (4611686018427387903 : Int64)), .second, .val (.long (9223372036854775807 : Int64)), .second, .unset, .unset] [(.long (9223372036854775807 : Int64)), (.long (own_sum a b))])) _
          refine XS.lcmp X13.here hx rfl (hb hby at_79) rfl ?_
          exact k)
      have G15 : Goes p e below s₁ (entryFrame m #[(.long q1), (.long q2)] maxLocals) T13 (mkF m 83 #[.val (.long q1), .second, .val (.long q2), .second, .val (.long a), .second, .val (.long b), .second, .val (.long (4611686018427387903 : Int64)), .second, .val (.long (9223372036854775807 : Int64)), .second, .unset, .unset] []) := fun _ k => G14 _ (by
          show Steps p.tables e below (T13.setTop (mkF m 80 #[.val (.long q1), .second, .val (.long q2), .second, .val (.long a), .second, .val (.long b), .second, .val (.long (4611686018427387903 : Int64)), .second, .val (.long (9223372036854775807 : Int64)), .second, .unset, .unset] [(.int (lcmpW (own_sum a b) (9223372036854775807 : Int64)))])) _
          refine XS.ifNo X13.here hx rfl (hb hby at_80) rfl ((if0 _ _).trans (teq ((lw_eq _ _).mpr (own_l2 na nb h2))).2) ?_
          exact k)
      have G16 : Goes p e below s₁ (entryFrame m #[(.long q1), (.long q2)] maxLocals) T13 (mkF m 88 #[.val (.long q1), .second, .val (.long q2), .second, .val (.long a), .second, .val (.long b), .second, .val (.long (4611686018427387903 : Int64)), .second, .val (.long (9223372036854775807 : Int64)), .second, .unset, .unset] [(.int (1 : Int32))]) := fun _ k => G15 _ (by
          show Steps p.tables e below (T13.setTop (mkF m 83 #[.val (.long q1), .second, .val (.long q2), .second, .val (.long a), .second, .val (.long b), .second, .val (.long (4611686018427387903 : Int64)), .second, .val (.long (9223372036854775807 : Int64)), .second, .unset, .unset] [])) _
          refine XS.iconst X13.here hx rfl (hb hby at_83) ?_
          show Steps p.tables e below (T13.setTop (mkF m 84 #[.val (.long q1), .second, .val (.long q2), .second, .val (.long a), .second, .val (.long b), .second, .val (.long (4611686018427387903 : Int64)), .second, .val (.long (9223372036854775807 : Int64)), .second, .unset, .unset] [(.int (1 : Int32))])) _
          refine XS.goto X13.here hx rfl (pc0 := 84) (pc' := 88) rfl (hb hby at_84) (by decide) (by decide) ?_
          exact k)
      obtain ⟨fs, hr, hrun, hended, hW, hsame⟩ := X13.leave (v := some (.int (1 : Int32))) (fun h => by rw [Bd.returns] at h; cases h)
      refine ⟨_, _, G16 _ (retN X13 hx (t := .boolean) Bd.returns (by simp) (hb hby at_88) hr), hrun, hended, _, _, rfl, ?_, ⟨_, rfl⟩, hW, hsame.mono (by decide) (by decide)⟩
      show Q0 n0 _ T13.heap _
      exact ⟨rfl, N13⟩
    · have G17 : Goes p e below s₁ (entryFrame m #[(.long q1), (.long q2)] maxLocals) s₁ (mkF m 43 #[.val (.long q1), .second, .val (.long q2), .second, .val (.long a), .second, .val (.long b), .second, .val (.long (4611686018427387903 : Int64)), .second, .unset, .unset, .unset, .unset] []) := fun _ k => G10 _ (by
          show Steps p.tables e below (s₁.setTop (mkF m 32 #[.val (.long q1), .second, .val (.long q2), .second, .val (.long a), .second, .val (.long b), .second, .val (.long (4611686018427387903 : Int64)), .second, .unset, .unset, .unset, .unset] [(.int (lcmpW b (4611686018427387903 : Int64)))])) _
          refine XS.ifYes X0.here hx rfl (pc0 := 32) (pc' := 43) rfl (hb hby at_32) rfl ((if0 _ _).trans (flt h2).2.2.2) (by decide) (by decide) ?_
          exact k)
      have G18 : Goes p e below s₁ (entryFrame m #[(.long q1), (.long q2)] maxLocals) s₁ (mkF m 55 #[.val (.long q1), .second, .val (.long q2), .second, .val (.long a), .second, .val (.long b), .second, .val (.long (4611686018427387903 : Int64)), .second, .unset, .unset, .val (.long (a + b)), .second] [(.int (lcmpW (a + b) (4611686018427387903 : Int64)))]) := fun _ k => G17 _ (by
          show Steps p.tables e below (s₁.setTop (mkF m 43 #[.val (.long q1), .second, .val (.long q2), .second, .val (.long a), .second, .val (.long b), .second, .val (.long (4611686018427387903 : Int64)), .second, .unset, .unset, .unset, .unset] [])) _
          refine XS.lload X0.here hx rfl (hb hby at_43) rfl ?_
          show Steps p.tables e below (s₁.setTop (mkF m 45 #[.val (.long q1), .second, .val (.long q2), .second, .val (.long a), .second, .val (.long b), .second, .val (.long (4611686018427387903 : Int64)), .second, .unset, .unset, .unset, .unset] [(.long a)])) _
          refine XS.lload X0.here hx rfl (hb hby at_45) rfl ?_
          show Steps p.tables e below (s₁.setTop (mkF m 47 #[.val (.long q1), .second, .val (.long q2), .second, .val (.long a), .second, .val (.long b), .second, .val (.long (4611686018427387903 : Int64)), .second, .unset, .unset, .unset, .unset] [(.long b), (.long a)])) _
          refine XS.ladd X0.here hx rfl (hb hby at_47) rfl ?_
          show Steps p.tables e below (s₁.setTop (mkF m 48 #[.val (.long q1), .second, .val (.long q2), .second, .val (.long a), .second, .val (.long b), .second, .val (.long (4611686018427387903 : Int64)), .second, .unset, .unset, .unset, .unset] [(.long (a + b))])) _
          refine XS.lstore X0.here hx rfl (hb hby at_48) rfl (l' := #[.val (.long q1), .second, .val (.long q2), .second, .val (.long a), .second, .val (.long b), .second, .val (.long (4611686018427387903 : Int64)), .second, .unset, .unset, .val (.long (a + b)), .second]) rfl ?_
          show Steps p.tables e below (s₁.setTop (mkF m 50 #[.val (.long q1), .second, .val (.long q2), .second, .val (.long a), .second, .val (.long b), .second, .val (.long (4611686018427387903 : Int64)), .second, .unset, .unset, .val (.long (a + b)), .second] [])) _
          refine XS.lload X0.here hx rfl (hb hby at_50) rfl ?_
          show Steps p.tables e below (s₁.setTop (mkF m 52 #[.val (.long q1), .second, .val (.long q2), .second, .val (.long a), .second, .val (.long b), .second, .val (.long (4611686018427387903 : Int64)), .second, .unset, .unset, .val (.long (a + b)), .second] [(.long (a + b))])) _
          refine XS.lload X0.here hx rfl (hb hby at_52) rfl ?_
          show Steps p.tables e below (s₁.setTop (mkF m 54 #[.val (.long q1), .second, .val (.long q2), .second, .val (.long a), .second, .val (.long b), .second, .val (.long (4611686018427387903 : Int64)), .second, .unset, .unset, .val (.long (a + b)), .second] [(.long (4611686018427387903 : Int64)), (.long (a + b))])) _
          refine XS.lcmp X0.here hx rfl (hb hby at_54) rfl ?_
          exact k)
      by_cases h3 : (0 : Int32) < (lcmpW (a + b) (4611686018427387903 : Int64))
      · have G19 : Goes p e below s₁ (entryFrame m #[(.long q1), (.long q2)] maxLocals) s₁ (mkF m 58 #[.val (.long q1), .second, .val (.long q2), .second, .val (.long a), .second, .val (.long b), .second, .val (.long (4611686018427387903 : Int64)), .second, .unset, .unset, .val (.long (a + b)), .second] []) := fun _ k => G18 _ (by
            show Steps p.tables e below (s₁.setTop (mkF m 55 #[.val (.long q1), .second, .val (.long q2), .second, .val (.long a), .second, .val (.long b), .second, .val (.long (4611686018427387903 : Int64)), .second, .unset, .unset, .val (.long (a + b)), .second] [(.int (lcmpW (a + b) (4611686018427387903 : Int64)))])) _
            refine XS.ifNo X0.here hx rfl (hb hby at_55) rfl ((if0 _ _).trans (tlt h3).2.2.2) ?_
            exact k)
        have G20 : Goes p e below s₁ (entryFrame m #[(.long q1), (.long q2)] maxLocals) s₁ (mkF m 74 #[.val (.long q1), .second, .val (.long q2), .second, .val (.long a), .second, .val (.long b), .second, .val (.long (4611686018427387903 : Int64)), .second, .val (.long (9223372036854775807 : Int64)), .second, .val (.long (a + b)), .second] [(.long b), (.long a)]) := fun _ k => G19 _ (by
            show Steps p.tables e below (s₁.setTop (mkF m 58 #[.val (.long q1), .second, .val (.long q2), .second, .val (.long a), .second, .val (.long b), .second, .val (.long (4611686018427387903 : Int64)), .second, .unset, .unset, .val (.long (a + b)), .second] [])) _
            refine Jvm.Stand.ldc2J X0 hx hown (mvT hZ (hw _ (List.mem_of_getElem? (i := 0) rfl))) (g := (mkF m 58 #[.val (.long q1), .second, .val (.long q2), .second, .val (.long a), .second, .val (.long b), .second, .val (.long (4611686018427387903 : Int64)), .second, .unset, .unset, .val (.long (a + b)), .second] [])) rfl (hb hby at_58) ?_
            show Steps p.tables e below (s₁.setTop (mkF m 61 #[.val (.long q1), .second, .val (.long q2), .second, .val (.long a), .second, .val (.long b), .second, .val (.long (4611686018427387903 : Int64)), .second, .unset, .unset, .val (.long (a + b)), .second] [(.long (9223372036854775807 : Int64))])) _
            refine XS.lstore X0.here hx rfl (hb hby at_61) rfl (l' := #[.val (.long q1), .second, .val (.long q2), .second, .val (.long a), .second, .val (.long b), .second, .val (.long (4611686018427387903 : Int64)), .second, .val (.long (9223372036854775807 : Int64)), .second, .val (.long (a + b)), .second]) rfl ?_
            show Steps p.tables e below (s₁.setTop (mkF m 63 #[.val (.long q1), .second, .val (.long q2), .second, .val (.long a), .second, .val (.long b), .second, .val (.long (4611686018427387903 : Int64)), .second, .val (.long (9223372036854775807 : Int64)), .second, .val (.long (a + b)), .second] [])) _
            refine XS.goto X0.here hx rfl (pc0 := 63) (pc' := 70) rfl (hb hby at_63) (by decide) (by decide) ?_
            show Steps p.tables e below (s₁.setTop (mkF m 70 #[.val (.long q1), .second, .val (.long q2), .second, .val (.long a), .second, .val (.long b), .second, .val (.long (4611686018427387903 : Int64)), .second, .val (.long (9223372036854775807 : Int64)), .second, .val (.long (a + b)), .second] [])) _
            refine XS.lload X0.here hx rfl (hb hby at_70) rfl ?_
            show Steps p.tables e below (s₁.setTop (mkF m 72 #[.val (.long q1), .second, .val (.long q2), .second, .val (.long a), .second, .val (.long b), .second, .val (.long (4611686018427387903 : Int64)), .second, .val (.long (9223372036854775807 : Int64)), .second, .val (.long (a + b)), .second] [(.long a)])) _
            refine XS.lload X0.here hx rfl (hb hby at_72) rfl ?_
            exact k)
        obtain ⟨_, _, ⟨T21, L21, k21, n21⟩, -, X21, ⟨Lc21, hQ21, l21, y21, z21⟩, st21⟩ := Jvm.LawKit.callS X0 hx (y := (⟨"com/example/clariq/clariq/operators/RegexTerm", "sum", "(JJ)J"⟩ : MethodName)) hown (mvT hZ (hw _ (List.mem_of_getElem? (i := 2) rfl))) (mvT hZ (hw _ (List.mem_of_getElem? (i := 3) rfl))) (mvT hZ (hw _ (List.mem_of_getElem? (i := 4) rfl))) (mvT hZ (hw _ (List.mem_of_getElem? (i := 5) rfl))) (by decide) (backOf (W := 0) (rm1 l Z a0 hw [] a b h0 n0 Z0) hZ (hw _ (List.mem_of_getElem? (i := 5) rfl)) (hw _ (List.mem_of_getElem? (i := 4) rfl)) (by decide) (by decide)) (g := (mkF m 74 #[.val (.long q1), .second, .val (.long q2), .second, .val (.long a), .second, .val (.long b), .second, .val (.long (4611686018427387903 : Int64)), .second, .val (.long (9223372036854775807 : Int64)), .second, .val (.long (a + b)), .second] [(.long b), (.long a)])) rfl (by rw [hml]; rfl) (argsL := [(.long a), (.long b)]) (rest := []) (lenOf own_pd0 rfl) rfl (by show 2 * 0 + _ ≤ _; exact Nat.le_of_eq rfl) (hb hby at_74) (fun _ _ => ⟨rfl, e0, (by decide : 0 + 0 ≤ _), (by decide : 0 + 0 ≤ _)⟩)
        dsimp only [Pt.U, Pt.locs, Pt.cells, Pt.slots] at X21 l21 y21 z21 st21 hQ21
        subst l21 y21 z21
        obtain ⟨rfl, N21q, hh21⟩ := hQ21
        have N21 := Fr.app N0 N21q
        have G21 : Goes p e below s₁ (entryFrame m #[(.long q1), (.long q2)] maxLocals) T21 (mkF m 77 #[.val (.long q1), .second, .val (.long q2), .second, .val (.long a), .second, .val (.long b), .second, .val (.long (4611686018427387903 : Int64)), .second, .val (.long (9223372036854775807 : Int64)), .second, .val (.long (a + b)), .second] [(.long (own_sum a b))]) := fun _ k => G20 _ (st21 _ k)
        have G22 : Goes p e below s₁ (entryFrame m #[(.long q1), (.long q2)] maxLocals) T21 (mkF m 80 #[.val (.long q1), .second, .val (.long q2), .second, .val (.long a), .second, .val (.long b), .second, .val (.long (4611686018427387903 : Int64)), .second, .val (.long (9223372036854775807 : Int64)), .second, .val (.long (a + b)), .second] [(.int (lcmpW (own_sum a b) (9223372036854775807 : Int64)))]) := fun _ k => G21 _ (by
            show Steps p.tables e below (T21.setTop (mkF m 77 #[.val (.long q1), .second, .val (.long q2), .second, .val (.long a), .second, .val (.long b), .second, .val (.long (4611686018427387903 : Int64)), .second, .val (.long (9223372036854775807 : Int64)), .second, .val (.long (a + b)), .second] [(.long (own_sum a b))])) _
            refine XS.lload X21.here hx rfl (hb hby at_77) rfl ?_
            show Steps p.tables e below (T21.setTop (mkF m 79 #[.val (.long q1), .second, .val (.long q2), .second, .val (.long a), .second, .val (.long b), .second, .val (.long (4611686018427387903 : Int64)), .second, .val (.long (9223372036854775807 : Int64)), .second, .val (.long (a + b)), .second] [(.long (9223372036854775807 : Int64)), (.long (own_sum a b))])) _
            refine XS.lcmp X21.here hx rfl (hb hby at_79) rfl ?_
            exact k)
        have G23 : Goes p e below s₁ (entryFrame m #[(.long q1), (.long q2)] maxLocals) T21 (mkF m 83 #[.val (.long q1), .second, .val (.long q2), .second, .val (.long a), .second, .val (.long b), .second, .val (.long (4611686018427387903 : Int64)), .second, .val (.long (9223372036854775807 : Int64)), .second, .val (.long (a + b)), .second] []) := fun _ k => G22 _ (by
            show Steps p.tables e below (T21.setTop (mkF m 80 #[.val (.long q1), .second, .val (.long q2), .second, .val (.long a), .second, .val (.long b), .second, .val (.long (4611686018427387903 : Int64)), .second, .val (.long (9223372036854775807 : Int64)), .second, .val (.long (a + b)), .second] [(.int (lcmpW (own_sum a b) (9223372036854775807 : Int64)))])) _
            refine XS.ifNo X21.here hx rfl (hb hby at_80) rfl ((if0 _ _).trans (teq ((lw_eq _ _).mpr (own_l3 na nb h1 h2 h3))).2) ?_
            exact k)
        have G24 : Goes p e below s₁ (entryFrame m #[(.long q1), (.long q2)] maxLocals) T21 (mkF m 88 #[.val (.long q1), .second, .val (.long q2), .second, .val (.long a), .second, .val (.long b), .second, .val (.long (4611686018427387903 : Int64)), .second, .val (.long (9223372036854775807 : Int64)), .second, .val (.long (a + b)), .second] [(.int (1 : Int32))]) := fun _ k => G23 _ (by
            show Steps p.tables e below (T21.setTop (mkF m 83 #[.val (.long q1), .second, .val (.long q2), .second, .val (.long a), .second, .val (.long b), .second, .val (.long (4611686018427387903 : Int64)), .second, .val (.long (9223372036854775807 : Int64)), .second, .val (.long (a + b)), .second] [])) _
            refine XS.iconst X21.here hx rfl (hb hby at_83) ?_
            show Steps p.tables e below (T21.setTop (mkF m 84 #[.val (.long q1), .second, .val (.long q2), .second, .val (.long a), .second, .val (.long b), .second, .val (.long (4611686018427387903 : Int64)), .second, .val (.long (9223372036854775807 : Int64)), .second, .val (.long (a + b)), .second] [(.int (1 : Int32))])) _
            refine XS.goto X21.here hx rfl (pc0 := 84) (pc' := 88) rfl (hb hby at_84) (by decide) (by decide) ?_
            exact k)
        obtain ⟨fs, hr, hrun, hended, hW, hsame⟩ := X21.leave (v := some (.int (1 : Int32))) (fun h => by rw [Bd.returns] at h; cases h)
        refine ⟨_, _, G24 _ (retN X21 hx (t := .boolean) Bd.returns (by simp) (hb hby at_88) hr), hrun, hended, _, _, rfl, ?_, ⟨_, rfl⟩, hW, hsame.mono (by decide) (by decide)⟩
        show Q0 n0 _ T21.heap _
        exact ⟨rfl, N21⟩
      · have G25 : Goes p e below s₁ (entryFrame m #[(.long q1), (.long q2)] maxLocals) s₁ (mkF m 66 #[.val (.long q1), .second, .val (.long q2), .second, .val (.long a), .second, .val (.long b), .second, .val (.long (4611686018427387903 : Int64)), .second, .unset, .unset, .val (.long (a + b)), .second] []) := fun _ k => G18 _ (by
            show Steps p.tables e below (s₁.setTop (mkF m 55 #[.val (.long q1), .second, .val (.long q2), .second, .val (.long a), .second, .val (.long b), .second, .val (.long (4611686018427387903 : Int64)), .second, .unset, .unset, .val (.long (a + b)), .second] [(.int (lcmpW (a + b) (4611686018427387903 : Int64)))])) _
            refine XS.ifYes X0.here hx rfl (pc0 := 55) (pc' := 66) rfl (hb hby at_55) rfl ((if0 _ _).trans (flt h3).2.2.2) (by decide) (by decide) ?_
            exact k)
        have G26 : Goes p e below s₁ (entryFrame m #[(.long q1), (.long q2)] maxLocals) s₁ (mkF m 74 #[.val (.long q1), .second, .val (.long q2), .second, .val (.long a), .second, .val (.long b), .second, .val (.long (4611686018427387903 : Int64)), .second, .val (.long (a + b)), .second, .val (.long (a + b)), .second] [(.long b), (.long a)]) := fun _ k => G25 _ (by
            show Steps p.tables e below (s₁.setTop (mkF m 66 #[.val (.long q1), .second, .val (.long q2), .second, .val (.long a), .second, .val (.long b), .second, .val (.long (4611686018427387903 : Int64)), .second, .unset, .unset, .val (.long (a + b)), .second] [])) _
            refine XS.lload X0.here hx rfl (hb hby at_66) rfl ?_
            show Steps p.tables e below (s₁.setTop (mkF m 68 #[.val (.long q1), .second, .val (.long q2), .second, .val (.long a), .second, .val (.long b), .second, .val (.long (4611686018427387903 : Int64)), .second, .unset, .unset, .val (.long (a + b)), .second] [(.long (a + b))])) _
            refine XS.lstore X0.here hx rfl (hb hby at_68) rfl (l' := #[.val (.long q1), .second, .val (.long q2), .second, .val (.long a), .second, .val (.long b), .second, .val (.long (4611686018427387903 : Int64)), .second, .val (.long (a + b)), .second, .val (.long (a + b)), .second]) rfl ?_
            show Steps p.tables e below (s₁.setTop (mkF m 70 #[.val (.long q1), .second, .val (.long q2), .second, .val (.long a), .second, .val (.long b), .second, .val (.long (4611686018427387903 : Int64)), .second, .val (.long (a + b)), .second, .val (.long (a + b)), .second] [])) _
            refine XS.lload X0.here hx rfl (hb hby at_70) rfl ?_
            show Steps p.tables e below (s₁.setTop (mkF m 72 #[.val (.long q1), .second, .val (.long q2), .second, .val (.long a), .second, .val (.long b), .second, .val (.long (4611686018427387903 : Int64)), .second, .val (.long (a + b)), .second, .val (.long (a + b)), .second] [(.long a)])) _
            refine XS.lload X0.here hx rfl (hb hby at_72) rfl ?_
            exact k)
        obtain ⟨_, _, ⟨T27, L27, k27, n27⟩, -, X27, ⟨Lc27, hQ27, l27, y27, z27⟩, st27⟩ := Jvm.LawKit.callS X0 hx (y := (⟨"com/example/clariq/clariq/operators/RegexTerm", "sum", "(JJ)J"⟩ : MethodName)) hown (mvT hZ (hw _ (List.mem_of_getElem? (i := 2) rfl))) (mvT hZ (hw _ (List.mem_of_getElem? (i := 3) rfl))) (mvT hZ (hw _ (List.mem_of_getElem? (i := 4) rfl))) (mvT hZ (hw _ (List.mem_of_getElem? (i := 5) rfl))) (by decide) (backOf (W := 0) (rm1 l Z a0 hw [] a b h0 n0 Z0) hZ (hw _ (List.mem_of_getElem? (i := 5) rfl)) (hw _ (List.mem_of_getElem? (i := 4) rfl)) (by decide) (by decide)) (g := (mkF m 74 #[.val (.long q1), .second, .val (.long q2), .second, .val (.long a), .second, .val (.long b), .second, .val (.long (4611686018427387903 : Int64)), .second, .val (.long (a + b)), .second, .val (.long (a + b)), .second] [(.long b), (.long a)])) rfl (by rw [hml]; rfl) (argsL := [(.long a), (.long b)]) (rest := []) (lenOf own_pd0 rfl) rfl (by show 2 * 0 + _ ≤ _; exact Nat.le_of_eq rfl) (hb hby at_74) (fun _ _ => ⟨rfl, e0, (by decide : 0 + 0 ≤ _), (by decide : 0 + 0 ≤ _)⟩)
        dsimp only [Pt.U, Pt.locs, Pt.cells, Pt.slots] at X27 l27 y27 z27 st27 hQ27
        subst l27 y27 z27
        obtain ⟨rfl, N27q, hh27⟩ := hQ27
        have N27 := Fr.app N0 N27q
        have G27 : Goes p e below s₁ (entryFrame m #[(.long q1), (.long q2)] maxLocals) T27 (mkF m 77 #[.val (.long q1), .second, .val (.long q2), .second, .val (.long a), .second, .val (.long b), .second, .val (.long (4611686018427387903 : Int64)), .second, .val (.long (a + b)), .second, .val (.long (a + b)), .second] [(.long (own_sum a b))]) := fun _ k => G26 _ (st27 _ k)
        have G28 : Goes p e below s₁ (entryFrame m #[(.long q1), (.long q2)] maxLocals) T27 (mkF m 80 #[.val (.long q1), .second, .val (.long q2), .second, .val (.long a), .second, .val (.long b), .second, .val (.long (4611686018427387903 : Int64)), .second, .val (.long (a + b)), .second, .val (.long (a + b)), .second] [(.int (lcmpW (own_sum a b) (a + b)))]) := fun _ k => G27 _ (by
            show Steps p.tables e below (T27.setTop (mkF m 77 #[.val (.long q1), .second, .val (.long q2), .second, .val (.long a), .second, .val (.long b), .second, .val (.long (4611686018427387903 : Int64)), .second, .val (.long (a + b)), .second, .val (.long (a + b)), .second] [(.long (own_sum a b))])) _
            refine XS.lload X27.here hx rfl (hb hby at_77) rfl ?_
            show Steps p.tables e below (T27.setTop (mkF m 79 #[.val (.long q1), .second, .val (.long q2), .second, .val (.long a), .second, .val (.long b), .second, .val (.long (4611686018427387903 : Int64)), .second, .val (.long (a + b)), .second, .val (.long (a + b)), .second] [(.long (a + b)), (.long (own_sum a b))])) _
            refine XS.lcmp X27.here hx rfl (hb hby at_79) rfl ?_
            exact k)
        have G29 : Goes p e below s₁ (entryFrame m #[(.long q1), (.long q2)] maxLocals) T27 (mkF m 83 #[.val (.long q1), .second, .val (.long q2), .second, .val (.long a), .second, .val (.long b), .second, .val (.long (4611686018427387903 : Int64)), .second, .val (.long (a + b)), .second, .val (.long (a + b)), .second] []) := fun _ k => G28 _ (by
            show Steps p.tables e below (T27.setTop (mkF m 80 #[.val (.long q1), .second, .val (.long q2), .second, .val (.long a), .second, .val (.long b), .second, .val (.long (4611686018427387903 : Int64)), .second, .val (.long (a + b)), .second, .val (.long (a + b)), .second] [(.int (lcmpW (own_sum a b) (a + b)))])) _
            refine XS.ifNo X27.here hx rfl (hb hby at_80) rfl ((if0 _ _).trans (teq ((lw_eq _ _).mpr (own_l4 na nb h1 h2 h3))).2) ?_
            exact k)
        have G30 : Goes p e below s₁ (entryFrame m #[(.long q1), (.long q2)] maxLocals) T27 (mkF m 88 #[.val (.long q1), .second, .val (.long q2), .second, .val (.long a), .second, .val (.long b), .second, .val (.long (4611686018427387903 : Int64)), .second, .val (.long (a + b)), .second, .val (.long (a + b)), .second] [(.int (1 : Int32))]) := fun _ k => G29 _ (by
            show Steps p.tables e below (T27.setTop (mkF m 83 #[.val (.long q1), .second, .val (.long q2), .second, .val (.long a), .second, .val (.long b), .second, .val (.long (4611686018427387903 : Int64)), .second, .val (.long (a + b)), .second, .val (.long (a + b)), .second] [])) _
            refine XS.iconst X27.here hx rfl (hb hby at_83) ?_
            show Steps p.tables e below (T27.setTop (mkF m 84 #[.val (.long q1), .second, .val (.long q2), .second, .val (.long a), .second, .val (.long b), .second, .val (.long (4611686018427387903 : Int64)), .second, .val (.long (a + b)), .second, .val (.long (a + b)), .second] [(.int (1 : Int32))])) _
            refine XS.goto X27.here hx rfl (pc0 := 84) (pc' := 88) rfl (hb hby at_84) (by decide) (by decide) ?_
            exact k)
        obtain ⟨fs, hr, hrun, hended, hW, hsame⟩ := X27.leave (v := some (.int (1 : Int32))) (fun h => by rw [Bd.returns] at h; cases h)
        refine ⟨_, _, G30 _ (retN X27 hx (t := .boolean) Bd.returns (by simp) (hb hby at_88) hr), hrun, hended, _, _, rfl, ?_, ⟨_, rfl⟩, hW, hsame.mono (by decide) (by decide)⟩
        show Q0 n0 _ T27.heap _
        exact ⟨rfl, N27⟩
set_option maxRecDepth 65536 in
set_option maxHeartbeats 40000000 in
theorem comes_1 {Post : Tables → Env → Array Value → State → Outcome → State → Prop} (hpost : ∀ tb e args s v u, (limb_1_1.after args s (.returned v) u = true ∧ limb_1_2.after args s (.returned v) u = true ∧ True) → FrameEnd s (.returned v) u (Jvm.fieldLocs frame_1_writes args s ++ Jvm.arrayLocs frame_1_arrays args s ++ Jvm.staticLocs frame_1_statics s) 0 0 → Post tb e args s (.returned v) u) :
    ArmFor flags0 classFile x code maxLocals ret World_1 tables_1 room_1 Calls_1 rest_1 Pre_1 Post := by
  intro l hfl _ _ p e ha hc hk s m args below hf hA hF happ hP
  obtain ⟨hcalls, hrest, hpre⟩ := hP
  obtain ⟨-, -, -, hnamed, -, -, -, hat⟩ := (Spec.applies_iff hf).mp happ
  obtain ⟨hg, hn⟩ := and_e (Cond.before_iff.mp (show (Jvm.Cond.and given_1 narrow_1).before args s = true from hpre))
  obtain ⟨gc, gr0⟩ := and_e hg
  obtain ⟨gk0, gr1⟩ := and_e gr0
  obtain ⟨w0, w1, rfl⟩ : ∃ w0 w1 : Value, args = #[w0, w1] := by
    have hs : args.size = 2 := by simpa [Cond.value, given_1] using gc
    obtain ⟨L⟩ := args
    match L, hs with
    | [w0, w1], _ => exact ⟨w0, w1, rfl⟩
  have hw := fun d (hd : d ∈ tables_1) => atoms_spec (ws := Jvm.Cond.code x code maxLocals ret :: tables_1) hat d (List.mem_cons_of_mem _ hd)
  obtain ⟨i0, ei0⟩ := isL_v gk0
  obtain rfl : w0 = (.long i0) := Option.some.inj ei0
  obtain ⟨i1, ei1⟩ := isL_v gr1
  obtain rfl : w1 = (.long i1) := Option.some.inj ei1
  obtain ⟨n, o, h1, h2, h3, _, L, rfl, ⟨rfl, N⟩, hq⟩ := rm0 l s _ hw tables_1 i0 i1 s.heap s.heap.size (Nat.le_refl _) p e ha hc hk s m _ below hf ((Spec.applies_iff_loose hf).mp happ).1 ⟨rfl, State.Warmed39.refl s, rfl⟩ trivial
  refine ⟨n, _, h1, h2, h3, hpost _ _ _ _ _ _ ⟨Cond.after_iff.mpr rfl, Cond.after_iff.mpr (eq_i res_at (Term.int_eval (1)) rfl), trivial⟩ ⟨hq.1, hq.2.1, (hq.2.2.sift fun y hy => Or.inr (N y hy)).mono (by decide) (by decide)⟩⟩
theorem main_1_1 : Claimed_1_1 := comes_1 fun _ _ _ _ _ _ h hF => ⟨h.1, hF⟩
theorem main_1_2 : Claimed_1_2 := comes_1 fun _ _ _ _ _ _ h hF => ⟨h.2.1, hF⟩
end Jvm.Pilot.@@N@@
namespace Jvm.Pilot.@@N@@
open Jvm Jvm.ClassFile Sem Op Lib Jvm.Free Jvm.Stand Jvm.Pilot.@@N@@.Jvm.D
/-! MADE BY PROGRAM (witnessworld.py) out of the Statement's table words and the real class files: 9 classes; the members and pool entries that the words name. The judged class is class 1, her method 1. -/
namespace start1
open Jvm.ClassFile
def u (s : String) : CpInfo := .utf8 (stringToUtf16 s)
/-- a pool by its gaps: so many unusable entries, then the entry; so many at the end -/
def gap : Nat → List CpInfo → List CpInfo
  | 0, r => r
  | n + 1, r => .unusable :: gap n r
def poolList (es : List (Nat × CpInfo)) (last : Nat) : List CpInfo := es.foldr (fun e r => gap e.1 (e.2 :: r)) (gap last [])
def pool (es : List (Nat × CpInfo)) (last : Nat) : Array CpInfo := ⟨poolList es last⟩
def fileOf (pool : Array CpInfo) (this : Nat) (attrs : Array Attribute := #[]) (ms : Array MethodInfo := #[]) (fl : Nat := 33) (sup : Nat := 0) (ifs : Array Nat := #[]) (fds : Array FieldInfo := #[]) : ClassFile where
  minorVersion := 0
  majorVersion := 65
  constantPool := pool
  accessFlags := fl
  thisClass := this
  superClass := sup
  interfaces := ifs
  fields := fds
  methods := ms
  attributes := attrs
def plain (name : String) (sup : Option ClassId) : Class where
  name := name
  kind := .ordinary
  loader := none
  accessFlags := 33
  super := sup
  interfaces := #[]
  cf := none
  fields := #[]
  methods := #[]
  instanceTypes := #[]
  staticTypes := #[]
  resolved := #[]
  callSites := []
  init := .initialized
  statics := none
  mirror := none

def pool0 : Array CpInfo := pool [(5, u "<init>"), (0, u "()V"), (1, .class_ 10), (1, u "java/lang/Object")] 113

def k0m0 : Method := { name := "<init>", desc := "()V", sig := { parameters := [], returnType := none }, accessFlags := 1, code := none }
/-- java/lang/Object -/
def k0 : Class := { plain "java/lang/Object" none with
  accessFlags := 33
  interfaces := #[]
  cf := some (fileOf pool0 8 #[] #[{ accessFlags := 1, nameIndex := 5, descriptorIndex := 6, attributes := #[] }] 33 0 #[] #[])
  fields := #[]
  methods := #[k0m0]
  instanceTypes := #[]
  staticTypes := #[]
  resolved := Array.replicate 124 none
  statics := none }

def pool1 : Array CpInfo := pool [(2, .class_ 4), (1, u "java/lang/Object"), (0, u "<init>"), (0, u "()V"), (2, .long 9223372036854775807), (1, .long 4611686018427387903), (1, .interfaceMethodref 14 15), (0, .class_ 16), (0, .nameAndType 17 18), (0, u "com/example/clariq/clariq/operators/RegexTerm"), (0, u "sum"), (0, u "(JJ)J"), (0, .class_ 20), (0, u "com/example/clariq/clariq/operators/RegexTermSumPinLaw"), (2, u "law"), (0, u "(JJ)Z")] 3

def k1m0 : Method := { name := "<init>", desc := "()V", sig := { parameters := [], returnType := none }, accessFlags := 1, code := none }
def k1c1 : Code := { maxStack := 4, maxLocals := 14, code := code, exceptionTable := #[], attributes := #[] }
def k1m1 : Method := { name := "law", desc := "(JJ)Z", sig := { parameters := [.long, .long], returnType := some .boolean }, accessFlags := 9, code := some k1c1 }
/-- com/example/clariq/clariq/operators/RegexTermSumPinLaw -/
def k1 : Class := { plain "com/example/clariq/clariq/operators/RegexTermSumPinLaw" (some 0) with
  accessFlags := 49
  interfaces := #[]
  cf := some (fileOf pool1 19 #[] #[{ accessFlags := 1, nameIndex := 5, descriptorIndex := 6, attributes := #[] }, { accessFlags := 9, nameIndex := 23, descriptorIndex := 24, attributes := #[] }] 49 2 #[] #[])
  fields := #[]
  methods := #[k1m0, k1m1]
  instanceTypes := #[]
  staticTypes := #[]
  resolved := Array.replicate 28 none
  statics := none }

def pool2 : Array CpInfo := pool [(3, .class_ 4), (0, u "com/example/clariq/clariq/operators/RegexTerm"), (0, .long 4611686018427387903), (1, .long 9223372036854775807), (1, .class_ 10), (0, u "java/lang/Object"), (0, u "UNBOUNDED"), (0, u "J"), (3, u "sum"), (0, u "(JJ)J"), (7, .class_ 26), (0, u "com/example/clariq/clariq/operators/RegexTerm$Empty"), (0, .class_ 28), (0, u "com/example/clariq/clariq/operators/RegexTerm$BackReference"), (0, .class_ 30), (0, u "com/example/clariq/clariq/operators/RegexTerm$Anchor"), (0, .class_ 32), (0, u "com/example/clariq/clariq/operators/RegexTerm$Read"), (0, .class_ 34), (0, u "com/example/clariq/clariq/operators/RegexTerm$Repeat"), (0, .class_ 36), (0, u "com/example/clariq/clariq/operators/RegexTerm$Atomic"), (0, .class_ 38), (0, u "com/example/clariq/clariq/operators/RegexTerm$Lookaround"), (0, .class_ 40), (0, u "com/example/clariq/clariq/operators/RegexTerm$Group"), (0, .class_ 42), (0, u "com/example/clariq/clariq/operators/RegexTerm$Alternation"), (0, .class_ 44), (0, u "com/example/clariq/clariq/operators/RegexTerm$Sequence")] 12

def k2c0 : Code := { maxStack := 6, maxLocals := 4, code := prog_133_method_2_code, exceptionTable := #[], attributes := #[] }
def k2m0 : Method := { name := "sum", desc := "(JJ)J", sig := { parameters := [.long, .long], returnType := some .long }, accessFlags := 9, code := some k2c0 }
/-- com/example/clariq/clariq/operators/RegexTerm -/
def k2 : Class := { plain "com/example/clariq/clariq/operators/RegexTerm" (some 0) with
  accessFlags := 1536
  interfaces := #[]
  cf := some (fileOf pool2 3 #[.nestMembers #[25, 27, 29, 31, 33, 35, 37, 39, 41, 43]] #[{ accessFlags := 9, nameIndex := 16, descriptorIndex := 17, attributes := #[] }] 1536 9 #[] #[{ accessFlags := 25, nameIndex := 11, descriptorIndex := 12, attributes := #[] }])
  fields := #[{ name := "UNBOUNDED", type := .long, accessFlags := 25, slot := 0, constantValue := 0 }]
  methods := #[k2m0]
  instanceTypes := #[]
  staticTypes := #[.long]
  resolved := Array.replicate 57 none
  statics := none }

def pool3 : Array CpInfo := pool [(1, u "java/lang/Cloneable"), (0, .class_ 1), (0, u "java/lang/Object"), (0, .class_ 3)] 3

/-- java/lang/Cloneable -/
def k3 : Class := { plain "java/lang/Cloneable" (some 0) with
  accessFlags := 1537
  interfaces := #[]
  cf := some (fileOf pool3 2 #[] #[] 1537 4 #[] #[])
  fields := #[]
  methods := #[]
  instanceTypes := #[]
  staticTypes := #[]
  resolved := Array.replicate 8 none
  statics := none }

def pool4 : Array CpInfo := pool [(1, u "java/io/Serializable"), (0, .class_ 1), (0, u "java/lang/Object"), (0, .class_ 3)] 3

/-- java/io/Serializable -/
def k4 : Class := { plain "java/io/Serializable" (some 0) with
  accessFlags := 1537
  interfaces := #[]
  cf := some (fileOf pool4 2 #[] #[] 1537 4 #[] #[])
  fields := #[]
  methods := #[]
  instanceTypes := #[]
  staticTypes := #[]
  resolved := Array.replicate 8 none
  statics := none }

/-- the primitive byte -/
def k5 : Class := { plain "byte" none with kind := .primitive 'B', accessFlags := 0x411 }
/-- [B -/
def k6 : Class := { plain "[B" (some 0) with kind := .array 5 .byte, interfaces := #[3, 4], accessFlags := 1041 }

/-- the primitive int -/
def k7 : Class := { plain "int" none with kind := .primitive 'I', accessFlags := 0x411 }
/-- [I -/
def k8 : Class := { plain "[I" (some 0) with kind := .array 7 .int, interfaces := #[3, 4], accessFlags := 1041 }

def heap : Heap := #[]
def classes : Array Class := #[k0, k1, k2, k3, k4, k5, k6, k7, k8]
def interned : List (Array UInt16 × Addr) := []
def slotsUsed : Nat := 0
def theMethod : MethodId := ⟨1, 1⟩
def args0 : Array Value := #[.long 5, .long 7]
def aboutOver (below : List Frame) : State where
  vm := { classes := classes, interned := interned.toArray }
  heap := heap
  slotsUsed := slotsUsed
  threads := #[{ frames := .invoking theMethod args0 :: below }]
def below0 : List Frame := [.native { method := ⟨0, 0⟩, args := #[] }]
def about1 : State := aboutOver below0
def p0 : Program := .bare "" "" ""
def e0 : Env := launch0.env 0 0 0
theorem w_frames : about1.frames = Frame.invoking theMethod args0 :: below0 := rfl
set_option maxRecDepth 65536 in
theorem w_args : argsFit about1.vm theMethod args0 = true := by decide +kernel
set_option maxRecDepth 65536 in
theorem w_heap : heapFits about1 = true := by decide +kernel
set_option maxRecDepth 65536 in
theorem w_runnable : about1.curStatus? = some .runnable := by decide +kernel
set_option maxRecDepth 65536 in
theorem w_alone : about1.alone = true := by decide +kernel
set_option maxRecDepth 65536 in
theorem w_named : about1.methodNamed? x = some theMethod := by decide +kernel
set_option maxRecDepth 65536 in
theorem w_hears : about1.hears theMethod below0 = true := by decide +kernel
set_option maxRecDepth 65536 in
theorem w_ripe : about1.ripe theMethod args0 below0 = true := by decide +kernel
theorem w_running : about1.status = .running := rfl
set_option maxRecDepth 65536 in
theorem w_room : about1.hasRoom e0.platform room_1 = true :=
  launch0.hasRoom_least _ room_1 (by decide +kernel) (by decide +kernel) (by decide +kernel) (by decide +kernel) (by decide +kernel) (by decide +kernel)
theorem allAtoms_all (ts : List Jvm.Cond) (a : Array Jvm.Value) (st : Jvm.State) : (allAtoms ts).before a st = ts.all (fun c => c.before a st) := by
  induction ts with
  | nil => rfl
  | cons c t ih =>
    show (Jvm.Cond.and c (allAtoms t)).before a st = _
    rw [Jvm.Cond.before_and, ih, List.all_cons]
def words1 : List Jvm.Cond := Jvm.Cond.code x code maxLocals ret :: tables_1
/-- a 'code' word, met by the world's own term for the bytes: nothing is compared byte by byte -/
theorem code_word {y : MethodName} {bytes : ByteArray} {mx : Nat} {rt : Option FieldType} {a : Array Value} {s : State} {m : MethodId} {meth : Method} {c : Code} (h1 : s.methodNamed? y = some m) (h2 : s.vm.method? m = some meth) (h3 : meth.code = some c) (h4 : c.code = bytes)
    (h5 : (c.maxLocals == mx && c.exceptionTable.isEmpty && decide (c.maxStack ≤ mostOperands) && decide (meth.sig.returnType = rt) && !meth.locks && decide (parseMethodDescriptor y.desc = some meth.sig)) = true) : (Jvm.Cond.code y bytes mx rt).before a s = true := by
  simp only [Bool.and_eq_true, beq_iff_eq, Bool.not_eq_true', decide_eq_true_eq] at h5
  obtain ⟨⟨⟨⟨⟨g1, g2⟩, g3⟩, g4⟩, g5⟩, g6⟩ := h5
  simp [Cond.before, Cond.holds, Cond.value, h1, h2, h3, h4, g1, g2, g3, g4, g5, g6]
def isCode : Jvm.Cond → Bool
  | .code _ _ _ _ => true
  | _ => false
theorem all_split {L : List Jvm.Cond} {P : Jvm.Cond → Bool} (h1 : L.all (fun c => isCode c || P c) = true) (h2 : ∀ c ∈ L.filter isCode, P c = true) : L.all P = true := by
  refine List.all_eq_true.mpr fun c hc => ?_
  have h := List.all_eq_true.mp h1 c hc
  rcases Bool.eq_false_or_eq_true (isCode c) with hi | hi
  · exact h2 c (List.mem_filter.mpr ⟨hc, hi⟩)
  · simpa [hi] using h
set_option maxRecDepth 65536 in
theorem w_c0 : (Jvm.Cond.code x code maxLocals ret).before args0 about1 = true := code_word (m := ⟨1, 1⟩) (meth := k1m1) (c := k1c1) (by decide +kernel) rfl rfl rfl (by decide +kernel)
set_option maxRecDepth 65536 in
theorem w_c1 : (Jvm.Cond.code ({ cls := "com/example/clariq/clariq/operators/RegexTerm", name := "sum", desc := "(JJ)J" } : Jvm.MethodName) prog_133_method_2_code (4 : Nat) (Option.some Jvm.ClassFile.FieldType.long)).before args0 about1 = true := code_word (m := ⟨2, 0⟩) (meth := k2m0) (c := k2c0) (by decide +kernel) rfl rfl rfl (by decide +kernel)
def codes1 : List Jvm.Cond := [Jvm.Cond.code x code maxLocals ret, Jvm.Cond.code ({ cls := "com/example/clariq/clariq/operators/RegexTerm", name := "sum", desc := "(JJ)J" } : Jvm.MethodName) prog_133_method_2_code (4 : Nat) (Option.some Jvm.ClassFile.FieldType.long)]
set_option maxRecDepth 65536 in
theorem codes_eq : words1.filter isCode = codes1 := rfl
theorem w_codes : ∀ c ∈ words1.filter isCode, c.before args0 about1 = true := by
  rw [codes_eq]
  intro c hc
  simp only [codes1, List.mem_cons, List.not_mem_nil, or_false] at hc
  rcases hc with rfl | rfl
  · exact w_c0
  · exact w_c1
set_option maxRecDepth 65536 in
theorem w_t1 : words1.all (fun c => isCode c || c.before args0 about1) = true := by decide +kernel
theorem w_tables : (allAtoms (Jvm.Cond.code x code maxLocals ret :: tables_1)).before args0 about1 = true := by
  rw [allAtoms_all]
  show words1.all (fun c => c.before args0 about1) = true
  refine all_split ?_ w_codes
  rw [w_t1]
set_option maxRecDepth 65536 in
theorem w_case : (Jvm.Cond.and given_1 narrow_1).before args0 about1 = true := by decide +kernel
theorem w_applies : (headSpec (Jvm.Cond.code x code maxLocals ret :: tables_1) room_1).applies x e0.platform about1 = true :=
  (Spec.applies_iff w_frames).mpr ⟨w_running, w_runnable, w_alone, w_named, w_hears, w_ripe, w_room, w_tables⟩
theorem atStart : AtStart classFile x code maxLocals ret World_1 tables_1 room_1 Calls_1 rest_1 Pre_1 launch0 p0 e0 about1 theMethod args0 below0 :=
  ⟨lists_1, trivial, launch0.admits_env _ _ _, launch0.least_env, fairChoices_fair.cas, fairChoices_fair.clock, w_frames, w_args, w_heap, w_applies, trivial, trivial, w_case⟩
end start1
theorem witness_1 : WitnessClaimed_1 := ⟨start1.p0, start1.e0, start1.about1, start1.theMethod, start1.args0, start1.below0, start1.atStart⟩
end Jvm.Pilot.@@N@@
