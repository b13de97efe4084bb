import JvmDerived
import JvmDerived.Pilot.@@N@@Statement
import JvmDerived.Pilot.@@N@@Code
set_option linter.unusedVariables false
set_option linter.unusedSimpArgs false
namespace Jvm.RoadKit
open Sem ClassFile Op Lib Jvm.Stand Jvm.Free Jvm.LawKit
section New
variable {p : Program} {l : Launch} {e : Env} {R : Room} {s : State} {m : MethodId} {args : Array Value} {below : List Frame} {meth : Method} {c : Code} {T : State} {locs : List Loc} {cells slots : Nat}
theorem retI (X : Stand p l e R s m args below meth c T locs cells slots) (hx : p.tables.exec = Jvm.exec) {pc : Nat} {Ls : Array Slot} {z : Int32} {rest : List Value} (hret : meth.sig.returnType = some .int) (hd : decode c.code pc = .ok (.ireturn, 1)) {fs : List Frame}
    (hl : ∀ (f : JFrame) (acts : List Action), f.method = m → f.locked = none → f.entered = [] → (doReturn e (T.setTop f) acts (some (.int z))).1 = T.setFrames fs) : Steps p.tables e below (T.setTop (mkF m pc Ls (.int z :: rest))) (T.setFrames fs) := by
  have hm' : T.vm.method? m = some meth := X.method'
  have hn : narrow .int (.int z) = .int z := rfl
  show Steps p.tables e below (T.setTop { method := m, pc := pc, locals := Ls, stack := _ :: rest, locked := none }) _
  jvm_step X.here [X.here.top, hx, hd, hm', hret, hn]
  first | (intro acts; rw [hl _ acts rfl rfl rfl]) | rw [hl _ _ rfl rfl rfl]
  exact Steps.refl _
end New
end Jvm.RoadKit
namespace Jvm.Pilot.@@N@@
open Jvm Jvm.ClassFile Sem Op Lib Jvm.Free Jvm.Stand Jvm.LawKit Jvm.RoadKit Bundle Jvm.Pilot.@@N@@.Jvm.D
theorem own_sel {s : State} {args : Array Value} {n : Nat} {y : MethodName} (hy : y.cls ≠ "java/lang/invoke/MethodHandle" ∧ y.cls ≠ "java/lang/invoke/VarHandle") (hins : (Cond.instantiable y.cls n).before args s = true) (hpriv : (Cond.privateMethod y).before args s = true) (hinst : (Cond.instanceMethod y).before args s = true) :
    (Cond.selects y.cls y y).before args s = true := by
  obtain ⟨c, k, hc, hk, -, hniab, -, -⟩ := Cond.instantiable_spec hins
  have hni : k.isInterface = false := (Bool.or_eq_false_iff.mp hniab).1
  obtain ⟨mk, methM, hnamed, hmethM, -, -⟩ := Cond.instanceMethod_spec hinst
  have hfound : s.methodFound? y.cls y.name y.desc = some mk := State.methodFound?_of_named hnamed hy
  have hcls : mk.cls = c := Option.some.inj ((findClass_of_methodNamed hnamed).symm.trans hc)
  have hsel : selectMethod {} s.vm c mk = .method mk := selectMethod_private hmethM (Cond.privateMethod_at hpriv mk methM hnamed hmethM)
  simp only [Cond.before, Cond.holds, Cond.value, hc, hfound, hnamed, hsel, hcls, hk]
  simp; exact hni
abbrev In3 (x : Int32) : Prop := ¬ x < 0 ∧ x < 3
/-- an array of three places -/
def Pa (Z : State) (h : Heap) (a : Addr) : Prop := ∃ c : Cell, Arr Z h a c .int ∧ c.slots.size = (3 : Int32).toNatClampNeg
def Ia (Z : State) (h : Heap) (a : Addr) : Prop := ∃ c : Cell, Arr Z h a c .int ∧ c.slots.size = (3 : Int32).toNatClampNeg ∧ ∀ k, k < 3 → ∃ x : Int32, c.slots[k]? = some (.int x) ∧ In3 x
def Ra (Z : State) (h : Heap) (a : Addr) : Prop := ∃ c : Cell, Arr Z h a c .long ∧ c.slots.size = (3 : Int32).toNatClampNeg ∧ ∀ k, k < 3 → ∃ x : Int64, c.slots[k]? = some (.long x)
theorem own_three : (3 : Int32).toNatClampNeg = 3 := by decide
theorem own_k {c : Cell} {j : Int32} (S : c.slots.size = (3 : Int32).toNatClampNeg) (h : ¬ (j < 0 ∨ c.slots.size ≤ j.toNatClampNeg)) : j.toNatClampNeg < 3 := by
  rw [S, own_three] at h
  exact Nat.lt_of_not_le fun q => h (Or.inr q)
theorem own_Pa_ext {Z : State} {h h' : Heap} {a : Addr} (F : Pa Z h a) (E : Ext h h') : Pa Z h' a := by obtain ⟨c, A, r⟩ := F; exact ⟨c, A.ext E, r⟩
theorem own_Ia_ext {Z : State} {h h' : Heap} {a : Addr} (F : Ia Z h a) (E : Ext h h') : Ia Z h' a := by obtain ⟨c, A, r⟩ := F; exact ⟨c, A.ext E, r⟩
theorem own_Ra_ext {Z : State} {h h' : Heap} {a : Addr} (F : Ra Z h a) (E : Ext h h') : Ra Z h' a := by obtain ⟨c, A, r⟩ := F; exact ⟨c, A.ext E, r⟩
theorem own_Pa_other {Z : State} {h h' : Heap} {a b : Addr} {sl : Nat} {v : Value} (F : Pa Z h b) (W : Wr h h' a sl v) (q : b ≠ a) : Pa Z h' b := by obtain ⟨c, A, r⟩ := F; exact ⟨c, A.other W q, r⟩
theorem own_Ia_other {Z : State} {h h' : Heap} {a b : Addr} {sl : Nat} {v : Value} (F : Ia Z h b) (W : Wr h h' a sl v) (q : b ≠ a) : Ia Z h' b := by obtain ⟨c, A, r⟩ := F; exact ⟨c, A.other W q, r⟩
theorem own_Ra_other {Z : State} {h h' : Heap} {a b : Addr} {sl : Nat} {v : Value} (F : Ra Z h b) (W : Wr h h' a sl v) (q : b ≠ a) : Ra Z h' b := by obtain ⟨c, A, r⟩ := F; exact ⟨c, A.other W q, r⟩
theorem own_Pa_set {Z : State} {h h' : Heap} {a : Addr} {sl : Nat} {v : Value} (F : Pa Z h a) (W : Wr h h' a sl v) : Pa Z h' a := by
  obtain ⟨c, A, S⟩ := F
  exact ⟨_, A.same W, by rw [sz_set]; exact S⟩
theorem own_Ia_set {Z : State} {h h' : Heap} {a : Addr} {sl : Nat} {x : Int32} (F : Ia Z h a) (W : Wr h h' a sl (.int x)) (hx : In3 x) : Ia Z h' a := by
  obtain ⟨c, A, S, H⟩ := F
  refine ⟨_, A.same W, by rw [sz_set]; exact S, fun k hk => ?_⟩
  obtain ⟨y, e, hy⟩ := H k hk
  have hs : k < c.slots.size := by rw [S, own_three]; exact hk
  by_cases q : sl = k
  · subst q
    exact ⟨x, by simp [Cell.setSlot, hs], hx⟩
  · exact ⟨y, by rw [show (c.setSlot sl (.int x)).slots[k]? = c.slots[k]? from Array.getElem?_setIfInBounds_ne q]; exact e, hy⟩
def Inv (Z : State) (h : Heap) (o r hp pl : Addr) (n : Int32) : Prop := Exa Z h o "com/example/subterm/subterm/algorithm/IndexedHeap" ∧ Fld Z h o "com/example/subterm/subterm/algorithm/IndexedHeap" "ranks" "[J" (.ref r) ∧ Fld Z h o "com/example/subterm/subterm/algorithm/IndexedHeap" "heap" "[I" (.ref hp) ∧ Fld Z h o "com/example/subterm/subterm/algorithm/IndexedHeap" "places" "[I" (.ref pl) ∧ Fld Z h o "com/example/subterm/subterm/algorithm/IndexedHeap" "size" "I" (.int n) ∧ Ra Z h r ∧ Ia Z h hp ∧ Pa Z h pl
def Dis (n0 : Nat) (o r hp pl : Addr) : Prop := n0 ≤ o ∧ n0 ≤ hp ∧ n0 ≤ pl ∧ r ≠ o ∧ hp ≠ o ∧ pl ≠ o ∧ r ≠ hp ∧ r ≠ pl ∧ hp ≠ pl
theorem own_inv_size {Z : State} {a0 : Array Value} (hw : ∀ d ∈ tables_1, d.before a0 Z = true) {h h' : Heap} {n0 : Nat} {o r hp pl : Addr} {n n' : Int32} (D : Dis n0 o r hp pl) (I : Inv Z h o r hp pl n) (W : Wr h h' o (Jvm.RoadKit.slotOf Z "com/example/subterm/subterm/algorithm/IndexedHeap" "size" "I") (.int n')) : Inv Z h' o r hp pl n' := by
  obtain ⟨E, F1, F2, F3, F4, R, A, P⟩ := I
  obtain ⟨-, -, -, d1, d2, d3, -⟩ := D
  exact ⟨E.wr W, F1.other W (Or.inr (slot_ne (Or.inr (hw _ (List.mem_of_getElem? (i := 11) rfl))) (Or.inl (hw _ (List.mem_of_getElem? (i := 23) rfl))) (by decide) (t := (.array .long)) (t' := .int) (by decide) (by decide))), F2.other W (Or.inr (slot_ne (Or.inr (hw _ (List.mem_of_getElem? (i := 14) rfl))) (Or.inl (hw _ (List.mem_of_getElem? (i := 23) rfl))) (by decide) (t := (.array .int)) (t' := .int) (by decide) (by decide))), F3.other W (Or.inr (slot_ne (Or.inr (hw _ (List.mem_of_getElem? (i := 16) rfl))) (Or.inl (hw _ (List.mem_of_getElem? (i := 23) rfl))) (by decide) (t := (.array .int)) (t' := .int) (by decide) (by decide))), Fld.same W F4, own_Ra_other R W d1, own_Ia_other A W d2, own_Pa_other P W d3⟩
theorem own_inv_heap {Z : State} {h h' : Heap} {n0 : Nat} {o r hp pl : Addr} {n x : Int32} {sl : Nat} (D : Dis n0 o r hp pl) (I : Inv Z h o r hp pl n) (W : Wr h h' hp sl (.int x)) (hx : In3 x) : Inv Z h' o r hp pl n := by
  obtain ⟨E, F1, F2, F3, F4, R, A, P⟩ := I
  obtain ⟨-, -, -, d1, d2, d3, d4, d5, d6⟩ := D
  exact ⟨E.wr W, F1.other W (Or.inl d2.symm), F2.other W (Or.inl d2.symm), F3.other W (Or.inl d2.symm), F4.other W (Or.inl d2.symm), own_Ra_other R W d4, own_Ia_set A W hx, own_Pa_other P W d6.symm⟩
theorem own_inv_places {Z : State} {h h' : Heap} {n0 : Nat} {o r hp pl : Addr} {n : Int32} {sl : Nat} {v : Value} (D : Dis n0 o r hp pl) (I : Inv Z h o r hp pl n) (W : Wr h h' pl sl v) : Inv Z h' o r hp pl n := by
  obtain ⟨E, F1, F2, F3, F4, R, A, P⟩ := I
  obtain ⟨-, -, -, d1, d2, d3, d4, d5, d6⟩ := D
  exact ⟨E.wr W, F1.other W (Or.inl d3.symm), F2.other W (Or.inl d3.symm), F3.other W (Or.inl d3.symm), F4.other W (Or.inl d3.symm), own_Ra_other R W d5, own_Ia_other A W d6, own_Pa_set P W⟩
theorem own_and3 (x : Int32) : x &&& 3 = 0 ∨ x &&& 3 = 1 ∨ x &&& 3 = 2 ∨ x &&& 3 = 3 := by
  have h : ∀ b : BitVec 32, b &&& 3#32 = 0#32 ∨ b &&& 3#32 = 1#32 ∨ b &&& 3#32 = 2#32 ∨ b &&& 3#32 = 3#32 := fun b => by
    have e : (b &&& 3#32).toNat = b.toNat % 4 := by rw [BitVec.toNat_and]; exact Nat.and_two_pow_sub_one_eq_mod b.toNat 2
    have q : b.toNat % 4 = 0 ∨ b.toNat % 4 = 1 ∨ b.toNat % 4 = 2 ∨ b.toNat % 4 = 3 := by omega
    rcases q with q | q | q | q
    · left; apply BitVec.eq_of_toNat_eq; rw [e, q]; rfl
    · right; left; apply BitVec.eq_of_toNat_eq; rw [e, q]; rfl
    · right; right; left; apply BitVec.eq_of_toNat_eq; rw [e, q]; rfl
    · right; right; right; apply BitVec.eq_of_toNat_eq; rw [e, q]; rfl
  rcases h x.toBitVec with h | h | h | h
  · left; exact Int32.toBitVec_inj.mp h
  · right; left; exact Int32.toBitVec_inj.mp h
  · right; right; left; exact Int32.toBitVec_inj.mp h
  · right; right; right; exact Int32.toBitVec_inj.mp h
theorem own_pn0 : plainName "com/example/subterm/subterm/algorithm/IndexedHeap" = true := by first | (simp [plainName, overriddenIn]; done) | decide +kernel
theorem own_pd0 : parseMethodDescriptor "(II)V" = some ⟨[.int, .int], none⟩ := by decide +kernel
theorem own_pd1 : parseMethodDescriptor "(I)V" = some ⟨[.int], none⟩ := by decide +kernel
theorem own_pd2 : parseMethodDescriptor "([J)V" = some ⟨[(.array .long)], none⟩ := by decide +kernel
theorem own_pd3 : parseMethodDescriptor "()Z" = some ⟨[], some .boolean⟩ := by decide +kernel
theorem own_pd4 : parseMethodDescriptor "()I" = some ⟨[], some .int⟩ := by decide +kernel
theorem own_pn1 : plainName "com/example/subterm/subterm/algorithm/IndexedHeapIsEmptyPinLaw" = true := by first | (simp [plainName, overriddenIn]; done) | decide +kernel
def QV (Z : State) (o r hp pl : Addr) (n : Int32) (n0 : Nat) (v : Option Value) (h : Heap) (L : List Loc) : Prop := v = none ∧ Fr n0 L ∧ n0 ≤ h.size ∧ Inv Z h o r hp pl n
def QI (Z : State) (o r hp pl : Addr) (n : Int32) (n0 : Nat) (v : Option Value) (h : Heap) (L : List Loc) : Prop := ∃ x : Int32, v = some (.int x) ∧ Fr n0 L ∧ n0 ≤ h.size ∧ Inv Z h o r hp pl n
def Q3 (n : Int32) (h0 : Heap) (n0 : Nat) (v : Option Value) (h : Heap) (L : List Loc) : Prop := v = some (.int (if n = 0 then 1 else 0)) ∧ Fr n0 L ∧ h = h0
def Q1 (Z : State) (o r : Addr) (n0 : Nat) (v : Option Value) (h : Heap) (L : List Loc) : Prop := ∃ hp pl, v = none ∧ Fr n0 L ∧ n0 ≤ h.size ∧ Dis n0 o r hp pl ∧ Inv Z h o r hp pl 0
def Q0 (n0 : Nat) (v : Option Value) (h : Heap) (L : List Loc) : Prop := v = some (.int 1) ∧ Fr n0 L
theorem own_d3_0 : decode prog_6_method_2_code 0 = .ok (.aload_n 0, 1) := by decide +kernel
theorem own_d3_1 : decode prog_6_method_2_code 1 = .ok (.getfield 20, 3) := by decide +kernel
theorem own_d3_4 : decode prog_6_method_2_code 4 = .ok (.ifCond .ne 7, 3) := by decide +kernel
theorem own_d3_7 : decode prog_6_method_2_code 7 = .ok (.iconst 1, 1) := by decide +kernel
theorem own_d3_8 : decode prog_6_method_2_code 8 = .ok (.goto 4, 3) := by decide +kernel
theorem own_d3_11 : decode prog_6_method_2_code 11 = .ok (.iconst 0, 1) := by decide +kernel
theorem own_d3_12 : decode prog_6_method_2_code 12 = .ok (.ireturn, 1) := by decide +kernel
set_option maxRecDepth 65536 in
set_option maxHeartbeats 40000000 in
theorem rm3 (l : Launch) (Z : State) (a0 : Array Value) (hw : ∀ d ∈ tables_1, d.before a0 Z = true) (ws : List Jvm.Cond) (o r hp pl : Addr) (n : Int32) (h0 : Heap) (n0 : Nat) (Z0 : n0 ≤ h0.size) (I0 : Inv Z h0 o r hp pl n) :
    MetFree l (⟨"com/example/subterm/subterm/algorithm/IndexedHeap", "isEmpty", "()Z"⟩ : MethodName) (head1 (Jvm.Cond.code (⟨"com/example/subterm/subterm/algorithm/IndexedHeap", "isEmpty", "()Z"⟩ : MethodName) prog_6_method_2_code 1 (some .boolean) :: ws) ({ frames := 0, cells := 0, slots := 0, locals := 0 } : Room)) (fun a U => a = #[(.ref o)] ∧ Z.Warmed39 U.vm ∧ U.heap = h0) (fun _ _ _ _ _ => True) (fun _ U oc U' => ∃ v L, oc = .returned v ∧ Q3 n h0 n0 v U'.heap L ∧ FrameEnd U oc U' L ({ frames := 0, cells := 0, slots := 0, locals := 0 } : Room).cells ({ frames := 0, cells := 0, slots := 0, locals := 0 } : Room).slots) := by
  refine MetFree.of_bodySF (plainFor_of_name own_pn0) hisR ?_
  intro p e s m args below meth c s₁ Bd hml0 hP hK
  obtain ⟨rfl, hZ, hh⟩ := hP
  have hx := Bd.exec
  have hby := Bd.bytes
  have hml : c.maxLocals = 1 := hml0
  have hown : s.vm.findClass "com/example/subterm/subterm/algorithm/IndexedHeap" = some m.cls := findClass_of_methodNamed Bd.named
  have hnm := (name_of_methodNamed Bd.named Bd.method).1
  have X0 : Stand p l e ({ frames := 0, cells := 0, slots := 0, locals := 0 } : Room) s m #[(.ref o)] below meth c s₁ [] 0 0 := Stand.of_body Bd
  have e0 : s₁.heap = h0 := by rw [← hh, Bd.state]; rfl
  have N0 := Fr.nil n0
  have G0 : Goes p e below s₁ (entryFrame m #[(.ref o)] 1) s₁ (mkF m 0 #[.val (.ref o)] []) := fun _ k => castTop (by first | (simp [entryFrame, mkF, argsToLocals, Value.category]; done) | rfl : (entryFrame m #[(.ref o)] 1) = mkF m 0 #[.val (.ref o)] []) k
  have oi1 := I0
  obtain ⟨E1, F11, F21, F31, F41, R1, A1, P1⟩ := oi1
  have G2 : Goes p e below s₁ (entryFrame m #[(.ref o)] 1) s₁ (mkF m 1 #[.val (.ref o)] [(.ref o)]) := fun _ k => G0 _ (by
      show Steps p.tables e below (s₁.setTop (mkF m 0 #[.val (.ref o)] [])) _
      refine XS.aloadN X0.here hx rfl (hb hby own_d3_0) rfl rfl ?_
      exact k)
  obtain ⟨T3, X3, e3, st3⟩ := getF X0 hx hZ hown (host := "") (Or.inl (hw _ (List.mem_of_getElem? (i := 22) rfl))) Via.refl e0 F41 (g := (mkF m 1 #[.val (.ref o)] [(.ref o)])) rfl rfl (hb hby own_d3_1)
  have G3 : Goes p e below s₁ (entryFrame m #[(.ref o)] 1) T3 (mkF m 4 #[.val (.ref o)] [(.int n)]) := fun _ k => G2 _ (st3 _ k)
  by_cases h1 : n = (0 : Int32)
  · have G4 : Goes p e below s₁ (entryFrame m #[(.ref o)] 1) T3 (mkF m 7 #[.val (.ref o)] []) := fun _ k => G3 _ (by
        show Steps p.tables e below (T3.setTop (mkF m 4 #[.val (.ref o)] [(.int n)])) _
        refine XS.ifNo X3.here hx rfl (hb hby own_d3_4) rfl ((if0 _ _).trans (teq h1).2) ?_
        exact k)
    have G5 : Goes p e below s₁ (entryFrame m #[(.ref o)] 1) T3 (mkF m 12 #[.val (.ref o)] [(.int (1 : Int32))]) := fun _ k => G4 _ (by
        show Steps p.tables e below (T3.setTop (mkF m 7 #[.val (.ref o)] [])) _
        refine XS.iconst X3.here hx rfl (hb hby own_d3_7) ?_
        show Steps p.tables e below (T3.setTop (mkF m 8 #[.val (.ref o)] [(.int (1 : Int32))])) _
        refine XS.goto X3.here hx rfl (pc0 := 8) (pc' := 12) rfl (hb hby own_d3_8) (by decide) (by decide) ?_
        exact k)
    obtain ⟨fs, hr, hrun, hended, hW, hsame⟩ := X3.leave (v := some (.int (1 : Int32))) (fun h => by rw [Bd.returns] at h; cases h)
    refine ⟨_, _, G5 _ (retN X3 hx (t := .boolean) Bd.returns (by simp) (hb hby own_d3_12) hr), hrun, hended, _, _, rfl, ?_, ⟨_, rfl⟩, hW, hsame.mono (by decide) (by decide)⟩
    show Q3 n h0 n0 _ T3.heap _
    rw [e3]
    exact ⟨by simp [h1], N0, rfl⟩
  · have G6 : Goes p e below s₁ (entryFrame m #[(.ref o)] 1) T3 (mkF m 11 #[.val (.ref o)] []) := fun _ k => G3 _ (by
        show Steps p.tables e below (T3.setTop (mkF m 4 #[.val (.ref o)] [(.int n)])) _
        refine XS.ifYes X3.here hx rfl (pc0 := 4) (pc' := 11) rfl (hb hby own_d3_4) rfl ((if0 _ _).trans (feq h1).2) (by decide) (by decide) ?_
        exact k)
    have G7 : Goes p e below s₁ (entryFrame m #[(.ref o)] 1) T3 (mkF m 12 #[.val (.ref o)] [(.int (0 : Int32))]) := fun _ k => G6 _ (by
        show Steps p.tables e below (T3.setTop (mkF m 11 #[.val (.ref o)] [])) _
        refine XS.iconst X3.here hx rfl (hb hby own_d3_11) ?_
        exact k)
    obtain ⟨fs, hr, hrun, hended, hW, hsame⟩ := X3.leave (v := some (.int (0 : Int32))) (fun h => by rw [Bd.returns] at h; cases h)
    refine ⟨_, _, G7 _ (retN X3 hx (t := .boolean) Bd.returns (by simp) (hb hby own_d3_12) hr), hrun, hended, _, _, rfl, ?_, ⟨_, rfl⟩, hW, hsame.mono (by decide) (by decide)⟩
    show Q3 n h0 n0 _ T3.heap _
    rw [e3]
    exact ⟨by simp [h1], N0, rfl⟩
theorem own_d6_0 : decode prog_6_method_8_code 0 = .ok (.aload_n 0, 1) := by decide +kernel
theorem own_d6_1 : decode prog_6_method_8_code 1 = .ok (.getfield 13, 3) := by decide +kernel
theorem own_d6_4 : decode prog_6_method_8_code 4 = .ok (.iload_n 2, 1) := by decide +kernel
theorem own_d6_5 : decode prog_6_method_8_code 5 = .ok (.iload_n 1, 1) := by decide +kernel
theorem own_d6_6 : decode prog_6_method_8_code 6 = .ok (.iastore, 1) := by decide +kernel
theorem own_d6_7 : decode prog_6_method_8_code 7 = .ok (.aload_n 0, 1) := by decide +kernel
theorem own_d6_8 : decode prog_6_method_8_code 8 = .ok (.getfield 17, 3) := by decide +kernel
theorem own_d6_11 : decode prog_6_method_8_code 11 = .ok (.iload_n 1, 1) := by decide +kernel
theorem own_d6_12 : decode prog_6_method_8_code 12 = .ok (.iload_n 2, 1) := by decide +kernel
theorem own_d6_13 : decode prog_6_method_8_code 13 = .ok (.iastore, 1) := by decide +kernel
theorem own_d6_14 : decode prog_6_method_8_code 14 = .ok (.return_, 1) := by decide +kernel
set_option maxRecDepth 65536 in
set_option maxHeartbeats 40000000 in
theorem rm6 (l : Launch) (Z : State) (a0 : Array Value) (hw : ∀ d ∈ tables_1, d.before a0 Z = true) (ws : List Jvm.Cond) (o r hp pl : Addr) (n : Int32) (p1 p2 : Int32) (h0 : Heap) (n0 : Nat) (Z0 : n0 ≤ h0.size) (I0 : Inv Z h0 o r hp pl n) (D : Dis n0 o r hp pl) (hp1 : In3 p1) (hp2 : In3 p2) :
    MetFree l (⟨"com/example/subterm/subterm/algorithm/IndexedHeap", "put", "(II)V"⟩ : MethodName) (head1 (Jvm.Cond.code (⟨"com/example/subterm/subterm/algorithm/IndexedHeap", "put", "(II)V"⟩ : MethodName) prog_6_method_8_code 3 none :: ws) ({ frames := 0, cells := 0, slots := 0, locals := 0 } : Room)) (fun a U => a = #[(.ref o), (.int p1), (.int p2)] ∧ Z.Warmed39 U.vm ∧ U.heap = h0) (fun _ _ _ _ _ => True) (fun _ U oc U' => ∃ v L, oc = .returned v ∧ QV Z o r hp pl n n0 v U'.heap L ∧ FrameEnd U oc U' L ({ frames := 0, cells := 0, slots := 0, locals := 0 } : Room).cells ({ frames := 0, cells := 0, slots := 0, locals := 0 } : Room).slots) := by
  refine MetFree.of_bodySF (plainFor_of_name own_pn0) hisR ?_
  intro p e s m args below meth c s₁ Bd hml0 hP hK
  obtain ⟨rfl, hZ, hh⟩ := hP
  have hx := Bd.exec
  have hby := Bd.bytes
  have hml : c.maxLocals = 3 := hml0
  have hown : s.vm.findClass "com/example/subterm/subterm/algorithm/IndexedHeap" = some m.cls := findClass_of_methodNamed Bd.named
  have hnm := (name_of_methodNamed Bd.named Bd.method).1
  have X0 : Stand p l e ({ frames := 0, cells := 0, slots := 0, locals := 0 } : Room) s m #[(.ref o), (.int p1), (.int p2)] below meth c s₁ [] 0 0 := Stand.of_body Bd
  have e0 : s₁.heap = h0 := by rw [← hh, Bd.state]; rfl
  have N0 := Fr.nil n0
  have G0 : Goes p e below s₁ (entryFrame m #[(.ref o), (.int p1), (.int p2)] 3) s₁ (mkF m 0 #[.val (.ref o), .val (.int p1), .val (.int p2)] []) := fun _ k => castTop (by first | (simp [entryFrame, mkF, argsToLocals, Value.category]; done) | rfl : (entryFrame m #[(.ref o), (.int p1), (.int p2)] 3) = mkF m 0 #[.val (.ref o), .val (.int p1), .val (.int p2)] []) k
  have Zn := Z0
  have D' := D
  obtain ⟨go, ghp, gpl, -⟩ := D'
  have oi1 := I0
  obtain ⟨E1, F11, F21, F31, F41, R1, A1, P1⟩ := oi1
  have G2 : Goes p e below s₁ (entryFrame m #[(.ref o), (.int p1), (.int p2)] 3) s₁ (mkF m 1 #[.val (.ref o), .val (.int p1), .val (.int p2)] [(.ref o)]) := fun _ k => G0 _ (by
      show Steps p.tables e below (s₁.setTop (mkF m 0 #[.val (.ref o), .val (.int p1), .val (.int p2)] [])) _
      refine XS.aloadN X0.here hx rfl (hb hby own_d6_0) rfl rfl ?_
      exact k)
  obtain ⟨T3, X3, e3, st3⟩ := getF X0 hx hZ hown (host := "") (Or.inl (hw _ (List.mem_of_getElem? (i := 13) rfl))) Via.refl e0 F21 (g := (mkF m 1 #[.val (.ref o), .val (.int p1), .val (.int p2)] [(.ref o)])) rfl rfl (hb hby own_d6_1)
  have G3 : Goes p e below s₁ (entryFrame m #[(.ref o), (.int p1), (.int p2)] 3) T3 (mkF m 4 #[.val (.ref o), .val (.int p1), .val (.int p2)] [(.ref hp)]) := fun _ k => G2 _ (st3 _ k)
  have G4 : Goes p e below s₁ (entryFrame m #[(.ref o), (.int p1), (.int p2)] 3) T3 (mkF m 6 #[.val (.ref o), .val (.int p1), .val (.int p2)] [(.int p1), (.int p2), (.ref hp)]) := fun _ k => G3 _ (by
      show Steps p.tables e below (T3.setTop (mkF m 4 #[.val (.ref o), .val (.int p1), .val (.int p2)] [(.ref hp)])) _
      refine XS.iloadN X3.here hx rfl (hb hby own_d6_4) rfl ?_
      show Steps p.tables e below (T3.setTop (mkF m 5 #[.val (.ref o), .val (.int p1), .val (.int p2)] [(.int p2), (.ref hp)])) _
      refine XS.iloadN X3.here hx rfl (hb hby own_d6_5) rfl ?_
      exact k)
  have vc5 := A1
  obtain ⟨cl5, Ar5, S5, -⟩ := vc5
  have hin5 : ¬ (p2 < 0 ∨ cl5.slots.size ≤ (p2).toNatClampNeg) := inb_of S5 hp2
  obtain ⟨T6, h6, X6, e6, W6, st6⟩ := stI X3 hx hZ e3 Ar5 (j := p2) hin5 (g := (mkF m 6 #[.val (.ref o), .val (.int p1), .val (.int p2)] [(.int p1), (.int p2), (.ref hp)])) rfl rfl (hb hby own_d6_6)
  have G6 : Goes p e below s₁ (entryFrame m #[(.ref o), (.int p1), (.int p2)] 3) T6 (mkF m 7 #[.val (.ref o), .val (.int p1), .val (.int p2)] []) := fun _ k => G4 _ (st6 _ k)
  have N6 := Fr.snoc X6 N0 ghp
  have Zn : n0 ≤ h6.size := Nat.le_trans Zn (Nat.le_of_eq W6.size.symm)
  have I6 := own_inv_heap D I0 W6 hp1
  have oi7 := I6
  obtain ⟨E7, F17, F27, F37, F47, R7, A7, P7⟩ := oi7
  have G8 : Goes p e below s₁ (entryFrame m #[(.ref o), (.int p1), (.int p2)] 3) T6 (mkF m 8 #[.val (.ref o), .val (.int p1), .val (.int p2)] [(.ref o)]) := fun _ k => G6 _ (by
      show Steps p.tables e below (T6.setTop (mkF m 7 #[.val (.ref o), .val (.int p1), .val (.int p2)] [])) _
      refine XS.aloadN X6.here hx rfl (hb hby own_d6_7) rfl rfl ?_
      exact k)
  obtain ⟨T9, X9, e9, st9⟩ := getF X6 hx hZ hown (host := "") (Or.inl (hw _ (List.mem_of_getElem? (i := 15) rfl))) Via.refl e6 F37 (g := (mkF m 8 #[.val (.ref o), .val (.int p1), .val (.int p2)] [(.ref o)])) rfl rfl (hb hby own_d6_8)
  have G9 : Goes p e below s₁ (entryFrame m #[(.ref o), (.int p1), (.int p2)] 3) T9 (mkF m 11 #[.val (.ref o), .val (.int p1), .val (.int p2)] [(.ref pl)]) := fun _ k => G8 _ (st9 _ k)
  have G10 : Goes p e below s₁ (entryFrame m #[(.ref o), (.int p1), (.int p2)] 3) T9 (mkF m 13 #[.val (.ref o), .val (.int p1), .val (.int p2)] [(.int p2), (.int p1), (.ref pl)]) := fun _ k => G9 _ (by
      show Steps p.tables e below (T9.setTop (mkF m 11 #[.val (.ref o), .val (.int p1), .val (.int p2)] [(.ref pl)])) _
      refine XS.iloadN X9.here hx rfl (hb hby own_d6_11) rfl ?_
      show Steps p.tables e below (T9.setTop (mkF m 12 #[.val (.ref o), .val (.int p1), .val (.int p2)] [(.int p1), (.ref pl)])) _
      refine XS.iloadN X9.here hx rfl (hb hby own_d6_12) rfl ?_
      exact k)
  have vc11 := P7
  obtain ⟨cl11, Ar11, S11⟩ := vc11
  have hin11 : ¬ (p1 < 0 ∨ cl11.slots.size ≤ (p1).toNatClampNeg) := inb_of S11 hp1
  obtain ⟨T12, h12, X12, e12, W12, st12⟩ := stI X9 hx hZ e9 Ar11 (j := p1) hin11 (g := (mkF m 13 #[.val (.ref o), .val (.int p1), .val (.int p2)] [(.int p2), (.int p1), (.ref pl)])) rfl rfl (hb hby own_d6_13)
  have G12 : Goes p e below s₁ (entryFrame m #[(.ref o), (.int p1), (.int p2)] 3) T12 (mkF m 14 #[.val (.ref o), .val (.int p1), .val (.int p2)] []) := fun _ k => G10 _ (st12 _ k)
  have N12 := Fr.snoc X12 N6 gpl
  have Zn : n0 ≤ h12.size := Nat.le_trans Zn (Nat.le_of_eq W12.size.symm)
  have I12 := own_inv_places D I6 W12
  obtain ⟨fs, hr, hrun, hended, hW, hsame⟩ := X12.leave (v := none) (fun _ => rfl)
  refine ⟨_, _, G12 _ (X12.returnOut hx Bd.returns (hb hby own_d6_14) hr), hrun, hended, _, _, rfl, ?_, ⟨_, rfl⟩, hW, hsame.mono (by decide) (by decide)⟩
  show QV Z o r hp pl n n0 _ T12.heap _
  rw [e12]
  exact ⟨rfl, N12, Zn, I12⟩
theorem own_d5_0 : decode prog_6_method_6_code 0 = .ok (.aload_n 0, 1) := by decide +kernel
theorem own_d5_1 : decode prog_6_method_6_code 1 = .ok (.getfield 13, 3) := by decide +kernel
theorem own_d5_4 : decode prog_6_method_6_code 4 = .ok (.iload_n 1, 1) := by decide +kernel
theorem own_d5_5 : decode prog_6_method_6_code 5 = .ok (.iaload, 1) := by decide +kernel
theorem own_d5_6 : decode prog_6_method_6_code 6 = .ok (.istore_n 2, 1) := by decide +kernel
theorem own_d5_7 : decode prog_6_method_6_code 7 = .ok (.aload_n 0, 1) := by decide +kernel
theorem own_d5_8 : decode prog_6_method_6_code 8 = .ok (.getfield 7, 3) := by decide +kernel
theorem own_d5_11 : decode prog_6_method_6_code 11 = .ok (.iload_n 2, 1) := by decide +kernel
theorem own_d5_12 : decode prog_6_method_6_code 12 = .ok (.laload, 1) := by decide +kernel
theorem own_d5_13 : decode prog_6_method_6_code 13 = .ok (.lstore_n 3, 1) := by decide +kernel
theorem own_d5_14 : decode prog_6_method_6_code 14 = .ok (.iload_n 1, 1) := by decide +kernel
theorem own_d5_15 : decode prog_6_method_6_code 15 = .ok (.istore 5, 2) := by decide +kernel
theorem own_d5_17 : decode prog_6_method_6_code 17 = .ok (.iload 5, 2) := by decide +kernel
theorem own_d5_19 : decode prog_6_method_6_code 19 = .ok (.ifCond .le 52, 3) := by decide +kernel
theorem own_d5_71 : decode prog_6_method_6_code 71 = .ok (.aload_n 0, 1) := by decide +kernel
theorem own_d5_72 : decode prog_6_method_6_code 72 = .ok (.iload_n 2, 1) := by decide +kernel
theorem own_d5_73 : decode prog_6_method_6_code 73 = .ok (.iload 5, 2) := by decide +kernel
theorem own_d5_75 : decode prog_6_method_6_code 75 = .ok (.invokevirtual 31, 3) := by decide +kernel
theorem own_d5_78 : decode prog_6_method_6_code 78 = .ok (.return_, 1) := by decide +kernel
set_option maxRecDepth 65536 in
set_option maxHeartbeats 40000000 in
theorem rm5_0 (l : Launch) (Z : State) (a0 : Array Value) (hw : ∀ d ∈ tables_1, d.before a0 Z = true) (ws : List Jvm.Cond) (o r hp pl : Addr) (n : Int32) (h0 : Heap) (n0 : Nat) (Z0 : n0 ≤ h0.size) (I0 : Inv Z h0 o r hp pl n) (D : Dis n0 o r hp pl) :
    MetFree l (⟨"com/example/subterm/subterm/algorithm/IndexedHeap", "moveUp", "(I)V"⟩ : MethodName) (head1 (Jvm.Cond.code (⟨"com/example/subterm/subterm/algorithm/IndexedHeap", "moveUp", "(I)V"⟩ : MethodName) prog_6_method_6_code 7 none :: ws) ({ frames := 1, cells := 0, slots := 0, locals := 14 } : Room)) (fun a U => a = #[(.ref o), (.int (0 : Int32))] ∧ Z.Warmed39 U.vm ∧ U.heap = h0) (fun _ _ _ _ _ => True) (fun _ U oc U' => ∃ v L, oc = .returned v ∧ QV Z o r hp pl n n0 v U'.heap L ∧ FrameEnd U oc U' L ({ frames := 1, cells := 0, slots := 0, locals := 14 } : Room).cells ({ frames := 1, cells := 0, slots := 0, locals := 14 } : Room).slots) := by
  refine MetFree.of_bodySF (plainFor_of_name own_pn0) hisR ?_
  intro p e s m args below meth c s₁ Bd hml0 hP hK
  obtain ⟨rfl, hZ, hh⟩ := hP
  have hx := Bd.exec
  have hby := Bd.bytes
  have hml : c.maxLocals = 7 := hml0
  have hown : s.vm.findClass "com/example/subterm/subterm/algorithm/IndexedHeap" = some m.cls := findClass_of_methodNamed Bd.named
  have hnm := (name_of_methodNamed Bd.named Bd.method).1
  have X0 : Stand p l e ({ frames := 1, cells := 0, slots := 0, locals := 14 } : Room) s m #[(.ref o), (.int (0 : Int32))] below meth c s₁ [] 0 0 := Stand.of_body Bd
  have e0 : s₁.heap = h0 := by rw [← hh, Bd.state]; rfl
  have N0 := Fr.nil n0
  have G0 : Goes p e below s₁ (entryFrame m #[(.ref o), (.int (0 : Int32))] 7) s₁ (mkF m 0 #[.val (.ref o), .val (.int (0 : Int32)), .unset, .unset, .unset, .unset, .unset] []) := fun _ k => castTop (by first | (simp [entryFrame, mkF, argsToLocals, Value.category]; done) | rfl : (entryFrame m #[(.ref o), (.int (0 : Int32))] 7) = mkF m 0 #[.val (.ref o), .val (.int (0 : Int32)), .unset, .unset, .unset, .unset, .unset] []) k
  have Zn := Z0
  have D' := D
  obtain ⟨go, ghp, gpl, -⟩ := D'
  have oi1 := I0
  obtain ⟨E1, F11, F21, F31, F41, R1, A1, P1⟩ := oi1
  have G2 : Goes p e below s₁ (entryFrame m #[(.ref o), (.int (0 : Int32))] 7) s₁ (mkF m 1 #[.val (.ref o), .val (.int (0 : Int32)), .unset, .unset, .unset, .unset, .unset] [(.ref o)]) := fun _ k => G0 _ (by
      show Steps p.tables e below (s₁.setTop (mkF m 0 #[.val (.ref o), .val (.int (0 : Int32)), .unset, .unset, .unset, .unset, .unset] [])) _
      refine XS.aloadN X0.here hx rfl (hb hby own_d5_0) rfl rfl ?_
      exact k)
  obtain ⟨T3, X3, e3, st3⟩ := getF X0 hx hZ hown (host := "") (Or.inl (hw _ (List.mem_of_getElem? (i := 13) rfl))) Via.refl e0 F21 (g := (mkF m 1 #[.val (.ref o), .val (.int (0 : Int32)), .unset, .unset, .unset, .unset, .unset] [(.ref o)])) rfl rfl (hb hby own_d5_1)
  have G3 : Goes p e below s₁ (entryFrame m #[(.ref o), (.int (0 : Int32))] 7) T3 (mkF m 4 #[.val (.ref o), .val (.int (0 : Int32)), .unset, .unset, .unset, .unset, .unset] [(.ref hp)]) := fun _ k => G2 _ (st3 _ k)
  have G4 : Goes p e below s₁ (entryFrame m #[(.ref o), (.int (0 : Int32))] 7) T3 (mkF m 5 #[.val (.ref o), .val (.int (0 : Int32)), .unset, .unset, .unset, .unset, .unset] [(.int (0 : Int32)), (.ref hp)]) := fun _ k => G3 _ (by
      show Steps p.tables e below (T3.setTop (mkF m 4 #[.val (.ref o), .val (.int (0 : Int32)), .unset, .unset, .unset, .unset, .unset] [(.ref hp)])) _
      refine XS.iloadN X3.here hx rfl (hb hby own_d5_4) rfl ?_
      exact k)
  have vc5 := A1
  obtain ⟨cl5, Ar5, S5, H5⟩ := vc5
  have hin5 : ¬ ((0 : Int32) < 0 ∨ cl5.slots.size ≤ ((0 : Int32)).toNatClampNeg) := inb_of S5 ⟨by decide, by decide⟩
  obtain ⟨x5, hat5, hx5⟩ := H5 _ (own_k S5 hin5)
  have G6 : Goes p e below s₁ (entryFrame m #[(.ref o), (.int (0 : Int32))] 7) T3 (mkF m 6 #[.val (.ref o), .val (.int (0 : Int32)), .unset, .unset, .unset, .unset, .unset] [(.int x5)]) := fun _ k => G4 _ (by
      show Steps p.tables e below (T3.setTop (mkF m 5 #[.val (.ref o), .val (.int (0 : Int32)), .unset, .unset, .unset, .unset, .unset] [(.int (0 : Int32)), (.ref hp)])) _
      refine X3.iaload hx (j := (0 : Int32)) (v := (.int x5)) (by rw [e3]; exact Ar5.1) (State.isArrayOf_alike hZ.alike Ar5.2.1) Ar5.2.2 hin5 hat5 (g := (mkF m 5 #[.val (.ref o), .val (.int (0 : Int32)), .unset, .unset, .unset, .unset, .unset] [(.int (0 : Int32)), (.ref hp)])) rfl rfl (hb hby own_d5_5) _ ?_
      exact k)
  have G7 : Goes p e below s₁ (entryFrame m #[(.ref o), (.int (0 : Int32))] 7) T3 (mkF m 8 #[.val (.ref o), .val (.int (0 : Int32)), .val (.int x5), .unset, .unset, .unset, .unset] [(.ref o)]) := fun _ k => G6 _ (by
      show Steps p.tables e below (T3.setTop (mkF m 6 #[.val (.ref o), .val (.int (0 : Int32)), .unset, .unset, .unset, .unset, .unset] [(.int x5)])) _
      refine XS.istoreN X3.here hx rfl (hb hby own_d5_6) rfl (l' := #[.val (.ref o), .val (.int (0 : Int32)), .val (.int x5), .unset, .unset, .unset, .unset]) rfl ?_
      show Steps p.tables e below (T3.setTop (mkF m 7 #[.val (.ref o), .val (.int (0 : Int32)), .val (.int x5), .unset, .unset, .unset, .unset] [])) _
      refine XS.aloadN X3.here hx rfl (hb hby own_d5_7) rfl rfl ?_
      exact k)
  obtain ⟨T8, X8, e8, st8⟩ := getF X3 hx hZ hown (host := "") (Or.inl (hw _ (List.mem_of_getElem? (i := 10) rfl))) Via.refl e3 F11 (g := (mkF m 8 #[.val (.ref o), .val (.int (0 : Int32)), .val (.int x5), .unset, .unset, .unset, .unset] [(.ref o)])) rfl rfl (hb hby own_d5_8)
  have G8 : Goes p e below s₁ (entryFrame m #[(.ref o), (.int (0 : Int32))] 7) T8 (mkF m 11 #[.val (.ref o), .val (.int (0 : Int32)), .val (.int x5), .unset, .unset, .unset, .unset] [(.ref r)]) := fun _ k => G7 _ (st8 _ k)
  have G9 : Goes p e below s₁ (entryFrame m #[(.ref o), (.int (0 : Int32))] 7) T8 (mkF m 12 #[.val (.ref o), .val (.int (0 : Int32)), .val (.int x5), .unset, .unset, .unset, .unset] [(.int x5), (.ref r)]) := fun _ k => G8 _ (by
      show Steps p.tables e below (T8.setTop (mkF m 11 #[.val (.ref o), .val (.int (0 : Int32)), .val (.int x5), .unset, .unset, .unset, .unset] [(.ref r)])) _
      refine XS.iloadN X8.here hx rfl (hb hby own_d5_11) rfl ?_
      exact k)
  have vc10 := R1
  obtain ⟨cl10, Ar10, S10, H10⟩ := vc10
  have hin10 : ¬ (x5 < 0 ∨ cl10.slots.size ≤ (x5).toNatClampNeg) := inb_of S10 hx5
  obtain ⟨q10, hat10⟩ := H10 _ (own_k S10 hin10)
  have G11 : Goes p e below s₁ (entryFrame m #[(.ref o), (.int (0 : Int32))] 7) T8 (mkF m 13 #[.val (.ref o), .val (.int (0 : Int32)), .val (.int x5), .unset, .unset, .unset, .unset] [(.long q10)]) := fun _ k => G9 _ (by
      show Steps p.tables e below (T8.setTop (mkF m 12 #[.val (.ref o), .val (.int (0 : Int32)), .val (.int x5), .unset, .unset, .unset, .unset] [(.int x5), (.ref r)])) _
      refine X8.laload hx (j := x5) (v := (.long q10)) (by rw [e8]; exact Ar10.1) (State.isArrayOf_alike hZ.alike Ar10.2.1) Ar10.2.2 hin10 hat10 (g := (mkF m 12 #[.val (.ref o), .val (.int (0 : Int32)), .val (.int x5), .unset, .unset, .unset, .unset] [(.int x5), (.ref r)])) rfl rfl (hb hby own_d5_12) _ ?_
      exact k)
  have G12 : Goes p e below s₁ (entryFrame m #[(.ref o), (.int (0 : Int32))] 7) T8 (mkF m 19 #[.val (.ref o), .val (.int (0 : Int32)), .val (.int x5), .val (.long q10), .second, .val (.int (0 : Int32)), .unset] [(.int (0 : Int32))]) := fun _ k => G11 _ (by
      show Steps p.tables e below (T8.setTop (mkF m 13 #[.val (.ref o), .val (.int (0 : Int32)), .val (.int x5), .unset, .unset, .unset, .unset] [(.long q10)])) _
      refine XS.lstoreN X8.here hx rfl (hb hby own_d5_13) rfl (l' := #[.val (.ref o), .val (.int (0 : Int32)), .val (.int x5), .val (.long q10), .second, .unset, .unset]) rfl ?_
      show Steps p.tables e below (T8.setTop (mkF m 14 #[.val (.ref o), .val (.int (0 : Int32)), .val (.int x5), .val (.long q10), .second, .unset, .unset] [])) _
      refine XS.iloadN X8.here hx rfl (hb hby own_d5_14) rfl ?_
      show Steps p.tables e below (T8.setTop (mkF m 15 #[.val (.ref o), .val (.int (0 : Int32)), .val (.int x5), .val (.long q10), .second, .unset, .unset] [(.int (0 : Int32))])) _
      refine XS.istore X8.here hx rfl (hb hby own_d5_15) rfl (l' := #[.val (.ref o), .val (.int (0 : Int32)), .val (.int x5), .val (.long q10), .second, .val (.int (0 : Int32)), .unset]) rfl ?_
      show Steps p.tables e below (T8.setTop (mkF m 17 #[.val (.ref o), .val (.int (0 : Int32)), .val (.int x5), .val (.long q10), .second, .val (.int (0 : Int32)), .unset] [])) _
      refine XS.iload X8.here hx rfl (hb hby own_d5_17) rfl ?_
      exact k)
  have G13 : Goes p e below s₁ (entryFrame m #[(.ref o), (.int (0 : Int32))] 7) T8 (mkF m 71 #[.val (.ref o), .val (.int (0 : Int32)), .val (.int x5), .val (.long q10), .second, .val (.int (0 : Int32)), .unset] []) := fun _ k => G12 _ (by
      show Steps p.tables e below (T8.setTop (mkF m 19 #[.val (.ref o), .val (.int (0 : Int32)), .val (.int x5), .val (.long q10), .second, .val (.int (0 : Int32)), .unset] [(.int (0 : Int32))])) _
      refine XS.ifYes X8.here hx rfl (pc0 := 19) (pc' := 71) rfl (hb hby own_d5_19) rfl ((if0 _ _).trans (flt (by decide : ¬ ((0 : Int32) < (0 : Int32)))).2.2.2) (by decide) (by decide) ?_
      exact k)
  have G14 : Goes p e below s₁ (entryFrame m #[(.ref o), (.int (0 : Int32))] 7) T8 (mkF m 75 #[.val (.ref o), .val (.int (0 : Int32)), .val (.int x5), .val (.long q10), .second, .val (.int (0 : Int32)), .unset] [(.int (0 : Int32)), (.int x5), (.ref o)]) := fun _ k => G13 _ (by
      show Steps p.tables e below (T8.setTop (mkF m 71 #[.val (.ref o), .val (.int (0 : Int32)), .val (.int x5), .val (.long q10), .second, .val (.int (0 : Int32)), .unset] [])) _
      refine XS.aloadN X8.here hx rfl (hb hby own_d5_71) rfl rfl ?_
      show Steps p.tables e below (T8.setTop (mkF m 72 #[.val (.ref o), .val (.int (0 : Int32)), .val (.int x5), .val (.long q10), .second, .val (.int (0 : Int32)), .unset] [(.ref o)])) _
      refine XS.iloadN X8.here hx rfl (hb hby own_d5_72) rfl ?_
      show Steps p.tables e below (T8.setTop (mkF m 73 #[.val (.ref o), .val (.int (0 : Int32)), .val (.int x5), .val (.long q10), .second, .val (.int (0 : Int32)), .unset] [(.int x5), (.ref o)])) _
      refine XS.iload X8.here hx rfl (hb hby own_d5_73) rfl ?_
      exact k)
  obtain ⟨cq15, q15, q15'⟩ := E1.cell
  obtain ⟨_, _, ⟨T15, L15, k15, n15⟩, -, X15, ⟨Lc15, hQ15, l15, y15, z15⟩, st15⟩ := X8.privateBack hx (y := (⟨"com/example/subterm/subterm/algorithm/IndexedHeap", "put", "(II)V"⟩ : MethodName)) hown (mvT hZ (hw _ (List.mem_of_getElem? (i := 33) rfl))) (mvT hZ (hw _ (List.mem_of_getElem? (i := 34) rfl))) (mvT hZ (own_sel (y := (⟨"com/example/subterm/subterm/algorithm/IndexedHeap", "put", "(II)V"⟩ : MethodName)) (by decide) (hw _ (List.mem_of_getElem? (i := 2) rfl)) (hw _ (List.mem_of_getElem? (i := 35) rfl)) (hw _ (List.mem_of_getElem? (i := 34) rfl)))) (Cond.privateMethod_at (mvP hZ (hw _ (List.mem_of_getElem? (i := 35) rfl)) (args := #[]))) (mvT hZ (hw _ (List.mem_of_getElem? (i := 36) rfl))) (by decide) (backOf (W := 0) (rm6 l Z a0 hw [] o r hp pl n x5 (0 : Int32) h0 n0 Zn I0 D hx5 ⟨by decide, by decide⟩) hZ (hw _ (List.mem_of_getElem? (i := 36) rfl)) (hw _ (List.mem_of_getElem? (i := 3) rfl)) (by decide) (by decide)) (g := (mkF m 75 #[.val (.ref o), .val (.int (0 : Int32)), .val (.int x5), .val (.long q10), .second, .val (.int (0 : Int32)), .unset] [(.int (0 : Int32)), (.int x5), (.ref o)])) rfl (by rw [hml]; rfl) (Steps.refl _) (a := o) (by rw [e8]; exact q15) q15' (argsL := [(.int x5), (.int (0 : Int32))]) (rest := []) (lenOf own_pd0 rfl) rfl (by show 2 * 0 + _ ≤ _; exact Nat.le_of_eq rfl) (hb hby own_d5_75) (fun _ _ => ⟨rfl, e8, (by decide : 0 + 0 ≤ _), (by decide : 0 + 0 ≤ _)⟩)
  dsimp only [Pt.U, Pt.locs, Pt.cells, Pt.slots] at X15 l15 y15 z15 st15 hQ15
  subst l15 y15 z15
  obtain ⟨rfl, N15q, Zn, I15⟩ := hQ15
  have N15 := Fr.app N0 N15q
  have G15 : Goes p e below s₁ (entryFrame m #[(.ref o), (.int (0 : Int32))] 7) T15 (mkF m 78 #[.val (.ref o), .val (.int (0 : Int32)), .val (.int x5), .val (.long q10), .second, .val (.int (0 : Int32)), .unset] []) := fun _ k => G14 _ (st15.trans k)
  obtain ⟨fs, hr, hrun, hended, hW, hsame⟩ := X15.leave (v := none) (fun _ => rfl)
  refine ⟨_, _, G15 _ (X15.returnOut hx Bd.returns (hb hby own_d5_78) hr), hrun, hended, _, _, rfl, ?_, ⟨_, rfl⟩, hW, hsame.mono (by decide) (by decide)⟩
  show QV Z o r hp pl n n0 _ T15.heap _
  exact ⟨rfl, N15, Zn, I15⟩
theorem own_d5_22 : decode prog_6_method_6_code 22 = .ok (.aload_n 0, 1) := by decide +kernel
theorem own_d5_23 : decode prog_6_method_6_code 23 = .ok (.getfield 7, 3) := by decide +kernel
theorem own_d5_26 : decode prog_6_method_6_code 26 = .ok (.aload_n 0, 1) := by decide +kernel
theorem own_d5_27 : decode prog_6_method_6_code 27 = .ok (.getfield 13, 3) := by decide +kernel
theorem own_d5_30 : decode prog_6_method_6_code 30 = .ok (.iload 5, 2) := by decide +kernel
theorem own_d5_32 : decode prog_6_method_6_code 32 = .ok (.iconst 1, 1) := by decide +kernel
theorem own_d5_33 : decode prog_6_method_6_code 33 = .ok (.isub, 1) := by decide +kernel
theorem own_d5_34 : decode prog_6_method_6_code 34 = .ok (.iconst 2, 1) := by decide +kernel
theorem own_d5_35 : decode prog_6_method_6_code 35 = .ok (.idiv, 1) := by decide +kernel
theorem own_d5_36 : decode prog_6_method_6_code 36 = .ok (.iaload, 1) := by decide +kernel
theorem own_d5_37 : decode prog_6_method_6_code 37 = .ok (.laload, 1) := by decide +kernel
theorem own_d5_38 : decode prog_6_method_6_code 38 = .ok (.lload_n 3, 1) := by decide +kernel
theorem own_d5_39 : decode prog_6_method_6_code 39 = .ok (.lcmp, 1) := by decide +kernel
theorem own_d5_40 : decode prog_6_method_6_code 40 = .ok (.ifCond .le 31, 3) := by decide +kernel
theorem own_d5_43 : decode prog_6_method_6_code 43 = .ok (.iload 5, 2) := by decide +kernel
theorem own_d5_45 : decode prog_6_method_6_code 45 = .ok (.iconst 1, 1) := by decide +kernel
theorem own_d5_46 : decode prog_6_method_6_code 46 = .ok (.isub, 1) := by decide +kernel
theorem own_d5_47 : decode prog_6_method_6_code 47 = .ok (.iconst 2, 1) := by decide +kernel
theorem own_d5_48 : decode prog_6_method_6_code 48 = .ok (.idiv, 1) := by decide +kernel
theorem own_d5_49 : decode prog_6_method_6_code 49 = .ok (.istore 6, 2) := by decide +kernel
theorem own_d5_51 : decode prog_6_method_6_code 51 = .ok (.aload_n 0, 1) := by decide +kernel
theorem own_d5_52 : decode prog_6_method_6_code 52 = .ok (.aload_n 0, 1) := by decide +kernel
theorem own_d5_53 : decode prog_6_method_6_code 53 = .ok (.getfield 13, 3) := by decide +kernel
theorem own_d5_56 : decode prog_6_method_6_code 56 = .ok (.iload 6, 2) := by decide +kernel
theorem own_d5_58 : decode prog_6_method_6_code 58 = .ok (.iaload, 1) := by decide +kernel
theorem own_d5_59 : decode prog_6_method_6_code 59 = .ok (.iload 5, 2) := by decide +kernel
theorem own_d5_61 : decode prog_6_method_6_code 61 = .ok (.invokevirtual 31, 3) := by decide +kernel
theorem own_d5_64 : decode prog_6_method_6_code 64 = .ok (.iload 6, 2) := by decide +kernel
theorem own_d5_66 : decode prog_6_method_6_code 66 = .ok (.istore 5, 2) := by decide +kernel
theorem own_d5_68 : decode prog_6_method_6_code 68 = .ok (.goto (-51), 3) := by decide +kernel
set_option maxRecDepth 65536 in
set_option maxHeartbeats 40000000 in
theorem rm5_1 (l : Launch) (Z : State) (a0 : Array Value) (hw : ∀ d ∈ tables_1, d.before a0 Z = true) (ws : List Jvm.Cond) (o r hp pl : Addr) (n : Int32) (h0 : Heap) (n0 : Nat) (Z0 : n0 ≤ h0.size) (I0 : Inv Z h0 o r hp pl n) (D : Dis n0 o r hp pl) :
    MetFree l (⟨"com/example/subterm/subterm/algorithm/IndexedHeap", "moveUp", "(I)V"⟩ : MethodName) (head1 (Jvm.Cond.code (⟨"com/example/subterm/subterm/algorithm/IndexedHeap", "moveUp", "(I)V"⟩ : MethodName) prog_6_method_6_code 7 none :: ws) ({ frames := 1, cells := 0, slots := 0, locals := 14 } : Room)) (fun a U => a = #[(.ref o), (.int (1 : Int32))] ∧ Z.Warmed39 U.vm ∧ U.heap = h0) (fun _ _ _ _ _ => True) (fun _ U oc U' => ∃ v L, oc = .returned v ∧ QV Z o r hp pl n n0 v U'.heap L ∧ FrameEnd U oc U' L ({ frames := 1, cells := 0, slots := 0, locals := 14 } : Room).cells ({ frames := 1, cells := 0, slots := 0, locals := 14 } : Room).slots) := by
  refine MetFree.of_bodySF (plainFor_of_name own_pn0) hisR ?_
  intro p e s m args below meth c s₁ Bd hml0 hP hK
  obtain ⟨rfl, hZ, hh⟩ := hP
  have hx := Bd.exec
  have hby := Bd.bytes
  have hml : c.maxLocals = 7 := hml0
  have hown : s.vm.findClass "com/example/subterm/subterm/algorithm/IndexedHeap" = some m.cls := findClass_of_methodNamed Bd.named
  have hnm := (name_of_methodNamed Bd.named Bd.method).1
  have X0 : Stand p l e ({ frames := 1, cells := 0, slots := 0, locals := 14 } : Room) s m #[(.ref o), (.int (1 : Int32))] below meth c s₁ [] 0 0 := Stand.of_body Bd
  have e0 : s₁.heap = h0 := by rw [← hh, Bd.state]; rfl
  have N0 := Fr.nil n0
  have G0 : Goes p e below s₁ (entryFrame m #[(.ref o), (.int (1 : Int32))] 7) s₁ (mkF m 0 #[.val (.ref o), .val (.int (1 : Int32)), .unset, .unset, .unset, .unset, .unset] []) := fun _ k => castTop (by first | (simp [entryFrame, mkF, argsToLocals, Value.category]; done) | rfl : (entryFrame m #[(.ref o), (.int (1 : Int32))] 7) = mkF m 0 #[.val (.ref o), .val (.int (1 : Int32)), .unset, .unset, .unset, .unset, .unset] []) k
  have Zn := Z0
  have D' := D
  obtain ⟨go, ghp, gpl, -⟩ := D'
  have oi1 := I0
  obtain ⟨E1, F11, F21, F31, F41, R1, A1, P1⟩ := oi1
  have G2 : Goes p e below s₁ (entryFrame m #[(.ref o), (.int (1 : Int32))] 7) s₁ (mkF m 1 #[.val (.ref o), .val (.int (1 : Int32)), .unset, .unset, .unset, .unset, .unset] [(.ref o)]) := fun _ k => G0 _ (by
      show Steps p.tables e below (s₁.setTop (mkF m 0 #[.val (.ref o), .val (.int (1 : Int32)), .unset, .unset, .unset, .unset, .unset] [])) _
      refine XS.aloadN X0.here hx rfl (hb hby own_d5_0) rfl rfl ?_
      exact k)
  obtain ⟨T3, X3, e3, st3⟩ := getF X0 hx hZ hown (host := "") (Or.inl (hw _ (List.mem_of_getElem? (i := 13) rfl))) Via.refl e0 F21 (g := (mkF m 1 #[.val (.ref o), .val (.int (1 : Int32)), .unset, .unset, .unset, .unset, .unset] [(.ref o)])) rfl rfl (hb hby own_d5_1)
  have G3 : Goes p e below s₁ (entryFrame m #[(.ref o), (.int (1 : Int32))] 7) T3 (mkF m 4 #[.val (.ref o), .val (.int (1 : Int32)), .unset, .unset, .unset, .unset, .unset] [(.ref hp)]) := fun _ k => G2 _ (st3 _ k)
  have G4 : Goes p e below s₁ (entryFrame m #[(.ref o), (.int (1 : Int32))] 7) T3 (mkF m 5 #[.val (.ref o), .val (.int (1 : Int32)), .unset, .unset, .unset, .unset, .unset] [(.int (1 : Int32)), (.ref hp)]) := fun _ k => G3 _ (by
      show Steps p.tables e below (T3.setTop (mkF m 4 #[.val (.ref o), .val (.int (1 : Int32)), .unset, .unset, .unset, .unset, .unset] [(.ref hp)])) _
      refine XS.iloadN X3.here hx rfl (hb hby own_d5_4) rfl ?_
      exact k)
  have vc5 := A1
  obtain ⟨cl5, Ar5, S5, H5⟩ := vc5
  have hin5 : ¬ ((1 : Int32) < 0 ∨ cl5.slots.size ≤ ((1 : Int32)).toNatClampNeg) := inb_of S5 ⟨by decide, by decide⟩
  obtain ⟨x5, hat5, hx5⟩ := H5 _ (own_k S5 hin5)
  have G6 : Goes p e below s₁ (entryFrame m #[(.ref o), (.int (1 : Int32))] 7) T3 (mkF m 6 #[.val (.ref o), .val (.int (1 : Int32)), .unset, .unset, .unset, .unset, .unset] [(.int x5)]) := fun _ k => G4 _ (by
      show Steps p.tables e below (T3.setTop (mkF m 5 #[.val (.ref o), .val (.int (1 : Int32)), .unset, .unset, .unset, .unset, .unset] [(.int (1 : Int32)), (.ref hp)])) _
      refine X3.iaload hx (j := (1 : Int32)) (v := (.int x5)) (by rw [e3]; exact Ar5.1) (State.isArrayOf_alike hZ.alike Ar5.2.1) Ar5.2.2 hin5 hat5 (g := (mkF m 5 #[.val (.ref o), .val (.int (1 : Int32)), .unset, .unset, .unset, .unset, .unset] [(.int (1 : Int32)), (.ref hp)])) rfl rfl (hb hby own_d5_5) _ ?_
      exact k)
  have G7 : Goes p e below s₁ (entryFrame m #[(.ref o), (.int (1 : Int32))] 7) T3 (mkF m 8 #[.val (.ref o), .val (.int (1 : Int32)), .val (.int x5), .unset, .unset, .unset, .unset] [(.ref o)]) := fun _ k => G6 _ (by
      show Steps p.tables e below (T3.setTop (mkF m 6 #[.val (.ref o), .val (.int (1 : Int32)), .unset, .unset, .unset, .unset, .unset] [(.int x5)])) _
      refine XS.istoreN X3.here hx rfl (hb hby own_d5_6) rfl (l' := #[.val (.ref o), .val (.int (1 : Int32)), .val (.int x5), .unset, .unset, .unset, .unset]) rfl ?_
      show Steps p.tables e below (T3.setTop (mkF m 7 #[.val (.ref o), .val (.int (1 : Int32)), .val (.int x5), .unset, .unset, .unset, .unset] [])) _
      refine XS.aloadN X3.here hx rfl (hb hby own_d5_7) rfl rfl ?_
      exact k)
  obtain ⟨T8, X8, e8, st8⟩ := getF X3 hx hZ hown (host := "") (Or.inl (hw _ (List.mem_of_getElem? (i := 10) rfl))) Via.refl e3 F11 (g := (mkF m 8 #[.val (.ref o), .val (.int (1 : Int32)), .val (.int x5), .unset, .unset, .unset, .unset] [(.ref o)])) rfl rfl (hb hby own_d5_8)
  have G8 : Goes p e below s₁ (entryFrame m #[(.ref o), (.int (1 : Int32))] 7) T8 (mkF m 11 #[.val (.ref o), .val (.int (1 : Int32)), .val (.int x5), .unset, .unset, .unset, .unset] [(.ref r)]) := fun _ k => G7 _ (st8 _ k)
  have G9 : Goes p e below s₁ (entryFrame m #[(.ref o), (.int (1 : Int32))] 7) T8 (mkF m 12 #[.val (.ref o), .val (.int (1 : Int32)), .val (.int x5), .unset, .unset, .unset, .unset] [(.int x5), (.ref r)]) := fun _ k => G8 _ (by
      show Steps p.tables e below (T8.setTop (mkF m 11 #[.val (.ref o), .val (.int (1 : Int32)), .val (.int x5), .unset, .unset, .unset, .unset] [(.ref r)])) _
      refine XS.iloadN X8.here hx rfl (hb hby own_d5_11) rfl ?_
      exact k)
  have vc10 := R1
  obtain ⟨cl10, Ar10, S10, H10⟩ := vc10
  have hin10 : ¬ (x5 < 0 ∨ cl10.slots.size ≤ (x5).toNatClampNeg) := inb_of S10 hx5
  obtain ⟨q10, hat10⟩ := H10 _ (own_k S10 hin10)
  have G11 : Goes p e below s₁ (entryFrame m #[(.ref o), (.int (1 : Int32))] 7) T8 (mkF m 13 #[.val (.ref o), .val (.int (1 : Int32)), .val (.int x5), .unset, .unset, .unset, .unset] [(.long q10)]) := fun _ k => G9 _ (by
      show Steps p.tables e below (T8.setTop (mkF m 12 #[.val (.ref o), .val (.int (1 : Int32)), .val (.int x5), .unset, .unset, .unset, .unset] [(.int x5), (.ref r)])) _
      refine X8.laload hx (j := x5) (v := (.long q10)) (by rw [e8]; exact Ar10.1) (State.isArrayOf_alike hZ.alike Ar10.2.1) Ar10.2.2 hin10 hat10 (g := (mkF m 12 #[.val (.ref o), .val (.int (1 : Int32)), .val (.int x5), .unset, .unset, .unset, .unset] [(.int x5), (.ref r)])) rfl rfl (hb hby own_d5_12) _ ?_
      exact k)
  have G12 : Goes p e below s₁ (entryFrame m #[(.ref o), (.int (1 : Int32))] 7) T8 (mkF m 19 #[.val (.ref o), .val (.int (1 : Int32)), .val (.int x5), .val (.long q10), .second, .val (.int (1 : Int32)), .unset] [(.int (1 : Int32))]) := fun _ k => G11 _ (by
      show Steps p.tables e below (T8.setTop (mkF m 13 #[.val (.ref o), .val (.int (1 : Int32)), .val (.int x5), .unset, .unset, .unset, .unset] [(.long q10)])) _
      refine XS.lstoreN X8.here hx rfl (hb hby own_d5_13) rfl (l' := #[.val (.ref o), .val (.int (1 : Int32)), .val (.int x5), .val (.long q10), .second, .unset, .unset]) rfl ?_
      show Steps p.tables e below (T8.setTop (mkF m 14 #[.val (.ref o), .val (.int (1 : Int32)), .val (.int x5), .val (.long q10), .second, .unset, .unset] [])) _
      refine XS.iloadN X8.here hx rfl (hb hby own_d5_14) rfl ?_
      show Steps p.tables e below (T8.setTop (mkF m 15 #[.val (.ref o), .val (.int (1 : Int32)), .val (.int x5), .val (.long q10), .second, .unset, .unset] [(.int (1 : Int32))])) _
      refine XS.istore X8.here hx rfl (hb hby own_d5_15) rfl (l' := #[.val (.ref o), .val (.int (1 : Int32)), .val (.int x5), .val (.long q10), .second, .val (.int (1 : Int32)), .unset]) rfl ?_
      show Steps p.tables e below (T8.setTop (mkF m 17 #[.val (.ref o), .val (.int (1 : Int32)), .val (.int x5), .val (.long q10), .second, .val (.int (1 : Int32)), .unset] [])) _
      refine XS.iload X8.here hx rfl (hb hby own_d5_17) rfl ?_
      exact k)
  have G13 : Goes p e below s₁ (entryFrame m #[(.ref o), (.int (1 : Int32))] 7) T8 (mkF m 22 #[.val (.ref o), .val (.int (1 : Int32)), .val (.int x5), .val (.long q10), .second, .val (.int (1 : Int32)), .unset] []) := fun _ k => G12 _ (by
      show Steps p.tables e below (T8.setTop (mkF m 19 #[.val (.ref o), .val (.int (1 : Int32)), .val (.int x5), .val (.long q10), .second, .val (.int (1 : Int32)), .unset] [(.int (1 : Int32))])) _
      refine XS.ifNo X8.here hx rfl (hb hby own_d5_19) rfl ((if0 _ _).trans (tlt (by decide : (0 : Int32) < (1 : Int32))).2.2.2) ?_
      exact k)
  have G14 : Goes p e below s₁ (entryFrame m #[(.ref o), (.int (1 : Int32))] 7) T8 (mkF m 23 #[.val (.ref o), .val (.int (1 : Int32)), .val (.int x5), .val (.long q10), .second, .val (.int (1 : Int32)), .unset] [(.ref o)]) := fun _ k => G13 _ (by
      show Steps p.tables e below (T8.setTop (mkF m 22 #[.val (.ref o), .val (.int (1 : Int32)), .val (.int x5), .val (.long q10), .second, .val (.int (1 : Int32)), .unset] [])) _
      refine XS.aloadN X8.here hx rfl (hb hby own_d5_22) rfl rfl ?_
      exact k)
  obtain ⟨T15, X15, e15, st15⟩ := getF X8 hx hZ hown (host := "") (Or.inl (hw _ (List.mem_of_getElem? (i := 10) rfl))) Via.refl e8 F11 (g := (mkF m 23 #[.val (.ref o), .val (.int (1 : Int32)), .val (.int x5), .val (.long q10), .second, .val (.int (1 : Int32)), .unset] [(.ref o)])) rfl rfl (hb hby own_d5_23)
  have G15 : Goes p e below s₁ (entryFrame m #[(.ref o), (.int (1 : Int32))] 7) T15 (mkF m 26 #[.val (.ref o), .val (.int (1 : Int32)), .val (.int x5), .val (.long q10), .second, .val (.int (1 : Int32)), .unset] [(.ref r)]) := fun _ k => G14 _ (st15 _ k)
  have G16 : Goes p e below s₁ (entryFrame m #[(.ref o), (.int (1 : Int32))] 7) T15 (mkF m 27 #[.val (.ref o), .val (.int (1 : Int32)), .val (.int x5), .val (.long q10), .second, .val (.int (1 : Int32)), .unset] [(.ref o), (.ref r)]) := fun _ k => G15 _ (by
      show Steps p.tables e below (T15.setTop (mkF m 26 #[.val (.ref o), .val (.int (1 : Int32)), .val (.int x5), .val (.long q10), .second, .val (.int (1 : Int32)), .unset] [(.ref r)])) _
      refine XS.aloadN X15.here hx rfl (hb hby own_d5_26) rfl rfl ?_
      exact k)
  obtain ⟨T17, X17, e17, st17⟩ := getF X15 hx hZ hown (host := "") (Or.inl (hw _ (List.mem_of_getElem? (i := 13) rfl))) Via.refl e15 F21 (g := (mkF m 27 #[.val (.ref o), .val (.int (1 : Int32)), .val (.int x5), .val (.long q10), .second, .val (.int (1 : Int32)), .unset] [(.ref o), (.ref r)])) rfl rfl (hb hby own_d5_27)
  have G17 : Goes p e below s₁ (entryFrame m #[(.ref o), (.int (1 : Int32))] 7) T17 (mkF m 30 #[.val (.ref o), .val (.int (1 : Int32)), .val (.int x5), .val (.long q10), .second, .val (.int (1 : Int32)), .unset] [(.ref hp), (.ref r)]) := fun _ k => G16 _ (st17 _ k)
  have G18 : Goes p e below s₁ (entryFrame m #[(.ref o), (.int (1 : Int32))] 7) T17 (mkF m 36 #[.val (.ref o), .val (.int (1 : Int32)), .val (.int x5), .val (.long q10), .second, .val (.int (1 : Int32)), .unset] [(.int (0 : Int32)), (.ref hp), (.ref r)]) := fun _ k => G17 _ (by
      show Steps p.tables e below (T17.setTop (mkF m 30 #[.val (.ref o), .val (.int (1 : Int32)), .val (.int x5), .val (.long q10), .second, .val (.int (1 : Int32)), .unset] [(.ref hp), (.ref r)])) _
      refine XS.iload X17.here hx rfl (hb hby own_d5_30) rfl ?_
      show Steps p.tables e below (T17.setTop (mkF m 32 #[.val (.ref o), .val (.int (1 : Int32)), .val (.int x5), .val (.long q10), .second, .val (.int (1 : Int32)), .unset] [(.int (1 : Int32)), (.ref hp), (.ref r)])) _
      refine XS.iconst X17.here hx rfl (hb hby own_d5_32) ?_
      show Steps p.tables e below (T17.setTop (mkF m 33 #[.val (.ref o), .val (.int (1 : Int32)), .val (.int x5), .val (.long q10), .second, .val (.int (1 : Int32)), .unset] [(.int (1 : Int32)), (.int (1 : Int32)), (.ref hp), (.ref r)])) _
      refine XS.isub X17.here hx rfl (hb hby own_d5_33) rfl ?_
      show Steps p.tables e below (T17.setTop (mkF m 34 #[.val (.ref o), .val (.int (1 : Int32)), .val (.int x5), .val (.long q10), .second, .val (.int (1 : Int32)), .unset] [(.int (0 : Int32)), (.ref hp), (.ref r)])) _
      refine XS.iconst X17.here hx rfl (hb hby own_d5_34) ?_
      show Steps p.tables e below (T17.setTop (mkF m 35 #[.val (.ref o), .val (.int (1 : Int32)), .val (.int x5), .val (.long q10), .second, .val (.int (1 : Int32)), .unset] [(.int (2 : Int32)), (.int (0 : Int32)), (.ref hp), (.ref r)])) _
      refine XS.idiv X17.here hx rfl (hb hby own_d5_35) rfl (by decide) ?_
      exact k)
  have vc19 := A1
  obtain ⟨cl19, Ar19, S19, H19⟩ := vc19
  have hin19 : ¬ ((0 : Int32) < 0 ∨ cl19.slots.size ≤ ((0 : Int32)).toNatClampNeg) := inb_of S19 ⟨by decide, by decide⟩
  obtain ⟨x19, hat19, hx19⟩ := H19 _ (own_k S19 hin19)
  have G20 : Goes p e below s₁ (entryFrame m #[(.ref o), (.int (1 : Int32))] 7) T17 (mkF m 37 #[.val (.ref o), .val (.int (1 : Int32)), .val (.int x5), .val (.long q10), .second, .val (.int (1 : Int32)), .unset] [(.int x19), (.ref r)]) := fun _ k => G18 _ (by
      show Steps p.tables e below (T17.setTop (mkF m 36 #[.val (.ref o), .val (.int (1 : Int32)), .val (.int x5), .val (.long q10), .second, .val (.int (1 : Int32)), .unset] [(.int (0 : Int32)), (.ref hp), (.ref r)])) _
      refine X17.iaload hx (j := (0 : Int32)) (v := (.int x19)) (by rw [e17]; exact Ar19.1) (State.isArrayOf_alike hZ.alike Ar19.2.1) Ar19.2.2 hin19 hat19 (g := (mkF m 36 #[.val (.ref o), .val (.int (1 : Int32)), .val (.int x5), .val (.long q10), .second, .val (.int (1 : Int32)), .unset] [(.int (0 : Int32)), (.ref hp), (.ref r)])) rfl rfl (hb hby own_d5_36) _ ?_
      exact k)
  have vc21 := R1
  obtain ⟨cl21, Ar21, S21, H21⟩ := vc21
  have hin21 : ¬ (x19 < 0 ∨ cl21.slots.size ≤ (x19).toNatClampNeg) := inb_of S21 hx19
  obtain ⟨q21, hat21⟩ := H21 _ (own_k S21 hin21)
  have G22 : Goes p e below s₁ (entryFrame m #[(.ref o), (.int (1 : Int32))] 7) T17 (mkF m 38 #[.val (.ref o), .val (.int (1 : Int32)), .val (.int x5), .val (.long q10), .second, .val (.int (1 : Int32)), .unset] [(.long q21)]) := fun _ k => G20 _ (by
      show Steps p.tables e below (T17.setTop (mkF m 37 #[.val (.ref o), .val (.int (1 : Int32)), .val (.int x5), .val (.long q10), .second, .val (.int (1 : Int32)), .unset] [(.int x19), (.ref r)])) _
      refine X17.laload hx (j := x19) (v := (.long q21)) (by rw [e17]; exact Ar21.1) (State.isArrayOf_alike hZ.alike Ar21.2.1) Ar21.2.2 hin21 hat21 (g := (mkF m 37 #[.val (.ref o), .val (.int (1 : Int32)), .val (.int x5), .val (.long q10), .second, .val (.int (1 : Int32)), .unset] [(.int x19), (.ref r)])) rfl rfl (hb hby own_d5_37) _ ?_
      exact k)
  have G23 : Goes p e below s₁ (entryFrame m #[(.ref o), (.int (1 : Int32))] 7) T17 (mkF m 40 #[.val (.ref o), .val (.int (1 : Int32)), .val (.int x5), .val (.long q10), .second, .val (.int (1 : Int32)), .unset] [(.int (lcmpW q21 q10))]) := fun _ k => G22 _ (by
      show Steps p.tables e below (T17.setTop (mkF m 38 #[.val (.ref o), .val (.int (1 : Int32)), .val (.int x5), .val (.long q10), .second, .val (.int (1 : Int32)), .unset] [(.long q21)])) _
      refine XS.lloadN X17.here hx rfl (hb hby own_d5_38) rfl ?_
      show Steps p.tables e below (T17.setTop (mkF m 39 #[.val (.ref o), .val (.int (1 : Int32)), .val (.int x5), .val (.long q10), .second, .val (.int (1 : Int32)), .unset] [(.long q10), (.long q21)])) _
      refine XS.lcmp X17.here hx rfl (hb hby own_d5_39) rfl ?_
      exact k)
  by_cases h1 : (0 : Int32) < (lcmpW q21 q10)
  · have G24 : Goes p e below s₁ (entryFrame m #[(.ref o), (.int (1 : Int32))] 7) T17 (mkF m 43 #[.val (.ref o), .val (.int (1 : Int32)), .val (.int x5), .val (.long q10), .second, .val (.int (1 : Int32)), .unset] []) := fun _ k => G23 _ (by
        show Steps p.tables e below (T17.setTop (mkF m 40 #[.val (.ref o), .val (.int (1 : Int32)), .val (.int x5), .val (.long q10), .second, .val (.int (1 : Int32)), .unset] [(.int (lcmpW q21 q10))])) _
        refine XS.ifNo X17.here hx rfl (hb hby own_d5_40) rfl ((if0 _ _).trans (tlt h1).2.2.2) ?_
        exact k)
    have G25 : Goes p e below s₁ (entryFrame m #[(.ref o), (.int (1 : Int32))] 7) T17 (mkF m 53 #[.val (.ref o), .val (.int (1 : Int32)), .val (.int x5), .val (.long q10), .second, .val (.int (1 : Int32)), .val (.int (0 : Int32))] [(.ref o), (.ref o)]) := fun _ k => G24 _ (by
        show Steps p.tables e below (T17.setTop (mkF m 43 #[.val (.ref o), .val (.int (1 : Int32)), .val (.int x5), .val (.long q10), .second, .val (.int (1 : Int32)), .unset] [])) _
        refine XS.iload X17.here hx rfl (hb hby own_d5_43) rfl ?_
        show Steps p.tables e below (T17.setTop (mkF m 45 #[.val (.ref o), .val (.int (1 : Int32)), .val (.int x5), .val (.long q10), .second, .val (.int (1 : Int32)), .unset] [(.int (1 : Int32))])) _
        refine XS.iconst X17.here hx rfl (hb hby own_d5_45) ?_
        show Steps p.tables e below (T17.setTop (mkF m 46 #[.val (.ref o), .val (.int (1 : Int32)), .val (.int x5), .val (.long q10), .second, .val (.int (1 : Int32)), .unset] [(.int (1 : Int32)), (.int (1 : Int32))])) _
        refine XS.isub X17.here hx rfl (hb hby own_d5_46) rfl ?_
        show Steps p.tables e below (T17.setTop (mkF m 47 #[.val (.ref o), .val (.int (1 : Int32)), .val (.int x5), .val (.long q10), .second, .val (.int (1 : Int32)), .unset] [(.int (0 : Int32))])) _
        refine XS.iconst X17.here hx rfl (hb hby own_d5_47) ?_
        show Steps p.tables e below (T17.setTop (mkF m 48 #[.val (.ref o), .val (.int (1 : Int32)), .val (.int x5), .val (.long q10), .second, .val (.int (1 : Int32)), .unset] [(.int (2 : Int32)), (.int (0 : Int32))])) _
        refine XS.idiv X17.here hx rfl (hb hby own_d5_48) rfl (by decide) ?_
        show Steps p.tables e below (T17.setTop (mkF m 49 #[.val (.ref o), .val (.int (1 : Int32)), .val (.int x5), .val (.long q10), .second, .val (.int (1 : Int32)), .unset] [(.int (0 : Int32))])) _
        refine XS.istore X17.here hx rfl (hb hby own_d5_49) rfl (l' := #[.val (.ref o), .val (.int (1 : Int32)), .val (.int x5), .val (.long q10), .second, .val (.int (1 : Int32)), .val (.int (0 : Int32))]) rfl ?_
        show Steps p.tables e below (T17.setTop (mkF m 51 #[.val (.ref o), .val (.int (1 : Int32)), .val (.int x5), .val (.long q10), .second, .val (.int (1 : Int32)), .val (.int (0 : Int32))] [])) _
        refine XS.aloadN X17.here hx rfl (hb hby own_d5_51) rfl rfl ?_
        show Steps p.tables e below (T17.setTop (mkF m 52 #[.val (.ref o), .val (.int (1 : Int32)), .val (.int x5), .val (.long q10), .second, .val (.int (1 : Int32)), .val (.int (0 : Int32))] [(.ref o)])) _
        refine XS.aloadN X17.here hx rfl (hb hby own_d5_52) rfl rfl ?_
        exact k)
    obtain ⟨T26, X26, e26, st26⟩ := getF X17 hx hZ hown (host := "") (Or.inl (hw _ (List.mem_of_getElem? (i := 13) rfl))) Via.refl e17 F21 (g := (mkF m 53 #[.val (.ref o), .val (.int (1 : Int32)), .val (.int x5), .val (.long q10), .second, .val (.int (1 : Int32)), .val (.int (0 : Int32))] [(.ref o), (.ref o)])) rfl rfl (hb hby own_d5_53)
    have G26 : Goes p e below s₁ (entryFrame m #[(.ref o), (.int (1 : Int32))] 7) T26 (mkF m 56 #[.val (.ref o), .val (.int (1 : Int32)), .val (.int x5), .val (.long q10), .second, .val (.int (1 : Int32)), .val (.int (0 : Int32))] [(.ref hp), (.ref o)]) := fun _ k => G25 _ (st26 _ k)
    have G27 : Goes p e below s₁ (entryFrame m #[(.ref o), (.int (1 : Int32))] 7) T26 (mkF m 58 #[.val (.ref o), .val (.int (1 : Int32)), .val (.int x5), .val (.long q10), .second, .val (.int (1 : Int32)), .val (.int (0 : Int32))] [(.int (0 : Int32)), (.ref hp), (.ref o)]) := fun _ k => G26 _ (by
        show Steps p.tables e below (T26.setTop (mkF m 56 #[.val (.ref o), .val (.int (1 : Int32)), .val (.int x5), .val (.long q10), .second, .val (.int (1 : Int32)), .val (.int (0 : Int32))] [(.ref hp), (.ref o)])) _
        refine XS.iload X26.here hx rfl (hb hby own_d5_56) rfl ?_
        exact k)
    have vc28 := A1
    obtain ⟨cl28, Ar28, S28, H28⟩ := vc28
    have hin28 : ¬ ((0 : Int32) < 0 ∨ cl28.slots.size ≤ ((0 : Int32)).toNatClampNeg) := inb_of S28 ⟨by decide, by decide⟩
    obtain ⟨x28, hat28, hx28⟩ := H28 _ (own_k S28 hin28)
    have G29 : Goes p e below s₁ (entryFrame m #[(.ref o), (.int (1 : Int32))] 7) T26 (mkF m 59 #[.val (.ref o), .val (.int (1 : Int32)), .val (.int x5), .val (.long q10), .second, .val (.int (1 : Int32)), .val (.int (0 : Int32))] [(.int x28), (.ref o)]) := fun _ k => G27 _ (by
        show Steps p.tables e below (T26.setTop (mkF m 58 #[.val (.ref o), .val (.int (1 : Int32)), .val (.int x5), .val (.long q10), .second, .val (.int (1 : Int32)), .val (.int (0 : Int32))] [(.int (0 : Int32)), (.ref hp), (.ref o)])) _
        refine X26.iaload hx (j := (0 : Int32)) (v := (.int x28)) (by rw [e26]; exact Ar28.1) (State.isArrayOf_alike hZ.alike Ar28.2.1) Ar28.2.2 hin28 hat28 (g := (mkF m 58 #[.val (.ref o), .val (.int (1 : Int32)), .val (.int x5), .val (.long q10), .second, .val (.int (1 : Int32)), .val (.int (0 : Int32))] [(.int (0 : Int32)), (.ref hp), (.ref o)])) rfl rfl (hb hby own_d5_58) _ ?_
        exact k)
    have G30 : Goes p e below s₁ (entryFrame m #[(.ref o), (.int (1 : Int32))] 7) T26 (mkF m 61 #[.val (.ref o), .val (.int (1 : Int32)), .val (.int x5), .val (.long q10), .second, .val (.int (1 : Int32)), .val (.int (0 : Int32))] [(.int (1 : Int32)), (.int x28), (.ref o)]) := fun _ k => G29 _ (by
        show Steps p.tables e below (T26.setTop (mkF m 59 #[.val (.ref o), .val (.int (1 : Int32)), .val (.int x5), .val (.long q10), .second, .val (.int (1 : Int32)), .val (.int (0 : Int32))] [(.int x28), (.ref o)])) _
        refine XS.iload X26.here hx rfl (hb hby own_d5_59) rfl ?_
        exact k)
    obtain ⟨cq31, q31, q31'⟩ := E1.cell
    obtain ⟨_, _, ⟨T31, L31, k31, n31⟩, -, X31, ⟨Lc31, hQ31, l31, y31, z31⟩, st31⟩ := X26.privateBack hx (y := (⟨"com/example/subterm/subterm/algorithm/IndexedHeap", "put", "(II)V"⟩ : MethodName)) hown (mvT hZ (hw _ (List.mem_of_getElem? (i := 33) rfl))) (mvT hZ (hw _ (List.mem_of_getElem? (i := 34) rfl))) (mvT hZ (own_sel (y := (⟨"com/example/subterm/subterm/algorithm/IndexedHeap", "put", "(II)V"⟩ : MethodName)) (by decide) (hw _ (List.mem_of_getElem? (i := 2) rfl)) (hw _ (List.mem_of_getElem? (i := 35) rfl)) (hw _ (List.mem_of_getElem? (i := 34) rfl)))) (Cond.privateMethod_at (mvP hZ (hw _ (List.mem_of_getElem? (i := 35) rfl)) (args := #[]))) (mvT hZ (hw _ (List.mem_of_getElem? (i := 36) rfl))) (by decide) (backOf (W := 0) (rm6 l Z a0 hw [] o r hp pl n x28 (1 : Int32) h0 n0 Zn I0 D hx28 ⟨by decide, by decide⟩) hZ (hw _ (List.mem_of_getElem? (i := 36) rfl)) (hw _ (List.mem_of_getElem? (i := 3) rfl)) (by decide) (by decide)) (g := (mkF m 61 #[.val (.ref o), .val (.int (1 : Int32)), .val (.int x5), .val (.long q10), .second, .val (.int (1 : Int32)), .val (.int (0 : Int32))] [(.int (1 : Int32)), (.int x28), (.ref o)])) rfl (by rw [hml]; rfl) (Steps.refl _) (a := o) (by rw [e26]; exact q31) q31' (argsL := [(.int x28), (.int (1 : Int32))]) (rest := []) (lenOf own_pd0 rfl) rfl (by show 2 * 0 + _ ≤ _; exact Nat.le_of_eq rfl) (hb hby own_d5_61) (fun _ _ => ⟨rfl, e26, (by decide : 0 + 0 ≤ _), (by decide : 0 + 0 ≤ _)⟩)
    dsimp only [Pt.U, Pt.locs, Pt.cells, Pt.slots] at X31 l31 y31 z31 st31 hQ31
    subst l31 y31 z31
    obtain ⟨rfl, N31q, Zn, I31⟩ := hQ31
    have N31 := Fr.app N0 N31q
    have G31 : Goes p e below s₁ (entryFrame m #[(.ref o), (.int (1 : Int32))] 7) T31 (mkF m 64 #[.val (.ref o), .val (.int (1 : Int32)), .val (.int x5), .val (.long q10), .second, .val (.int (1 : Int32)), .val (.int (0 : Int32))] []) := fun _ k => G30 _ (st31.trans k)
    have oi32 := I31
    obtain ⟨E32, F132, F232, F332, F432, R32, A32, P32⟩ := oi32
    have G33 : Goes p e below s₁ (entryFrame m #[(.ref o), (.int (1 : Int32))] 7) T31 (mkF m 19 #[.val (.ref o), .val (.int (1 : Int32)), .val (.int x5), .val (.long q10), .second, .val (.int (0 : Int32)), .val (.int (0 : Int32))] [(.int (0 : Int32))]) := fun _ k => G31 _ (by
        show Steps p.tables e below (T31.setTop (mkF m 64 #[.val (.ref o), .val (.int (1 : Int32)), .val (.int x5), .val (.long q10), .second, .val (.int (1 : Int32)), .val (.int (0 : Int32))] [])) _
        refine XS.iload X31.here hx rfl (hb hby own_d5_64) rfl ?_
        show Steps p.tables e below (T31.setTop (mkF m 66 #[.val (.ref o), .val (.int (1 : Int32)), .val (.int x5), .val (.long q10), .second, .val (.int (1 : Int32)), .val (.int (0 : Int32))] [(.int (0 : Int32))])) _
        refine XS.istore X31.here hx rfl (hb hby own_d5_66) rfl (l' := #[.val (.ref o), .val (.int (1 : Int32)), .val (.int x5), .val (.long q10), .second, .val (.int (0 : Int32)), .val (.int (0 : Int32))]) rfl ?_
        show Steps p.tables e below (T31.setTop (mkF m 68 #[.val (.ref o), .val (.int (1 : Int32)), .val (.int x5), .val (.long q10), .second, .val (.int (0 : Int32)), .val (.int (0 : Int32))] [])) _
        refine XS.goto X31.here hx rfl (pc0 := 68) (pc' := 17) rfl (hb hby own_d5_68) (by decide) (by decide) ?_
        show Steps p.tables e below (T31.setTop (mkF m 17 #[.val (.ref o), .val (.int (1 : Int32)), .val (.int x5), .val (.long q10), .second, .val (.int (0 : Int32)), .val (.int (0 : Int32))] [])) _
        refine XS.iload X31.here hx rfl (hb hby own_d5_17) rfl ?_
        exact k)
    have G34 : Goes p e below s₁ (entryFrame m #[(.ref o), (.int (1 : Int32))] 7) T31 (mkF m 71 #[.val (.ref o), .val (.int (1 : Int32)), .val (.int x5), .val (.long q10), .second, .val (.int (0 : Int32)), .val (.int (0 : Int32))] []) := fun _ k => G33 _ (by
        show Steps p.tables e below (T31.setTop (mkF m 19 #[.val (.ref o), .val (.int (1 : Int32)), .val (.int x5), .val (.long q10), .second, .val (.int (0 : Int32)), .val (.int (0 : Int32))] [(.int (0 : Int32))])) _
        refine XS.ifYes X31.here hx rfl (pc0 := 19) (pc' := 71) rfl (hb hby own_d5_19) rfl ((if0 _ _).trans (flt (by decide : ¬ ((0 : Int32) < (0 : Int32)))).2.2.2) (by decide) (by decide) ?_
        exact k)
    have G35 : Goes p e below s₁ (entryFrame m #[(.ref o), (.int (1 : Int32))] 7) T31 (mkF m 75 #[.val (.ref o), .val (.int (1 : Int32)), .val (.int x5), .val (.long q10), .second, .val (.int (0 : Int32)), .val (.int (0 : Int32))] [(.int (0 : Int32)), (.int x5), (.ref o)]) := fun _ k => G34 _ (by
        show Steps p.tables e below (T31.setTop (mkF m 71 #[.val (.ref o), .val (.int (1 : Int32)), .val (.int x5), .val (.long q10), .second, .val (.int (0 : Int32)), .val (.int (0 : Int32))] [])) _
        refine XS.aloadN X31.here hx rfl (hb hby own_d5_71) rfl rfl ?_
        show Steps p.tables e below (T31.setTop (mkF m 72 #[.val (.ref o), .val (.int (1 : Int32)), .val (.int x5), .val (.long q10), .second, .val (.int (0 : Int32)), .val (.int (0 : Int32))] [(.ref o)])) _
        refine XS.iloadN X31.here hx rfl (hb hby own_d5_72) rfl ?_
        show Steps p.tables e below (T31.setTop (mkF m 73 #[.val (.ref o), .val (.int (1 : Int32)), .val (.int x5), .val (.long q10), .second, .val (.int (0 : Int32)), .val (.int (0 : Int32))] [(.int x5), (.ref o)])) _
        refine XS.iload X31.here hx rfl (hb hby own_d5_73) rfl ?_
        exact k)
    obtain ⟨cq36, q36, q36'⟩ := E32.cell
    obtain ⟨_, _, ⟨T36, L36, k36, n36⟩, -, X36, ⟨Lc36, hQ36, l36, y36, z36⟩, st36⟩ := X31.privateBack hx (y := (⟨"com/example/subterm/subterm/algorithm/IndexedHeap", "put", "(II)V"⟩ : MethodName)) hown (mvT hZ (hw _ (List.mem_of_getElem? (i := 33) rfl))) (mvT hZ (hw _ (List.mem_of_getElem? (i := 34) rfl))) (mvT hZ (own_sel (y := (⟨"com/example/subterm/subterm/algorithm/IndexedHeap", "put", "(II)V"⟩ : MethodName)) (by decide) (hw _ (List.mem_of_getElem? (i := 2) rfl)) (hw _ (List.mem_of_getElem? (i := 35) rfl)) (hw _ (List.mem_of_getElem? (i := 34) rfl)))) (Cond.privateMethod_at (mvP hZ (hw _ (List.mem_of_getElem? (i := 35) rfl)) (args := #[]))) (mvT hZ (hw _ (List.mem_of_getElem? (i := 36) rfl))) (by decide) (backOf (W := 0) (rm6 l Z a0 hw [] o r hp pl n x5 (0 : Int32) T31.heap n0 Zn I31 D hx5 ⟨by decide, by decide⟩) hZ (hw _ (List.mem_of_getElem? (i := 36) rfl)) (hw _ (List.mem_of_getElem? (i := 3) rfl)) (by decide) (by decide)) (g := (mkF m 75 #[.val (.ref o), .val (.int (1 : Int32)), .val (.int x5), .val (.long q10), .second, .val (.int (0 : Int32)), .val (.int (0 : Int32))] [(.int (0 : Int32)), (.int x5), (.ref o)])) rfl (by rw [hml]; rfl) (Steps.refl _) (a := o) q36 q36' (argsL := [(.int x5), (.int (0 : Int32))]) (rest := []) (lenOf own_pd0 rfl) rfl (by show 2 * 0 + _ ≤ _; exact Nat.le_of_eq rfl) (hb hby own_d5_75) (fun _ _ => ⟨rfl, rfl, (by decide : 0 + 0 ≤ _), (by decide : 0 + 0 ≤ _)⟩)
    dsimp only [Pt.U, Pt.locs, Pt.cells, Pt.slots] at X36 l36 y36 z36 st36 hQ36
    subst l36 y36 z36
    obtain ⟨rfl, N36q, Zn, I36⟩ := hQ36
    have N36 := Fr.app N31 N36q
    have G36 : Goes p e below s₁ (entryFrame m #[(.ref o), (.int (1 : Int32))] 7) T36 (mkF m 78 #[.val (.ref o), .val (.int (1 : Int32)), .val (.int x5), .val (.long q10), .second, .val (.int (0 : Int32)), .val (.int (0 : Int32))] []) := fun _ k => G35 _ (st36.trans k)
    obtain ⟨fs, hr, hrun, hended, hW, hsame⟩ := X36.leave (v := none) (fun _ => rfl)
    refine ⟨_, _, G36 _ (X36.returnOut hx Bd.returns (hb hby own_d5_78) hr), hrun, hended, _, _, rfl, ?_, ⟨_, rfl⟩, hW, hsame.mono (by decide) (by decide)⟩
    show QV Z o r hp pl n n0 _ T36.heap _
    exact ⟨rfl, N36, Zn, I36⟩
  · have G37 : Goes p e below s₁ (entryFrame m #[(.ref o), (.int (1 : Int32))] 7) T17 (mkF m 71 #[.val (.ref o), .val (.int (1 : Int32)), .val (.int x5), .val (.long q10), .second, .val (.int (1 : Int32)), .unset] []) := fun _ k => G23 _ (by
        show Steps p.tables e below (T17.setTop (mkF m 40 #[.val (.ref o), .val (.int (1 : Int32)), .val (.int x5), .val (.long q10), .second, .val (.int (1 : Int32)), .unset] [(.int (lcmpW q21 q10))])) _
        refine XS.ifYes X17.here hx rfl (pc0 := 40) (pc' := 71) rfl (hb hby own_d5_40) rfl ((if0 _ _).trans (flt h1).2.2.2) (by decide) (by decide) ?_
        exact k)
    have G38 : Goes p e below s₁ (entryFrame m #[(.ref o), (.int (1 : Int32))] 7) T17 (mkF m 75 #[.val (.ref o), .val (.int (1 : Int32)), .val (.int x5), .val (.long q10), .second, .val (.int (1 : Int32)), .unset] [(.int (1 : Int32)), (.int x5), (.ref o)]) := fun _ k => G37 _ (by
        show Steps p.tables e below (T17.setTop (mkF m 71 #[.val (.ref o), .val (.int (1 : Int32)), .val (.int x5), .val (.long q10), .second, .val (.int (1 : Int32)), .unset] [])) _
        refine XS.aloadN X17.here hx rfl (hb hby own_d5_71) rfl rfl ?_
        show Steps p.tables e below (T17.setTop (mkF m 72 #[.val (.ref o), .val (.int (1 : Int32)), .val (.int x5), .val (.long q10), .second, .val (.int (1 : Int32)), .unset] [(.ref o)])) _
        refine XS.iloadN X17.here hx rfl (hb hby own_d5_72) rfl ?_
        show Steps p.tables e below (T17.setTop (mkF m 73 #[.val (.ref o), .val (.int (1 : Int32)), .val (.int x5), .val (.long q10), .second, .val (.int (1 : Int32)), .unset] [(.int x5), (.ref o)])) _
        refine XS.iload X17.here hx rfl (hb hby own_d5_73) rfl ?_
        exact k)
    obtain ⟨cq39, q39, q39'⟩ := E1.cell
    obtain ⟨_, _, ⟨T39, L39, k39, n39⟩, -, X39, ⟨Lc39, hQ39, l39, y39, z39⟩, st39⟩ := X17.privateBack hx (y := (⟨"com/example/subterm/subterm/algorithm/IndexedHeap", "put", "(II)V"⟩ : MethodName)) hown (mvT hZ (hw _ (List.mem_of_getElem? (i := 33) rfl))) (mvT hZ (hw _ (List.mem_of_getElem? (i := 34) rfl))) (mvT hZ (own_sel (y := (⟨"com/example/subterm/subterm/algorithm/IndexedHeap", "put", "(II)V"⟩ : MethodName)) (by decide) (hw _ (List.mem_of_getElem? (i := 2) rfl)) (hw _ (List.mem_of_getElem? (i := 35) rfl)) (hw _ (List.mem_of_getElem? (i := 34) rfl)))) (Cond.privateMethod_at (mvP hZ (hw _ (List.mem_of_getElem? (i := 35) rfl)) (args := #[]))) (mvT hZ (hw _ (List.mem_of_getElem? (i := 36) rfl))) (by decide) (backOf (W := 0) (rm6 l Z a0 hw [] o r hp pl n x5 (1 : Int32) h0 n0 Zn I0 D hx5 ⟨by decide, by decide⟩) hZ (hw _ (List.mem_of_getElem? (i := 36) rfl)) (hw _ (List.mem_of_getElem? (i := 3) rfl)) (by decide) (by decide)) (g := (mkF m 75 #[.val (.ref o), .val (.int (1 : Int32)), .val (.int x5), .val (.long q10), .second, .val (.int (1 : Int32)), .unset] [(.int (1 : Int32)), (.int x5), (.ref o)])) rfl (by rw [hml]; rfl) (Steps.refl _) (a := o) (by rw [e17]; exact q39) q39' (argsL := [(.int x5), (.int (1 : Int32))]) (rest := []) (lenOf own_pd0 rfl) rfl (by show 2 * 0 + _ ≤ _; exact Nat.le_of_eq rfl) (hb hby own_d5_75) (fun _ _ => ⟨rfl, e17, (by decide : 0 + 0 ≤ _), (by decide : 0 + 0 ≤ _)⟩)
    dsimp only [Pt.U, Pt.locs, Pt.cells, Pt.slots] at X39 l39 y39 z39 st39 hQ39
    subst l39 y39 z39
    obtain ⟨rfl, N39q, Zn, I39⟩ := hQ39
    have N39 := Fr.app N0 N39q
    have G39 : Goes p e below s₁ (entryFrame m #[(.ref o), (.int (1 : Int32))] 7) T39 (mkF m 78 #[.val (.ref o), .val (.int (1 : Int32)), .val (.int x5), .val (.long q10), .second, .val (.int (1 : Int32)), .unset] []) := fun _ k => G38 _ (st39.trans k)
    obtain ⟨fs, hr, hrun, hended, hW, hsame⟩ := X39.leave (v := none) (fun _ => rfl)
    refine ⟨_, _, G39 _ (X39.returnOut hx Bd.returns (hb hby own_d5_78) hr), hrun, hended, _, _, rfl, ?_, ⟨_, rfl⟩, hW, hsame.mono (by decide) (by decide)⟩
    show QV Z o r hp pl n n0 _ T39.heap _
    exact ⟨rfl, N39, Zn, I39⟩
set_option maxRecDepth 65536 in
set_option maxHeartbeats 40000000 in
theorem rm5_2 (l : Launch) (Z : State) (a0 : Array Value) (hw : ∀ d ∈ tables_1, d.before a0 Z = true) (ws : List Jvm.Cond) (o r hp pl : Addr) (n : Int32) (h0 : Heap) (n0 : Nat) (Z0 : n0 ≤ h0.size) (I0 : Inv Z h0 o r hp pl n) (D : Dis n0 o r hp pl) :
    MetFree l (⟨"com/example/subterm/subterm/algorithm/IndexedHeap", "moveUp", "(I)V"⟩ : MethodName) (head1 (Jvm.Cond.code (⟨"com/example/subterm/subterm/algorithm/IndexedHeap", "moveUp", "(I)V"⟩ : MethodName) prog_6_method_6_code 7 none :: ws) ({ frames := 1, cells := 0, slots := 0, locals := 14 } : Room)) (fun a U => a = #[(.ref o), (.int (2 : Int32))] ∧ Z.Warmed39 U.vm ∧ U.heap = h0) (fun _ _ _ _ _ => True) (fun _ U oc U' => ∃ v L, oc = .returned v ∧ QV Z o r hp pl n n0 v U'.heap L ∧ FrameEnd U oc U' L ({ frames := 1, cells := 0, slots := 0, locals := 14 } : Room).cells ({ frames := 1, cells := 0, slots := 0, locals := 14 } : Room).slots) := by
  refine MetFree.of_bodySF (plainFor_of_name own_pn0) hisR ?_
  intro p e s m args below meth c s₁ Bd hml0 hP hK
  obtain ⟨rfl, hZ, hh⟩ := hP
  have hx := Bd.exec
  have hby := Bd.bytes
  have hml : c.maxLocals = 7 := hml0
  have hown : s.vm.findClass "com/example/subterm/subterm/algorithm/IndexedHeap" = some m.cls := findClass_of_methodNamed Bd.named
  have hnm := (name_of_methodNamed Bd.named Bd.method).1
  have X0 : Stand p l e ({ frames := 1, cells := 0, slots := 0, locals := 14 } : Room) s m #[(.ref o), (.int (2 : Int32))] below meth c s₁ [] 0 0 := Stand.of_body Bd
  have e0 : s₁.heap = h0 := by rw [← hh, Bd.state]; rfl
  have N0 := Fr.nil n0
  have G0 : Goes p e below s₁ (entryFrame m #[(.ref o), (.int (2 : Int32))] 7) s₁ (mkF m 0 #[.val (.ref o), .val (.int (2 : Int32)), .unset, .unset, .unset, .unset, .unset] []) := fun _ k => castTop (by first | (simp [entryFrame, mkF, argsToLocals, Value.category]; done) | rfl : (entryFrame m #[(.ref o), (.int (2 : Int32))] 7) = mkF m 0 #[.val (.ref o), .val (.int (2 : Int32)), .unset, .unset, .unset, .unset, .unset] []) k
  have Zn := Z0
  have D' := D
  obtain ⟨go, ghp, gpl, -⟩ := D'
  have oi1 := I0
  obtain ⟨E1, F11, F21, F31, F41, R1, A1, P1⟩ := oi1
  have G2 : Goes p e below s₁ (entryFrame m #[(.ref o), (.int (2 : Int32))] 7) s₁ (mkF m 1 #[.val (.ref o), .val (.int (2 : Int32)), .unset, .unset, .unset, .unset, .unset] [(.ref o)]) := fun _ k => G0 _ (by
      show Steps p.tables e below (s₁.setTop (mkF m 0 #[.val (.ref o), .val (.int (2 : Int32)), .unset, .unset, .unset, .unset, .unset] [])) _
      refine XS.aloadN X0.here hx rfl (hb hby own_d5_0) rfl rfl ?_
      exact k)
  obtain ⟨T3, X3, e3, st3⟩ := getF X0 hx hZ hown (host := "") (Or.inl (hw _ (List.mem_of_getElem? (i := 13) rfl))) Via.refl e0 F21 (g := (mkF m 1 #[.val (.ref o), .val (.int (2 : Int32)), .unset, .unset, .unset, .unset, .unset] [(.ref o)])) rfl rfl (hb hby own_d5_1)
  have G3 : Goes p e below s₁ (entryFrame m #[(.ref o), (.int (2 : Int32))] 7) T3 (mkF m 4 #[.val (.ref o), .val (.int (2 : Int32)), .unset, .unset, .unset, .unset, .unset] [(.ref hp)]) := fun _ k => G2 _ (st3 _ k)
  have G4 : Goes p e below s₁ (entryFrame m #[(.ref o), (.int (2 : Int32))] 7) T3 (mkF m 5 #[.val (.ref o), .val (.int (2 : Int32)), .unset, .unset, .unset, .unset, .unset] [(.int (2 : Int32)), (.ref hp)]) := fun _ k => G3 _ (by
      show Steps p.tables e below (T3.setTop (mkF m 4 #[.val (.ref o), .val (.int (2 : Int32)), .unset, .unset, .unset, .unset, .unset] [(.ref hp)])) _
      refine XS.iloadN X3.here hx rfl (hb hby own_d5_4) rfl ?_
      exact k)
  have vc5 := A1
  obtain ⟨cl5, Ar5, S5, H5⟩ := vc5
  have hin5 : ¬ ((2 : Int32) < 0 ∨ cl5.slots.size ≤ ((2 : Int32)).toNatClampNeg) := inb_of S5 ⟨by decide, by decide⟩
  obtain ⟨x5, hat5, hx5⟩ := H5 _ (own_k S5 hin5)
  have G6 : Goes p e below s₁ (entryFrame m #[(.ref o), (.int (2 : Int32))] 7) T3 (mkF m 6 #[.val (.ref o), .val (.int (2 : Int32)), .unset, .unset, .unset, .unset, .unset] [(.int x5)]) := fun _ k => G4 _ (by
      show Steps p.tables e below (T3.setTop (mkF m 5 #[.val (.ref o), .val (.int (2 : Int32)), .unset, .unset, .unset, .unset, .unset] [(.int (2 : Int32)), (.ref hp)])) _
      refine X3.iaload hx (j := (2 : Int32)) (v := (.int x5)) (by rw [e3]; exact Ar5.1) (State.isArrayOf_alike hZ.alike Ar5.2.1) Ar5.2.2 hin5 hat5 (g := (mkF m 5 #[.val (.ref o), .val (.int (2 : Int32)), .unset, .unset, .unset, .unset, .unset] [(.int (2 : Int32)), (.ref hp)])) rfl rfl (hb hby own_d5_5) _ ?_
      exact k)
  have G7 : Goes p e below s₁ (entryFrame m #[(.ref o), (.int (2 : Int32))] 7) T3 (mkF m 8 #[.val (.ref o), .val (.int (2 : Int32)), .val (.int x5), .unset, .unset, .unset, .unset] [(.ref o)]) := fun _ k => G6 _ (by
      show Steps p.tables e below (T3.setTop (mkF m 6 #[.val (.ref o), .val (.int (2 : Int32)), .unset, .unset, .unset, .unset, .unset] [(.int x5)])) _
      refine XS.istoreN X3.here hx rfl (hb hby own_d5_6) rfl (l' := #[.val (.ref o), .val (.int (2 : Int32)), .val (.int x5), .unset, .unset, .unset, .unset]) rfl ?_
      show Steps p.tables e below (T3.setTop (mkF m 7 #[.val (.ref o), .val (.int (2 : Int32)), .val (.int x5), .unset, .unset, .unset, .unset] [])) _
      refine XS.aloadN X3.here hx rfl (hb hby own_d5_7) rfl rfl ?_
      exact k)
  obtain ⟨T8, X8, e8, st8⟩ := getF X3 hx hZ hown (host := "") (Or.inl (hw _ (List.mem_of_getElem? (i := 10) rfl))) Via.refl e3 F11 (g := (mkF m 8 #[.val (.ref o), .val (.int (2 : Int32)), .val (.int x5), .unset, .unset, .unset, .unset] [(.ref o)])) rfl rfl (hb hby own_d5_8)
  have G8 : Goes p e below s₁ (entryFrame m #[(.ref o), (.int (2 : Int32))] 7) T8 (mkF m 11 #[.val (.ref o), .val (.int (2 : Int32)), .val (.int x5), .unset, .unset, .unset, .unset] [(.ref r)]) := fun _ k => G7 _ (st8 _ k)
  have G9 : Goes p e below s₁ (entryFrame m #[(.ref o), (.int (2 : Int32))] 7) T8 (mkF m 12 #[.val (.ref o), .val (.int (2 : Int32)), .val (.int x5), .unset, .unset, .unset, .unset] [(.int x5), (.ref r)]) := fun _ k => G8 _ (by
      show Steps p.tables e below (T8.setTop (mkF m 11 #[.val (.ref o), .val (.int (2 : Int32)), .val (.int x5), .unset, .unset, .unset, .unset] [(.ref r)])) _
      refine XS.iloadN X8.here hx rfl (hb hby own_d5_11) rfl ?_
      exact k)
  have vc10 := R1
  obtain ⟨cl10, Ar10, S10, H10⟩ := vc10
  have hin10 : ¬ (x5 < 0 ∨ cl10.slots.size ≤ (x5).toNatClampNeg) := inb_of S10 hx5
  obtain ⟨q10, hat10⟩ := H10 _ (own_k S10 hin10)
  have G11 : Goes p e below s₁ (entryFrame m #[(.ref o), (.int (2 : Int32))] 7) T8 (mkF m 13 #[.val (.ref o), .val (.int (2 : Int32)), .val (.int x5), .unset, .unset, .unset, .unset] [(.long q10)]) := fun _ k => G9 _ (by
      show Steps p.tables e below (T8.setTop (mkF m 12 #[.val (.ref o), .val (.int (2 : Int32)), .val (.int x5), .unset, .unset, .unset, .unset] [(.int x5), (.ref r)])) _
      refine X8.laload hx (j := x5) (v := (.long q10)) (by rw [e8]; exact Ar10.1) (State.isArrayOf_alike hZ.alike Ar10.2.1) Ar10.2.2 hin10 hat10 (g := (mkF m 12 #[.val (.ref o), .val (.int (2 : Int32)), .val (.int x5), .unset, .unset, .unset, .unset] [(.int x5), (.ref r)])) rfl rfl (hb hby own_d5_12) _ ?_
      exact k)
  have G12 : Goes p e below s₁ (entryFrame m #[(.ref o), (.int (2 : Int32))] 7) T8 (mkF m 19 #[.val (.ref o), .val (.int (2 : Int32)), .val (.int x5), .val (.long q10), .second, .val (.int (2 : Int32)), .unset] [(.int (2 : Int32))]) := fun _ k => G11 _ (by
      show Steps p.tables e below (T8.setTop (mkF m 13 #[.val (.ref o), .val (.int (2 : Int32)), .val (.int x5), .unset, .unset, .unset, .unset] [(.long q10)])) _
      refine XS.lstoreN X8.here hx rfl (hb hby own_d5_13) rfl (l' := #[.val (.ref o), .val (.int (2 : Int32)), .val (.int x5), .val (.long q10), .second, .unset, .unset]) rfl ?_
      show Steps p.tables e below (T8.setTop (mkF m 14 #[.val (.ref o), .val (.int (2 : Int32)), .val (.int x5), .val (.long q10), .second, .unset, .unset] [])) _
      refine XS.iloadN X8.here hx rfl (hb hby own_d5_14) rfl ?_
      show Steps p.tables e below (T8.setTop (mkF m 15 #[.val (.ref o), .val (.int (2 : Int32)), .val (.int x5), .val (.long q10), .second, .unset, .unset] [(.int (2 : Int32))])) _
      refine XS.istore X8.here hx rfl (hb hby own_d5_15) rfl (l' := #[.val (.ref o), .val (.int (2 : Int32)), .val (.int x5), .val (.long q10), .second, .val (.int (2 : Int32)), .unset]) rfl ?_
      show Steps p.tables e below (T8.setTop (mkF m 17 #[.val (.ref o), .val (.int (2 : Int32)), .val (.int x5), .val (.long q10), .second, .val (.int (2 : Int32)), .unset] [])) _
      refine XS.iload X8.here hx rfl (hb hby own_d5_17) rfl ?_
      exact k)
  have G13 : Goes p e below s₁ (entryFrame m #[(.ref o), (.int (2 : Int32))] 7) T8 (mkF m 22 #[.val (.ref o), .val (.int (2 : Int32)), .val (.int x5), .val (.long q10), .second, .val (.int (2 : Int32)), .unset] []) := fun _ k => G12 _ (by
      show Steps p.tables e below (T8.setTop (mkF m 19 #[.val (.ref o), .val (.int (2 : Int32)), .val (.int x5), .val (.long q10), .second, .val (.int (2 : Int32)), .unset] [(.int (2 : Int32))])) _
      refine XS.ifNo X8.here hx rfl (hb hby own_d5_19) rfl ((if0 _ _).trans (tlt (by decide : (0 : Int32) < (2 : Int32))).2.2.2) ?_
      exact k)
  have G14 : Goes p e below s₁ (entryFrame m #[(.ref o), (.int (2 : Int32))] 7) T8 (mkF m 23 #[.val (.ref o), .val (.int (2 : Int32)), .val (.int x5), .val (.long q10), .second, .val (.int (2 : Int32)), .unset] [(.ref o)]) := fun _ k => G13 _ (by
      show Steps p.tables e below (T8.setTop (mkF m 22 #[.val (.ref o), .val (.int (2 : Int32)), .val (.int x5), .val (.long q10), .second, .val (.int (2 : Int32)), .unset] [])) _
      refine XS.aloadN X8.here hx rfl (hb hby own_d5_22) rfl rfl ?_
      exact k)
  obtain ⟨T15, X15, e15, st15⟩ := getF X8 hx hZ hown (host := "") (Or.inl (hw _ (List.mem_of_getElem? (i := 10) rfl))) Via.refl e8 F11 (g := (mkF m 23 #[.val (.ref o), .val (.int (2 : Int32)), .val (.int x5), .val (.long q10), .second, .val (.int (2 : Int32)), .unset] [(.ref o)])) rfl rfl (hb hby own_d5_23)
  have G15 : Goes p e below s₁ (entryFrame m #[(.ref o), (.int (2 : Int32))] 7) T15 (mkF m 26 #[.val (.ref o), .val (.int (2 : Int32)), .val (.int x5), .val (.long q10), .second, .val (.int (2 : Int32)), .unset] [(.ref r)]) := fun _ k => G14 _ (st15 _ k)
  have G16 : Goes p e below s₁ (entryFrame m #[(.ref o), (.int (2 : Int32))] 7) T15 (mkF m 27 #[.val (.ref o), .val (.int (2 : Int32)), .val (.int x5), .val (.long q10), .second, .val (.int (2 : Int32)), .unset] [(.ref o), (.ref r)]) := fun _ k => G15 _ (by
      show Steps p.tables e below (T15.setTop (mkF m 26 #[.val (.ref o), .val (.int (2 : Int32)), .val (.int x5), .val (.long q10), .second, .val (.int (2 : Int32)), .unset] [(.ref r)])) _
      refine XS.aloadN X15.here hx rfl (hb hby own_d5_26) rfl rfl ?_
      exact k)
  obtain ⟨T17, X17, e17, st17⟩ := getF X15 hx hZ hown (host := "") (Or.inl (hw _ (List.mem_of_getElem? (i := 13) rfl))) Via.refl e15 F21 (g := (mkF m 27 #[.val (.ref o), .val (.int (2 : Int32)), .val (.int x5), .val (.long q10), .second, .val (.int (2 : Int32)), .unset] [(.ref o), (.ref r)])) rfl rfl (hb hby own_d5_27)
  have G17 : Goes p e below s₁ (entryFrame m #[(.ref o), (.int (2 : Int32))] 7) T17 (mkF m 30 #[.val (.ref o), .val (.int (2 : Int32)), .val (.int x5), .val (.long q10), .second, .val (.int (2 : Int32)), .unset] [(.ref hp), (.ref r)]) := fun _ k => G16 _ (st17 _ k)
  have G18 : Goes p e below s₁ (entryFrame m #[(.ref o), (.int (2 : Int32))] 7) T17 (mkF m 36 #[.val (.ref o), .val (.int (2 : Int32)), .val (.int x5), .val (.long q10), .second, .val (.int (2 : Int32)), .unset] [(.int (0 : Int32)), (.ref hp), (.ref r)]) := fun _ k => G17 _ (by
      show Steps p.tables e below (T17.setTop (mkF m 30 #[.val (.ref o), .val (.int (2 : Int32)), .val (.int x5), .val (.long q10), .second, .val (.int (2 : Int32)), .unset] [(.ref hp), (.ref r)])) _
      refine XS.iload X17.here hx rfl (hb hby own_d5_30) rfl ?_
      show Steps p.tables e below (T17.setTop (mkF m 32 #[.val (.ref o), .val (.int (2 : Int32)), .val (.int x5), .val (.long q10), .second, .val (.int (2 : Int32)), .unset] [(.int (2 : Int32)), (.ref hp), (.ref r)])) _
      refine XS.iconst X17.here hx rfl (hb hby own_d5_32) ?_
      show Steps p.tables e below (T17.setTop (mkF m 33 #[.val (.ref o), .val (.int (2 : Int32)), .val (.int x5), .val (.long q10), .second, .val (.int (2 : Int32)), .unset] [(.int (1 : Int32)), (.int (2 : Int32)), (.ref hp), (.ref r)])) _
      refine XS.isub X17.here hx rfl (hb hby own_d5_33) rfl ?_
      show Steps p.tables e below (T17.setTop (mkF m 34 #[.val (.ref o), .val (.int (2 : Int32)), .val (.int x5), .val (.long q10), .second, .val (.int (2 : Int32)), .unset] [(.int (1 : Int32)), (.ref hp), (.ref r)])) _
      refine XS.iconst X17.here hx rfl (hb hby own_d5_34) ?_
      show Steps p.tables e below (T17.setTop (mkF m 35 #[.val (.ref o), .val (.int (2 : Int32)), .val (.int x5), .val (.long q10), .second, .val (.int (2 : Int32)), .unset] [(.int (2 : Int32)), (.int (1 : Int32)), (.ref hp), (.ref r)])) _
      refine XS.idiv X17.here hx rfl (hb hby own_d5_35) rfl (by decide) ?_
      exact k)
  have vc19 := A1
  obtain ⟨cl19, Ar19, S19, H19⟩ := vc19
  have hin19 : ¬ ((0 : Int32) < 0 ∨ cl19.slots.size ≤ ((0 : Int32)).toNatClampNeg) := inb_of S19 ⟨by decide, by decide⟩
  obtain ⟨x19, hat19, hx19⟩ := H19 _ (own_k S19 hin19)
  have G20 : Goes p e below s₁ (entryFrame m #[(.ref o), (.int (2 : Int32))] 7) T17 (mkF m 37 #[.val (.ref o), .val (.int (2 : Int32)), .val (.int x5), .val (.long q10), .second, .val (.int (2 : Int32)), .unset] [(.int x19), (.ref r)]) := fun _ k => G18 _ (by
      show Steps p.tables e below (T17.setTop (mkF m 36 #[.val (.ref o), .val (.int (2 : Int32)), .val (.int x5), .val (.long q10), .second, .val (.int (2 : Int32)), .unset] [(.int (0 : Int32)), (.ref hp), (.ref r)])) _
      refine X17.iaload hx (j := (0 : Int32)) (v := (.int x19)) (by rw [e17]; exact Ar19.1) (State.isArrayOf_alike hZ.alike Ar19.2.1) Ar19.2.2 hin19 hat19 (g := (mkF m 36 #[.val (.ref o), .val (.int (2 : Int32)), .val (.int x5), .val (.long q10), .second, .val (.int (2 : Int32)), .unset] [(.int (0 : Int32)), (.ref hp), (.ref r)])) rfl rfl (hb hby own_d5_36) _ ?_
      exact k)
  have vc21 := R1
  obtain ⟨cl21, Ar21, S21, H21⟩ := vc21
  have hin21 : ¬ (x19 < 0 ∨ cl21.slots.size ≤ (x19).toNatClampNeg) := inb_of S21 hx19
  obtain ⟨q21, hat21⟩ := H21 _ (own_k S21 hin21)
  have G22 : Goes p e below s₁ (entryFrame m #[(.ref o), (.int (2 : Int32))] 7) T17 (mkF m 38 #[.val (.ref o), .val (.int (2 : Int32)), .val (.int x5), .val (.long q10), .second, .val (.int (2 : Int32)), .unset] [(.long q21)]) := fun _ k => G20 _ (by
      show Steps p.tables e below (T17.setTop (mkF m 37 #[.val (.ref o), .val (.int (2 : Int32)), .val (.int x5), .val (.long q10), .second, .val (.int (2 : Int32)), .unset] [(.int x19), (.ref r)])) _
      refine X17.laload hx (j := x19) (v := (.long q21)) (by rw [e17]; exact Ar21.1) (State.isArrayOf_alike hZ.alike Ar21.2.1) Ar21.2.2 hin21 hat21 (g := (mkF m 37 #[.val (.ref o), .val (.int (2 : Int32)), .val (.int x5), .val (.long q10), .second, .val (.int (2 : Int32)), .unset] [(.int x19), (.ref r)])) rfl rfl (hb hby own_d5_37) _ ?_
      exact k)
  have G23 : Goes p e below s₁ (entryFrame m #[(.ref o), (.int (2 : Int32))] 7) T17 (mkF m 40 #[.val (.ref o), .val (.int (2 : Int32)), .val (.int x5), .val (.long q10), .second, .val (.int (2 : Int32)), .unset] [(.int (lcmpW q21 q10))]) := fun _ k => G22 _ (by
      show Steps p.tables e below (T17.setTop (mkF m 38 #[.val (.ref o), .val (.int (2 : Int32)), .val (.int x5), .val (.long q10), .second, .val (.int (2 : Int32)), .unset] [(.long q21)])) _
      refine XS.lloadN X17.here hx rfl (hb hby own_d5_38) rfl ?_
      show Steps p.tables e below (T17.setTop (mkF m 39 #[.val (.ref o), .val (.int (2 : Int32)), .val (.int x5), .val (.long q10), .second, .val (.int (2 : Int32)), .unset] [(.long q10), (.long q21)])) _
      refine XS.lcmp X17.here hx rfl (hb hby own_d5_39) rfl ?_
      exact k)
  by_cases h1 : (0 : Int32) < (lcmpW q21 q10)
  · have G24 : Goes p e below s₁ (entryFrame m #[(.ref o), (.int (2 : Int32))] 7) T17 (mkF m 43 #[.val (.ref o), .val (.int (2 : Int32)), .val (.int x5), .val (.long q10), .second, .val (.int (2 : Int32)), .unset] []) := fun _ k => G23 _ (by
        show Steps p.tables e below (T17.setTop (mkF m 40 #[.val (.ref o), .val (.int (2 : Int32)), .val (.int x5), .val (.long q10), .second, .val (.int (2 : Int32)), .unset] [(.int (lcmpW q21 q10))])) _
        refine XS.ifNo X17.here hx rfl (hb hby own_d5_40) rfl ((if0 _ _).trans (tlt h1).2.2.2) ?_
        exact k)
    have G25 : Goes p e below s₁ (entryFrame m #[(.ref o), (.int (2 : Int32))] 7) T17 (mkF m 53 #[.val (.ref o), .val (.int (2 : Int32)), .val (.int x5), .val (.long q10), .second, .val (.int (2 : Int32)), .val (.int (0 : Int32))] [(.ref o), (.ref o)]) := fun _ k => G24 _ (by
        show Steps p.tables e below (T17.setTop (mkF m 43 #[.val (.ref o), .val (.int (2 : Int32)), .val (.int x5), .val (.long q10), .second, .val (.int (2 : Int32)), .unset] [])) _
        refine XS.iload X17.here hx rfl (hb hby own_d5_43) rfl ?_
        show Steps p.tables e below (T17.setTop (mkF m 45 #[.val (.ref o), .val (.int (2 : Int32)), .val (.int x5), .val (.long q10), .second, .val (.int (2 : Int32)), .unset] [(.int (2 : Int32))])) _
        refine XS.iconst X17.here hx rfl (hb hby own_d5_45) ?_
        show Steps p.tables e below (T17.setTop (mkF m 46 #[.val (.ref o), .val (.int (2 : Int32)), .val (.int x5), .val (.long q10), .second, .val (.int (2 : Int32)), .unset] [(.int (1 : Int32)), (.int (2 : Int32))])) _
        refine XS.isub X17.here hx rfl (hb hby own_d5_46) rfl ?_
        show Steps p.tables e below (T17.setTop (mkF m 47 #[.val (.ref o), .val (.int (2 : Int32)), .val (.int x5), .val (.long q10), .second, .val (.int (2 : Int32)), .unset] [(.int (1 : Int32))])) _
        refine XS.iconst X17.here hx rfl (hb hby own_d5_47) ?_
        show Steps p.tables e below (T17.setTop (mkF m 48 #[.val (.ref o), .val (.int (2 : Int32)), .val (.int x5), .val (.long q10), .second, .val (.int (2 : Int32)), .unset] [(.int (2 : Int32)), (.int (1 : Int32))])) _
        refine XS.idiv X17.here hx rfl (hb hby own_d5_48) rfl (by decide) ?_
        show Steps p.tables e below (T17.setTop (mkF m 49 #[.val (.ref o), .val (.int (2 : Int32)), .val (.int x5), .val (.long q10), .second, .val (.int (2 : Int32)), .unset] [(.int (0 : Int32))])) _
        refine XS.istore X17.here hx rfl (hb hby own_d5_49) rfl (l' := #[.val (.ref o), .val (.int (2 : Int32)), .val (.int x5), .val (.long q10), .second, .val (.int (2 : Int32)), .val (.int (0 : Int32))]) rfl ?_
        show Steps p.tables e below (T17.setTop (mkF m 51 #[.val (.ref o), .val (.int (2 : Int32)), .val (.int x5), .val (.long q10), .second, .val (.int (2 : Int32)), .val (.int (0 : Int32))] [])) _
        refine XS.aloadN X17.here hx rfl (hb hby own_d5_51) rfl rfl ?_
        show Steps p.tables e below (T17.setTop (mkF m 52 #[.val (.ref o), .val (.int (2 : Int32)), .val (.int x5), .val (.long q10), .second, .val (.int (2 : Int32)), .val (.int (0 : Int32))] [(.ref o)])) _
        refine XS.aloadN X17.here hx rfl (hb hby own_d5_52) rfl rfl ?_
        exact k)
    obtain ⟨T26, X26, e26, st26⟩ := getF X17 hx hZ hown (host := "") (Or.inl (hw _ (List.mem_of_getElem? (i := 13) rfl))) Via.refl e17 F21 (g := (mkF m 53 #[.val (.ref o), .val (.int (2 : Int32)), .val (.int x5), .val (.long q10), .second, .val (.int (2 : Int32)), .val (.int (0 : Int32))] [(.ref o), (.ref o)])) rfl rfl (hb hby own_d5_53)
    have G26 : Goes p e below s₁ (entryFrame m #[(.ref o), (.int (2 : Int32))] 7) T26 (mkF m 56 #[.val (.ref o), .val (.int (2 : Int32)), .val (.int x5), .val (.long q10), .second, .val (.int (2 : Int32)), .val (.int (0 : Int32))] [(.ref hp), (.ref o)]) := fun _ k => G25 _ (st26 _ k)
    have G27 : Goes p e below s₁ (entryFrame m #[(.ref o), (.int (2 : Int32))] 7) T26 (mkF m 58 #[.val (.ref o), .val (.int (2 : Int32)), .val (.int x5), .val (.long q10), .second, .val (.int (2 : Int32)), .val (.int (0 : Int32))] [(.int (0 : Int32)), (.ref hp), (.ref o)]) := fun _ k => G26 _ (by
        show Steps p.tables e below (T26.setTop (mkF m 56 #[.val (.ref o), .val (.int (2 : Int32)), .val (.int x5), .val (.long q10), .second, .val (.int (2 : Int32)), .val (.int (0 : Int32))] [(.ref hp), (.ref o)])) _
        refine XS.iload X26.here hx rfl (hb hby own_d5_56) rfl ?_
        exact k)
    have vc28 := A1
    obtain ⟨cl28, Ar28, S28, H28⟩ := vc28
    have hin28 : ¬ ((0 : Int32) < 0 ∨ cl28.slots.size ≤ ((0 : Int32)).toNatClampNeg) := inb_of S28 ⟨by decide, by decide⟩
    obtain ⟨x28, hat28, hx28⟩ := H28 _ (own_k S28 hin28)
    have G29 : Goes p e below s₁ (entryFrame m #[(.ref o), (.int (2 : Int32))] 7) T26 (mkF m 59 #[.val (.ref o), .val (.int (2 : Int32)), .val (.int x5), .val (.long q10), .second, .val (.int (2 : Int32)), .val (.int (0 : Int32))] [(.int x28), (.ref o)]) := fun _ k => G27 _ (by
        show Steps p.tables e below (T26.setTop (mkF m 58 #[.val (.ref o), .val (.int (2 : Int32)), .val (.int x5), .val (.long q10), .second, .val (.int (2 : Int32)), .val (.int (0 : Int32))] [(.int (0 : Int32)), (.ref hp), (.ref o)])) _
        refine X26.iaload hx (j := (0 : Int32)) (v := (.int x28)) (by rw [e26]; exact Ar28.1) (State.isArrayOf_alike hZ.alike Ar28.2.1) Ar28.2.2 hin28 hat28 (g := (mkF m 58 #[.val (.ref o), .val (.int (2 : Int32)), .val (.int x5), .val (.long q10), .second, .val (.int (2 : Int32)), .val (.int (0 : Int32))] [(.int (0 : Int32)), (.ref hp), (.ref o)])) rfl rfl (hb hby own_d5_58) _ ?_
        exact k)
    have G30 : Goes p e below s₁ (entryFrame m #[(.ref o), (.int (2 : Int32))] 7) T26 (mkF m 61 #[.val (.ref o), .val (.int (2 : Int32)), .val (.int x5), .val (.long q10), .second, .val (.int (2 : Int32)), .val (.int (0 : Int32))] [(.int (2 : Int32)), (.int x28), (.ref o)]) := fun _ k => G29 _ (by
        show Steps p.tables e below (T26.setTop (mkF m 59 #[.val (.ref o), .val (.int (2 : Int32)), .val (.int x5), .val (.long q10), .second, .val (.int (2 : Int32)), .val (.int (0 : Int32))] [(.int x28), (.ref o)])) _
        refine XS.iload X26.here hx rfl (hb hby own_d5_59) rfl ?_
        exact k)
    obtain ⟨cq31, q31, q31'⟩ := E1.cell
    obtain ⟨_, _, ⟨T31, L31, k31, n31⟩, -, X31, ⟨Lc31, hQ31, l31, y31, z31⟩, st31⟩ := X26.privateBack hx (y := (⟨"com/example/subterm/subterm/algorithm/IndexedHeap", "put", "(II)V"⟩ : MethodName)) hown (mvT hZ (hw _ (List.mem_of_getElem? (i := 33) rfl))) (mvT hZ (hw _ (List.mem_of_getElem? (i := 34) rfl))) (mvT hZ (own_sel (y := (⟨"com/example/subterm/subterm/algorithm/IndexedHeap", "put", "(II)V"⟩ : MethodName)) (by decide) (hw _ (List.mem_of_getElem? (i := 2) rfl)) (hw _ (List.mem_of_getElem? (i := 35) rfl)) (hw _ (List.mem_of_getElem? (i := 34) rfl)))) (Cond.privateMethod_at (mvP hZ (hw _ (List.mem_of_getElem? (i := 35) rfl)) (args := #[]))) (mvT hZ (hw _ (List.mem_of_getElem? (i := 36) rfl))) (by decide) (backOf (W := 0) (rm6 l Z a0 hw [] o r hp pl n x28 (2 : Int32) h0 n0 Zn I0 D hx28 ⟨by decide, by decide⟩) hZ (hw _ (List.mem_of_getElem? (i := 36) rfl)) (hw _ (List.mem_of_getElem? (i := 3) rfl)) (by decide) (by decide)) (g := (mkF m 61 #[.val (.ref o), .val (.int (2 : Int32)), .val (.int x5), .val (.long q10), .second, .val (.int (2 : Int32)), .val (.int (0 : Int32))] [(.int (2 : Int32)), (.int x28), (.ref o)])) rfl (by rw [hml]; rfl) (Steps.refl _) (a := o) (by rw [e26]; exact q31) q31' (argsL := [(.int x28), (.int (2 : Int32))]) (rest := []) (lenOf own_pd0 rfl) rfl (by show 2 * 0 + _ ≤ _; exact Nat.le_of_eq rfl) (hb hby own_d5_61) (fun _ _ => ⟨rfl, e26, (by decide : 0 + 0 ≤ _), (by decide : 0 + 0 ≤ _)⟩)
    dsimp only [Pt.U, Pt.locs, Pt.cells, Pt.slots] at X31 l31 y31 z31 st31 hQ31
    subst l31 y31 z31
    obtain ⟨rfl, N31q, Zn, I31⟩ := hQ31
    have N31 := Fr.app N0 N31q
    have G31 : Goes p e below s₁ (entryFrame m #[(.ref o), (.int (2 : Int32))] 7) T31 (mkF m 64 #[.val (.ref o), .val (.int (2 : Int32)), .val (.int x5), .val (.long q10), .second, .val (.int (2 : Int32)), .val (.int (0 : Int32))] []) := fun _ k => G30 _ (st31.trans k)
    have oi32 := I31
    obtain ⟨E32, F132, F232, F332, F432, R32, A32, P32⟩ := oi32
    have G33 : Goes p e below s₁ (entryFrame m #[(.ref o), (.int (2 : Int32))] 7) T31 (mkF m 19 #[.val (.ref o), .val (.int (2 : Int32)), .val (.int x5), .val (.long q10), .second, .val (.int (0 : Int32)), .val (.int (0 : Int32))] [(.int (0 : Int32))]) := fun _ k => G31 _ (by
        show Steps p.tables e below (T31.setTop (mkF m 64 #[.val (.ref o), .val (.int (2 : Int32)), .val (.int x5), .val (.long q10), .second, .val (.int (2 : Int32)), .val (.int (0 : Int32))] [])) _
        refine XS.iload X31.here hx rfl (hb hby own_d5_64) rfl ?_
        show Steps p.tables e below (T31.setTop (mkF m 66 #[.val (.ref o), .val (.int (2 : Int32)), .val (.int x5), .val (.long q10), .second, .val (.int (2 : Int32)), .val (.int (0 : Int32))] [(.int (0 : Int32))])) _
        refine XS.istore X31.here hx rfl (hb hby own_d5_66) rfl (l' := #[.val (.ref o), .val (.int (2 : Int32)), .val (.int x5), .val (.long q10), .second, .val (.int (0 : Int32)), .val (.int (0 : Int32))]) rfl ?_
        show Steps p.tables e below (T31.setTop (mkF m 68 #[.val (.ref o), .val (.int (2 : Int32)), .val (.int x5), .val (.long q10), .second, .val (.int (0 : Int32)), .val (.int (0 : Int32))] [])) _
        refine XS.goto X31.here hx rfl (pc0 := 68) (pc' := 17) rfl (hb hby own_d5_68) (by decide) (by decide) ?_
        show Steps p.tables e below (T31.setTop (mkF m 17 #[.val (.ref o), .val (.int (2 : Int32)), .val (.int x5), .val (.long q10), .second, .val (.int (0 : Int32)), .val (.int (0 : Int32))] [])) _
        refine XS.iload X31.here hx rfl (hb hby own_d5_17) rfl ?_
        exact k)
    have G34 : Goes p e below s₁ (entryFrame m #[(.ref o), (.int (2 : Int32))] 7) T31 (mkF m 71 #[.val (.ref o), .val (.int (2 : Int32)), .val (.int x5), .val (.long q10), .second, .val (.int (0 : Int32)), .val (.int (0 : Int32))] []) := fun _ k => G33 _ (by
        show Steps p.tables e below (T31.setTop (mkF m 19 #[.val (.ref o), .val (.int (2 : Int32)), .val (.int x5), .val (.long q10), .second, .val (.int (0 : Int32)), .val (.int (0 : Int32))] [(.int (0 : Int32))])) _
        refine XS.ifYes X31.here hx rfl (pc0 := 19) (pc' := 71) rfl (hb hby own_d5_19) rfl ((if0 _ _).trans (flt (by decide : ¬ ((0 : Int32) < (0 : Int32)))).2.2.2) (by decide) (by decide) ?_
        exact k)
    have G35 : Goes p e below s₁ (entryFrame m #[(.ref o), (.int (2 : Int32))] 7) T31 (mkF m 75 #[.val (.ref o), .val (.int (2 : Int32)), .val (.int x5), .val (.long q10), .second, .val (.int (0 : Int32)), .val (.int (0 : Int32))] [(.int (0 : Int32)), (.int x5), (.ref o)]) := fun _ k => G34 _ (by
        show Steps p.tables e below (T31.setTop (mkF m 71 #[.val (.ref o), .val (.int (2 : Int32)), .val (.int x5), .val (.long q10), .second, .val (.int (0 : Int32)), .val (.int (0 : Int32))] [])) _
        refine XS.aloadN X31.here hx rfl (hb hby own_d5_71) rfl rfl ?_
        show Steps p.tables e below (T31.setTop (mkF m 72 #[.val (.ref o), .val (.int (2 : Int32)), .val (.int x5), .val (.long q10), .second, .val (.int (0 : Int32)), .val (.int (0 : Int32))] [(.ref o)])) _
        refine XS.iloadN X31.here hx rfl (hb hby own_d5_72) rfl ?_
        show Steps p.tables e below (T31.setTop (mkF m 73 #[.val (.ref o), .val (.int (2 : Int32)), .val (.int x5), .val (.long q10), .second, .val (.int (0 : Int32)), .val (.int (0 : Int32))] [(.int x5), (.ref o)])) _
        refine XS.iload X31.here hx rfl (hb hby own_d5_73) rfl ?_
        exact k)
    obtain ⟨cq36, q36, q36'⟩ := E32.cell
    obtain ⟨_, _, ⟨T36, L36, k36, n36⟩, -, X36, ⟨Lc36, hQ36, l36, y36, z36⟩, st36⟩ := X31.privateBack hx (y := (⟨"com/example/subterm/subterm/algorithm/IndexedHeap", "put", "(II)V"⟩ : MethodName)) hown (mvT hZ (hw _ (List.mem_of_getElem? (i := 33) rfl))) (mvT hZ (hw _ (List.mem_of_getElem? (i := 34) rfl))) (mvT hZ (own_sel (y := (⟨"com/example/subterm/subterm/algorithm/IndexedHeap", "put", "(II)V"⟩ : MethodName)) (by decide) (hw _ (List.mem_of_getElem? (i := 2) rfl)) (hw _ (List.mem_of_getElem? (i := 35) rfl)) (hw _ (List.mem_of_getElem? (i := 34) rfl)))) (Cond.privateMethod_at (mvP hZ (hw _ (List.mem_of_getElem? (i := 35) rfl)) (args := #[]))) (mvT hZ (hw _ (List.mem_of_getElem? (i := 36) rfl))) (by decide) (backOf (W := 0) (rm6 l Z a0 hw [] o r hp pl n x5 (0 : Int32) T31.heap n0 Zn I31 D hx5 ⟨by decide, by decide⟩) hZ (hw _ (List.mem_of_getElem? (i := 36) rfl)) (hw _ (List.mem_of_getElem? (i := 3) rfl)) (by decide) (by decide)) (g := (mkF m 75 #[.val (.ref o), .val (.int (2 : Int32)), .val (.int x5), .val (.long q10), .second, .val (.int (0 : Int32)), .val (.int (0 : Int32))] [(.int (0 : Int32)), (.int x5), (.ref o)])) rfl (by rw [hml]; rfl) (Steps.refl _) (a := o) q36 q36' (argsL := [(.int x5), (.int (0 : Int32))]) (rest := []) (lenOf own_pd0 rfl) rfl (by show 2 * 0 + _ ≤ _; exact Nat.le_of_eq rfl) (hb hby own_d5_75) (fun _ _ => ⟨rfl, rfl, (by decide : 0 + 0 ≤ _), (by decide : 0 + 0 ≤ _)⟩)
    dsimp only [Pt.U, Pt.locs, Pt.cells, Pt.slots] at X36 l36 y36 z36 st36 hQ36
    subst l36 y36 z36
    obtain ⟨rfl, N36q, Zn, I36⟩ := hQ36
    have N36 := Fr.app N31 N36q
    have G36 : Goes p e below s₁ (entryFrame m #[(.ref o), (.int (2 : Int32))] 7) T36 (mkF m 78 #[.val (.ref o), .val (.int (2 : Int32)), .val (.int x5), .val (.long q10), .second, .val (.int (0 : Int32)), .val (.int (0 : Int32))] []) := fun _ k => G35 _ (st36.trans k)
    obtain ⟨fs, hr, hrun, hended, hW, hsame⟩ := X36.leave (v := none) (fun _ => rfl)
    refine ⟨_, _, G36 _ (X36.returnOut hx Bd.returns (hb hby own_d5_78) hr), hrun, hended, _, _, rfl, ?_, ⟨_, rfl⟩, hW, hsame.mono (by decide) (by decide)⟩
    show QV Z o r hp pl n n0 _ T36.heap _
    exact ⟨rfl, N36, Zn, I36⟩
  · have G37 : Goes p e below s₁ (entryFrame m #[(.ref o), (.int (2 : Int32))] 7) T17 (mkF m 71 #[.val (.ref o), .val (.int (2 : Int32)), .val (.int x5), .val (.long q10), .second, .val (.int (2 : Int32)), .unset] []) := fun _ k => G23 _ (by
        show Steps p.tables e below (T17.setTop (mkF m 40 #[.val (.ref o), .val (.int (2 : Int32)), .val (.int x5), .val (.long q10), .second, .val (.int (2 : Int32)), .unset] [(.int (lcmpW q21 q10))])) _
        refine XS.ifYes X17.here hx rfl (pc0 := 40) (pc' := 71) rfl (hb hby own_d5_40) rfl ((if0 _ _).trans (flt h1).2.2.2) (by decide) (by decide) ?_
        exact k)
    have G38 : Goes p e below s₁ (entryFrame m #[(.ref o), (.int (2 : Int32))] 7) T17 (mkF m 75 #[.val (.ref o), .val (.int (2 : Int32)), .val (.int x5), .val (.long q10), .second, .val (.int (2 : Int32)), .unset] [(.int (2 : Int32)), (.int x5), (.ref o)]) := fun _ k => G37 _ (by
        show Steps p.tables e below (T17.setTop (mkF m 71 #[.val (.ref o), .val (.int (2 : Int32)), .val (.int x5), .val (.long q10), .second, .val (.int (2 : Int32)), .unset] [])) _
        refine XS.aloadN X17.here hx rfl (hb hby own_d5_71) rfl rfl ?_
        show Steps p.tables e below (T17.setTop (mkF m 72 #[.val (.ref o), .val (.int (2 : Int32)), .val (.int x5), .val (.long q10), .second, .val (.int (2 : Int32)), .unset] [(.ref o)])) _
        refine XS.iloadN X17.here hx rfl (hb hby own_d5_72) rfl ?_
        show Steps p.tables e below (T17.setTop (mkF m 73 #[.val (.ref o), .val (.int (2 : Int32)), .val (.int x5), .val (.long q10), .second, .val (.int (2 : Int32)), .unset] [(.int x5), (.ref o)])) _
        refine XS.iload X17.here hx rfl (hb hby own_d5_73) rfl ?_
        exact k)
    obtain ⟨cq39, q39, q39'⟩ := E1.cell
    obtain ⟨_, _, ⟨T39, L39, k39, n39⟩, -, X39, ⟨Lc39, hQ39, l39, y39, z39⟩, st39⟩ := X17.privateBack hx (y := (⟨"com/example/subterm/subterm/algorithm/IndexedHeap", "put", "(II)V"⟩ : MethodName)) hown (mvT hZ (hw _ (List.mem_of_getElem? (i := 33) rfl))) (mvT hZ (hw _ (List.mem_of_getElem? (i := 34) rfl))) (mvT hZ (own_sel (y := (⟨"com/example/subterm/subterm/algorithm/IndexedHeap", "put", "(II)V"⟩ : MethodName)) (by decide) (hw _ (List.mem_of_getElem? (i := 2) rfl)) (hw _ (List.mem_of_getElem? (i := 35) rfl)) (hw _ (List.mem_of_getElem? (i := 34) rfl)))) (Cond.privateMethod_at (mvP hZ (hw _ (List.mem_of_getElem? (i := 35) rfl)) (args := #[]))) (mvT hZ (hw _ (List.mem_of_getElem? (i := 36) rfl))) (by decide) (backOf (W := 0) (rm6 l Z a0 hw [] o r hp pl n x5 (2 : Int32) h0 n0 Zn I0 D hx5 ⟨by decide, by decide⟩) hZ (hw _ (List.mem_of_getElem? (i := 36) rfl)) (hw _ (List.mem_of_getElem? (i := 3) rfl)) (by decide) (by decide)) (g := (mkF m 75 #[.val (.ref o), .val (.int (2 : Int32)), .val (.int x5), .val (.long q10), .second, .val (.int (2 : Int32)), .unset] [(.int (2 : Int32)), (.int x5), (.ref o)])) rfl (by rw [hml]; rfl) (Steps.refl _) (a := o) (by rw [e17]; exact q39) q39' (argsL := [(.int x5), (.int (2 : Int32))]) (rest := []) (lenOf own_pd0 rfl) rfl (by show 2 * 0 + _ ≤ _; exact Nat.le_of_eq rfl) (hb hby own_d5_75) (fun _ _ => ⟨rfl, e17, (by decide : 0 + 0 ≤ _), (by decide : 0 + 0 ≤ _)⟩)
    dsimp only [Pt.U, Pt.locs, Pt.cells, Pt.slots] at X39 l39 y39 z39 st39 hQ39
    subst l39 y39 z39
    obtain ⟨rfl, N39q, Zn, I39⟩ := hQ39
    have N39 := Fr.app N0 N39q
    have G39 : Goes p e below s₁ (entryFrame m #[(.ref o), (.int (2 : Int32))] 7) T39 (mkF m 78 #[.val (.ref o), .val (.int (2 : Int32)), .val (.int x5), .val (.long q10), .second, .val (.int (2 : Int32)), .unset] []) := fun _ k => G38 _ (st39.trans k)
    obtain ⟨fs, hr, hrun, hended, hW, hsame⟩ := X39.leave (v := none) (fun _ => rfl)
    refine ⟨_, _, G39 _ (X39.returnOut hx Bd.returns (hb hby own_d5_78) hr), hrun, hended, _, _, rfl, ?_, ⟨_, rfl⟩, hW, hsame.mono (by decide) (by decide)⟩
    show QV Z o r hp pl n n0 _ T39.heap _
    exact ⟨rfl, N39, Zn, I39⟩
theorem own_d8_0 : decode prog_6_method_7_code 0 = .ok (.aload_n 0, 1) := by decide +kernel
theorem own_d8_1 : decode prog_6_method_7_code 1 = .ok (.getfield 13, 3) := by decide +kernel
theorem own_d8_4 : decode prog_6_method_7_code 4 = .ok (.iload_n 1, 1) := by decide +kernel
theorem own_d8_5 : decode prog_6_method_7_code 5 = .ok (.iaload, 1) := by decide +kernel
theorem own_d8_6 : decode prog_6_method_7_code 6 = .ok (.istore_n 2, 1) := by decide +kernel
theorem own_d8_7 : decode prog_6_method_7_code 7 = .ok (.aload_n 0, 1) := by decide +kernel
theorem own_d8_8 : decode prog_6_method_7_code 8 = .ok (.getfield 7, 3) := by decide +kernel
theorem own_d8_11 : decode prog_6_method_7_code 11 = .ok (.iload_n 2, 1) := by decide +kernel
theorem own_d8_12 : decode prog_6_method_7_code 12 = .ok (.laload, 1) := by decide +kernel
theorem own_d8_13 : decode prog_6_method_7_code 13 = .ok (.lstore_n 3, 1) := by decide +kernel
theorem own_d8_14 : decode prog_6_method_7_code 14 = .ok (.iload_n 1, 1) := by decide +kernel
theorem own_d8_15 : decode prog_6_method_7_code 15 = .ok (.istore 5, 2) := by decide +kernel
theorem own_d8_17 : decode prog_6_method_7_code 17 = .ok (.iload 5, 2) := by decide +kernel
theorem own_d8_19 : decode prog_6_method_7_code 19 = .ok (.aload_n 0, 1) := by decide +kernel
theorem own_d8_20 : decode prog_6_method_7_code 20 = .ok (.getfield 20, 3) := by decide +kernel
theorem own_d8_23 : decode prog_6_method_7_code 23 = .ok (.iconst 2, 1) := by decide +kernel
theorem own_d8_24 : decode prog_6_method_7_code 24 = .ok (.idiv, 1) := by decide +kernel
theorem own_d8_25 : decode prog_6_method_7_code 25 = .ok (.if_icmp .ge 95, 3) := by decide +kernel
theorem own_d8_120 : decode prog_6_method_7_code 120 = .ok (.aload_n 0, 1) := by decide +kernel
theorem own_d8_121 : decode prog_6_method_7_code 121 = .ok (.iload_n 2, 1) := by decide +kernel
theorem own_d8_122 : decode prog_6_method_7_code 122 = .ok (.iload 5, 2) := by decide +kernel
theorem own_d8_124 : decode prog_6_method_7_code 124 = .ok (.invokevirtual 31, 3) := by decide +kernel
theorem own_d8_127 : decode prog_6_method_7_code 127 = .ok (.return_, 1) := by decide +kernel
set_option maxRecDepth 65536 in
set_option maxHeartbeats 40000000 in
theorem rm8_1 (l : Launch) (Z : State) (a0 : Array Value) (hw : ∀ d ∈ tables_1, d.before a0 Z = true) (ws : List Jvm.Cond) (o r hp pl : Addr) (h0 : Heap) (n0 : Nat) (Z0 : n0 ≤ h0.size) (I0 : Inv Z h0 o r hp pl (1 : Int32)) (D : Dis n0 o r hp pl) :
    MetFree l (⟨"com/example/subterm/subterm/algorithm/IndexedHeap", "moveDown", "(I)V"⟩ : MethodName) (head1 (Jvm.Cond.code (⟨"com/example/subterm/subterm/algorithm/IndexedHeap", "moveDown", "(I)V"⟩ : MethodName) prog_6_method_7_code 7 none :: ws) ({ frames := 1, cells := 0, slots := 0, locals := 14 } : Room)) (fun a U => a = #[(.ref o), (.int (0 : Int32))] ∧ Z.Warmed39 U.vm ∧ U.heap = h0) (fun _ _ _ _ _ => True) (fun _ U oc U' => ∃ v L, oc = .returned v ∧ QV Z o r hp pl (1 : Int32) n0 v U'.heap L ∧ FrameEnd U oc U' L ({ frames := 1, cells := 0, slots := 0, locals := 14 } : Room).cells ({ frames := 1, cells := 0, slots := 0, locals := 14 } : Room).slots) := by
  refine MetFree.of_bodySF (plainFor_of_name own_pn0) hisR ?_
  intro p e s m args below meth c s₁ Bd hml0 hP hK
  obtain ⟨rfl, hZ, hh⟩ := hP
  have hx := Bd.exec
  have hby := Bd.bytes
  have hml : c.maxLocals = 7 := hml0
  have hown : s.vm.findClass "com/example/subterm/subterm/algorithm/IndexedHeap" = some m.cls := findClass_of_methodNamed Bd.named
  have hnm := (name_of_methodNamed Bd.named Bd.method).1
  have X0 : Stand p l e ({ frames := 1, cells := 0, slots := 0, locals := 14 } : Room) s m #[(.ref o), (.int (0 : Int32))] below meth c s₁ [] 0 0 := Stand.of_body Bd
  have e0 : s₁.heap = h0 := by rw [← hh, Bd.state]; rfl
  have N0 := Fr.nil n0
  have G0 : Goes p e below s₁ (entryFrame m #[(.ref o), (.int (0 : Int32))] 7) s₁ (mkF m 0 #[.val (.ref o), .val (.int (0 : Int32)), .unset, .unset, .unset, .unset, .unset] []) := fun _ k => castTop (by first | (simp [entryFrame, mkF, argsToLocals, Value.category]; done) | rfl : (entryFrame m #[(.ref o), (.int (0 : Int32))] 7) = mkF m 0 #[.val (.ref o), .val (.int (0 : Int32)), .unset, .unset, .unset, .unset, .unset] []) k
  have Zn := Z0
  have D' := D
  obtain ⟨go, ghp, gpl, -⟩ := D'
  have oi1 := I0
  obtain ⟨E1, F11, F21, F31, F41, R1, A1, P1⟩ := oi1
  have G2 : Goes p e below s₁ (entryFrame m #[(.ref o), (.int (0 : Int32))] 7) s₁ (mkF m 1 #[.val (.ref o), .val (.int (0 : Int32)), .unset, .unset, .unset, .unset, .unset] [(.ref o)]) := fun _ k => G0 _ (by
      show Steps p.tables e below (s₁.setTop (mkF m 0 #[.val (.ref o), .val (.int (0 : Int32)), .unset, .unset, .unset, .unset, .unset] [])) _
      refine XS.aloadN X0.here hx rfl (hb hby own_d8_0) rfl rfl ?_
      exact k)
  obtain ⟨T3, X3, e3, st3⟩ := getF X0 hx hZ hown (host := "") (Or.inl (hw _ (List.mem_of_getElem? (i := 13) rfl))) Via.refl e0 F21 (g := (mkF m 1 #[.val (.ref o), .val (.int (0 : Int32)), .unset, .unset, .unset, .unset, .unset] [(.ref o)])) rfl rfl (hb hby own_d8_1)
  have G3 : Goes p e below s₁ (entryFrame m #[(.ref o), (.int (0 : Int32))] 7) T3 (mkF m 4 #[.val (.ref o), .val (.int (0 : Int32)), .unset, .unset, .unset, .unset, .unset] [(.ref hp)]) := fun _ k => G2 _ (st3 _ k)
  have G4 : Goes p e below s₁ (entryFrame m #[(.ref o), (.int (0 : Int32))] 7) T3 (mkF m 5 #[.val (.ref o), .val (.int (0 : Int32)), .unset, .unset, .unset, .unset, .unset] [(.int (0 : Int32)), (.ref hp)]) := fun _ k => G3 _ (by
      show Steps p.tables e below (T3.setTop (mkF m 4 #[.val (.ref o), .val (.int (0 : Int32)), .unset, .unset, .unset, .unset, .unset] [(.ref hp)])) _
      refine XS.iloadN X3.here hx rfl (hb hby own_d8_4) rfl ?_
      exact k)
  have vc5 := A1
  obtain ⟨cl5, Ar5, S5, H5⟩ := vc5
  have hin5 : ¬ ((0 : Int32) < 0 ∨ cl5.slots.size ≤ ((0 : Int32)).toNatClampNeg) := inb_of S5 ⟨by decide, by decide⟩
  obtain ⟨x5, hat5, hx5⟩ := H5 _ (own_k S5 hin5)
  have G6 : Goes p e below s₁ (entryFrame m #[(.ref o), (.int (0 : Int32))] 7) T3 (mkF m 6 #[.val (.ref o), .val (.int (0 : Int32)), .unset, .unset, .unset, .unset, .unset] [(.int x5)]) := fun _ k => G4 _ (by
      show Steps p.tables e below (T3.setTop (mkF m 5 #[.val (.ref o), .val (.int (0 : Int32)), .unset, .unset, .unset, .unset, .unset] [(.int (0 : Int32)), (.ref hp)])) _
      refine X3.iaload hx (j := (0 : Int32)) (v := (.int x5)) (by rw [e3]; exact Ar5.1) (State.isArrayOf_alike hZ.alike Ar5.2.1) Ar5.2.2 hin5 hat5 (g := (mkF m 5 #[.val (.ref o), .val (.int (0 : Int32)), .unset, .unset, .unset, .unset, .unset] [(.int (0 : Int32)), (.ref hp)])) rfl rfl (hb hby own_d8_5) _ ?_
      exact k)
  have G7 : Goes p e below s₁ (entryFrame m #[(.ref o), (.int (0 : Int32))] 7) T3 (mkF m 8 #[.val (.ref o), .val (.int (0 : Int32)), .val (.int x5), .unset, .unset, .unset, .unset] [(.ref o)]) := fun _ k => G6 _ (by
      show Steps p.tables e below (T3.setTop (mkF m 6 #[.val (.ref o), .val (.int (0 : Int32)), .unset, .unset, .unset, .unset, .unset] [(.int x5)])) _
      refine XS.istoreN X3.here hx rfl (hb hby own_d8_6) rfl (l' := #[.val (.ref o), .val (.int (0 : Int32)), .val (.int x5), .unset, .unset, .unset, .unset]) rfl ?_
      show Steps p.tables e below (T3.setTop (mkF m 7 #[.val (.ref o), .val (.int (0 : Int32)), .val (.int x5), .unset, .unset, .unset, .unset] [])) _
      refine XS.aloadN X3.here hx rfl (hb hby own_d8_7) rfl rfl ?_
      exact k)
  obtain ⟨T8, X8, e8, st8⟩ := getF X3 hx hZ hown (host := "") (Or.inl (hw _ (List.mem_of_getElem? (i := 10) rfl))) Via.refl e3 F11 (g := (mkF m 8 #[.val (.ref o), .val (.int (0 : Int32)), .val (.int x5), .unset, .unset, .unset, .unset] [(.ref o)])) rfl rfl (hb hby own_d8_8)
  have G8 : Goes p e below s₁ (entryFrame m #[(.ref o), (.int (0 : Int32))] 7) T8 (mkF m 11 #[.val (.ref o), .val (.int (0 : Int32)), .val (.int x5), .unset, .unset, .unset, .unset] [(.ref r)]) := fun _ k => G7 _ (st8 _ k)
  have G9 : Goes p e below s₁ (entryFrame m #[(.ref o), (.int (0 : Int32))] 7) T8 (mkF m 12 #[.val (.ref o), .val (.int (0 : Int32)), .val (.int x5), .unset, .unset, .unset, .unset] [(.int x5), (.ref r)]) := fun _ k => G8 _ (by
      show Steps p.tables e below (T8.setTop (mkF m 11 #[.val (.ref o), .val (.int (0 : Int32)), .val (.int x5), .unset, .unset, .unset, .unset] [(.ref r)])) _
      refine XS.iloadN X8.here hx rfl (hb hby own_d8_11) rfl ?_
      exact k)
  have vc10 := R1
  obtain ⟨cl10, Ar10, S10, H10⟩ := vc10
  have hin10 : ¬ (x5 < 0 ∨ cl10.slots.size ≤ (x5).toNatClampNeg) := inb_of S10 hx5
  obtain ⟨q10, hat10⟩ := H10 _ (own_k S10 hin10)
  have G11 : Goes p e below s₁ (entryFrame m #[(.ref o), (.int (0 : Int32))] 7) T8 (mkF m 13 #[.val (.ref o), .val (.int (0 : Int32)), .val (.int x5), .unset, .unset, .unset, .unset] [(.long q10)]) := fun _ k => G9 _ (by
      show Steps p.tables e below (T8.setTop (mkF m 12 #[.val (.ref o), .val (.int (0 : Int32)), .val (.int x5), .unset, .unset, .unset, .unset] [(.int x5), (.ref r)])) _
      refine X8.laload hx (j := x5) (v := (.long q10)) (by rw [e8]; exact Ar10.1) (State.isArrayOf_alike hZ.alike Ar10.2.1) Ar10.2.2 hin10 hat10 (g := (mkF m 12 #[.val (.ref o), .val (.int (0 : Int32)), .val (.int x5), .unset, .unset, .unset, .unset] [(.int x5), (.ref r)])) rfl rfl (hb hby own_d8_12) _ ?_
      exact k)
  have G12 : Goes p e below s₁ (entryFrame m #[(.ref o), (.int (0 : Int32))] 7) T8 (mkF m 20 #[.val (.ref o), .val (.int (0 : Int32)), .val (.int x5), .val (.long q10), .second, .val (.int (0 : Int32)), .unset] [(.ref o), (.int (0 : Int32))]) := fun _ k => G11 _ (by
      show Steps p.tables e below (T8.setTop (mkF m 13 #[.val (.ref o), .val (.int (0 : Int32)), .val (.int x5), .unset, .unset, .unset, .unset] [(.long q10)])) _
      refine XS.lstoreN X8.here hx rfl (hb hby own_d8_13) rfl (l' := #[.val (.ref o), .val (.int (0 : Int32)), .val (.int x5), .val (.long q10), .second, .unset, .unset]) rfl ?_
      show Steps p.tables e below (T8.setTop (mkF m 14 #[.val (.ref o), .val (.int (0 : Int32)), .val (.int x5), .val (.long q10), .second, .unset, .unset] [])) _
      refine XS.iloadN X8.here hx rfl (hb hby own_d8_14) rfl ?_
      show Steps p.tables e below (T8.setTop (mkF m 15 #[.val (.ref o), .val (.int (0 : Int32)), .val (.int x5), .val (.long q10), .second, .unset, .unset] [(.int (0 : Int32))])) _
      refine XS.istore X8.here hx rfl (hb hby own_d8_15) rfl (l' := #[.val (.ref o), .val (.int (0 : Int32)), .val (.int x5), .val (.long q10), .second, .val (.int (0 : Int32)), .unset]) rfl ?_
      show Steps p.tables e below (T8.setTop (mkF m 17 #[.val (.ref o), .val (.int (0 : Int32)), .val (.int x5), .val (.long q10), .second, .val (.int (0 : Int32)), .unset] [])) _
      refine XS.iload X8.here hx rfl (hb hby own_d8_17) rfl ?_
      show Steps p.tables e below (T8.setTop (mkF m 19 #[.val (.ref o), .val (.int (0 : Int32)), .val (.int x5), .val (.long q10), .second, .val (.int (0 : Int32)), .unset] [(.int (0 : Int32))])) _
      refine XS.aloadN X8.here hx rfl (hb hby own_d8_19) rfl rfl ?_
      exact k)
  obtain ⟨T13, X13, e13, st13⟩ := getF X8 hx hZ hown (host := "") (Or.inl (hw _ (List.mem_of_getElem? (i := 22) rfl))) Via.refl e8 F41 (g := (mkF m 20 #[.val (.ref o), .val (.int (0 : Int32)), .val (.int x5), .val (.long q10), .second, .val (.int (0 : Int32)), .unset] [(.ref o), (.int (0 : Int32))])) rfl rfl (hb hby own_d8_20)
  have G13 : Goes p e below s₁ (entryFrame m #[(.ref o), (.int (0 : Int32))] 7) T13 (mkF m 23 #[.val (.ref o), .val (.int (0 : Int32)), .val (.int x5), .val (.long q10), .second, .val (.int (0 : Int32)), .unset] [(.int (1 : Int32)), (.int (0 : Int32))]) := fun _ k => G12 _ (st13 _ k)
  have G14 : Goes p e below s₁ (entryFrame m #[(.ref o), (.int (0 : Int32))] 7) T13 (mkF m 25 #[.val (.ref o), .val (.int (0 : Int32)), .val (.int x5), .val (.long q10), .second, .val (.int (0 : Int32)), .unset] [(.int (0 : Int32)), (.int (0 : Int32))]) := fun _ k => G13 _ (by
      show Steps p.tables e below (T13.setTop (mkF m 23 #[.val (.ref o), .val (.int (0 : Int32)), .val (.int x5), .val (.long q10), .second, .val (.int (0 : Int32)), .unset] [(.int (1 : Int32)), (.int (0 : Int32))])) _
      refine XS.iconst X13.here hx rfl (hb hby own_d8_23) ?_
      show Steps p.tables e below (T13.setTop (mkF m 24 #[.val (.ref o), .val (.int (0 : Int32)), .val (.int x5), .val (.long q10), .second, .val (.int (0 : Int32)), .unset] [(.int (2 : Int32)), (.int (1 : Int32)), (.int (0 : Int32))])) _
      refine XS.idiv X13.here hx rfl (hb hby own_d8_24) rfl (by decide) ?_
      exact k)
  have G15 : Goes p e below s₁ (entryFrame m #[(.ref o), (.int (0 : Int32))] 7) T13 (mkF m 120 #[.val (.ref o), .val (.int (0 : Int32)), .val (.int x5), .val (.long q10), .second, .val (.int (0 : Int32)), .unset] []) := fun _ k => G14 _ (by
      show Steps p.tables e below (T13.setTop (mkF m 25 #[.val (.ref o), .val (.int (0 : Int32)), .val (.int x5), .val (.long q10), .second, .val (.int (0 : Int32)), .unset] [(.int (0 : Int32)), (.int (0 : Int32))])) _
      refine XS.icmpYes X13.here hx rfl (pc0 := 25) (pc' := 120) rfl (hb hby own_d8_25) rfl (flt (by decide : ¬ ((0 : Int32) < (0 : Int32)))).2.1 (by decide) (by decide) ?_
      exact k)
  have G16 : Goes p e below s₁ (entryFrame m #[(.ref o), (.int (0 : Int32))] 7) T13 (mkF m 124 #[.val (.ref o), .val (.int (0 : Int32)), .val (.int x5), .val (.long q10), .second, .val (.int (0 : Int32)), .unset] [(.int (0 : Int32)), (.int x5), (.ref o)]) := fun _ k => G15 _ (by
      show Steps p.tables e below (T13.setTop (mkF m 120 #[.val (.ref o), .val (.int (0 : Int32)), .val (.int x5), .val (.long q10), .second, .val (.int (0 : Int32)), .unset] [])) _
      refine XS.aloadN X13.here hx rfl (hb hby own_d8_120) rfl rfl ?_
      show Steps p.tables e below (T13.setTop (mkF m 121 #[.val (.ref o), .val (.int (0 : Int32)), .val (.int x5), .val (.long q10), .second, .val (.int (0 : Int32)), .unset] [(.ref o)])) _
      refine XS.iloadN X13.here hx rfl (hb hby own_d8_121) rfl ?_
      show Steps p.tables e below (T13.setTop (mkF m 122 #[.val (.ref o), .val (.int (0 : Int32)), .val (.int x5), .val (.long q10), .second, .val (.int (0 : Int32)), .unset] [(.int x5), (.ref o)])) _
      refine XS.iload X13.here hx rfl (hb hby own_d8_122) rfl ?_
      exact k)
  obtain ⟨cq17, q17, q17'⟩ := E1.cell
  obtain ⟨_, _, ⟨T17, L17, k17, n17⟩, -, X17, ⟨Lc17, hQ17, l17, y17, z17⟩, st17⟩ := X13.privateBack hx (y := (⟨"com/example/subterm/subterm/algorithm/IndexedHeap", "put", "(II)V"⟩ : MethodName)) hown (mvT hZ (hw _ (List.mem_of_getElem? (i := 33) rfl))) (mvT hZ (hw _ (List.mem_of_getElem? (i := 34) rfl))) (mvT hZ (own_sel (y := (⟨"com/example/subterm/subterm/algorithm/IndexedHeap", "put", "(II)V"⟩ : MethodName)) (by decide) (hw _ (List.mem_of_getElem? (i := 2) rfl)) (hw _ (List.mem_of_getElem? (i := 35) rfl)) (hw _ (List.mem_of_getElem? (i := 34) rfl)))) (Cond.privateMethod_at (mvP hZ (hw _ (List.mem_of_getElem? (i := 35) rfl)) (args := #[]))) (mvT hZ (hw _ (List.mem_of_getElem? (i := 36) rfl))) (by decide) (backOf (W := 0) (rm6 l Z a0 hw [] o r hp pl (1 : Int32) x5 (0 : Int32) h0 n0 Zn I0 D hx5 ⟨by decide, by decide⟩) hZ (hw _ (List.mem_of_getElem? (i := 36) rfl)) (hw _ (List.mem_of_getElem? (i := 3) rfl)) (by decide) (by decide)) (g := (mkF m 124 #[.val (.ref o), .val (.int (0 : Int32)), .val (.int x5), .val (.long q10), .second, .val (.int (0 : Int32)), .unset] [(.int (0 : Int32)), (.int x5), (.ref o)])) rfl (by rw [hml]; rfl) (Steps.refl _) (a := o) (by rw [e13]; exact q17) q17' (argsL := [(.int x5), (.int (0 : Int32))]) (rest := []) (lenOf own_pd0 rfl) rfl (by show 2 * 0 + _ ≤ _; exact Nat.le_of_eq rfl) (hb hby own_d8_124) (fun _ _ => ⟨rfl, e13, (by decide : 0 + 0 ≤ _), (by decide : 0 + 0 ≤ _)⟩)
  dsimp only [Pt.U, Pt.locs, Pt.cells, Pt.slots] at X17 l17 y17 z17 st17 hQ17
  subst l17 y17 z17
  obtain ⟨rfl, N17q, Zn, I17⟩ := hQ17
  have N17 := Fr.app N0 N17q
  have G17 : Goes p e below s₁ (entryFrame m #[(.ref o), (.int (0 : Int32))] 7) T17 (mkF m 127 #[.val (.ref o), .val (.int (0 : Int32)), .val (.int x5), .val (.long q10), .second, .val (.int (0 : Int32)), .unset] []) := fun _ k => G16 _ (st17.trans k)
  obtain ⟨fs, hr, hrun, hended, hW, hsame⟩ := X17.leave (v := none) (fun _ => rfl)
  refine ⟨_, _, G17 _ (X17.returnOut hx Bd.returns (hb hby own_d8_127) hr), hrun, hended, _, _, rfl, ?_, ⟨_, rfl⟩, hW, hsame.mono (by decide) (by decide)⟩
  show QV Z o r hp pl (1 : Int32) n0 _ T17.heap _
  exact ⟨rfl, N17, Zn, I17⟩
theorem own_d8_28 : decode prog_6_method_7_code 28 = .ok (.iconst 2, 1) := by decide +kernel
theorem own_d8_29 : decode prog_6_method_7_code 29 = .ok (.iload 5, 2) := by decide +kernel
theorem own_d8_31 : decode prog_6_method_7_code 31 = .ok (.imul, 1) := by decide +kernel
theorem own_d8_32 : decode prog_6_method_7_code 32 = .ok (.iconst 1, 1) := by decide +kernel
theorem own_d8_33 : decode prog_6_method_7_code 33 = .ok (.iadd, 1) := by decide +kernel
theorem own_d8_34 : decode prog_6_method_7_code 34 = .ok (.istore 6, 2) := by decide +kernel
theorem own_d8_36 : decode prog_6_method_7_code 36 = .ok (.iload 6, 2) := by decide +kernel
theorem own_d8_38 : decode prog_6_method_7_code 38 = .ok (.iconst 1, 1) := by decide +kernel
theorem own_d8_39 : decode prog_6_method_7_code 39 = .ok (.iadd, 1) := by decide +kernel
theorem own_d8_40 : decode prog_6_method_7_code 40 = .ok (.aload_n 0, 1) := by decide +kernel
theorem own_d8_41 : decode prog_6_method_7_code 41 = .ok (.getfield 20, 3) := by decide +kernel
theorem own_d8_44 : decode prog_6_method_7_code 44 = .ok (.if_icmp .ge 36, 3) := by decide +kernel
theorem own_d8_80 : decode prog_6_method_7_code 80 = .ok (.aload_n 0, 1) := by decide +kernel
theorem own_d8_81 : decode prog_6_method_7_code 81 = .ok (.getfield 7, 3) := by decide +kernel
theorem own_d8_84 : decode prog_6_method_7_code 84 = .ok (.aload_n 0, 1) := by decide +kernel
theorem own_d8_85 : decode prog_6_method_7_code 85 = .ok (.getfield 13, 3) := by decide +kernel
theorem own_d8_88 : decode prog_6_method_7_code 88 = .ok (.iload 6, 2) := by decide +kernel
theorem own_d8_90 : decode prog_6_method_7_code 90 = .ok (.iaload, 1) := by decide +kernel
theorem own_d8_91 : decode prog_6_method_7_code 91 = .ok (.laload, 1) := by decide +kernel
theorem own_d8_92 : decode prog_6_method_7_code 92 = .ok (.lload_n 3, 1) := by decide +kernel
theorem own_d8_93 : decode prog_6_method_7_code 93 = .ok (.lcmp, 1) := by decide +kernel
theorem own_d8_94 : decode prog_6_method_7_code 94 = .ok (.ifCond .lt 6, 3) := by decide +kernel
theorem own_d8_97 : decode prog_6_method_7_code 97 = .ok (.goto 23, 3) := by decide +kernel
theorem own_d8_100 : decode prog_6_method_7_code 100 = .ok (.aload_n 0, 1) := by decide +kernel
theorem own_d8_101 : decode prog_6_method_7_code 101 = .ok (.aload_n 0, 1) := by decide +kernel
theorem own_d8_102 : decode prog_6_method_7_code 102 = .ok (.getfield 13, 3) := by decide +kernel
theorem own_d8_105 : decode prog_6_method_7_code 105 = .ok (.iload 6, 2) := by decide +kernel
theorem own_d8_107 : decode prog_6_method_7_code 107 = .ok (.iaload, 1) := by decide +kernel
theorem own_d8_108 : decode prog_6_method_7_code 108 = .ok (.iload 5, 2) := by decide +kernel
theorem own_d8_110 : decode prog_6_method_7_code 110 = .ok (.invokevirtual 31, 3) := by decide +kernel
theorem own_d8_113 : decode prog_6_method_7_code 113 = .ok (.iload 6, 2) := by decide +kernel
theorem own_d8_115 : decode prog_6_method_7_code 115 = .ok (.istore 5, 2) := by decide +kernel
theorem own_d8_117 : decode prog_6_method_7_code 117 = .ok (.goto (-100), 3) := by decide +kernel
set_option maxRecDepth 65536 in
set_option maxHeartbeats 40000000 in
theorem rm8_2 (l : Launch) (Z : State) (a0 : Array Value) (hw : ∀ d ∈ tables_1, d.before a0 Z = true) (ws : List Jvm.Cond) (o r hp pl : Addr) (h0 : Heap) (n0 : Nat) (Z0 : n0 ≤ h0.size) (I0 : Inv Z h0 o r hp pl (2 : Int32)) (D : Dis n0 o r hp pl) :
    MetFree l (⟨"com/example/subterm/subterm/algorithm/IndexedHeap", "moveDown", "(I)V"⟩ : MethodName) (head1 (Jvm.Cond.code (⟨"com/example/subterm/subterm/algorithm/IndexedHeap", "moveDown", "(I)V"⟩ : MethodName) prog_6_method_7_code 7 none :: ws) ({ frames := 1, cells := 0, slots := 0, locals := 14 } : Room)) (fun a U => a = #[(.ref o), (.int (0 : Int32))] ∧ Z.Warmed39 U.vm ∧ U.heap = h0) (fun _ _ _ _ _ => True) (fun _ U oc U' => ∃ v L, oc = .returned v ∧ QV Z o r hp pl (2 : Int32) n0 v U'.heap L ∧ FrameEnd U oc U' L ({ frames := 1, cells := 0, slots := 0, locals := 14 } : Room).cells ({ frames := 1, cells := 0, slots := 0, locals := 14 } : Room).slots) := by
  refine MetFree.of_bodySF (plainFor_of_name own_pn0) hisR ?_
  intro p e s m args below meth c s₁ Bd hml0 hP hK
  obtain ⟨rfl, hZ, hh⟩ := hP
  have hx := Bd.exec
  have hby := Bd.bytes
  have hml : c.maxLocals = 7 := hml0
  have hown : s.vm.findClass "com/example/subterm/subterm/algorithm/IndexedHeap" = some m.cls := findClass_of_methodNamed Bd.named
  have hnm := (name_of_methodNamed Bd.named Bd.method).1
  have X0 : Stand p l e ({ frames := 1, cells := 0, slots := 0, locals := 14 } : Room) s m #[(.ref o), (.int (0 : Int32))] below meth c s₁ [] 0 0 := Stand.of_body Bd
  have e0 : s₁.heap = h0 := by rw [← hh, Bd.state]; rfl
  have N0 := Fr.nil n0
  have G0 : Goes p e below s₁ (entryFrame m #[(.ref o), (.int (0 : Int32))] 7) s₁ (mkF m 0 #[.val (.ref o), .val (.int (0 : Int32)), .unset, .unset, .unset, .unset, .unset] []) := fun _ k => castTop (by first | (simp [entryFrame, mkF, argsToLocals, Value.category]; done) | rfl : (entryFrame m #[(.ref o), (.int (0 : Int32))] 7) = mkF m 0 #[.val (.ref o), .val (.int (0 : Int32)), .unset, .unset, .unset, .unset, .unset] []) k
  have Zn := Z0
  have D' := D
  obtain ⟨go, ghp, gpl, -⟩ := D'
  have oi1 := I0
  obtain ⟨E1, F11, F21, F31, F41, R1, A1, P1⟩ := oi1
  have G2 : Goes p e below s₁ (entryFrame m #[(.ref o), (.int (0 : Int32))] 7) s₁ (mkF m 1 #[.val (.ref o), .val (.int (0 : Int32)), .unset, .unset, .unset, .unset, .unset] [(.ref o)]) := fun _ k => G0 _ (by
      show Steps p.tables e below (s₁.setTop (mkF m 0 #[.val (.ref o), .val (.int (0 : Int32)), .unset, .unset, .unset, .unset, .unset] [])) _
      refine XS.aloadN X0.here hx rfl (hb hby own_d8_0) rfl rfl ?_
      exact k)
  obtain ⟨T3, X3, e3, st3⟩ := getF X0 hx hZ hown (host := "") (Or.inl (hw _ (List.mem_of_getElem? (i := 13) rfl))) Via.refl e0 F21 (g := (mkF m 1 #[.val (.ref o), .val (.int (0 : Int32)), .unset, .unset, .unset, .unset, .unset] [(.ref o)])) rfl rfl (hb hby own_d8_1)
  have G3 : Goes p e below s₁ (entryFrame m #[(.ref o), (.int (0 : Int32))] 7) T3 (mkF m 4 #[.val (.ref o), .val (.int (0 : Int32)), .unset, .unset, .unset, .unset, .unset] [(.ref hp)]) := fun _ k => G2 _ (st3 _ k)
  have G4 : Goes p e below s₁ (entryFrame m #[(.ref o), (.int (0 : Int32))] 7) T3 (mkF m 5 #[.val (.ref o), .val (.int (0 : Int32)), .unset, .unset, .unset, .unset, .unset] [(.int (0 : Int32)), (.ref hp)]) := fun _ k => G3 _ (by
      show Steps p.tables e below (T3.setTop (mkF m 4 #[.val (.ref o), .val (.int (0 : Int32)), .unset, .unset, .unset, .unset, .unset] [(.ref hp)])) _
      refine XS.iloadN X3.here hx rfl (hb hby own_d8_4) rfl ?_
      exact k)
  have vc5 := A1
  obtain ⟨cl5, Ar5, S5, H5⟩ := vc5
  have hin5 : ¬ ((0 : Int32) < 0 ∨ cl5.slots.size ≤ ((0 : Int32)).toNatClampNeg) := inb_of S5 ⟨by decide, by decide⟩
  obtain ⟨x5, hat5, hx5⟩ := H5 _ (own_k S5 hin5)
  have G6 : Goes p e below s₁ (entryFrame m #[(.ref o), (.int (0 : Int32))] 7) T3 (mkF m 6 #[.val (.ref o), .val (.int (0 : Int32)), .unset, .unset, .unset, .unset, .unset] [(.int x5)]) := fun _ k => G4 _ (by
      show Steps p.tables e below (T3.setTop (mkF m 5 #[.val (.ref o), .val (.int (0 : Int32)), .unset, .unset, .unset, .unset, .unset] [(.int (0 : Int32)), (.ref hp)])) _
      refine X3.iaload hx (j := (0 : Int32)) (v := (.int x5)) (by rw [e3]; exact Ar5.1) (State.isArrayOf_alike hZ.alike Ar5.2.1) Ar5.2.2 hin5 hat5 (g := (mkF m 5 #[.val (.ref o), .val (.int (0 : Int32)), .unset, .unset, .unset, .unset, .unset] [(.int (0 : Int32)), (.ref hp)])) rfl rfl (hb hby own_d8_5) _ ?_
      exact k)
  have G7 : Goes p e below s₁ (entryFrame m #[(.ref o), (.int (0 : Int32))] 7) T3 (mkF m 8 #[.val (.ref o), .val (.int (0 : Int32)), .val (.int x5), .unset, .unset, .unset, .unset] [(.ref o)]) := fun _ k => G6 _ (by
      show Steps p.tables e below (T3.setTop (mkF m 6 #[.val (.ref o), .val (.int (0 : Int32)), .unset, .unset, .unset, .unset, .unset] [(.int x5)])) _
      refine XS.istoreN X3.here hx rfl (hb hby own_d8_6) rfl (l' := #[.val (.ref o), .val (.int (0 : Int32)), .val (.int x5), .unset, .unset, .unset, .unset]) rfl ?_
      show Steps p.tables e below (T3.setTop (mkF m 7 #[.val (.ref o), .val (.int (0 : Int32)), .val (.int x5), .unset, .unset, .unset, .unset] [])) _
      refine XS.aloadN X3.here hx rfl (hb hby own_d8_7) rfl rfl ?_
      exact k)
  obtain ⟨T8, X8, e8, st8⟩ := getF X3 hx hZ hown (host := "") (Or.inl (hw _ (List.mem_of_getElem? (i := 10) rfl))) Via.refl e3 F11 (g := (mkF m 8 #[.val (.ref o), .val (.int (0 : Int32)), .val (.int x5), .unset, .unset, .unset, .unset] [(.ref o)])) rfl rfl (hb hby own_d8_8)
  have G8 : Goes p e below s₁ (entryFrame m #[(.ref o), (.int (0 : Int32))] 7) T8 (mkF m 11 #[.val (.ref o), .val (.int (0 : Int32)), .val (.int x5), .unset, .unset, .unset, .unset] [(.ref r)]) := fun _ k => G7 _ (st8 _ k)
  have G9 : Goes p e below s₁ (entryFrame m #[(.ref o), (.int (0 : Int32))] 7) T8 (mkF m 12 #[.val (.ref o), .val (.int (0 : Int32)), .val (.int x5), .unset, .unset, .unset, .unset] [(.int x5), (.ref r)]) := fun _ k => G8 _ (by
      show Steps p.tables e below (T8.setTop (mkF m 11 #[.val (.ref o), .val (.int (0 : Int32)), .val (.int x5), .unset, .unset, .unset, .unset] [(.ref r)])) _
      refine XS.iloadN X8.here hx rfl (hb hby own_d8_11) rfl ?_
      exact k)
  have vc10 := R1
  obtain ⟨cl10, Ar10, S10, H10⟩ := vc10
  have hin10 : ¬ (x5 < 0 ∨ cl10.slots.size ≤ (x5).toNatClampNeg) := inb_of S10 hx5
  obtain ⟨q10, hat10⟩ := H10 _ (own_k S10 hin10)
  have G11 : Goes p e below s₁ (entryFrame m #[(.ref o), (.int (0 : Int32))] 7) T8 (mkF m 13 #[.val (.ref o), .val (.int (0 : Int32)), .val (.int x5), .unset, .unset, .unset, .unset] [(.long q10)]) := fun _ k => G9 _ (by
      show Steps p.tables e below (T8.setTop (mkF m 12 #[.val (.ref o), .val (.int (0 : Int32)), .val (.int x5), .unset, .unset, .unset, .unset] [(.int x5), (.ref r)])) _
      refine X8.laload hx (j := x5) (v := (.long q10)) (by rw [e8]; exact Ar10.1) (State.isArrayOf_alike hZ.alike Ar10.2.1) Ar10.2.2 hin10 hat10 (g := (mkF m 12 #[.val (.ref o), .val (.int (0 : Int32)), .val (.int x5), .unset, .unset, .unset, .unset] [(.int x5), (.ref r)])) rfl rfl (hb hby own_d8_12) _ ?_
      exact k)
  have G12 : Goes p e below s₁ (entryFrame m #[(.ref o), (.int (0 : Int32))] 7) T8 (mkF m 20 #[.val (.ref o), .val (.int (0 : Int32)), .val (.int x5), .val (.long q10), .second, .val (.int (0 : Int32)), .unset] [(.ref o), (.int (0 : Int32))]) := fun _ k => G11 _ (by
      show Steps p.tables e below (T8.setTop (mkF m 13 #[.val (.ref o), .val (.int (0 : Int32)), .val (.int x5), .unset, .unset, .unset, .unset] [(.long q10)])) _
      refine XS.lstoreN X8.here hx rfl (hb hby own_d8_13) rfl (l' := #[.val (.ref o), .val (.int (0 : Int32)), .val (.int x5), .val (.long q10), .second, .unset, .unset]) rfl ?_
      show Steps p.tables e below (T8.setTop (mkF m 14 #[.val (.ref o), .val (.int (0 : Int32)), .val (.int x5), .val (.long q10), .second, .unset, .unset] [])) _
      refine XS.iloadN X8.here hx rfl (hb hby own_d8_14) rfl ?_
      show Steps p.tables e below (T8.setTop (mkF m 15 #[.val (.ref o), .val (.int (0 : Int32)), .val (.int x5), .val (.long q10), .second, .unset, .unset] [(.int (0 : Int32))])) _
      refine XS.istore X8.here hx rfl (hb hby own_d8_15) rfl (l' := #[.val (.ref o), .val (.int (0 : Int32)), .val (.int x5), .val (.long q10), .second, .val (.int (0 : Int32)), .unset]) rfl ?_
      show Steps p.tables e below (T8.setTop (mkF m 17 #[.val (.ref o), .val (.int (0 : Int32)), .val (.int x5), .val (.long q10), .second, .val (.int (0 : Int32)), .unset] [])) _
      refine XS.iload X8.here hx rfl (hb hby own_d8_17) rfl ?_
      show Steps p.tables e below (T8.setTop (mkF m 19 #[.val (.ref o), .val (.int (0 : Int32)), .val (.int x5), .val (.long q10), .second, .val (.int (0 : Int32)), .unset] [(.int (0 : Int32))])) _
      refine XS.aloadN X8.here hx rfl (hb hby own_d8_19) rfl rfl ?_
      exact k)
  obtain ⟨T13, X13, e13, st13⟩ := getF X8 hx hZ hown (host := "") (Or.inl (hw _ (List.mem_of_getElem? (i := 22) rfl))) Via.refl e8 F41 (g := (mkF m 20 #[.val (.ref o), .val (.int (0 : Int32)), .val (.int x5), .val (.long q10), .second, .val (.int (0 : Int32)), .unset] [(.ref o), (.int (0 : Int32))])) rfl rfl (hb hby own_d8_20)
  have G13 : Goes p e below s₁ (entryFrame m #[(.ref o), (.int (0 : Int32))] 7) T13 (mkF m 23 #[.val (.ref o), .val (.int (0 : Int32)), .val (.int x5), .val (.long q10), .second, .val (.int (0 : Int32)), .unset] [(.int (2 : Int32)), (.int (0 : Int32))]) := fun _ k => G12 _ (st13 _ k)
  have G14 : Goes p e below s₁ (entryFrame m #[(.ref o), (.int (0 : Int32))] 7) T13 (mkF m 25 #[.val (.ref o), .val (.int (0 : Int32)), .val (.int x5), .val (.long q10), .second, .val (.int (0 : Int32)), .unset] [(.int (1 : Int32)), (.int (0 : Int32))]) := fun _ k => G13 _ (by
      show Steps p.tables e below (T13.setTop (mkF m 23 #[.val (.ref o), .val (.int (0 : Int32)), .val (.int x5), .val (.long q10), .second, .val (.int (0 : Int32)), .unset] [(.int (2 : Int32)), (.int (0 : Int32))])) _
      refine XS.iconst X13.here hx rfl (hb hby own_d8_23) ?_
      show Steps p.tables e below (T13.setTop (mkF m 24 #[.val (.ref o), .val (.int (0 : Int32)), .val (.int x5), .val (.long q10), .second, .val (.int (0 : Int32)), .unset] [(.int (2 : Int32)), (.int (2 : Int32)), (.int (0 : Int32))])) _
      refine XS.idiv X13.here hx rfl (hb hby own_d8_24) rfl (by decide) ?_
      exact k)
  have G15 : Goes p e below s₁ (entryFrame m #[(.ref o), (.int (0 : Int32))] 7) T13 (mkF m 28 #[.val (.ref o), .val (.int (0 : Int32)), .val (.int x5), .val (.long q10), .second, .val (.int (0 : Int32)), .unset] []) := fun _ k => G14 _ (by
      show Steps p.tables e below (T13.setTop (mkF m 25 #[.val (.ref o), .val (.int (0 : Int32)), .val (.int x5), .val (.long q10), .second, .val (.int (0 : Int32)), .unset] [(.int (1 : Int32)), (.int (0 : Int32))])) _
      refine XS.icmpNo X13.here hx rfl (hb hby own_d8_25) rfl (tlt (by decide : (0 : Int32) < (1 : Int32))).2.1 ?_
      exact k)
  have G16 : Goes p e below s₁ (entryFrame m #[(.ref o), (.int (0 : Int32))] 7) T13 (mkF m 41 #[.val (.ref o), .val (.int (0 : Int32)), .val (.int x5), .val (.long q10), .second, .val (.int (0 : Int32)), .val (.int (1 : Int32))] [(.ref o), (.int (2 : Int32))]) := fun _ k => G15 _ (by
      show Steps p.tables e below (T13.setTop (mkF m 28 #[.val (.ref o), .val (.int (0 : Int32)), .val (.int x5), .val (.long q10), .second, .val (.int (0 : Int32)), .unset] [])) _
      refine XS.iconst X13.here hx rfl (hb hby own_d8_28) ?_
      show Steps p.tables e below (T13.setTop (mkF m 29 #[.val (.ref o), .val (.int (0 : Int32)), .val (.int x5), .val (.long q10), .second, .val (.int (0 : Int32)), .unset] [(.int (2 : Int32))])) _
      refine XS.iload X13.here hx rfl (hb hby own_d8_29) rfl ?_
      show Steps p.tables e below (T13.setTop (mkF m 31 #[.val (.ref o), .val (.int (0 : Int32)), .val (.int x5), .val (.long q10), .second, .val (.int (0 : Int32)), .unset] [(.int (0 : Int32)), (.int (2 : Int32))])) _
      refine XS.imul X13.here hx rfl (hb hby own_d8_31) rfl ?_
      show Steps p.tables e below (T13.setTop (mkF m 32 #[.val (.ref o), .val (.int (0 : Int32)), .val (.int x5), .val (.long q10), .second, .val (.int (0 : Int32)), .unset] [(.int (0 : Int32))])) _
      refine XS.iconst X13.here hx rfl (hb hby own_d8_32) ?_
      show Steps p.tables e below (T13.setTop (mkF m 33 #[.val (.ref o), .val (.int (0 : Int32)), .val (.int x5), .val (.long q10), .second, .val (.int (0 : Int32)), .unset] [(.int (1 : Int32)), (.int (0 : Int32))])) _
      refine XS.iadd X13.here hx rfl (hb hby own_d8_33) rfl ?_
      show Steps p.tables e below (T13.setTop (mkF m 34 #[.val (.ref o), .val (.int (0 : Int32)), .val (.int x5), .val (.long q10), .second, .val (.int (0 : Int32)), .unset] [(.int (1 : Int32))])) _
      refine XS.istore X13.here hx rfl (hb hby own_d8_34) rfl (l' := #[.val (.ref o), .val (.int (0 : Int32)), .val (.int x5), .val (.long q10), .second, .val (.int (0 : Int32)), .val (.int (1 : Int32))]) rfl ?_
      show Steps p.tables e below (T13.setTop (mkF m 36 #[.val (.ref o), .val (.int (0 : Int32)), .val (.int x5), .val (.long q10), .second, .val (.int (0 : Int32)), .val (.int (1 : Int32))] [])) _
      refine XS.iload X13.here hx rfl (hb hby own_d8_36) rfl ?_
      show Steps p.tables e below (T13.setTop (mkF m 38 #[.val (.ref o), .val (.int (0 : Int32)), .val (.int x5), .val (.long q10), .second, .val (.int (0 : Int32)), .val (.int (1 : Int32))] [(.int (1 : Int32))])) _
      refine XS.iconst X13.here hx rfl (hb hby own_d8_38) ?_
      show Steps p.tables e below (T13.setTop (mkF m 39 #[.val (.ref o), .val (.int (0 : Int32)), .val (.int x5), .val (.long q10), .second, .val (.int (0 : Int32)), .val (.int (1 : Int32))] [(.int (1 : Int32)), (.int (1 : Int32))])) _
      refine XS.iadd X13.here hx rfl (hb hby own_d8_39) rfl ?_
      show Steps p.tables e below (T13.setTop (mkF m 40 #[.val (.ref o), .val (.int (0 : Int32)), .val (.int x5), .val (.long q10), .second, .val (.int (0 : Int32)), .val (.int (1 : Int32))] [(.int (2 : Int32))])) _
      refine XS.aloadN X13.here hx rfl (hb hby own_d8_40) rfl rfl ?_
      exact k)
  obtain ⟨T17, X17, e17, st17⟩ := getF X13 hx hZ hown (host := "") (Or.inl (hw _ (List.mem_of_getElem? (i := 22) rfl))) Via.refl e13 F41 (g := (mkF m 41 #[.val (.ref o), .val (.int (0 : Int32)), .val (.int x5), .val (.long q10), .second, .val (.int (0 : Int32)), .val (.int (1 : Int32))] [(.ref o), (.int (2 : Int32))])) rfl rfl (hb hby own_d8_41)
  have G17 : Goes p e below s₁ (entryFrame m #[(.ref o), (.int (0 : Int32))] 7) T17 (mkF m 44 #[.val (.ref o), .val (.int (0 : Int32)), .val (.int x5), .val (.long q10), .second, .val (.int (0 : Int32)), .val (.int (1 : Int32))] [(.int (2 : Int32)), (.int (2 : Int32))]) := fun _ k => G16 _ (st17 _ k)
  have G18 : Goes p e below s₁ (entryFrame m #[(.ref o), (.int (0 : Int32))] 7) T17 (mkF m 80 #[.val (.ref o), .val (.int (0 : Int32)), .val (.int x5), .val (.long q10), .second, .val (.int (0 : Int32)), .val (.int (1 : Int32))] []) := fun _ k => G17 _ (by
      show Steps p.tables e below (T17.setTop (mkF m 44 #[.val (.ref o), .val (.int (0 : Int32)), .val (.int x5), .val (.long q10), .second, .val (.int (0 : Int32)), .val (.int (1 : Int32))] [(.int (2 : Int32)), (.int (2 : Int32))])) _
      refine XS.icmpYes X17.here hx rfl (pc0 := 44) (pc' := 80) rfl (hb hby own_d8_44) rfl (flt (by decide : ¬ ((2 : Int32) < (2 : Int32)))).2.1 (by decide) (by decide) ?_
      exact k)
  have G19 : Goes p e below s₁ (entryFrame m #[(.ref o), (.int (0 : Int32))] 7) T17 (mkF m 81 #[.val (.ref o), .val (.int (0 : Int32)), .val (.int x5), .val (.long q10), .second, .val (.int (0 : Int32)), .val (.int (1 : Int32))] [(.ref o)]) := fun _ k => G18 _ (by
      show Steps p.tables e below (T17.setTop (mkF m 80 #[.val (.ref o), .val (.int (0 : Int32)), .val (.int x5), .val (.long q10), .second, .val (.int (0 : Int32)), .val (.int (1 : Int32))] [])) _
      refine XS.aloadN X17.here hx rfl (hb hby own_d8_80) rfl rfl ?_
      exact k)
  obtain ⟨T20, X20, e20, st20⟩ := getF X17 hx hZ hown (host := "") (Or.inl (hw _ (List.mem_of_getElem? (i := 10) rfl))) Via.refl e17 F11 (g := (mkF m 81 #[.val (.ref o), .val (.int (0 : Int32)), .val (.int x5), .val (.long q10), .second, .val (.int (0 : Int32)), .val (.int (1 : Int32))] [(.ref o)])) rfl rfl (hb hby own_d8_81)
  have G20 : Goes p e below s₁ (entryFrame m #[(.ref o), (.int (0 : Int32))] 7) T20 (mkF m 84 #[.val (.ref o), .val (.int (0 : Int32)), .val (.int x5), .val (.long q10), .second, .val (.int (0 : Int32)), .val (.int (1 : Int32))] [(.ref r)]) := fun _ k => G19 _ (st20 _ k)
  have G21 : Goes p e below s₁ (entryFrame m #[(.ref o), (.int (0 : Int32))] 7) T20 (mkF m 85 #[.val (.ref o), .val (.int (0 : Int32)), .val (.int x5), .val (.long q10), .second, .val (.int (0 : Int32)), .val (.int (1 : Int32))] [(.ref o), (.ref r)]) := fun _ k => G20 _ (by
      show Steps p.tables e below (T20.setTop (mkF m 84 #[.val (.ref o), .val (.int (0 : Int32)), .val (.int x5), .val (.long q10), .second, .val (.int (0 : Int32)), .val (.int (1 : Int32))] [(.ref r)])) _
      refine XS.aloadN X20.here hx rfl (hb hby own_d8_84) rfl rfl ?_
      exact k)
  obtain ⟨T22, X22, e22, st22⟩ := getF X20 hx hZ hown (host := "") (Or.inl (hw _ (List.mem_of_getElem? (i := 13) rfl))) Via.refl e20 F21 (g := (mkF m 85 #[.val (.ref o), .val (.int (0 : Int32)), .val (.int x5), .val (.long q10), .second, .val (.int (0 : Int32)), .val (.int (1 : Int32))] [(.ref o), (.ref r)])) rfl rfl (hb hby own_d8_85)
  have G22 : Goes p e below s₁ (entryFrame m #[(.ref o), (.int (0 : Int32))] 7) T22 (mkF m 88 #[.val (.ref o), .val (.int (0 : Int32)), .val (.int x5), .val (.long q10), .second, .val (.int (0 : Int32)), .val (.int (1 : Int32))] [(.ref hp), (.ref r)]) := fun _ k => G21 _ (st22 _ k)
  have G23 : Goes p e below s₁ (entryFrame m #[(.ref o), (.int (0 : Int32))] 7) T22 (mkF m 90 #[.val (.ref o), .val (.int (0 : Int32)), .val (.int x5), .val (.long q10), .second, .val (.int (0 : Int32)), .val (.int (1 : Int32))] [(.int (1 : Int32)), (.ref hp), (.ref r)]) := fun _ k => G22 _ (by
      show Steps p.tables e below (T22.setTop (mkF m 88 #[.val (.ref o), .val (.int (0 : Int32)), .val (.int x5), .val (.long q10), .second, .val (.int (0 : Int32)), .val (.int (1 : Int32))] [(.ref hp), (.ref r)])) _
      refine XS.iload X22.here hx rfl (hb hby own_d8_88) rfl ?_
      exact k)
  have vc24 := A1
  obtain ⟨cl24, Ar24, S24, H24⟩ := vc24
  have hin24 : ¬ ((1 : Int32) < 0 ∨ cl24.slots.size ≤ ((1 : Int32)).toNatClampNeg) := inb_of S24 ⟨by decide, by decide⟩
  obtain ⟨x24, hat24, hx24⟩ := H24 _ (own_k S24 hin24)
  have G25 : Goes p e below s₁ (entryFrame m #[(.ref o), (.int (0 : Int32))] 7) T22 (mkF m 91 #[.val (.ref o), .val (.int (0 : Int32)), .val (.int x5), .val (.long q10), .second, .val (.int (0 : Int32)), .val (.int (1 : Int32))] [(.int x24), (.ref r)]) := fun _ k => G23 _ (by
      show Steps p.tables e below (T22.setTop (mkF m 90 #[.val (.ref o), .val (.int (0 : Int32)), .val (.int x5), .val (.long q10), .second, .val (.int (0 : Int32)), .val (.int (1 : Int32))] [(.int (1 : Int32)), (.ref hp), (.ref r)])) _
      refine X22.iaload hx (j := (1 : Int32)) (v := (.int x24)) (by rw [e22]; exact Ar24.1) (State.isArrayOf_alike hZ.alike Ar24.2.1) Ar24.2.2 hin24 hat24 (g := (mkF m 90 #[.val (.ref o), .val (.int (0 : Int32)), .val (.int x5), .val (.long q10), .second, .val (.int (0 : Int32)), .val (.int (1 : Int32))] [(.int (1 : Int32)), (.ref hp), (.ref r)])) rfl rfl (hb hby own_d8_90) _ ?_
      exact k)
  have vc26 := R1
  obtain ⟨cl26, Ar26, S26, H26⟩ := vc26
  have hin26 : ¬ (x24 < 0 ∨ cl26.slots.size ≤ (x24).toNatClampNeg) := inb_of S26 hx24
  obtain ⟨q26, hat26⟩ := H26 _ (own_k S26 hin26)
  have G27 : Goes p e below s₁ (entryFrame m #[(.ref o), (.int (0 : Int32))] 7) T22 (mkF m 92 #[.val (.ref o), .val (.int (0 : Int32)), .val (.int x5), .val (.long q10), .second, .val (.int (0 : Int32)), .val (.int (1 : Int32))] [(.long q26)]) := fun _ k => G25 _ (by
      show Steps p.tables e below (T22.setTop (mkF m 91 #[.val (.ref o), .val (.int (0 : Int32)), .val (.int x5), .val (.long q10), .second, .val (.int (0 : Int32)), .val (.int (1 : Int32))] [(.int x24), (.ref r)])) _
      refine X22.laload hx (j := x24) (v := (.long q26)) (by rw [e22]; exact Ar26.1) (State.isArrayOf_alike hZ.alike Ar26.2.1) Ar26.2.2 hin26 hat26 (g := (mkF m 91 #[.val (.ref o), .val (.int (0 : Int32)), .val (.int x5), .val (.long q10), .second, .val (.int (0 : Int32)), .val (.int (1 : Int32))] [(.int x24), (.ref r)])) rfl rfl (hb hby own_d8_91) _ ?_
      exact k)
  have G28 : Goes p e below s₁ (entryFrame m #[(.ref o), (.int (0 : Int32))] 7) T22 (mkF m 94 #[.val (.ref o), .val (.int (0 : Int32)), .val (.int x5), .val (.long q10), .second, .val (.int (0 : Int32)), .val (.int (1 : Int32))] [(.int (lcmpW q26 q10))]) := fun _ k => G27 _ (by
      show Steps p.tables e below (T22.setTop (mkF m 92 #[.val (.ref o), .val (.int (0 : Int32)), .val (.int x5), .val (.long q10), .second, .val (.int (0 : Int32)), .val (.int (1 : Int32))] [(.long q26)])) _
      refine XS.lloadN X22.here hx rfl (hb hby own_d8_92) rfl ?_
      show Steps p.tables e below (T22.setTop (mkF m 93 #[.val (.ref o), .val (.int (0 : Int32)), .val (.int x5), .val (.long q10), .second, .val (.int (0 : Int32)), .val (.int (1 : Int32))] [(.long q10), (.long q26)])) _
      refine XS.lcmp X22.here hx rfl (hb hby own_d8_93) rfl ?_
      exact k)
  by_cases h1 : (lcmpW q26 q10) < (0 : Int32)
  · have G29 : Goes p e below s₁ (entryFrame m #[(.ref o), (.int (0 : Int32))] 7) T22 (mkF m 100 #[.val (.ref o), .val (.int (0 : Int32)), .val (.int x5), .val (.long q10), .second, .val (.int (0 : Int32)), .val (.int (1 : Int32))] []) := fun _ k => G28 _ (by
        show Steps p.tables e below (T22.setTop (mkF m 94 #[.val (.ref o), .val (.int (0 : Int32)), .val (.int x5), .val (.long q10), .second, .val (.int (0 : Int32)), .val (.int (1 : Int32))] [(.int (lcmpW q26 q10))])) _
        refine XS.ifYes X22.here hx rfl (pc0 := 94) (pc' := 100) rfl (hb hby own_d8_94) rfl ((if0 _ _).trans (tlt h1).1) (by decide) (by decide) ?_
        exact k)
    have G30 : Goes p e below s₁ (entryFrame m #[(.ref o), (.int (0 : Int32))] 7) T22 (mkF m 102 #[.val (.ref o), .val (.int (0 : Int32)), .val (.int x5), .val (.long q10), .second, .val (.int (0 : Int32)), .val (.int (1 : Int32))] [(.ref o), (.ref o)]) := fun _ k => G29 _ (by
        show Steps p.tables e below (T22.setTop (mkF m 100 #[.val (.ref o), .val (.int (0 : Int32)), .val (.int x5), .val (.long q10), .second, .val (.int (0 : Int32)), .val (.int (1 : Int32))] [])) _
        refine XS.aloadN X22.here hx rfl (hb hby own_d8_100) rfl rfl ?_
        show Steps p.tables e below (T22.setTop (mkF m 101 #[.val (.ref o), .val (.int (0 : Int32)), .val (.int x5), .val (.long q10), .second, .val (.int (0 : Int32)), .val (.int (1 : Int32))] [(.ref o)])) _
        refine XS.aloadN X22.here hx rfl (hb hby own_d8_101) rfl rfl ?_
        exact k)
    obtain ⟨T31, X31, e31, st31⟩ := getF X22 hx hZ hown (host := "") (Or.inl (hw _ (List.mem_of_getElem? (i := 13) rfl))) Via.refl e22 F21 (g := (mkF m 102 #[.val (.ref o), .val (.int (0 : Int32)), .val (.int x5), .val (.long q10), .second, .val (.int (0 : Int32)), .val (.int (1 : Int32))] [(.ref o), (.ref o)])) rfl rfl (hb hby own_d8_102)
    have G31 : Goes p e below s₁ (entryFrame m #[(.ref o), (.int (0 : Int32))] 7) T31 (mkF m 105 #[.val (.ref o), .val (.int (0 : Int32)), .val (.int x5), .val (.long q10), .second, .val (.int (0 : Int32)), .val (.int (1 : Int32))] [(.ref hp), (.ref o)]) := fun _ k => G30 _ (st31 _ k)
    have G32 : Goes p e below s₁ (entryFrame m #[(.ref o), (.int (0 : Int32))] 7) T31 (mkF m 107 #[.val (.ref o), .val (.int (0 : Int32)), .val (.int x5), .val (.long q10), .second, .val (.int (0 : Int32)), .val (.int (1 : Int32))] [(.int (1 : Int32)), (.ref hp), (.ref o)]) := fun _ k => G31 _ (by
        show Steps p.tables e below (T31.setTop (mkF m 105 #[.val (.ref o), .val (.int (0 : Int32)), .val (.int x5), .val (.long q10), .second, .val (.int (0 : Int32)), .val (.int (1 : Int32))] [(.ref hp), (.ref o)])) _
        refine XS.iload X31.here hx rfl (hb hby own_d8_105) rfl ?_
        exact k)
    have vc33 := A1
    obtain ⟨cl33, Ar33, S33, H33⟩ := vc33
    have hin33 : ¬ ((1 : Int32) < 0 ∨ cl33.slots.size ≤ ((1 : Int32)).toNatClampNeg) := inb_of S33 ⟨by decide, by decide⟩
    obtain ⟨x33, hat33, hx33⟩ := H33 _ (own_k S33 hin33)
    have G34 : Goes p e below s₁ (entryFrame m #[(.ref o), (.int (0 : Int32))] 7) T31 (mkF m 108 #[.val (.ref o), .val (.int (0 : Int32)), .val (.int x5), .val (.long q10), .second, .val (.int (0 : Int32)), .val (.int (1 : Int32))] [(.int x33), (.ref o)]) := fun _ k => G32 _ (by
        show Steps p.tables e below (T31.setTop (mkF m 107 #[.val (.ref o), .val (.int (0 : Int32)), .val (.int x5), .val (.long q10), .second, .val (.int (0 : Int32)), .val (.int (1 : Int32))] [(.int (1 : Int32)), (.ref hp), (.ref o)])) _
        refine X31.iaload hx (j := (1 : Int32)) (v := (.int x33)) (by rw [e31]; exact Ar33.1) (State.isArrayOf_alike hZ.alike Ar33.2.1) Ar33.2.2 hin33 hat33 (g := (mkF m 107 #[.val (.ref o), .val (.int (0 : Int32)), .val (.int x5), .val (.long q10), .second, .val (.int (0 : Int32)), .val (.int (1 : Int32))] [(.int (1 : Int32)), (.ref hp), (.ref o)])) rfl rfl (hb hby own_d8_107) _ ?_
        exact k)
    have G35 : Goes p e below s₁ (entryFrame m #[(.ref o), (.int (0 : Int32))] 7) T31 (mkF m 110 #[.val (.ref o), .val (.int (0 : Int32)), .val (.int x5), .val (.long q10), .second, .val (.int (0 : Int32)), .val (.int (1 : Int32))] [(.int (0 : Int32)), (.int x33), (.ref o)]) := fun _ k => G34 _ (by
        show Steps p.tables e below (T31.setTop (mkF m 108 #[.val (.ref o), .val (.int (0 : Int32)), .val (.int x5), .val (.long q10), .second, .val (.int (0 : Int32)), .val (.int (1 : Int32))] [(.int x33), (.ref o)])) _
        refine XS.iload X31.here hx rfl (hb hby own_d8_108) rfl ?_
        exact k)
    obtain ⟨cq36, q36, q36'⟩ := E1.cell
    obtain ⟨_, _, ⟨T36, L36, k36, n36⟩, -, X36, ⟨Lc36, hQ36, l36, y36, z36⟩, st36⟩ := X31.privateBack hx (y := (⟨"com/example/subterm/subterm/algorithm/IndexedHeap", "put", "(II)V"⟩ : MethodName)) hown (mvT hZ (hw _ (List.mem_of_getElem? (i := 33) rfl))) (mvT hZ (hw _ (List.mem_of_getElem? (i := 34) rfl))) (mvT hZ (own_sel (y := (⟨"com/example/subterm/subterm/algorithm/IndexedHeap", "put", "(II)V"⟩ : MethodName)) (by decide) (hw _ (List.mem_of_getElem? (i := 2) rfl)) (hw _ (List.mem_of_getElem? (i := 35) rfl)) (hw _ (List.mem_of_getElem? (i := 34) rfl)))) (Cond.privateMethod_at (mvP hZ (hw _ (List.mem_of_getElem? (i := 35) rfl)) (args := #[]))) (mvT hZ (hw _ (List.mem_of_getElem? (i := 36) rfl))) (by decide) (backOf (W := 0) (rm6 l Z a0 hw [] o r hp pl (2 : Int32) x33 (0 : Int32) h0 n0 Zn I0 D hx33 ⟨by decide, by decide⟩) hZ (hw _ (List.mem_of_getElem? (i := 36) rfl)) (hw _ (List.mem_of_getElem? (i := 3) rfl)) (by decide) (by decide)) (g := (mkF m 110 #[.val (.ref o), .val (.int (0 : Int32)), .val (.int x5), .val (.long q10), .second, .val (.int (0 : Int32)), .val (.int (1 : Int32))] [(.int (0 : Int32)), (.int x33), (.ref o)])) rfl (by rw [hml]; rfl) (Steps.refl _) (a := o) (by rw [e31]; exact q36) q36' (argsL := [(.int x33), (.int (0 : Int32))]) (rest := []) (lenOf own_pd0 rfl) rfl (by show 2 * 0 + _ ≤ _; exact Nat.le_of_eq rfl) (hb hby own_d8_110) (fun _ _ => ⟨rfl, e31, (by decide : 0 + 0 ≤ _), (by decide : 0 + 0 ≤ _)⟩)
    dsimp only [Pt.U, Pt.locs, Pt.cells, Pt.slots] at X36 l36 y36 z36 st36 hQ36
    subst l36 y36 z36
    obtain ⟨rfl, N36q, Zn, I36⟩ := hQ36
    have N36 := Fr.app N0 N36q
    have G36 : Goes p e below s₁ (entryFrame m #[(.ref o), (.int (0 : Int32))] 7) T36 (mkF m 113 #[.val (.ref o), .val (.int (0 : Int32)), .val (.int x5), .val (.long q10), .second, .val (.int (0 : Int32)), .val (.int (1 : Int32))] []) := fun _ k => G35 _ (st36.trans k)
    have oi37 := I36
    obtain ⟨E37, F137, F237, F337, F437, R37, A37, P37⟩ := oi37
    have G38 : Goes p e below s₁ (entryFrame m #[(.ref o), (.int (0 : Int32))] 7) T36 (mkF m 20 #[.val (.ref o), .val (.int (0 : Int32)), .val (.int x5), .val (.long q10), .second, .val (.int (1 : Int32)), .val (.int (1 : Int32))] [(.ref o), (.int (1 : Int32))]) := fun _ k => G36 _ (by
        show Steps p.tables e below (T36.setTop (mkF m 113 #[.val (.ref o), .val (.int (0 : Int32)), .val (.int x5), .val (.long q10), .second, .val (.int (0 : Int32)), .val (.int (1 : Int32))] [])) _
        refine XS.iload X36.here hx rfl (hb hby own_d8_113) rfl ?_
        show Steps p.tables e below (T36.setTop (mkF m 115 #[.val (.ref o), .val (.int (0 : Int32)), .val (.int x5), .val (.long q10), .second, .val (.int (0 : Int32)), .val (.int (1 : Int32))] [(.int (1 : Int32))])) _
        refine XS.istore X36.here hx rfl (hb hby own_d8_115) rfl (l' := #[.val (.ref o), .val (.int (0 : Int32)), .val (.int x5), .val (.long q10), .second, .val (.int (1 : Int32)), .val (.int (1 : Int32))]) rfl ?_
        show Steps p.tables e below (T36.setTop (mkF m 117 #[.val (.ref o), .val (.int (0 : Int32)), .val (.int x5), .val (.long q10), .second, .val (.int (1 : Int32)), .val (.int (1 : Int32))] [])) _
        refine XS.goto X36.here hx rfl (pc0 := 117) (pc' := 17) rfl (hb hby own_d8_117) (by decide) (by decide) ?_
        show Steps p.tables e below (T36.setTop (mkF m 17 #[.val (.ref o), .val (.int (0 : Int32)), .val (.int x5), .val (.long q10), .second, .val (.int (1 : Int32)), .val (.int (1 : Int32))] [])) _
        refine XS.iload X36.here hx rfl (hb hby own_d8_17) rfl ?_
        show Steps p.tables e below (T36.setTop (mkF m 19 #[.val (.ref o), .val (.int (0 : Int32)), .val (.int x5), .val (.long q10), .second, .val (.int (1 : Int32)), .val (.int (1 : Int32))] [(.int (1 : Int32))])) _
        refine XS.aloadN X36.here hx rfl (hb hby own_d8_19) rfl rfl ?_
        exact k)
    obtain ⟨T39, X39, e39, st39⟩ := getF X36 hx hZ hown (host := "") (Or.inl (hw _ (List.mem_of_getElem? (i := 22) rfl))) Via.refl rfl F437 (g := (mkF m 20 #[.val (.ref o), .val (.int (0 : Int32)), .val (.int x5), .val (.long q10), .second, .val (.int (1 : Int32)), .val (.int (1 : Int32))] [(.ref o), (.int (1 : Int32))])) rfl rfl (hb hby own_d8_20)
    have G39 : Goes p e below s₁ (entryFrame m #[(.ref o), (.int (0 : Int32))] 7) T39 (mkF m 23 #[.val (.ref o), .val (.int (0 : Int32)), .val (.int x5), .val (.long q10), .second, .val (.int (1 : Int32)), .val (.int (1 : Int32))] [(.int (2 : Int32)), (.int (1 : Int32))]) := fun _ k => G38 _ (st39 _ k)
    have G40 : Goes p e below s₁ (entryFrame m #[(.ref o), (.int (0 : Int32))] 7) T39 (mkF m 25 #[.val (.ref o), .val (.int (0 : Int32)), .val (.int x5), .val (.long q10), .second, .val (.int (1 : Int32)), .val (.int (1 : Int32))] [(.int (1 : Int32)), (.int (1 : Int32))]) := fun _ k => G39 _ (by
        show Steps p.tables e below (T39.setTop (mkF m 23 #[.val (.ref o), .val (.int (0 : Int32)), .val (.int x5), .val (.long q10), .second, .val (.int (1 : Int32)), .val (.int (1 : Int32))] [(.int (2 : Int32)), (.int (1 : Int32))])) _
        refine XS.iconst X39.here hx rfl (hb hby own_d8_23) ?_
        show Steps p.tables e below (T39.setTop (mkF m 24 #[.val (.ref o), .val (.int (0 : Int32)), .val (.int x5), .val (.long q10), .second, .val (.int (1 : Int32)), .val (.int (1 : Int32))] [(.int (2 : Int32)), (.int (2 : Int32)), (.int (1 : Int32))])) _
        refine XS.idiv X39.here hx rfl (hb hby own_d8_24) rfl (by decide) ?_
        exact k)
    have G41 : Goes p e below s₁ (entryFrame m #[(.ref o), (.int (0 : Int32))] 7) T39 (mkF m 120 #[.val (.ref o), .val (.int (0 : Int32)), .val (.int x5), .val (.long q10), .second, .val (.int (1 : Int32)), .val (.int (1 : Int32))] []) := fun _ k => G40 _ (by
        show Steps p.tables e below (T39.setTop (mkF m 25 #[.val (.ref o), .val (.int (0 : Int32)), .val (.int x5), .val (.long q10), .second, .val (.int (1 : Int32)), .val (.int (1 : Int32))] [(.int (1 : Int32)), (.int (1 : Int32))])) _
        refine XS.icmpYes X39.here hx rfl (pc0 := 25) (pc' := 120) rfl (hb hby own_d8_25) rfl (flt (by decide : ¬ ((1 : Int32) < (1 : Int32)))).2.1 (by decide) (by decide) ?_
        exact k)
    have G42 : Goes p e below s₁ (entryFrame m #[(.ref o), (.int (0 : Int32))] 7) T39 (mkF m 124 #[.val (.ref o), .val (.int (0 : Int32)), .val (.int x5), .val (.long q10), .second, .val (.int (1 : Int32)), .val (.int (1 : Int32))] [(.int (1 : Int32)), (.int x5), (.ref o)]) := fun _ k => G41 _ (by
        show Steps p.tables e below (T39.setTop (mkF m 120 #[.val (.ref o), .val (.int (0 : Int32)), .val (.int x5), .val (.long q10), .second, .val (.int (1 : Int32)), .val (.int (1 : Int32))] [])) _
        refine XS.aloadN X39.here hx rfl (hb hby own_d8_120) rfl rfl ?_
        show Steps p.tables e below (T39.setTop (mkF m 121 #[.val (.ref o), .val (.int (0 : Int32)), .val (.int x5), .val (.long q10), .second, .val (.int (1 : Int32)), .val (.int (1 : Int32))] [(.ref o)])) _
        refine XS.iloadN X39.here hx rfl (hb hby own_d8_121) rfl ?_
        show Steps p.tables e below (T39.setTop (mkF m 122 #[.val (.ref o), .val (.int (0 : Int32)), .val (.int x5), .val (.long q10), .second, .val (.int (1 : Int32)), .val (.int (1 : Int32))] [(.int x5), (.ref o)])) _
        refine XS.iload X39.here hx rfl (hb hby own_d8_122) rfl ?_
        exact k)
    obtain ⟨cq43, q43, q43'⟩ := E37.cell
    obtain ⟨_, _, ⟨T43, L43, k43, n43⟩, -, X43, ⟨Lc43, hQ43, l43, y43, z43⟩, st43⟩ := X39.privateBack hx (y := (⟨"com/example/subterm/subterm/algorithm/IndexedHeap", "put", "(II)V"⟩ : MethodName)) hown (mvT hZ (hw _ (List.mem_of_getElem? (i := 33) rfl))) (mvT hZ (hw _ (List.mem_of_getElem? (i := 34) rfl))) (mvT hZ (own_sel (y := (⟨"com/example/subterm/subterm/algorithm/IndexedHeap", "put", "(II)V"⟩ : MethodName)) (by decide) (hw _ (List.mem_of_getElem? (i := 2) rfl)) (hw _ (List.mem_of_getElem? (i := 35) rfl)) (hw _ (List.mem_of_getElem? (i := 34) rfl)))) (Cond.privateMethod_at (mvP hZ (hw _ (List.mem_of_getElem? (i := 35) rfl)) (args := #[]))) (mvT hZ (hw _ (List.mem_of_getElem? (i := 36) rfl))) (by decide) (backOf (W := 0) (rm6 l Z a0 hw [] o r hp pl (2 : Int32) x5 (1 : Int32) T36.heap n0 Zn I36 D hx5 ⟨by decide, by decide⟩) hZ (hw _ (List.mem_of_getElem? (i := 36) rfl)) (hw _ (List.mem_of_getElem? (i := 3) rfl)) (by decide) (by decide)) (g := (mkF m 124 #[.val (.ref o), .val (.int (0 : Int32)), .val (.int x5), .val (.long q10), .second, .val (.int (1 : Int32)), .val (.int (1 : Int32))] [(.int (1 : Int32)), (.int x5), (.ref o)])) rfl (by rw [hml]; rfl) (Steps.refl _) (a := o) (by rw [e39]; exact q43) q43' (argsL := [(.int x5), (.int (1 : Int32))]) (rest := []) (lenOf own_pd0 rfl) rfl (by show 2 * 0 + _ ≤ _; exact Nat.le_of_eq rfl) (hb hby own_d8_124) (fun _ _ => ⟨rfl, e39, (by decide : 0 + 0 ≤ _), (by decide : 0 + 0 ≤ _)⟩)
    dsimp only [Pt.U, Pt.locs, Pt.cells, Pt.slots] at X43 l43 y43 z43 st43 hQ43
    subst l43 y43 z43
    obtain ⟨rfl, N43q, Zn, I43⟩ := hQ43
    have N43 := Fr.app N36 N43q
    have G43 : Goes p e below s₁ (entryFrame m #[(.ref o), (.int (0 : Int32))] 7) T43 (mkF m 127 #[.val (.ref o), .val (.int (0 : Int32)), .val (.int x5), .val (.long q10), .second, .val (.int (1 : Int32)), .val (.int (1 : Int32))] []) := fun _ k => G42 _ (st43.trans k)
    obtain ⟨fs, hr, hrun, hended, hW, hsame⟩ := X43.leave (v := none) (fun _ => rfl)
    refine ⟨_, _, G43 _ (X43.returnOut hx Bd.returns (hb hby own_d8_127) hr), hrun, hended, _, _, rfl, ?_, ⟨_, rfl⟩, hW, hsame.mono (by decide) (by decide)⟩
    show QV Z o r hp pl (2 : Int32) n0 _ T43.heap _
    exact ⟨rfl, N43, Zn, I43⟩
  · have G44 : Goes p e below s₁ (entryFrame m #[(.ref o), (.int (0 : Int32))] 7) T22 (mkF m 97 #[.val (.ref o), .val (.int (0 : Int32)), .val (.int x5), .val (.long q10), .second, .val (.int (0 : Int32)), .val (.int (1 : Int32))] []) := fun _ k => G28 _ (by
        show Steps p.tables e below (T22.setTop (mkF m 94 #[.val (.ref o), .val (.int (0 : Int32)), .val (.int x5), .val (.long q10), .second, .val (.int (0 : Int32)), .val (.int (1 : Int32))] [(.int (lcmpW q26 q10))])) _
        refine XS.ifNo X22.here hx rfl (hb hby own_d8_94) rfl ((if0 _ _).trans (flt h1).1) ?_
        exact k)
    have G45 : Goes p e below s₁ (entryFrame m #[(.ref o), (.int (0 : Int32))] 7) T22 (mkF m 120 #[.val (.ref o), .val (.int (0 : Int32)), .val (.int x5), .val (.long q10), .second, .val (.int (0 : Int32)), .val (.int (1 : Int32))] []) := fun _ k => G44 _ (by
        show Steps p.tables e below (T22.setTop (mkF m 97 #[.val (.ref o), .val (.int (0 : Int32)), .val (.int x5), .val (.long q10), .second, .val (.int (0 : Int32)), .val (.int (1 : Int32))] [])) _
        refine XS.goto X22.here hx rfl (pc0 := 97) (pc' := 120) rfl (hb hby own_d8_97) (by decide) (by decide) ?_
        exact k)
    have G46 : Goes p e below s₁ (entryFrame m #[(.ref o), (.int (0 : Int32))] 7) T22 (mkF m 124 #[.val (.ref o), .val (.int (0 : Int32)), .val (.int x5), .val (.long q10), .second, .val (.int (0 : Int32)), .val (.int (1 : Int32))] [(.int (0 : Int32)), (.int x5), (.ref o)]) := fun _ k => G45 _ (by
        show Steps p.tables e below (T22.setTop (mkF m 120 #[.val (.ref o), .val (.int (0 : Int32)), .val (.int x5), .val (.long q10), .second, .val (.int (0 : Int32)), .val (.int (1 : Int32))] [])) _
        refine XS.aloadN X22.here hx rfl (hb hby own_d8_120) rfl rfl ?_
        show Steps p.tables e below (T22.setTop (mkF m 121 #[.val (.ref o), .val (.int (0 : Int32)), .val (.int x5), .val (.long q10), .second, .val (.int (0 : Int32)), .val (.int (1 : Int32))] [(.ref o)])) _
        refine XS.iloadN X22.here hx rfl (hb hby own_d8_121) rfl ?_
        show Steps p.tables e below (T22.setTop (mkF m 122 #[.val (.ref o), .val (.int (0 : Int32)), .val (.int x5), .val (.long q10), .second, .val (.int (0 : Int32)), .val (.int (1 : Int32))] [(.int x5), (.ref o)])) _
        refine XS.iload X22.here hx rfl (hb hby own_d8_122) rfl ?_
        exact k)
    obtain ⟨cq47, q47, q47'⟩ := E1.cell
    obtain ⟨_, _, ⟨T47, L47, k47, n47⟩, -, X47, ⟨Lc47, hQ47, l47, y47, z47⟩, st47⟩ := X22.privateBack hx (y := (⟨"com/example/subterm/subterm/algorithm/IndexedHeap", "put", "(II)V"⟩ : MethodName)) hown (mvT hZ (hw _ (List.mem_of_getElem? (i := 33) rfl))) (mvT hZ (hw _ (List.mem_of_getElem? (i := 34) rfl))) (mvT hZ (own_sel (y := (⟨"com/example/subterm/subterm/algorithm/IndexedHeap", "put", "(II)V"⟩ : MethodName)) (by decide) (hw _ (List.mem_of_getElem? (i := 2) rfl)) (hw _ (List.mem_of_getElem? (i := 35) rfl)) (hw _ (List.mem_of_getElem? (i := 34) rfl)))) (Cond.privateMethod_at (mvP hZ (hw _ (List.mem_of_getElem? (i := 35) rfl)) (args := #[]))) (mvT hZ (hw _ (List.mem_of_getElem? (i := 36) rfl))) (by decide) (backOf (W := 0) (rm6 l Z a0 hw [] o r hp pl (2 : Int32) x5 (0 : Int32) h0 n0 Zn I0 D hx5 ⟨by decide, by decide⟩) hZ (hw _ (List.mem_of_getElem? (i := 36) rfl)) (hw _ (List.mem_of_getElem? (i := 3) rfl)) (by decide) (by decide)) (g := (mkF m 124 #[.val (.ref o), .val (.int (0 : Int32)), .val (.int x5), .val (.long q10), .second, .val (.int (0 : Int32)), .val (.int (1 : Int32))] [(.int (0 : Int32)), (.int x5), (.ref o)])) rfl (by rw [hml]; rfl) (Steps.refl _) (a := o) (by rw [e22]; exact q47) q47' (argsL := [(.int x5), (.int (0 : Int32))]) (rest := []) (lenOf own_pd0 rfl) rfl (by show 2 * 0 + _ ≤ _; exact Nat.le_of_eq rfl) (hb hby own_d8_124) (fun _ _ => ⟨rfl, e22, (by decide : 0 + 0 ≤ _), (by decide : 0 + 0 ≤ _)⟩)
    dsimp only [Pt.U, Pt.locs, Pt.cells, Pt.slots] at X47 l47 y47 z47 st47 hQ47
    subst l47 y47 z47
    obtain ⟨rfl, N47q, Zn, I47⟩ := hQ47
    have N47 := Fr.app N0 N47q
    have G47 : Goes p e below s₁ (entryFrame m #[(.ref o), (.int (0 : Int32))] 7) T47 (mkF m 127 #[.val (.ref o), .val (.int (0 : Int32)), .val (.int x5), .val (.long q10), .second, .val (.int (0 : Int32)), .val (.int (1 : Int32))] []) := fun _ k => G46 _ (st47.trans k)
    obtain ⟨fs, hr, hrun, hended, hW, hsame⟩ := X47.leave (v := none) (fun _ => rfl)
    refine ⟨_, _, G47 _ (X47.returnOut hx Bd.returns (hb hby own_d8_127) hr), hrun, hended, _, _, rfl, ?_, ⟨_, rfl⟩, hW, hsame.mono (by decide) (by decide)⟩
    show QV Z o r hp pl (2 : Int32) n0 _ T47.heap _
    exact ⟨rfl, N47, Zn, I47⟩
theorem own_d4_0 : decode prog_6_method_3_code 0 = .ok (.aload_n 0, 1) := by decide +kernel
theorem own_d4_1 : decode prog_6_method_3_code 1 = .ok (.dup, 1) := by decide +kernel
theorem own_d4_2 : decode prog_6_method_3_code 2 = .ok (.getfield 20, 3) := by decide +kernel
theorem own_d4_5 : decode prog_6_method_3_code 5 = .ok (.dup_x1, 1) := by decide +kernel
theorem own_d4_6 : decode prog_6_method_3_code 6 = .ok (.iconst 1, 1) := by decide +kernel
theorem own_d4_7 : decode prog_6_method_3_code 7 = .ok (.iadd, 1) := by decide +kernel
theorem own_d4_8 : decode prog_6_method_3_code 8 = .ok (.putfield 20, 3) := by decide +kernel
theorem own_d4_11 : decode prog_6_method_3_code 11 = .ok (.istore_n 2, 1) := by decide +kernel
theorem own_d4_12 : decode prog_6_method_3_code 12 = .ok (.aload_n 0, 1) := by decide +kernel
theorem own_d4_13 : decode prog_6_method_3_code 13 = .ok (.getfield 13, 3) := by decide +kernel
theorem own_d4_16 : decode prog_6_method_3_code 16 = .ok (.iload_n 2, 1) := by decide +kernel
theorem own_d4_17 : decode prog_6_method_3_code 17 = .ok (.iload_n 1, 1) := by decide +kernel
theorem own_d4_18 : decode prog_6_method_3_code 18 = .ok (.iastore, 1) := by decide +kernel
theorem own_d4_19 : decode prog_6_method_3_code 19 = .ok (.aload_n 0, 1) := by decide +kernel
theorem own_d4_20 : decode prog_6_method_3_code 20 = .ok (.iload_n 2, 1) := by decide +kernel
theorem own_d4_21 : decode prog_6_method_3_code 21 = .ok (.invokevirtual 24, 3) := by decide +kernel
theorem own_d4_24 : decode prog_6_method_3_code 24 = .ok (.return_, 1) := by decide +kernel
set_option maxRecDepth 65536 in
set_option maxHeartbeats 40000000 in
theorem rm4_0 (l : Launch) (Z : State) (a0 : Array Value) (hw : ∀ d ∈ tables_1, d.before a0 Z = true) (ws : List Jvm.Cond) (o r hp pl : Addr) (h0 : Heap) (n0 : Nat) (Z0 : n0 ≤ h0.size) (I0 : Inv Z h0 o r hp pl (0 : Int32)) (D : Dis n0 o r hp pl) :
    MetFree l (⟨"com/example/subterm/subterm/algorithm/IndexedHeap", "add", "(I)V"⟩ : MethodName) (head1 (Jvm.Cond.code (⟨"com/example/subterm/subterm/algorithm/IndexedHeap", "add", "(I)V"⟩ : MethodName) prog_6_method_3_code 3 none :: ws) ({ frames := 2, cells := 0, slots := 0, locals := 32 } : Room)) (fun a U => a = #[(.ref o), (.int (0 : Int32))] ∧ Z.Warmed39 U.vm ∧ U.heap = h0) (fun _ _ _ _ _ => True) (fun _ U oc U' => ∃ v L, oc = .returned v ∧ QV Z o r hp pl (1 : Int32) n0 v U'.heap L ∧ FrameEnd U oc U' L ({ frames := 2, cells := 0, slots := 0, locals := 32 } : Room).cells ({ frames := 2, cells := 0, slots := 0, locals := 32 } : Room).slots) := by
  refine MetFree.of_bodySF (plainFor_of_name own_pn0) hisR ?_
  intro p e s m args below meth c s₁ Bd hml0 hP hK
  obtain ⟨rfl, hZ, hh⟩ := hP
  have hx := Bd.exec
  have hby := Bd.bytes
  have hml : c.maxLocals = 3 := hml0
  have hown : s.vm.findClass "com/example/subterm/subterm/algorithm/IndexedHeap" = some m.cls := findClass_of_methodNamed Bd.named
  have hnm := (name_of_methodNamed Bd.named Bd.method).1
  have X0 : Stand p l e ({ frames := 2, cells := 0, slots := 0, locals := 32 } : Room) s m #[(.ref o), (.int (0 : Int32))] below meth c s₁ [] 0 0 := Stand.of_body Bd
  have e0 : s₁.heap = h0 := by rw [← hh, Bd.state]; rfl
  have N0 := Fr.nil n0
  have G0 : Goes p e below s₁ (entryFrame m #[(.ref o), (.int (0 : Int32))] 3) s₁ (mkF m 0 #[.val (.ref o), .val (.int (0 : Int32)), .unset] []) := fun _ k => castTop (by first | (simp [entryFrame, mkF, argsToLocals, Value.category]; done) | rfl : (entryFrame m #[(.ref o), (.int (0 : Int32))] 3) = mkF m 0 #[.val (.ref o), .val (.int (0 : Int32)), .unset] []) k
  have Zn := Z0
  have D' := D
  obtain ⟨go, ghp, gpl, -⟩ := D'
  have oi1 := I0
  obtain ⟨E1, F11, F21, F31, F41, R1, A1, P1⟩ := oi1
  have G2 : Goes p e below s₁ (entryFrame m #[(.ref o), (.int (0 : Int32))] 3) s₁ (mkF m 2 #[.val (.ref o), .val (.int (0 : Int32)), .unset] [(.ref o), (.ref o)]) := fun _ k => G0 _ (by
      show Steps p.tables e below (s₁.setTop (mkF m 0 #[.val (.ref o), .val (.int (0 : Int32)), .unset] [])) _
      refine XS.aloadN X0.here hx rfl (hb hby own_d4_0) rfl rfl ?_
      show Steps p.tables e below (s₁.setTop (mkF m 1 #[.val (.ref o), .val (.int (0 : Int32)), .unset] [(.ref o)])) _
      refine XS.dup X0.here hx rfl (hb hby own_d4_1) rfl rfl ?_
      exact k)
  obtain ⟨T3, X3, e3, st3⟩ := getF X0 hx hZ hown (host := "") (Or.inl (hw _ (List.mem_of_getElem? (i := 22) rfl))) Via.refl e0 F41 (g := (mkF m 2 #[.val (.ref o), .val (.int (0 : Int32)), .unset] [(.ref o), (.ref o)])) rfl rfl (hb hby own_d4_2)
  have G3 : Goes p e below s₁ (entryFrame m #[(.ref o), (.int (0 : Int32))] 3) T3 (mkF m 5 #[.val (.ref o), .val (.int (0 : Int32)), .unset] [(.int (0 : Int32)), (.ref o)]) := fun _ k => G2 _ (st3 _ k)
  have G4 : Goes p e below s₁ (entryFrame m #[(.ref o), (.int (0 : Int32))] 3) T3 (mkF m 8 #[.val (.ref o), .val (.int (0 : Int32)), .unset] [(.int (1 : Int32)), (.ref o), (.int (0 : Int32))]) := fun _ k => G3 _ (by
      show Steps p.tables e below (T3.setTop (mkF m 5 #[.val (.ref o), .val (.int (0 : Int32)), .unset] [(.int (0 : Int32)), (.ref o)])) _
      refine XS.dupX1 X3.here hx rfl (hb hby own_d4_5) rfl rfl rfl ?_
      show Steps p.tables e below (T3.setTop (mkF m 6 #[.val (.ref o), .val (.int (0 : Int32)), .unset] [(.int (0 : Int32)), (.ref o), (.int (0 : Int32))])) _
      refine XS.iconst X3.here hx rfl (hb hby own_d4_6) ?_
      show Steps p.tables e below (T3.setTop (mkF m 7 #[.val (.ref o), .val (.int (0 : Int32)), .unset] [(.int (1 : Int32)), (.int (0 : Int32)), (.ref o), (.int (0 : Int32))])) _
      refine XS.iadd X3.here hx rfl (hb hby own_d4_7) rfl ?_
      exact k)
  obtain ⟨T5, h5, X5, e5, W5, st5⟩ := putF X3 hx hZ hown (host := "") (Or.inl (hw _ (List.mem_of_getElem? (i := 22) rfl))) Via.refl e3 F41 E1 (Or.inl (hw _ (List.mem_of_getElem? (i := 23) rfl))) (hw _ (List.mem_of_getElem? (i := 2) rfl)) (ty := .int) (by decide) rfl rfl (g := (mkF m 8 #[.val (.ref o), .val (.int (0 : Int32)), .unset] [(.int (1 : Int32)), (.ref o), (.int (0 : Int32))])) rfl rfl (hb hby own_d4_8)
  have G5 : Goes p e below s₁ (entryFrame m #[(.ref o), (.int (0 : Int32))] 3) T5 (mkF m 11 #[.val (.ref o), .val (.int (0 : Int32)), .unset] [(.int (0 : Int32))]) := fun _ k => G4 _ (st5 _ k)
  have N5 := Fr.snoc X5 N0 go
  have Zn : n0 ≤ h5.size := Nat.le_trans Zn (Nat.le_of_eq W5.size.symm)
  have I5 : Inv Z h5 o r hp pl (1 : Int32) := own_inv_size hw D I0 W5
  have oi6 := I5
  obtain ⟨E6, F16, F26, F36, F46, R6, A6, P6⟩ := oi6
  have G7 : Goes p e below s₁ (entryFrame m #[(.ref o), (.int (0 : Int32))] 3) T5 (mkF m 13 #[.val (.ref o), .val (.int (0 : Int32)), .val (.int (0 : Int32))] [(.ref o)]) := fun _ k => G5 _ (by
      show Steps p.tables e below (T5.setTop (mkF m 11 #[.val (.ref o), .val (.int (0 : Int32)), .unset] [(.int (0 : Int32))])) _
      refine XS.istoreN X5.here hx rfl (hb hby own_d4_11) rfl (l' := #[.val (.ref o), .val (.int (0 : Int32)), .val (.int (0 : Int32))]) rfl ?_
      show Steps p.tables e below (T5.setTop (mkF m 12 #[.val (.ref o), .val (.int (0 : Int32)), .val (.int (0 : Int32))] [])) _
      refine XS.aloadN X5.here hx rfl (hb hby own_d4_12) rfl rfl ?_
      exact k)
  obtain ⟨T8, X8, e8, st8⟩ := getF X5 hx hZ hown (host := "") (Or.inl (hw _ (List.mem_of_getElem? (i := 13) rfl))) Via.refl e5 F26 (g := (mkF m 13 #[.val (.ref o), .val (.int (0 : Int32)), .val (.int (0 : Int32))] [(.ref o)])) rfl rfl (hb hby own_d4_13)
  have G8 : Goes p e below s₁ (entryFrame m #[(.ref o), (.int (0 : Int32))] 3) T8 (mkF m 16 #[.val (.ref o), .val (.int (0 : Int32)), .val (.int (0 : Int32))] [(.ref hp)]) := fun _ k => G7 _ (st8 _ k)
  have G9 : Goes p e below s₁ (entryFrame m #[(.ref o), (.int (0 : Int32))] 3) T8 (mkF m 18 #[.val (.ref o), .val (.int (0 : Int32)), .val (.int (0 : Int32))] [(.int (0 : Int32)), (.int (0 : Int32)), (.ref hp)]) := fun _ k => G8 _ (by
      show Steps p.tables e below (T8.setTop (mkF m 16 #[.val (.ref o), .val (.int (0 : Int32)), .val (.int (0 : Int32))] [(.ref hp)])) _
      refine XS.iloadN X8.here hx rfl (hb hby own_d4_16) rfl ?_
      show Steps p.tables e below (T8.setTop (mkF m 17 #[.val (.ref o), .val (.int (0 : Int32)), .val (.int (0 : Int32))] [(.int (0 : Int32)), (.ref hp)])) _
      refine XS.iloadN X8.here hx rfl (hb hby own_d4_17) rfl ?_
      exact k)
  have vc10 := A6
  obtain ⟨cl10, Ar10, S10, -⟩ := vc10
  have hin10 : ¬ ((0 : Int32) < 0 ∨ cl10.slots.size ≤ ((0 : Int32)).toNatClampNeg) := inb_of S10 ⟨by decide, by decide⟩
  obtain ⟨T11, h11, X11, e11, W11, st11⟩ := stI X8 hx hZ e8 Ar10 (j := (0 : Int32)) hin10 (g := (mkF m 18 #[.val (.ref o), .val (.int (0 : Int32)), .val (.int (0 : Int32))] [(.int (0 : Int32)), (.int (0 : Int32)), (.ref hp)])) rfl rfl (hb hby own_d4_18)
  have G11 : Goes p e below s₁ (entryFrame m #[(.ref o), (.int (0 : Int32))] 3) T11 (mkF m 19 #[.val (.ref o), .val (.int (0 : Int32)), .val (.int (0 : Int32))] []) := fun _ k => G9 _ (st11 _ k)
  have N11 := Fr.snoc X11 N5 ghp
  have Zn : n0 ≤ h11.size := Nat.le_trans Zn (Nat.le_of_eq W11.size.symm)
  have I11 := own_inv_heap D I5 W11 ⟨by decide, by decide⟩
  have oi12 := I11
  obtain ⟨E12, F112, F212, F312, F412, R12, A12, P12⟩ := oi12
  have G13 : Goes p e below s₁ (entryFrame m #[(.ref o), (.int (0 : Int32))] 3) T11 (mkF m 21 #[.val (.ref o), .val (.int (0 : Int32)), .val (.int (0 : Int32))] [(.int (0 : Int32)), (.ref o)]) := fun _ k => G11 _ (by
      show Steps p.tables e below (T11.setTop (mkF m 19 #[.val (.ref o), .val (.int (0 : Int32)), .val (.int (0 : Int32))] [])) _
      refine XS.aloadN X11.here hx rfl (hb hby own_d4_19) rfl rfl ?_
      show Steps p.tables e below (T11.setTop (mkF m 20 #[.val (.ref o), .val (.int (0 : Int32)), .val (.int (0 : Int32))] [(.ref o)])) _
      refine XS.iloadN X11.here hx rfl (hb hby own_d4_20) rfl ?_
      exact k)
  obtain ⟨cq14, q14, q14'⟩ := E12.cell
  obtain ⟨_, _, ⟨T14, L14, k14, n14⟩, -, X14, ⟨Lc14, hQ14, l14, y14, z14⟩, st14⟩ := X11.privateBack hx (y := (⟨"com/example/subterm/subterm/algorithm/IndexedHeap", "moveUp", "(I)V"⟩ : MethodName)) hown (mvT hZ (hw _ (List.mem_of_getElem? (i := 29) rfl))) (mvT hZ (hw _ (List.mem_of_getElem? (i := 30) rfl))) (mvT hZ (own_sel (y := (⟨"com/example/subterm/subterm/algorithm/IndexedHeap", "moveUp", "(I)V"⟩ : MethodName)) (by decide) (hw _ (List.mem_of_getElem? (i := 2) rfl)) (hw _ (List.mem_of_getElem? (i := 31) rfl)) (hw _ (List.mem_of_getElem? (i := 30) rfl)))) (Cond.privateMethod_at (mvP hZ (hw _ (List.mem_of_getElem? (i := 31) rfl)) (args := #[]))) (mvT hZ (hw _ (List.mem_of_getElem? (i := 32) rfl))) (by decide) (backOf (W := 0) (rm5_0 l Z a0 hw [] o r hp pl (1 : Int32) h11 n0 Zn I11 D) hZ (hw _ (List.mem_of_getElem? (i := 32) rfl)) (hw _ (List.mem_of_getElem? (i := 3) rfl)) (by decide) (by decide)) (g := (mkF m 21 #[.val (.ref o), .val (.int (0 : Int32)), .val (.int (0 : Int32))] [(.int (0 : Int32)), (.ref o)])) rfl (by rw [hml]; rfl) (Steps.refl _) (a := o) (by rw [e11]; exact q14) q14' (argsL := [(.int (0 : Int32))]) (rest := []) (lenOf own_pd1 rfl) rfl (by show 2 * 0 + _ ≤ _; exact Nat.le_of_eq rfl) (hb hby own_d4_21) (fun _ _ => ⟨rfl, e11, (by decide : 0 + 0 ≤ _), (by decide : 0 + 0 ≤ _)⟩)
  dsimp only [Pt.U, Pt.locs, Pt.cells, Pt.slots] at X14 l14 y14 z14 st14 hQ14
  subst l14 y14 z14
  obtain ⟨rfl, N14q, Zn, I14⟩ := hQ14
  have N14 := Fr.app N11 N14q
  have G14 : Goes p e below s₁ (entryFrame m #[(.ref o), (.int (0 : Int32))] 3) T14 (mkF m 24 #[.val (.ref o), .val (.int (0 : Int32)), .val (.int (0 : Int32))] []) := fun _ k => G13 _ (st14.trans k)
  obtain ⟨fs, hr, hrun, hended, hW, hsame⟩ := X14.leave (v := none) (fun _ => rfl)
  refine ⟨_, _, G14 _ (X14.returnOut hx Bd.returns (hb hby own_d4_24) hr), hrun, hended, _, _, rfl, ?_, ⟨_, rfl⟩, hW, hsame.mono (by decide) (by decide)⟩
  show QV Z o r hp pl (1 : Int32) n0 _ T14.heap _
  exact ⟨rfl, N14, Zn, I14⟩
set_option maxRecDepth 65536 in
set_option maxHeartbeats 40000000 in
theorem rm4_1 (l : Launch) (Z : State) (a0 : Array Value) (hw : ∀ d ∈ tables_1, d.before a0 Z = true) (ws : List Jvm.Cond) (o r hp pl : Addr) (h0 : Heap) (n0 : Nat) (Z0 : n0 ≤ h0.size) (I0 : Inv Z h0 o r hp pl (1 : Int32)) (D : Dis n0 o r hp pl) :
    MetFree l (⟨"com/example/subterm/subterm/algorithm/IndexedHeap", "add", "(I)V"⟩ : MethodName) (head1 (Jvm.Cond.code (⟨"com/example/subterm/subterm/algorithm/IndexedHeap", "add", "(I)V"⟩ : MethodName) prog_6_method_3_code 3 none :: ws) ({ frames := 2, cells := 0, slots := 0, locals := 32 } : Room)) (fun a U => a = #[(.ref o), (.int (1 : Int32))] ∧ Z.Warmed39 U.vm ∧ U.heap = h0) (fun _ _ _ _ _ => True) (fun _ U oc U' => ∃ v L, oc = .returned v ∧ QV Z o r hp pl (2 : Int32) n0 v U'.heap L ∧ FrameEnd U oc U' L ({ frames := 2, cells := 0, slots := 0, locals := 32 } : Room).cells ({ frames := 2, cells := 0, slots := 0, locals := 32 } : Room).slots) := by
  refine MetFree.of_bodySF (plainFor_of_name own_pn0) hisR ?_
  intro p e s m args below meth c s₁ Bd hml0 hP hK
  obtain ⟨rfl, hZ, hh⟩ := hP
  have hx := Bd.exec
  have hby := Bd.bytes
  have hml : c.maxLocals = 3 := hml0
  have hown : s.vm.findClass "com/example/subterm/subterm/algorithm/IndexedHeap" = some m.cls := findClass_of_methodNamed Bd.named
  have hnm := (name_of_methodNamed Bd.named Bd.method).1
  have X0 : Stand p l e ({ frames := 2, cells := 0, slots := 0, locals := 32 } : Room) s m #[(.ref o), (.int (1 : Int32))] below meth c s₁ [] 0 0 := Stand.of_body Bd
  have e0 : s₁.heap = h0 := by rw [← hh, Bd.state]; rfl
  have N0 := Fr.nil n0
  have G0 : Goes p e below s₁ (entryFrame m #[(.ref o), (.int (1 : Int32))] 3) s₁ (mkF m 0 #[.val (.ref o), .val (.int (1 : Int32)), .unset] []) := fun _ k => castTop (by first | (simp [entryFrame, mkF, argsToLocals, Value.category]; done) | rfl : (entryFrame m #[(.ref o), (.int (1 : Int32))] 3) = mkF m 0 #[.val (.ref o), .val (.int (1 : Int32)), .unset] []) k
  have Zn := Z0
  have D' := D
  obtain ⟨go, ghp, gpl, -⟩ := D'
  have oi1 := I0
  obtain ⟨E1, F11, F21, F31, F41, R1, A1, P1⟩ := oi1
  have G2 : Goes p e below s₁ (entryFrame m #[(.ref o), (.int (1 : Int32))] 3) s₁ (mkF m 2 #[.val (.ref o), .val (.int (1 : Int32)), .unset] [(.ref o), (.ref o)]) := fun _ k => G0 _ (by
      show Steps p.tables e below (s₁.setTop (mkF m 0 #[.val (.ref o), .val (.int (1 : Int32)), .unset] [])) _
      refine XS.aloadN X0.here hx rfl (hb hby own_d4_0) rfl rfl ?_
      show Steps p.tables e below (s₁.setTop (mkF m 1 #[.val (.ref o), .val (.int (1 : Int32)), .unset] [(.ref o)])) _
      refine XS.dup X0.here hx rfl (hb hby own_d4_1) rfl rfl ?_
      exact k)
  obtain ⟨T3, X3, e3, st3⟩ := getF X0 hx hZ hown (host := "") (Or.inl (hw _ (List.mem_of_getElem? (i := 22) rfl))) Via.refl e0 F41 (g := (mkF m 2 #[.val (.ref o), .val (.int (1 : Int32)), .unset] [(.ref o), (.ref o)])) rfl rfl (hb hby own_d4_2)
  have G3 : Goes p e below s₁ (entryFrame m #[(.ref o), (.int (1 : Int32))] 3) T3 (mkF m 5 #[.val (.ref o), .val (.int (1 : Int32)), .unset] [(.int (1 : Int32)), (.ref o)]) := fun _ k => G2 _ (st3 _ k)
  have G4 : Goes p e below s₁ (entryFrame m #[(.ref o), (.int (1 : Int32))] 3) T3 (mkF m 8 #[.val (.ref o), .val (.int (1 : Int32)), .unset] [(.int (2 : Int32)), (.ref o), (.int (1 : Int32))]) := fun _ k => G3 _ (by
      show Steps p.tables e below (T3.setTop (mkF m 5 #[.val (.ref o), .val (.int (1 : Int32)), .unset] [(.int (1 : Int32)), (.ref o)])) _
      refine XS.dupX1 X3.here hx rfl (hb hby own_d4_5) rfl rfl rfl ?_
      show Steps p.tables e below (T3.setTop (mkF m 6 #[.val (.ref o), .val (.int (1 : Int32)), .unset] [(.int (1 : Int32)), (.ref o), (.int (1 : Int32))])) _
      refine XS.iconst X3.here hx rfl (hb hby own_d4_6) ?_
      show Steps p.tables e below (T3.setTop (mkF m 7 #[.val (.ref o), .val (.int (1 : Int32)), .unset] [(.int (1 : Int32)), (.int (1 : Int32)), (.ref o), (.int (1 : Int32))])) _
      refine XS.iadd X3.here hx rfl (hb hby own_d4_7) rfl ?_
      exact k)
  obtain ⟨T5, h5, X5, e5, W5, st5⟩ := putF X3 hx hZ hown (host := "") (Or.inl (hw _ (List.mem_of_getElem? (i := 22) rfl))) Via.refl e3 F41 E1 (Or.inl (hw _ (List.mem_of_getElem? (i := 23) rfl))) (hw _ (List.mem_of_getElem? (i := 2) rfl)) (ty := .int) (by decide) rfl rfl (g := (mkF m 8 #[.val (.ref o), .val (.int (1 : Int32)), .unset] [(.int (2 : Int32)), (.ref o), (.int (1 : Int32))])) rfl rfl (hb hby own_d4_8)
  have G5 : Goes p e below s₁ (entryFrame m #[(.ref o), (.int (1 : Int32))] 3) T5 (mkF m 11 #[.val (.ref o), .val (.int (1 : Int32)), .unset] [(.int (1 : Int32))]) := fun _ k => G4 _ (st5 _ k)
  have N5 := Fr.snoc X5 N0 go
  have Zn : n0 ≤ h5.size := Nat.le_trans Zn (Nat.le_of_eq W5.size.symm)
  have I5 : Inv Z h5 o r hp pl (2 : Int32) := own_inv_size hw D I0 W5
  have oi6 := I5
  obtain ⟨E6, F16, F26, F36, F46, R6, A6, P6⟩ := oi6
  have G7 : Goes p e below s₁ (entryFrame m #[(.ref o), (.int (1 : Int32))] 3) T5 (mkF m 13 #[.val (.ref o), .val (.int (1 : Int32)), .val (.int (1 : Int32))] [(.ref o)]) := fun _ k => G5 _ (by
      show Steps p.tables e below (T5.setTop (mkF m 11 #[.val (.ref o), .val (.int (1 : Int32)), .unset] [(.int (1 : Int32))])) _
      refine XS.istoreN X5.here hx rfl (hb hby own_d4_11) rfl (l' := #[.val (.ref o), .val (.int (1 : Int32)), .val (.int (1 : Int32))]) rfl ?_
      show Steps p.tables e below (T5.setTop (mkF m 12 #[.val (.ref o), .val (.int (1 : Int32)), .val (.int (1 : Int32))] [])) _
      refine XS.aloadN X5.here hx rfl (hb hby own_d4_12) rfl rfl ?_
      exact k)
  obtain ⟨T8, X8, e8, st8⟩ := getF X5 hx hZ hown (host := "") (Or.inl (hw _ (List.mem_of_getElem? (i := 13) rfl))) Via.refl e5 F26 (g := (mkF m 13 #[.val (.ref o), .val (.int (1 : Int32)), .val (.int (1 : Int32))] [(.ref o)])) rfl rfl (hb hby own_d4_13)
  have G8 : Goes p e below s₁ (entryFrame m #[(.ref o), (.int (1 : Int32))] 3) T8 (mkF m 16 #[.val (.ref o), .val (.int (1 : Int32)), .val (.int (1 : Int32))] [(.ref hp)]) := fun _ k => G7 _ (st8 _ k)
  have G9 : Goes p e below s₁ (entryFrame m #[(.ref o), (.int (1 : Int32))] 3) T8 (mkF m 18 #[.val (.ref o), .val (.int (1 : Int32)), .val (.int (1 : Int32))] [(.int (1 : Int32)), (.int (1 : Int32)), (.ref hp)]) := fun _ k => G8 _ (by
      show Steps p.tables e below (T8.setTop (mkF m 16 #[.val (.ref o), .val (.int (1 : Int32)), .val (.int (1 : Int32))] [(.ref hp)])) _
      refine XS.iloadN X8.here hx rfl (hb hby own_d4_16) rfl ?_
      show Steps p.tables e below (T8.setTop (mkF m 17 #[.val (.ref o), .val (.int (1 : Int32)), .val (.int (1 : Int32))] [(.int (1 : Int32)), (.ref hp)])) _
      refine XS.iloadN X8.here hx rfl (hb hby own_d4_17) rfl ?_
      exact k)
  have vc10 := A6
  obtain ⟨cl10, Ar10, S10, -⟩ := vc10
  have hin10 : ¬ ((1 : Int32) < 0 ∨ cl10.slots.size ≤ ((1 : Int32)).toNatClampNeg) := inb_of S10 ⟨by decide, by decide⟩
  obtain ⟨T11, h11, X11, e11, W11, st11⟩ := stI X8 hx hZ e8 Ar10 (j := (1 : Int32)) hin10 (g := (mkF m 18 #[.val (.ref o), .val (.int (1 : Int32)), .val (.int (1 : Int32))] [(.int (1 : Int32)), (.int (1 : Int32)), (.ref hp)])) rfl rfl (hb hby own_d4_18)
  have G11 : Goes p e below s₁ (entryFrame m #[(.ref o), (.int (1 : Int32))] 3) T11 (mkF m 19 #[.val (.ref o), .val (.int (1 : Int32)), .val (.int (1 : Int32))] []) := fun _ k => G9 _ (st11 _ k)
  have N11 := Fr.snoc X11 N5 ghp
  have Zn : n0 ≤ h11.size := Nat.le_trans Zn (Nat.le_of_eq W11.size.symm)
  have I11 := own_inv_heap D I5 W11 ⟨by decide, by decide⟩
  have oi12 := I11
  obtain ⟨E12, F112, F212, F312, F412, R12, A12, P12⟩ := oi12
  have G13 : Goes p e below s₁ (entryFrame m #[(.ref o), (.int (1 : Int32))] 3) T11 (mkF m 21 #[.val (.ref o), .val (.int (1 : Int32)), .val (.int (1 : Int32))] [(.int (1 : Int32)), (.ref o)]) := fun _ k => G11 _ (by
      show Steps p.tables e below (T11.setTop (mkF m 19 #[.val (.ref o), .val (.int (1 : Int32)), .val (.int (1 : Int32))] [])) _
      refine XS.aloadN X11.here hx rfl (hb hby own_d4_19) rfl rfl ?_
      show Steps p.tables e below (T11.setTop (mkF m 20 #[.val (.ref o), .val (.int (1 : Int32)), .val (.int (1 : Int32))] [(.ref o)])) _
      refine XS.iloadN X11.here hx rfl (hb hby own_d4_20) rfl ?_
      exact k)
  obtain ⟨cq14, q14, q14'⟩ := E12.cell
  obtain ⟨_, _, ⟨T14, L14, k14, n14⟩, -, X14, ⟨Lc14, hQ14, l14, y14, z14⟩, st14⟩ := X11.privateBack hx (y := (⟨"com/example/subterm/subterm/algorithm/IndexedHeap", "moveUp", "(I)V"⟩ : MethodName)) hown (mvT hZ (hw _ (List.mem_of_getElem? (i := 29) rfl))) (mvT hZ (hw _ (List.mem_of_getElem? (i := 30) rfl))) (mvT hZ (own_sel (y := (⟨"com/example/subterm/subterm/algorithm/IndexedHeap", "moveUp", "(I)V"⟩ : MethodName)) (by decide) (hw _ (List.mem_of_getElem? (i := 2) rfl)) (hw _ (List.mem_of_getElem? (i := 31) rfl)) (hw _ (List.mem_of_getElem? (i := 30) rfl)))) (Cond.privateMethod_at (mvP hZ (hw _ (List.mem_of_getElem? (i := 31) rfl)) (args := #[]))) (mvT hZ (hw _ (List.mem_of_getElem? (i := 32) rfl))) (by decide) (backOf (W := 0) (rm5_1 l Z a0 hw [] o r hp pl (2 : Int32) h11 n0 Zn I11 D) hZ (hw _ (List.mem_of_getElem? (i := 32) rfl)) (hw _ (List.mem_of_getElem? (i := 3) rfl)) (by decide) (by decide)) (g := (mkF m 21 #[.val (.ref o), .val (.int (1 : Int32)), .val (.int (1 : Int32))] [(.int (1 : Int32)), (.ref o)])) rfl (by rw [hml]; rfl) (Steps.refl _) (a := o) (by rw [e11]; exact q14) q14' (argsL := [(.int (1 : Int32))]) (rest := []) (lenOf own_pd1 rfl) rfl (by show 2 * 0 + _ ≤ _; exact Nat.le_of_eq rfl) (hb hby own_d4_21) (fun _ _ => ⟨rfl, e11, (by decide : 0 + 0 ≤ _), (by decide : 0 + 0 ≤ _)⟩)
  dsimp only [Pt.U, Pt.locs, Pt.cells, Pt.slots] at X14 l14 y14 z14 st14 hQ14
  subst l14 y14 z14
  obtain ⟨rfl, N14q, Zn, I14⟩ := hQ14
  have N14 := Fr.app N11 N14q
  have G14 : Goes p e below s₁ (entryFrame m #[(.ref o), (.int (1 : Int32))] 3) T14 (mkF m 24 #[.val (.ref o), .val (.int (1 : Int32)), .val (.int (1 : Int32))] []) := fun _ k => G13 _ (st14.trans k)
  obtain ⟨fs, hr, hrun, hended, hW, hsame⟩ := X14.leave (v := none) (fun _ => rfl)
  refine ⟨_, _, G14 _ (X14.returnOut hx Bd.returns (hb hby own_d4_24) hr), hrun, hended, _, _, rfl, ?_, ⟨_, rfl⟩, hW, hsame.mono (by decide) (by decide)⟩
  show QV Z o r hp pl (2 : Int32) n0 _ T14.heap _
  exact ⟨rfl, N14, Zn, I14⟩
set_option maxRecDepth 65536 in
set_option maxHeartbeats 40000000 in
theorem rm4_2 (l : Launch) (Z : State) (a0 : Array Value) (hw : ∀ d ∈ tables_1, d.before a0 Z = true) (ws : List Jvm.Cond) (o r hp pl : Addr) (h0 : Heap) (n0 : Nat) (Z0 : n0 ≤ h0.size) (I0 : Inv Z h0 o r hp pl (2 : Int32)) (D : Dis n0 o r hp pl) :
    MetFree l (⟨"com/example/subterm/subterm/algorithm/IndexedHeap", "add", "(I)V"⟩ : MethodName) (head1 (Jvm.Cond.code (⟨"com/example/subterm/subterm/algorithm/IndexedHeap", "add", "(I)V"⟩ : MethodName) prog_6_method_3_code 3 none :: ws) ({ frames := 2, cells := 0, slots := 0, locals := 32 } : Room)) (fun a U => a = #[(.ref o), (.int (2 : Int32))] ∧ Z.Warmed39 U.vm ∧ U.heap = h0) (fun _ _ _ _ _ => True) (fun _ U oc U' => ∃ v L, oc = .returned v ∧ QV Z o r hp pl (3 : Int32) n0 v U'.heap L ∧ FrameEnd U oc U' L ({ frames := 2, cells := 0, slots := 0, locals := 32 } : Room).cells ({ frames := 2, cells := 0, slots := 0, locals := 32 } : Room).slots) := by
  refine MetFree.of_bodySF (plainFor_of_name own_pn0) hisR ?_
  intro p e s m args below meth c s₁ Bd hml0 hP hK
  obtain ⟨rfl, hZ, hh⟩ := hP
  have hx := Bd.exec
  have hby := Bd.bytes
  have hml : c.maxLocals = 3 := hml0
  have hown : s.vm.findClass "com/example/subterm/subterm/algorithm/IndexedHeap" = some m.cls := findClass_of_methodNamed Bd.named
  have hnm := (name_of_methodNamed Bd.named Bd.method).1
  have X0 : Stand p l e ({ frames := 2, cells := 0, slots := 0, locals := 32 } : Room) s m #[(.ref o), (.int (2 : Int32))] below meth c s₁ [] 0 0 := Stand.of_body Bd
  have e0 : s₁.heap = h0 := by rw [← hh, Bd.state]; rfl
  have N0 := Fr.nil n0
  have G0 : Goes p e below s₁ (entryFrame m #[(.ref o), (.int (2 : Int32))] 3) s₁ (mkF m 0 #[.val (.ref o), .val (.int (2 : Int32)), .unset] []) := fun _ k => castTop (by first | (simp [entryFrame, mkF, argsToLocals, Value.category]; done) | rfl : (entryFrame m #[(.ref o), (.int (2 : Int32))] 3) = mkF m 0 #[.val (.ref o), .val (.int (2 : Int32)), .unset] []) k
  have Zn := Z0
  have D' := D
  obtain ⟨go, ghp, gpl, -⟩ := D'
  have oi1 := I0
  obtain ⟨E1, F11, F21, F31, F41, R1, A1, P1⟩ := oi1
  have G2 : Goes p e below s₁ (entryFrame m #[(.ref o), (.int (2 : Int32))] 3) s₁ (mkF m 2 #[.val (.ref o), .val (.int (2 : Int32)), .unset] [(.ref o), (.ref o)]) := fun _ k => G0 _ (by
      show Steps p.tables e below (s₁.setTop (mkF m 0 #[.val (.ref o), .val (.int (2 : Int32)), .unset] [])) _
      refine XS.aloadN X0.here hx rfl (hb hby own_d4_0) rfl rfl ?_
      show Steps p.tables e below (s₁.setTop (mkF m 1 #[.val (.ref o), .val (.int (2 : Int32)), .unset] [(.ref o)])) _
      refine XS.dup X0.here hx rfl (hb hby own_d4_1) rfl rfl ?_
      exact k)
  obtain ⟨T3, X3, e3, st3⟩ := getF X0 hx hZ hown (host := "") (Or.inl (hw _ (List.mem_of_getElem? (i := 22) rfl))) Via.refl e0 F41 (g := (mkF m 2 #[.val (.ref o), .val (.int (2 : Int32)), .unset] [(.ref o), (.ref o)])) rfl rfl (hb hby own_d4_2)
  have G3 : Goes p e below s₁ (entryFrame m #[(.ref o), (.int (2 : Int32))] 3) T3 (mkF m 5 #[.val (.ref o), .val (.int (2 : Int32)), .unset] [(.int (2 : Int32)), (.ref o)]) := fun _ k => G2 _ (st3 _ k)
  have G4 : Goes p e below s₁ (entryFrame m #[(.ref o), (.int (2 : Int32))] 3) T3 (mkF m 8 #[.val (.ref o), .val (.int (2 : Int32)), .unset] [(.int (3 : Int32)), (.ref o), (.int (2 : Int32))]) := fun _ k => G3 _ (by
      show Steps p.tables e below (T3.setTop (mkF m 5 #[.val (.ref o), .val (.int (2 : Int32)), .unset] [(.int (2 : Int32)), (.ref o)])) _
      refine XS.dupX1 X3.here hx rfl (hb hby own_d4_5) rfl rfl rfl ?_
      show Steps p.tables e below (T3.setTop (mkF m 6 #[.val (.ref o), .val (.int (2 : Int32)), .unset] [(.int (2 : Int32)), (.ref o), (.int (2 : Int32))])) _
      refine XS.iconst X3.here hx rfl (hb hby own_d4_6) ?_
      show Steps p.tables e below (T3.setTop (mkF m 7 #[.val (.ref o), .val (.int (2 : Int32)), .unset] [(.int (1 : Int32)), (.int (2 : Int32)), (.ref o), (.int (2 : Int32))])) _
      refine XS.iadd X3.here hx rfl (hb hby own_d4_7) rfl ?_
      exact k)
  obtain ⟨T5, h5, X5, e5, W5, st5⟩ := putF X3 hx hZ hown (host := "") (Or.inl (hw _ (List.mem_of_getElem? (i := 22) rfl))) Via.refl e3 F41 E1 (Or.inl (hw _ (List.mem_of_getElem? (i := 23) rfl))) (hw _ (List.mem_of_getElem? (i := 2) rfl)) (ty := .int) (by decide) rfl rfl (g := (mkF m 8 #[.val (.ref o), .val (.int (2 : Int32)), .unset] [(.int (3 : Int32)), (.ref o), (.int (2 : Int32))])) rfl rfl (hb hby own_d4_8)
  have G5 : Goes p e below s₁ (entryFrame m #[(.ref o), (.int (2 : Int32))] 3) T5 (mkF m 11 #[.val (.ref o), .val (.int (2 : Int32)), .unset] [(.int (2 : Int32))]) := fun _ k => G4 _ (st5 _ k)
  have N5 := Fr.snoc X5 N0 go
  have Zn : n0 ≤ h5.size := Nat.le_trans Zn (Nat.le_of_eq W5.size.symm)
  have I5 : Inv Z h5 o r hp pl (3 : Int32) := own_inv_size hw D I0 W5
  have oi6 := I5
  obtain ⟨E6, F16, F26, F36, F46, R6, A6, P6⟩ := oi6
  have G7 : Goes p e below s₁ (entryFrame m #[(.ref o), (.int (2 : Int32))] 3) T5 (mkF m 13 #[.val (.ref o), .val (.int (2 : Int32)), .val (.int (2 : Int32))] [(.ref o)]) := fun _ k => G5 _ (by
      show Steps p.tables e below (T5.setTop (mkF m 11 #[.val (.ref o), .val (.int (2 : Int32)), .unset] [(.int (2 : Int32))])) _
      refine XS.istoreN X5.here hx rfl (hb hby own_d4_11) rfl (l' := #[.val (.ref o), .val (.int (2 : Int32)), .val (.int (2 : Int32))]) rfl ?_
      show Steps p.tables e below (T5.setTop (mkF m 12 #[.val (.ref o), .val (.int (2 : Int32)), .val (.int (2 : Int32))] [])) _
      refine XS.aloadN X5.here hx rfl (hb hby own_d4_12) rfl rfl ?_
      exact k)
  obtain ⟨T8, X8, e8, st8⟩ := getF X5 hx hZ hown (host := "") (Or.inl (hw _ (List.mem_of_getElem? (i := 13) rfl))) Via.refl e5 F26 (g := (mkF m 13 #[.val (.ref o), .val (.int (2 : Int32)), .val (.int (2 : Int32))] [(.ref o)])) rfl rfl (hb hby own_d4_13)
  have G8 : Goes p e below s₁ (entryFrame m #[(.ref o), (.int (2 : Int32))] 3) T8 (mkF m 16 #[.val (.ref o), .val (.int (2 : Int32)), .val (.int (2 : Int32))] [(.ref hp)]) := fun _ k => G7 _ (st8 _ k)
  have G9 : Goes p e below s₁ (entryFrame m #[(.ref o), (.int (2 : Int32))] 3) T8 (mkF m 18 #[.val (.ref o), .val (.int (2 : Int32)), .val (.int (2 : Int32))] [(.int (2 : Int32)), (.int (2 : Int32)), (.ref hp)]) := fun _ k => G8 _ (by
      show Steps p.tables e below (T8.setTop (mkF m 16 #[.val (.ref o), .val (.int (2 : Int32)), .val (.int (2 : Int32))] [(.ref hp)])) _
      refine XS.iloadN X8.here hx rfl (hb hby own_d4_16) rfl ?_
      show Steps p.tables e below (T8.setTop (mkF m 17 #[.val (.ref o), .val (.int (2 : Int32)), .val (.int (2 : Int32))] [(.int (2 : Int32)), (.ref hp)])) _
      refine XS.iloadN X8.here hx rfl (hb hby own_d4_17) rfl ?_
      exact k)
  have vc10 := A6
  obtain ⟨cl10, Ar10, S10, -⟩ := vc10
  have hin10 : ¬ ((2 : Int32) < 0 ∨ cl10.slots.size ≤ ((2 : Int32)).toNatClampNeg) := inb_of S10 ⟨by decide, by decide⟩
  obtain ⟨T11, h11, X11, e11, W11, st11⟩ := stI X8 hx hZ e8 Ar10 (j := (2 : Int32)) hin10 (g := (mkF m 18 #[.val (.ref o), .val (.int (2 : Int32)), .val (.int (2 : Int32))] [(.int (2 : Int32)), (.int (2 : Int32)), (.ref hp)])) rfl rfl (hb hby own_d4_18)
  have G11 : Goes p e below s₁ (entryFrame m #[(.ref o), (.int (2 : Int32))] 3) T11 (mkF m 19 #[.val (.ref o), .val (.int (2 : Int32)), .val (.int (2 : Int32))] []) := fun _ k => G9 _ (st11 _ k)
  have N11 := Fr.snoc X11 N5 ghp
  have Zn : n0 ≤ h11.size := Nat.le_trans Zn (Nat.le_of_eq W11.size.symm)
  have I11 := own_inv_heap D I5 W11 ⟨by decide, by decide⟩
  have oi12 := I11
  obtain ⟨E12, F112, F212, F312, F412, R12, A12, P12⟩ := oi12
  have G13 : Goes p e below s₁ (entryFrame m #[(.ref o), (.int (2 : Int32))] 3) T11 (mkF m 21 #[.val (.ref o), .val (.int (2 : Int32)), .val (.int (2 : Int32))] [(.int (2 : Int32)), (.ref o)]) := fun _ k => G11 _ (by
      show Steps p.tables e below (T11.setTop (mkF m 19 #[.val (.ref o), .val (.int (2 : Int32)), .val (.int (2 : Int32))] [])) _
      refine XS.aloadN X11.here hx rfl (hb hby own_d4_19) rfl rfl ?_
      show Steps p.tables e below (T11.setTop (mkF m 20 #[.val (.ref o), .val (.int (2 : Int32)), .val (.int (2 : Int32))] [(.ref o)])) _
      refine XS.iloadN X11.here hx rfl (hb hby own_d4_20) rfl ?_
      exact k)
  obtain ⟨cq14, q14, q14'⟩ := E12.cell
  obtain ⟨_, _, ⟨T14, L14, k14, n14⟩, -, X14, ⟨Lc14, hQ14, l14, y14, z14⟩, st14⟩ := X11.privateBack hx (y := (⟨"com/example/subterm/subterm/algorithm/IndexedHeap", "moveUp", "(I)V"⟩ : MethodName)) hown (mvT hZ (hw _ (List.mem_of_getElem? (i := 29) rfl))) (mvT hZ (hw _ (List.mem_of_getElem? (i := 30) rfl))) (mvT hZ (own_sel (y := (⟨"com/example/subterm/subterm/algorithm/IndexedHeap", "moveUp", "(I)V"⟩ : MethodName)) (by decide) (hw _ (List.mem_of_getElem? (i := 2) rfl)) (hw _ (List.mem_of_getElem? (i := 31) rfl)) (hw _ (List.mem_of_getElem? (i := 30) rfl)))) (Cond.privateMethod_at (mvP hZ (hw _ (List.mem_of_getElem? (i := 31) rfl)) (args := #[]))) (mvT hZ (hw _ (List.mem_of_getElem? (i := 32) rfl))) (by decide) (backOf (W := 0) (rm5_2 l Z a0 hw [] o r hp pl (3 : Int32) h11 n0 Zn I11 D) hZ (hw _ (List.mem_of_getElem? (i := 32) rfl)) (hw _ (List.mem_of_getElem? (i := 3) rfl)) (by decide) (by decide)) (g := (mkF m 21 #[.val (.ref o), .val (.int (2 : Int32)), .val (.int (2 : Int32))] [(.int (2 : Int32)), (.ref o)])) rfl (by rw [hml]; rfl) (Steps.refl _) (a := o) (by rw [e11]; exact q14) q14' (argsL := [(.int (2 : Int32))]) (rest := []) (lenOf own_pd1 rfl) rfl (by show 2 * 0 + _ ≤ _; exact Nat.le_of_eq rfl) (hb hby own_d4_21) (fun _ _ => ⟨rfl, e11, (by decide : 0 + 0 ≤ _), (by decide : 0 + 0 ≤ _)⟩)
  dsimp only [Pt.U, Pt.locs, Pt.cells, Pt.slots] at X14 l14 y14 z14 st14 hQ14
  subst l14 y14 z14
  obtain ⟨rfl, N14q, Zn, I14⟩ := hQ14
  have N14 := Fr.app N11 N14q
  have G14 : Goes p e below s₁ (entryFrame m #[(.ref o), (.int (2 : Int32))] 3) T14 (mkF m 24 #[.val (.ref o), .val (.int (2 : Int32)), .val (.int (2 : Int32))] []) := fun _ k => G13 _ (st14.trans k)
  obtain ⟨fs, hr, hrun, hended, hW, hsame⟩ := X14.leave (v := none) (fun _ => rfl)
  refine ⟨_, _, G14 _ (X14.returnOut hx Bd.returns (hb hby own_d4_24) hr), hrun, hended, _, _, rfl, ?_, ⟨_, rfl⟩, hW, hsame.mono (by decide) (by decide)⟩
  show QV Z o r hp pl (3 : Int32) n0 _ T14.heap _
  exact ⟨rfl, N14, Zn, I14⟩
theorem own_d7_0 : decode prog_6_method_5_code 0 = .ok (.aload_n 0, 1) := by decide +kernel
theorem own_d7_1 : decode prog_6_method_5_code 1 = .ok (.getfield 13, 3) := by decide +kernel
theorem own_d7_4 : decode prog_6_method_5_code 4 = .ok (.iconst 0, 1) := by decide +kernel
theorem own_d7_5 : decode prog_6_method_5_code 5 = .ok (.iaload, 1) := by decide +kernel
theorem own_d7_6 : decode prog_6_method_5_code 6 = .ok (.istore_n 1, 1) := by decide +kernel
theorem own_d7_7 : decode prog_6_method_5_code 7 = .ok (.aload_n 0, 1) := by decide +kernel
theorem own_d7_8 : decode prog_6_method_5_code 8 = .ok (.dup, 1) := by decide +kernel
theorem own_d7_9 : decode prog_6_method_5_code 9 = .ok (.getfield 20, 3) := by decide +kernel
theorem own_d7_12 : decode prog_6_method_5_code 12 = .ok (.iconst 1, 1) := by decide +kernel
theorem own_d7_13 : decode prog_6_method_5_code 13 = .ok (.isub, 1) := by decide +kernel
theorem own_d7_14 : decode prog_6_method_5_code 14 = .ok (.putfield 20, 3) := by decide +kernel
theorem own_d7_17 : decode prog_6_method_5_code 17 = .ok (.aload_n 0, 1) := by decide +kernel
theorem own_d7_18 : decode prog_6_method_5_code 18 = .ok (.getfield 20, 3) := by decide +kernel
theorem own_d7_21 : decode prog_6_method_5_code 21 = .ok (.ifCond .le 23, 3) := by decide +kernel
theorem own_d7_44 : decode prog_6_method_5_code 44 = .ok (.iload_n 1, 1) := by decide +kernel
theorem own_d7_45 : decode prog_6_method_5_code 45 = .ok (.ireturn, 1) := by decide +kernel
set_option maxRecDepth 65536 in
set_option maxHeartbeats 40000000 in
theorem rm7_1 (l : Launch) (Z : State) (a0 : Array Value) (hw : ∀ d ∈ tables_1, d.before a0 Z = true) (ws : List Jvm.Cond) (o r hp pl : Addr) (h0 : Heap) (n0 : Nat) (Z0 : n0 ≤ h0.size) (I0 : Inv Z h0 o r hp pl (1 : Int32)) (D : Dis n0 o r hp pl) :
    MetFree l (⟨"com/example/subterm/subterm/algorithm/IndexedHeap", "removeFirst", "()I"⟩ : MethodName) (head1 (Jvm.Cond.code (⟨"com/example/subterm/subterm/algorithm/IndexedHeap", "removeFirst", "()I"⟩ : MethodName) prog_6_method_5_code 2 (some .int) :: ws) ({ frames := 2, cells := 0, slots := 0, locals := 32 } : Room)) (fun a U => a = #[(.ref o)] ∧ Z.Warmed39 U.vm ∧ U.heap = h0) (fun _ _ _ _ _ => True) (fun _ U oc U' => ∃ v L, oc = .returned v ∧ QI Z o r hp pl (0 : Int32) n0 v U'.heap L ∧ FrameEnd U oc U' L ({ frames := 2, cells := 0, slots := 0, locals := 32 } : Room).cells ({ frames := 2, cells := 0, slots := 0, locals := 32 } : Room).slots) := by
  refine MetFree.of_bodySF (plainFor_of_name own_pn0) hisR ?_
  intro p e s m args below meth c s₁ Bd hml0 hP hK
  obtain ⟨rfl, hZ, hh⟩ := hP
  have hx := Bd.exec
  have hby := Bd.bytes
  have hml : c.maxLocals = 2 := hml0
  have hown : s.vm.findClass "com/example/subterm/subterm/algorithm/IndexedHeap" = some m.cls := findClass_of_methodNamed Bd.named
  have hnm := (name_of_methodNamed Bd.named Bd.method).1
  have X0 : Stand p l e ({ frames := 2, cells := 0, slots := 0, locals := 32 } : Room) s m #[(.ref o)] below meth c s₁ [] 0 0 := Stand.of_body Bd
  have e0 : s₁.heap = h0 := by rw [← hh, Bd.state]; rfl
  have N0 := Fr.nil n0
  have G0 : Goes p e below s₁ (entryFrame m #[(.ref o)] 2) s₁ (mkF m 0 #[.val (.ref o), .unset] []) := fun _ k => castTop (by first | (simp [entryFrame, mkF, argsToLocals, Value.category]; done) | rfl : (entryFrame m #[(.ref o)] 2) = mkF m 0 #[.val (.ref o), .unset] []) k
  have Zn := Z0
  have D' := D
  obtain ⟨go, ghp, gpl, -⟩ := D'
  have oi1 := I0
  obtain ⟨E1, F11, F21, F31, F41, R1, A1, P1⟩ := oi1
  have G2 : Goes p e below s₁ (entryFrame m #[(.ref o)] 2) s₁ (mkF m 1 #[.val (.ref o), .unset] [(.ref o)]) := fun _ k => G0 _ (by
      show Steps p.tables e below (s₁.setTop (mkF m 0 #[.val (.ref o), .unset] [])) _
      refine XS.aloadN X0.here hx rfl (hb hby own_d7_0) rfl rfl ?_
      exact k)
  obtain ⟨T3, X3, e3, st3⟩ := getF X0 hx hZ hown (host := "") (Or.inl (hw _ (List.mem_of_getElem? (i := 13) rfl))) Via.refl e0 F21 (g := (mkF m 1 #[.val (.ref o), .unset] [(.ref o)])) rfl rfl (hb hby own_d7_1)
  have G3 : Goes p e below s₁ (entryFrame m #[(.ref o)] 2) T3 (mkF m 4 #[.val (.ref o), .unset] [(.ref hp)]) := fun _ k => G2 _ (st3 _ k)
  have G4 : Goes p e below s₁ (entryFrame m #[(.ref o)] 2) T3 (mkF m 5 #[.val (.ref o), .unset] [(.int (0 : Int32)), (.ref hp)]) := fun _ k => G3 _ (by
      show Steps p.tables e below (T3.setTop (mkF m 4 #[.val (.ref o), .unset] [(.ref hp)])) _
      refine XS.iconst X3.here hx rfl (hb hby own_d7_4) ?_
      exact k)
  have vc5 := A1
  obtain ⟨cl5, Ar5, S5, H5⟩ := vc5
  have hin5 : ¬ ((0 : Int32) < 0 ∨ cl5.slots.size ≤ ((0 : Int32)).toNatClampNeg) := inb_of S5 ⟨by decide, by decide⟩
  obtain ⟨x5, hat5, hx5⟩ := H5 _ (own_k S5 hin5)
  have G6 : Goes p e below s₁ (entryFrame m #[(.ref o)] 2) T3 (mkF m 6 #[.val (.ref o), .unset] [(.int x5)]) := fun _ k => G4 _ (by
      show Steps p.tables e below (T3.setTop (mkF m 5 #[.val (.ref o), .unset] [(.int (0 : Int32)), (.ref hp)])) _
      refine X3.iaload hx (j := (0 : Int32)) (v := (.int x5)) (by rw [e3]; exact Ar5.1) (State.isArrayOf_alike hZ.alike Ar5.2.1) Ar5.2.2 hin5 hat5 (g := (mkF m 5 #[.val (.ref o), .unset] [(.int (0 : Int32)), (.ref hp)])) rfl rfl (hb hby own_d7_5) _ ?_
      exact k)
  have G7 : Goes p e below s₁ (entryFrame m #[(.ref o)] 2) T3 (mkF m 9 #[.val (.ref o), .val (.int x5)] [(.ref o), (.ref o)]) := fun _ k => G6 _ (by
      show Steps p.tables e below (T3.setTop (mkF m 6 #[.val (.ref o), .unset] [(.int x5)])) _
      refine XS.istoreN X3.here hx rfl (hb hby own_d7_6) rfl (l' := #[.val (.ref o), .val (.int x5)]) rfl ?_
      show Steps p.tables e below (T3.setTop (mkF m 7 #[.val (.ref o), .val (.int x5)] [])) _
      refine XS.aloadN X3.here hx rfl (hb hby own_d7_7) rfl rfl ?_
      show Steps p.tables e below (T3.setTop (mkF m 8 #[.val (.ref o), .val (.int x5)] [(.ref o)])) _
      refine XS.dup X3.here hx rfl (hb hby own_d7_8) rfl rfl ?_
      exact k)
  obtain ⟨T8, X8, e8, st8⟩ := getF X3 hx hZ hown (host := "") (Or.inl (hw _ (List.mem_of_getElem? (i := 22) rfl))) Via.refl e3 F41 (g := (mkF m 9 #[.val (.ref o), .val (.int x5)] [(.ref o), (.ref o)])) rfl rfl (hb hby own_d7_9)
  have G8 : Goes p e below s₁ (entryFrame m #[(.ref o)] 2) T8 (mkF m 12 #[.val (.ref o), .val (.int x5)] [(.int (1 : Int32)), (.ref o)]) := fun _ k => G7 _ (st8 _ k)
  have G9 : Goes p e below s₁ (entryFrame m #[(.ref o)] 2) T8 (mkF m 14 #[.val (.ref o), .val (.int x5)] [(.int (0 : Int32)), (.ref o)]) := fun _ k => G8 _ (by
      show Steps p.tables e below (T8.setTop (mkF m 12 #[.val (.ref o), .val (.int x5)] [(.int (1 : Int32)), (.ref o)])) _
      refine XS.iconst X8.here hx rfl (hb hby own_d7_12) ?_
      show Steps p.tables e below (T8.setTop (mkF m 13 #[.val (.ref o), .val (.int x5)] [(.int (1 : Int32)), (.int (1 : Int32)), (.ref o)])) _
      refine XS.isub X8.here hx rfl (hb hby own_d7_13) rfl ?_
      exact k)
  obtain ⟨T10, h10, X10, e10, W10, st10⟩ := putF X8 hx hZ hown (host := "") (Or.inl (hw _ (List.mem_of_getElem? (i := 22) rfl))) Via.refl e8 F41 E1 (Or.inl (hw _ (List.mem_of_getElem? (i := 23) rfl))) (hw _ (List.mem_of_getElem? (i := 2) rfl)) (ty := .int) (by decide) rfl rfl (g := (mkF m 14 #[.val (.ref o), .val (.int x5)] [(.int (0 : Int32)), (.ref o)])) rfl rfl (hb hby own_d7_14)
  have G10 : Goes p e below s₁ (entryFrame m #[(.ref o)] 2) T10 (mkF m 17 #[.val (.ref o), .val (.int x5)] []) := fun _ k => G9 _ (st10 _ k)
  have N10 := Fr.snoc X10 N0 go
  have Zn : n0 ≤ h10.size := Nat.le_trans Zn (Nat.le_of_eq W10.size.symm)
  have I10 : Inv Z h10 o r hp pl (0 : Int32) := own_inv_size hw D I0 W10
  have oi11 := I10
  obtain ⟨E11, F111, F211, F311, F411, R11, A11, P11⟩ := oi11
  have G12 : Goes p e below s₁ (entryFrame m #[(.ref o)] 2) T10 (mkF m 18 #[.val (.ref o), .val (.int x5)] [(.ref o)]) := fun _ k => G10 _ (by
      show Steps p.tables e below (T10.setTop (mkF m 17 #[.val (.ref o), .val (.int x5)] [])) _
      refine XS.aloadN X10.here hx rfl (hb hby own_d7_17) rfl rfl ?_
      exact k)
  obtain ⟨T13, X13, e13, st13⟩ := getF X10 hx hZ hown (host := "") (Or.inl (hw _ (List.mem_of_getElem? (i := 22) rfl))) Via.refl e10 F411 (g := (mkF m 18 #[.val (.ref o), .val (.int x5)] [(.ref o)])) rfl rfl (hb hby own_d7_18)
  have G13 : Goes p e below s₁ (entryFrame m #[(.ref o)] 2) T13 (mkF m 21 #[.val (.ref o), .val (.int x5)] [(.int (0 : Int32))]) := fun _ k => G12 _ (st13 _ k)
  have G14 : Goes p e below s₁ (entryFrame m #[(.ref o)] 2) T13 (mkF m 44 #[.val (.ref o), .val (.int x5)] []) := fun _ k => G13 _ (by
      show Steps p.tables e below (T13.setTop (mkF m 21 #[.val (.ref o), .val (.int x5)] [(.int (0 : Int32))])) _
      refine XS.ifYes X13.here hx rfl (pc0 := 21) (pc' := 44) rfl (hb hby own_d7_21) rfl ((if0 _ _).trans (flt (by decide : ¬ ((0 : Int32) < (0 : Int32)))).2.2.2) (by decide) (by decide) ?_
      exact k)
  have G15 : Goes p e below s₁ (entryFrame m #[(.ref o)] 2) T13 (mkF m 45 #[.val (.ref o), .val (.int x5)] [(.int x5)]) := fun _ k => G14 _ (by
      show Steps p.tables e below (T13.setTop (mkF m 44 #[.val (.ref o), .val (.int x5)] [])) _
      refine XS.iloadN X13.here hx rfl (hb hby own_d7_44) rfl ?_
      exact k)
  obtain ⟨fs, hr, hrun, hended, hW, hsame⟩ := X13.leave (v := some (.int x5)) (fun h => by rw [Bd.returns] at h; cases h)
  refine ⟨_, _, G15 _ (retI X13 hx Bd.returns (hb hby own_d7_45) hr), hrun, hended, _, _, rfl, ?_, ⟨_, rfl⟩, hW, hsame.mono (by decide) (by decide)⟩
  show QI Z o r hp pl (0 : Int32) n0 _ T13.heap _
  rw [e13]
  exact ⟨_, rfl, N10, Zn, I10⟩
theorem own_d7_24 : decode prog_6_method_5_code 24 = .ok (.aload_n 0, 1) := by decide +kernel
theorem own_d7_25 : decode prog_6_method_5_code 25 = .ok (.getfield 13, 3) := by decide +kernel
theorem own_d7_28 : decode prog_6_method_5_code 28 = .ok (.iconst 0, 1) := by decide +kernel
theorem own_d7_29 : decode prog_6_method_5_code 29 = .ok (.aload_n 0, 1) := by decide +kernel
theorem own_d7_30 : decode prog_6_method_5_code 30 = .ok (.getfield 13, 3) := by decide +kernel
theorem own_d7_33 : decode prog_6_method_5_code 33 = .ok (.aload_n 0, 1) := by decide +kernel
theorem own_d7_34 : decode prog_6_method_5_code 34 = .ok (.getfield 20, 3) := by decide +kernel
theorem own_d7_37 : decode prog_6_method_5_code 37 = .ok (.iaload, 1) := by decide +kernel
theorem own_d7_38 : decode prog_6_method_5_code 38 = .ok (.iastore, 1) := by decide +kernel
theorem own_d7_39 : decode prog_6_method_5_code 39 = .ok (.aload_n 0, 1) := by decide +kernel
theorem own_d7_40 : decode prog_6_method_5_code 40 = .ok (.iconst 0, 1) := by decide +kernel
theorem own_d7_41 : decode prog_6_method_5_code 41 = .ok (.invokevirtual 28, 3) := by decide +kernel
set_option maxRecDepth 65536 in
set_option maxHeartbeats 40000000 in
theorem rm7_2 (l : Launch) (Z : State) (a0 : Array Value) (hw : ∀ d ∈ tables_1, d.before a0 Z = true) (ws : List Jvm.Cond) (o r hp pl : Addr) (h0 : Heap) (n0 : Nat) (Z0 : n0 ≤ h0.size) (I0 : Inv Z h0 o r hp pl (2 : Int32)) (D : Dis n0 o r hp pl) :
    MetFree l (⟨"com/example/subterm/subterm/algorithm/IndexedHeap", "removeFirst", "()I"⟩ : MethodName) (head1 (Jvm.Cond.code (⟨"com/example/subterm/subterm/algorithm/IndexedHeap", "removeFirst", "()I"⟩ : MethodName) prog_6_method_5_code 2 (some .int) :: ws) ({ frames := 2, cells := 0, slots := 0, locals := 32 } : Room)) (fun a U => a = #[(.ref o)] ∧ Z.Warmed39 U.vm ∧ U.heap = h0) (fun _ _ _ _ _ => True) (fun _ U oc U' => ∃ v L, oc = .returned v ∧ QI Z o r hp pl (1 : Int32) n0 v U'.heap L ∧ FrameEnd U oc U' L ({ frames := 2, cells := 0, slots := 0, locals := 32 } : Room).cells ({ frames := 2, cells := 0, slots := 0, locals := 32 } : Room).slots) := by
  refine MetFree.of_bodySF (plainFor_of_name own_pn0) hisR ?_
  intro p e s m args below meth c s₁ Bd hml0 hP hK
  obtain ⟨rfl, hZ, hh⟩ := hP
  have hx := Bd.exec
  have hby := Bd.bytes
  have hml : c.maxLocals = 2 := hml0
  have hown : s.vm.findClass "com/example/subterm/subterm/algorithm/IndexedHeap" = some m.cls := findClass_of_methodNamed Bd.named
  have hnm := (name_of_methodNamed Bd.named Bd.method).1
  have X0 : Stand p l e ({ frames := 2, cells := 0, slots := 0, locals := 32 } : Room) s m #[(.ref o)] below meth c s₁ [] 0 0 := Stand.of_body Bd
  have e0 : s₁.heap = h0 := by rw [← hh, Bd.state]; rfl
  have N0 := Fr.nil n0
  have G0 : Goes p e below s₁ (entryFrame m #[(.ref o)] 2) s₁ (mkF m 0 #[.val (.ref o), .unset] []) := fun _ k => castTop (by first | (simp [entryFrame, mkF, argsToLocals, Value.category]; done) | rfl : (entryFrame m #[(.ref o)] 2) = mkF m 0 #[.val (.ref o), .unset] []) k
  have Zn := Z0
  have D' := D
  obtain ⟨go, ghp, gpl, -⟩ := D'
  have oi1 := I0
  obtain ⟨E1, F11, F21, F31, F41, R1, A1, P1⟩ := oi1
  have G2 : Goes p e below s₁ (entryFrame m #[(.ref o)] 2) s₁ (mkF m 1 #[.val (.ref o), .unset] [(.ref o)]) := fun _ k => G0 _ (by
      show Steps p.tables e below (s₁.setTop (mkF m 0 #[.val (.ref o), .unset] [])) _
      refine XS.aloadN X0.here hx rfl (hb hby own_d7_0) rfl rfl ?_
      exact k)
  obtain ⟨T3, X3, e3, st3⟩ := getF X0 hx hZ hown (host := "") (Or.inl (hw _ (List.mem_of_getElem? (i := 13) rfl))) Via.refl e0 F21 (g := (mkF m 1 #[.val (.ref o), .unset] [(.ref o)])) rfl rfl (hb hby own_d7_1)
  have G3 : Goes p e below s₁ (entryFrame m #[(.ref o)] 2) T3 (mkF m 4 #[.val (.ref o), .unset] [(.ref hp)]) := fun _ k => G2 _ (st3 _ k)
  have G4 : Goes p e below s₁ (entryFrame m #[(.ref o)] 2) T3 (mkF m 5 #[.val (.ref o), .unset] [(.int (0 : Int32)), (.ref hp)]) := fun _ k => G3 _ (by
      show Steps p.tables e below (T3.setTop (mkF m 4 #[.val (.ref o), .unset] [(.ref hp)])) _
      refine XS.iconst X3.here hx rfl (hb hby own_d7_4) ?_
      exact k)
  have vc5 := A1
  obtain ⟨cl5, Ar5, S5, H5⟩ := vc5
  have hin5 : ¬ ((0 : Int32) < 0 ∨ cl5.slots.size ≤ ((0 : Int32)).toNatClampNeg) := inb_of S5 ⟨by decide, by decide⟩
  obtain ⟨x5, hat5, hx5⟩ := H5 _ (own_k S5 hin5)
  have G6 : Goes p e below s₁ (entryFrame m #[(.ref o)] 2) T3 (mkF m 6 #[.val (.ref o), .unset] [(.int x5)]) := fun _ k => G4 _ (by
      show Steps p.tables e below (T3.setTop (mkF m 5 #[.val (.ref o), .unset] [(.int (0 : Int32)), (.ref hp)])) _
      refine X3.iaload hx (j := (0 : Int32)) (v := (.int x5)) (by rw [e3]; exact Ar5.1) (State.isArrayOf_alike hZ.alike Ar5.2.1) Ar5.2.2 hin5 hat5 (g := (mkF m 5 #[.val (.ref o), .unset] [(.int (0 : Int32)), (.ref hp)])) rfl rfl (hb hby own_d7_5) _ ?_
      exact k)
  have G7 : Goes p e below s₁ (entryFrame m #[(.ref o)] 2) T3 (mkF m 9 #[.val (.ref o), .val (.int x5)] [(.ref o), (.ref o)]) := fun _ k => G6 _ (by
      show Steps p.tables e below (T3.setTop (mkF m 6 #[.val (.ref o), .unset] [(.int x5)])) _
      refine XS.istoreN X3.here hx rfl (hb hby own_d7_6) rfl (l' := #[.val (.ref o), .val (.int x5)]) rfl ?_
      show Steps p.tables e below (T3.setTop (mkF m 7 #[.val (.ref o), .val (.int x5)] [])) _
      refine XS.aloadN X3.here hx rfl (hb hby own_d7_7) rfl rfl ?_
      show Steps p.tables e below (T3.setTop (mkF m 8 #[.val (.ref o), .val (.int x5)] [(.ref o)])) _
      refine XS.dup X3.here hx rfl (hb hby own_d7_8) rfl rfl ?_
      exact k)
  obtain ⟨T8, X8, e8, st8⟩ := getF X3 hx hZ hown (host := "") (Or.inl (hw _ (List.mem_of_getElem? (i := 22) rfl))) Via.refl e3 F41 (g := (mkF m 9 #[.val (.ref o), .val (.int x5)] [(.ref o), (.ref o)])) rfl rfl (hb hby own_d7_9)
  have G8 : Goes p e below s₁ (entryFrame m #[(.ref o)] 2) T8 (mkF m 12 #[.val (.ref o), .val (.int x5)] [(.int (2 : Int32)), (.ref o)]) := fun _ k => G7 _ (st8 _ k)
  have G9 : Goes p e below s₁ (entryFrame m #[(.ref o)] 2) T8 (mkF m 14 #[.val (.ref o), .val (.int x5)] [(.int (1 : Int32)), (.ref o)]) := fun _ k => G8 _ (by
      show Steps p.tables e below (T8.setTop (mkF m 12 #[.val (.ref o), .val (.int x5)] [(.int (2 : Int32)), (.ref o)])) _
      refine XS.iconst X8.here hx rfl (hb hby own_d7_12) ?_
      show Steps p.tables e below (T8.setTop (mkF m 13 #[.val (.ref o), .val (.int x5)] [(.int (1 : Int32)), (.int (2 : Int32)), (.ref o)])) _
      refine XS.isub X8.here hx rfl (hb hby own_d7_13) rfl ?_
      exact k)
  obtain ⟨T10, h10, X10, e10, W10, st10⟩ := putF X8 hx hZ hown (host := "") (Or.inl (hw _ (List.mem_of_getElem? (i := 22) rfl))) Via.refl e8 F41 E1 (Or.inl (hw _ (List.mem_of_getElem? (i := 23) rfl))) (hw _ (List.mem_of_getElem? (i := 2) rfl)) (ty := .int) (by decide) rfl rfl (g := (mkF m 14 #[.val (.ref o), .val (.int x5)] [(.int (1 : Int32)), (.ref o)])) rfl rfl (hb hby own_d7_14)
  have G10 : Goes p e below s₁ (entryFrame m #[(.ref o)] 2) T10 (mkF m 17 #[.val (.ref o), .val (.int x5)] []) := fun _ k => G9 _ (st10 _ k)
  have N10 := Fr.snoc X10 N0 go
  have Zn : n0 ≤ h10.size := Nat.le_trans Zn (Nat.le_of_eq W10.size.symm)
  have I10 : Inv Z h10 o r hp pl (1 : Int32) := own_inv_size hw D I0 W10
  have oi11 := I10
  obtain ⟨E11, F111, F211, F311, F411, R11, A11, P11⟩ := oi11
  have G12 : Goes p e below s₁ (entryFrame m #[(.ref o)] 2) T10 (mkF m 18 #[.val (.ref o), .val (.int x5)] [(.ref o)]) := fun _ k => G10 _ (by
      show Steps p.tables e below (T10.setTop (mkF m 17 #[.val (.ref o), .val (.int x5)] [])) _
      refine XS.aloadN X10.here hx rfl (hb hby own_d7_17) rfl rfl ?_
      exact k)
  obtain ⟨T13, X13, e13, st13⟩ := getF X10 hx hZ hown (host := "") (Or.inl (hw _ (List.mem_of_getElem? (i := 22) rfl))) Via.refl e10 F411 (g := (mkF m 18 #[.val (.ref o), .val (.int x5)] [(.ref o)])) rfl rfl (hb hby own_d7_18)
  have G13 : Goes p e below s₁ (entryFrame m #[(.ref o)] 2) T13 (mkF m 21 #[.val (.ref o), .val (.int x5)] [(.int (1 : Int32))]) := fun _ k => G12 _ (st13 _ k)
  have G14 : Goes p e below s₁ (entryFrame m #[(.ref o)] 2) T13 (mkF m 24 #[.val (.ref o), .val (.int x5)] []) := fun _ k => G13 _ (by
      show Steps p.tables e below (T13.setTop (mkF m 21 #[.val (.ref o), .val (.int x5)] [(.int (1 : Int32))])) _
      refine XS.ifNo X13.here hx rfl (hb hby own_d7_21) rfl ((if0 _ _).trans (tlt (by decide : (0 : Int32) < (1 : Int32))).2.2.2) ?_
      exact k)
  have G15 : Goes p e below s₁ (entryFrame m #[(.ref o)] 2) T13 (mkF m 25 #[.val (.ref o), .val (.int x5)] [(.ref o)]) := fun _ k => G14 _ (by
      show Steps p.tables e below (T13.setTop (mkF m 24 #[.val (.ref o), .val (.int x5)] [])) _
      refine XS.aloadN X13.here hx rfl (hb hby own_d7_24) rfl rfl ?_
      exact k)
  obtain ⟨T16, X16, e16, st16⟩ := getF X13 hx hZ hown (host := "") (Or.inl (hw _ (List.mem_of_getElem? (i := 13) rfl))) Via.refl e13 F211 (g := (mkF m 25 #[.val (.ref o), .val (.int x5)] [(.ref o)])) rfl rfl (hb hby own_d7_25)
  have G16 : Goes p e below s₁ (entryFrame m #[(.ref o)] 2) T16 (mkF m 28 #[.val (.ref o), .val (.int x5)] [(.ref hp)]) := fun _ k => G15 _ (st16 _ k)
  have G17 : Goes p e below s₁ (entryFrame m #[(.ref o)] 2) T16 (mkF m 30 #[.val (.ref o), .val (.int x5)] [(.ref o), (.int (0 : Int32)), (.ref hp)]) := fun _ k => G16 _ (by
      show Steps p.tables e below (T16.setTop (mkF m 28 #[.val (.ref o), .val (.int x5)] [(.ref hp)])) _
      refine XS.iconst X16.here hx rfl (hb hby own_d7_28) ?_
      show Steps p.tables e below (T16.setTop (mkF m 29 #[.val (.ref o), .val (.int x5)] [(.int (0 : Int32)), (.ref hp)])) _
      refine XS.aloadN X16.here hx rfl (hb hby own_d7_29) rfl rfl ?_
      exact k)
  obtain ⟨T18, X18, e18, st18⟩ := getF X16 hx hZ hown (host := "") (Or.inl (hw _ (List.mem_of_getElem? (i := 13) rfl))) Via.refl e16 F211 (g := (mkF m 30 #[.val (.ref o), .val (.int x5)] [(.ref o), (.int (0 : Int32)), (.ref hp)])) rfl rfl (hb hby own_d7_30)
  have G18 : Goes p e below s₁ (entryFrame m #[(.ref o)] 2) T18 (mkF m 33 #[.val (.ref o), .val (.int x5)] [(.ref hp), (.int (0 : Int32)), (.ref hp)]) := fun _ k => G17 _ (st18 _ k)
  have G19 : Goes p e below s₁ (entryFrame m #[(.ref o)] 2) T18 (mkF m 34 #[.val (.ref o), .val (.int x5)] [(.ref o), (.ref hp), (.int (0 : Int32)), (.ref hp)]) := fun _ k => G18 _ (by
      show Steps p.tables e below (T18.setTop (mkF m 33 #[.val (.ref o), .val (.int x5)] [(.ref hp), (.int (0 : Int32)), (.ref hp)])) _
      refine XS.aloadN X18.here hx rfl (hb hby own_d7_33) rfl rfl ?_
      exact k)
  obtain ⟨T20, X20, e20, st20⟩ := getF X18 hx hZ hown (host := "") (Or.inl (hw _ (List.mem_of_getElem? (i := 22) rfl))) Via.refl e18 F411 (g := (mkF m 34 #[.val (.ref o), .val (.int x5)] [(.ref o), (.ref hp), (.int (0 : Int32)), (.ref hp)])) rfl rfl (hb hby own_d7_34)
  have G20 : Goes p e below s₁ (entryFrame m #[(.ref o)] 2) T20 (mkF m 37 #[.val (.ref o), .val (.int x5)] [(.int (1 : Int32)), (.ref hp), (.int (0 : Int32)), (.ref hp)]) := fun _ k => G19 _ (st20 _ k)
  have vc21 := A11
  obtain ⟨cl21, Ar21, S21, H21⟩ := vc21
  have hin21 : ¬ ((1 : Int32) < 0 ∨ cl21.slots.size ≤ ((1 : Int32)).toNatClampNeg) := inb_of S21 ⟨by decide, by decide⟩
  obtain ⟨x21, hat21, hx21⟩ := H21 _ (own_k S21 hin21)
  have G22 : Goes p e below s₁ (entryFrame m #[(.ref o)] 2) T20 (mkF m 38 #[.val (.ref o), .val (.int x5)] [(.int x21), (.int (0 : Int32)), (.ref hp)]) := fun _ k => G20 _ (by
      show Steps p.tables e below (T20.setTop (mkF m 37 #[.val (.ref o), .val (.int x5)] [(.int (1 : Int32)), (.ref hp), (.int (0 : Int32)), (.ref hp)])) _
      refine X20.iaload hx (j := (1 : Int32)) (v := (.int x21)) (by rw [e20]; exact Ar21.1) (State.isArrayOf_alike hZ.alike Ar21.2.1) Ar21.2.2 hin21 hat21 (g := (mkF m 37 #[.val (.ref o), .val (.int x5)] [(.int (1 : Int32)), (.ref hp), (.int (0 : Int32)), (.ref hp)])) rfl rfl (hb hby own_d7_37) _ ?_
      exact k)
  have vc23 := A11
  obtain ⟨cl23, Ar23, S23, -⟩ := vc23
  have hin23 : ¬ ((0 : Int32) < 0 ∨ cl23.slots.size ≤ ((0 : Int32)).toNatClampNeg) := inb_of S23 ⟨by decide, by decide⟩
  obtain ⟨T24, h24, X24, e24, W24, st24⟩ := stI X20 hx hZ e20 Ar23 (j := (0 : Int32)) hin23 (g := (mkF m 38 #[.val (.ref o), .val (.int x5)] [(.int x21), (.int (0 : Int32)), (.ref hp)])) rfl rfl (hb hby own_d7_38)
  have G24 : Goes p e below s₁ (entryFrame m #[(.ref o)] 2) T24 (mkF m 39 #[.val (.ref o), .val (.int x5)] []) := fun _ k => G22 _ (st24 _ k)
  have N24 := Fr.snoc X24 N10 ghp
  have Zn : n0 ≤ h24.size := Nat.le_trans Zn (Nat.le_of_eq W24.size.symm)
  have I24 := own_inv_heap D I10 W24 hx21
  have oi25 := I24
  obtain ⟨E25, F125, F225, F325, F425, R25, A25, P25⟩ := oi25
  have G26 : Goes p e below s₁ (entryFrame m #[(.ref o)] 2) T24 (mkF m 41 #[.val (.ref o), .val (.int x5)] [(.int (0 : Int32)), (.ref o)]) := fun _ k => G24 _ (by
      show Steps p.tables e below (T24.setTop (mkF m 39 #[.val (.ref o), .val (.int x5)] [])) _
      refine XS.aloadN X24.here hx rfl (hb hby own_d7_39) rfl rfl ?_
      show Steps p.tables e below (T24.setTop (mkF m 40 #[.val (.ref o), .val (.int x5)] [(.ref o)])) _
      refine XS.iconst X24.here hx rfl (hb hby own_d7_40) ?_
      exact k)
  obtain ⟨cq27, q27, q27'⟩ := E25.cell
  obtain ⟨_, _, ⟨T27, L27, k27, n27⟩, -, X27, ⟨Lc27, hQ27, l27, y27, z27⟩, st27⟩ := X24.privateBack hx (y := (⟨"com/example/subterm/subterm/algorithm/IndexedHeap", "moveDown", "(I)V"⟩ : MethodName)) hown (mvT hZ (hw _ (List.mem_of_getElem? (i := 42) rfl))) (mvT hZ (hw _ (List.mem_of_getElem? (i := 43) rfl))) (mvT hZ (own_sel (y := (⟨"com/example/subterm/subterm/algorithm/IndexedHeap", "moveDown", "(I)V"⟩ : MethodName)) (by decide) (hw _ (List.mem_of_getElem? (i := 2) rfl)) (hw _ (List.mem_of_getElem? (i := 44) rfl)) (hw _ (List.mem_of_getElem? (i := 43) rfl)))) (Cond.privateMethod_at (mvP hZ (hw _ (List.mem_of_getElem? (i := 44) rfl)) (args := #[]))) (mvT hZ (hw _ (List.mem_of_getElem? (i := 45) rfl))) (by decide) (backOf (W := 0) (rm8_1 l Z a0 hw [] o r hp pl h24 n0 Zn I24 D) hZ (hw _ (List.mem_of_getElem? (i := 45) rfl)) (hw _ (List.mem_of_getElem? (i := 3) rfl)) (by decide) (by decide)) (g := (mkF m 41 #[.val (.ref o), .val (.int x5)] [(.int (0 : Int32)), (.ref o)])) rfl (by rw [hml]; rfl) (Steps.refl _) (a := o) (by rw [e24]; exact q27) q27' (argsL := [(.int (0 : Int32))]) (rest := []) (lenOf own_pd1 rfl) rfl (by show 2 * 0 + _ ≤ _; exact Nat.le_of_eq rfl) (hb hby own_d7_41) (fun _ _ => ⟨rfl, e24, (by decide : 0 + 0 ≤ _), (by decide : 0 + 0 ≤ _)⟩)
  dsimp only [Pt.U, Pt.locs, Pt.cells, Pt.slots] at X27 l27 y27 z27 st27 hQ27
  subst l27 y27 z27
  obtain ⟨rfl, N27q, Zn, I27⟩ := hQ27
  have N27 := Fr.app N24 N27q
  have G27 : Goes p e below s₁ (entryFrame m #[(.ref o)] 2) T27 (mkF m 44 #[.val (.ref o), .val (.int x5)] []) := fun _ k => G26 _ (st27.trans k)
  have G28 : Goes p e below s₁ (entryFrame m #[(.ref o)] 2) T27 (mkF m 45 #[.val (.ref o), .val (.int x5)] [(.int x5)]) := fun _ k => G27 _ (by
      show Steps p.tables e below (T27.setTop (mkF m 44 #[.val (.ref o), .val (.int x5)] [])) _
      refine XS.iloadN X27.here hx rfl (hb hby own_d7_44) rfl ?_
      exact k)
  obtain ⟨fs, hr, hrun, hended, hW, hsame⟩ := X27.leave (v := some (.int x5)) (fun h => by rw [Bd.returns] at h; cases h)
  refine ⟨_, _, G28 _ (retI X27 hx Bd.returns (hb hby own_d7_45) hr), hrun, hended, _, _, rfl, ?_, ⟨_, rfl⟩, hW, hsame.mono (by decide) (by decide)⟩
  show QI Z o r hp pl (1 : Int32) n0 _ T27.heap _
  exact ⟨_, rfl, N27, Zn, I27⟩
set_option maxRecDepth 65536 in
set_option maxHeartbeats 40000000 in
theorem rm7_3 (l : Launch) (Z : State) (a0 : Array Value) (hw : ∀ d ∈ tables_1, d.before a0 Z = true) (ws : List Jvm.Cond) (o r hp pl : Addr) (h0 : Heap) (n0 : Nat) (Z0 : n0 ≤ h0.size) (I0 : Inv Z h0 o r hp pl (3 : Int32)) (D : Dis n0 o r hp pl) :
    MetFree l (⟨"com/example/subterm/subterm/algorithm/IndexedHeap", "removeFirst", "()I"⟩ : MethodName) (head1 (Jvm.Cond.code (⟨"com/example/subterm/subterm/algorithm/IndexedHeap", "removeFirst", "()I"⟩ : MethodName) prog_6_method_5_code 2 (some .int) :: ws) ({ frames := 2, cells := 0, slots := 0, locals := 32 } : Room)) (fun a U => a = #[(.ref o)] ∧ Z.Warmed39 U.vm ∧ U.heap = h0) (fun _ _ _ _ _ => True) (fun _ U oc U' => ∃ v L, oc = .returned v ∧ QI Z o r hp pl (2 : Int32) n0 v U'.heap L ∧ FrameEnd U oc U' L ({ frames := 2, cells := 0, slots := 0, locals := 32 } : Room).cells ({ frames := 2, cells := 0, slots := 0, locals := 32 } : Room).slots) := by
  refine MetFree.of_bodySF (plainFor_of_name own_pn0) hisR ?_
  intro p e s m args below meth c s₁ Bd hml0 hP hK
  obtain ⟨rfl, hZ, hh⟩ := hP
  have hx := Bd.exec
  have hby := Bd.bytes
  have hml : c.maxLocals = 2 := hml0
  have hown : s.vm.findClass "com/example/subterm/subterm/algorithm/IndexedHeap" = some m.cls := findClass_of_methodNamed Bd.named
  have hnm := (name_of_methodNamed Bd.named Bd.method).1
  have X0 : Stand p l e ({ frames := 2, cells := 0, slots := 0, locals := 32 } : Room) s m #[(.ref o)] below meth c s₁ [] 0 0 := Stand.of_body Bd
  have e0 : s₁.heap = h0 := by rw [← hh, Bd.state]; rfl
  have N0 := Fr.nil n0
  have G0 : Goes p e below s₁ (entryFrame m #[(.ref o)] 2) s₁ (mkF m 0 #[.val (.ref o), .unset] []) := fun _ k => castTop (by first | (simp [entryFrame, mkF, argsToLocals, Value.category]; done) | rfl : (entryFrame m #[(.ref o)] 2) = mkF m 0 #[.val (.ref o), .unset] []) k
  have Zn := Z0
  have D' := D
  obtain ⟨go, ghp, gpl, -⟩ := D'
  have oi1 := I0
  obtain ⟨E1, F11, F21, F31, F41, R1, A1, P1⟩ := oi1
  have G2 : Goes p e below s₁ (entryFrame m #[(.ref o)] 2) s₁ (mkF m 1 #[.val (.ref o), .unset] [(.ref o)]) := fun _ k => G0 _ (by
      show Steps p.tables e below (s₁.setTop (mkF m 0 #[.val (.ref o), .unset] [])) _
      refine XS.aloadN X0.here hx rfl (hb hby own_d7_0) rfl rfl ?_
      exact k)
  obtain ⟨T3, X3, e3, st3⟩ := getF X0 hx hZ hown (host := "") (Or.inl (hw _ (List.mem_of_getElem? (i := 13) rfl))) Via.refl e0 F21 (g := (mkF m 1 #[.val (.ref o), .unset] [(.ref o)])) rfl rfl (hb hby own_d7_1)
  have G3 : Goes p e below s₁ (entryFrame m #[(.ref o)] 2) T3 (mkF m 4 #[.val (.ref o), .unset] [(.ref hp)]) := fun _ k => G2 _ (st3 _ k)
  have G4 : Goes p e below s₁ (entryFrame m #[(.ref o)] 2) T3 (mkF m 5 #[.val (.ref o), .unset] [(.int (0 : Int32)), (.ref hp)]) := fun _ k => G3 _ (by
      show Steps p.tables e below (T3.setTop (mkF m 4 #[.val (.ref o), .unset] [(.ref hp)])) _
      refine XS.iconst X3.here hx rfl (hb hby own_d7_4) ?_
      exact k)
  have vc5 := A1
  obtain ⟨cl5, Ar5, S5, H5⟩ := vc5
  have hin5 : ¬ ((0 : Int32) < 0 ∨ cl5.slots.size ≤ ((0 : Int32)).toNatClampNeg) := inb_of S5 ⟨by decide, by decide⟩
  obtain ⟨x5, hat5, hx5⟩ := H5 _ (own_k S5 hin5)
  have G6 : Goes p e below s₁ (entryFrame m #[(.ref o)] 2) T3 (mkF m 6 #[.val (.ref o), .unset] [(.int x5)]) := fun _ k => G4 _ (by
      show Steps p.tables e below (T3.setTop (mkF m 5 #[.val (.ref o), .unset] [(.int (0 : Int32)), (.ref hp)])) _
      refine X3.iaload hx (j := (0 : Int32)) (v := (.int x5)) (by rw [e3]; exact Ar5.1) (State.isArrayOf_alike hZ.alike Ar5.2.1) Ar5.2.2 hin5 hat5 (g := (mkF m 5 #[.val (.ref o), .unset] [(.int (0 : Int32)), (.ref hp)])) rfl rfl (hb hby own_d7_5) _ ?_
      exact k)
  have G7 : Goes p e below s₁ (entryFrame m #[(.ref o)] 2) T3 (mkF m 9 #[.val (.ref o), .val (.int x5)] [(.ref o), (.ref o)]) := fun _ k => G6 _ (by
      show Steps p.tables e below (T3.setTop (mkF m 6 #[.val (.ref o), .unset] [(.int x5)])) _
      refine XS.istoreN X3.here hx rfl (hb hby own_d7_6) rfl (l' := #[.val (.ref o), .val (.int x5)]) rfl ?_
      show Steps p.tables e below (T3.setTop (mkF m 7 #[.val (.ref o), .val (.int x5)] [])) _
      refine XS.aloadN X3.here hx rfl (hb hby own_d7_7) rfl rfl ?_
      show Steps p.tables e below (T3.setTop (mkF m 8 #[.val (.ref o), .val (.int x5)] [(.ref o)])) _
      refine XS.dup X3.here hx rfl (hb hby own_d7_8) rfl rfl ?_
      exact k)
  obtain ⟨T8, X8, e8, st8⟩ := getF X3 hx hZ hown (host := "") (Or.inl (hw _ (List.mem_of_getElem? (i := 22) rfl))) Via.refl e3 F41 (g := (mkF m 9 #[.val (.ref o), .val (.int x5)] [(.ref o), (.ref o)])) rfl rfl (hb hby own_d7_9)
  have G8 : Goes p e below s₁ (entryFrame m #[(.ref o)] 2) T8 (mkF m 12 #[.val (.ref o), .val (.int x5)] [(.int (3 : Int32)), (.ref o)]) := fun _ k => G7 _ (st8 _ k)
  have G9 : Goes p e below s₁ (entryFrame m #[(.ref o)] 2) T8 (mkF m 14 #[.val (.ref o), .val (.int x5)] [(.int (2 : Int32)), (.ref o)]) := fun _ k => G8 _ (by
      show Steps p.tables e below (T8.setTop (mkF m 12 #[.val (.ref o), .val (.int x5)] [(.int (3 : Int32)), (.ref o)])) _
      refine XS.iconst X8.here hx rfl (hb hby own_d7_12) ?_
      show Steps p.tables e below (T8.setTop (mkF m 13 #[.val (.ref o), .val (.int x5)] [(.int (1 : Int32)), (.int (3 : Int32)), (.ref o)])) _
      refine XS.isub X8.here hx rfl (hb hby own_d7_13) rfl ?_
      exact k)
  obtain ⟨T10, h10, X10, e10, W10, st10⟩ := putF X8 hx hZ hown (host := "") (Or.inl (hw _ (List.mem_of_getElem? (i := 22) rfl))) Via.refl e8 F41 E1 (Or.inl (hw _ (List.mem_of_getElem? (i := 23) rfl))) (hw _ (List.mem_of_getElem? (i := 2) rfl)) (ty := .int) (by decide) rfl rfl (g := (mkF m 14 #[.val (.ref o), .val (.int x5)] [(.int (2 : Int32)), (.ref o)])) rfl rfl (hb hby own_d7_14)
  have G10 : Goes p e below s₁ (entryFrame m #[(.ref o)] 2) T10 (mkF m 17 #[.val (.ref o), .val (.int x5)] []) := fun _ k => G9 _ (st10 _ k)
  have N10 := Fr.snoc X10 N0 go
  have Zn : n0 ≤ h10.size := Nat.le_trans Zn (Nat.le_of_eq W10.size.symm)
  have I10 : Inv Z h10 o r hp pl (2 : Int32) := own_inv_size hw D I0 W10
  have oi11 := I10
  obtain ⟨E11, F111, F211, F311, F411, R11, A11, P11⟩ := oi11
  have G12 : Goes p e below s₁ (entryFrame m #[(.ref o)] 2) T10 (mkF m 18 #[.val (.ref o), .val (.int x5)] [(.ref o)]) := fun _ k => G10 _ (by
      show Steps p.tables e below (T10.setTop (mkF m 17 #[.val (.ref o), .val (.int x5)] [])) _
      refine XS.aloadN X10.here hx rfl (hb hby own_d7_17) rfl rfl ?_
      exact k)
  obtain ⟨T13, X13, e13, st13⟩ := getF X10 hx hZ hown (host := "") (Or.inl (hw _ (List.mem_of_getElem? (i := 22) rfl))) Via.refl e10 F411 (g := (mkF m 18 #[.val (.ref o), .val (.int x5)] [(.ref o)])) rfl rfl (hb hby own_d7_18)
  have G13 : Goes p e below s₁ (entryFrame m #[(.ref o)] 2) T13 (mkF m 21 #[.val (.ref o), .val (.int x5)] [(.int (2 : Int32))]) := fun _ k => G12 _ (st13 _ k)
  have G14 : Goes p e below s₁ (entryFrame m #[(.ref o)] 2) T13 (mkF m 24 #[.val (.ref o), .val (.int x5)] []) := fun _ k => G13 _ (by
      show Steps p.tables e below (T13.setTop (mkF m 21 #[.val (.ref o), .val (.int x5)] [(.int (2 : Int32))])) _
      refine XS.ifNo X13.here hx rfl (hb hby own_d7_21) rfl ((if0 _ _).trans (tlt (by decide : (0 : Int32) < (2 : Int32))).2.2.2) ?_
      exact k)
  have G15 : Goes p e below s₁ (entryFrame m #[(.ref o)] 2) T13 (mkF m 25 #[.val (.ref o), .val (.int x5)] [(.ref o)]) := fun _ k => G14 _ (by
      show Steps p.tables e below (T13.setTop (mkF m 24 #[.val (.ref o), .val (.int x5)] [])) _
      refine XS.aloadN X13.here hx rfl (hb hby own_d7_24) rfl rfl ?_
      exact k)
  obtain ⟨T16, X16, e16, st16⟩ := getF X13 hx hZ hown (host := "") (Or.inl (hw _ (List.mem_of_getElem? (i := 13) rfl))) Via.refl e13 F211 (g := (mkF m 25 #[.val (.ref o), .val (.int x5)] [(.ref o)])) rfl rfl (hb hby own_d7_25)
  have G16 : Goes p e below s₁ (entryFrame m #[(.ref o)] 2) T16 (mkF m 28 #[.val (.ref o), .val (.int x5)] [(.ref hp)]) := fun _ k => G15 _ (st16 _ k)
  have G17 : Goes p e below s₁ (entryFrame m #[(.ref o)] 2) T16 (mkF m 30 #[.val (.ref o), .val (.int x5)] [(.ref o), (.int (0 : Int32)), (.ref hp)]) := fun _ k => G16 _ (by
      show Steps p.tables e below (T16.setTop (mkF m 28 #[.val (.ref o), .val (.int x5)] [(.ref hp)])) _
      refine XS.iconst X16.here hx rfl (hb hby own_d7_28) ?_
      show Steps p.tables e below (T16.setTop (mkF m 29 #[.val (.ref o), .val (.int x5)] [(.int (0 : Int32)), (.ref hp)])) _
      refine XS.aloadN X16.here hx rfl (hb hby own_d7_29) rfl rfl ?_
      exact k)
  obtain ⟨T18, X18, e18, st18⟩ := getF X16 hx hZ hown (host := "") (Or.inl (hw _ (List.mem_of_getElem? (i := 13) rfl))) Via.refl e16 F211 (g := (mkF m 30 #[.val (.ref o), .val (.int x5)] [(.ref o), (.int (0 : Int32)), (.ref hp)])) rfl rfl (hb hby own_d7_30)
  have G18 : Goes p e below s₁ (entryFrame m #[(.ref o)] 2) T18 (mkF m 33 #[.val (.ref o), .val (.int x5)] [(.ref hp), (.int (0 : Int32)), (.ref hp)]) := fun _ k => G17 _ (st18 _ k)
  have G19 : Goes p e below s₁ (entryFrame m #[(.ref o)] 2) T18 (mkF m 34 #[.val (.ref o), .val (.int x5)] [(.ref o), (.ref hp), (.int (0 : Int32)), (.ref hp)]) := fun _ k => G18 _ (by
      show Steps p.tables e below (T18.setTop (mkF m 33 #[.val (.ref o), .val (.int x5)] [(.ref hp), (.int (0 : Int32)), (.ref hp)])) _
      refine XS.aloadN X18.here hx rfl (hb hby own_d7_33) rfl rfl ?_
      exact k)
  obtain ⟨T20, X20, e20, st20⟩ := getF X18 hx hZ hown (host := "") (Or.inl (hw _ (List.mem_of_getElem? (i := 22) rfl))) Via.refl e18 F411 (g := (mkF m 34 #[.val (.ref o), .val (.int x5)] [(.ref o), (.ref hp), (.int (0 : Int32)), (.ref hp)])) rfl rfl (hb hby own_d7_34)
  have G20 : Goes p e below s₁ (entryFrame m #[(.ref o)] 2) T20 (mkF m 37 #[.val (.ref o), .val (.int x5)] [(.int (2 : Int32)), (.ref hp), (.int (0 : Int32)), (.ref hp)]) := fun _ k => G19 _ (st20 _ k)
  have vc21 := A11
  obtain ⟨cl21, Ar21, S21, H21⟩ := vc21
  have hin21 : ¬ ((2 : Int32) < 0 ∨ cl21.slots.size ≤ ((2 : Int32)).toNatClampNeg) := inb_of S21 ⟨by decide, by decide⟩
  obtain ⟨x21, hat21, hx21⟩ := H21 _ (own_k S21 hin21)
  have G22 : Goes p e below s₁ (entryFrame m #[(.ref o)] 2) T20 (mkF m 38 #[.val (.ref o), .val (.int x5)] [(.int x21), (.int (0 : Int32)), (.ref hp)]) := fun _ k => G20 _ (by
      show Steps p.tables e below (T20.setTop (mkF m 37 #[.val (.ref o), .val (.int x5)] [(.int (2 : Int32)), (.ref hp), (.int (0 : Int32)), (.ref hp)])) _
      refine X20.iaload hx (j := (2 : Int32)) (v := (.int x21)) (by rw [e20]; exact Ar21.1) (State.isArrayOf_alike hZ.alike Ar21.2.1) Ar21.2.2 hin21 hat21 (g := (mkF m 37 #[.val (.ref o), .val (.int x5)] [(.int (2 : Int32)), (.ref hp), (.int (0 : Int32)), (.ref hp)])) rfl rfl (hb hby own_d7_37) _ ?_
      exact k)
  have vc23 := A11
  obtain ⟨cl23, Ar23, S23, -⟩ := vc23
  have hin23 : ¬ ((0 : Int32) < 0 ∨ cl23.slots.size ≤ ((0 : Int32)).toNatClampNeg) := inb_of S23 ⟨by decide, by decide⟩
  obtain ⟨T24, h24, X24, e24, W24, st24⟩ := stI X20 hx hZ e20 Ar23 (j := (0 : Int32)) hin23 (g := (mkF m 38 #[.val (.ref o), .val (.int x5)] [(.int x21), (.int (0 : Int32)), (.ref hp)])) rfl rfl (hb hby own_d7_38)
  have G24 : Goes p e below s₁ (entryFrame m #[(.ref o)] 2) T24 (mkF m 39 #[.val (.ref o), .val (.int x5)] []) := fun _ k => G22 _ (st24 _ k)
  have N24 := Fr.snoc X24 N10 ghp
  have Zn : n0 ≤ h24.size := Nat.le_trans Zn (Nat.le_of_eq W24.size.symm)
  have I24 := own_inv_heap D I10 W24 hx21
  have oi25 := I24
  obtain ⟨E25, F125, F225, F325, F425, R25, A25, P25⟩ := oi25
  have G26 : Goes p e below s₁ (entryFrame m #[(.ref o)] 2) T24 (mkF m 41 #[.val (.ref o), .val (.int x5)] [(.int (0 : Int32)), (.ref o)]) := fun _ k => G24 _ (by
      show Steps p.tables e below (T24.setTop (mkF m 39 #[.val (.ref o), .val (.int x5)] [])) _
      refine XS.aloadN X24.here hx rfl (hb hby own_d7_39) rfl rfl ?_
      show Steps p.tables e below (T24.setTop (mkF m 40 #[.val (.ref o), .val (.int x5)] [(.ref o)])) _
      refine XS.iconst X24.here hx rfl (hb hby own_d7_40) ?_
      exact k)
  obtain ⟨cq27, q27, q27'⟩ := E25.cell
  obtain ⟨_, _, ⟨T27, L27, k27, n27⟩, -, X27, ⟨Lc27, hQ27, l27, y27, z27⟩, st27⟩ := X24.privateBack hx (y := (⟨"com/example/subterm/subterm/algorithm/IndexedHeap", "moveDown", "(I)V"⟩ : MethodName)) hown (mvT hZ (hw _ (List.mem_of_getElem? (i := 42) rfl))) (mvT hZ (hw _ (List.mem_of_getElem? (i := 43) rfl))) (mvT hZ (own_sel (y := (⟨"com/example/subterm/subterm/algorithm/IndexedHeap", "moveDown", "(I)V"⟩ : MethodName)) (by decide) (hw _ (List.mem_of_getElem? (i := 2) rfl)) (hw _ (List.mem_of_getElem? (i := 44) rfl)) (hw _ (List.mem_of_getElem? (i := 43) rfl)))) (Cond.privateMethod_at (mvP hZ (hw _ (List.mem_of_getElem? (i := 44) rfl)) (args := #[]))) (mvT hZ (hw _ (List.mem_of_getElem? (i := 45) rfl))) (by decide) (backOf (W := 0) (rm8_2 l Z a0 hw [] o r hp pl h24 n0 Zn I24 D) hZ (hw _ (List.mem_of_getElem? (i := 45) rfl)) (hw _ (List.mem_of_getElem? (i := 3) rfl)) (by decide) (by decide)) (g := (mkF m 41 #[.val (.ref o), .val (.int x5)] [(.int (0 : Int32)), (.ref o)])) rfl (by rw [hml]; rfl) (Steps.refl _) (a := o) (by rw [e24]; exact q27) q27' (argsL := [(.int (0 : Int32))]) (rest := []) (lenOf own_pd1 rfl) rfl (by show 2 * 0 + _ ≤ _; exact Nat.le_of_eq rfl) (hb hby own_d7_41) (fun _ _ => ⟨rfl, e24, (by decide : 0 + 0 ≤ _), (by decide : 0 + 0 ≤ _)⟩)
  dsimp only [Pt.U, Pt.locs, Pt.cells, Pt.slots] at X27 l27 y27 z27 st27 hQ27
  subst l27 y27 z27
  obtain ⟨rfl, N27q, Zn, I27⟩ := hQ27
  have N27 := Fr.app N24 N27q
  have G27 : Goes p e below s₁ (entryFrame m #[(.ref o)] 2) T27 (mkF m 44 #[.val (.ref o), .val (.int x5)] []) := fun _ k => G26 _ (st27.trans k)
  have G28 : Goes p e below s₁ (entryFrame m #[(.ref o)] 2) T27 (mkF m 45 #[.val (.ref o), .val (.int x5)] [(.int x5)]) := fun _ k => G27 _ (by
      show Steps p.tables e below (T27.setTop (mkF m 44 #[.val (.ref o), .val (.int x5)] [])) _
      refine XS.iloadN X27.here hx rfl (hb hby own_d7_44) rfl ?_
      exact k)
  obtain ⟨fs, hr, hrun, hended, hW, hsame⟩ := X27.leave (v := some (.int x5)) (fun h => by rw [Bd.returns] at h; cases h)
  refine ⟨_, _, G28 _ (retI X27 hx Bd.returns (hb hby own_d7_45) hr), hrun, hended, _, _, rfl, ?_, ⟨_, rfl⟩, hW, hsame.mono (by decide) (by decide)⟩
  show QI Z o r hp pl (2 : Int32) n0 _ T27.heap _
  exact ⟨_, rfl, N27, Zn, I27⟩
theorem own_d1_0 : decode prog_6_method_1_code 0 = .ok (.aload_n 0, 1) := by decide +kernel
theorem own_d1_1 : decode prog_6_method_1_code 1 = .ok (.invokespecial 1, 3) := by decide +kernel
theorem own_d1_4 : decode prog_6_method_1_code 4 = .ok (.aload_n 0, 1) := by decide +kernel
theorem own_d1_5 : decode prog_6_method_1_code 5 = .ok (.aload_n 1, 1) := by decide +kernel
theorem own_d1_6 : decode prog_6_method_1_code 6 = .ok (.putfield 7, 3) := by decide +kernel
theorem own_d1_9 : decode prog_6_method_1_code 9 = .ok (.aload_n 0, 1) := by decide +kernel
theorem own_d1_10 : decode prog_6_method_1_code 10 = .ok (.aload_n 1, 1) := by decide +kernel
theorem own_d1_11 : decode prog_6_method_1_code 11 = .ok (.arraylength, 1) := by decide +kernel
theorem own_d1_12 : decode prog_6_method_1_code 12 = .ok (.newarray .int, 2) := by decide +kernel
theorem own_d1_14 : decode prog_6_method_1_code 14 = .ok (.putfield 13, 3) := by decide +kernel
theorem own_d1_17 : decode prog_6_method_1_code 17 = .ok (.aload_n 0, 1) := by decide +kernel
theorem own_d1_18 : decode prog_6_method_1_code 18 = .ok (.aload_n 1, 1) := by decide +kernel
theorem own_d1_19 : decode prog_6_method_1_code 19 = .ok (.arraylength, 1) := by decide +kernel
theorem own_d1_20 : decode prog_6_method_1_code 20 = .ok (.newarray .int, 2) := by decide +kernel
theorem own_d1_22 : decode prog_6_method_1_code 22 = .ok (.putfield 17, 3) := by decide +kernel
theorem own_d1_25 : decode prog_6_method_1_code 25 = .ok (.return_, 1) := by decide +kernel
set_option maxRecDepth 65536 in
set_option maxHeartbeats 40000000 in
theorem rm1 (l : Launch) (Z : State) (a0 : Array Value) (hw : ∀ d ∈ tables_1, d.before a0 Z = true) (ws : List Jvm.Cond) (o r : Addr) (h0 : Heap) (n0 : Nat) (Z0 : n0 ≤ h0.size) (E0 : Exa Z h0 o "com/example/subterm/subterm/algorithm/IndexedHeap") (F10 : Fld Z h0 o "com/example/subterm/subterm/algorithm/IndexedHeap" "ranks" "[J" .null) (F20 : Fld Z h0 o "com/example/subterm/subterm/algorithm/IndexedHeap" "heap" "[I" .null) (F30 : Fld Z h0 o "com/example/subterm/subterm/algorithm/IndexedHeap" "places" "[I" .null) (F40 : Fld Z h0 o "com/example/subterm/subterm/algorithm/IndexedHeap" "size" "I" (.int (0 : Int32))) (R0 : Ra Z h0 r) (go : n0 ≤ o) (dro : r ≠ o) :
    MetFree l (⟨"com/example/subterm/subterm/algorithm/IndexedHeap", "<init>", "([J)V"⟩ : MethodName) (head1 (Jvm.Cond.code (⟨"com/example/subterm/subterm/algorithm/IndexedHeap", "<init>", "([J)V"⟩ : MethodName) prog_6_method_1_code 2 none :: ws) ({ frames := 1, cells := 2, slots := 6, locals := 12 } : Room)) (fun a U => a = #[(.ref o), (.ref r)] ∧ Z.Warmed39 U.vm ∧ U.heap = h0) (fun _ _ _ _ _ => True) (fun _ U oc U' => ∃ v L, oc = .returned v ∧ Q1 Z o r n0 v U'.heap L ∧ FrameEnd U oc U' L ({ frames := 1, cells := 2, slots := 6, locals := 12 } : Room).cells ({ frames := 1, cells := 2, slots := 6, locals := 12 } : Room).slots) := by
  refine MetFree.of_bodySF (plainFor_of_name own_pn0) hisR ?_
  intro p e s m args below meth c s₁ Bd hml0 hP hK
  obtain ⟨rfl, hZ, hh⟩ := hP
  have hx := Bd.exec
  have hby := Bd.bytes
  have hml : c.maxLocals = 2 := hml0
  have hown : s.vm.findClass "com/example/subterm/subterm/algorithm/IndexedHeap" = some m.cls := findClass_of_methodNamed Bd.named
  have hnm := (name_of_methodNamed Bd.named Bd.method).1
  have X0 : Stand p l e ({ frames := 1, cells := 2, slots := 6, locals := 12 } : Room) s m #[(.ref o), (.ref r)] below meth c s₁ [] 0 0 := Stand.of_body Bd
  have e0 : s₁.heap = h0 := by rw [← hh, Bd.state]; rfl
  have N0 := Fr.nil n0
  have G0 : Goes p e below s₁ (entryFrame m #[(.ref o), (.ref r)] 2) s₁ (mkF m 0 #[.val (.ref o), .val (.ref r)] []) := fun _ k => castTop (by first | (simp [entryFrame, mkF, argsToLocals, Value.category]; done) | rfl : (entryFrame m #[(.ref o), (.ref r)] 2) = mkF m 0 #[.val (.ref o), .val (.ref r)] []) k
  have Zn := Z0
  have G1 : Goes p e below s₁ (entryFrame m #[(.ref o), (.ref r)] 2) s₁ (mkF m 1 #[.val (.ref o), .val (.ref r)] [(.ref o)]) := fun _ k => G0 _ (by
      show Steps p.tables e below (s₁.setTop (mkF m 0 #[.val (.ref o), .val (.ref r)] [])) _
      refine XS.aloadN X0.here hx rfl (hb hby own_d1_0) rfl rfl ?_
      exact k)
  obtain ⟨T2, X2, e2, st2⟩ := initO X0 hx hZ hown (hw _ (List.mem_of_getElem? (i := 7) rfl)) (hw _ (List.mem_of_getElem? (i := 8) rfl)) (hw _ (List.mem_of_getElem? (i := 9) rfl)) e0 (g := (mkF m 1 #[.val (.ref o), .val (.ref r)] [(.ref o)])) rfl (by rw [hml]; rfl) rfl (hb hby own_d1_1) (by decide) (W := 0) (by show 2 * 0 + _ ≤ _; exact Nat.le_of_eq rfl) (by decide)
  have G2 : Goes p e below s₁ (entryFrame m #[(.ref o), (.ref r)] 2) T2 (mkF m 4 #[.val (.ref o), .val (.ref r)] []) := fun _ k => G1 _ (st2 _ k)
  have G3 : Goes p e below s₁ (entryFrame m #[(.ref o), (.ref r)] 2) T2 (mkF m 6 #[.val (.ref o), .val (.ref r)] [(.ref r), (.ref o)]) := fun _ k => G2 _ (by
      show Steps p.tables e below (T2.setTop (mkF m 4 #[.val (.ref o), .val (.ref r)] [])) _
      refine XS.aloadN X2.here hx rfl (hb hby own_d1_4) rfl rfl ?_
      show Steps p.tables e below (T2.setTop (mkF m 5 #[.val (.ref o), .val (.ref r)] [(.ref o)])) _
      refine XS.aloadN X2.here hx rfl (hb hby own_d1_5) rfl rfl ?_
      exact k)
  obtain ⟨T4, h4, X4, e4, W4, st4⟩ := putF X2 hx hZ hown (host := "") (Or.inl (hw _ (List.mem_of_getElem? (i := 10) rfl))) Via.refl e2 F10 E0 (Or.inr ⟨(hw _ (List.mem_of_getElem? (i := 11) rfl)), rfl, hnm⟩) (hw _ (List.mem_of_getElem? (i := 2) rfl)) (ty := (.array .long)) (by decide) rfl rfl (g := (mkF m 6 #[.val (.ref o), .val (.ref r)] [(.ref r), (.ref o)])) rfl rfl (hb hby own_d1_6)
  have G4 : Goes p e below s₁ (entryFrame m #[(.ref o), (.ref r)] 2) T4 (mkF m 9 #[.val (.ref o), .val (.ref r)] []) := fun _ k => G3 _ (st4 _ k)
  have N4 := Fr.snoc X4 N0 go
  have f5 := E0.wr W4
  have f6 := F20.other W4 (Or.inr (slot_ne (Or.inr (hw _ (List.mem_of_getElem? (i := 14) rfl))) (Or.inr (hw _ (List.mem_of_getElem? (i := 11) rfl))) (by decide) (t := (.array .int)) (t' := (.array .long)) (by decide) (by decide)))
  have f7 := F30.other W4 (Or.inr (slot_ne (Or.inr (hw _ (List.mem_of_getElem? (i := 16) rfl))) (Or.inr (hw _ (List.mem_of_getElem? (i := 11) rfl))) (by decide) (t := (.array .int)) (t' := (.array .long)) (by decide) (by decide)))
  have f8 := F40.other W4 (Or.inr (slot_ne (Or.inl (hw _ (List.mem_of_getElem? (i := 23) rfl))) (Or.inr (hw _ (List.mem_of_getElem? (i := 11) rfl))) (by decide) (t := .int) (t' := (.array .long)) (by decide) (by decide)))
  have f9 := Fld.same W4 F10
  have Zn : n0 ≤ h4.size := Nat.le_trans Zn (Nat.le_of_eq W4.size.symm)
  have f10 := own_Ra_other R0 W4 dro
  have G11 : Goes p e below s₁ (entryFrame m #[(.ref o), (.ref r)] 2) T4 (mkF m 11 #[.val (.ref o), .val (.ref r)] [(.ref r), (.ref o)]) := fun _ k => G4 _ (by
      show Steps p.tables e below (T4.setTop (mkF m 9 #[.val (.ref o), .val (.ref r)] [])) _
      refine XS.aloadN X4.here hx rfl (hb hby own_d1_9) rfl rfl ?_
      show Steps p.tables e below (T4.setTop (mkF m 10 #[.val (.ref o), .val (.ref r)] [(.ref o)])) _
      refine XS.aloadN X4.here hx rfl (hb hby own_d1_10) rfl rfl ?_
      exact k)
  have vc12 := f10
  obtain ⟨cl12, Ar12, S12, H12⟩ := vc12
  have G13 : Goes p e below s₁ (entryFrame m #[(.ref o), (.ref r)] 2) T4 (mkF m 12 #[.val (.ref o), .val (.ref r)] [(.int (3 : Int32)), (.ref o)]) := fun _ k => G11 _ (by
      show Steps p.tables e below (T4.setTop (mkF m 11 #[.val (.ref o), .val (.ref r)] [(.ref r), (.ref o)])) _
      refine X4.arraylength hx (by rw [e4]; exact Ar12.1) (State.isArrayOf_alike hZ.alike Ar12.2.1) (g := (mkF m 11 #[.val (.ref o), .val (.ref r)] [(.ref r), (.ref o)])) rfl rfl (hb hby own_d1_11) _ ?_
      rw [len_of (z := (3 : Int32)) S12 (by decide)]
      exact k)
  obtain ⟨T14, h14, k14, X14, e14, E14, A14, st14⟩ := newP X4 hx hZ (hw _ (List.mem_of_getElem? (i := 12) rfl)) e4 (g := (mkF m 12 #[.val (.ref o), .val (.ref r)] [(.int (3 : Int32)), (.ref o)])) rfl (hb hby own_d1_12) rfl (by decide) (cap := 3) (by decide) (by decide) (by decide) (by decide)
  obtain ⟨b14, g14⟩ : ∃ z, z = h4.size := ⟨_, rfl⟩
  rw [← g14] at A14 st14
  have V14 : Arv Z h14 b14 k14 .int (3 : Int32) [(.int (0 : Int32)), (.int (0 : Int32)), (.int (0 : Int32))] (.int (0 : Int32)) := (Arv.new A14 (by decide)).pad (pad_rep [] (.int (0 : Int32)) 3)
  have G14 : Goes p e below s₁ (entryFrame m #[(.ref o), (.ref r)] 2) T14 (mkF m 14 #[.val (.ref o), .val (.ref r)] [(.ref b14), (.ref o)]) := fun _ k => G13 _ (st14 _ k)
  have dho : b14 ≠ o := Ne.symm (Nat.ne_of_lt (Nat.lt_of_lt_of_le (f5).lt (Nat.le_of_eq g14.symm)))
  have drh : r ≠ b14 := Nat.ne_of_lt (Nat.lt_of_lt_of_le (by obtain ⟨c, A, -⟩ := f10; exact A.lt) (Nat.le_of_eq g14.symm))
  have ghp : n0 ≤ b14 := Nat.le_trans Zn (Nat.le_of_eq g14.symm)
  have Zn : n0 ≤ h14.size := Nat.le_trans Zn E14.1
  have f15 := f5.ext E14
  have f16 := f6.ext E14
  have f17 := f7.ext E14
  have f18 := f8.ext E14
  have f19 := f9.ext E14
  have f20 := own_Ra_ext f10 E14
  have Ah : Ia Z h14 b14 := by
    obtain ⟨c, A, -, S, -, H, -⟩ := V14
    refine ⟨c, A, S, fun k hk => ⟨0, ?_, by decide, by decide⟩⟩
    rw [H k (by rw [S, own_three]; exact hk)]
    rcases (by omega : k = 0 ∨ k = 1 ∨ k = 2) with rfl | rfl | rfl <;> rfl
  obtain ⟨T21, h21, X21, e21, W21, st21⟩ := putF X14 hx hZ hown (host := "") (Or.inl (hw _ (List.mem_of_getElem? (i := 13) rfl))) Via.refl e14 f16 f15 (Or.inr ⟨(hw _ (List.mem_of_getElem? (i := 14) rfl)), rfl, hnm⟩) (hw _ (List.mem_of_getElem? (i := 2) rfl)) (ty := (.array .int)) (by decide) rfl rfl (g := (mkF m 14 #[.val (.ref o), .val (.ref r)] [(.ref b14), (.ref o)])) rfl rfl (hb hby own_d1_14)
  have G21 : Goes p e below s₁ (entryFrame m #[(.ref o), (.ref r)] 2) T21 (mkF m 17 #[.val (.ref o), .val (.ref r)] []) := fun _ k => G14 _ (st21 _ k)
  have N21 := Fr.snoc X21 N4 go
  have f22 := f15.wr W21
  have f23 := f17.other W21 (Or.inr (slot_ne (Or.inr (hw _ (List.mem_of_getElem? (i := 16) rfl))) (Or.inr (hw _ (List.mem_of_getElem? (i := 14) rfl))) (by decide) (t := (.array .int)) (t' := (.array .int)) (by decide) (by decide)))
  have f24 := f18.other W21 (Or.inr (slot_ne (Or.inl (hw _ (List.mem_of_getElem? (i := 23) rfl))) (Or.inr (hw _ (List.mem_of_getElem? (i := 14) rfl))) (by decide) (t := .int) (t' := (.array .int)) (by decide) (by decide)))
  have f25 := f19.other W21 (Or.inr (slot_ne (Or.inr (hw _ (List.mem_of_getElem? (i := 11) rfl))) (Or.inr (hw _ (List.mem_of_getElem? (i := 14) rfl))) (by decide) (t := (.array .long)) (t' := (.array .int)) (by decide) (by decide)))
  have f26 := Fld.same W21 f16
  have Zn : n0 ≤ h21.size := Nat.le_trans Zn (Nat.le_of_eq W21.size.symm)
  have f27 := own_Ra_other f20 W21 dro
  have f28 := own_Ia_other Ah W21 dho
  have G29 : Goes p e below s₁ (entryFrame m #[(.ref o), (.ref r)] 2) T21 (mkF m 19 #[.val (.ref o), .val (.ref r)] [(.ref r), (.ref o)]) := fun _ k => G21 _ (by
      show Steps p.tables e below (T21.setTop (mkF m 17 #[.val (.ref o), .val (.ref r)] [])) _
      refine XS.aloadN X21.here hx rfl (hb hby own_d1_17) rfl rfl ?_
      show Steps p.tables e below (T21.setTop (mkF m 18 #[.val (.ref o), .val (.ref r)] [(.ref o)])) _
      refine XS.aloadN X21.here hx rfl (hb hby own_d1_18) rfl rfl ?_
      exact k)
  have vc30 := f27
  obtain ⟨cl30, Ar30, S30, H30⟩ := vc30
  have G31 : Goes p e below s₁ (entryFrame m #[(.ref o), (.ref r)] 2) T21 (mkF m 20 #[.val (.ref o), .val (.ref r)] [(.int (3 : Int32)), (.ref o)]) := fun _ k => G29 _ (by
      show Steps p.tables e below (T21.setTop (mkF m 19 #[.val (.ref o), .val (.ref r)] [(.ref r), (.ref o)])) _
      refine X21.arraylength hx (by rw [e21]; exact Ar30.1) (State.isArrayOf_alike hZ.alike Ar30.2.1) (g := (mkF m 19 #[.val (.ref o), .val (.ref r)] [(.ref r), (.ref o)])) rfl rfl (hb hby own_d1_19) _ ?_
      rw [len_of (z := (3 : Int32)) S30 (by decide)]
      exact k)
  obtain ⟨T32, h32, k32, X32, e32, E32, A32, st32⟩ := newP X21 hx hZ (hw _ (List.mem_of_getElem? (i := 12) rfl)) e21 (g := (mkF m 20 #[.val (.ref o), .val (.ref r)] [(.int (3 : Int32)), (.ref o)])) rfl (hb hby own_d1_20) rfl (by decide) (cap := 3) (by decide) (by decide) (by decide) (by decide)
  obtain ⟨b32, g32⟩ : ∃ z, z = h21.size := ⟨_, rfl⟩
  rw [← g32] at A32 st32
  have V32 : Arv Z h32 b32 k32 .int (3 : Int32) [(.int (0 : Int32)), (.int (0 : Int32)), (.int (0 : Int32))] (.int (0 : Int32)) := (Arv.new A32 (by decide)).pad (pad_rep [] (.int (0 : Int32)) 3)
  have G32 : Goes p e below s₁ (entryFrame m #[(.ref o), (.ref r)] 2) T32 (mkF m 22 #[.val (.ref o), .val (.ref r)] [(.ref b32), (.ref o)]) := fun _ k => G31 _ (st32 _ k)
  have dpo : b32 ≠ o := Ne.symm (Nat.ne_of_lt (Nat.lt_of_lt_of_le (f22).lt (Nat.le_of_eq g32.symm)))
  have drp : r ≠ b32 := Nat.ne_of_lt (Nat.lt_of_lt_of_le (by obtain ⟨c, A, -⟩ := f27; exact A.lt) (Nat.le_of_eq g32.symm))
  have dhp : b14 ≠ b32 := Nat.ne_of_lt (Nat.lt_of_lt_of_le (by obtain ⟨c, A, -⟩ := f28; exact A.lt) (Nat.le_of_eq g32.symm))
  have gpl : n0 ≤ b32 := Nat.le_trans Zn (Nat.le_of_eq g32.symm)
  have Zn : n0 ≤ h32.size := Nat.le_trans Zn E32.1
  have f33 := f22.ext E32
  have f34 := f23.ext E32
  have f35 := f24.ext E32
  have f36 := f25.ext E32
  have f37 := f26.ext E32
  have f38 := own_Ra_ext f27 E32
  have f39 := own_Ia_ext f28 E32
  have Pp : Pa Z h32 b32 := by obtain ⟨c, A, -, S, -⟩ := V32; exact ⟨c, A, S⟩
  obtain ⟨T40, h40, X40, e40, W40, st40⟩ := putF X32 hx hZ hown (host := "") (Or.inl (hw _ (List.mem_of_getElem? (i := 15) rfl))) Via.refl e32 f34 f33 (Or.inr ⟨(hw _ (List.mem_of_getElem? (i := 16) rfl)), rfl, hnm⟩) (hw _ (List.mem_of_getElem? (i := 2) rfl)) (ty := (.array .int)) (by decide) rfl rfl (g := (mkF m 22 #[.val (.ref o), .val (.ref r)] [(.ref b32), (.ref o)])) rfl rfl (hb hby own_d1_22)
  have G40 : Goes p e below s₁ (entryFrame m #[(.ref o), (.ref r)] 2) T40 (mkF m 25 #[.val (.ref o), .val (.ref r)] []) := fun _ k => G32 _ (st40 _ k)
  have N40 := Fr.snoc X40 N21 go
  have f41 := f33.wr W40
  have f42 := f35.other W40 (Or.inr (slot_ne (Or.inl (hw _ (List.mem_of_getElem? (i := 23) rfl))) (Or.inr (hw _ (List.mem_of_getElem? (i := 16) rfl))) (by decide) (t := .int) (t' := (.array .int)) (by decide) (by decide)))
  have f43 := f36.other W40 (Or.inr (slot_ne (Or.inr (hw _ (List.mem_of_getElem? (i := 11) rfl))) (Or.inr (hw _ (List.mem_of_getElem? (i := 16) rfl))) (by decide) (t := (.array .long)) (t' := (.array .int)) (by decide) (by decide)))
  have f44 := f37.other W40 (Or.inr (slot_ne (Or.inr (hw _ (List.mem_of_getElem? (i := 14) rfl))) (Or.inr (hw _ (List.mem_of_getElem? (i := 16) rfl))) (by decide) (t := (.array .int)) (t' := (.array .int)) (by decide) (by decide)))
  have f45 := Fld.same W40 f34
  have Zn : n0 ≤ h40.size := Nat.le_trans Zn (Nat.le_of_eq W40.size.symm)
  have f46 := own_Ra_other f38 W40 dro
  have f47 := own_Ia_other f39 W40 dho
  have f48 := own_Pa_other Pp W40 dpo
  obtain ⟨fs, hr, hrun, hended, hW, hsame⟩ := X40.leave (v := none) (fun _ => rfl)
  refine ⟨_, _, G40 _ (X40.returnOut hx Bd.returns (hb hby own_d1_25) hr), hrun, hended, _, _, rfl, ?_, ⟨_, rfl⟩, hW, hsame.mono (by decide) (by decide)⟩
  show Q1 Z o r n0 _ T40.heap _
  rw [e40]
  exact ⟨_, _, rfl, N40, Zn, ⟨go, ghp, gpl, dro, dho, dpo, drh, drp, dhp⟩, f41, f43, f44, f45, f42, f46, f47, f48⟩
set_option maxRecDepth 65536 in
set_option maxHeartbeats 40000000 in
theorem rm0 (l : Launch) (Z : State) (a0 : Array Value) (hw : ∀ d ∈ tables_1, d.before a0 Z = true) (ws : List Jvm.Cond) (q1 q2 q3 : Int64) (p4 : Int32) (h0 : Heap) (n0 : Nat) (Z0 : n0 ≤ h0.size)  :
    MetFree l x (head1 (Jvm.Cond.code x code maxLocals ret :: ws) room_1) (fun a U => a = #[(.long q1), (.long q2), (.long q3), (.int p4)] ∧ Z.Warmed39 U.vm ∧ U.heap = h0) (fun _ _ _ _ _ => True) (fun _ U oc U' => ∃ v L, oc = .returned v ∧ Q0 n0 v U'.heap L ∧ FrameEnd U oc U' L 16 128) := by
  refine MetFree.of_bodySF (plainFor_of_name own_pn1) hisR ?_
  intro p e s m args below meth c s₁ Bd hml0 hP hK
  obtain ⟨rfl, hZ, hh⟩ := hP
  have hx := Bd.exec
  have hby := Bd.bytes
  have hml : c.maxLocals = 10 := hml0
  have hown : s.vm.findClass "com/example/subterm/subterm/algorithm/IndexedHeapIsEmptyPinLaw" = some m.cls := findClass_of_methodNamed Bd.named
  have hnm := (name_of_methodNamed Bd.named Bd.method).1
  have X0 : Stand p l e room_1 s m #[(.long q1), (.long q2), (.long q3), (.int p4)] below meth c s₁ [] 0 0 := Stand.of_body Bd
  have e0 : s₁.heap = h0 := by rw [← hh, Bd.state]; rfl
  have N0 := Fr.nil n0
  have G0 : Goes p e below s₁ (entryFrame m #[(.long q1), (.long q2), (.long q3), (.int p4)] maxLocals) s₁ (mkF m 0 #[.val (.long q1), .second, .val (.long q2), .second, .val (.long q3), .second, .val (.int p4), .unset, .unset, .unset] []) := fun _ k => castTop (by first | (simp [entryFrame, mkF, argsToLocals, Value.category, maxLocals]; done) | rfl : (entryFrame m #[(.long q1), (.long q2), (.long q3), (.int p4)] maxLocals) = mkF m 0 #[.val (.long q1), .second, .val (.long q2), .second, .val (.long q3), .second, .val (.int p4), .unset, .unset, .unset] []) k
  have Zn := Z0
  have G1 : Goes p e below s₁ (entryFrame m #[(.long q1), (.long q2), (.long q3), (.int p4)] maxLocals) s₁ (mkF m 1 #[.val (.long q1), .second, .val (.long q2), .second, .val (.long q3), .second, .val (.int p4), .unset, .unset, .unset] [(.int (3 : Int32))]) := fun _ k => G0 _ (by
      show Steps p.tables e below (s₁.setTop (mkF m 0 #[.val (.long q1), .second, .val (.long q2), .second, .val (.long q3), .second, .val (.int p4), .unset, .unset, .unset] [])) _
      refine XS.iconst X0.here hx rfl (hb hby at_0) ?_
      exact k)
  obtain ⟨T2, h2, k2, X2, e2, E2, A2, st2⟩ := newP X0 hx hZ (hw _ (List.mem_of_getElem? (i := 0) rfl)) e0 (g := (mkF m 1 #[.val (.long q1), .second, .val (.long q2), .second, .val (.long q3), .second, .val (.int p4), .unset, .unset, .unset] [(.int (3 : Int32))])) rfl (hb hby at_1) rfl (by decide) (cap := 3) (by decide) (by decide) (by decide) (by decide)
  obtain ⟨b2, g2⟩ : ∃ z, z = h0.size := ⟨_, rfl⟩
  rw [← g2] at A2 st2
  have V2 : Arv Z h2 b2 k2 .long (3 : Int32) [(.long (0 : Int64)), (.long (0 : Int64)), (.long (0 : Int64))] (.long (0 : Int64)) := (Arv.new A2 (by decide)).pad (pad_rep [] (.long (0 : Int64)) 3)
  have G2 : Goes p e below s₁ (entryFrame m #[(.long q1), (.long q2), (.long q3), (.int p4)] maxLocals) T2 (mkF m 3 #[.val (.long q1), .second, .val (.long q2), .second, .val (.long q3), .second, .val (.int p4), .unset, .unset, .unset] [(.ref b2)]) := fun _ k => G1 _ (st2 _ k)
  have gr : n0 ≤ b2 := Nat.le_trans Zn (Nat.le_of_eq g2.symm)
  have Zn : n0 ≤ h2.size := Nat.le_trans Zn E2.1
  have G3 : Goes p e below s₁ (entryFrame m #[(.long q1), (.long q2), (.long q3), (.int p4)] maxLocals) T2 (mkF m 6 #[.val (.long q1), .second, .val (.long q2), .second, .val (.long q3), .second, .val (.int p4), .unset, .unset, .unset] [(.long q1), (.int (0 : Int32)), (.ref b2), (.ref b2)]) := fun _ k => G2 _ (by
      show Steps p.tables e below (T2.setTop (mkF m 3 #[.val (.long q1), .second, .val (.long q2), .second, .val (.long q3), .second, .val (.int p4), .unset, .unset, .unset] [(.ref b2)])) _
      refine XS.dup X2.here hx rfl (hb hby at_3) rfl rfl ?_
      show Steps p.tables e below (T2.setTop (mkF m 4 #[.val (.long q1), .second, .val (.long q2), .second, .val (.long q3), .second, .val (.int p4), .unset, .unset, .unset] [(.ref b2), (.ref b2)])) _
      refine XS.iconst X2.here hx rfl (hb hby at_4) ?_
      show Steps p.tables e below (T2.setTop (mkF m 5 #[.val (.long q1), .second, .val (.long q2), .second, .val (.long q3), .second, .val (.int p4), .unset, .unset, .unset] [(.int (0 : Int32)), (.ref b2), (.ref b2)])) _
      refine XS.lloadN X2.here hx rfl (hb hby at_5) rfl ?_
      exact k)
  have vc4 := V2
  obtain ⟨cl4, Ar4, q4, S4, M4, H4, J4⟩ := vc4
  have hin4 : ¬ ((0 : Int32) < 0 ∨ cl4.slots.size ≤ ((0 : Int32)).toNatClampNeg) := inb_of S4 ⟨by decide, by decide⟩
  obtain ⟨T4, h4, X4, e4, W4, st4⟩ := stJ X2 hx hZ e2 Ar4 (j := (0 : Int32)) hin4 (g := (mkF m 6 #[.val (.long q1), .second, .val (.long q2), .second, .val (.long q3), .second, .val (.int p4), .unset, .unset, .unset] [(.long q1), (.int (0 : Int32)), (.ref b2), (.ref b2)])) rfl rfl (hb hby at_6)
  have V4 : Arv Z h4 b2 k2 .long (3 : Int32) [(.long q1), (.long (0 : Int64)), (.long (0 : Int64))] (.long (0 : Int64)) := Arv.set Ar4 q4 S4 M4 H4 J4 rfl W4 0 rfl (Nat.le_of_ble_eq_true rfl)
  have G4 : Goes p e below s₁ (entryFrame m #[(.long q1), (.long q2), (.long q3), (.int p4)] maxLocals) T4 (mkF m 7 #[.val (.long q1), .second, .val (.long q2), .second, .val (.long q3), .second, .val (.int p4), .unset, .unset, .unset] [(.ref b2)]) := fun _ k => G3 _ (st4 _ k)
  have N4 := Fr.snoc X4 N0 gr
  have Zn : n0 ≤ h4.size := Nat.le_trans Zn (Nat.le_of_eq W4.size.symm)
  have G5 : Goes p e below s₁ (entryFrame m #[(.long q1), (.long q2), (.long q3), (.int p4)] maxLocals) T4 (mkF m 10 #[.val (.long q1), .second, .val (.long q2), .second, .val (.long q3), .second, .val (.int p4), .unset, .unset, .unset] [(.long q2), (.int (1 : Int32)), (.ref b2), (.ref b2)]) := fun _ k => G4 _ (by
      show Steps p.tables e below (T4.setTop (mkF m 7 #[.val (.long q1), .second, .val (.long q2), .second, .val (.long q3), .second, .val (.int p4), .unset, .unset, .unset] [(.ref b2)])) _
      refine XS.dup X4.here hx rfl (hb hby at_7) rfl rfl ?_
      show Steps p.tables e below (T4.setTop (mkF m 8 #[.val (.long q1), .second, .val (.long q2), .second, .val (.long q3), .second, .val (.int p4), .unset, .unset, .unset] [(.ref b2), (.ref b2)])) _
      refine XS.iconst X4.here hx rfl (hb hby at_8) ?_
      show Steps p.tables e below (T4.setTop (mkF m 9 #[.val (.long q1), .second, .val (.long q2), .second, .val (.long q3), .second, .val (.int p4), .unset, .unset, .unset] [(.int (1 : Int32)), (.ref b2), (.ref b2)])) _
      refine XS.lloadN X4.here hx rfl (hb hby at_9) rfl ?_
      exact k)
  have vc6 := V4
  obtain ⟨cl6, Ar6, q6, S6, M6, H6, J6⟩ := vc6
  have hin6 : ¬ ((1 : Int32) < 0 ∨ cl6.slots.size ≤ ((1 : Int32)).toNatClampNeg) := inb_of S6 ⟨by decide, by decide⟩
  obtain ⟨T6, h6, X6, e6, W6, st6⟩ := stJ X4 hx hZ e4 Ar6 (j := (1 : Int32)) hin6 (g := (mkF m 10 #[.val (.long q1), .second, .val (.long q2), .second, .val (.long q3), .second, .val (.int p4), .unset, .unset, .unset] [(.long q2), (.int (1 : Int32)), (.ref b2), (.ref b2)])) rfl rfl (hb hby at_10)
  have V6 : Arv Z h6 b2 k2 .long (3 : Int32) [(.long q1), (.long q2), (.long (0 : Int64))] (.long (0 : Int64)) := Arv.set Ar6 q6 S6 M6 H6 J6 rfl W6 1 rfl (Nat.le_of_ble_eq_true rfl)
  have G6 : Goes p e below s₁ (entryFrame m #[(.long q1), (.long q2), (.long q3), (.int p4)] maxLocals) T6 (mkF m 11 #[.val (.long q1), .second, .val (.long q2), .second, .val (.long q3), .second, .val (.int p4), .unset, .unset, .unset] [(.ref b2)]) := fun _ k => G5 _ (st6 _ k)
  have N6 := Fr.snoc X6 N4 gr
  have Zn : n0 ≤ h6.size := Nat.le_trans Zn (Nat.le_of_eq W6.size.symm)
  have G7 : Goes p e below s₁ (entryFrame m #[(.long q1), (.long q2), (.long q3), (.int p4)] maxLocals) T6 (mkF m 15 #[.val (.long q1), .second, .val (.long q2), .second, .val (.long q3), .second, .val (.int p4), .unset, .unset, .unset] [(.long q3), (.int (2 : Int32)), (.ref b2), (.ref b2)]) := fun _ k => G6 _ (by
      show Steps p.tables e below (T6.setTop (mkF m 11 #[.val (.long q1), .second, .val (.long q2), .second, .val (.long q3), .second, .val (.int p4), .unset, .unset, .unset] [(.ref b2)])) _
      refine XS.dup X6.here hx rfl (hb hby at_11) rfl rfl ?_
      show Steps p.tables e below (T6.setTop (mkF m 12 #[.val (.long q1), .second, .val (.long q2), .second, .val (.long q3), .second, .val (.int p4), .unset, .unset, .unset] [(.ref b2), (.ref b2)])) _
      refine XS.iconst X6.here hx rfl (hb hby at_12) ?_
      show Steps p.tables e below (T6.setTop (mkF m 13 #[.val (.long q1), .second, .val (.long q2), .second, .val (.long q3), .second, .val (.int p4), .unset, .unset, .unset] [(.int (2 : Int32)), (.ref b2), (.ref b2)])) _
      refine XS.lload X6.here hx rfl (hb hby at_13) rfl ?_
      exact k)
  have vc8 := V6
  obtain ⟨cl8, Ar8, q8, S8, M8, H8, J8⟩ := vc8
  have hin8 : ¬ ((2 : Int32) < 0 ∨ cl8.slots.size ≤ ((2 : Int32)).toNatClampNeg) := inb_of S8 ⟨by decide, by decide⟩
  obtain ⟨T8, h8, X8, e8, W8, st8⟩ := stJ X6 hx hZ e6 Ar8 (j := (2 : Int32)) hin8 (g := (mkF m 15 #[.val (.long q1), .second, .val (.long q2), .second, .val (.long q3), .second, .val (.int p4), .unset, .unset, .unset] [(.long q3), (.int (2 : Int32)), (.ref b2), (.ref b2)])) rfl rfl (hb hby at_15)
  have V8 : Arv Z h8 b2 k2 .long (3 : Int32) [(.long q1), (.long q2), (.long q3)] (.long (0 : Int64)) := Arv.set Ar8 q8 S8 M8 H8 J8 rfl W8 2 rfl (Nat.le_of_ble_eq_true rfl)
  have G8 : Goes p e below s₁ (entryFrame m #[(.long q1), (.long q2), (.long q3), (.int p4)] maxLocals) T8 (mkF m 16 #[.val (.long q1), .second, .val (.long q2), .second, .val (.long q3), .second, .val (.int p4), .unset, .unset, .unset] [(.ref b2)]) := fun _ k => G7 _ (st8 _ k)
  have N8 := Fr.snoc X8 N6 gr
  have Zn : n0 ≤ h8.size := Nat.le_trans Zn (Nat.le_of_eq W8.size.symm)
  have Rr : Ra Z h8 b2 := by
    obtain ⟨c, A, -, S, -, H, -⟩ := V8
    refine ⟨c, A, S, fun k hk => ?_⟩
    have q := H k (by rw [S, own_three]; exact hk)
    rcases (by omega : k = 0 ∨ k = 1 ∨ k = 2) with rfl | rfl | rfl <;> exact ⟨_, q⟩
  have G9 : Goes p e below s₁ (entryFrame m #[(.long q1), (.long q2), (.long q3), (.int p4)] maxLocals) T8 (mkF m 18 #[.val (.long q1), .second, .val (.long q2), .second, .val (.long q3), .second, .val (.int p4), .val (.ref b2), .unset, .unset] []) := fun _ k => G8 _ (by
      show Steps p.tables e below (T8.setTop (mkF m 16 #[.val (.long q1), .second, .val (.long q2), .second, .val (.long q3), .second, .val (.int p4), .unset, .unset, .unset] [(.ref b2)])) _
      refine XS.astore X8.here hx rfl (hb hby at_16) rfl rfl (l' := #[.val (.long q1), .second, .val (.long q2), .second, .val (.long q3), .second, .val (.int p4), .val (.ref b2), .unset, .unset]) rfl ?_
      exact k)
  obtain ⟨T10, h10, X10, e10, E10, A10, D10, -, st10⟩ := newO X8 hx hZ hown (hw _ (List.mem_of_getElem? (i := 1) rfl)) (hw _ (List.mem_of_getElem? (i := 2) rfl)) (hw _ (List.mem_of_getElem? (i := 3) rfl)) e8 (g := (mkF m 18 #[.val (.long q1), .second, .val (.long q2), .second, .val (.long q3), .second, .val (.int p4), .val (.ref b2), .unset, .unset] [])) rfl (hb hby at_18) (by decide) (by decide)
  obtain ⟨b10, g10⟩ : ∃ z, z = h8.size := ⟨_, rfl⟩
  rw [← g10] at A10 D10 st10
  have Franks_10 : Fld Z h10 b10 "com/example/subterm/subterm/algorithm/IndexedHeap" "ranks" "[J" .null := D10 (Or.inr (hw _ (List.mem_of_getElem? (i := 11) rfl))) (ty := (.array .long)) (by decide)
  have Fheap_10 : Fld Z h10 b10 "com/example/subterm/subterm/algorithm/IndexedHeap" "heap" "[I" .null := D10 (Or.inr (hw _ (List.mem_of_getElem? (i := 14) rfl))) (ty := (.array .int)) (by decide)
  have Fplaces_10 : Fld Z h10 b10 "com/example/subterm/subterm/algorithm/IndexedHeap" "places" "[I" .null := D10 (Or.inr (hw _ (List.mem_of_getElem? (i := 16) rfl))) (ty := (.array .int)) (by decide)
  have Fsize_10 : Fld Z h10 b10 "com/example/subterm/subterm/algorithm/IndexedHeap" "size" "I" (.int (0 : Int32)) := D10 (Or.inl (hw _ (List.mem_of_getElem? (i := 23) rfl))) (ty := .int) (by decide)
  have G10 : Goes p e below s₁ (entryFrame m #[(.long q1), (.long q2), (.long q3), (.int p4)] maxLocals) T10 (mkF m 21 #[.val (.long q1), .second, .val (.long q2), .second, .val (.long q3), .second, .val (.int p4), .val (.ref b2), .unset, .unset] [(.ref b10)]) := fun _ k => G9 _ (st10 _ k)
  have dro : b2 ≠ b10 := Nat.ne_of_lt (Nat.lt_of_lt_of_le (by obtain ⟨c, A, -⟩ := Rr; exact A.lt) (Nat.le_of_eq g10.symm))
  have go : n0 ≤ b10 := Nat.le_trans Zn (Nat.le_of_eq g10.symm)
  have Zn : n0 ≤ h10.size := Nat.le_trans Zn E10.1
  have f11 := own_Ra_ext Rr E10
  have G12 : Goes p e below s₁ (entryFrame m #[(.long q1), (.long q2), (.long q3), (.int p4)] maxLocals) T10 (mkF m 24 #[.val (.long q1), .second, .val (.long q2), .second, .val (.long q3), .second, .val (.int p4), .val (.ref b2), .unset, .unset] [(.ref b2), (.ref b10), (.ref b10)]) := fun _ k => G10 _ (by
      show Steps p.tables e below (T10.setTop (mkF m 21 #[.val (.long q1), .second, .val (.long q2), .second, .val (.long q3), .second, .val (.int p4), .val (.ref b2), .unset, .unset] [(.ref b10)])) _
      refine XS.dup X10.here hx rfl (hb hby at_21) rfl rfl ?_
      show Steps p.tables e below (T10.setTop (mkF m 22 #[.val (.long q1), .second, .val (.long q2), .second, .val (.long q3), .second, .val (.int p4), .val (.ref b2), .unset, .unset] [(.ref b10), (.ref b10)])) _
      refine XS.aload X10.here hx rfl (hb hby at_22) rfl rfl ?_
      exact k)
  obtain ⟨_, _, ⟨T13, L13, k13, n13⟩, -, X13, ⟨Lc13, hQ13, l13, y13, z13⟩, st13⟩ := X10.specialBack hx (y := (⟨"com/example/subterm/subterm/algorithm/IndexedHeap", "<init>", "([J)V"⟩ : MethodName)) rfl hown (mvT hZ (hw _ (List.mem_of_getElem? (i := 4) rfl))) (mvT hZ (hw _ (List.mem_of_getElem? (i := 5) rfl))) (mvT hZ (hw _ (List.mem_of_getElem? (i := 6) rfl))) (by decide) (backOf (W := 1) (rm1 l Z a0 hw [] b10 b2 h10 n0 Zn A10 Franks_10 Fheap_10 Fplaces_10 Fsize_10 f11 go dro) hZ (hw _ (List.mem_of_getElem? (i := 6) rfl)) (hw _ (List.mem_of_getElem? (i := 3) rfl)) (by decide) (by decide)) (g := (mkF m 24 #[.val (.long q1), .second, .val (.long q2), .second, .val (.long q3), .second, .val (.int p4), .val (.ref b2), .unset, .unset] [(.ref b2), (.ref b10), (.ref b10)])) rfl (by rw [hml]; rfl) (Steps.refl _) (a := b10) (argsL := [(.ref b2)]) (rest := [(.ref b10)]) (lenOf own_pd2 rfl) rfl (by show 2 * 0 + _ ≤ _; exact Nat.le_of_eq rfl) (hb hby at_24) (fun _ _ => ⟨rfl, e10, (by decide : 2 + 2 ≤ _), (by decide : 7 + 6 ≤ _)⟩)
  dsimp only [Pt.U, Pt.locs, Pt.cells, Pt.slots] at X13 l13 y13 z13 st13 hQ13
  subst l13 y13 z13
  obtain ⟨hp, pl, rfl, N13q, Zn, D, I13⟩ := hQ13
  have N13 := Fr.app N8 N13q
  have G13 : Goes p e below s₁ (entryFrame m #[(.long q1), (.long q2), (.long q3), (.int p4)] maxLocals) T13 (mkF m 27 #[.val (.long q1), .second, .val (.long q2), .second, .val (.long q3), .second, .val (.int p4), .val (.ref b2), .unset, .unset] [(.ref b10)]) := fun _ k => G12 _ (st13.trans k)
  have G14 : Goes p e below s₁ (entryFrame m #[(.long q1), (.long q2), (.long q3), (.int p4)] maxLocals) T13 (mkF m 35 #[.val (.long q1), .second, .val (.long q2), .second, .val (.long q3), .second, .val (.int p4), .val (.ref b2), .val (.ref b10), .val (.int (p4 &&& (3 : Int32)))] []) := fun _ k => G13 _ (by
      show Steps p.tables e below (T13.setTop (mkF m 27 #[.val (.long q1), .second, .val (.long q2), .second, .val (.long q3), .second, .val (.int p4), .val (.ref b2), .unset, .unset] [(.ref b10)])) _
      refine XS.astore X13.here hx rfl (hb hby at_27) rfl rfl (l' := #[.val (.long q1), .second, .val (.long q2), .second, .val (.long q3), .second, .val (.int p4), .val (.ref b2), .val (.ref b10), .unset]) rfl ?_
      show Steps p.tables e below (T13.setTop (mkF m 29 #[.val (.long q1), .second, .val (.long q2), .second, .val (.long q3), .second, .val (.int p4), .val (.ref b2), .val (.ref b10), .unset] [])) _
      refine XS.iload X13.here hx rfl (hb hby at_29) rfl ?_
      show Steps p.tables e below (T13.setTop (mkF m 31 #[.val (.long q1), .second, .val (.long q2), .second, .val (.long q3), .second, .val (.int p4), .val (.ref b2), .val (.ref b10), .unset] [(.int p4)])) _
      refine XS.iconst X13.here hx rfl (hb hby at_31) ?_
      show Steps p.tables e below (T13.setTop (mkF m 32 #[.val (.long q1), .second, .val (.long q2), .second, .val (.long q3), .second, .val (.int p4), .val (.ref b2), .val (.ref b10), .unset] [(.int (3 : Int32)), (.int p4)])) _
      refine XS.iand X13.here hx rfl (hb hby at_32) rfl ?_
      show Steps p.tables e below (T13.setTop (mkF m 33 #[.val (.long q1), .second, .val (.long q2), .second, .val (.long q3), .second, .val (.int p4), .val (.ref b2), .val (.ref b10), .unset] [(.int (p4 &&& (3 : Int32)))])) _
      refine XS.istore X13.here hx rfl (hb hby at_33) rfl (l' := #[.val (.long q1), .second, .val (.long q2), .second, .val (.long q3), .second, .val (.int p4), .val (.ref b2), .val (.ref b10), .val (.int (p4 &&& (3 : Int32)))]) rfl ?_
      exact k)
  rcases own_and3 p4 with hs | hs | hs | hs
  · rw [hs] at G14
    have G15 : Goes p e below s₁ (entryFrame m #[(.long q1), (.long q2), (.long q3), (.int p4)] maxLocals) T13 (mkF m 37 #[.val (.long q1), .second, .val (.long q2), .second, .val (.long q3), .second, .val (.int p4), .val (.ref b2), .val (.ref b10), .val (.int (0 : Int32))] [(.ref b10)]) := fun _ k => G14 _ (by
        show Steps p.tables e below (T13.setTop (mkF m 35 #[.val (.long q1), .second, .val (.long q2), .second, .val (.long q3), .second, .val (.int p4), .val (.ref b2), .val (.ref b10), .val (.int (0 : Int32))] [])) _
        refine XS.aload X13.here hx rfl (hb hby at_35) rfl rfl ?_
        exact k)
    obtain ⟨cq16, kq16, q16a, q16b, q16c⟩ := isOf hZ rfl (I13).1
    obtain ⟨_, _, ⟨T16, L16, k16, n16⟩, -, X16, ⟨Lc16, hQ16, l16, y16, z16⟩, st16⟩ := X13.virtualBack hx (y := (⟨"com/example/subterm/subterm/algorithm/IndexedHeap", "isEmpty", "()Z"⟩ : MethodName)) (z := (⟨"com/example/subterm/subterm/algorithm/IndexedHeap", "isEmpty", "()Z"⟩ : MethodName)) hown (mvT hZ (hw _ (List.mem_of_getElem? (i := 17) rfl))) (mvT hZ (hw _ (List.mem_of_getElem? (i := 18) rfl))) (notFace_of_selects (args := #[]) (mvT hZ (hw _ (List.mem_of_getElem? (i := 20) rfl)))) (mvT hZ (hw _ (List.mem_of_getElem? (i := 20) rfl))) (mvT hZ (hw _ (List.mem_of_getElem? (i := 19) rfl))) (by decide) (backOf (W := 0) (rm3 l Z a0 hw [] b10 b2 hp pl (0 : Int32) T13.heap n0 Zn I13) hZ (hw _ (List.mem_of_getElem? (i := 21) rfl)) (hw _ (List.mem_of_getElem? (i := 3) rfl)) (by decide) (by decide)) q16a q16c (g := (mkF m 37 #[.val (.long q1), .second, .val (.long q2), .second, .val (.long q3), .second, .val (.int p4), .val (.ref b2), .val (.ref b10), .val (.int (0 : Int32))] [(.ref b10)])) rfl (by rw [hml]; rfl) (Steps.refl _) (argsL := []) (rest := []) (lenOf own_pd3 rfl) rfl (by show 2 * 0 + _ ≤ _; exact Nat.le_of_eq rfl) (hb hby at_37) (fun _ _ => ⟨rfl, rfl, (by decide : 4 + 0 ≤ _), (by decide : 13 + 0 ≤ _)⟩)
    dsimp only [Pt.U, Pt.locs, Pt.cells, Pt.slots] at X16 l16 y16 z16 st16 hQ16
    subst l16 y16 z16
    obtain ⟨rfl, N16q, hh16⟩ := hQ16
    have N16 := Fr.app N13 N16q
    have G16 : Goes p e below s₁ (entryFrame m #[(.long q1), (.long q2), (.long q3), (.int p4)] maxLocals) T16 (mkF m 40 #[.val (.long q1), .second, .val (.long q2), .second, .val (.long q3), .second, .val (.int p4), .val (.ref b2), .val (.ref b10), .val (.int (0 : Int32))] [(.int (if (0 : Int32) = 0 then 1 else 0))]) := fun _ k => G15 _ (st16.trans k)
    have G17 : Goes p e below s₁ (entryFrame m #[(.long q1), (.long q2), (.long q3), (.int p4)] maxLocals) T16 (mkF m 40 #[.val (.long q1), .second, .val (.long q2), .second, .val (.long q3), .second, .val (.int p4), .val (.ref b2), .val (.ref b10), .val (.int (0 : Int32))] [(.int (1 : Int32))]) := G16
    have G18 : Goes p e below s₁ (entryFrame m #[(.long q1), (.long q2), (.long q3), (.int p4)] maxLocals) T16 (mkF m 45 #[.val (.long q1), .second, .val (.long q2), .second, .val (.long q3), .second, .val (.int p4), .val (.ref b2), .val (.ref b10), .val (.int (0 : Int32))] []) := fun _ k => G17 _ (by
        show Steps p.tables e below (T16.setTop (mkF m 40 #[.val (.long q1), .second, .val (.long q2), .second, .val (.long q3), .second, .val (.int p4), .val (.ref b2), .val (.ref b10), .val (.int (0 : Int32))] [(.int (1 : Int32))])) _
        refine XS.ifYes X16.here hx rfl (pc0 := 40) (pc' := 45) rfl (hb hby at_40) rfl ((if0 _ _).trans (feq (by decide : ¬ ((1 : Int32) = (0 : Int32)))).2) (by decide) (by decide) ?_
        exact k)
    have G19 : Goes p e below s₁ (entryFrame m #[(.long q1), (.long q2), (.long q3), (.int p4)] maxLocals) T16 (mkF m 48 #[.val (.long q1), .second, .val (.long q2), .second, .val (.long q3), .second, .val (.int p4), .val (.ref b2), .val (.ref b10), .val (.int (0 : Int32))] [(.int (1 : Int32)), (.int (0 : Int32))]) := fun _ k => G18 _ (by
        show Steps p.tables e below (T16.setTop (mkF m 45 #[.val (.long q1), .second, .val (.long q2), .second, .val (.long q3), .second, .val (.int p4), .val (.ref b2), .val (.ref b10), .val (.int (0 : Int32))] [])) _
        refine XS.iload X16.here hx rfl (hb hby at_45) rfl ?_
        show Steps p.tables e below (T16.setTop (mkF m 47 #[.val (.long q1), .second, .val (.long q2), .second, .val (.long q3), .second, .val (.int p4), .val (.ref b2), .val (.ref b10), .val (.int (0 : Int32))] [(.int (0 : Int32))])) _
        refine XS.iconst X16.here hx rfl (hb hby at_47) ?_
        exact k)
    have G20 : Goes p e below s₁ (entryFrame m #[(.long q1), (.long q2), (.long q3), (.int p4)] maxLocals) T16 (mkF m 57 #[.val (.long q1), .second, .val (.long q2), .second, .val (.long q3), .second, .val (.int p4), .val (.ref b2), .val (.ref b10), .val (.int (0 : Int32))] []) := fun _ k => G19 _ (by
        show Steps p.tables e below (T16.setTop (mkF m 48 #[.val (.long q1), .second, .val (.long q2), .second, .val (.long q3), .second, .val (.int p4), .val (.ref b2), .val (.ref b10), .val (.int (0 : Int32))] [(.int (1 : Int32)), (.int (0 : Int32))])) _
        refine XS.icmpYes X16.here hx rfl (pc0 := 48) (pc' := 57) rfl (hb hby at_48) rfl (tlt (by decide : (0 : Int32) < (1 : Int32))).1 (by decide) (by decide) ?_
        exact k)
    have G21 : Goes p e below s₁ (entryFrame m #[(.long q1), (.long q2), (.long q3), (.int p4)] maxLocals) T16 (mkF m 60 #[.val (.long q1), .second, .val (.long q2), .second, .val (.long q3), .second, .val (.int p4), .val (.ref b2), .val (.ref b10), .val (.int (0 : Int32))] [(.int (2 : Int32)), (.int (0 : Int32))]) := fun _ k => G20 _ (by
        show Steps p.tables e below (T16.setTop (mkF m 57 #[.val (.long q1), .second, .val (.long q2), .second, .val (.long q3), .second, .val (.int p4), .val (.ref b2), .val (.ref b10), .val (.int (0 : Int32))] [])) _
        refine XS.iload X16.here hx rfl (hb hby at_57) rfl ?_
        show Steps p.tables e below (T16.setTop (mkF m 59 #[.val (.long q1), .second, .val (.long q2), .second, .val (.long q3), .second, .val (.int p4), .val (.ref b2), .val (.ref b10), .val (.int (0 : Int32))] [(.int (0 : Int32))])) _
        refine XS.iconst X16.here hx rfl (hb hby at_59) ?_
        exact k)
    have G22 : Goes p e below s₁ (entryFrame m #[(.long q1), (.long q2), (.long q3), (.int p4)] maxLocals) T16 (mkF m 69 #[.val (.long q1), .second, .val (.long q2), .second, .val (.long q3), .second, .val (.int p4), .val (.ref b2), .val (.ref b10), .val (.int (0 : Int32))] []) := fun _ k => G21 _ (by
        show Steps p.tables e below (T16.setTop (mkF m 60 #[.val (.long q1), .second, .val (.long q2), .second, .val (.long q3), .second, .val (.int p4), .val (.ref b2), .val (.ref b10), .val (.int (0 : Int32))] [(.int (2 : Int32)), (.int (0 : Int32))])) _
        refine XS.icmpYes X16.here hx rfl (pc0 := 60) (pc' := 69) rfl (hb hby at_60) rfl (tlt (by decide : (0 : Int32) < (2 : Int32))).1 (by decide) (by decide) ?_
        exact k)
    have G23 : Goes p e below s₁ (entryFrame m #[(.long q1), (.long q2), (.long q3), (.int p4)] maxLocals) T16 (mkF m 72 #[.val (.long q1), .second, .val (.long q2), .second, .val (.long q3), .second, .val (.int p4), .val (.ref b2), .val (.ref b10), .val (.int (0 : Int32))] [(.int (3 : Int32)), (.int (0 : Int32))]) := fun _ k => G22 _ (by
        show Steps p.tables e below (T16.setTop (mkF m 69 #[.val (.long q1), .second, .val (.long q2), .second, .val (.long q3), .second, .val (.int p4), .val (.ref b2), .val (.ref b10), .val (.int (0 : Int32))] [])) _
        refine XS.iload X16.here hx rfl (hb hby at_69) rfl ?_
        show Steps p.tables e below (T16.setTop (mkF m 71 #[.val (.long q1), .second, .val (.long q2), .second, .val (.long q3), .second, .val (.int p4), .val (.ref b2), .val (.ref b10), .val (.int (0 : Int32))] [(.int (0 : Int32))])) _
        refine XS.iconst X16.here hx rfl (hb hby at_71) ?_
        exact k)
    have G24 : Goes p e below s₁ (entryFrame m #[(.long q1), (.long q2), (.long q3), (.int p4)] maxLocals) T16 (mkF m 81 #[.val (.long q1), .second, .val (.long q2), .second, .val (.long q3), .second, .val (.int p4), .val (.ref b2), .val (.ref b10), .val (.int (0 : Int32))] []) := fun _ k => G23 _ (by
        show Steps p.tables e below (T16.setTop (mkF m 72 #[.val (.long q1), .second, .val (.long q2), .second, .val (.long q3), .second, .val (.int p4), .val (.ref b2), .val (.ref b10), .val (.int (0 : Int32))] [(.int (3 : Int32)), (.int (0 : Int32))])) _
        refine XS.icmpYes X16.here hx rfl (pc0 := 72) (pc' := 81) rfl (hb hby at_72) rfl (tlt (by decide : (0 : Int32) < (3 : Int32))).1 (by decide) (by decide) ?_
        exact k)
    have G25 : Goes p e below s₁ (entryFrame m #[(.long q1), (.long q2), (.long q3), (.int p4)] maxLocals) T16 (mkF m 83 #[.val (.long q1), .second, .val (.long q2), .second, .val (.long q3), .second, .val (.int p4), .val (.ref b2), .val (.ref b10), .val (.int (0 : Int32))] [(.ref b10)]) := fun _ k => G24 _ (by
        show Steps p.tables e below (T16.setTop (mkF m 81 #[.val (.long q1), .second, .val (.long q2), .second, .val (.long q3), .second, .val (.int p4), .val (.ref b2), .val (.ref b10), .val (.int (0 : Int32))] [])) _
        refine XS.aload X16.here hx rfl (hb hby at_81) rfl rfl ?_
        exact k)
    obtain ⟨cq26, kq26, q26a, q26b, q26c⟩ := isOf hZ hh16 (I13).1
    obtain ⟨_, _, ⟨T26, L26, k26, n26⟩, -, X26, ⟨Lc26, hQ26, l26, y26, z26⟩, st26⟩ := X16.virtualBack hx (y := (⟨"com/example/subterm/subterm/algorithm/IndexedHeap", "isEmpty", "()Z"⟩ : MethodName)) (z := (⟨"com/example/subterm/subterm/algorithm/IndexedHeap", "isEmpty", "()Z"⟩ : MethodName)) hown (mvT hZ (hw _ (List.mem_of_getElem? (i := 17) rfl))) (mvT hZ (hw _ (List.mem_of_getElem? (i := 18) rfl))) (notFace_of_selects (args := #[]) (mvT hZ (hw _ (List.mem_of_getElem? (i := 20) rfl)))) (mvT hZ (hw _ (List.mem_of_getElem? (i := 20) rfl))) (mvT hZ (hw _ (List.mem_of_getElem? (i := 19) rfl))) (by decide) (backOf (W := 0) (rm3 l Z a0 hw [] b10 b2 hp pl (0 : Int32) T13.heap n0 Zn I13) hZ (hw _ (List.mem_of_getElem? (i := 21) rfl)) (hw _ (List.mem_of_getElem? (i := 3) rfl)) (by decide) (by decide)) q26a q26c (g := (mkF m 83 #[.val (.long q1), .second, .val (.long q2), .second, .val (.long q3), .second, .val (.int p4), .val (.ref b2), .val (.ref b10), .val (.int (0 : Int32))] [(.ref b10)])) rfl (by rw [hml]; rfl) (Steps.refl _) (argsL := []) (rest := []) (lenOf own_pd3 rfl) rfl (by show 2 * 0 + _ ≤ _; exact Nat.le_of_eq rfl) (hb hby at_83) (fun _ _ => ⟨rfl, hh16, (by decide : 4 + 0 ≤ _), (by decide : 13 + 0 ≤ _)⟩)
    dsimp only [Pt.U, Pt.locs, Pt.cells, Pt.slots] at X26 l26 y26 z26 st26 hQ26
    subst l26 y26 z26
    obtain ⟨rfl, N26q, hh26⟩ := hQ26
    have N26 := Fr.app N16 N26q
    have G26 : Goes p e below s₁ (entryFrame m #[(.long q1), (.long q2), (.long q3), (.int p4)] maxLocals) T26 (mkF m 86 #[.val (.long q1), .second, .val (.long q2), .second, .val (.long q3), .second, .val (.int p4), .val (.ref b2), .val (.ref b10), .val (.int (0 : Int32))] [(.int (if (0 : Int32) = 0 then 1 else 0))]) := fun _ k => G25 _ (st26.trans k)
    have G27 : Goes p e below s₁ (entryFrame m #[(.long q1), (.long q2), (.long q3), (.int p4)] maxLocals) T26 (mkF m 86 #[.val (.long q1), .second, .val (.long q2), .second, .val (.long q3), .second, .val (.int p4), .val (.ref b2), .val (.ref b10), .val (.int (0 : Int32))] [(.int (1 : Int32))]) := G26
    have G28 : Goes p e below s₁ (entryFrame m #[(.long q1), (.long q2), (.long q3), (.int p4)] maxLocals) T26 (mkF m 88 #[.val (.long q1), .second, .val (.long q2), .second, .val (.long q3), .second, .val (.int p4), .val (.ref b2), .val (.ref b10), .val (.int (0 : Int32))] [(.int (0 : Int32)), (.int (1 : Int32))]) := fun _ k => G27 _ (by
        show Steps p.tables e below (T26.setTop (mkF m 86 #[.val (.long q1), .second, .val (.long q2), .second, .val (.long q3), .second, .val (.int p4), .val (.ref b2), .val (.ref b10), .val (.int (0 : Int32))] [(.int (1 : Int32))])) _
        refine XS.iload X26.here hx rfl (hb hby at_86) rfl ?_
        exact k)
    have G29 : Goes p e below s₁ (entryFrame m #[(.long q1), (.long q2), (.long q3), (.int p4)] maxLocals) T26 (mkF m 91 #[.val (.long q1), .second, .val (.long q2), .second, .val (.long q3), .second, .val (.int p4), .val (.ref b2), .val (.ref b10), .val (.int (0 : Int32))] [(.int (1 : Int32))]) := fun _ k => G28 _ (by
        show Steps p.tables e below (T26.setTop (mkF m 88 #[.val (.long q1), .second, .val (.long q2), .second, .val (.long q3), .second, .val (.int p4), .val (.ref b2), .val (.ref b10), .val (.int (0 : Int32))] [(.int (0 : Int32)), (.int (1 : Int32))])) _
        refine XS.ifNo X26.here hx rfl (hb hby at_88) rfl ((if0 _ _).trans (teq (by decide : (0 : Int32) = (0 : Int32))).2) ?_
        exact k)
    have G30 : Goes p e below s₁ (entryFrame m #[(.long q1), (.long q2), (.long q3), (.int p4)] maxLocals) T26 (mkF m 96 #[.val (.long q1), .second, .val (.long q2), .second, .val (.long q3), .second, .val (.int p4), .val (.ref b2), .val (.ref b10), .val (.int (0 : Int32))] [(.int (1 : Int32)), (.int (1 : Int32))]) := fun _ k => G29 _ (by
        show Steps p.tables e below (T26.setTop (mkF m 91 #[.val (.long q1), .second, .val (.long q2), .second, .val (.long q3), .second, .val (.int p4), .val (.ref b2), .val (.ref b10), .val (.int (0 : Int32))] [(.int (1 : Int32))])) _
        refine XS.iconst X26.here hx rfl (hb hby at_91) ?_
        show Steps p.tables e below (T26.setTop (mkF m 92 #[.val (.long q1), .second, .val (.long q2), .second, .val (.long q3), .second, .val (.int p4), .val (.ref b2), .val (.ref b10), .val (.int (0 : Int32))] [(.int (1 : Int32)), (.int (1 : Int32))])) _
        refine XS.goto X26.here hx rfl (pc0 := 92) (pc' := 96) rfl (hb hby at_92) (by decide) (by decide) ?_
        exact k)
    have G31 : Goes p e below s₁ (entryFrame m #[(.long q1), (.long q2), (.long q3), (.int p4)] maxLocals) T26 (mkF m 101 #[.val (.long q1), .second, .val (.long q2), .second, .val (.long q3), .second, .val (.int p4), .val (.ref b2), .val (.ref b10), .val (.int (0 : Int32))] []) := fun _ k => G30 _ (by
        show Steps p.tables e below (T26.setTop (mkF m 96 #[.val (.long q1), .second, .val (.long q2), .second, .val (.long q3), .second, .val (.int p4), .val (.ref b2), .val (.ref b10), .val (.int (0 : Int32))] [(.int (1 : Int32)), (.int (1 : Int32))])) _
        refine XS.icmpYes X26.here hx rfl (pc0 := 96) (pc' := 101) rfl (hb hby at_96) rfl (teq (by decide : (1 : Int32) = (1 : Int32))).1 (by decide) (by decide) ?_
        exact k)
    have G32 : Goes p e below s₁ (entryFrame m #[(.long q1), (.long q2), (.long q3), (.int p4)] maxLocals) T26 (mkF m 104 #[.val (.long q1), .second, .val (.long q2), .second, .val (.long q3), .second, .val (.int p4), .val (.ref b2), .val (.ref b10), .val (.int (0 : Int32))] [(.int (1 : Int32)), (.int (0 : Int32))]) := fun _ k => G31 _ (by
        show Steps p.tables e below (T26.setTop (mkF m 101 #[.val (.long q1), .second, .val (.long q2), .second, .val (.long q3), .second, .val (.int p4), .val (.ref b2), .val (.ref b10), .val (.int (0 : Int32))] [])) _
        refine XS.iload X26.here hx rfl (hb hby at_101) rfl ?_
        show Steps p.tables e below (T26.setTop (mkF m 103 #[.val (.long q1), .second, .val (.long q2), .second, .val (.long q3), .second, .val (.int p4), .val (.ref b2), .val (.ref b10), .val (.int (0 : Int32))] [(.int (0 : Int32))])) _
        refine XS.iconst X26.here hx rfl (hb hby at_103) ?_
        exact k)
    have G33 : Goes p e below s₁ (entryFrame m #[(.long q1), (.long q2), (.long q3), (.int p4)] maxLocals) T26 (mkF m 134 #[.val (.long q1), .second, .val (.long q2), .second, .val (.long q3), .second, .val (.int p4), .val (.ref b2), .val (.ref b10), .val (.int (0 : Int32))] []) := fun _ k => G32 _ (by
        show Steps p.tables e below (T26.setTop (mkF m 104 #[.val (.long q1), .second, .val (.long q2), .second, .val (.long q3), .second, .val (.int p4), .val (.ref b2), .val (.ref b10), .val (.int (0 : Int32))] [(.int (1 : Int32)), (.int (0 : Int32))])) _
        refine XS.icmpYes X26.here hx rfl (pc0 := 104) (pc' := 134) rfl (hb hby at_104) rfl (tlt (by decide : (0 : Int32) < (1 : Int32))).1 (by decide) (by decide) ?_
        exact k)
    have G34 : Goes p e below s₁ (entryFrame m #[(.long q1), (.long q2), (.long q3), (.int p4)] maxLocals) T26 (mkF m 137 #[.val (.long q1), .second, .val (.long q2), .second, .val (.long q3), .second, .val (.int p4), .val (.ref b2), .val (.ref b10), .val (.int (0 : Int32))] [(.int (2 : Int32)), (.int (0 : Int32))]) := fun _ k => G33 _ (by
        show Steps p.tables e below (T26.setTop (mkF m 134 #[.val (.long q1), .second, .val (.long q2), .second, .val (.long q3), .second, .val (.int p4), .val (.ref b2), .val (.ref b10), .val (.int (0 : Int32))] [])) _
        refine XS.iload X26.here hx rfl (hb hby at_134) rfl ?_
        show Steps p.tables e below (T26.setTop (mkF m 136 #[.val (.long q1), .second, .val (.long q2), .second, .val (.long q3), .second, .val (.int p4), .val (.ref b2), .val (.ref b10), .val (.int (0 : Int32))] [(.int (0 : Int32))])) _
        refine XS.iconst X26.here hx rfl (hb hby at_136) ?_
        exact k)
    have G35 : Goes p e below s₁ (entryFrame m #[(.long q1), (.long q2), (.long q3), (.int p4)] maxLocals) T26 (mkF m 167 #[.val (.long q1), .second, .val (.long q2), .second, .val (.long q3), .second, .val (.int p4), .val (.ref b2), .val (.ref b10), .val (.int (0 : Int32))] []) := fun _ k => G34 _ (by
        show Steps p.tables e below (T26.setTop (mkF m 137 #[.val (.long q1), .second, .val (.long q2), .second, .val (.long q3), .second, .val (.int p4), .val (.ref b2), .val (.ref b10), .val (.int (0 : Int32))] [(.int (2 : Int32)), (.int (0 : Int32))])) _
        refine XS.icmpYes X26.here hx rfl (pc0 := 137) (pc' := 167) rfl (hb hby at_137) rfl (tlt (by decide : (0 : Int32) < (2 : Int32))).1 (by decide) (by decide) ?_
        exact k)
    have G36 : Goes p e below s₁ (entryFrame m #[(.long q1), (.long q2), (.long q3), (.int p4)] maxLocals) T26 (mkF m 170 #[.val (.long q1), .second, .val (.long q2), .second, .val (.long q3), .second, .val (.int p4), .val (.ref b2), .val (.ref b10), .val (.int (0 : Int32))] [(.int (3 : Int32)), (.int (0 : Int32))]) := fun _ k => G35 _ (by
        show Steps p.tables e below (T26.setTop (mkF m 167 #[.val (.long q1), .second, .val (.long q2), .second, .val (.long q3), .second, .val (.int p4), .val (.ref b2), .val (.ref b10), .val (.int (0 : Int32))] [])) _
        refine XS.iload X26.here hx rfl (hb hby at_167) rfl ?_
        show Steps p.tables e below (T26.setTop (mkF m 169 #[.val (.long q1), .second, .val (.long q2), .second, .val (.long q3), .second, .val (.int p4), .val (.ref b2), .val (.ref b10), .val (.int (0 : Int32))] [(.int (0 : Int32))])) _
        refine XS.iconst X26.here hx rfl (hb hby at_169) ?_
        exact k)
    have G37 : Goes p e below s₁ (entryFrame m #[(.long q1), (.long q2), (.long q3), (.int p4)] maxLocals) T26 (mkF m 189 #[.val (.long q1), .second, .val (.long q2), .second, .val (.long q3), .second, .val (.int p4), .val (.ref b2), .val (.ref b10), .val (.int (0 : Int32))] []) := fun _ k => G36 _ (by
        show Steps p.tables e below (T26.setTop (mkF m 170 #[.val (.long q1), .second, .val (.long q2), .second, .val (.long q3), .second, .val (.int p4), .val (.ref b2), .val (.ref b10), .val (.int (0 : Int32))] [(.int (3 : Int32)), (.int (0 : Int32))])) _
        refine XS.icmpYes X26.here hx rfl (pc0 := 170) (pc' := 189) rfl (hb hby at_170) rfl (tlt (by decide : (0 : Int32) < (3 : Int32))).1 (by decide) (by decide) ?_
        exact k)
    have G38 : Goes p e below s₁ (entryFrame m #[(.long q1), (.long q2), (.long q3), (.int p4)] maxLocals) T26 (mkF m 190 #[.val (.long q1), .second, .val (.long q2), .second, .val (.long q3), .second, .val (.int p4), .val (.ref b2), .val (.ref b10), .val (.int (0 : Int32))] [(.int (1 : Int32))]) := fun _ k => G37 _ (by
        show Steps p.tables e below (T26.setTop (mkF m 189 #[.val (.long q1), .second, .val (.long q2), .second, .val (.long q3), .second, .val (.int p4), .val (.ref b2), .val (.ref b10), .val (.int (0 : Int32))] [])) _
        refine XS.iconst X26.here hx rfl (hb hby at_189) ?_
        exact k)
    obtain ⟨fs, hr, hrun, hended, hW, hsame⟩ := X26.leave (v := some (.int (1 : Int32))) (fun h => by rw [Bd.returns] at h; cases h)
    refine ⟨_, _, G38 _ (retN X26 hx (t := .boolean) Bd.returns (by simp) (hb hby at_190) hr), hrun, hended, _, _, rfl, ?_, ⟨_, rfl⟩, hW, hsame.mono (by decide) (by decide)⟩
    show Q0 n0 _ T26.heap _
    exact ⟨rfl, N26⟩
  · rw [hs] at G14
    have G39 : Goes p e below s₁ (entryFrame m #[(.long q1), (.long q2), (.long q3), (.int p4)] maxLocals) T13 (mkF m 37 #[.val (.long q1), .second, .val (.long q2), .second, .val (.long q3), .second, .val (.int p4), .val (.ref b2), .val (.ref b10), .val (.int (1 : Int32))] [(.ref b10)]) := fun _ k => G14 _ (by
        show Steps p.tables e below (T13.setTop (mkF m 35 #[.val (.long q1), .second, .val (.long q2), .second, .val (.long q3), .second, .val (.int p4), .val (.ref b2), .val (.ref b10), .val (.int (1 : Int32))] [])) _
        refine XS.aload X13.here hx rfl (hb hby at_35) rfl rfl ?_
        exact k)
    obtain ⟨cq40, kq40, q40a, q40b, q40c⟩ := isOf hZ rfl (I13).1
    obtain ⟨_, _, ⟨T40, L40, k40, n40⟩, -, X40, ⟨Lc40, hQ40, l40, y40, z40⟩, st40⟩ := X13.virtualBack hx (y := (⟨"com/example/subterm/subterm/algorithm/IndexedHeap", "isEmpty", "()Z"⟩ : MethodName)) (z := (⟨"com/example/subterm/subterm/algorithm/IndexedHeap", "isEmpty", "()Z"⟩ : MethodName)) hown (mvT hZ (hw _ (List.mem_of_getElem? (i := 17) rfl))) (mvT hZ (hw _ (List.mem_of_getElem? (i := 18) rfl))) (notFace_of_selects (args := #[]) (mvT hZ (hw _ (List.mem_of_getElem? (i := 20) rfl)))) (mvT hZ (hw _ (List.mem_of_getElem? (i := 20) rfl))) (mvT hZ (hw _ (List.mem_of_getElem? (i := 19) rfl))) (by decide) (backOf (W := 0) (rm3 l Z a0 hw [] b10 b2 hp pl (0 : Int32) T13.heap n0 Zn I13) hZ (hw _ (List.mem_of_getElem? (i := 21) rfl)) (hw _ (List.mem_of_getElem? (i := 3) rfl)) (by decide) (by decide)) q40a q40c (g := (mkF m 37 #[.val (.long q1), .second, .val (.long q2), .second, .val (.long q3), .second, .val (.int p4), .val (.ref b2), .val (.ref b10), .val (.int (1 : Int32))] [(.ref b10)])) rfl (by rw [hml]; rfl) (Steps.refl _) (argsL := []) (rest := []) (lenOf own_pd3 rfl) rfl (by show 2 * 0 + _ ≤ _; exact Nat.le_of_eq rfl) (hb hby at_37) (fun _ _ => ⟨rfl, rfl, (by decide : 4 + 0 ≤ _), (by decide : 13 + 0 ≤ _)⟩)
    dsimp only [Pt.U, Pt.locs, Pt.cells, Pt.slots] at X40 l40 y40 z40 st40 hQ40
    subst l40 y40 z40
    obtain ⟨rfl, N40q, hh40⟩ := hQ40
    have N40 := Fr.app N13 N40q
    have G40 : Goes p e below s₁ (entryFrame m #[(.long q1), (.long q2), (.long q3), (.int p4)] maxLocals) T40 (mkF m 40 #[.val (.long q1), .second, .val (.long q2), .second, .val (.long q3), .second, .val (.int p4), .val (.ref b2), .val (.ref b10), .val (.int (1 : Int32))] [(.int (if (0 : Int32) = 0 then 1 else 0))]) := fun _ k => G39 _ (st40.trans k)
    have G41 : Goes p e below s₁ (entryFrame m #[(.long q1), (.long q2), (.long q3), (.int p4)] maxLocals) T40 (mkF m 40 #[.val (.long q1), .second, .val (.long q2), .second, .val (.long q3), .second, .val (.int p4), .val (.ref b2), .val (.ref b10), .val (.int (1 : Int32))] [(.int (1 : Int32))]) := G40
    have G42 : Goes p e below s₁ (entryFrame m #[(.long q1), (.long q2), (.long q3), (.int p4)] maxLocals) T40 (mkF m 45 #[.val (.long q1), .second, .val (.long q2), .second, .val (.long q3), .second, .val (.int p4), .val (.ref b2), .val (.ref b10), .val (.int (1 : Int32))] []) := fun _ k => G41 _ (by
        show Steps p.tables e below (T40.setTop (mkF m 40 #[.val (.long q1), .second, .val (.long q2), .second, .val (.long q3), .second, .val (.int p4), .val (.ref b2), .val (.ref b10), .val (.int (1 : Int32))] [(.int (1 : Int32))])) _
        refine XS.ifYes X40.here hx rfl (pc0 := 40) (pc' := 45) rfl (hb hby at_40) rfl ((if0 _ _).trans (feq (by decide : ¬ ((1 : Int32) = (0 : Int32)))).2) (by decide) (by decide) ?_
        exact k)
    have G43 : Goes p e below s₁ (entryFrame m #[(.long q1), (.long q2), (.long q3), (.int p4)] maxLocals) T40 (mkF m 48 #[.val (.long q1), .second, .val (.long q2), .second, .val (.long q3), .second, .val (.int p4), .val (.ref b2), .val (.ref b10), .val (.int (1 : Int32))] [(.int (1 : Int32)), (.int (1 : Int32))]) := fun _ k => G42 _ (by
        show Steps p.tables e below (T40.setTop (mkF m 45 #[.val (.long q1), .second, .val (.long q2), .second, .val (.long q3), .second, .val (.int p4), .val (.ref b2), .val (.ref b10), .val (.int (1 : Int32))] [])) _
        refine XS.iload X40.here hx rfl (hb hby at_45) rfl ?_
        show Steps p.tables e below (T40.setTop (mkF m 47 #[.val (.long q1), .second, .val (.long q2), .second, .val (.long q3), .second, .val (.int p4), .val (.ref b2), .val (.ref b10), .val (.int (1 : Int32))] [(.int (1 : Int32))])) _
        refine XS.iconst X40.here hx rfl (hb hby at_47) ?_
        exact k)
    have G44 : Goes p e below s₁ (entryFrame m #[(.long q1), (.long q2), (.long q3), (.int p4)] maxLocals) T40 (mkF m 51 #[.val (.long q1), .second, .val (.long q2), .second, .val (.long q3), .second, .val (.int p4), .val (.ref b2), .val (.ref b10), .val (.int (1 : Int32))] []) := fun _ k => G43 _ (by
        show Steps p.tables e below (T40.setTop (mkF m 48 #[.val (.long q1), .second, .val (.long q2), .second, .val (.long q3), .second, .val (.int p4), .val (.ref b2), .val (.ref b10), .val (.int (1 : Int32))] [(.int (1 : Int32)), (.int (1 : Int32))])) _
        refine XS.icmpNo X40.here hx rfl (hb hby at_48) rfl (flt (by decide : ¬ ((1 : Int32) < (1 : Int32)))).1 ?_
        exact k)
    have G45 : Goes p e below s₁ (entryFrame m #[(.long q1), (.long q2), (.long q3), (.int p4)] maxLocals) T40 (mkF m 54 #[.val (.long q1), .second, .val (.long q2), .second, .val (.long q3), .second, .val (.int p4), .val (.ref b2), .val (.ref b10), .val (.int (1 : Int32))] [(.int (0 : Int32)), (.ref b10)]) := fun _ k => G44 _ (by
        show Steps p.tables e below (T40.setTop (mkF m 51 #[.val (.long q1), .second, .val (.long q2), .second, .val (.long q3), .second, .val (.int p4), .val (.ref b2), .val (.ref b10), .val (.int (1 : Int32))] [])) _
        refine XS.aload X40.here hx rfl (hb hby at_51) rfl rfl ?_
        show Steps p.tables e below (T40.setTop (mkF m 53 #[.val (.long q1), .second, .val (.long q2), .second, .val (.long q3), .second, .val (.int p4), .val (.ref b2), .val (.ref b10), .val (.int (1 : Int32))] [(.ref b10)])) _
        refine XS.iconst X40.here hx rfl (hb hby at_53) ?_
        exact k)
    obtain ⟨cq46, kq46, q46a, q46b, q46c⟩ := isOf hZ hh40 (I13).1
    obtain ⟨_, _, ⟨T46, L46, k46, n46⟩, -, X46, ⟨Lc46, hQ46, l46, y46, z46⟩, st46⟩ := X40.virtualBack hx (y := (⟨"com/example/subterm/subterm/algorithm/IndexedHeap", "add", "(I)V"⟩ : MethodName)) (z := (⟨"com/example/subterm/subterm/algorithm/IndexedHeap", "add", "(I)V"⟩ : MethodName)) hown (mvT hZ (hw _ (List.mem_of_getElem? (i := 24) rfl))) (mvT hZ (hw _ (List.mem_of_getElem? (i := 25) rfl))) (notFace_of_selects (args := #[]) (mvT hZ (hw _ (List.mem_of_getElem? (i := 27) rfl)))) (mvT hZ (hw _ (List.mem_of_getElem? (i := 27) rfl))) (mvT hZ (hw _ (List.mem_of_getElem? (i := 26) rfl))) (by decide) (backOf (W := 0) (rm4_0 l Z a0 hw [] b10 b2 hp pl T13.heap n0 Zn I13 D) hZ (hw _ (List.mem_of_getElem? (i := 28) rfl)) (hw _ (List.mem_of_getElem? (i := 3) rfl)) (by decide) (by decide)) q46a q46c (g := (mkF m 54 #[.val (.long q1), .second, .val (.long q2), .second, .val (.long q3), .second, .val (.int p4), .val (.ref b2), .val (.ref b10), .val (.int (1 : Int32))] [(.int (0 : Int32)), (.ref b10)])) rfl (by rw [hml]; rfl) (Steps.refl _) (argsL := [(.int (0 : Int32))]) (rest := []) (lenOf own_pd1 rfl) rfl (by show 2 * 0 + _ ≤ _; exact Nat.le_of_eq rfl) (hb hby at_54) (fun _ _ => ⟨rfl, hh40, (by decide : 4 + 0 ≤ _), (by decide : 13 + 0 ≤ _)⟩)
    dsimp only [Pt.U, Pt.locs, Pt.cells, Pt.slots] at X46 l46 y46 z46 st46 hQ46
    subst l46 y46 z46
    obtain ⟨rfl, N46q, Zn, I46⟩ := hQ46
    have N46 := Fr.app N40 N46q
    have G46 : Goes p e below s₁ (entryFrame m #[(.long q1), (.long q2), (.long q3), (.int p4)] maxLocals) T46 (mkF m 57 #[.val (.long q1), .second, .val (.long q2), .second, .val (.long q3), .second, .val (.int p4), .val (.ref b2), .val (.ref b10), .val (.int (1 : Int32))] []) := fun _ k => G45 _ (st46.trans k)
    have G47 : Goes p e below s₁ (entryFrame m #[(.long q1), (.long q2), (.long q3), (.int p4)] maxLocals) T46 (mkF m 60 #[.val (.long q1), .second, .val (.long q2), .second, .val (.long q3), .second, .val (.int p4), .val (.ref b2), .val (.ref b10), .val (.int (1 : Int32))] [(.int (2 : Int32)), (.int (1 : Int32))]) := fun _ k => G46 _ (by
        show Steps p.tables e below (T46.setTop (mkF m 57 #[.val (.long q1), .second, .val (.long q2), .second, .val (.long q3), .second, .val (.int p4), .val (.ref b2), .val (.ref b10), .val (.int (1 : Int32))] [])) _
        refine XS.iload X46.here hx rfl (hb hby at_57) rfl ?_
        show Steps p.tables e below (T46.setTop (mkF m 59 #[.val (.long q1), .second, .val (.long q2), .second, .val (.long q3), .second, .val (.int p4), .val (.ref b2), .val (.ref b10), .val (.int (1 : Int32))] [(.int (1 : Int32))])) _
        refine XS.iconst X46.here hx rfl (hb hby at_59) ?_
        exact k)
    have G48 : Goes p e below s₁ (entryFrame m #[(.long q1), (.long q2), (.long q3), (.int p4)] maxLocals) T46 (mkF m 69 #[.val (.long q1), .second, .val (.long q2), .second, .val (.long q3), .second, .val (.int p4), .val (.ref b2), .val (.ref b10), .val (.int (1 : Int32))] []) := fun _ k => G47 _ (by
        show Steps p.tables e below (T46.setTop (mkF m 60 #[.val (.long q1), .second, .val (.long q2), .second, .val (.long q3), .second, .val (.int p4), .val (.ref b2), .val (.ref b10), .val (.int (1 : Int32))] [(.int (2 : Int32)), (.int (1 : Int32))])) _
        refine XS.icmpYes X46.here hx rfl (pc0 := 60) (pc' := 69) rfl (hb hby at_60) rfl (tlt (by decide : (1 : Int32) < (2 : Int32))).1 (by decide) (by decide) ?_
        exact k)
    have G49 : Goes p e below s₁ (entryFrame m #[(.long q1), (.long q2), (.long q3), (.int p4)] maxLocals) T46 (mkF m 72 #[.val (.long q1), .second, .val (.long q2), .second, .val (.long q3), .second, .val (.int p4), .val (.ref b2), .val (.ref b10), .val (.int (1 : Int32))] [(.int (3 : Int32)), (.int (1 : Int32))]) := fun _ k => G48 _ (by
        show Steps p.tables e below (T46.setTop (mkF m 69 #[.val (.long q1), .second, .val (.long q2), .second, .val (.long q3), .second, .val (.int p4), .val (.ref b2), .val (.ref b10), .val (.int (1 : Int32))] [])) _
        refine XS.iload X46.here hx rfl (hb hby at_69) rfl ?_
        show Steps p.tables e below (T46.setTop (mkF m 71 #[.val (.long q1), .second, .val (.long q2), .second, .val (.long q3), .second, .val (.int p4), .val (.ref b2), .val (.ref b10), .val (.int (1 : Int32))] [(.int (1 : Int32))])) _
        refine XS.iconst X46.here hx rfl (hb hby at_71) ?_
        exact k)
    have G50 : Goes p e below s₁ (entryFrame m #[(.long q1), (.long q2), (.long q3), (.int p4)] maxLocals) T46 (mkF m 81 #[.val (.long q1), .second, .val (.long q2), .second, .val (.long q3), .second, .val (.int p4), .val (.ref b2), .val (.ref b10), .val (.int (1 : Int32))] []) := fun _ k => G49 _ (by
        show Steps p.tables e below (T46.setTop (mkF m 72 #[.val (.long q1), .second, .val (.long q2), .second, .val (.long q3), .second, .val (.int p4), .val (.ref b2), .val (.ref b10), .val (.int (1 : Int32))] [(.int (3 : Int32)), (.int (1 : Int32))])) _
        refine XS.icmpYes X46.here hx rfl (pc0 := 72) (pc' := 81) rfl (hb hby at_72) rfl (tlt (by decide : (1 : Int32) < (3 : Int32))).1 (by decide) (by decide) ?_
        exact k)
    have G51 : Goes p e below s₁ (entryFrame m #[(.long q1), (.long q2), (.long q3), (.int p4)] maxLocals) T46 (mkF m 83 #[.val (.long q1), .second, .val (.long q2), .second, .val (.long q3), .second, .val (.int p4), .val (.ref b2), .val (.ref b10), .val (.int (1 : Int32))] [(.ref b10)]) := fun _ k => G50 _ (by
        show Steps p.tables e below (T46.setTop (mkF m 81 #[.val (.long q1), .second, .val (.long q2), .second, .val (.long q3), .second, .val (.int p4), .val (.ref b2), .val (.ref b10), .val (.int (1 : Int32))] [])) _
        refine XS.aload X46.here hx rfl (hb hby at_81) rfl rfl ?_
        exact k)
    obtain ⟨cq52, kq52, q52a, q52b, q52c⟩ := isOf hZ rfl (I46).1
    obtain ⟨_, _, ⟨T52, L52, k52, n52⟩, -, X52, ⟨Lc52, hQ52, l52, y52, z52⟩, st52⟩ := X46.virtualBack hx (y := (⟨"com/example/subterm/subterm/algorithm/IndexedHeap", "isEmpty", "()Z"⟩ : MethodName)) (z := (⟨"com/example/subterm/subterm/algorithm/IndexedHeap", "isEmpty", "()Z"⟩ : MethodName)) hown (mvT hZ (hw _ (List.mem_of_getElem? (i := 17) rfl))) (mvT hZ (hw _ (List.mem_of_getElem? (i := 18) rfl))) (notFace_of_selects (args := #[]) (mvT hZ (hw _ (List.mem_of_getElem? (i := 20) rfl)))) (mvT hZ (hw _ (List.mem_of_getElem? (i := 20) rfl))) (mvT hZ (hw _ (List.mem_of_getElem? (i := 19) rfl))) (by decide) (backOf (W := 0) (rm3 l Z a0 hw [] b10 b2 hp pl (1 : Int32) T46.heap n0 Zn I46) hZ (hw _ (List.mem_of_getElem? (i := 21) rfl)) (hw _ (List.mem_of_getElem? (i := 3) rfl)) (by decide) (by decide)) q52a q52c (g := (mkF m 83 #[.val (.long q1), .second, .val (.long q2), .second, .val (.long q3), .second, .val (.int p4), .val (.ref b2), .val (.ref b10), .val (.int (1 : Int32))] [(.ref b10)])) rfl (by rw [hml]; rfl) (Steps.refl _) (argsL := []) (rest := []) (lenOf own_pd3 rfl) rfl (by show 2 * 0 + _ ≤ _; exact Nat.le_of_eq rfl) (hb hby at_83) (fun _ _ => ⟨rfl, rfl, (by decide : 4 + 0 ≤ _), (by decide : 13 + 0 ≤ _)⟩)
    dsimp only [Pt.U, Pt.locs, Pt.cells, Pt.slots] at X52 l52 y52 z52 st52 hQ52
    subst l52 y52 z52
    obtain ⟨rfl, N52q, hh52⟩ := hQ52
    have N52 := Fr.app N46 N52q
    have G52 : Goes p e below s₁ (entryFrame m #[(.long q1), (.long q2), (.long q3), (.int p4)] maxLocals) T52 (mkF m 86 #[.val (.long q1), .second, .val (.long q2), .second, .val (.long q3), .second, .val (.int p4), .val (.ref b2), .val (.ref b10), .val (.int (1 : Int32))] [(.int (if (1 : Int32) = 0 then 1 else 0))]) := fun _ k => G51 _ (st52.trans k)
    have G53 : Goes p e below s₁ (entryFrame m #[(.long q1), (.long q2), (.long q3), (.int p4)] maxLocals) T52 (mkF m 86 #[.val (.long q1), .second, .val (.long q2), .second, .val (.long q3), .second, .val (.int p4), .val (.ref b2), .val (.ref b10), .val (.int (1 : Int32))] [(.int (0 : Int32))]) := G52
    have G54 : Goes p e below s₁ (entryFrame m #[(.long q1), (.long q2), (.long q3), (.int p4)] maxLocals) T52 (mkF m 88 #[.val (.long q1), .second, .val (.long q2), .second, .val (.long q3), .second, .val (.int p4), .val (.ref b2), .val (.ref b10), .val (.int (1 : Int32))] [(.int (1 : Int32)), (.int (0 : Int32))]) := fun _ k => G53 _ (by
        show Steps p.tables e below (T52.setTop (mkF m 86 #[.val (.long q1), .second, .val (.long q2), .second, .val (.long q3), .second, .val (.int p4), .val (.ref b2), .val (.ref b10), .val (.int (1 : Int32))] [(.int (0 : Int32))])) _
        refine XS.iload X52.here hx rfl (hb hby at_86) rfl ?_
        exact k)
    have G55 : Goes p e below s₁ (entryFrame m #[(.long q1), (.long q2), (.long q3), (.int p4)] maxLocals) T52 (mkF m 95 #[.val (.long q1), .second, .val (.long q2), .second, .val (.long q3), .second, .val (.int p4), .val (.ref b2), .val (.ref b10), .val (.int (1 : Int32))] [(.int (0 : Int32))]) := fun _ k => G54 _ (by
        show Steps p.tables e below (T52.setTop (mkF m 88 #[.val (.long q1), .second, .val (.long q2), .second, .val (.long q3), .second, .val (.int p4), .val (.ref b2), .val (.ref b10), .val (.int (1 : Int32))] [(.int (1 : Int32)), (.int (0 : Int32))])) _
        refine XS.ifYes X52.here hx rfl (pc0 := 88) (pc' := 95) rfl (hb hby at_88) rfl ((if0 _ _).trans (feq (by decide : ¬ ((1 : Int32) = (0 : Int32)))).2) (by decide) (by decide) ?_
        exact k)
    have G56 : Goes p e below s₁ (entryFrame m #[(.long q1), (.long q2), (.long q3), (.int p4)] maxLocals) T52 (mkF m 96 #[.val (.long q1), .second, .val (.long q2), .second, .val (.long q3), .second, .val (.int p4), .val (.ref b2), .val (.ref b10), .val (.int (1 : Int32))] [(.int (0 : Int32)), (.int (0 : Int32))]) := fun _ k => G55 _ (by
        show Steps p.tables e below (T52.setTop (mkF m 95 #[.val (.long q1), .second, .val (.long q2), .second, .val (.long q3), .second, .val (.int p4), .val (.ref b2), .val (.ref b10), .val (.int (1 : Int32))] [(.int (0 : Int32))])) _
        refine XS.iconst X52.here hx rfl (hb hby at_95) ?_
        exact k)
    have G57 : Goes p e below s₁ (entryFrame m #[(.long q1), (.long q2), (.long q3), (.int p4)] maxLocals) T52 (mkF m 101 #[.val (.long q1), .second, .val (.long q2), .second, .val (.long q3), .second, .val (.int p4), .val (.ref b2), .val (.ref b10), .val (.int (1 : Int32))] []) := fun _ k => G56 _ (by
        show Steps p.tables e below (T52.setTop (mkF m 96 #[.val (.long q1), .second, .val (.long q2), .second, .val (.long q3), .second, .val (.int p4), .val (.ref b2), .val (.ref b10), .val (.int (1 : Int32))] [(.int (0 : Int32)), (.int (0 : Int32))])) _
        refine XS.icmpYes X52.here hx rfl (pc0 := 96) (pc' := 101) rfl (hb hby at_96) rfl (teq (by decide : (0 : Int32) = (0 : Int32))).1 (by decide) (by decide) ?_
        exact k)
    have G58 : Goes p e below s₁ (entryFrame m #[(.long q1), (.long q2), (.long q3), (.int p4)] maxLocals) T52 (mkF m 104 #[.val (.long q1), .second, .val (.long q2), .second, .val (.long q3), .second, .val (.int p4), .val (.ref b2), .val (.ref b10), .val (.int (1 : Int32))] [(.int (1 : Int32)), (.int (1 : Int32))]) := fun _ k => G57 _ (by
        show Steps p.tables e below (T52.setTop (mkF m 101 #[.val (.long q1), .second, .val (.long q2), .second, .val (.long q3), .second, .val (.int p4), .val (.ref b2), .val (.ref b10), .val (.int (1 : Int32))] [])) _
        refine XS.iload X52.here hx rfl (hb hby at_101) rfl ?_
        show Steps p.tables e below (T52.setTop (mkF m 103 #[.val (.long q1), .second, .val (.long q2), .second, .val (.long q3), .second, .val (.int p4), .val (.ref b2), .val (.ref b10), .val (.int (1 : Int32))] [(.int (1 : Int32))])) _
        refine XS.iconst X52.here hx rfl (hb hby at_103) ?_
        exact k)
    have G59 : Goes p e below s₁ (entryFrame m #[(.long q1), (.long q2), (.long q3), (.int p4)] maxLocals) T52 (mkF m 107 #[.val (.long q1), .second, .val (.long q2), .second, .val (.long q3), .second, .val (.int p4), .val (.ref b2), .val (.ref b10), .val (.int (1 : Int32))] []) := fun _ k => G58 _ (by
        show Steps p.tables e below (T52.setTop (mkF m 104 #[.val (.long q1), .second, .val (.long q2), .second, .val (.long q3), .second, .val (.int p4), .val (.ref b2), .val (.ref b10), .val (.int (1 : Int32))] [(.int (1 : Int32)), (.int (1 : Int32))])) _
        refine XS.icmpNo X52.here hx rfl (hb hby at_104) rfl (flt (by decide : ¬ ((1 : Int32) < (1 : Int32)))).1 ?_
        exact k)
    have G60 : Goes p e below s₁ (entryFrame m #[(.long q1), (.long q2), (.long q3), (.int p4)] maxLocals) T52 (mkF m 109 #[.val (.long q1), .second, .val (.long q2), .second, .val (.long q3), .second, .val (.int p4), .val (.ref b2), .val (.ref b10), .val (.int (1 : Int32))] [(.ref b10)]) := fun _ k => G59 _ (by
        show Steps p.tables e below (T52.setTop (mkF m 107 #[.val (.long q1), .second, .val (.long q2), .second, .val (.long q3), .second, .val (.int p4), .val (.ref b2), .val (.ref b10), .val (.int (1 : Int32))] [])) _
        refine XS.aload X52.here hx rfl (hb hby at_107) rfl rfl ?_
        exact k)
    obtain ⟨cq61, kq61, q61a, q61b, q61c⟩ := isOf hZ hh52 (I46).1
    obtain ⟨_, _, ⟨T61, L61, k61, n61⟩, -, X61, ⟨Lc61, hQ61, l61, y61, z61⟩, st61⟩ := X52.virtualBack hx (y := (⟨"com/example/subterm/subterm/algorithm/IndexedHeap", "removeFirst", "()I"⟩ : MethodName)) (z := (⟨"com/example/subterm/subterm/algorithm/IndexedHeap", "removeFirst", "()I"⟩ : MethodName)) hown (mvT hZ (hw _ (List.mem_of_getElem? (i := 37) rfl))) (mvT hZ (hw _ (List.mem_of_getElem? (i := 38) rfl))) (notFace_of_selects (args := #[]) (mvT hZ (hw _ (List.mem_of_getElem? (i := 40) rfl)))) (mvT hZ (hw _ (List.mem_of_getElem? (i := 40) rfl))) (mvT hZ (hw _ (List.mem_of_getElem? (i := 39) rfl))) (by decide) (backOf (W := 0) (rm7_1 l Z a0 hw [] b10 b2 hp pl T46.heap n0 Zn I46 D) hZ (hw _ (List.mem_of_getElem? (i := 41) rfl)) (hw _ (List.mem_of_getElem? (i := 3) rfl)) (by decide) (by decide)) q61a q61c (g := (mkF m 109 #[.val (.long q1), .second, .val (.long q2), .second, .val (.long q3), .second, .val (.int p4), .val (.ref b2), .val (.ref b10), .val (.int (1 : Int32))] [(.ref b10)])) rfl (by rw [hml]; rfl) (Steps.refl _) (argsL := []) (rest := []) (lenOf own_pd4 rfl) rfl (by show 2 * 0 + _ ≤ _; exact Nat.le_of_eq rfl) (hb hby at_109) (fun _ _ => ⟨rfl, hh52, (by decide : 4 + 0 ≤ _), (by decide : 13 + 0 ≤ _)⟩)
    dsimp only [Pt.U, Pt.locs, Pt.cells, Pt.slots] at X61 l61 y61 z61 st61 hQ61
    subst l61 y61 z61
    obtain ⟨x61, rfl, N61q, Zn, I61⟩ := hQ61
    have N61 := Fr.app N52 N61q
    have G61 : Goes p e below s₁ (entryFrame m #[(.long q1), (.long q2), (.long q3), (.int p4)] maxLocals) T61 (mkF m 112 #[.val (.long q1), .second, .val (.long q2), .second, .val (.long q3), .second, .val (.int p4), .val (.ref b2), .val (.ref b10), .val (.int (1 : Int32))] [(.int x61)]) := fun _ k => G60 _ (st61.trans k)
    have G62 : Goes p e below s₁ (entryFrame m #[(.long q1), (.long q2), (.long q3), (.int p4)] maxLocals) T61 (mkF m 115 #[.val (.long q1), .second, .val (.long q2), .second, .val (.long q3), .second, .val (.int p4), .val (.ref b2), .val (.ref b10), .val (.int (1 : Int32))] [(.ref b10)]) := fun _ k => G61 _ (by
        show Steps p.tables e below (T61.setTop (mkF m 112 #[.val (.long q1), .second, .val (.long q2), .second, .val (.long q3), .second, .val (.int p4), .val (.ref b2), .val (.ref b10), .val (.int (1 : Int32))] [(.int x61)])) _
        refine XS.pop X61.here hx rfl (hb hby at_112) rfl rfl ?_
        show Steps p.tables e below (T61.setTop (mkF m 113 #[.val (.long q1), .second, .val (.long q2), .second, .val (.long q3), .second, .val (.int p4), .val (.ref b2), .val (.ref b10), .val (.int (1 : Int32))] [])) _
        refine XS.aload X61.here hx rfl (hb hby at_113) rfl rfl ?_
        exact k)
    obtain ⟨cq63, kq63, q63a, q63b, q63c⟩ := isOf hZ rfl (I61).1
    obtain ⟨_, _, ⟨T63, L63, k63, n63⟩, -, X63, ⟨Lc63, hQ63, l63, y63, z63⟩, st63⟩ := X61.virtualBack hx (y := (⟨"com/example/subterm/subterm/algorithm/IndexedHeap", "isEmpty", "()Z"⟩ : MethodName)) (z := (⟨"com/example/subterm/subterm/algorithm/IndexedHeap", "isEmpty", "()Z"⟩ : MethodName)) hown (mvT hZ (hw _ (List.mem_of_getElem? (i := 17) rfl))) (mvT hZ (hw _ (List.mem_of_getElem? (i := 18) rfl))) (notFace_of_selects (args := #[]) (mvT hZ (hw _ (List.mem_of_getElem? (i := 20) rfl)))) (mvT hZ (hw _ (List.mem_of_getElem? (i := 20) rfl))) (mvT hZ (hw _ (List.mem_of_getElem? (i := 19) rfl))) (by decide) (backOf (W := 0) (rm3 l Z a0 hw [] b10 b2 hp pl (0 : Int32) T61.heap n0 Zn I61) hZ (hw _ (List.mem_of_getElem? (i := 21) rfl)) (hw _ (List.mem_of_getElem? (i := 3) rfl)) (by decide) (by decide)) q63a q63c (g := (mkF m 115 #[.val (.long q1), .second, .val (.long q2), .second, .val (.long q3), .second, .val (.int p4), .val (.ref b2), .val (.ref b10), .val (.int (1 : Int32))] [(.ref b10)])) rfl (by rw [hml]; rfl) (Steps.refl _) (argsL := []) (rest := []) (lenOf own_pd3 rfl) rfl (by show 2 * 0 + _ ≤ _; exact Nat.le_of_eq rfl) (hb hby at_115) (fun _ _ => ⟨rfl, rfl, (by decide : 4 + 0 ≤ _), (by decide : 13 + 0 ≤ _)⟩)
    dsimp only [Pt.U, Pt.locs, Pt.cells, Pt.slots] at X63 l63 y63 z63 st63 hQ63
    subst l63 y63 z63
    obtain ⟨rfl, N63q, hh63⟩ := hQ63
    have N63 := Fr.app N61 N63q
    have G63 : Goes p e below s₁ (entryFrame m #[(.long q1), (.long q2), (.long q3), (.int p4)] maxLocals) T63 (mkF m 118 #[.val (.long q1), .second, .val (.long q2), .second, .val (.long q3), .second, .val (.int p4), .val (.ref b2), .val (.ref b10), .val (.int (1 : Int32))] [(.int (if (0 : Int32) = 0 then 1 else 0))]) := fun _ k => G62 _ (st63.trans k)
    have G64 : Goes p e below s₁ (entryFrame m #[(.long q1), (.long q2), (.long q3), (.int p4)] maxLocals) T63 (mkF m 118 #[.val (.long q1), .second, .val (.long q2), .second, .val (.long q3), .second, .val (.int p4), .val (.ref b2), .val (.ref b10), .val (.int (1 : Int32))] [(.int (1 : Int32))]) := G63
    have G65 : Goes p e below s₁ (entryFrame m #[(.long q1), (.long q2), (.long q3), (.int p4)] maxLocals) T63 (mkF m 121 #[.val (.long q1), .second, .val (.long q2), .second, .val (.long q3), .second, .val (.int p4), .val (.ref b2), .val (.ref b10), .val (.int (1 : Int32))] [(.int (1 : Int32)), (.int (1 : Int32)), (.int (1 : Int32))]) := fun _ k => G64 _ (by
        show Steps p.tables e below (T63.setTop (mkF m 118 #[.val (.long q1), .second, .val (.long q2), .second, .val (.long q3), .second, .val (.int p4), .val (.ref b2), .val (.ref b10), .val (.int (1 : Int32))] [(.int (1 : Int32))])) _
        refine XS.iload X63.here hx rfl (hb hby at_118) rfl ?_
        show Steps p.tables e below (T63.setTop (mkF m 120 #[.val (.long q1), .second, .val (.long q2), .second, .val (.long q3), .second, .val (.int p4), .val (.ref b2), .val (.ref b10), .val (.int (1 : Int32))] [(.int (1 : Int32)), (.int (1 : Int32))])) _
        refine XS.iconst X63.here hx rfl (hb hby at_120) ?_
        exact k)
    have G66 : Goes p e below s₁ (entryFrame m #[(.long q1), (.long q2), (.long q3), (.int p4)] maxLocals) T63 (mkF m 124 #[.val (.long q1), .second, .val (.long q2), .second, .val (.long q3), .second, .val (.int p4), .val (.ref b2), .val (.ref b10), .val (.int (1 : Int32))] [(.int (1 : Int32))]) := fun _ k => G65 _ (by
        show Steps p.tables e below (T63.setTop (mkF m 121 #[.val (.long q1), .second, .val (.long q2), .second, .val (.long q3), .second, .val (.int p4), .val (.ref b2), .val (.ref b10), .val (.int (1 : Int32))] [(.int (1 : Int32)), (.int (1 : Int32)), (.int (1 : Int32))])) _
        refine XS.icmpNo X63.here hx rfl (hb hby at_121) rfl (teq (by decide : (1 : Int32) = (1 : Int32))).2 ?_
        exact k)
    have G67 : Goes p e below s₁ (entryFrame m #[(.long q1), (.long q2), (.long q3), (.int p4)] maxLocals) T63 (mkF m 129 #[.val (.long q1), .second, .val (.long q2), .second, .val (.long q3), .second, .val (.int p4), .val (.ref b2), .val (.ref b10), .val (.int (1 : Int32))] [(.int (1 : Int32)), (.int (1 : Int32))]) := fun _ k => G66 _ (by
        show Steps p.tables e below (T63.setTop (mkF m 124 #[.val (.long q1), .second, .val (.long q2), .second, .val (.long q3), .second, .val (.int p4), .val (.ref b2), .val (.ref b10), .val (.int (1 : Int32))] [(.int (1 : Int32))])) _
        refine XS.iconst X63.here hx rfl (hb hby at_124) ?_
        show Steps p.tables e below (T63.setTop (mkF m 125 #[.val (.long q1), .second, .val (.long q2), .second, .val (.long q3), .second, .val (.int p4), .val (.ref b2), .val (.ref b10), .val (.int (1 : Int32))] [(.int (1 : Int32)), (.int (1 : Int32))])) _
        refine XS.goto X63.here hx rfl (pc0 := 125) (pc' := 129) rfl (hb hby at_125) (by decide) (by decide) ?_
        exact k)
    have G68 : Goes p e below s₁ (entryFrame m #[(.long q1), (.long q2), (.long q3), (.int p4)] maxLocals) T63 (mkF m 134 #[.val (.long q1), .second, .val (.long q2), .second, .val (.long q3), .second, .val (.int p4), .val (.ref b2), .val (.ref b10), .val (.int (1 : Int32))] []) := fun _ k => G67 _ (by
        show Steps p.tables e below (T63.setTop (mkF m 129 #[.val (.long q1), .second, .val (.long q2), .second, .val (.long q3), .second, .val (.int p4), .val (.ref b2), .val (.ref b10), .val (.int (1 : Int32))] [(.int (1 : Int32)), (.int (1 : Int32))])) _
        refine XS.icmpYes X63.here hx rfl (pc0 := 129) (pc' := 134) rfl (hb hby at_129) rfl (teq (by decide : (1 : Int32) = (1 : Int32))).1 (by decide) (by decide) ?_
        exact k)
    have G69 : Goes p e below s₁ (entryFrame m #[(.long q1), (.long q2), (.long q3), (.int p4)] maxLocals) T63 (mkF m 137 #[.val (.long q1), .second, .val (.long q2), .second, .val (.long q3), .second, .val (.int p4), .val (.ref b2), .val (.ref b10), .val (.int (1 : Int32))] [(.int (2 : Int32)), (.int (1 : Int32))]) := fun _ k => G68 _ (by
        show Steps p.tables e below (T63.setTop (mkF m 134 #[.val (.long q1), .second, .val (.long q2), .second, .val (.long q3), .second, .val (.int p4), .val (.ref b2), .val (.ref b10), .val (.int (1 : Int32))] [])) _
        refine XS.iload X63.here hx rfl (hb hby at_134) rfl ?_
        show Steps p.tables e below (T63.setTop (mkF m 136 #[.val (.long q1), .second, .val (.long q2), .second, .val (.long q3), .second, .val (.int p4), .val (.ref b2), .val (.ref b10), .val (.int (1 : Int32))] [(.int (1 : Int32))])) _
        refine XS.iconst X63.here hx rfl (hb hby at_136) ?_
        exact k)
    have G70 : Goes p e below s₁ (entryFrame m #[(.long q1), (.long q2), (.long q3), (.int p4)] maxLocals) T63 (mkF m 167 #[.val (.long q1), .second, .val (.long q2), .second, .val (.long q3), .second, .val (.int p4), .val (.ref b2), .val (.ref b10), .val (.int (1 : Int32))] []) := fun _ k => G69 _ (by
        show Steps p.tables e below (T63.setTop (mkF m 137 #[.val (.long q1), .second, .val (.long q2), .second, .val (.long q3), .second, .val (.int p4), .val (.ref b2), .val (.ref b10), .val (.int (1 : Int32))] [(.int (2 : Int32)), (.int (1 : Int32))])) _
        refine XS.icmpYes X63.here hx rfl (pc0 := 137) (pc' := 167) rfl (hb hby at_137) rfl (tlt (by decide : (1 : Int32) < (2 : Int32))).1 (by decide) (by decide) ?_
        exact k)
    have G71 : Goes p e below s₁ (entryFrame m #[(.long q1), (.long q2), (.long q3), (.int p4)] maxLocals) T63 (mkF m 170 #[.val (.long q1), .second, .val (.long q2), .second, .val (.long q3), .second, .val (.int p4), .val (.ref b2), .val (.ref b10), .val (.int (1 : Int32))] [(.int (3 : Int32)), (.int (1 : Int32))]) := fun _ k => G70 _ (by
        show Steps p.tables e below (T63.setTop (mkF m 167 #[.val (.long q1), .second, .val (.long q2), .second, .val (.long q3), .second, .val (.int p4), .val (.ref b2), .val (.ref b10), .val (.int (1 : Int32))] [])) _
        refine XS.iload X63.here hx rfl (hb hby at_167) rfl ?_
        show Steps p.tables e below (T63.setTop (mkF m 169 #[.val (.long q1), .second, .val (.long q2), .second, .val (.long q3), .second, .val (.int p4), .val (.ref b2), .val (.ref b10), .val (.int (1 : Int32))] [(.int (1 : Int32))])) _
        refine XS.iconst X63.here hx rfl (hb hby at_169) ?_
        exact k)
    have G72 : Goes p e below s₁ (entryFrame m #[(.long q1), (.long q2), (.long q3), (.int p4)] maxLocals) T63 (mkF m 189 #[.val (.long q1), .second, .val (.long q2), .second, .val (.long q3), .second, .val (.int p4), .val (.ref b2), .val (.ref b10), .val (.int (1 : Int32))] []) := fun _ k => G71 _ (by
        show Steps p.tables e below (T63.setTop (mkF m 170 #[.val (.long q1), .second, .val (.long q2), .second, .val (.long q3), .second, .val (.int p4), .val (.ref b2), .val (.ref b10), .val (.int (1 : Int32))] [(.int (3 : Int32)), (.int (1 : Int32))])) _
        refine XS.icmpYes X63.here hx rfl (pc0 := 170) (pc' := 189) rfl (hb hby at_170) rfl (tlt (by decide : (1 : Int32) < (3 : Int32))).1 (by decide) (by decide) ?_
        exact k)
    have G73 : Goes p e below s₁ (entryFrame m #[(.long q1), (.long q2), (.long q3), (.int p4)] maxLocals) T63 (mkF m 190 #[.val (.long q1), .second, .val (.long q2), .second, .val (.long q3), .second, .val (.int p4), .val (.ref b2), .val (.ref b10), .val (.int (1 : Int32))] [(.int (1 : Int32))]) := fun _ k => G72 _ (by
        show Steps p.tables e below (T63.setTop (mkF m 189 #[.val (.long q1), .second, .val (.long q2), .second, .val (.long q3), .second, .val (.int p4), .val (.ref b2), .val (.ref b10), .val (.int (1 : Int32))] [])) _
        refine XS.iconst X63.here hx rfl (hb hby at_189) ?_
        exact k)
    obtain ⟨fs, hr, hrun, hended, hW, hsame⟩ := X63.leave (v := some (.int (1 : Int32))) (fun h => by rw [Bd.returns] at h; cases h)
    refine ⟨_, _, G73 _ (retN X63 hx (t := .boolean) Bd.returns (by simp) (hb hby at_190) hr), hrun, hended, _, _, rfl, ?_, ⟨_, rfl⟩, hW, hsame.mono (by decide) (by decide)⟩
    show Q0 n0 _ T63.heap _
    exact ⟨rfl, N63⟩
  · rw [hs] at G14
    have G74 : Goes p e below s₁ (entryFrame m #[(.long q1), (.long q2), (.long q3), (.int p4)] maxLocals) T13 (mkF m 37 #[.val (.long q1), .second, .val (.long q2), .second, .val (.long q3), .second, .val (.int p4), .val (.ref b2), .val (.ref b10), .val (.int (2 : Int32))] [(.ref b10)]) := fun _ k => G14 _ (by
        show Steps p.tables e below (T13.setTop (mkF m 35 #[.val (.long q1), .second, .val (.long q2), .second, .val (.long q3), .second, .val (.int p4), .val (.ref b2), .val (.ref b10), .val (.int (2 : Int32))] [])) _
        refine XS.aload X13.here hx rfl (hb hby at_35) rfl rfl ?_
        exact k)
    obtain ⟨cq75, kq75, q75a, q75b, q75c⟩ := isOf hZ rfl (I13).1
    obtain ⟨_, _, ⟨T75, L75, k75, n75⟩, -, X75, ⟨Lc75, hQ75, l75, y75, z75⟩, st75⟩ := X13.virtualBack hx (y := (⟨"com/example/subterm/subterm/algorithm/IndexedHeap", "isEmpty", "()Z"⟩ : MethodName)) (z := (⟨"com/example/subterm/subterm/algorithm/IndexedHeap", "isEmpty", "()Z"⟩ : MethodName)) hown (mvT hZ (hw _ (List.mem_of_getElem? (i := 17) rfl))) (mvT hZ (hw _ (List.mem_of_getElem? (i := 18) rfl))) (notFace_of_selects (args := #[]) (mvT hZ (hw _ (List.mem_of_getElem? (i := 20) rfl)))) (mvT hZ (hw _ (List.mem_of_getElem? (i := 20) rfl))) (mvT hZ (hw _ (List.mem_of_getElem? (i := 19) rfl))) (by decide) (backOf (W := 0) (rm3 l Z a0 hw [] b10 b2 hp pl (0 : Int32) T13.heap n0 Zn I13) hZ (hw _ (List.mem_of_getElem? (i := 21) rfl)) (hw _ (List.mem_of_getElem? (i := 3) rfl)) (by decide) (by decide)) q75a q75c (g := (mkF m 37 #[.val (.long q1), .second, .val (.long q2), .second, .val (.long q3), .second, .val (.int p4), .val (.ref b2), .val (.ref b10), .val (.int (2 : Int32))] [(.ref b10)])) rfl (by rw [hml]; rfl) (Steps.refl _) (argsL := []) (rest := []) (lenOf own_pd3 rfl) rfl (by show 2 * 0 + _ ≤ _; exact Nat.le_of_eq rfl) (hb hby at_37) (fun _ _ => ⟨rfl, rfl, (by decide : 4 + 0 ≤ _), (by decide : 13 + 0 ≤ _)⟩)
    dsimp only [Pt.U, Pt.locs, Pt.cells, Pt.slots] at X75 l75 y75 z75 st75 hQ75
    subst l75 y75 z75
    obtain ⟨rfl, N75q, hh75⟩ := hQ75
    have N75 := Fr.app N13 N75q
    have G75 : Goes p e below s₁ (entryFrame m #[(.long q1), (.long q2), (.long q3), (.int p4)] maxLocals) T75 (mkF m 40 #[.val (.long q1), .second, .val (.long q2), .second, .val (.long q3), .second, .val (.int p4), .val (.ref b2), .val (.ref b10), .val (.int (2 : Int32))] [(.int (if (0 : Int32) = 0 then 1 else 0))]) := fun _ k => G74 _ (st75.trans k)
    have G76 : Goes p e below s₁ (entryFrame m #[(.long q1), (.long q2), (.long q3), (.int p4)] maxLocals) T75 (mkF m 40 #[.val (.long q1), .second, .val (.long q2), .second, .val (.long q3), .second, .val (.int p4), .val (.ref b2), .val (.ref b10), .val (.int (2 : Int32))] [(.int (1 : Int32))]) := G75
    have G77 : Goes p e below s₁ (entryFrame m #[(.long q1), (.long q2), (.long q3), (.int p4)] maxLocals) T75 (mkF m 45 #[.val (.long q1), .second, .val (.long q2), .second, .val (.long q3), .second, .val (.int p4), .val (.ref b2), .val (.ref b10), .val (.int (2 : Int32))] []) := fun _ k => G76 _ (by
        show Steps p.tables e below (T75.setTop (mkF m 40 #[.val (.long q1), .second, .val (.long q2), .second, .val (.long q3), .second, .val (.int p4), .val (.ref b2), .val (.ref b10), .val (.int (2 : Int32))] [(.int (1 : Int32))])) _
        refine XS.ifYes X75.here hx rfl (pc0 := 40) (pc' := 45) rfl (hb hby at_40) rfl ((if0 _ _).trans (feq (by decide : ¬ ((1 : Int32) = (0 : Int32)))).2) (by decide) (by decide) ?_
        exact k)
    have G78 : Goes p e below s₁ (entryFrame m #[(.long q1), (.long q2), (.long q3), (.int p4)] maxLocals) T75 (mkF m 48 #[.val (.long q1), .second, .val (.long q2), .second, .val (.long q3), .second, .val (.int p4), .val (.ref b2), .val (.ref b10), .val (.int (2 : Int32))] [(.int (1 : Int32)), (.int (2 : Int32))]) := fun _ k => G77 _ (by
        show Steps p.tables e below (T75.setTop (mkF m 45 #[.val (.long q1), .second, .val (.long q2), .second, .val (.long q3), .second, .val (.int p4), .val (.ref b2), .val (.ref b10), .val (.int (2 : Int32))] [])) _
        refine XS.iload X75.here hx rfl (hb hby at_45) rfl ?_
        show Steps p.tables e below (T75.setTop (mkF m 47 #[.val (.long q1), .second, .val (.long q2), .second, .val (.long q3), .second, .val (.int p4), .val (.ref b2), .val (.ref b10), .val (.int (2 : Int32))] [(.int (2 : Int32))])) _
        refine XS.iconst X75.here hx rfl (hb hby at_47) ?_
        exact k)
    have G79 : Goes p e below s₁ (entryFrame m #[(.long q1), (.long q2), (.long q3), (.int p4)] maxLocals) T75 (mkF m 51 #[.val (.long q1), .second, .val (.long q2), .second, .val (.long q3), .second, .val (.int p4), .val (.ref b2), .val (.ref b10), .val (.int (2 : Int32))] []) := fun _ k => G78 _ (by
        show Steps p.tables e below (T75.setTop (mkF m 48 #[.val (.long q1), .second, .val (.long q2), .second, .val (.long q3), .second, .val (.int p4), .val (.ref b2), .val (.ref b10), .val (.int (2 : Int32))] [(.int (1 : Int32)), (.int (2 : Int32))])) _
        refine XS.icmpNo X75.here hx rfl (hb hby at_48) rfl (flt (by decide : ¬ ((2 : Int32) < (1 : Int32)))).1 ?_
        exact k)
    have G80 : Goes p e below s₁ (entryFrame m #[(.long q1), (.long q2), (.long q3), (.int p4)] maxLocals) T75 (mkF m 54 #[.val (.long q1), .second, .val (.long q2), .second, .val (.long q3), .second, .val (.int p4), .val (.ref b2), .val (.ref b10), .val (.int (2 : Int32))] [(.int (0 : Int32)), (.ref b10)]) := fun _ k => G79 _ (by
        show Steps p.tables e below (T75.setTop (mkF m 51 #[.val (.long q1), .second, .val (.long q2), .second, .val (.long q3), .second, .val (.int p4), .val (.ref b2), .val (.ref b10), .val (.int (2 : Int32))] [])) _
        refine XS.aload X75.here hx rfl (hb hby at_51) rfl rfl ?_
        show Steps p.tables e below (T75.setTop (mkF m 53 #[.val (.long q1), .second, .val (.long q2), .second, .val (.long q3), .second, .val (.int p4), .val (.ref b2), .val (.ref b10), .val (.int (2 : Int32))] [(.ref b10)])) _
        refine XS.iconst X75.here hx rfl (hb hby at_53) ?_
        exact k)
    obtain ⟨cq81, kq81, q81a, q81b, q81c⟩ := isOf hZ hh75 (I13).1
    obtain ⟨_, _, ⟨T81, L81, k81, n81⟩, -, X81, ⟨Lc81, hQ81, l81, y81, z81⟩, st81⟩ := X75.virtualBack hx (y := (⟨"com/example/subterm/subterm/algorithm/IndexedHeap", "add", "(I)V"⟩ : MethodName)) (z := (⟨"com/example/subterm/subterm/algorithm/IndexedHeap", "add", "(I)V"⟩ : MethodName)) hown (mvT hZ (hw _ (List.mem_of_getElem? (i := 24) rfl))) (mvT hZ (hw _ (List.mem_of_getElem? (i := 25) rfl))) (notFace_of_selects (args := #[]) (mvT hZ (hw _ (List.mem_of_getElem? (i := 27) rfl)))) (mvT hZ (hw _ (List.mem_of_getElem? (i := 27) rfl))) (mvT hZ (hw _ (List.mem_of_getElem? (i := 26) rfl))) (by decide) (backOf (W := 0) (rm4_0 l Z a0 hw [] b10 b2 hp pl T13.heap n0 Zn I13 D) hZ (hw _ (List.mem_of_getElem? (i := 28) rfl)) (hw _ (List.mem_of_getElem? (i := 3) rfl)) (by decide) (by decide)) q81a q81c (g := (mkF m 54 #[.val (.long q1), .second, .val (.long q2), .second, .val (.long q3), .second, .val (.int p4), .val (.ref b2), .val (.ref b10), .val (.int (2 : Int32))] [(.int (0 : Int32)), (.ref b10)])) rfl (by rw [hml]; rfl) (Steps.refl _) (argsL := [(.int (0 : Int32))]) (rest := []) (lenOf own_pd1 rfl) rfl (by show 2 * 0 + _ ≤ _; exact Nat.le_of_eq rfl) (hb hby at_54) (fun _ _ => ⟨rfl, hh75, (by decide : 4 + 0 ≤ _), (by decide : 13 + 0 ≤ _)⟩)
    dsimp only [Pt.U, Pt.locs, Pt.cells, Pt.slots] at X81 l81 y81 z81 st81 hQ81
    subst l81 y81 z81
    obtain ⟨rfl, N81q, Zn, I81⟩ := hQ81
    have N81 := Fr.app N75 N81q
    have G81 : Goes p e below s₁ (entryFrame m #[(.long q1), (.long q2), (.long q3), (.int p4)] maxLocals) T81 (mkF m 57 #[.val (.long q1), .second, .val (.long q2), .second, .val (.long q3), .second, .val (.int p4), .val (.ref b2), .val (.ref b10), .val (.int (2 : Int32))] []) := fun _ k => G80 _ (st81.trans k)
    have G82 : Goes p e below s₁ (entryFrame m #[(.long q1), (.long q2), (.long q3), (.int p4)] maxLocals) T81 (mkF m 60 #[.val (.long q1), .second, .val (.long q2), .second, .val (.long q3), .second, .val (.int p4), .val (.ref b2), .val (.ref b10), .val (.int (2 : Int32))] [(.int (2 : Int32)), (.int (2 : Int32))]) := fun _ k => G81 _ (by
        show Steps p.tables e below (T81.setTop (mkF m 57 #[.val (.long q1), .second, .val (.long q2), .second, .val (.long q3), .second, .val (.int p4), .val (.ref b2), .val (.ref b10), .val (.int (2 : Int32))] [])) _
        refine XS.iload X81.here hx rfl (hb hby at_57) rfl ?_
        show Steps p.tables e below (T81.setTop (mkF m 59 #[.val (.long q1), .second, .val (.long q2), .second, .val (.long q3), .second, .val (.int p4), .val (.ref b2), .val (.ref b10), .val (.int (2 : Int32))] [(.int (2 : Int32))])) _
        refine XS.iconst X81.here hx rfl (hb hby at_59) ?_
        exact k)
    have G83 : Goes p e below s₁ (entryFrame m #[(.long q1), (.long q2), (.long q3), (.int p4)] maxLocals) T81 (mkF m 63 #[.val (.long q1), .second, .val (.long q2), .second, .val (.long q3), .second, .val (.int p4), .val (.ref b2), .val (.ref b10), .val (.int (2 : Int32))] []) := fun _ k => G82 _ (by
        show Steps p.tables e below (T81.setTop (mkF m 60 #[.val (.long q1), .second, .val (.long q2), .second, .val (.long q3), .second, .val (.int p4), .val (.ref b2), .val (.ref b10), .val (.int (2 : Int32))] [(.int (2 : Int32)), (.int (2 : Int32))])) _
        refine XS.icmpNo X81.here hx rfl (hb hby at_60) rfl (flt (by decide : ¬ ((2 : Int32) < (2 : Int32)))).1 ?_
        exact k)
    have G84 : Goes p e below s₁ (entryFrame m #[(.long q1), (.long q2), (.long q3), (.int p4)] maxLocals) T81 (mkF m 66 #[.val (.long q1), .second, .val (.long q2), .second, .val (.long q3), .second, .val (.int p4), .val (.ref b2), .val (.ref b10), .val (.int (2 : Int32))] [(.int (1 : Int32)), (.ref b10)]) := fun _ k => G83 _ (by
        show Steps p.tables e below (T81.setTop (mkF m 63 #[.val (.long q1), .second, .val (.long q2), .second, .val (.long q3), .second, .val (.int p4), .val (.ref b2), .val (.ref b10), .val (.int (2 : Int32))] [])) _
        refine XS.aload X81.here hx rfl (hb hby at_63) rfl rfl ?_
        show Steps p.tables e below (T81.setTop (mkF m 65 #[.val (.long q1), .second, .val (.long q2), .second, .val (.long q3), .second, .val (.int p4), .val (.ref b2), .val (.ref b10), .val (.int (2 : Int32))] [(.ref b10)])) _
        refine XS.iconst X81.here hx rfl (hb hby at_65) ?_
        exact k)
    obtain ⟨cq85, kq85, q85a, q85b, q85c⟩ := isOf hZ rfl (I81).1
    obtain ⟨_, _, ⟨T85, L85, k85, n85⟩, -, X85, ⟨Lc85, hQ85, l85, y85, z85⟩, st85⟩ := X81.virtualBack hx (y := (⟨"com/example/subterm/subterm/algorithm/IndexedHeap", "add", "(I)V"⟩ : MethodName)) (z := (⟨"com/example/subterm/subterm/algorithm/IndexedHeap", "add", "(I)V"⟩ : MethodName)) hown (mvT hZ (hw _ (List.mem_of_getElem? (i := 24) rfl))) (mvT hZ (hw _ (List.mem_of_getElem? (i := 25) rfl))) (notFace_of_selects (args := #[]) (mvT hZ (hw _ (List.mem_of_getElem? (i := 27) rfl)))) (mvT hZ (hw _ (List.mem_of_getElem? (i := 27) rfl))) (mvT hZ (hw _ (List.mem_of_getElem? (i := 26) rfl))) (by decide) (backOf (W := 0) (rm4_1 l Z a0 hw [] b10 b2 hp pl T81.heap n0 Zn I81 D) hZ (hw _ (List.mem_of_getElem? (i := 28) rfl)) (hw _ (List.mem_of_getElem? (i := 3) rfl)) (by decide) (by decide)) q85a q85c (g := (mkF m 66 #[.val (.long q1), .second, .val (.long q2), .second, .val (.long q3), .second, .val (.int p4), .val (.ref b2), .val (.ref b10), .val (.int (2 : Int32))] [(.int (1 : Int32)), (.ref b10)])) rfl (by rw [hml]; rfl) (Steps.refl _) (argsL := [(.int (1 : Int32))]) (rest := []) (lenOf own_pd1 rfl) rfl (by show 2 * 0 + _ ≤ _; exact Nat.le_of_eq rfl) (hb hby at_66) (fun _ _ => ⟨rfl, rfl, (by decide : 4 + 0 ≤ _), (by decide : 13 + 0 ≤ _)⟩)
    dsimp only [Pt.U, Pt.locs, Pt.cells, Pt.slots] at X85 l85 y85 z85 st85 hQ85
    subst l85 y85 z85
    obtain ⟨rfl, N85q, Zn, I85⟩ := hQ85
    have N85 := Fr.app N81 N85q
    have G85 : Goes p e below s₁ (entryFrame m #[(.long q1), (.long q2), (.long q3), (.int p4)] maxLocals) T85 (mkF m 69 #[.val (.long q1), .second, .val (.long q2), .second, .val (.long q3), .second, .val (.int p4), .val (.ref b2), .val (.ref b10), .val (.int (2 : Int32))] []) := fun _ k => G84 _ (st85.trans k)
    have G86 : Goes p e below s₁ (entryFrame m #[(.long q1), (.long q2), (.long q3), (.int p4)] maxLocals) T85 (mkF m 72 #[.val (.long q1), .second, .val (.long q2), .second, .val (.long q3), .second, .val (.int p4), .val (.ref b2), .val (.ref b10), .val (.int (2 : Int32))] [(.int (3 : Int32)), (.int (2 : Int32))]) := fun _ k => G85 _ (by
        show Steps p.tables e below (T85.setTop (mkF m 69 #[.val (.long q1), .second, .val (.long q2), .second, .val (.long q3), .second, .val (.int p4), .val (.ref b2), .val (.ref b10), .val (.int (2 : Int32))] [])) _
        refine XS.iload X85.here hx rfl (hb hby at_69) rfl ?_
        show Steps p.tables e below (T85.setTop (mkF m 71 #[.val (.long q1), .second, .val (.long q2), .second, .val (.long q3), .second, .val (.int p4), .val (.ref b2), .val (.ref b10), .val (.int (2 : Int32))] [(.int (2 : Int32))])) _
        refine XS.iconst X85.here hx rfl (hb hby at_71) ?_
        exact k)
    have G87 : Goes p e below s₁ (entryFrame m #[(.long q1), (.long q2), (.long q3), (.int p4)] maxLocals) T85 (mkF m 81 #[.val (.long q1), .second, .val (.long q2), .second, .val (.long q3), .second, .val (.int p4), .val (.ref b2), .val (.ref b10), .val (.int (2 : Int32))] []) := fun _ k => G86 _ (by
        show Steps p.tables e below (T85.setTop (mkF m 72 #[.val (.long q1), .second, .val (.long q2), .second, .val (.long q3), .second, .val (.int p4), .val (.ref b2), .val (.ref b10), .val (.int (2 : Int32))] [(.int (3 : Int32)), (.int (2 : Int32))])) _
        refine XS.icmpYes X85.here hx rfl (pc0 := 72) (pc' := 81) rfl (hb hby at_72) rfl (tlt (by decide : (2 : Int32) < (3 : Int32))).1 (by decide) (by decide) ?_
        exact k)
    have G88 : Goes p e below s₁ (entryFrame m #[(.long q1), (.long q2), (.long q3), (.int p4)] maxLocals) T85 (mkF m 83 #[.val (.long q1), .second, .val (.long q2), .second, .val (.long q3), .second, .val (.int p4), .val (.ref b2), .val (.ref b10), .val (.int (2 : Int32))] [(.ref b10)]) := fun _ k => G87 _ (by
        show Steps p.tables e below (T85.setTop (mkF m 81 #[.val (.long q1), .second, .val (.long q2), .second, .val (.long q3), .second, .val (.int p4), .val (.ref b2), .val (.ref b10), .val (.int (2 : Int32))] [])) _
        refine XS.aload X85.here hx rfl (hb hby at_81) rfl rfl ?_
        exact k)
    obtain ⟨cq89, kq89, q89a, q89b, q89c⟩ := isOf hZ rfl (I85).1
    obtain ⟨_, _, ⟨T89, L89, k89, n89⟩, -, X89, ⟨Lc89, hQ89, l89, y89, z89⟩, st89⟩ := X85.virtualBack hx (y := (⟨"com/example/subterm/subterm/algorithm/IndexedHeap", "isEmpty", "()Z"⟩ : MethodName)) (z := (⟨"com/example/subterm/subterm/algorithm/IndexedHeap", "isEmpty", "()Z"⟩ : MethodName)) hown (mvT hZ (hw _ (List.mem_of_getElem? (i := 17) rfl))) (mvT hZ (hw _ (List.mem_of_getElem? (i := 18) rfl))) (notFace_of_selects (args := #[]) (mvT hZ (hw _ (List.mem_of_getElem? (i := 20) rfl)))) (mvT hZ (hw _ (List.mem_of_getElem? (i := 20) rfl))) (mvT hZ (hw _ (List.mem_of_getElem? (i := 19) rfl))) (by decide) (backOf (W := 0) (rm3 l Z a0 hw [] b10 b2 hp pl (2 : Int32) T85.heap n0 Zn I85) hZ (hw _ (List.mem_of_getElem? (i := 21) rfl)) (hw _ (List.mem_of_getElem? (i := 3) rfl)) (by decide) (by decide)) q89a q89c (g := (mkF m 83 #[.val (.long q1), .second, .val (.long q2), .second, .val (.long q3), .second, .val (.int p4), .val (.ref b2), .val (.ref b10), .val (.int (2 : Int32))] [(.ref b10)])) rfl (by rw [hml]; rfl) (Steps.refl _) (argsL := []) (rest := []) (lenOf own_pd3 rfl) rfl (by show 2 * 0 + _ ≤ _; exact Nat.le_of_eq rfl) (hb hby at_83) (fun _ _ => ⟨rfl, rfl, (by decide : 4 + 0 ≤ _), (by decide : 13 + 0 ≤ _)⟩)
    dsimp only [Pt.U, Pt.locs, Pt.cells, Pt.slots] at X89 l89 y89 z89 st89 hQ89
    subst l89 y89 z89
    obtain ⟨rfl, N89q, hh89⟩ := hQ89
    have N89 := Fr.app N85 N89q
    have G89 : Goes p e below s₁ (entryFrame m #[(.long q1), (.long q2), (.long q3), (.int p4)] maxLocals) T89 (mkF m 86 #[.val (.long q1), .second, .val (.long q2), .second, .val (.long q3), .second, .val (.int p4), .val (.ref b2), .val (.ref b10), .val (.int (2 : Int32))] [(.int (if (2 : Int32) = 0 then 1 else 0))]) := fun _ k => G88 _ (st89.trans k)
    have G90 : Goes p e below s₁ (entryFrame m #[(.long q1), (.long q2), (.long q3), (.int p4)] maxLocals) T89 (mkF m 86 #[.val (.long q1), .second, .val (.long q2), .second, .val (.long q3), .second, .val (.int p4), .val (.ref b2), .val (.ref b10), .val (.int (2 : Int32))] [(.int (0 : Int32))]) := G89
    have G91 : Goes p e below s₁ (entryFrame m #[(.long q1), (.long q2), (.long q3), (.int p4)] maxLocals) T89 (mkF m 88 #[.val (.long q1), .second, .val (.long q2), .second, .val (.long q3), .second, .val (.int p4), .val (.ref b2), .val (.ref b10), .val (.int (2 : Int32))] [(.int (2 : Int32)), (.int (0 : Int32))]) := fun _ k => G90 _ (by
        show Steps p.tables e below (T89.setTop (mkF m 86 #[.val (.long q1), .second, .val (.long q2), .second, .val (.long q3), .second, .val (.int p4), .val (.ref b2), .val (.ref b10), .val (.int (2 : Int32))] [(.int (0 : Int32))])) _
        refine XS.iload X89.here hx rfl (hb hby at_86) rfl ?_
        exact k)
    have G92 : Goes p e below s₁ (entryFrame m #[(.long q1), (.long q2), (.long q3), (.int p4)] maxLocals) T89 (mkF m 95 #[.val (.long q1), .second, .val (.long q2), .second, .val (.long q3), .second, .val (.int p4), .val (.ref b2), .val (.ref b10), .val (.int (2 : Int32))] [(.int (0 : Int32))]) := fun _ k => G91 _ (by
        show Steps p.tables e below (T89.setTop (mkF m 88 #[.val (.long q1), .second, .val (.long q2), .second, .val (.long q3), .second, .val (.int p4), .val (.ref b2), .val (.ref b10), .val (.int (2 : Int32))] [(.int (2 : Int32)), (.int (0 : Int32))])) _
        refine XS.ifYes X89.here hx rfl (pc0 := 88) (pc' := 95) rfl (hb hby at_88) rfl ((if0 _ _).trans (feq (by decide : ¬ ((2 : Int32) = (0 : Int32)))).2) (by decide) (by decide) ?_
        exact k)
    have G93 : Goes p e below s₁ (entryFrame m #[(.long q1), (.long q2), (.long q3), (.int p4)] maxLocals) T89 (mkF m 96 #[.val (.long q1), .second, .val (.long q2), .second, .val (.long q3), .second, .val (.int p4), .val (.ref b2), .val (.ref b10), .val (.int (2 : Int32))] [(.int (0 : Int32)), (.int (0 : Int32))]) := fun _ k => G92 _ (by
        show Steps p.tables e below (T89.setTop (mkF m 95 #[.val (.long q1), .second, .val (.long q2), .second, .val (.long q3), .second, .val (.int p4), .val (.ref b2), .val (.ref b10), .val (.int (2 : Int32))] [(.int (0 : Int32))])) _
        refine XS.iconst X89.here hx rfl (hb hby at_95) ?_
        exact k)
    have G94 : Goes p e below s₁ (entryFrame m #[(.long q1), (.long q2), (.long q3), (.int p4)] maxLocals) T89 (mkF m 101 #[.val (.long q1), .second, .val (.long q2), .second, .val (.long q3), .second, .val (.int p4), .val (.ref b2), .val (.ref b10), .val (.int (2 : Int32))] []) := fun _ k => G93 _ (by
        show Steps p.tables e below (T89.setTop (mkF m 96 #[.val (.long q1), .second, .val (.long q2), .second, .val (.long q3), .second, .val (.int p4), .val (.ref b2), .val (.ref b10), .val (.int (2 : Int32))] [(.int (0 : Int32)), (.int (0 : Int32))])) _
        refine XS.icmpYes X89.here hx rfl (pc0 := 96) (pc' := 101) rfl (hb hby at_96) rfl (teq (by decide : (0 : Int32) = (0 : Int32))).1 (by decide) (by decide) ?_
        exact k)
    have G95 : Goes p e below s₁ (entryFrame m #[(.long q1), (.long q2), (.long q3), (.int p4)] maxLocals) T89 (mkF m 104 #[.val (.long q1), .second, .val (.long q2), .second, .val (.long q3), .second, .val (.int p4), .val (.ref b2), .val (.ref b10), .val (.int (2 : Int32))] [(.int (1 : Int32)), (.int (2 : Int32))]) := fun _ k => G94 _ (by
        show Steps p.tables e below (T89.setTop (mkF m 101 #[.val (.long q1), .second, .val (.long q2), .second, .val (.long q3), .second, .val (.int p4), .val (.ref b2), .val (.ref b10), .val (.int (2 : Int32))] [])) _
        refine XS.iload X89.here hx rfl (hb hby at_101) rfl ?_
        show Steps p.tables e below (T89.setTop (mkF m 103 #[.val (.long q1), .second, .val (.long q2), .second, .val (.long q3), .second, .val (.int p4), .val (.ref b2), .val (.ref b10), .val (.int (2 : Int32))] [(.int (2 : Int32))])) _
        refine XS.iconst X89.here hx rfl (hb hby at_103) ?_
        exact k)
    have G96 : Goes p e below s₁ (entryFrame m #[(.long q1), (.long q2), (.long q3), (.int p4)] maxLocals) T89 (mkF m 107 #[.val (.long q1), .second, .val (.long q2), .second, .val (.long q3), .second, .val (.int p4), .val (.ref b2), .val (.ref b10), .val (.int (2 : Int32))] []) := fun _ k => G95 _ (by
        show Steps p.tables e below (T89.setTop (mkF m 104 #[.val (.long q1), .second, .val (.long q2), .second, .val (.long q3), .second, .val (.int p4), .val (.ref b2), .val (.ref b10), .val (.int (2 : Int32))] [(.int (1 : Int32)), (.int (2 : Int32))])) _
        refine XS.icmpNo X89.here hx rfl (hb hby at_104) rfl (flt (by decide : ¬ ((2 : Int32) < (1 : Int32)))).1 ?_
        exact k)
    have G97 : Goes p e below s₁ (entryFrame m #[(.long q1), (.long q2), (.long q3), (.int p4)] maxLocals) T89 (mkF m 109 #[.val (.long q1), .second, .val (.long q2), .second, .val (.long q3), .second, .val (.int p4), .val (.ref b2), .val (.ref b10), .val (.int (2 : Int32))] [(.ref b10)]) := fun _ k => G96 _ (by
        show Steps p.tables e below (T89.setTop (mkF m 107 #[.val (.long q1), .second, .val (.long q2), .second, .val (.long q3), .second, .val (.int p4), .val (.ref b2), .val (.ref b10), .val (.int (2 : Int32))] [])) _
        refine XS.aload X89.here hx rfl (hb hby at_107) rfl rfl ?_
        exact k)
    obtain ⟨cq98, kq98, q98a, q98b, q98c⟩ := isOf hZ hh89 (I85).1
    obtain ⟨_, _, ⟨T98, L98, k98, n98⟩, -, X98, ⟨Lc98, hQ98, l98, y98, z98⟩, st98⟩ := X89.virtualBack hx (y := (⟨"com/example/subterm/subterm/algorithm/IndexedHeap", "removeFirst", "()I"⟩ : MethodName)) (z := (⟨"com/example/subterm/subterm/algorithm/IndexedHeap", "removeFirst", "()I"⟩ : MethodName)) hown (mvT hZ (hw _ (List.mem_of_getElem? (i := 37) rfl))) (mvT hZ (hw _ (List.mem_of_getElem? (i := 38) rfl))) (notFace_of_selects (args := #[]) (mvT hZ (hw _ (List.mem_of_getElem? (i := 40) rfl)))) (mvT hZ (hw _ (List.mem_of_getElem? (i := 40) rfl))) (mvT hZ (hw _ (List.mem_of_getElem? (i := 39) rfl))) (by decide) (backOf (W := 0) (rm7_2 l Z a0 hw [] b10 b2 hp pl T85.heap n0 Zn I85 D) hZ (hw _ (List.mem_of_getElem? (i := 41) rfl)) (hw _ (List.mem_of_getElem? (i := 3) rfl)) (by decide) (by decide)) q98a q98c (g := (mkF m 109 #[.val (.long q1), .second, .val (.long q2), .second, .val (.long q3), .second, .val (.int p4), .val (.ref b2), .val (.ref b10), .val (.int (2 : Int32))] [(.ref b10)])) rfl (by rw [hml]; rfl) (Steps.refl _) (argsL := []) (rest := []) (lenOf own_pd4 rfl) rfl (by show 2 * 0 + _ ≤ _; exact Nat.le_of_eq rfl) (hb hby at_109) (fun _ _ => ⟨rfl, hh89, (by decide : 4 + 0 ≤ _), (by decide : 13 + 0 ≤ _)⟩)
    dsimp only [Pt.U, Pt.locs, Pt.cells, Pt.slots] at X98 l98 y98 z98 st98 hQ98
    subst l98 y98 z98
    obtain ⟨x98, rfl, N98q, Zn, I98⟩ := hQ98
    have N98 := Fr.app N89 N98q
    have G98 : Goes p e below s₁ (entryFrame m #[(.long q1), (.long q2), (.long q3), (.int p4)] maxLocals) T98 (mkF m 112 #[.val (.long q1), .second, .val (.long q2), .second, .val (.long q3), .second, .val (.int p4), .val (.ref b2), .val (.ref b10), .val (.int (2 : Int32))] [(.int x98)]) := fun _ k => G97 _ (st98.trans k)
    have G99 : Goes p e below s₁ (entryFrame m #[(.long q1), (.long q2), (.long q3), (.int p4)] maxLocals) T98 (mkF m 115 #[.val (.long q1), .second, .val (.long q2), .second, .val (.long q3), .second, .val (.int p4), .val (.ref b2), .val (.ref b10), .val (.int (2 : Int32))] [(.ref b10)]) := fun _ k => G98 _ (by
        show Steps p.tables e below (T98.setTop (mkF m 112 #[.val (.long q1), .second, .val (.long q2), .second, .val (.long q3), .second, .val (.int p4), .val (.ref b2), .val (.ref b10), .val (.int (2 : Int32))] [(.int x98)])) _
        refine XS.pop X98.here hx rfl (hb hby at_112) rfl rfl ?_
        show Steps p.tables e below (T98.setTop (mkF m 113 #[.val (.long q1), .second, .val (.long q2), .second, .val (.long q3), .second, .val (.int p4), .val (.ref b2), .val (.ref b10), .val (.int (2 : Int32))] [])) _
        refine XS.aload X98.here hx rfl (hb hby at_113) rfl rfl ?_
        exact k)
    obtain ⟨cq100, kq100, q100a, q100b, q100c⟩ := isOf hZ rfl (I98).1
    obtain ⟨_, _, ⟨T100, L100, k100, n100⟩, -, X100, ⟨Lc100, hQ100, l100, y100, z100⟩, st100⟩ := X98.virtualBack hx (y := (⟨"com/example/subterm/subterm/algorithm/IndexedHeap", "isEmpty", "()Z"⟩ : MethodName)) (z := (⟨"com/example/subterm/subterm/algorithm/IndexedHeap", "isEmpty", "()Z"⟩ : MethodName)) hown (mvT hZ (hw _ (List.mem_of_getElem? (i := 17) rfl))) (mvT hZ (hw _ (List.mem_of_getElem? (i := 18) rfl))) (notFace_of_selects (args := #[]) (mvT hZ (hw _ (List.mem_of_getElem? (i := 20) rfl)))) (mvT hZ (hw _ (List.mem_of_getElem? (i := 20) rfl))) (mvT hZ (hw _ (List.mem_of_getElem? (i := 19) rfl))) (by decide) (backOf (W := 0) (rm3 l Z a0 hw [] b10 b2 hp pl (1 : Int32) T98.heap n0 Zn I98) hZ (hw _ (List.mem_of_getElem? (i := 21) rfl)) (hw _ (List.mem_of_getElem? (i := 3) rfl)) (by decide) (by decide)) q100a q100c (g := (mkF m 115 #[.val (.long q1), .second, .val (.long q2), .second, .val (.long q3), .second, .val (.int p4), .val (.ref b2), .val (.ref b10), .val (.int (2 : Int32))] [(.ref b10)])) rfl (by rw [hml]; rfl) (Steps.refl _) (argsL := []) (rest := []) (lenOf own_pd3 rfl) rfl (by show 2 * 0 + _ ≤ _; exact Nat.le_of_eq rfl) (hb hby at_115) (fun _ _ => ⟨rfl, rfl, (by decide : 4 + 0 ≤ _), (by decide : 13 + 0 ≤ _)⟩)
    dsimp only [Pt.U, Pt.locs, Pt.cells, Pt.slots] at X100 l100 y100 z100 st100 hQ100
    subst l100 y100 z100
    obtain ⟨rfl, N100q, hh100⟩ := hQ100
    have N100 := Fr.app N98 N100q
    have G100 : Goes p e below s₁ (entryFrame m #[(.long q1), (.long q2), (.long q3), (.int p4)] maxLocals) T100 (mkF m 118 #[.val (.long q1), .second, .val (.long q2), .second, .val (.long q3), .second, .val (.int p4), .val (.ref b2), .val (.ref b10), .val (.int (2 : Int32))] [(.int (if (1 : Int32) = 0 then 1 else 0))]) := fun _ k => G99 _ (st100.trans k)
    have G101 : Goes p e below s₁ (entryFrame m #[(.long q1), (.long q2), (.long q3), (.int p4)] maxLocals) T100 (mkF m 118 #[.val (.long q1), .second, .val (.long q2), .second, .val (.long q3), .second, .val (.int p4), .val (.ref b2), .val (.ref b10), .val (.int (2 : Int32))] [(.int (0 : Int32))]) := G100
    have G102 : Goes p e below s₁ (entryFrame m #[(.long q1), (.long q2), (.long q3), (.int p4)] maxLocals) T100 (mkF m 121 #[.val (.long q1), .second, .val (.long q2), .second, .val (.long q3), .second, .val (.int p4), .val (.ref b2), .val (.ref b10), .val (.int (2 : Int32))] [(.int (1 : Int32)), (.int (2 : Int32)), (.int (0 : Int32))]) := fun _ k => G101 _ (by
        show Steps p.tables e below (T100.setTop (mkF m 118 #[.val (.long q1), .second, .val (.long q2), .second, .val (.long q3), .second, .val (.int p4), .val (.ref b2), .val (.ref b10), .val (.int (2 : Int32))] [(.int (0 : Int32))])) _
        refine XS.iload X100.here hx rfl (hb hby at_118) rfl ?_
        show Steps p.tables e below (T100.setTop (mkF m 120 #[.val (.long q1), .second, .val (.long q2), .second, .val (.long q3), .second, .val (.int p4), .val (.ref b2), .val (.ref b10), .val (.int (2 : Int32))] [(.int (2 : Int32)), (.int (0 : Int32))])) _
        refine XS.iconst X100.here hx rfl (hb hby at_120) ?_
        exact k)
    have G103 : Goes p e below s₁ (entryFrame m #[(.long q1), (.long q2), (.long q3), (.int p4)] maxLocals) T100 (mkF m 128 #[.val (.long q1), .second, .val (.long q2), .second, .val (.long q3), .second, .val (.int p4), .val (.ref b2), .val (.ref b10), .val (.int (2 : Int32))] [(.int (0 : Int32))]) := fun _ k => G102 _ (by
        show Steps p.tables e below (T100.setTop (mkF m 121 #[.val (.long q1), .second, .val (.long q2), .second, .val (.long q3), .second, .val (.int p4), .val (.ref b2), .val (.ref b10), .val (.int (2 : Int32))] [(.int (1 : Int32)), (.int (2 : Int32)), (.int (0 : Int32))])) _
        refine XS.icmpYes X100.here hx rfl (pc0 := 121) (pc' := 128) rfl (hb hby at_121) rfl (feq (by decide : ¬ ((2 : Int32) = (1 : Int32)))).2 (by decide) (by decide) ?_
        exact k)
    have G104 : Goes p e below s₁ (entryFrame m #[(.long q1), (.long q2), (.long q3), (.int p4)] maxLocals) T100 (mkF m 129 #[.val (.long q1), .second, .val (.long q2), .second, .val (.long q3), .second, .val (.int p4), .val (.ref b2), .val (.ref b10), .val (.int (2 : Int32))] [(.int (0 : Int32)), (.int (0 : Int32))]) := fun _ k => G103 _ (by
        show Steps p.tables e below (T100.setTop (mkF m 128 #[.val (.long q1), .second, .val (.long q2), .second, .val (.long q3), .second, .val (.int p4), .val (.ref b2), .val (.ref b10), .val (.int (2 : Int32))] [(.int (0 : Int32))])) _
        refine XS.iconst X100.here hx rfl (hb hby at_128) ?_
        exact k)
    have G105 : Goes p e below s₁ (entryFrame m #[(.long q1), (.long q2), (.long q3), (.int p4)] maxLocals) T100 (mkF m 134 #[.val (.long q1), .second, .val (.long q2), .second, .val (.long q3), .second, .val (.int p4), .val (.ref b2), .val (.ref b10), .val (.int (2 : Int32))] []) := fun _ k => G104 _ (by
        show Steps p.tables e below (T100.setTop (mkF m 129 #[.val (.long q1), .second, .val (.long q2), .second, .val (.long q3), .second, .val (.int p4), .val (.ref b2), .val (.ref b10), .val (.int (2 : Int32))] [(.int (0 : Int32)), (.int (0 : Int32))])) _
        refine XS.icmpYes X100.here hx rfl (pc0 := 129) (pc' := 134) rfl (hb hby at_129) rfl (teq (by decide : (0 : Int32) = (0 : Int32))).1 (by decide) (by decide) ?_
        exact k)
    have G106 : Goes p e below s₁ (entryFrame m #[(.long q1), (.long q2), (.long q3), (.int p4)] maxLocals) T100 (mkF m 137 #[.val (.long q1), .second, .val (.long q2), .second, .val (.long q3), .second, .val (.int p4), .val (.ref b2), .val (.ref b10), .val (.int (2 : Int32))] [(.int (2 : Int32)), (.int (2 : Int32))]) := fun _ k => G105 _ (by
        show Steps p.tables e below (T100.setTop (mkF m 134 #[.val (.long q1), .second, .val (.long q2), .second, .val (.long q3), .second, .val (.int p4), .val (.ref b2), .val (.ref b10), .val (.int (2 : Int32))] [])) _
        refine XS.iload X100.here hx rfl (hb hby at_134) rfl ?_
        show Steps p.tables e below (T100.setTop (mkF m 136 #[.val (.long q1), .second, .val (.long q2), .second, .val (.long q3), .second, .val (.int p4), .val (.ref b2), .val (.ref b10), .val (.int (2 : Int32))] [(.int (2 : Int32))])) _
        refine XS.iconst X100.here hx rfl (hb hby at_136) ?_
        exact k)
    have G107 : Goes p e below s₁ (entryFrame m #[(.long q1), (.long q2), (.long q3), (.int p4)] maxLocals) T100 (mkF m 140 #[.val (.long q1), .second, .val (.long q2), .second, .val (.long q3), .second, .val (.int p4), .val (.ref b2), .val (.ref b10), .val (.int (2 : Int32))] []) := fun _ k => G106 _ (by
        show Steps p.tables e below (T100.setTop (mkF m 137 #[.val (.long q1), .second, .val (.long q2), .second, .val (.long q3), .second, .val (.int p4), .val (.ref b2), .val (.ref b10), .val (.int (2 : Int32))] [(.int (2 : Int32)), (.int (2 : Int32))])) _
        refine XS.icmpNo X100.here hx rfl (hb hby at_137) rfl (flt (by decide : ¬ ((2 : Int32) < (2 : Int32)))).1 ?_
        exact k)
    have G108 : Goes p e below s₁ (entryFrame m #[(.long q1), (.long q2), (.long q3), (.int p4)] maxLocals) T100 (mkF m 142 #[.val (.long q1), .second, .val (.long q2), .second, .val (.long q3), .second, .val (.int p4), .val (.ref b2), .val (.ref b10), .val (.int (2 : Int32))] [(.ref b10)]) := fun _ k => G107 _ (by
        show Steps p.tables e below (T100.setTop (mkF m 140 #[.val (.long q1), .second, .val (.long q2), .second, .val (.long q3), .second, .val (.int p4), .val (.ref b2), .val (.ref b10), .val (.int (2 : Int32))] [])) _
        refine XS.aload X100.here hx rfl (hb hby at_140) rfl rfl ?_
        exact k)
    obtain ⟨cq109, kq109, q109a, q109b, q109c⟩ := isOf hZ hh100 (I98).1
    obtain ⟨_, _, ⟨T109, L109, k109, n109⟩, -, X109, ⟨Lc109, hQ109, l109, y109, z109⟩, st109⟩ := X100.virtualBack hx (y := (⟨"com/example/subterm/subterm/algorithm/IndexedHeap", "removeFirst", "()I"⟩ : MethodName)) (z := (⟨"com/example/subterm/subterm/algorithm/IndexedHeap", "removeFirst", "()I"⟩ : MethodName)) hown (mvT hZ (hw _ (List.mem_of_getElem? (i := 37) rfl))) (mvT hZ (hw _ (List.mem_of_getElem? (i := 38) rfl))) (notFace_of_selects (args := #[]) (mvT hZ (hw _ (List.mem_of_getElem? (i := 40) rfl)))) (mvT hZ (hw _ (List.mem_of_getElem? (i := 40) rfl))) (mvT hZ (hw _ (List.mem_of_getElem? (i := 39) rfl))) (by decide) (backOf (W := 0) (rm7_1 l Z a0 hw [] b10 b2 hp pl T98.heap n0 Zn I98 D) hZ (hw _ (List.mem_of_getElem? (i := 41) rfl)) (hw _ (List.mem_of_getElem? (i := 3) rfl)) (by decide) (by decide)) q109a q109c (g := (mkF m 142 #[.val (.long q1), .second, .val (.long q2), .second, .val (.long q3), .second, .val (.int p4), .val (.ref b2), .val (.ref b10), .val (.int (2 : Int32))] [(.ref b10)])) rfl (by rw [hml]; rfl) (Steps.refl _) (argsL := []) (rest := []) (lenOf own_pd4 rfl) rfl (by show 2 * 0 + _ ≤ _; exact Nat.le_of_eq rfl) (hb hby at_142) (fun _ _ => ⟨rfl, hh100, (by decide : 4 + 0 ≤ _), (by decide : 13 + 0 ≤ _)⟩)
    dsimp only [Pt.U, Pt.locs, Pt.cells, Pt.slots] at X109 l109 y109 z109 st109 hQ109
    subst l109 y109 z109
    obtain ⟨x109, rfl, N109q, Zn, I109⟩ := hQ109
    have N109 := Fr.app N100 N109q
    have G109 : Goes p e below s₁ (entryFrame m #[(.long q1), (.long q2), (.long q3), (.int p4)] maxLocals) T109 (mkF m 145 #[.val (.long q1), .second, .val (.long q2), .second, .val (.long q3), .second, .val (.int p4), .val (.ref b2), .val (.ref b10), .val (.int (2 : Int32))] [(.int x109)]) := fun _ k => G108 _ (st109.trans k)
    have G110 : Goes p e below s₁ (entryFrame m #[(.long q1), (.long q2), (.long q3), (.int p4)] maxLocals) T109 (mkF m 148 #[.val (.long q1), .second, .val (.long q2), .second, .val (.long q3), .second, .val (.int p4), .val (.ref b2), .val (.ref b10), .val (.int (2 : Int32))] [(.ref b10)]) := fun _ k => G109 _ (by
        show Steps p.tables e below (T109.setTop (mkF m 145 #[.val (.long q1), .second, .val (.long q2), .second, .val (.long q3), .second, .val (.int p4), .val (.ref b2), .val (.ref b10), .val (.int (2 : Int32))] [(.int x109)])) _
        refine XS.pop X109.here hx rfl (hb hby at_145) rfl rfl ?_
        show Steps p.tables e below (T109.setTop (mkF m 146 #[.val (.long q1), .second, .val (.long q2), .second, .val (.long q3), .second, .val (.int p4), .val (.ref b2), .val (.ref b10), .val (.int (2 : Int32))] [])) _
        refine XS.aload X109.here hx rfl (hb hby at_146) rfl rfl ?_
        exact k)
    obtain ⟨cq111, kq111, q111a, q111b, q111c⟩ := isOf hZ rfl (I109).1
    obtain ⟨_, _, ⟨T111, L111, k111, n111⟩, -, X111, ⟨Lc111, hQ111, l111, y111, z111⟩, st111⟩ := X109.virtualBack hx (y := (⟨"com/example/subterm/subterm/algorithm/IndexedHeap", "isEmpty", "()Z"⟩ : MethodName)) (z := (⟨"com/example/subterm/subterm/algorithm/IndexedHeap", "isEmpty", "()Z"⟩ : MethodName)) hown (mvT hZ (hw _ (List.mem_of_getElem? (i := 17) rfl))) (mvT hZ (hw _ (List.mem_of_getElem? (i := 18) rfl))) (notFace_of_selects (args := #[]) (mvT hZ (hw _ (List.mem_of_getElem? (i := 20) rfl)))) (mvT hZ (hw _ (List.mem_of_getElem? (i := 20) rfl))) (mvT hZ (hw _ (List.mem_of_getElem? (i := 19) rfl))) (by decide) (backOf (W := 0) (rm3 l Z a0 hw [] b10 b2 hp pl (0 : Int32) T109.heap n0 Zn I109) hZ (hw _ (List.mem_of_getElem? (i := 21) rfl)) (hw _ (List.mem_of_getElem? (i := 3) rfl)) (by decide) (by decide)) q111a q111c (g := (mkF m 148 #[.val (.long q1), .second, .val (.long q2), .second, .val (.long q3), .second, .val (.int p4), .val (.ref b2), .val (.ref b10), .val (.int (2 : Int32))] [(.ref b10)])) rfl (by rw [hml]; rfl) (Steps.refl _) (argsL := []) (rest := []) (lenOf own_pd3 rfl) rfl (by show 2 * 0 + _ ≤ _; exact Nat.le_of_eq rfl) (hb hby at_148) (fun _ _ => ⟨rfl, rfl, (by decide : 4 + 0 ≤ _), (by decide : 13 + 0 ≤ _)⟩)
    dsimp only [Pt.U, Pt.locs, Pt.cells, Pt.slots] at X111 l111 y111 z111 st111 hQ111
    subst l111 y111 z111
    obtain ⟨rfl, N111q, hh111⟩ := hQ111
    have N111 := Fr.app N109 N111q
    have G111 : Goes p e below s₁ (entryFrame m #[(.long q1), (.long q2), (.long q3), (.int p4)] maxLocals) T111 (mkF m 151 #[.val (.long q1), .second, .val (.long q2), .second, .val (.long q3), .second, .val (.int p4), .val (.ref b2), .val (.ref b10), .val (.int (2 : Int32))] [(.int (if (0 : Int32) = 0 then 1 else 0))]) := fun _ k => G110 _ (st111.trans k)
    have G112 : Goes p e below s₁ (entryFrame m #[(.long q1), (.long q2), (.long q3), (.int p4)] maxLocals) T111 (mkF m 151 #[.val (.long q1), .second, .val (.long q2), .second, .val (.long q3), .second, .val (.int p4), .val (.ref b2), .val (.ref b10), .val (.int (2 : Int32))] [(.int (1 : Int32))]) := G111
    have G113 : Goes p e below s₁ (entryFrame m #[(.long q1), (.long q2), (.long q3), (.int p4)] maxLocals) T111 (mkF m 154 #[.val (.long q1), .second, .val (.long q2), .second, .val (.long q3), .second, .val (.int p4), .val (.ref b2), .val (.ref b10), .val (.int (2 : Int32))] [(.int (2 : Int32)), (.int (2 : Int32)), (.int (1 : Int32))]) := fun _ k => G112 _ (by
        show Steps p.tables e below (T111.setTop (mkF m 151 #[.val (.long q1), .second, .val (.long q2), .second, .val (.long q3), .second, .val (.int p4), .val (.ref b2), .val (.ref b10), .val (.int (2 : Int32))] [(.int (1 : Int32))])) _
        refine XS.iload X111.here hx rfl (hb hby at_151) rfl ?_
        show Steps p.tables e below (T111.setTop (mkF m 153 #[.val (.long q1), .second, .val (.long q2), .second, .val (.long q3), .second, .val (.int p4), .val (.ref b2), .val (.ref b10), .val (.int (2 : Int32))] [(.int (2 : Int32)), (.int (1 : Int32))])) _
        refine XS.iconst X111.here hx rfl (hb hby at_153) ?_
        exact k)
    have G114 : Goes p e below s₁ (entryFrame m #[(.long q1), (.long q2), (.long q3), (.int p4)] maxLocals) T111 (mkF m 157 #[.val (.long q1), .second, .val (.long q2), .second, .val (.long q3), .second, .val (.int p4), .val (.ref b2), .val (.ref b10), .val (.int (2 : Int32))] [(.int (1 : Int32))]) := fun _ k => G113 _ (by
        show Steps p.tables e below (T111.setTop (mkF m 154 #[.val (.long q1), .second, .val (.long q2), .second, .val (.long q3), .second, .val (.int p4), .val (.ref b2), .val (.ref b10), .val (.int (2 : Int32))] [(.int (2 : Int32)), (.int (2 : Int32)), (.int (1 : Int32))])) _
        refine XS.icmpNo X111.here hx rfl (hb hby at_154) rfl (teq (by decide : (2 : Int32) = (2 : Int32))).2 ?_
        exact k)
    have G115 : Goes p e below s₁ (entryFrame m #[(.long q1), (.long q2), (.long q3), (.int p4)] maxLocals) T111 (mkF m 162 #[.val (.long q1), .second, .val (.long q2), .second, .val (.long q3), .second, .val (.int p4), .val (.ref b2), .val (.ref b10), .val (.int (2 : Int32))] [(.int (1 : Int32)), (.int (1 : Int32))]) := fun _ k => G114 _ (by
        show Steps p.tables e below (T111.setTop (mkF m 157 #[.val (.long q1), .second, .val (.long q2), .second, .val (.long q3), .second, .val (.int p4), .val (.ref b2), .val (.ref b10), .val (.int (2 : Int32))] [(.int (1 : Int32))])) _
        refine XS.iconst X111.here hx rfl (hb hby at_157) ?_
        show Steps p.tables e below (T111.setTop (mkF m 158 #[.val (.long q1), .second, .val (.long q2), .second, .val (.long q3), .second, .val (.int p4), .val (.ref b2), .val (.ref b10), .val (.int (2 : Int32))] [(.int (1 : Int32)), (.int (1 : Int32))])) _
        refine XS.goto X111.here hx rfl (pc0 := 158) (pc' := 162) rfl (hb hby at_158) (by decide) (by decide) ?_
        exact k)
    have G116 : Goes p e below s₁ (entryFrame m #[(.long q1), (.long q2), (.long q3), (.int p4)] maxLocals) T111 (mkF m 167 #[.val (.long q1), .second, .val (.long q2), .second, .val (.long q3), .second, .val (.int p4), .val (.ref b2), .val (.ref b10), .val (.int (2 : Int32))] []) := fun _ k => G115 _ (by
        show Steps p.tables e below (T111.setTop (mkF m 162 #[.val (.long q1), .second, .val (.long q2), .second, .val (.long q3), .second, .val (.int p4), .val (.ref b2), .val (.ref b10), .val (.int (2 : Int32))] [(.int (1 : Int32)), (.int (1 : Int32))])) _
        refine XS.icmpYes X111.here hx rfl (pc0 := 162) (pc' := 167) rfl (hb hby at_162) rfl (teq (by decide : (1 : Int32) = (1 : Int32))).1 (by decide) (by decide) ?_
        exact k)
    have G117 : Goes p e below s₁ (entryFrame m #[(.long q1), (.long q2), (.long q3), (.int p4)] maxLocals) T111 (mkF m 170 #[.val (.long q1), .second, .val (.long q2), .second, .val (.long q3), .second, .val (.int p4), .val (.ref b2), .val (.ref b10), .val (.int (2 : Int32))] [(.int (3 : Int32)), (.int (2 : Int32))]) := fun _ k => G116 _ (by
        show Steps p.tables e below (T111.setTop (mkF m 167 #[.val (.long q1), .second, .val (.long q2), .second, .val (.long q3), .second, .val (.int p4), .val (.ref b2), .val (.ref b10), .val (.int (2 : Int32))] [])) _
        refine XS.iload X111.here hx rfl (hb hby at_167) rfl ?_
        show Steps p.tables e below (T111.setTop (mkF m 169 #[.val (.long q1), .second, .val (.long q2), .second, .val (.long q3), .second, .val (.int p4), .val (.ref b2), .val (.ref b10), .val (.int (2 : Int32))] [(.int (2 : Int32))])) _
        refine XS.iconst X111.here hx rfl (hb hby at_169) ?_
        exact k)
    have G118 : Goes p e below s₁ (entryFrame m #[(.long q1), (.long q2), (.long q3), (.int p4)] maxLocals) T111 (mkF m 189 #[.val (.long q1), .second, .val (.long q2), .second, .val (.long q3), .second, .val (.int p4), .val (.ref b2), .val (.ref b10), .val (.int (2 : Int32))] []) := fun _ k => G117 _ (by
        show Steps p.tables e below (T111.setTop (mkF m 170 #[.val (.long q1), .second, .val (.long q2), .second, .val (.long q3), .second, .val (.int p4), .val (.ref b2), .val (.ref b10), .val (.int (2 : Int32))] [(.int (3 : Int32)), (.int (2 : Int32))])) _
        refine XS.icmpYes X111.here hx rfl (pc0 := 170) (pc' := 189) rfl (hb hby at_170) rfl (tlt (by decide : (2 : Int32) < (3 : Int32))).1 (by decide) (by decide) ?_
        exact k)
    have G119 : Goes p e below s₁ (entryFrame m #[(.long q1), (.long q2), (.long q3), (.int p4)] maxLocals) T111 (mkF m 190 #[.val (.long q1), .second, .val (.long q2), .second, .val (.long q3), .second, .val (.int p4), .val (.ref b2), .val (.ref b10), .val (.int (2 : Int32))] [(.int (1 : Int32))]) := fun _ k => G118 _ (by
        show Steps p.tables e below (T111.setTop (mkF m 189 #[.val (.long q1), .second, .val (.long q2), .second, .val (.long q3), .second, .val (.int p4), .val (.ref b2), .val (.ref b10), .val (.int (2 : Int32))] [])) _
        refine XS.iconst X111.here hx rfl (hb hby at_189) ?_
        exact k)
    obtain ⟨fs, hr, hrun, hended, hW, hsame⟩ := X111.leave (v := some (.int (1 : Int32))) (fun h => by rw [Bd.returns] at h; cases h)
    refine ⟨_, _, G119 _ (retN X111 hx (t := .boolean) Bd.returns (by simp) (hb hby at_190) hr), hrun, hended, _, _, rfl, ?_, ⟨_, rfl⟩, hW, hsame.mono (by decide) (by decide)⟩
    show Q0 n0 _ T111.heap _
    exact ⟨rfl, N111⟩
  · rw [hs] at G14
    have G120 : Goes p e below s₁ (entryFrame m #[(.long q1), (.long q2), (.long q3), (.int p4)] maxLocals) T13 (mkF m 37 #[.val (.long q1), .second, .val (.long q2), .second, .val (.long q3), .second, .val (.int p4), .val (.ref b2), .val (.ref b10), .val (.int (3 : Int32))] [(.ref b10)]) := fun _ k => G14 _ (by
        show Steps p.tables e below (T13.setTop (mkF m 35 #[.val (.long q1), .second, .val (.long q2), .second, .val (.long q3), .second, .val (.int p4), .val (.ref b2), .val (.ref b10), .val (.int (3 : Int32))] [])) _
        refine XS.aload X13.here hx rfl (hb hby at_35) rfl rfl ?_
        exact k)
    obtain ⟨cq121, kq121, q121a, q121b, q121c⟩ := isOf hZ rfl (I13).1
    obtain ⟨_, _, ⟨T121, L121, k121, n121⟩, -, X121, ⟨Lc121, hQ121, l121, y121, z121⟩, st121⟩ := X13.virtualBack hx (y := (⟨"com/example/subterm/subterm/algorithm/IndexedHeap", "isEmpty", "()Z"⟩ : MethodName)) (z := (⟨"com/example/subterm/subterm/algorithm/IndexedHeap", "isEmpty", "()Z"⟩ : MethodName)) hown (mvT hZ (hw _ (List.mem_of_getElem? (i := 17) rfl))) (mvT hZ (hw _ (List.mem_of_getElem? (i := 18) rfl))) (notFace_of_selects (args := #[]) (mvT hZ (hw _ (List.mem_of_getElem? (i := 20) rfl)))) (mvT hZ (hw _ (List.mem_of_getElem? (i := 20) rfl))) (mvT hZ (hw _ (List.mem_of_getElem? (i := 19) rfl))) (by decide) (backOf (W := 0) (rm3 l Z a0 hw [] b10 b2 hp pl (0 : Int32) T13.heap n0 Zn I13) hZ (hw _ (List.mem_of_getElem? (i := 21) rfl)) (hw _ (List.mem_of_getElem? (i := 3) rfl)) (by decide) (by decide)) q121a q121c (g := (mkF m 37 #[.val (.long q1), .second, .val (.long q2), .second, .val (.long q3), .second, .val (.int p4), .val (.ref b2), .val (.ref b10), .val (.int (3 : Int32))] [(.ref b10)])) rfl (by rw [hml]; rfl) (Steps.refl _) (argsL := []) (rest := []) (lenOf own_pd3 rfl) rfl (by show 2 * 0 + _ ≤ _; exact Nat.le_of_eq rfl) (hb hby at_37) (fun _ _ => ⟨rfl, rfl, (by decide : 4 + 0 ≤ _), (by decide : 13 + 0 ≤ _)⟩)
    dsimp only [Pt.U, Pt.locs, Pt.cells, Pt.slots] at X121 l121 y121 z121 st121 hQ121
    subst l121 y121 z121
    obtain ⟨rfl, N121q, hh121⟩ := hQ121
    have N121 := Fr.app N13 N121q
    have G121 : Goes p e below s₁ (entryFrame m #[(.long q1), (.long q2), (.long q3), (.int p4)] maxLocals) T121 (mkF m 40 #[.val (.long q1), .second, .val (.long q2), .second, .val (.long q3), .second, .val (.int p4), .val (.ref b2), .val (.ref b10), .val (.int (3 : Int32))] [(.int (if (0 : Int32) = 0 then 1 else 0))]) := fun _ k => G120 _ (st121.trans k)
    have G122 : Goes p e below s₁ (entryFrame m #[(.long q1), (.long q2), (.long q3), (.int p4)] maxLocals) T121 (mkF m 40 #[.val (.long q1), .second, .val (.long q2), .second, .val (.long q3), .second, .val (.int p4), .val (.ref b2), .val (.ref b10), .val (.int (3 : Int32))] [(.int (1 : Int32))]) := G121
    have G123 : Goes p e below s₁ (entryFrame m #[(.long q1), (.long q2), (.long q3), (.int p4)] maxLocals) T121 (mkF m 45 #[.val (.long q1), .second, .val (.long q2), .second, .val (.long q3), .second, .val (.int p4), .val (.ref b2), .val (.ref b10), .val (.int (3 : Int32))] []) := fun _ k => G122 _ (by
        show Steps p.tables e below (T121.setTop (mkF m 40 #[.val (.long q1), .second, .val (.long q2), .second, .val (.long q3), .second, .val (.int p4), .val (.ref b2), .val (.ref b10), .val (.int (3 : Int32))] [(.int (1 : Int32))])) _
        refine XS.ifYes X121.here hx rfl (pc0 := 40) (pc' := 45) rfl (hb hby at_40) rfl ((if0 _ _).trans (feq (by decide : ¬ ((1 : Int32) = (0 : Int32)))).2) (by decide) (by decide) ?_
        exact k)
    have G124 : Goes p e below s₁ (entryFrame m #[(.long q1), (.long q2), (.long q3), (.int p4)] maxLocals) T121 (mkF m 48 #[.val (.long q1), .second, .val (.long q2), .second, .val (.long q3), .second, .val (.int p4), .val (.ref b2), .val (.ref b10), .val (.int (3 : Int32))] [(.int (1 : Int32)), (.int (3 : Int32))]) := fun _ k => G123 _ (by
        show Steps p.tables e below (T121.setTop (mkF m 45 #[.val (.long q1), .second, .val (.long q2), .second, .val (.long q3), .second, .val (.int p4), .val (.ref b2), .val (.ref b10), .val (.int (3 : Int32))] [])) _
        refine XS.iload X121.here hx rfl (hb hby at_45) rfl ?_
        show Steps p.tables e below (T121.setTop (mkF m 47 #[.val (.long q1), .second, .val (.long q2), .second, .val (.long q3), .second, .val (.int p4), .val (.ref b2), .val (.ref b10), .val (.int (3 : Int32))] [(.int (3 : Int32))])) _
        refine XS.iconst X121.here hx rfl (hb hby at_47) ?_
        exact k)
    have G125 : Goes p e below s₁ (entryFrame m #[(.long q1), (.long q2), (.long q3), (.int p4)] maxLocals) T121 (mkF m 51 #[.val (.long q1), .second, .val (.long q2), .second, .val (.long q3), .second, .val (.int p4), .val (.ref b2), .val (.ref b10), .val (.int (3 : Int32))] []) := fun _ k => G124 _ (by
        show Steps p.tables e below (T121.setTop (mkF m 48 #[.val (.long q1), .second, .val (.long q2), .second, .val (.long q3), .second, .val (.int p4), .val (.ref b2), .val (.ref b10), .val (.int (3 : Int32))] [(.int (1 : Int32)), (.int (3 : Int32))])) _
        refine XS.icmpNo X121.here hx rfl (hb hby at_48) rfl (flt (by decide : ¬ ((3 : Int32) < (1 : Int32)))).1 ?_
        exact k)
    have G126 : Goes p e below s₁ (entryFrame m #[(.long q1), (.long q2), (.long q3), (.int p4)] maxLocals) T121 (mkF m 54 #[.val (.long q1), .second, .val (.long q2), .second, .val (.long q3), .second, .val (.int p4), .val (.ref b2), .val (.ref b10), .val (.int (3 : Int32))] [(.int (0 : Int32)), (.ref b10)]) := fun _ k => G125 _ (by
        show Steps p.tables e below (T121.setTop (mkF m 51 #[.val (.long q1), .second, .val (.long q2), .second, .val (.long q3), .second, .val (.int p4), .val (.ref b2), .val (.ref b10), .val (.int (3 : Int32))] [])) _
        refine XS.aload X121.here hx rfl (hb hby at_51) rfl rfl ?_
        show Steps p.tables e below (T121.setTop (mkF m 53 #[.val (.long q1), .second, .val (.long q2), .second, .val (.long q3), .second, .val (.int p4), .val (.ref b2), .val (.ref b10), .val (.int (3 : Int32))] [(.ref b10)])) _
        refine XS.iconst X121.here hx rfl (hb hby at_53) ?_
        exact k)
    obtain ⟨cq127, kq127, q127a, q127b, q127c⟩ := isOf hZ hh121 (I13).1
    obtain ⟨_, _, ⟨T127, L127, k127, n127⟩, -, X127, ⟨Lc127, hQ127, l127, y127, z127⟩, st127⟩ := X121.virtualBack hx (y := (⟨"com/example/subterm/subterm/algorithm/IndexedHeap", "add", "(I)V"⟩ : MethodName)) (z := (⟨"com/example/subterm/subterm/algorithm/IndexedHeap", "add", "(I)V"⟩ : MethodName)) hown (mvT hZ (hw _ (List.mem_of_getElem? (i := 24) rfl))) (mvT hZ (hw _ (List.mem_of_getElem? (i := 25) rfl))) (notFace_of_selects (args := #[]) (mvT hZ (hw _ (List.mem_of_getElem? (i := 27) rfl)))) (mvT hZ (hw _ (List.mem_of_getElem? (i := 27) rfl))) (mvT hZ (hw _ (List.mem_of_getElem? (i := 26) rfl))) (by decide) (backOf (W := 0) (rm4_0 l Z a0 hw [] b10 b2 hp pl T13.heap n0 Zn I13 D) hZ (hw _ (List.mem_of_getElem? (i := 28) rfl)) (hw _ (List.mem_of_getElem? (i := 3) rfl)) (by decide) (by decide)) q127a q127c (g := (mkF m 54 #[.val (.long q1), .second, .val (.long q2), .second, .val (.long q3), .second, .val (.int p4), .val (.ref b2), .val (.ref b10), .val (.int (3 : Int32))] [(.int (0 : Int32)), (.ref b10)])) rfl (by rw [hml]; rfl) (Steps.refl _) (argsL := [(.int (0 : Int32))]) (rest := []) (lenOf own_pd1 rfl) rfl (by show 2 * 0 + _ ≤ _; exact Nat.le_of_eq rfl) (hb hby at_54) (fun _ _ => ⟨rfl, hh121, (by decide : 4 + 0 ≤ _), (by decide : 13 + 0 ≤ _)⟩)
    dsimp only [Pt.U, Pt.locs, Pt.cells, Pt.slots] at X127 l127 y127 z127 st127 hQ127
    subst l127 y127 z127
    obtain ⟨rfl, N127q, Zn, I127⟩ := hQ127
    have N127 := Fr.app N121 N127q
    have G127 : Goes p e below s₁ (entryFrame m #[(.long q1), (.long q2), (.long q3), (.int p4)] maxLocals) T127 (mkF m 57 #[.val (.long q1), .second, .val (.long q2), .second, .val (.long q3), .second, .val (.int p4), .val (.ref b2), .val (.ref b10), .val (.int (3 : Int32))] []) := fun _ k => G126 _ (st127.trans k)
    have G128 : Goes p e below s₁ (entryFrame m #[(.long q1), (.long q2), (.long q3), (.int p4)] maxLocals) T127 (mkF m 60 #[.val (.long q1), .second, .val (.long q2), .second, .val (.long q3), .second, .val (.int p4), .val (.ref b2), .val (.ref b10), .val (.int (3 : Int32))] [(.int (2 : Int32)), (.int (3 : Int32))]) := fun _ k => G127 _ (by
        show Steps p.tables e below (T127.setTop (mkF m 57 #[.val (.long q1), .second, .val (.long q2), .second, .val (.long q3), .second, .val (.int p4), .val (.ref b2), .val (.ref b10), .val (.int (3 : Int32))] [])) _
        refine XS.iload X127.here hx rfl (hb hby at_57) rfl ?_
        show Steps p.tables e below (T127.setTop (mkF m 59 #[.val (.long q1), .second, .val (.long q2), .second, .val (.long q3), .second, .val (.int p4), .val (.ref b2), .val (.ref b10), .val (.int (3 : Int32))] [(.int (3 : Int32))])) _
        refine XS.iconst X127.here hx rfl (hb hby at_59) ?_
        exact k)
    have G129 : Goes p e below s₁ (entryFrame m #[(.long q1), (.long q2), (.long q3), (.int p4)] maxLocals) T127 (mkF m 63 #[.val (.long q1), .second, .val (.long q2), .second, .val (.long q3), .second, .val (.int p4), .val (.ref b2), .val (.ref b10), .val (.int (3 : Int32))] []) := fun _ k => G128 _ (by
        show Steps p.tables e below (T127.setTop (mkF m 60 #[.val (.long q1), .second, .val (.long q2), .second, .val (.long q3), .second, .val (.int p4), .val (.ref b2), .val (.ref b10), .val (.int (3 : Int32))] [(.int (2 : Int32)), (.int (3 : Int32))])) _
        refine XS.icmpNo X127.here hx rfl (hb hby at_60) rfl (flt (by decide : ¬ ((3 : Int32) < (2 : Int32)))).1 ?_
        exact k)
    have G130 : Goes p e below s₁ (entryFrame m #[(.long q1), (.long q2), (.long q3), (.int p4)] maxLocals) T127 (mkF m 66 #[.val (.long q1), .second, .val (.long q2), .second, .val (.long q3), .second, .val (.int p4), .val (.ref b2), .val (.ref b10), .val (.int (3 : Int32))] [(.int (1 : Int32)), (.ref b10)]) := fun _ k => G129 _ (by
        show Steps p.tables e below (T127.setTop (mkF m 63 #[.val (.long q1), .second, .val (.long q2), .second, .val (.long q3), .second, .val (.int p4), .val (.ref b2), .val (.ref b10), .val (.int (3 : Int32))] [])) _
        refine XS.aload X127.here hx rfl (hb hby at_63) rfl rfl ?_
        show Steps p.tables e below (T127.setTop (mkF m 65 #[.val (.long q1), .second, .val (.long q2), .second, .val (.long q3), .second, .val (.int p4), .val (.ref b2), .val (.ref b10), .val (.int (3 : Int32))] [(.ref b10)])) _
        refine XS.iconst X127.here hx rfl (hb hby at_65) ?_
        exact k)
    obtain ⟨cq131, kq131, q131a, q131b, q131c⟩ := isOf hZ rfl (I127).1
    obtain ⟨_, _, ⟨T131, L131, k131, n131⟩, -, X131, ⟨Lc131, hQ131, l131, y131, z131⟩, st131⟩ := X127.virtualBack hx (y := (⟨"com/example/subterm/subterm/algorithm/IndexedHeap", "add", "(I)V"⟩ : MethodName)) (z := (⟨"com/example/subterm/subterm/algorithm/IndexedHeap", "add", "(I)V"⟩ : MethodName)) hown (mvT hZ (hw _ (List.mem_of_getElem? (i := 24) rfl))) (mvT hZ (hw _ (List.mem_of_getElem? (i := 25) rfl))) (notFace_of_selects (args := #[]) (mvT hZ (hw _ (List.mem_of_getElem? (i := 27) rfl)))) (mvT hZ (hw _ (List.mem_of_getElem? (i := 27) rfl))) (mvT hZ (hw _ (List.mem_of_getElem? (i := 26) rfl))) (by decide) (backOf (W := 0) (rm4_1 l Z a0 hw [] b10 b2 hp pl T127.heap n0 Zn I127 D) hZ (hw _ (List.mem_of_getElem? (i := 28) rfl)) (hw _ (List.mem_of_getElem? (i := 3) rfl)) (by decide) (by decide)) q131a q131c (g := (mkF m 66 #[.val (.long q1), .second, .val (.long q2), .second, .val (.long q3), .second, .val (.int p4), .val (.ref b2), .val (.ref b10), .val (.int (3 : Int32))] [(.int (1 : Int32)), (.ref b10)])) rfl (by rw [hml]; rfl) (Steps.refl _) (argsL := [(.int (1 : Int32))]) (rest := []) (lenOf own_pd1 rfl) rfl (by show 2 * 0 + _ ≤ _; exact Nat.le_of_eq rfl) (hb hby at_66) (fun _ _ => ⟨rfl, rfl, (by decide : 4 + 0 ≤ _), (by decide : 13 + 0 ≤ _)⟩)
    dsimp only [Pt.U, Pt.locs, Pt.cells, Pt.slots] at X131 l131 y131 z131 st131 hQ131
    subst l131 y131 z131
    obtain ⟨rfl, N131q, Zn, I131⟩ := hQ131
    have N131 := Fr.app N127 N131q
    have G131 : Goes p e below s₁ (entryFrame m #[(.long q1), (.long q2), (.long q3), (.int p4)] maxLocals) T131 (mkF m 69 #[.val (.long q1), .second, .val (.long q2), .second, .val (.long q3), .second, .val (.int p4), .val (.ref b2), .val (.ref b10), .val (.int (3 : Int32))] []) := fun _ k => G130 _ (st131.trans k)
    have G132 : Goes p e below s₁ (entryFrame m #[(.long q1), (.long q2), (.long q3), (.int p4)] maxLocals) T131 (mkF m 72 #[.val (.long q1), .second, .val (.long q2), .second, .val (.long q3), .second, .val (.int p4), .val (.ref b2), .val (.ref b10), .val (.int (3 : Int32))] [(.int (3 : Int32)), (.int (3 : Int32))]) := fun _ k => G131 _ (by
        show Steps p.tables e below (T131.setTop (mkF m 69 #[.val (.long q1), .second, .val (.long q2), .second, .val (.long q3), .second, .val (.int p4), .val (.ref b2), .val (.ref b10), .val (.int (3 : Int32))] [])) _
        refine XS.iload X131.here hx rfl (hb hby at_69) rfl ?_
        show Steps p.tables e below (T131.setTop (mkF m 71 #[.val (.long q1), .second, .val (.long q2), .second, .val (.long q3), .second, .val (.int p4), .val (.ref b2), .val (.ref b10), .val (.int (3 : Int32))] [(.int (3 : Int32))])) _
        refine XS.iconst X131.here hx rfl (hb hby at_71) ?_
        exact k)
    have G133 : Goes p e below s₁ (entryFrame m #[(.long q1), (.long q2), (.long q3), (.int p4)] maxLocals) T131 (mkF m 75 #[.val (.long q1), .second, .val (.long q2), .second, .val (.long q3), .second, .val (.int p4), .val (.ref b2), .val (.ref b10), .val (.int (3 : Int32))] []) := fun _ k => G132 _ (by
        show Steps p.tables e below (T131.setTop (mkF m 72 #[.val (.long q1), .second, .val (.long q2), .second, .val (.long q3), .second, .val (.int p4), .val (.ref b2), .val (.ref b10), .val (.int (3 : Int32))] [(.int (3 : Int32)), (.int (3 : Int32))])) _
        refine XS.icmpNo X131.here hx rfl (hb hby at_72) rfl (flt (by decide : ¬ ((3 : Int32) < (3 : Int32)))).1 ?_
        exact k)
    have G134 : Goes p e below s₁ (entryFrame m #[(.long q1), (.long q2), (.long q3), (.int p4)] maxLocals) T131 (mkF m 78 #[.val (.long q1), .second, .val (.long q2), .second, .val (.long q3), .second, .val (.int p4), .val (.ref b2), .val (.ref b10), .val (.int (3 : Int32))] [(.int (2 : Int32)), (.ref b10)]) := fun _ k => G133 _ (by
        show Steps p.tables e below (T131.setTop (mkF m 75 #[.val (.long q1), .second, .val (.long q2), .second, .val (.long q3), .second, .val (.int p4), .val (.ref b2), .val (.ref b10), .val (.int (3 : Int32))] [])) _
        refine XS.aload X131.here hx rfl (hb hby at_75) rfl rfl ?_
        show Steps p.tables e below (T131.setTop (mkF m 77 #[.val (.long q1), .second, .val (.long q2), .second, .val (.long q3), .second, .val (.int p4), .val (.ref b2), .val (.ref b10), .val (.int (3 : Int32))] [(.ref b10)])) _
        refine XS.iconst X131.here hx rfl (hb hby at_77) ?_
        exact k)
    obtain ⟨cq135, kq135, q135a, q135b, q135c⟩ := isOf hZ rfl (I131).1
    obtain ⟨_, _, ⟨T135, L135, k135, n135⟩, -, X135, ⟨Lc135, hQ135, l135, y135, z135⟩, st135⟩ := X131.virtualBack hx (y := (⟨"com/example/subterm/subterm/algorithm/IndexedHeap", "add", "(I)V"⟩ : MethodName)) (z := (⟨"com/example/subterm/subterm/algorithm/IndexedHeap", "add", "(I)V"⟩ : MethodName)) hown (mvT hZ (hw _ (List.mem_of_getElem? (i := 24) rfl))) (mvT hZ (hw _ (List.mem_of_getElem? (i := 25) rfl))) (notFace_of_selects (args := #[]) (mvT hZ (hw _ (List.mem_of_getElem? (i := 27) rfl)))) (mvT hZ (hw _ (List.mem_of_getElem? (i := 27) rfl))) (mvT hZ (hw _ (List.mem_of_getElem? (i := 26) rfl))) (by decide) (backOf (W := 0) (rm4_2 l Z a0 hw [] b10 b2 hp pl T131.heap n0 Zn I131 D) hZ (hw _ (List.mem_of_getElem? (i := 28) rfl)) (hw _ (List.mem_of_getElem? (i := 3) rfl)) (by decide) (by decide)) q135a q135c (g := (mkF m 78 #[.val (.long q1), .second, .val (.long q2), .second, .val (.long q3), .second, .val (.int p4), .val (.ref b2), .val (.ref b10), .val (.int (3 : Int32))] [(.int (2 : Int32)), (.ref b10)])) rfl (by rw [hml]; rfl) (Steps.refl _) (argsL := [(.int (2 : Int32))]) (rest := []) (lenOf own_pd1 rfl) rfl (by show 2 * 0 + _ ≤ _; exact Nat.le_of_eq rfl) (hb hby at_78) (fun _ _ => ⟨rfl, rfl, (by decide : 4 + 0 ≤ _), (by decide : 13 + 0 ≤ _)⟩)
    dsimp only [Pt.U, Pt.locs, Pt.cells, Pt.slots] at X135 l135 y135 z135 st135 hQ135
    subst l135 y135 z135
    obtain ⟨rfl, N135q, Zn, I135⟩ := hQ135
    have N135 := Fr.app N131 N135q
    have G135 : Goes p e below s₁ (entryFrame m #[(.long q1), (.long q2), (.long q3), (.int p4)] maxLocals) T135 (mkF m 81 #[.val (.long q1), .second, .val (.long q2), .second, .val (.long q3), .second, .val (.int p4), .val (.ref b2), .val (.ref b10), .val (.int (3 : Int32))] []) := fun _ k => G134 _ (st135.trans k)
    have G136 : Goes p e below s₁ (entryFrame m #[(.long q1), (.long q2), (.long q3), (.int p4)] maxLocals) T135 (mkF m 83 #[.val (.long q1), .second, .val (.long q2), .second, .val (.long q3), .second, .val (.int p4), .val (.ref b2), .val (.ref b10), .val (.int (3 : Int32))] [(.ref b10)]) := fun _ k => G135 _ (by
        show Steps p.tables e below (T135.setTop (mkF m 81 #[.val (.long q1), .second, .val (.long q2), .second, .val (.long q3), .second, .val (.int p4), .val (.ref b2), .val (.ref b10), .val (.int (3 : Int32))] [])) _
        refine XS.aload X135.here hx rfl (hb hby at_81) rfl rfl ?_
        exact k)
    obtain ⟨cq137, kq137, q137a, q137b, q137c⟩ := isOf hZ rfl (I135).1
    obtain ⟨_, _, ⟨T137, L137, k137, n137⟩, -, X137, ⟨Lc137, hQ137, l137, y137, z137⟩, st137⟩ := X135.virtualBack hx (y := (⟨"com/example/subterm/subterm/algorithm/IndexedHeap", "isEmpty", "()Z"⟩ : MethodName)) (z := (⟨"com/example/subterm/subterm/algorithm/IndexedHeap", "isEmpty", "()Z"⟩ : MethodName)) hown (mvT hZ (hw _ (List.mem_of_getElem? (i := 17) rfl))) (mvT hZ (hw _ (List.mem_of_getElem? (i := 18) rfl))) (notFace_of_selects (args := #[]) (mvT hZ (hw _ (List.mem_of_getElem? (i := 20) rfl)))) (mvT hZ (hw _ (List.mem_of_getElem? (i := 20) rfl))) (mvT hZ (hw _ (List.mem_of_getElem? (i := 19) rfl))) (by decide) (backOf (W := 0) (rm3 l Z a0 hw [] b10 b2 hp pl (3 : Int32) T135.heap n0 Zn I135) hZ (hw _ (List.mem_of_getElem? (i := 21) rfl)) (hw _ (List.mem_of_getElem? (i := 3) rfl)) (by decide) (by decide)) q137a q137c (g := (mkF m 83 #[.val (.long q1), .second, .val (.long q2), .second, .val (.long q3), .second, .val (.int p4), .val (.ref b2), .val (.ref b10), .val (.int (3 : Int32))] [(.ref b10)])) rfl (by rw [hml]; rfl) (Steps.refl _) (argsL := []) (rest := []) (lenOf own_pd3 rfl) rfl (by show 2 * 0 + _ ≤ _; exact Nat.le_of_eq rfl) (hb hby at_83) (fun _ _ => ⟨rfl, rfl, (by decide : 4 + 0 ≤ _), (by decide : 13 + 0 ≤ _)⟩)
    dsimp only [Pt.U, Pt.locs, Pt.cells, Pt.slots] at X137 l137 y137 z137 st137 hQ137
    subst l137 y137 z137
    obtain ⟨rfl, N137q, hh137⟩ := hQ137
    have N137 := Fr.app N135 N137q
    have G137 : Goes p e below s₁ (entryFrame m #[(.long q1), (.long q2), (.long q3), (.int p4)] maxLocals) T137 (mkF m 86 #[.val (.long q1), .second, .val (.long q2), .second, .val (.long q3), .second, .val (.int p4), .val (.ref b2), .val (.ref b10), .val (.int (3 : Int32))] [(.int (if (3 : Int32) = 0 then 1 else 0))]) := fun _ k => G136 _ (st137.trans k)
    have G138 : Goes p e below s₁ (entryFrame m #[(.long q1), (.long q2), (.long q3), (.int p4)] maxLocals) T137 (mkF m 86 #[.val (.long q1), .second, .val (.long q2), .second, .val (.long q3), .second, .val (.int p4), .val (.ref b2), .val (.ref b10), .val (.int (3 : Int32))] [(.int (0 : Int32))]) := G137
    have G139 : Goes p e below s₁ (entryFrame m #[(.long q1), (.long q2), (.long q3), (.int p4)] maxLocals) T137 (mkF m 88 #[.val (.long q1), .second, .val (.long q2), .second, .val (.long q3), .second, .val (.int p4), .val (.ref b2), .val (.ref b10), .val (.int (3 : Int32))] [(.int (3 : Int32)), (.int (0 : Int32))]) := fun _ k => G138 _ (by
        show Steps p.tables e below (T137.setTop (mkF m 86 #[.val (.long q1), .second, .val (.long q2), .second, .val (.long q3), .second, .val (.int p4), .val (.ref b2), .val (.ref b10), .val (.int (3 : Int32))] [(.int (0 : Int32))])) _
        refine XS.iload X137.here hx rfl (hb hby at_86) rfl ?_
        exact k)
    have G140 : Goes p e below s₁ (entryFrame m #[(.long q1), (.long q2), (.long q3), (.int p4)] maxLocals) T137 (mkF m 95 #[.val (.long q1), .second, .val (.long q2), .second, .val (.long q3), .second, .val (.int p4), .val (.ref b2), .val (.ref b10), .val (.int (3 : Int32))] [(.int (0 : Int32))]) := fun _ k => G139 _ (by
        show Steps p.tables e below (T137.setTop (mkF m 88 #[.val (.long q1), .second, .val (.long q2), .second, .val (.long q3), .second, .val (.int p4), .val (.ref b2), .val (.ref b10), .val (.int (3 : Int32))] [(.int (3 : Int32)), (.int (0 : Int32))])) _
        refine XS.ifYes X137.here hx rfl (pc0 := 88) (pc' := 95) rfl (hb hby at_88) rfl ((if0 _ _).trans (feq (by decide : ¬ ((3 : Int32) = (0 : Int32)))).2) (by decide) (by decide) ?_
        exact k)
    have G141 : Goes p e below s₁ (entryFrame m #[(.long q1), (.long q2), (.long q3), (.int p4)] maxLocals) T137 (mkF m 96 #[.val (.long q1), .second, .val (.long q2), .second, .val (.long q3), .second, .val (.int p4), .val (.ref b2), .val (.ref b10), .val (.int (3 : Int32))] [(.int (0 : Int32)), (.int (0 : Int32))]) := fun _ k => G140 _ (by
        show Steps p.tables e below (T137.setTop (mkF m 95 #[.val (.long q1), .second, .val (.long q2), .second, .val (.long q3), .second, .val (.int p4), .val (.ref b2), .val (.ref b10), .val (.int (3 : Int32))] [(.int (0 : Int32))])) _
        refine XS.iconst X137.here hx rfl (hb hby at_95) ?_
        exact k)
    have G142 : Goes p e below s₁ (entryFrame m #[(.long q1), (.long q2), (.long q3), (.int p4)] maxLocals) T137 (mkF m 101 #[.val (.long q1), .second, .val (.long q2), .second, .val (.long q3), .second, .val (.int p4), .val (.ref b2), .val (.ref b10), .val (.int (3 : Int32))] []) := fun _ k => G141 _ (by
        show Steps p.tables e below (T137.setTop (mkF m 96 #[.val (.long q1), .second, .val (.long q2), .second, .val (.long q3), .second, .val (.int p4), .val (.ref b2), .val (.ref b10), .val (.int (3 : Int32))] [(.int (0 : Int32)), (.int (0 : Int32))])) _
        refine XS.icmpYes X137.here hx rfl (pc0 := 96) (pc' := 101) rfl (hb hby at_96) rfl (teq (by decide : (0 : Int32) = (0 : Int32))).1 (by decide) (by decide) ?_
        exact k)
    have G143 : Goes p e below s₁ (entryFrame m #[(.long q1), (.long q2), (.long q3), (.int p4)] maxLocals) T137 (mkF m 104 #[.val (.long q1), .second, .val (.long q2), .second, .val (.long q3), .second, .val (.int p4), .val (.ref b2), .val (.ref b10), .val (.int (3 : Int32))] [(.int (1 : Int32)), (.int (3 : Int32))]) := fun _ k => G142 _ (by
        show Steps p.tables e below (T137.setTop (mkF m 101 #[.val (.long q1), .second, .val (.long q2), .second, .val (.long q3), .second, .val (.int p4), .val (.ref b2), .val (.ref b10), .val (.int (3 : Int32))] [])) _
        refine XS.iload X137.here hx rfl (hb hby at_101) rfl ?_
        show Steps p.tables e below (T137.setTop (mkF m 103 #[.val (.long q1), .second, .val (.long q2), .second, .val (.long q3), .second, .val (.int p4), .val (.ref b2), .val (.ref b10), .val (.int (3 : Int32))] [(.int (3 : Int32))])) _
        refine XS.iconst X137.here hx rfl (hb hby at_103) ?_
        exact k)
    have G144 : Goes p e below s₁ (entryFrame m #[(.long q1), (.long q2), (.long q3), (.int p4)] maxLocals) T137 (mkF m 107 #[.val (.long q1), .second, .val (.long q2), .second, .val (.long q3), .second, .val (.int p4), .val (.ref b2), .val (.ref b10), .val (.int (3 : Int32))] []) := fun _ k => G143 _ (by
        show Steps p.tables e below (T137.setTop (mkF m 104 #[.val (.long q1), .second, .val (.long q2), .second, .val (.long q3), .second, .val (.int p4), .val (.ref b2), .val (.ref b10), .val (.int (3 : Int32))] [(.int (1 : Int32)), (.int (3 : Int32))])) _
        refine XS.icmpNo X137.here hx rfl (hb hby at_104) rfl (flt (by decide : ¬ ((3 : Int32) < (1 : Int32)))).1 ?_
        exact k)
    have G145 : Goes p e below s₁ (entryFrame m #[(.long q1), (.long q2), (.long q3), (.int p4)] maxLocals) T137 (mkF m 109 #[.val (.long q1), .second, .val (.long q2), .second, .val (.long q3), .second, .val (.int p4), .val (.ref b2), .val (.ref b10), .val (.int (3 : Int32))] [(.ref b10)]) := fun _ k => G144 _ (by
        show Steps p.tables e below (T137.setTop (mkF m 107 #[.val (.long q1), .second, .val (.long q2), .second, .val (.long q3), .second, .val (.int p4), .val (.ref b2), .val (.ref b10), .val (.int (3 : Int32))] [])) _
        refine XS.aload X137.here hx rfl (hb hby at_107) rfl rfl ?_
        exact k)
    obtain ⟨cq146, kq146, q146a, q146b, q146c⟩ := isOf hZ hh137 (I135).1
    obtain ⟨_, _, ⟨T146, L146, k146, n146⟩, -, X146, ⟨Lc146, hQ146, l146, y146, z146⟩, st146⟩ := X137.virtualBack hx (y := (⟨"com/example/subterm/subterm/algorithm/IndexedHeap", "removeFirst", "()I"⟩ : MethodName)) (z := (⟨"com/example/subterm/subterm/algorithm/IndexedHeap", "removeFirst", "()I"⟩ : MethodName)) hown (mvT hZ (hw _ (List.mem_of_getElem? (i := 37) rfl))) (mvT hZ (hw _ (List.mem_of_getElem? (i := 38) rfl))) (notFace_of_selects (args := #[]) (mvT hZ (hw _ (List.mem_of_getElem? (i := 40) rfl)))) (mvT hZ (hw _ (List.mem_of_getElem? (i := 40) rfl))) (mvT hZ (hw _ (List.mem_of_getElem? (i := 39) rfl))) (by decide) (backOf (W := 0) (rm7_3 l Z a0 hw [] b10 b2 hp pl T135.heap n0 Zn I135 D) hZ (hw _ (List.mem_of_getElem? (i := 41) rfl)) (hw _ (List.mem_of_getElem? (i := 3) rfl)) (by decide) (by decide)) q146a q146c (g := (mkF m 109 #[.val (.long q1), .second, .val (.long q2), .second, .val (.long q3), .second, .val (.int p4), .val (.ref b2), .val (.ref b10), .val (.int (3 : Int32))] [(.ref b10)])) rfl (by rw [hml]; rfl) (Steps.refl _) (argsL := []) (rest := []) (lenOf own_pd4 rfl) rfl (by show 2 * 0 + _ ≤ _; exact Nat.le_of_eq rfl) (hb hby at_109) (fun _ _ => ⟨rfl, hh137, (by decide : 4 + 0 ≤ _), (by decide : 13 + 0 ≤ _)⟩)
    dsimp only [Pt.U, Pt.locs, Pt.cells, Pt.slots] at X146 l146 y146 z146 st146 hQ146
    subst l146 y146 z146
    obtain ⟨x146, rfl, N146q, Zn, I146⟩ := hQ146
    have N146 := Fr.app N137 N146q
    have G146 : Goes p e below s₁ (entryFrame m #[(.long q1), (.long q2), (.long q3), (.int p4)] maxLocals) T146 (mkF m 112 #[.val (.long q1), .second, .val (.long q2), .second, .val (.long q3), .second, .val (.int p4), .val (.ref b2), .val (.ref b10), .val (.int (3 : Int32))] [(.int x146)]) := fun _ k => G145 _ (st146.trans k)
    have G147 : Goes p e below s₁ (entryFrame m #[(.long q1), (.long q2), (.long q3), (.int p4)] maxLocals) T146 (mkF m 115 #[.val (.long q1), .second, .val (.long q2), .second, .val (.long q3), .second, .val (.int p4), .val (.ref b2), .val (.ref b10), .val (.int (3 : Int32))] [(.ref b10)]) := fun _ k => G146 _ (by
        show Steps p.tables e below (T146.setTop (mkF m 112 #[.val (.long q1), .second, .val (.long q2), .second, .val (.long q3), .second, .val (.int p4), .val (.ref b2), .val (.ref b10), .val (.int (3 : Int32))] [(.int x146)])) _
        refine XS.pop X146.here hx rfl (hb hby at_112) rfl rfl ?_
        show Steps p.tables e below (T146.setTop (mkF m 113 #[.val (.long q1), .second, .val (.long q2), .second, .val (.long q3), .second, .val (.int p4), .val (.ref b2), .val (.ref b10), .val (.int (3 : Int32))] [])) _
        refine XS.aload X146.here hx rfl (hb hby at_113) rfl rfl ?_
        exact k)
    obtain ⟨cq148, kq148, q148a, q148b, q148c⟩ := isOf hZ rfl (I146).1
    obtain ⟨_, _, ⟨T148, L148, k148, n148⟩, -, X148, ⟨Lc148, hQ148, l148, y148, z148⟩, st148⟩ := X146.virtualBack hx (y := (⟨"com/example/subterm/subterm/algorithm/IndexedHeap", "isEmpty", "()Z"⟩ : MethodName)) (z := (⟨"com/example/subterm/subterm/algorithm/IndexedHeap", "isEmpty", "()Z"⟩ : MethodName)) hown (mvT hZ (hw _ (List.mem_of_getElem? (i := 17) rfl))) (mvT hZ (hw _ (List.mem_of_getElem? (i := 18) rfl))) (notFace_of_selects (args := #[]) (mvT hZ (hw _ (List.mem_of_getElem? (i := 20) rfl)))) (mvT hZ (hw _ (List.mem_of_getElem? (i := 20) rfl))) (mvT hZ (hw _ (List.mem_of_getElem? (i := 19) rfl))) (by decide) (backOf (W := 0) (rm3 l Z a0 hw [] b10 b2 hp pl (2 : Int32) T146.heap n0 Zn I146) hZ (hw _ (List.mem_of_getElem? (i := 21) rfl)) (hw _ (List.mem_of_getElem? (i := 3) rfl)) (by decide) (by decide)) q148a q148c (g := (mkF m 115 #[.val (.long q1), .second, .val (.long q2), .second, .val (.long q3), .second, .val (.int p4), .val (.ref b2), .val (.ref b10), .val (.int (3 : Int32))] [(.ref b10)])) rfl (by rw [hml]; rfl) (Steps.refl _) (argsL := []) (rest := []) (lenOf own_pd3 rfl) rfl (by show 2 * 0 + _ ≤ _; exact Nat.le_of_eq rfl) (hb hby at_115) (fun _ _ => ⟨rfl, rfl, (by decide : 4 + 0 ≤ _), (by decide : 13 + 0 ≤ _)⟩)
    dsimp only [Pt.U, Pt.locs, Pt.cells, Pt.slots] at X148 l148 y148 z148 st148 hQ148
    subst l148 y148 z148
    obtain ⟨rfl, N148q, hh148⟩ := hQ148
    have N148 := Fr.app N146 N148q
    have G148 : Goes p e below s₁ (entryFrame m #[(.long q1), (.long q2), (.long q3), (.int p4)] maxLocals) T148 (mkF m 118 #[.val (.long q1), .second, .val (.long q2), .second, .val (.long q3), .second, .val (.int p4), .val (.ref b2), .val (.ref b10), .val (.int (3 : Int32))] [(.int (if (2 : Int32) = 0 then 1 else 0))]) := fun _ k => G147 _ (st148.trans k)
    have G149 : Goes p e below s₁ (entryFrame m #[(.long q1), (.long q2), (.long q3), (.int p4)] maxLocals) T148 (mkF m 118 #[.val (.long q1), .second, .val (.long q2), .second, .val (.long q3), .second, .val (.int p4), .val (.ref b2), .val (.ref b10), .val (.int (3 : Int32))] [(.int (0 : Int32))]) := G148
    have G150 : Goes p e below s₁ (entryFrame m #[(.long q1), (.long q2), (.long q3), (.int p4)] maxLocals) T148 (mkF m 121 #[.val (.long q1), .second, .val (.long q2), .second, .val (.long q3), .second, .val (.int p4), .val (.ref b2), .val (.ref b10), .val (.int (3 : Int32))] [(.int (1 : Int32)), (.int (3 : Int32)), (.int (0 : Int32))]) := fun _ k => G149 _ (by
        show Steps p.tables e below (T148.setTop (mkF m 118 #[.val (.long q1), .second, .val (.long q2), .second, .val (.long q3), .second, .val (.int p4), .val (.ref b2), .val (.ref b10), .val (.int (3 : Int32))] [(.int (0 : Int32))])) _
        refine XS.iload X148.here hx rfl (hb hby at_118) rfl ?_
        show Steps p.tables e below (T148.setTop (mkF m 120 #[.val (.long q1), .second, .val (.long q2), .second, .val (.long q3), .second, .val (.int p4), .val (.ref b2), .val (.ref b10), .val (.int (3 : Int32))] [(.int (3 : Int32)), (.int (0 : Int32))])) _
        refine XS.iconst X148.here hx rfl (hb hby at_120) ?_
        exact k)
    have G151 : Goes p e below s₁ (entryFrame m #[(.long q1), (.long q2), (.long q3), (.int p4)] maxLocals) T148 (mkF m 128 #[.val (.long q1), .second, .val (.long q2), .second, .val (.long q3), .second, .val (.int p4), .val (.ref b2), .val (.ref b10), .val (.int (3 : Int32))] [(.int (0 : Int32))]) := fun _ k => G150 _ (by
        show Steps p.tables e below (T148.setTop (mkF m 121 #[.val (.long q1), .second, .val (.long q2), .second, .val (.long q3), .second, .val (.int p4), .val (.ref b2), .val (.ref b10), .val (.int (3 : Int32))] [(.int (1 : Int32)), (.int (3 : Int32)), (.int (0 : Int32))])) _
        refine XS.icmpYes X148.here hx rfl (pc0 := 121) (pc' := 128) rfl (hb hby at_121) rfl (feq (by decide : ¬ ((3 : Int32) = (1 : Int32)))).2 (by decide) (by decide) ?_
        exact k)
    have G152 : Goes p e below s₁ (entryFrame m #[(.long q1), (.long q2), (.long q3), (.int p4)] maxLocals) T148 (mkF m 129 #[.val (.long q1), .second, .val (.long q2), .second, .val (.long q3), .second, .val (.int p4), .val (.ref b2), .val (.ref b10), .val (.int (3 : Int32))] [(.int (0 : Int32)), (.int (0 : Int32))]) := fun _ k => G151 _ (by
        show Steps p.tables e below (T148.setTop (mkF m 128 #[.val (.long q1), .second, .val (.long q2), .second, .val (.long q3), .second, .val (.int p4), .val (.ref b2), .val (.ref b10), .val (.int (3 : Int32))] [(.int (0 : Int32))])) _
        refine XS.iconst X148.here hx rfl (hb hby at_128) ?_
        exact k)
    have G153 : Goes p e below s₁ (entryFrame m #[(.long q1), (.long q2), (.long q3), (.int p4)] maxLocals) T148 (mkF m 134 #[.val (.long q1), .second, .val (.long q2), .second, .val (.long q3), .second, .val (.int p4), .val (.ref b2), .val (.ref b10), .val (.int (3 : Int32))] []) := fun _ k => G152 _ (by
        show Steps p.tables e below (T148.setTop (mkF m 129 #[.val (.long q1), .second, .val (.long q2), .second, .val (.long q3), .second, .val (.int p4), .val (.ref b2), .val (.ref b10), .val (.int (3 : Int32))] [(.int (0 : Int32)), (.int (0 : Int32))])) _
        refine XS.icmpYes X148.here hx rfl (pc0 := 129) (pc' := 134) rfl (hb hby at_129) rfl (teq (by decide : (0 : Int32) = (0 : Int32))).1 (by decide) (by decide) ?_
        exact k)
    have G154 : Goes p e below s₁ (entryFrame m #[(.long q1), (.long q2), (.long q3), (.int p4)] maxLocals) T148 (mkF m 137 #[.val (.long q1), .second, .val (.long q2), .second, .val (.long q3), .second, .val (.int p4), .val (.ref b2), .val (.ref b10), .val (.int (3 : Int32))] [(.int (2 : Int32)), (.int (3 : Int32))]) := fun _ k => G153 _ (by
        show Steps p.tables e below (T148.setTop (mkF m 134 #[.val (.long q1), .second, .val (.long q2), .second, .val (.long q3), .second, .val (.int p4), .val (.ref b2), .val (.ref b10), .val (.int (3 : Int32))] [])) _
        refine XS.iload X148.here hx rfl (hb hby at_134) rfl ?_
        show Steps p.tables e below (T148.setTop (mkF m 136 #[.val (.long q1), .second, .val (.long q2), .second, .val (.long q3), .second, .val (.int p4), .val (.ref b2), .val (.ref b10), .val (.int (3 : Int32))] [(.int (3 : Int32))])) _
        refine XS.iconst X148.here hx rfl (hb hby at_136) ?_
        exact k)
    have G155 : Goes p e below s₁ (entryFrame m #[(.long q1), (.long q2), (.long q3), (.int p4)] maxLocals) T148 (mkF m 140 #[.val (.long q1), .second, .val (.long q2), .second, .val (.long q3), .second, .val (.int p4), .val (.ref b2), .val (.ref b10), .val (.int (3 : Int32))] []) := fun _ k => G154 _ (by
        show Steps p.tables e below (T148.setTop (mkF m 137 #[.val (.long q1), .second, .val (.long q2), .second, .val (.long q3), .second, .val (.int p4), .val (.ref b2), .val (.ref b10), .val (.int (3 : Int32))] [(.int (2 : Int32)), (.int (3 : Int32))])) _
        refine XS.icmpNo X148.here hx rfl (hb hby at_137) rfl (flt (by decide : ¬ ((3 : Int32) < (2 : Int32)))).1 ?_
        exact k)
    have G156 : Goes p e below s₁ (entryFrame m #[(.long q1), (.long q2), (.long q3), (.int p4)] maxLocals) T148 (mkF m 142 #[.val (.long q1), .second, .val (.long q2), .second, .val (.long q3), .second, .val (.int p4), .val (.ref b2), .val (.ref b10), .val (.int (3 : Int32))] [(.ref b10)]) := fun _ k => G155 _ (by
        show Steps p.tables e below (T148.setTop (mkF m 140 #[.val (.long q1), .second, .val (.long q2), .second, .val (.long q3), .second, .val (.int p4), .val (.ref b2), .val (.ref b10), .val (.int (3 : Int32))] [])) _
        refine XS.aload X148.here hx rfl (hb hby at_140) rfl rfl ?_
        exact k)
    obtain ⟨cq157, kq157, q157a, q157b, q157c⟩ := isOf hZ hh148 (I146).1
    obtain ⟨_, _, ⟨T157, L157, k157, n157⟩, -, X157, ⟨Lc157, hQ157, l157, y157, z157⟩, st157⟩ := X148.virtualBack hx (y := (⟨"com/example/subterm/subterm/algorithm/IndexedHeap", "removeFirst", "()I"⟩ : MethodName)) (z := (⟨"com/example/subterm/subterm/algorithm/IndexedHeap", "removeFirst", "()I"⟩ : MethodName)) hown (mvT hZ (hw _ (List.mem_of_getElem? (i := 37) rfl))) (mvT hZ (hw _ (List.mem_of_getElem? (i := 38) rfl))) (notFace_of_selects (args := #[]) (mvT hZ (hw _ (List.mem_of_getElem? (i := 40) rfl)))) (mvT hZ (hw _ (List.mem_of_getElem? (i := 40) rfl))) (mvT hZ (hw _ (List.mem_of_getElem? (i := 39) rfl))) (by decide) (backOf (W := 0) (rm7_2 l Z a0 hw [] b10 b2 hp pl T146.heap n0 Zn I146 D) hZ (hw _ (List.mem_of_getElem? (i := 41) rfl)) (hw _ (List.mem_of_getElem? (i := 3) rfl)) (by decide) (by decide)) q157a q157c (g := (mkF m 142 #[.val (.long q1), .second, .val (.long q2), .second, .val (.long q3), .second, .val (.int p4), .val (.ref b2), .val (.ref b10), .val (.int (3 : Int32))] [(.ref b10)])) rfl (by rw [hml]; rfl) (Steps.refl _) (argsL := []) (rest := []) (lenOf own_pd4 rfl) rfl (by show 2 * 0 + _ ≤ _; exact Nat.le_of_eq rfl) (hb hby at_142) (fun _ _ => ⟨rfl, hh148, (by decide : 4 + 0 ≤ _), (by decide : 13 + 0 ≤ _)⟩)
    dsimp only [Pt.U, Pt.locs, Pt.cells, Pt.slots] at X157 l157 y157 z157 st157 hQ157
    subst l157 y157 z157
    obtain ⟨x157, rfl, N157q, Zn, I157⟩ := hQ157
    have N157 := Fr.app N148 N157q
    have G157 : Goes p e below s₁ (entryFrame m #[(.long q1), (.long q2), (.long q3), (.int p4)] maxLocals) T157 (mkF m 145 #[.val (.long q1), .second, .val (.long q2), .second, .val (.long q3), .second, .val (.int p4), .val (.ref b2), .val (.ref b10), .val (.int (3 : Int32))] [(.int x157)]) := fun _ k => G156 _ (st157.trans k)
    have G158 : Goes p e below s₁ (entryFrame m #[(.long q1), (.long q2), (.long q3), (.int p4)] maxLocals) T157 (mkF m 148 #[.val (.long q1), .second, .val (.long q2), .second, .val (.long q3), .second, .val (.int p4), .val (.ref b2), .val (.ref b10), .val (.int (3 : Int32))] [(.ref b10)]) := fun _ k => G157 _ (by
        show Steps p.tables e below (T157.setTop (mkF m 145 #[.val (.long q1), .second, .val (.long q2), .second, .val (.long q3), .second, .val (.int p4), .val (.ref b2), .val (.ref b10), .val (.int (3 : Int32))] [(.int x157)])) _
        refine XS.pop X157.here hx rfl (hb hby at_145) rfl rfl ?_
        show Steps p.tables e below (T157.setTop (mkF m 146 #[.val (.long q1), .second, .val (.long q2), .second, .val (.long q3), .second, .val (.int p4), .val (.ref b2), .val (.ref b10), .val (.int (3 : Int32))] [])) _
        refine XS.aload X157.here hx rfl (hb hby at_146) rfl rfl ?_
        exact k)
    obtain ⟨cq159, kq159, q159a, q159b, q159c⟩ := isOf hZ rfl (I157).1
    obtain ⟨_, _, ⟨T159, L159, k159, n159⟩, -, X159, ⟨Lc159, hQ159, l159, y159, z159⟩, st159⟩ := X157.virtualBack hx (y := (⟨"com/example/subterm/subterm/algorithm/IndexedHeap", "isEmpty", "()Z"⟩ : MethodName)) (z := (⟨"com/example/subterm/subterm/algorithm/IndexedHeap", "isEmpty", "()Z"⟩ : MethodName)) hown (mvT hZ (hw _ (List.mem_of_getElem? (i := 17) rfl))) (mvT hZ (hw _ (List.mem_of_getElem? (i := 18) rfl))) (notFace_of_selects (args := #[]) (mvT hZ (hw _ (List.mem_of_getElem? (i := 20) rfl)))) (mvT hZ (hw _ (List.mem_of_getElem? (i := 20) rfl))) (mvT hZ (hw _ (List.mem_of_getElem? (i := 19) rfl))) (by decide) (backOf (W := 0) (rm3 l Z a0 hw [] b10 b2 hp pl (1 : Int32) T157.heap n0 Zn I157) hZ (hw _ (List.mem_of_getElem? (i := 21) rfl)) (hw _ (List.mem_of_getElem? (i := 3) rfl)) (by decide) (by decide)) q159a q159c (g := (mkF m 148 #[.val (.long q1), .second, .val (.long q2), .second, .val (.long q3), .second, .val (.int p4), .val (.ref b2), .val (.ref b10), .val (.int (3 : Int32))] [(.ref b10)])) rfl (by rw [hml]; rfl) (Steps.refl _) (argsL := []) (rest := []) (lenOf own_pd3 rfl) rfl (by show 2 * 0 + _ ≤ _; exact Nat.le_of_eq rfl) (hb hby at_148) (fun _ _ => ⟨rfl, rfl, (by decide : 4 + 0 ≤ _), (by decide : 13 + 0 ≤ _)⟩)
    dsimp only [Pt.U, Pt.locs, Pt.cells, Pt.slots] at X159 l159 y159 z159 st159 hQ159
    subst l159 y159 z159
    obtain ⟨rfl, N159q, hh159⟩ := hQ159
    have N159 := Fr.app N157 N159q
    have G159 : Goes p e below s₁ (entryFrame m #[(.long q1), (.long q2), (.long q3), (.int p4)] maxLocals) T159 (mkF m 151 #[.val (.long q1), .second, .val (.long q2), .second, .val (.long q3), .second, .val (.int p4), .val (.ref b2), .val (.ref b10), .val (.int (3 : Int32))] [(.int (if (1 : Int32) = 0 then 1 else 0))]) := fun _ k => G158 _ (st159.trans k)
    have G160 : Goes p e below s₁ (entryFrame m #[(.long q1), (.long q2), (.long q3), (.int p4)] maxLocals) T159 (mkF m 151 #[.val (.long q1), .second, .val (.long q2), .second, .val (.long q3), .second, .val (.int p4), .val (.ref b2), .val (.ref b10), .val (.int (3 : Int32))] [(.int (0 : Int32))]) := G159
    have G161 : Goes p e below s₁ (entryFrame m #[(.long q1), (.long q2), (.long q3), (.int p4)] maxLocals) T159 (mkF m 154 #[.val (.long q1), .second, .val (.long q2), .second, .val (.long q3), .second, .val (.int p4), .val (.ref b2), .val (.ref b10), .val (.int (3 : Int32))] [(.int (2 : Int32)), (.int (3 : Int32)), (.int (0 : Int32))]) := fun _ k => G160 _ (by
        show Steps p.tables e below (T159.setTop (mkF m 151 #[.val (.long q1), .second, .val (.long q2), .second, .val (.long q3), .second, .val (.int p4), .val (.ref b2), .val (.ref b10), .val (.int (3 : Int32))] [(.int (0 : Int32))])) _
        refine XS.iload X159.here hx rfl (hb hby at_151) rfl ?_
        show Steps p.tables e below (T159.setTop (mkF m 153 #[.val (.long q1), .second, .val (.long q2), .second, .val (.long q3), .second, .val (.int p4), .val (.ref b2), .val (.ref b10), .val (.int (3 : Int32))] [(.int (3 : Int32)), (.int (0 : Int32))])) _
        refine XS.iconst X159.here hx rfl (hb hby at_153) ?_
        exact k)
    have G162 : Goes p e below s₁ (entryFrame m #[(.long q1), (.long q2), (.long q3), (.int p4)] maxLocals) T159 (mkF m 161 #[.val (.long q1), .second, .val (.long q2), .second, .val (.long q3), .second, .val (.int p4), .val (.ref b2), .val (.ref b10), .val (.int (3 : Int32))] [(.int (0 : Int32))]) := fun _ k => G161 _ (by
        show Steps p.tables e below (T159.setTop (mkF m 154 #[.val (.long q1), .second, .val (.long q2), .second, .val (.long q3), .second, .val (.int p4), .val (.ref b2), .val (.ref b10), .val (.int (3 : Int32))] [(.int (2 : Int32)), (.int (3 : Int32)), (.int (0 : Int32))])) _
        refine XS.icmpYes X159.here hx rfl (pc0 := 154) (pc' := 161) rfl (hb hby at_154) rfl (feq (by decide : ¬ ((3 : Int32) = (2 : Int32)))).2 (by decide) (by decide) ?_
        exact k)
    have G163 : Goes p e below s₁ (entryFrame m #[(.long q1), (.long q2), (.long q3), (.int p4)] maxLocals) T159 (mkF m 162 #[.val (.long q1), .second, .val (.long q2), .second, .val (.long q3), .second, .val (.int p4), .val (.ref b2), .val (.ref b10), .val (.int (3 : Int32))] [(.int (0 : Int32)), (.int (0 : Int32))]) := fun _ k => G162 _ (by
        show Steps p.tables e below (T159.setTop (mkF m 161 #[.val (.long q1), .second, .val (.long q2), .second, .val (.long q3), .second, .val (.int p4), .val (.ref b2), .val (.ref b10), .val (.int (3 : Int32))] [(.int (0 : Int32))])) _
        refine XS.iconst X159.here hx rfl (hb hby at_161) ?_
        exact k)
    have G164 : Goes p e below s₁ (entryFrame m #[(.long q1), (.long q2), (.long q3), (.int p4)] maxLocals) T159 (mkF m 167 #[.val (.long q1), .second, .val (.long q2), .second, .val (.long q3), .second, .val (.int p4), .val (.ref b2), .val (.ref b10), .val (.int (3 : Int32))] []) := fun _ k => G163 _ (by
        show Steps p.tables e below (T159.setTop (mkF m 162 #[.val (.long q1), .second, .val (.long q2), .second, .val (.long q3), .second, .val (.int p4), .val (.ref b2), .val (.ref b10), .val (.int (3 : Int32))] [(.int (0 : Int32)), (.int (0 : Int32))])) _
        refine XS.icmpYes X159.here hx rfl (pc0 := 162) (pc' := 167) rfl (hb hby at_162) rfl (teq (by decide : (0 : Int32) = (0 : Int32))).1 (by decide) (by decide) ?_
        exact k)
    have G165 : Goes p e below s₁ (entryFrame m #[(.long q1), (.long q2), (.long q3), (.int p4)] maxLocals) T159 (mkF m 170 #[.val (.long q1), .second, .val (.long q2), .second, .val (.long q3), .second, .val (.int p4), .val (.ref b2), .val (.ref b10), .val (.int (3 : Int32))] [(.int (3 : Int32)), (.int (3 : Int32))]) := fun _ k => G164 _ (by
        show Steps p.tables e below (T159.setTop (mkF m 167 #[.val (.long q1), .second, .val (.long q2), .second, .val (.long q3), .second, .val (.int p4), .val (.ref b2), .val (.ref b10), .val (.int (3 : Int32))] [])) _
        refine XS.iload X159.here hx rfl (hb hby at_167) rfl ?_
        show Steps p.tables e below (T159.setTop (mkF m 169 #[.val (.long q1), .second, .val (.long q2), .second, .val (.long q3), .second, .val (.int p4), .val (.ref b2), .val (.ref b10), .val (.int (3 : Int32))] [(.int (3 : Int32))])) _
        refine XS.iconst X159.here hx rfl (hb hby at_169) ?_
        exact k)
    have G166 : Goes p e below s₁ (entryFrame m #[(.long q1), (.long q2), (.long q3), (.int p4)] maxLocals) T159 (mkF m 173 #[.val (.long q1), .second, .val (.long q2), .second, .val (.long q3), .second, .val (.int p4), .val (.ref b2), .val (.ref b10), .val (.int (3 : Int32))] []) := fun _ k => G165 _ (by
        show Steps p.tables e below (T159.setTop (mkF m 170 #[.val (.long q1), .second, .val (.long q2), .second, .val (.long q3), .second, .val (.int p4), .val (.ref b2), .val (.ref b10), .val (.int (3 : Int32))] [(.int (3 : Int32)), (.int (3 : Int32))])) _
        refine XS.icmpNo X159.here hx rfl (hb hby at_170) rfl (flt (by decide : ¬ ((3 : Int32) < (3 : Int32)))).1 ?_
        exact k)
    have G167 : Goes p e below s₁ (entryFrame m #[(.long q1), (.long q2), (.long q3), (.int p4)] maxLocals) T159 (mkF m 175 #[.val (.long q1), .second, .val (.long q2), .second, .val (.long q3), .second, .val (.int p4), .val (.ref b2), .val (.ref b10), .val (.int (3 : Int32))] [(.ref b10)]) := fun _ k => G166 _ (by
        show Steps p.tables e below (T159.setTop (mkF m 173 #[.val (.long q1), .second, .val (.long q2), .second, .val (.long q3), .second, .val (.int p4), .val (.ref b2), .val (.ref b10), .val (.int (3 : Int32))] [])) _
        refine XS.aload X159.here hx rfl (hb hby at_173) rfl rfl ?_
        exact k)
    obtain ⟨cq168, kq168, q168a, q168b, q168c⟩ := isOf hZ hh159 (I157).1
    obtain ⟨_, _, ⟨T168, L168, k168, n168⟩, -, X168, ⟨Lc168, hQ168, l168, y168, z168⟩, st168⟩ := X159.virtualBack hx (y := (⟨"com/example/subterm/subterm/algorithm/IndexedHeap", "removeFirst", "()I"⟩ : MethodName)) (z := (⟨"com/example/subterm/subterm/algorithm/IndexedHeap", "removeFirst", "()I"⟩ : MethodName)) hown (mvT hZ (hw _ (List.mem_of_getElem? (i := 37) rfl))) (mvT hZ (hw _ (List.mem_of_getElem? (i := 38) rfl))) (notFace_of_selects (args := #[]) (mvT hZ (hw _ (List.mem_of_getElem? (i := 40) rfl)))) (mvT hZ (hw _ (List.mem_of_getElem? (i := 40) rfl))) (mvT hZ (hw _ (List.mem_of_getElem? (i := 39) rfl))) (by decide) (backOf (W := 0) (rm7_1 l Z a0 hw [] b10 b2 hp pl T157.heap n0 Zn I157 D) hZ (hw _ (List.mem_of_getElem? (i := 41) rfl)) (hw _ (List.mem_of_getElem? (i := 3) rfl)) (by decide) (by decide)) q168a q168c (g := (mkF m 175 #[.val (.long q1), .second, .val (.long q2), .second, .val (.long q3), .second, .val (.int p4), .val (.ref b2), .val (.ref b10), .val (.int (3 : Int32))] [(.ref b10)])) rfl (by rw [hml]; rfl) (Steps.refl _) (argsL := []) (rest := []) (lenOf own_pd4 rfl) rfl (by show 2 * 0 + _ ≤ _; exact Nat.le_of_eq rfl) (hb hby at_175) (fun _ _ => ⟨rfl, hh159, (by decide : 4 + 0 ≤ _), (by decide : 13 + 0 ≤ _)⟩)
    dsimp only [Pt.U, Pt.locs, Pt.cells, Pt.slots] at X168 l168 y168 z168 st168 hQ168
    subst l168 y168 z168
    obtain ⟨x168, rfl, N168q, Zn, I168⟩ := hQ168
    have N168 := Fr.app N159 N168q
    have G168 : Goes p e below s₁ (entryFrame m #[(.long q1), (.long q2), (.long q3), (.int p4)] maxLocals) T168 (mkF m 178 #[.val (.long q1), .second, .val (.long q2), .second, .val (.long q3), .second, .val (.int p4), .val (.ref b2), .val (.ref b10), .val (.int (3 : Int32))] [(.int x168)]) := fun _ k => G167 _ (st168.trans k)
    have G169 : Goes p e below s₁ (entryFrame m #[(.long q1), (.long q2), (.long q3), (.int p4)] maxLocals) T168 (mkF m 181 #[.val (.long q1), .second, .val (.long q2), .second, .val (.long q3), .second, .val (.int p4), .val (.ref b2), .val (.ref b10), .val (.int (3 : Int32))] [(.ref b10)]) := fun _ k => G168 _ (by
        show Steps p.tables e below (T168.setTop (mkF m 178 #[.val (.long q1), .second, .val (.long q2), .second, .val (.long q3), .second, .val (.int p4), .val (.ref b2), .val (.ref b10), .val (.int (3 : Int32))] [(.int x168)])) _
        refine XS.pop X168.here hx rfl (hb hby at_178) rfl rfl ?_
        show Steps p.tables e below (T168.setTop (mkF m 179 #[.val (.long q1), .second, .val (.long q2), .second, .val (.long q3), .second, .val (.int p4), .val (.ref b2), .val (.ref b10), .val (.int (3 : Int32))] [])) _
        refine XS.aload X168.here hx rfl (hb hby at_179) rfl rfl ?_
        exact k)
    obtain ⟨cq170, kq170, q170a, q170b, q170c⟩ := isOf hZ rfl (I168).1
    obtain ⟨_, _, ⟨T170, L170, k170, n170⟩, -, X170, ⟨Lc170, hQ170, l170, y170, z170⟩, st170⟩ := X168.virtualBack hx (y := (⟨"com/example/subterm/subterm/algorithm/IndexedHeap", "isEmpty", "()Z"⟩ : MethodName)) (z := (⟨"com/example/subterm/subterm/algorithm/IndexedHeap", "isEmpty", "()Z"⟩ : MethodName)) hown (mvT hZ (hw _ (List.mem_of_getElem? (i := 17) rfl))) (mvT hZ (hw _ (List.mem_of_getElem? (i := 18) rfl))) (notFace_of_selects (args := #[]) (mvT hZ (hw _ (List.mem_of_getElem? (i := 20) rfl)))) (mvT hZ (hw _ (List.mem_of_getElem? (i := 20) rfl))) (mvT hZ (hw _ (List.mem_of_getElem? (i := 19) rfl))) (by decide) (backOf (W := 0) (rm3 l Z a0 hw [] b10 b2 hp pl (0 : Int32) T168.heap n0 Zn I168) hZ (hw _ (List.mem_of_getElem? (i := 21) rfl)) (hw _ (List.mem_of_getElem? (i := 3) rfl)) (by decide) (by decide)) q170a q170c (g := (mkF m 181 #[.val (.long q1), .second, .val (.long q2), .second, .val (.long q3), .second, .val (.int p4), .val (.ref b2), .val (.ref b10), .val (.int (3 : Int32))] [(.ref b10)])) rfl (by rw [hml]; rfl) (Steps.refl _) (argsL := []) (rest := []) (lenOf own_pd3 rfl) rfl (by show 2 * 0 + _ ≤ _; exact Nat.le_of_eq rfl) (hb hby at_181) (fun _ _ => ⟨rfl, rfl, (by decide : 4 + 0 ≤ _), (by decide : 13 + 0 ≤ _)⟩)
    dsimp only [Pt.U, Pt.locs, Pt.cells, Pt.slots] at X170 l170 y170 z170 st170 hQ170
    subst l170 y170 z170
    obtain ⟨rfl, N170q, hh170⟩ := hQ170
    have N170 := Fr.app N168 N170q
    have G170 : Goes p e below s₁ (entryFrame m #[(.long q1), (.long q2), (.long q3), (.int p4)] maxLocals) T170 (mkF m 184 #[.val (.long q1), .second, .val (.long q2), .second, .val (.long q3), .second, .val (.int p4), .val (.ref b2), .val (.ref b10), .val (.int (3 : Int32))] [(.int (if (0 : Int32) = 0 then 1 else 0))]) := fun _ k => G169 _ (st170.trans k)
    have G171 : Goes p e below s₁ (entryFrame m #[(.long q1), (.long q2), (.long q3), (.int p4)] maxLocals) T170 (mkF m 184 #[.val (.long q1), .second, .val (.long q2), .second, .val (.long q3), .second, .val (.int p4), .val (.ref b2), .val (.ref b10), .val (.int (3 : Int32))] [(.int (1 : Int32))]) := G170
    have G172 : Goes p e below s₁ (entryFrame m #[(.long q1), (.long q2), (.long q3), (.int p4)] maxLocals) T170 (mkF m 189 #[.val (.long q1), .second, .val (.long q2), .second, .val (.long q3), .second, .val (.int p4), .val (.ref b2), .val (.ref b10), .val (.int (3 : Int32))] []) := fun _ k => G171 _ (by
        show Steps p.tables e below (T170.setTop (mkF m 184 #[.val (.long q1), .second, .val (.long q2), .second, .val (.long q3), .second, .val (.int p4), .val (.ref b2), .val (.ref b10), .val (.int (3 : Int32))] [(.int (1 : Int32))])) _
        refine XS.ifYes X170.here hx rfl (pc0 := 184) (pc' := 189) rfl (hb hby at_184) rfl ((if0 _ _).trans (feq (by decide : ¬ ((1 : Int32) = (0 : Int32)))).2) (by decide) (by decide) ?_
        exact k)
    have G173 : Goes p e below s₁ (entryFrame m #[(.long q1), (.long q2), (.long q3), (.int p4)] maxLocals) T170 (mkF m 190 #[.val (.long q1), .second, .val (.long q2), .second, .val (.long q3), .second, .val (.int p4), .val (.ref b2), .val (.ref b10), .val (.int (3 : Int32))] [(.int (1 : Int32))]) := fun _ k => G172 _ (by
        show Steps p.tables e below (T170.setTop (mkF m 189 #[.val (.long q1), .second, .val (.long q2), .second, .val (.long q3), .second, .val (.int p4), .val (.ref b2), .val (.ref b10), .val (.int (3 : Int32))] [])) _
        refine XS.iconst X170.here hx rfl (hb hby at_189) ?_
        exact k)
    obtain ⟨fs, hr, hrun, hended, hW, hsame⟩ := X170.leave (v := some (.int (1 : Int32))) (fun h => by rw [Bd.returns] at h; cases h)
    refine ⟨_, _, G173 _ (retN X170 hx (t := .boolean) Bd.returns (by simp) (hb hby at_190) hr), hrun, hended, _, _, rfl, ?_, ⟨_, rfl⟩, hW, hsame.mono (by decide) (by decide)⟩
    show Q0 n0 _ T170.heap _
    exact ⟨rfl, N170⟩
set_option maxRecDepth 65536 in
set_option maxHeartbeats 40000000 in
theorem comes_1 {Post : Tables → Env → Array Value → State → Outcome → State → Prop} (hpost : ∀ tb e args s v u, (limb_1_1.after args s (.returned v) u = true ∧ limb_1_2.after args s (.returned v) u = true ∧ True) → FrameEnd s (.returned v) u (Jvm.fieldLocs frame_1_writes args s ++ Jvm.arrayLocs frame_1_arrays args s ++ Jvm.staticLocs frame_1_statics s) 16 128 → Post tb e args s (.returned v) u) :
    ArmFor flags0 classFile x code maxLocals ret World_1 tables_1 room_1 Calls_1 rest_1 Pre_1 Post := by
  intro l hfl _ _ p e ha hc hk s m args below hf hA hF happ hP
  obtain ⟨hcalls, hrest, hpre⟩ := hP
  obtain ⟨-, -, -, hnamed, -, -, -, hat⟩ := (Spec.applies_iff hf).mp happ
  obtain ⟨hg, hn⟩ := and_e (Cond.before_iff.mp (show (Jvm.Cond.and given_1 narrow_1).before args s = true from hpre))
  obtain ⟨gc, gr0⟩ := and_e hg
  obtain ⟨gk0, gr1⟩ := and_e gr0
  obtain ⟨gk1, gr2⟩ := and_e gr1
  obtain ⟨gk2, gr3⟩ := and_e gr2
  obtain ⟨w0, w1, w2, w3, rfl⟩ : ∃ w0 w1 w2 w3 : Value, args = #[w0, w1, w2, w3] := by
    have hs : args.size = 4 := by simpa [Cond.value, given_1] using gc
    obtain ⟨L⟩ := args
    match L, hs with
    | [w0, w1, w2, w3], _ => exact ⟨w0, w1, w2, w3, rfl⟩
  have hw := fun d (hd : d ∈ tables_1) => atoms_spec (ws := Jvm.Cond.code x code maxLocals ret :: tables_1) hat d (List.mem_cons_of_mem _ hd)
  obtain ⟨i0, ei0⟩ := isL_v gk0
  obtain rfl : w0 = (.long i0) := Option.some.inj ei0
  obtain ⟨i1, ei1⟩ := isL_v gk1
  obtain rfl : w1 = (.long i1) := Option.some.inj ei1
  obtain ⟨i2, ei2⟩ := isL_v gk2
  obtain rfl : w2 = (.long i2) := Option.some.inj ei2
  obtain ⟨i3, ei3⟩ := is_v gr3
  obtain rfl : w3 = (.int i3) := Option.some.inj ei3
  obtain ⟨n, o, h1, h2, h3, _, L, rfl, ⟨rfl, N⟩, hq⟩ := rm0 l s _ hw tables_1 i0 i1 i2 i3 s.heap s.heap.size (Nat.le_refl _) p e ha hc hk s m _ below hf ((Spec.applies_iff_loose hf).mp happ).1 ⟨rfl, State.Warmed39.refl s, rfl⟩ trivial
  refine ⟨n, _, h1, h2, h3, hpost _ _ _ _ _ _ ⟨Cond.after_iff.mpr rfl, Cond.after_iff.mpr (eq_i res_at (Term.int_eval (1)) rfl), trivial⟩ ⟨hq.1, hq.2.1, (hq.2.2.sift fun y hy => Or.inr (N y hy)).mono (by decide) (by decide)⟩⟩
theorem main_1_1 : Claimed_1_1 := comes_1 fun _ _ _ _ _ _ h hF => ⟨h.1, hF⟩
theorem main_1_2 : Claimed_1_2 := comes_1 fun _ _ _ _ _ _ h hF => ⟨h.2.1, hF⟩
end Jvm.Pilot.@@N@@
namespace Jvm.Pilot.@@N@@
open Jvm Jvm.ClassFile Sem Op Lib Jvm.Free Jvm.Stand Jvm.Pilot.@@N@@.Jvm.D
/-! MADE BY PROGRAM (witnessworld.py) out of the Statement's table words and the real class files: 11 classes; the members and pool entries that the words name. The judged class is class 1, her method 1. -/
namespace start1
open Jvm.ClassFile
def u (s : String) : CpInfo := .utf8 (stringToUtf16 s)
/-- a pool by its gaps: so many unusable entries, then the entry; so many at the end -/
def gap : Nat → List CpInfo → List CpInfo
  | 0, r => r
  | n + 1, r => .unusable :: gap n r
def poolList (es : List (Nat × CpInfo)) (last : Nat) : List CpInfo := es.foldr (fun e r => gap e.1 (e.2 :: r)) (gap last [])
def pool (es : List (Nat × CpInfo)) (last : Nat) : Array CpInfo := ⟨poolList es last⟩
def fileOf (pool : Array CpInfo) (this : Nat) (attrs : Array Attribute := #[]) (ms : Array MethodInfo := #[]) (fl : Nat := 33) (sup : Nat := 0) (ifs : Array Nat := #[]) (fds : Array FieldInfo := #[]) : ClassFile where
  minorVersion := 0
  majorVersion := 65
  constantPool := pool
  accessFlags := fl
  thisClass := this
  superClass := sup
  interfaces := ifs
  fields := fds
  methods := ms
  attributes := attrs
def plain (name : String) (sup : Option ClassId) : Class where
  name := name
  kind := .ordinary
  loader := none
  accessFlags := 33
  super := sup
  interfaces := #[]
  cf := none
  fields := #[]
  methods := #[]
  instanceTypes := #[]
  staticTypes := #[]
  resolved := #[]
  callSites := []
  init := .initialized
  statics := none
  mirror := none

def pool0 : Array CpInfo := pool [(5, u "<init>"), (0, u "()V"), (1, .class_ 10), (1, u "java/lang/Object")] 113

def k0c0 : Code := { maxStack := 0, maxLocals := 1, code := object_method_1_code, exceptionTable := #[], attributes := #[] }
def k0m0 : Method := { name := "<init>", desc := "()V", sig := { parameters := [], returnType := none }, accessFlags := 1, code := some k0c0 }
/-- java/lang/Object -/
def k0 : Class := { plain "java/lang/Object" none with
  accessFlags := 33
  interfaces := #[]
  cf := some (fileOf pool0 8 #[] #[{ accessFlags := 1, nameIndex := 5, descriptorIndex := 6, attributes := #[] }] 33 0 #[] #[])
  fields := #[]
  methods := #[k0m0]
  instanceTypes := #[]
  staticTypes := #[]
  resolved := Array.replicate 124 none
  statics := none }

def pool1 : Array CpInfo := pool [(2, .class_ 4), (1, u "java/lang/Object"), (0, u "<init>"), (0, u "()V"), (0, .class_ 8), (0, u "com/example/subterm/subterm/algorithm/IndexedHeap"), (0, .methodref 7 10), (0, .nameAndType 5 11), (0, u "([J)V"), (0, .methodref 7 13), (0, .nameAndType 14 15), (0, u "isEmpty"), (0, u "()Z"), (0, .methodref 7 17), (0, .nameAndType 18 19), (0, u "add"), (0, u "(I)V"), (0, .methodref 7 21), (0, .nameAndType 22 23), (0, u "removeFirst"), (0, u "()I"), (0, .class_ 25), (0, u "com/example/subterm/subterm/algorithm/IndexedHeapIsEmptyPinLaw"), (2, u "law"), (0, u "(JJJI)Z")] 5

def k1m0 : Method := { name := "<init>", desc := "()V", sig := { parameters := [], returnType := none }, accessFlags := 1, code := none }
def k1c1 : Code := { maxStack := 5, maxLocals := 10, code := code, exceptionTable := #[], attributes := #[] }
def k1m1 : Method := { name := "law", desc := "(JJJI)Z", sig := { parameters := [.long, .long, .long, .int], returnType := some .boolean }, accessFlags := 9, code := some k1c1 }
/-- com/example/subterm/subterm/algorithm/IndexedHeapIsEmptyPinLaw -/
def k1 : Class := { plain "com/example/subterm/subterm/algorithm/IndexedHeapIsEmptyPinLaw" (some 0) with
  accessFlags := 49
  interfaces := #[]
  cf := some (fileOf pool1 24 #[] #[{ accessFlags := 1, nameIndex := 5, descriptorIndex := 6, attributes := #[] }, { accessFlags := 9, nameIndex := 28, descriptorIndex := 29, attributes := #[] }] 49 2 #[] #[])
  fields := #[]
  methods := #[k1m0, k1m1]
  instanceTypes := #[]
  staticTypes := #[]
  resolved := Array.replicate 35 none
  statics := none }

def pool2 : Array CpInfo := pool [(1, .methodref 2 3), (0, .class_ 4), (0, .nameAndType 5 6), (0, u "java/lang/Object"), (0, u "<init>"), (0, u "()V"), (0, .fieldref 8 9), (0, .class_ 10), (0, .nameAndType 11 12), (0, u "com/example/subterm/subterm/algorithm/IndexedHeap"), (0, u "ranks"), (0, u "[J"), (0, .fieldref 8 14), (0, .nameAndType 15 16), (0, u "heap"), (0, u "[I"), (0, .fieldref 8 18), (0, .nameAndType 19 16), (0, u "places"), (0, .fieldref 8 21), (0, .nameAndType 22 23), (0, u "size"), (0, u "I"), (0, .methodref 8 25), (0, .nameAndType 26 27), (0, u "moveUp"), (0, u "(I)V"), (0, .methodref 8 29), (0, .nameAndType 30 27), (0, u "moveDown"), (0, .methodref 8 32), (0, .nameAndType 33 34), (0, u "put"), (0, u "(II)V"), (0, u "([J)V"), (2, u "isEmpty"), (0, u "()Z"), (1, u "add"), (1, u "removeFirst"), (0, u "()I")] 2

def k2c0 : Code := { maxStack := 2, maxLocals := 2, code := prog_6_method_1_code, exceptionTable := #[], attributes := #[] }
def k2m0 : Method := { name := "<init>", desc := "([J)V", sig := { parameters := [(.array .long)], returnType := none }, accessFlags := 0, code := some k2c0 }
def k2c1 : Code := { maxStack := 1, maxLocals := 1, code := prog_6_method_2_code, exceptionTable := #[], attributes := #[] }
def k2m1 : Method := { name := "isEmpty", desc := "()Z", sig := { parameters := [], returnType := some .boolean }, accessFlags := 0, code := some k2c1 }
def k2c2 : Code := { maxStack := 4, maxLocals := 3, code := prog_6_method_3_code, exceptionTable := #[], attributes := #[] }
def k2m2 : Method := { name := "add", desc := "(I)V", sig := { parameters := [.int], returnType := none }, accessFlags := 0, code := some k2c2 }
def k2c3 : Code := { maxStack := 4, maxLocals := 2, code := prog_6_method_5_code, exceptionTable := #[], attributes := #[] }
def k2m3 : Method := { name := "removeFirst", desc := "()I", sig := { parameters := [], returnType := some .int }, accessFlags := 0, code := some k2c3 }
def k2c4 : Code := { maxStack := 4, maxLocals := 7, code := prog_6_method_6_code, exceptionTable := #[], attributes := #[] }
def k2m4 : Method := { name := "moveUp", desc := "(I)V", sig := { parameters := [.int], returnType := none }, accessFlags := 2, code := some k2c4 }
def k2c5 : Code := { maxStack := 5, maxLocals := 7, code := prog_6_method_7_code, exceptionTable := #[], attributes := #[] }
def k2m5 : Method := { name := "moveDown", desc := "(I)V", sig := { parameters := [.int], returnType := none }, accessFlags := 2, code := some k2c5 }
def k2c6 : Code := { maxStack := 3, maxLocals := 3, code := prog_6_method_8_code, exceptionTable := #[], attributes := #[] }
def k2m6 : Method := { name := "put", desc := "(II)V", sig := { parameters := [.int, .int], returnType := none }, accessFlags := 2, code := some k2c6 }
/-- com/example/subterm/subterm/algorithm/IndexedHeap -/
def k2 : Class := { plain "com/example/subterm/subterm/algorithm/IndexedHeap" (some 0) with
  accessFlags := 48
  interfaces := #[]
  cf := some (fileOf pool2 8 #[] #[{ accessFlags := 0, nameIndex := 5, descriptorIndex := 35, attributes := #[] }, { accessFlags := 0, nameIndex := 38, descriptorIndex := 39, attributes := #[] }, { accessFlags := 0, nameIndex := 41, descriptorIndex := 27, attributes := #[] }, { accessFlags := 0, nameIndex := 43, descriptorIndex := 44, attributes := #[] }, { accessFlags := 2, nameIndex := 26, descriptorIndex := 27, attributes := #[] }, { accessFlags := 2, nameIndex := 30, descriptorIndex := 27, attributes := #[] }, { accessFlags := 2, nameIndex := 33, descriptorIndex := 34, attributes := #[] }] 48 2 #[] #[{ accessFlags := 18, nameIndex := 11, descriptorIndex := 12, attributes := #[] }, { accessFlags := 18, nameIndex := 15, descriptorIndex := 16, attributes := #[] }, { accessFlags := 18, nameIndex := 19, descriptorIndex := 16, attributes := #[] }, { accessFlags := 2, nameIndex := 22, descriptorIndex := 23, attributes := #[] }])
  fields := #[{ name := "ranks", type := (.array .long), accessFlags := 18, slot := 0, constantValue := 0 }, { name := "heap", type := (.array .int), accessFlags := 18, slot := 1, constantValue := 0 }, { name := "places", type := (.array .int), accessFlags := 18, slot := 2, constantValue := 0 }, { name := "size", type := .int, accessFlags := 2, slot := 3, constantValue := 0 }]
  methods := #[k2m0, k2m1, k2m2, k2m3, k2m4, k2m5, k2m6]
  instanceTypes := #[(.array .long), (.array .int), (.array .int), .int]
  staticTypes := #[]
  resolved := Array.replicate 47 none
  statics := none }

def pool3 : Array CpInfo := pool [(1, u "java/lang/Cloneable"), (0, .class_ 1), (0, u "java/lang/Object"), (0, .class_ 3)] 3

/-- java/lang/Cloneable -/
def k3 : Class := { plain "java/lang/Cloneable" (some 0) with
  accessFlags := 1537
  interfaces := #[]
  cf := some (fileOf pool3 2 #[] #[] 1537 4 #[] #[])
  fields := #[]
  methods := #[]
  instanceTypes := #[]
  staticTypes := #[]
  resolved := Array.replicate 8 none
  statics := none }

def pool4 : Array CpInfo := pool [(1, u "java/io/Serializable"), (0, .class_ 1), (0, u "java/lang/Object"), (0, .class_ 3)] 3

/-- java/io/Serializable -/
def k4 : Class := { plain "java/io/Serializable" (some 0) with
  accessFlags := 1537
  interfaces := #[]
  cf := some (fileOf pool4 2 #[] #[] 1537 4 #[] #[])
  fields := #[]
  methods := #[]
  instanceTypes := #[]
  staticTypes := #[]
  resolved := Array.replicate 8 none
  statics := none }

/-- the primitive byte -/
def k5 : Class := { plain "byte" none with kind := .primitive 'B', accessFlags := 0x411 }
/-- [B -/
def k6 : Class := { plain "[B" (some 0) with kind := .array 5 .byte, interfaces := #[3, 4], accessFlags := 1041 }

/-- the primitive int -/
def k7 : Class := { plain "int" none with kind := .primitive 'I', accessFlags := 0x411 }
/-- [I -/
def k8 : Class := { plain "[I" (some 0) with kind := .array 7 .int, interfaces := #[3, 4], accessFlags := 1041 }

/-- the primitive long -/
def k9 : Class := { plain "long" none with kind := .primitive 'J', accessFlags := 0x411 }
/-- [J -/
def k10 : Class := { plain "[J" (some 0) with kind := .array 9 .long, interfaces := #[3, 4], accessFlags := 1041 }

def heap : Heap := #[]
def classes : Array Class := #[k0, k1, k2, k3, k4, k5, k6, k7, k8, k9, k10]
def interned : List (Array UInt16 × Addr) := []
def slotsUsed : Nat := 0
def theMethod : MethodId := ⟨1, 1⟩
def args0 : Array Value := #[.long 5, .long 3, .long 4, .int 3]
def aboutOver (below : List Frame) : State where
  vm := { classes := classes, interned := interned.toArray }
  heap := heap
  slotsUsed := slotsUsed
  threads := #[{ frames := .invoking theMethod args0 :: below }]
def below0 : List Frame := [.native { method := ⟨0, 0⟩, args := #[] }]
def about1 : State := aboutOver below0
def p0 : Program := .bare "" "" ""
def e0 : Env := launch0.env 0 0 0
theorem w_frames : about1.frames = Frame.invoking theMethod args0 :: below0 := rfl
set_option maxRecDepth 65536 in
theorem w_args : argsFit about1.vm theMethod args0 = true := by decide +kernel
set_option maxRecDepth 65536 in
theorem w_heap : heapFits about1 = true := by decide +kernel
set_option maxRecDepth 65536 in
theorem w_runnable : about1.curStatus? = some .runnable := by decide +kernel
set_option maxRecDepth 65536 in
theorem w_alone : about1.alone = true := by decide +kernel
set_option maxRecDepth 65536 in
theorem w_named : about1.methodNamed? x = some theMethod := by decide +kernel
set_option maxRecDepth 65536 in
theorem w_hears : about1.hears theMethod below0 = true := by decide +kernel
set_option maxRecDepth 65536 in
theorem w_ripe : about1.ripe theMethod args0 below0 = true := by decide +kernel
theorem w_running : about1.status = .running := rfl
set_option maxRecDepth 65536 in
theorem w_room : about1.hasRoom e0.platform room_1 = true :=
  launch0.hasRoom_least _ room_1 (by decide +kernel) (by decide +kernel) (by decide +kernel) (by decide +kernel) (by decide +kernel) (by decide +kernel)
theorem allAtoms_all (ts : List Jvm.Cond) (a : Array Jvm.Value) (st : Jvm.State) : (allAtoms ts).before a st = ts.all (fun c => c.before a st) := by
  induction ts with
  | nil => rfl
  | cons c t ih =>
    show (Jvm.Cond.and c (allAtoms t)).before a st = _
    rw [Jvm.Cond.before_and, ih, List.all_cons]
def words1 : List Jvm.Cond := Jvm.Cond.code x code maxLocals ret :: tables_1
/-- a 'code' word, met by the world's own term for the bytes: nothing is compared byte by byte -/
theorem code_word {y : MethodName} {bytes : ByteArray} {mx : Nat} {rt : Option FieldType} {a : Array Value} {s : State} {m : MethodId} {meth : Method} {c : Code} (h1 : s.methodNamed? y = some m) (h2 : s.vm.method? m = some meth) (h3 : meth.code = some c) (h4 : c.code = bytes)
    (h5 : (c.maxLocals == mx && c.exceptionTable.isEmpty && decide (c.maxStack ≤ mostOperands) && decide (meth.sig.returnType = rt) && !meth.locks && decide (parseMethodDescriptor y.desc = some meth.sig)) = true) : (Jvm.Cond.code y bytes mx rt).before a s = true := by
  simp only [Bool.and_eq_true, beq_iff_eq, Bool.not_eq_true', decide_eq_true_eq] at h5
  obtain ⟨⟨⟨⟨⟨g1, g2⟩, g3⟩, g4⟩, g5⟩, g6⟩ := h5
  simp [Cond.before, Cond.holds, Cond.value, h1, h2, h3, h4, g1, g2, g3, g4, g5, g6]
def isCode : Jvm.Cond → Bool
  | .code _ _ _ _ => true
  | _ => false
theorem all_split {L : List Jvm.Cond} {P : Jvm.Cond → Bool} (h1 : L.all (fun c => isCode c || P c) = true) (h2 : ∀ c ∈ L.filter isCode, P c = true) : L.all P = true := by
  refine List.all_eq_true.mpr fun c hc => ?_
  have h := List.all_eq_true.mp h1 c hc
  rcases Bool.eq_false_or_eq_true (isCode c) with hi | hi
  · exact h2 c (List.mem_filter.mpr ⟨hc, hi⟩)
  · simpa [hi] using h
set_option maxRecDepth 65536 in
theorem w_c0 : (Jvm.Cond.code x code maxLocals ret).before args0 about1 = true := code_word (m := ⟨1, 1⟩) (meth := k1m1) (c := k1c1) (by decide +kernel) rfl rfl rfl (by decide +kernel)
set_option maxRecDepth 65536 in
theorem w_c1 : (Jvm.Cond.code ({ cls := "com/example/subterm/subterm/algorithm/IndexedHeap", name := "<init>", desc := "([J)V" } : Jvm.MethodName) prog_6_method_1_code (2 : Nat) (Option.none : Option Jvm.ClassFile.FieldType)).before args0 about1 = true := code_word (m := ⟨2, 0⟩) (meth := k2m0) (c := k2c0) (by decide +kernel) rfl rfl rfl (by decide +kernel)
set_option maxRecDepth 65536 in
theorem w_c2 : (Jvm.Cond.code ({ cls := "java/lang/Object", name := "<init>", desc := "()V" } : Jvm.MethodName) object_method_1_code (1 : Nat) (Option.none : Option Jvm.ClassFile.FieldType)).before args0 about1 = true := code_word (m := ⟨0, 0⟩) (meth := k0m0) (c := k0c0) (by decide +kernel) rfl rfl rfl (by decide +kernel)
set_option maxRecDepth 65536 in
theorem w_c3 : (Jvm.Cond.code ({ cls := "com/example/subterm/subterm/algorithm/IndexedHeap", name := "isEmpty", desc := "()Z" } : Jvm.MethodName) prog_6_method_2_code (1 : Nat) (Option.some Jvm.ClassFile.FieldType.boolean)).before args0 about1 = true := code_word (m := ⟨2, 1⟩) (meth := k2m1) (c := k2c1) (by decide +kernel) rfl rfl rfl (by decide +kernel)
set_option maxRecDepth 65536 in
theorem w_c4 : (Jvm.Cond.code ({ cls := "com/example/subterm/subterm/algorithm/IndexedHeap", name := "add", desc := "(I)V" } : Jvm.MethodName) prog_6_method_3_code (3 : Nat) (Option.none : Option Jvm.ClassFile.FieldType)).before args0 about1 = true := code_word (m := ⟨2, 2⟩) (meth := k2m2) (c := k2c2) (by decide +kernel) rfl rfl rfl (by decide +kernel)
set_option maxRecDepth 65536 in
theorem w_c5 : (Jvm.Cond.code ({ cls := "com/example/subterm/subterm/algorithm/IndexedHeap", name := "moveUp", desc := "(I)V" } : Jvm.MethodName) prog_6_method_6_code (7 : Nat) (Option.none : Option Jvm.ClassFile.FieldType)).before args0 about1 = true := code_word (m := ⟨2, 4⟩) (meth := k2m4) (c := k2c4) (by decide +kernel) rfl rfl rfl (by decide +kernel)
set_option maxRecDepth 65536 in
theorem w_c6 : (Jvm.Cond.code ({ cls := "com/example/subterm/subterm/algorithm/IndexedHeap", name := "put", desc := "(II)V" } : Jvm.MethodName) prog_6_method_8_code (3 : Nat) (Option.none : Option Jvm.ClassFile.FieldType)).before args0 about1 = true := code_word (m := ⟨2, 6⟩) (meth := k2m6) (c := k2c6) (by decide +kernel) rfl rfl rfl (by decide +kernel)
set_option maxRecDepth 65536 in
theorem w_c7 : (Jvm.Cond.code ({ cls := "com/example/subterm/subterm/algorithm/IndexedHeap", name := "removeFirst", desc := "()I" } : Jvm.MethodName) prog_6_method_5_code (2 : Nat) (Option.some Jvm.ClassFile.FieldType.int)).before args0 about1 = true := code_word (m := ⟨2, 3⟩) (meth := k2m3) (c := k2c3) (by decide +kernel) rfl rfl rfl (by decide +kernel)
set_option maxRecDepth 65536 in
theorem w_c8 : (Jvm.Cond.code ({ cls := "com/example/subterm/subterm/algorithm/IndexedHeap", name := "moveDown", desc := "(I)V" } : Jvm.MethodName) prog_6_method_7_code (7 : Nat) (Option.none : Option Jvm.ClassFile.FieldType)).before args0 about1 = true := code_word (m := ⟨2, 5⟩) (meth := k2m5) (c := k2c5) (by decide +kernel) rfl rfl rfl (by decide +kernel)
def codes1 : List Jvm.Cond := [Jvm.Cond.code x code maxLocals ret, Jvm.Cond.code ({ cls := "com/example/subterm/subterm/algorithm/IndexedHeap", name := "<init>", desc := "([J)V" } : Jvm.MethodName) prog_6_method_1_code (2 : Nat) (Option.none : Option Jvm.ClassFile.FieldType), Jvm.Cond.code ({ cls := "java/lang/Object", name := "<init>", desc := "()V" } : Jvm.MethodName) object_method_1_code (1 : Nat) (Option.none : Option Jvm.ClassFile.FieldType), Jvm.Cond.code ({ cls := "com/example/subterm/subterm/algorithm/IndexedHeap", name := "isEmpty", desc := "()Z" } : Jvm.MethodName) prog_6_method_2_code (1 : Nat) (Option.some Jvm.ClassFile.FieldType.boolean), Jvm.Cond.code ({ cls := "com/example/subterm/subterm/algorithm/IndexedHeap", name := "add", desc := "(I)V" } : Jvm.MethodName) prog_6_method_3_code (3 : Nat) (Option.none : Option Jvm.ClassFile.FieldType), Jvm.Cond.code ({ cls := "com/example/subterm/subterm/algorithm/IndexedHeap", name := "moveUp", desc := "(I)V" } : Jvm.MethodName) prog_6_method_6_code (7 : Nat) (Option.none : Option Jvm.ClassFile.FieldType), Jvm.Cond.code ({ cls := "com/example/subterm/subterm/algorithm/IndexedHeap", name := "put", desc := "(II)V" } : Jvm.MethodName) prog_6_method_8_code (3 : Nat) (Option.none : Option Jvm.ClassFile.FieldType), Jvm.Cond.code ({ cls := "com/example/subterm/subterm/algorithm/IndexedHeap", name := "removeFirst", desc := "()I" } : Jvm.MethodName) prog_6_method_5_code (2 : Nat) (Option.some Jvm.ClassFile.FieldType.int), Jvm.Cond.code ({ cls := "com/example/subterm/subterm/algorithm/IndexedHeap", name := "moveDown", desc := "(I)V" } : Jvm.MethodName) prog_6_method_7_code (7 : Nat) (Option.none : Option Jvm.ClassFile.FieldType)]
set_option maxRecDepth 65536 in
theorem codes_eq : words1.filter isCode = codes1 := rfl
theorem w_codes : ∀ c ∈ words1.filter isCode, c.before args0 about1 = true := by
  rw [codes_eq]
  intro c hc
  simp only [codes1, List.mem_cons, List.not_mem_nil, or_false] at hc
  rcases hc with rfl | rfl | rfl | rfl | rfl | rfl | rfl | rfl | rfl
  · exact w_c0
  · exact w_c1
  · exact w_c2
  · exact w_c3
  · exact w_c4
  · exact w_c5
  · exact w_c6
  · exact w_c7
  · exact w_c8
set_option maxRecDepth 65536 in
theorem w_t1 : (words1.take 24).all (fun c => isCode c || c.before args0 about1) = true := by decide +kernel
set_option maxRecDepth 65536 in
theorem w_t2 : (words1.drop 24).all (fun c => isCode c || c.before args0 about1) = true := by decide +kernel
theorem w_tables : (allAtoms (Jvm.Cond.code x code maxLocals ret :: tables_1)).before args0 about1 = true := by
  rw [allAtoms_all]
  show words1.all (fun c => c.before args0 about1) = true
  refine all_split ?_ w_codes
  rw [← List.take_append_drop 24 words1, List.all_append, w_t1, w_t2]
  rfl
set_option maxRecDepth 65536 in
theorem w_case : (Jvm.Cond.and given_1 narrow_1).before args0 about1 = true := by decide +kernel
theorem w_applies : (headSpec (Jvm.Cond.code x code maxLocals ret :: tables_1) room_1).applies x e0.platform about1 = true :=
  (Spec.applies_iff w_frames).mpr ⟨w_running, w_runnable, w_alone, w_named, w_hears, w_ripe, w_room, w_tables⟩
theorem atStart : AtStart classFile x code maxLocals ret World_1 tables_1 room_1 Calls_1 rest_1 Pre_1 launch0 p0 e0 about1 theMethod args0 below0 :=
  ⟨lists_1, trivial, launch0.admits_env _ _ _, launch0.least_env, fairChoices_fair.cas, fairChoices_fair.clock, w_frames, w_args, w_heap, w_applies, trivial, trivial, w_case⟩
end start1
theorem witness_1 : WitnessClaimed_1 := ⟨start1.p0, start1.e0, start1.about1, start1.theMethod, start1.args0, start1.below0, start1.atStart⟩
end Jvm.Pilot.@@N@@
