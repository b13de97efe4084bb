import JvmDerived
import JvmDerived.Pilot.@@N@@Statement
import JvmDerived.Pilot.@@N@@Code
set_option linter.unusedVariables false
set_option linter.unusedSimpArgs false
namespace Jvm.RoadKit
open Sem ClassFile Op Lib Jvm.Stand Jvm.Free Jvm.LawKit
section New
variable {p : Program} {l : Launch} {e : Env} {R : Room} {s : State} {m : MethodId} {args : Array Value} {below : List Frame} {meth : Method} {c : Code} {T : State} {locs : List Loc} {cells slots : Nat}
theorem retI (X : Stand p l e R s m args below meth c T locs cells slots) (hx : p.tables.exec = Jvm.exec) {pc : Nat} {Ls : Array Slot} {z : Int32} {rest : List Value} (hret : meth.sig.returnType = some .int) (hd : decode c.code pc = .ok (.ireturn, 1)) {fs : List Frame}
    (hl : ∀ (f : JFrame) (acts : List Action), f.method = m → f.locked = none → f.entered = [] → (doReturn e (T.setTop f) acts (some (.int z))).1 = T.setFrames fs) : Steps p.tables e below (T.setTop (mkF m pc Ls (.int z :: rest))) (T.setFrames fs) := by
  have hm' : T.vm.method? m = some meth := X.method'
  have hn : narrow .int (.int z) = .int z := rfl
  show Steps p.tables e below (T.setTop { method := m, pc := pc, locals := Ls, stack := _ :: rest, locked := none }) _
  jvm_step X.here [X.here.top, hx, hd, hm', hret, hn]
  first | (intro acts; rw [hl _ acts rfl rfl rfl]) | rw [hl _ _ rfl rfl rfl]
  exact Steps.refl _
end New
end Jvm.RoadKit
namespace Jvm.Pilot.@@N@@
open Jvm Jvm.ClassFile Sem Op Lib Jvm.Free Jvm.Stand Jvm.LawKit Jvm.RoadKit Bundle Jvm.Pilot.@@N@@.Jvm.D
def own_pk (f k : Int32) (a : Addr) : Value := if ((f.toUInt32 >>> (k &&& 31).toUInt32).toInt32 &&& (1 : Int32)) = (0 : Int32) then .null else .ref a
theorem own_pk_ref (f k : Int32) (a : Addr) : (own_pk f k a).isRef = true := by
  unfold own_pk
  split <;> rfl
theorem own_pk_null (f k : Int32) (a : Addr) : own_pk f k a = .null ↔ ((f.toUInt32 >>> (k &&& 31).toUInt32).toInt32 &&& (1 : Int32)) = (0 : Int32) := by
  unfold own_pk
  split
  · rename_i h; exact ⟨fun _ => h, fun _ => rfl⟩
  · rename_i h; exact ⟨(fun q => nomatch q), fun q => absurd q h⟩
theorem own_bit (f : Int32) (n : UInt32) (k : Nat) (hn : n.toNat = k) (hk : k < 32) : ((f.toUInt32 >>> n).toInt32 &&& (1 : Int32)) = (0 : Int32) ↔ f.toBitVec.toNat / 2 ^ k % 2 = 0 := by
  rw [← Int32.toBitVec_inj]
  have e : ((f.toUInt32 >>> n).toInt32 &&& (1 : Int32)).toBitVec.toNat = f.toBitVec.toNat / 2 ^ k % 2 := by
    simp only [Int32.toBitVec_and, UInt32.toBitVec_toInt32, UInt32.toBitVec_shiftRight, Int32.toBitVec_toUInt32, BitVec.toNat_and]
    rw [show (1 : Int32).toBitVec.toNat = 2 ^ 1 - 1 from by decide, Nat.and_two_pow_sub_one_eq_mod]
    simp [BitVec.toNat_ushiftRight, Nat.shiftRight_eq_div_pow, hn, Nat.mod_eq_of_lt hk]
  constructor
  · intro h; rw [← e, h]; rfl
  · intro h; apply BitVec.eq_of_toNat_eq; rw [e, h]; rfl
theorem own_mask (f : Int32) : (f &&& (127 : Int32)) = (0 : Int32) ↔ f.toBitVec.toNat % 128 = 0 := by
  rw [← Int32.toBitVec_inj]
  have e : (f &&& (127 : Int32)).toBitVec.toNat = f.toBitVec.toNat % 128 := by
    rw [Int32.toBitVec_and, BitVec.toNat_and, show (127 : Int32).toBitVec.toNat = 2 ^ 7 - 1 from by decide, Nat.and_two_pow_sub_one_eq_mod]
  constructor
  · intro h; rw [← e, h]; rfl
  · intro h; apply BitVec.eq_of_toNat_eq; rw [e, h]; rfl
theorem own_law {f x : Int32} {a : Addr} (h01 : x = 0 ∨ x = 1) (h : x = 1 ↔ (own_pk f 0 a = .null ∧ own_pk f 1 a = .null ∧ own_pk f 2 a = .null ∧ own_pk f 3 a = .null ∧ own_pk f 4 a = .null ∧ own_pk f 5 a = .null ∧ own_pk f 6 a = .null)) : x = (if (f &&& (127 : Int32)) = (0 : Int32) then (1 : Int32) else 0) := by
  simp only [own_pk_null] at h
  rw [own_bit f _ 0 (by decide) (by decide), own_bit f _ 1 (by decide) (by decide), own_bit f _ 2 (by decide) (by decide), own_bit f _ 3 (by decide) (by decide), own_bit f _ 4 (by decide) (by decide), own_bit f _ 5 (by decide) (by decide), own_bit f _ 6 (by decide) (by decide)] at h
  have q : (f.toBitVec.toNat / 2 ^ 0 % 2 = 0 ∧ f.toBitVec.toNat / 2 ^ 1 % 2 = 0 ∧ f.toBitVec.toNat / 2 ^ 2 % 2 = 0 ∧ f.toBitVec.toNat / 2 ^ 3 % 2 = 0 ∧ f.toBitVec.toNat / 2 ^ 4 % 2 = 0 ∧ f.toBitVec.toNat / 2 ^ 5 % 2 = 0 ∧ f.toBitVec.toNat / 2 ^ 6 % 2 = 0) ↔ f.toBitVec.toNat % 128 = 0 := by omega
  rw [q, ← own_mask] at h
  by_cases c : (f &&& (127 : Int32)) = (0 : Int32)
  · rw [if_pos c]; exact h.mpr c
  · rw [if_neg c]
    rcases h01 with rfl | rfl
    · rfl
    · exact absurd (h.mp rfl) c
theorem own_char (p : Int32) : ¬ (255 : Int32) < (p &&& (255 : Int32)).toUInt32.toUInt16.toUInt32.toInt32 := by
  rw [i2c_mask]
  have e : (p &&& (255 : Int32)).toBitVec.toNat = p.toBitVec.toNat % 256 := by
    rw [Int32.toBitVec_and, BitVec.toNat_and, show (255 : Int32).toBitVec.toNat = 2 ^ 8 - 1 from by decide, Nat.and_two_pow_sub_one_eq_mod]
  rw [Int32.lt_iff_toInt_lt]
  have t : (p &&& (255 : Int32)).toInt = ((p &&& (255 : Int32)).toBitVec.toNat : Int) := by
    have : (p &&& (255 : Int32)).toInt = (p &&& (255 : Int32)).toBitVec.toInt := rfl
    rw [this, BitVec.toInt_eq_toNat_cond, if_pos (by omega)]
  rw [t, e, show (255 : Int32).toInt = 255 from by decide]
  omega
theorem own_narrow_ref {u : Value} (h : u.isRef = true) {t : FieldType} (ht : t.isReference = true) : narrow t u = u := by
  cases u <;> first | (simp [Value.isRef] at h; done) | (cases t <;> first | rfl | (simp [FieldType.isReference] at ht))
def Bib (Z : State) (h : Heap) (a : Addr) (u1 u2 u3 u4 u5 u6 u7 u8 : Value) : Prop := Exa Z h a "com/example/fruition/fruition/core/model/Biblio" ∧ Fld Z h a "com/example/fruition/fruition/core/model/Biblio" "issue" "Ljava/lang/String;" u1 ∧ Fld Z h a "com/example/fruition/fruition/core/model/Biblio" "firstPage" "Ljava/lang/String;" u2 ∧ Fld Z h a "com/example/fruition/fruition/core/model/Biblio" "lastPage" "Ljava/lang/String;" u3 ∧ Fld Z h a "com/example/fruition/fruition/core/model/Biblio" "volume" "Ljava/lang/String;" u4 ∧ Fld Z h a "com/example/fruition/fruition/core/model/Biblio" "edition" "Ljava/lang/String;" u5 ∧ Fld Z h a "com/example/fruition/fruition/core/model/Biblio" "number" "Ljava/lang/String;" u6 ∧ Fld Z h a "com/example/fruition/fruition/core/model/Biblio" "in" "Ljava/lang/String;" u7 ∧ Fld Z h a "com/example/fruition/fruition/core/model/Biblio" "hostingDataSource" "Ljava/lang/String;" u8
theorem own_strings {Z : State} {a0 : Array Value} (hw : ∀ d ∈ tables_1, d.before a0 Z = true) : ∀ a ∈ Bundle.stringAtoms, a.before a0 Z = true := by
  intro a ha
  simp only [Bundle.stringAtoms, Bundle.sN, List.mem_cons, List.not_mem_nil, or_false] at ha
  rcases ha with rfl | rfl | rfl | rfl | rfl | rfl | rfl
  · exact (hw _ (List.mem_of_getElem? (i := 2) rfl))
  · exact (hw _ (List.mem_of_getElem? (i := 10) rfl))
  · exact (hw _ (List.mem_of_getElem? (i := 14) rfl))
  · exact (hw _ (List.mem_of_getElem? (i := 23) rfl))
  · exact (hw _ (List.mem_of_getElem? (i := 25) rfl))
  · exact (hw _ (List.mem_of_getElem? (i := 94) rfl))
  · exact (hw _ (List.mem_of_getElem? (i := 95) rfl))
theorem own_bib0 {Z : State} {a0 : Array Value} (hw : ∀ d ∈ tables_1, d.before a0 Z = true) {h h' : Heap} {a : Addr} {u1 u2 u3 u4 u5 u6 u7 u8 v : Value} (B : Bib Z h a u1 u2 u3 u4 u5 u6 u7 u8) (W : Wr h h' a (Jvm.RoadKit.slotOf Z "com/example/fruition/fruition/core/model/Biblio" "issue" "Ljava/lang/String;") v) : Bib Z h' a v u2 u3 u4 u5 u6 u7 u8 := by
  obtain ⟨E, F0, F1, F2, F3, F4, F5, F6, F7⟩ := B
  exact ⟨E.wr W, Fld.same W F0, F1.other W (Or.inr (slot_ne (Or.inl (hw _ (List.mem_of_getElem? (i := 50) rfl))) (Or.inl (hw _ (List.mem_of_getElem? (i := 43) rfl))) (by decide) (t := (.object "java/lang/String")) (t' := (.object "java/lang/String")) (by decide) (by decide))), F2.other W (Or.inr (slot_ne (Or.inl (hw _ (List.mem_of_getElem? (i := 52) rfl))) (Or.inl (hw _ (List.mem_of_getElem? (i := 43) rfl))) (by decide) (t := (.object "java/lang/String")) (t' := (.object "java/lang/String")) (by decide) (by decide))), F3.other W (Or.inr (slot_ne (Or.inl (hw _ (List.mem_of_getElem? (i := 59) rfl))) (Or.inl (hw _ (List.mem_of_getElem? (i := 43) rfl))) (by decide) (t := (.object "java/lang/String")) (t' := (.object "java/lang/String")) (by decide) (by decide))), F4.other W (Or.inr (slot_ne (Or.inl (hw _ (List.mem_of_getElem? (i := 66) rfl))) (Or.inl (hw _ (List.mem_of_getElem? (i := 43) rfl))) (by decide) (t := (.object "java/lang/String")) (t' := (.object "java/lang/String")) (by decide) (by decide))), F5.other W (Or.inr (slot_ne (Or.inl (hw _ (List.mem_of_getElem? (i := 73) rfl))) (Or.inl (hw _ (List.mem_of_getElem? (i := 43) rfl))) (by decide) (t := (.object "java/lang/String")) (t' := (.object "java/lang/String")) (by decide) (by decide))), F6.other W (Or.inr (slot_ne (Or.inl (hw _ (List.mem_of_getElem? (i := 80) rfl))) (Or.inl (hw _ (List.mem_of_getElem? (i := 43) rfl))) (by decide) (t := (.object "java/lang/String")) (t' := (.object "java/lang/String")) (by decide) (by decide))), F7.other W (Or.inr (slot_ne (Or.inl (hw _ (List.mem_of_getElem? (i := 87) rfl))) (Or.inl (hw _ (List.mem_of_getElem? (i := 43) rfl))) (by decide) (t := (.object "java/lang/String")) (t' := (.object "java/lang/String")) (by decide) (by decide)))⟩
theorem own_bib1 {Z : State} {a0 : Array Value} (hw : ∀ d ∈ tables_1, d.before a0 Z = true) {h h' : Heap} {a : Addr} {u1 u2 u3 u4 u5 u6 u7 u8 v : Value} (B : Bib Z h a u1 u2 u3 u4 u5 u6 u7 u8) (W : Wr h h' a (Jvm.RoadKit.slotOf Z "com/example/fruition/fruition/core/model/Biblio" "firstPage" "Ljava/lang/String;") v) : Bib Z h' a u1 v u3 u4 u5 u6 u7 u8 := by
  obtain ⟨E, F0, F1, F2, F3, F4, F5, F6, F7⟩ := B
  exact ⟨E.wr W, F0.other W (Or.inr (slot_ne (Or.inl (hw _ (List.mem_of_getElem? (i := 43) rfl))) (Or.inl (hw _ (List.mem_of_getElem? (i := 50) rfl))) (by decide) (t := (.object "java/lang/String")) (t' := (.object "java/lang/String")) (by decide) (by decide))), Fld.same W F1, F2.other W (Or.inr (slot_ne (Or.inl (hw _ (List.mem_of_getElem? (i := 52) rfl))) (Or.inl (hw _ (List.mem_of_getElem? (i := 50) rfl))) (by decide) (t := (.object "java/lang/String")) (t' := (.object "java/lang/String")) (by decide) (by decide))), F3.other W (Or.inr (slot_ne (Or.inl (hw _ (List.mem_of_getElem? (i := 59) rfl))) (Or.inl (hw _ (List.mem_of_getElem? (i := 50) rfl))) (by decide) (t := (.object "java/lang/String")) (t' := (.object "java/lang/String")) (by decide) (by decide))), F4.other W (Or.inr (slot_ne (Or.inl (hw _ (List.mem_of_getElem? (i := 66) rfl))) (Or.inl (hw _ (List.mem_of_getElem? (i := 50) rfl))) (by decide) (t := (.object "java/lang/String")) (t' := (.object "java/lang/String")) (by decide) (by decide))), F5.other W (Or.inr (slot_ne (Or.inl (hw _ (List.mem_of_getElem? (i := 73) rfl))) (Or.inl (hw _ (List.mem_of_getElem? (i := 50) rfl))) (by decide) (t := (.object "java/lang/String")) (t' := (.object "java/lang/String")) (by decide) (by decide))), F6.other W (Or.inr (slot_ne (Or.inl (hw _ (List.mem_of_getElem? (i := 80) rfl))) (Or.inl (hw _ (List.mem_of_getElem? (i := 50) rfl))) (by decide) (t := (.object "java/lang/String")) (t' := (.object "java/lang/String")) (by decide) (by decide))), F7.other W (Or.inr (slot_ne (Or.inl (hw _ (List.mem_of_getElem? (i := 87) rfl))) (Or.inl (hw _ (List.mem_of_getElem? (i := 50) rfl))) (by decide) (t := (.object "java/lang/String")) (t' := (.object "java/lang/String")) (by decide) (by decide)))⟩
theorem own_bib2 {Z : State} {a0 : Array Value} (hw : ∀ d ∈ tables_1, d.before a0 Z = true) {h h' : Heap} {a : Addr} {u1 u2 u3 u4 u5 u6 u7 u8 v : Value} (B : Bib Z h a u1 u2 u3 u4 u5 u6 u7 u8) (W : Wr h h' a (Jvm.RoadKit.slotOf Z "com/example/fruition/fruition/core/model/Biblio" "lastPage" "Ljava/lang/String;") v) : Bib Z h' a u1 u2 v u4 u5 u6 u7 u8 := by
  obtain ⟨E, F0, F1, F2, F3, F4, F5, F6, F7⟩ := B
  exact ⟨E.wr W, F0.other W (Or.inr (slot_ne (Or.inl (hw _ (List.mem_of_getElem? (i := 43) rfl))) (Or.inl (hw _ (List.mem_of_getElem? (i := 52) rfl))) (by decide) (t := (.object "java/lang/String")) (t' := (.object "java/lang/String")) (by decide) (by decide))), F1.other W (Or.inr (slot_ne (Or.inl (hw _ (List.mem_of_getElem? (i := 50) rfl))) (Or.inl (hw _ (List.mem_of_getElem? (i := 52) rfl))) (by decide) (t := (.object "java/lang/String")) (t' := (.object "java/lang/String")) (by decide) (by decide))), Fld.same W F2, F3.other W (Or.inr (slot_ne (Or.inl (hw _ (List.mem_of_getElem? (i := 59) rfl))) (Or.inl (hw _ (List.mem_of_getElem? (i := 52) rfl))) (by decide) (t := (.object "java/lang/String")) (t' := (.object "java/lang/String")) (by decide) (by decide))), F4.other W (Or.inr (slot_ne (Or.inl (hw _ (List.mem_of_getElem? (i := 66) rfl))) (Or.inl (hw _ (List.mem_of_getElem? (i := 52) rfl))) (by decide) (t := (.object "java/lang/String")) (t' := (.object "java/lang/String")) (by decide) (by decide))), F5.other W (Or.inr (slot_ne (Or.inl (hw _ (List.mem_of_getElem? (i := 73) rfl))) (Or.inl (hw _ (List.mem_of_getElem? (i := 52) rfl))) (by decide) (t := (.object "java/lang/String")) (t' := (.object "java/lang/String")) (by decide) (by decide))), F6.other W (Or.inr (slot_ne (Or.inl (hw _ (List.mem_of_getElem? (i := 80) rfl))) (Or.inl (hw _ (List.mem_of_getElem? (i := 52) rfl))) (by decide) (t := (.object "java/lang/String")) (t' := (.object "java/lang/String")) (by decide) (by decide))), F7.other W (Or.inr (slot_ne (Or.inl (hw _ (List.mem_of_getElem? (i := 87) rfl))) (Or.inl (hw _ (List.mem_of_getElem? (i := 52) rfl))) (by decide) (t := (.object "java/lang/String")) (t' := (.object "java/lang/String")) (by decide) (by decide)))⟩
theorem own_bib3 {Z : State} {a0 : Array Value} (hw : ∀ d ∈ tables_1, d.before a0 Z = true) {h h' : Heap} {a : Addr} {u1 u2 u3 u4 u5 u6 u7 u8 v : Value} (B : Bib Z h a u1 u2 u3 u4 u5 u6 u7 u8) (W : Wr h h' a (Jvm.RoadKit.slotOf Z "com/example/fruition/fruition/core/model/Biblio" "volume" "Ljava/lang/String;") v) : Bib Z h' a u1 u2 u3 v u5 u6 u7 u8 := by
  obtain ⟨E, F0, F1, F2, F3, F4, F5, F6, F7⟩ := B
  exact ⟨E.wr W, F0.other W (Or.inr (slot_ne (Or.inl (hw _ (List.mem_of_getElem? (i := 43) rfl))) (Or.inl (hw _ (List.mem_of_getElem? (i := 59) rfl))) (by decide) (t := (.object "java/lang/String")) (t' := (.object "java/lang/String")) (by decide) (by decide))), F1.other W (Or.inr (slot_ne (Or.inl (hw _ (List.mem_of_getElem? (i := 50) rfl))) (Or.inl (hw _ (List.mem_of_getElem? (i := 59) rfl))) (by decide) (t := (.object "java/lang/String")) (t' := (.object "java/lang/String")) (by decide) (by decide))), F2.other W (Or.inr (slot_ne (Or.inl (hw _ (List.mem_of_getElem? (i := 52) rfl))) (Or.inl (hw _ (List.mem_of_getElem? (i := 59) rfl))) (by decide) (t := (.object "java/lang/String")) (t' := (.object "java/lang/String")) (by decide) (by decide))), Fld.same W F3, F4.other W (Or.inr (slot_ne (Or.inl (hw _ (List.mem_of_getElem? (i := 66) rfl))) (Or.inl (hw _ (List.mem_of_getElem? (i := 59) rfl))) (by decide) (t := (.object "java/lang/String")) (t' := (.object "java/lang/String")) (by decide) (by decide))), F5.other W (Or.inr (slot_ne (Or.inl (hw _ (List.mem_of_getElem? (i := 73) rfl))) (Or.inl (hw _ (List.mem_of_getElem? (i := 59) rfl))) (by decide) (t := (.object "java/lang/String")) (t' := (.object "java/lang/String")) (by decide) (by decide))), F6.other W (Or.inr (slot_ne (Or.inl (hw _ (List.mem_of_getElem? (i := 80) rfl))) (Or.inl (hw _ (List.mem_of_getElem? (i := 59) rfl))) (by decide) (t := (.object "java/lang/String")) (t' := (.object "java/lang/String")) (by decide) (by decide))), F7.other W (Or.inr (slot_ne (Or.inl (hw _ (List.mem_of_getElem? (i := 87) rfl))) (Or.inl (hw _ (List.mem_of_getElem? (i := 59) rfl))) (by decide) (t := (.object "java/lang/String")) (t' := (.object "java/lang/String")) (by decide) (by decide)))⟩
theorem own_bib4 {Z : State} {a0 : Array Value} (hw : ∀ d ∈ tables_1, d.before a0 Z = true) {h h' : Heap} {a : Addr} {u1 u2 u3 u4 u5 u6 u7 u8 v : Value} (B : Bib Z h a u1 u2 u3 u4 u5 u6 u7 u8) (W : Wr h h' a (Jvm.RoadKit.slotOf Z "com/example/fruition/fruition/core/model/Biblio" "edition" "Ljava/lang/String;") v) : Bib Z h' a u1 u2 u3 u4 v u6 u7 u8 := by
  obtain ⟨E, F0, F1, F2, F3, F4, F5, F6, F7⟩ := B
  exact ⟨E.wr W, F0.other W (Or.inr (slot_ne (Or.inl (hw _ (List.mem_of_getElem? (i := 43) rfl))) (Or.inl (hw _ (List.mem_of_getElem? (i := 66) rfl))) (by decide) (t := (.object "java/lang/String")) (t' := (.object "java/lang/String")) (by decide) (by decide))), F1.other W (Or.inr (slot_ne (Or.inl (hw _ (List.mem_of_getElem? (i := 50) rfl))) (Or.inl (hw _ (List.mem_of_getElem? (i := 66) rfl))) (by decide) (t := (.object "java/lang/String")) (t' := (.object "java/lang/String")) (by decide) (by decide))), F2.other W (Or.inr (slot_ne (Or.inl (hw _ (List.mem_of_getElem? (i := 52) rfl))) (Or.inl (hw _ (List.mem_of_getElem? (i := 66) rfl))) (by decide) (t := (.object "java/lang/String")) (t' := (.object "java/lang/String")) (by decide) (by decide))), F3.other W (Or.inr (slot_ne (Or.inl (hw _ (List.mem_of_getElem? (i := 59) rfl))) (Or.inl (hw _ (List.mem_of_getElem? (i := 66) rfl))) (by decide) (t := (.object "java/lang/String")) (t' := (.object "java/lang/String")) (by decide) (by decide))), Fld.same W F4, F5.other W (Or.inr (slot_ne (Or.inl (hw _ (List.mem_of_getElem? (i := 73) rfl))) (Or.inl (hw _ (List.mem_of_getElem? (i := 66) rfl))) (by decide) (t := (.object "java/lang/String")) (t' := (.object "java/lang/String")) (by decide) (by decide))), F6.other W (Or.inr (slot_ne (Or.inl (hw _ (List.mem_of_getElem? (i := 80) rfl))) (Or.inl (hw _ (List.mem_of_getElem? (i := 66) rfl))) (by decide) (t := (.object "java/lang/String")) (t' := (.object "java/lang/String")) (by decide) (by decide))), F7.other W (Or.inr (slot_ne (Or.inl (hw _ (List.mem_of_getElem? (i := 87) rfl))) (Or.inl (hw _ (List.mem_of_getElem? (i := 66) rfl))) (by decide) (t := (.object "java/lang/String")) (t' := (.object "java/lang/String")) (by decide) (by decide)))⟩
theorem own_bib5 {Z : State} {a0 : Array Value} (hw : ∀ d ∈ tables_1, d.before a0 Z = true) {h h' : Heap} {a : Addr} {u1 u2 u3 u4 u5 u6 u7 u8 v : Value} (B : Bib Z h a u1 u2 u3 u4 u5 u6 u7 u8) (W : Wr h h' a (Jvm.RoadKit.slotOf Z "com/example/fruition/fruition/core/model/Biblio" "number" "Ljava/lang/String;") v) : Bib Z h' a u1 u2 u3 u4 u5 v u7 u8 := by
  obtain ⟨E, F0, F1, F2, F3, F4, F5, F6, F7⟩ := B
  exact ⟨E.wr W, F0.other W (Or.inr (slot_ne (Or.inl (hw _ (List.mem_of_getElem? (i := 43) rfl))) (Or.inl (hw _ (List.mem_of_getElem? (i := 73) rfl))) (by decide) (t := (.object "java/lang/String")) (t' := (.object "java/lang/String")) (by decide) (by decide))), F1.other W (Or.inr (slot_ne (Or.inl (hw _ (List.mem_of_getElem? (i := 50) rfl))) (Or.inl (hw _ (List.mem_of_getElem? (i := 73) rfl))) (by decide) (t := (.object "java/lang/String")) (t' := (.object "java/lang/String")) (by decide) (by decide))), F2.other W (Or.inr (slot_ne (Or.inl (hw _ (List.mem_of_getElem? (i := 52) rfl))) (Or.inl (hw _ (List.mem_of_getElem? (i := 73) rfl))) (by decide) (t := (.object "java/lang/String")) (t' := (.object "java/lang/String")) (by decide) (by decide))), F3.other W (Or.inr (slot_ne (Or.inl (hw _ (List.mem_of_getElem? (i := 59) rfl))) (Or.inl (hw _ (List.mem_of_getElem? (i := 73) rfl))) (by decide) (t := (.object "java/lang/String")) (t' := (.object "java/lang/String")) (by decide) (by decide))), F4.other W (Or.inr (slot_ne (Or.inl (hw _ (List.mem_of_getElem? (i := 66) rfl))) (Or.inl (hw _ (List.mem_of_getElem? (i := 73) rfl))) (by decide) (t := (.object "java/lang/String")) (t' := (.object "java/lang/String")) (by decide) (by decide))), Fld.same W F5, F6.other W (Or.inr (slot_ne (Or.inl (hw _ (List.mem_of_getElem? (i := 80) rfl))) (Or.inl (hw _ (List.mem_of_getElem? (i := 73) rfl))) (by decide) (t := (.object "java/lang/String")) (t' := (.object "java/lang/String")) (by decide) (by decide))), F7.other W (Or.inr (slot_ne (Or.inl (hw _ (List.mem_of_getElem? (i := 87) rfl))) (Or.inl (hw _ (List.mem_of_getElem? (i := 73) rfl))) (by decide) (t := (.object "java/lang/String")) (t' := (.object "java/lang/String")) (by decide) (by decide)))⟩
theorem own_bib6 {Z : State} {a0 : Array Value} (hw : ∀ d ∈ tables_1, d.before a0 Z = true) {h h' : Heap} {a : Addr} {u1 u2 u3 u4 u5 u6 u7 u8 v : Value} (B : Bib Z h a u1 u2 u3 u4 u5 u6 u7 u8) (W : Wr h h' a (Jvm.RoadKit.slotOf Z "com/example/fruition/fruition/core/model/Biblio" "in" "Ljava/lang/String;") v) : Bib Z h' a u1 u2 u3 u4 u5 u6 v u8 := by
  obtain ⟨E, F0, F1, F2, F3, F4, F5, F6, F7⟩ := B
  exact ⟨E.wr W, F0.other W (Or.inr (slot_ne (Or.inl (hw _ (List.mem_of_getElem? (i := 43) rfl))) (Or.inl (hw _ (List.mem_of_getElem? (i := 80) rfl))) (by decide) (t := (.object "java/lang/String")) (t' := (.object "java/lang/String")) (by decide) (by decide))), F1.other W (Or.inr (slot_ne (Or.inl (hw _ (List.mem_of_getElem? (i := 50) rfl))) (Or.inl (hw _ (List.mem_of_getElem? (i := 80) rfl))) (by decide) (t := (.object "java/lang/String")) (t' := (.object "java/lang/String")) (by decide) (by decide))), F2.other W (Or.inr (slot_ne (Or.inl (hw _ (List.mem_of_getElem? (i := 52) rfl))) (Or.inl (hw _ (List.mem_of_getElem? (i := 80) rfl))) (by decide) (t := (.object "java/lang/String")) (t' := (.object "java/lang/String")) (by decide) (by decide))), F3.other W (Or.inr (slot_ne (Or.inl (hw _ (List.mem_of_getElem? (i := 59) rfl))) (Or.inl (hw _ (List.mem_of_getElem? (i := 80) rfl))) (by decide) (t := (.object "java/lang/String")) (t' := (.object "java/lang/String")) (by decide) (by decide))), F4.other W (Or.inr (slot_ne (Or.inl (hw _ (List.mem_of_getElem? (i := 66) rfl))) (Or.inl (hw _ (List.mem_of_getElem? (i := 80) rfl))) (by decide) (t := (.object "java/lang/String")) (t' := (.object "java/lang/String")) (by decide) (by decide))), F5.other W (Or.inr (slot_ne (Or.inl (hw _ (List.mem_of_getElem? (i := 73) rfl))) (Or.inl (hw _ (List.mem_of_getElem? (i := 80) rfl))) (by decide) (t := (.object "java/lang/String")) (t' := (.object "java/lang/String")) (by decide) (by decide))), Fld.same W F6, F7.other W (Or.inr (slot_ne (Or.inl (hw _ (List.mem_of_getElem? (i := 87) rfl))) (Or.inl (hw _ (List.mem_of_getElem? (i := 80) rfl))) (by decide) (t := (.object "java/lang/String")) (t' := (.object "java/lang/String")) (by decide) (by decide)))⟩
theorem own_bib7 {Z : State} {a0 : Array Value} (hw : ∀ d ∈ tables_1, d.before a0 Z = true) {h h' : Heap} {a : Addr} {u1 u2 u3 u4 u5 u6 u7 u8 v : Value} (B : Bib Z h a u1 u2 u3 u4 u5 u6 u7 u8) (W : Wr h h' a (Jvm.RoadKit.slotOf Z "com/example/fruition/fruition/core/model/Biblio" "hostingDataSource" "Ljava/lang/String;") v) : Bib Z h' a u1 u2 u3 u4 u5 u6 u7 v := by
  obtain ⟨E, F0, F1, F2, F3, F4, F5, F6, F7⟩ := B
  exact ⟨E.wr W, F0.other W (Or.inr (slot_ne (Or.inl (hw _ (List.mem_of_getElem? (i := 43) rfl))) (Or.inl (hw _ (List.mem_of_getElem? (i := 87) rfl))) (by decide) (t := (.object "java/lang/String")) (t' := (.object "java/lang/String")) (by decide) (by decide))), F1.other W (Or.inr (slot_ne (Or.inl (hw _ (List.mem_of_getElem? (i := 50) rfl))) (Or.inl (hw _ (List.mem_of_getElem? (i := 87) rfl))) (by decide) (t := (.object "java/lang/String")) (t' := (.object "java/lang/String")) (by decide) (by decide))), F2.other W (Or.inr (slot_ne (Or.inl (hw _ (List.mem_of_getElem? (i := 52) rfl))) (Or.inl (hw _ (List.mem_of_getElem? (i := 87) rfl))) (by decide) (t := (.object "java/lang/String")) (t' := (.object "java/lang/String")) (by decide) (by decide))), F3.other W (Or.inr (slot_ne (Or.inl (hw _ (List.mem_of_getElem? (i := 59) rfl))) (Or.inl (hw _ (List.mem_of_getElem? (i := 87) rfl))) (by decide) (t := (.object "java/lang/String")) (t' := (.object "java/lang/String")) (by decide) (by decide))), F4.other W (Or.inr (slot_ne (Or.inl (hw _ (List.mem_of_getElem? (i := 66) rfl))) (Or.inl (hw _ (List.mem_of_getElem? (i := 87) rfl))) (by decide) (t := (.object "java/lang/String")) (t' := (.object "java/lang/String")) (by decide) (by decide))), F5.other W (Or.inr (slot_ne (Or.inl (hw _ (List.mem_of_getElem? (i := 73) rfl))) (Or.inl (hw _ (List.mem_of_getElem? (i := 87) rfl))) (by decide) (t := (.object "java/lang/String")) (t' := (.object "java/lang/String")) (by decide) (by decide))), F6.other W (Or.inr (slot_ne (Or.inl (hw _ (List.mem_of_getElem? (i := 80) rfl))) (Or.inl (hw _ (List.mem_of_getElem? (i := 87) rfl))) (by decide) (t := (.object "java/lang/String")) (t' := (.object "java/lang/String")) (by decide) (by decide))), Fld.same W F7⟩
theorem own_pn0 : plainName "java/lang/StringLatin1" = true := by first | (simp [plainName, overriddenIn]; done) | decide +kernel
theorem own_pn1 : plainName "java/lang/String" = true := by first | (simp [plainName, overriddenIn]; done) | decide +kernel
theorem own_pd0 : parseMethodDescriptor "(C)Z" = some ⟨[.char], some .boolean⟩ := by decide +kernel
theorem own_pd1 : parseMethodDescriptor "(C)[B" = some ⟨[.char], some (.array .byte)⟩ := by decide +kernel
theorem own_pd2 : parseMethodDescriptor "([BB)V" = some ⟨[(.array .byte), .byte], none⟩ := by decide +kernel
theorem own_pn2 : plainName "com/example/fruition/fruition/core/model/Biblio" = true := by first | (simp [plainName, overriddenIn]; done) | decide +kernel
theorem own_pn3 : plainName "com/example/fruition/fruition/core/model/BiblioIsEmptyPinLaw" = true := by first | (simp [plainName, overriddenIn]; done) | decide +kernel
theorem own_pd3 : parseMethodDescriptor "(C)Ljava/lang/String;" = some ⟨[.char], some (.object "java/lang/String")⟩ := by decide +kernel
theorem own_pd4 : parseMethodDescriptor "()V" = some ⟨[], none⟩ := by decide +kernel
theorem own_pd5 : parseMethodDescriptor "(IILjava/lang/String;)Ljava/lang/String;" = some ⟨[.int, .int, (.object "java/lang/String")], some (.object "java/lang/String")⟩ := by decide +kernel
theorem own_pd6 : parseMethodDescriptor "(Ljava/lang/String;)V" = some ⟨[(.object "java/lang/String")], none⟩ := by decide +kernel
theorem own_pd7 : parseMethodDescriptor "(Ljava/lang/String;Ljava/lang/String;)V" = some ⟨[(.object "java/lang/String"), (.object "java/lang/String")], none⟩ := by decide +kernel
theorem own_pd8 : parseMethodDescriptor "()Z" = some ⟨[], some .boolean⟩ := by decide +kernel
def Q2 (h0 : Heap) (n0 : Nat) (v : Option Value) (h : Heap) (L : List Loc) : Prop := v = some (.int 1) ∧ Fr n0 L ∧ h = h0
def Q3 (h0 : Heap) (n0 : Nat) (v : Option Value) (h : Heap) (L : List Loc) : Prop := ∃ b : Addr, v = some (.ref b) ∧ Fr n0 L ∧ Keep h0 h []
def Q4 (a1 : Addr) (h0 : Heap) (n0 : Nat) (v : Option Value) (h : Heap) (L : List Loc) : Prop := v = none ∧ Fr n0 L ∧ Keep h0 h [a1]
def Q1 (h0 : Heap) (n0 : Nat) (v : Option Value) (h : Heap) (L : List Loc) : Prop := ∃ b : Addr, v = some (.ref b) ∧ Fr n0 L ∧ Keep h0 h []
def Q6 (h0 : Heap) (n0 : Nat) (v : Option Value) (h : Heap) (L : List Loc) : Prop := v = none ∧ Fr n0 L ∧ h = h0
def Q7 (p1 p2 : Int32) (a3 : Addr) (h0 : Heap) (n0 : Nat) (v : Option Value) (h : Heap) (L : List Loc) : Prop := v = some (own_pk p1 p2 a3) ∧ Fr n0 L ∧ h = h0
def QB (Z : State) (a : Addr) (u1 u2 u3 u4 u5 u6 u7 u8 : Value) (h0 : Heap) (n0 : Nat) (v : Option Value) (h : Heap) (L : List Loc) : Prop := v = none ∧ Fr n0 L ∧ h0.size ≤ h.size ∧ Bib Z h a u1 u2 u3 u4 u5 u6 u7 u8
def Q15 (u1 u2 u4 u5 u6 u7 u8 : Value) (h0 : Heap) (n0 : Nat) (v : Option Value) (h : Heap) (L : List Loc) : Prop := ∃ x : Int32, v = some (.int x) ∧ (x = 0 ∨ x = 1) ∧ (x = 1 ↔ (u1 = .null ∧ u2 = .null ∧ u4 = .null ∧ u5 = .null ∧ u6 = .null ∧ u7 = .null ∧ u8 = .null)) ∧ Fr n0 L ∧ h = h0
def Q0 (n0 : Nat) (v : Option Value) (h : Heap) (L : List Loc) : Prop := v = some (.int 1) ∧ Fr n0 L
theorem own_d2_0 : decode jdk_43_method_3_code 0 = .ok (.iload_n 0, 1) := by decide +kernel
theorem own_d2_1 : decode jdk_43_method_3_code 1 = .ok (.sipush 255, 3) := by decide +kernel
theorem own_d2_4 : decode jdk_43_method_3_code 4 = .ok (.if_icmp .gt 7, 3) := by decide +kernel
theorem own_d2_7 : decode jdk_43_method_3_code 7 = .ok (.iconst 1, 1) := by decide +kernel
theorem own_d2_8 : decode jdk_43_method_3_code 8 = .ok (.goto 4, 3) := by decide +kernel
theorem own_d2_12 : decode jdk_43_method_3_code 12 = .ok (.ireturn, 1) := by decide +kernel
set_option maxRecDepth 65536 in
set_option maxHeartbeats 40000000 in
theorem rm2 (l : Launch) (Z : State) (a0 : Array Value) (hw : ∀ d ∈ tables_1, d.before a0 Z = true) (ws : List Jvm.Cond) (p1 : Int32) (h0 : Heap) (n0 : Nat) (Z0 : n0 ≤ h0.size) (hp : ¬ (255 : Int32) < p1) :
    MetFree l (⟨"java/lang/StringLatin1", "canEncode", "(C)Z"⟩ : MethodName) (head1 (Jvm.Cond.code (⟨"java/lang/StringLatin1", "canEncode", "(C)Z"⟩ : MethodName) jdk_43_method_3_code 1 (some .boolean) :: ws) ({ frames := 0, cells := 0, slots := 0, locals := 0 } : Room)) (fun a U => a = #[(.int p1)] ∧ Z.Warmed39 U.vm ∧ U.heap = h0) (fun _ _ _ _ _ => True) (fun _ U oc U' => ∃ v L, oc = .returned v ∧ Q2 h0 n0 v U'.heap L ∧ FrameEnd U oc U' L ({ frames := 0, cells := 0, slots := 0, locals := 0 } : Room).cells ({ frames := 0, cells := 0, slots := 0, locals := 0 } : Room).slots) := by
  refine MetFree.of_bodySF (plainFor_of_name own_pn0) hisR ?_
  intro p e s m args below meth c s₁ Bd hml0 hP hK
  obtain ⟨rfl, hZ, hh⟩ := hP
  have hx := Bd.exec
  have hby := Bd.bytes
  have hml : c.maxLocals = 1 := hml0
  have hown : s.vm.findClass "java/lang/StringLatin1" = some m.cls := findClass_of_methodNamed Bd.named
  have hnm := (name_of_methodNamed Bd.named Bd.method).1
  have X0 : Stand p l e ({ frames := 0, cells := 0, slots := 0, locals := 0 } : Room) s m #[(.int p1)] below meth c s₁ [] 0 0 := Stand.of_body Bd
  have e0 : s₁.heap = h0 := by rw [← hh, Bd.state]; rfl
  have N0 := Fr.nil n0
  have G0 : Goes p e below s₁ (entryFrame m #[(.int p1)] 1) s₁ (mkF m 0 #[.val (.int p1)] []) := fun _ k => castTop (by first | (simp [entryFrame, mkF, argsToLocals, Value.category]; done) | rfl : (entryFrame m #[(.int p1)] 1) = mkF m 0 #[.val (.int p1)] []) k
  have G1 : Goes p e below s₁ (entryFrame m #[(.int p1)] 1) s₁ (mkF m 4 #[.val (.int p1)] [(.int (255 : Int32)), (.int p1)]) := fun _ k => G0 _ (by
      show Steps p.tables e below (s₁.setTop (mkF m 0 #[.val (.int p1)] [])) _
      refine XS.iloadN X0.here hx rfl (hb hby own_d2_0) rfl ?_
      show Steps p.tables e below (s₁.setTop (mkF m 1 #[.val (.int p1)] [(.int p1)])) _
      refine XS.sipush X0.here hx rfl (hb hby own_d2_1) ?_
      exact k)
  have G2 : Goes p e below s₁ (entryFrame m #[(.int p1)] 1) s₁ (mkF m 7 #[.val (.int p1)] []) := fun _ k => G1 _ (by
      show Steps p.tables e below (s₁.setTop (mkF m 4 #[.val (.int p1)] [(.int (255 : Int32)), (.int p1)])) _
      refine XS.icmpNo X0.here hx rfl (hb hby own_d2_4) rfl (flt hp).2.2.1 ?_
      exact k)
  have G3 : Goes p e below s₁ (entryFrame m #[(.int p1)] 1) s₁ (mkF m 12 #[.val (.int p1)] [(.int (1 : Int32))]) := fun _ k => G2 _ (by
      show Steps p.tables e below (s₁.setTop (mkF m 7 #[.val (.int p1)] [])) _
      refine XS.iconst X0.here hx rfl (hb hby own_d2_7) ?_
      show Steps p.tables e below (s₁.setTop (mkF m 8 #[.val (.int p1)] [(.int (1 : Int32))])) _
      refine XS.goto X0.here hx rfl (pc0 := 8) (pc' := 12) rfl (hb hby own_d2_8) (by decide) (by decide) ?_
      exact k)
  obtain ⟨fs, hr, hrun, hended, hW, hsame⟩ := X0.leave (v := some (.int (1 : Int32))) (fun h => by rw [Bd.returns] at h; cases h)
  refine ⟨_, _, G3 _ (retN X0 hx (t := .boolean) Bd.returns (by simp) (hb hby own_d2_12) hr), hrun, hended, _, _, rfl, ?_, ⟨_, rfl⟩, hW, hsame.mono (by decide) (by decide)⟩
  show Q2 h0 n0 _ s₁.heap _
  rw [e0]
  exact ⟨rfl, N0, rfl⟩
theorem own_d3_0 : decode jdk_43_method_46_code 0 = .ok (.iconst 1, 1) := by decide +kernel
theorem own_d3_1 : decode jdk_43_method_46_code 1 = .ok (.newarray .byte, 2) := by decide +kernel
theorem own_d3_3 : decode jdk_43_method_46_code 3 = .ok (.dup, 1) := by decide +kernel
theorem own_d3_4 : decode jdk_43_method_46_code 4 = .ok (.iconst 0, 1) := by decide +kernel
theorem own_d3_5 : decode jdk_43_method_46_code 5 = .ok (.iload_n 0, 1) := by decide +kernel
theorem own_d3_6 : decode jdk_43_method_46_code 6 = .ok (.i2b, 1) := by decide +kernel
theorem own_d3_7 : decode jdk_43_method_46_code 7 = .ok (.bastore, 1) := by decide +kernel
theorem own_d3_8 : decode jdk_43_method_46_code 8 = .ok (.areturn, 1) := by decide +kernel
set_option maxRecDepth 65536 in
set_option maxHeartbeats 40000000 in
theorem rm3 (l : Launch) (Z : State) (a0 : Array Value) (hw : ∀ d ∈ tables_1, d.before a0 Z = true) (ws : List Jvm.Cond) (p1 : Int32) (h0 : Heap) (n0 : Nat) (Z0 : n0 ≤ h0.size)  :
    MetFree l (⟨"java/lang/StringLatin1", "toBytes", "(C)[B"⟩ : MethodName) (head1 (Jvm.Cond.code (⟨"java/lang/StringLatin1", "toBytes", "(C)[B"⟩ : MethodName) jdk_43_method_46_code 1 (some (.array .byte)) :: ws) ({ frames := 0, cells := 1, slots := 1, locals := 0 } : Room)) (fun a U => a = #[(.int p1)] ∧ Z.Warmed39 U.vm ∧ U.heap = h0) (fun _ _ _ _ _ => True) (fun _ U oc U' => ∃ v L, oc = .returned v ∧ Q3 h0 n0 v U'.heap L ∧ FrameEnd U oc U' L ({ frames := 0, cells := 1, slots := 1, locals := 0 } : Room).cells ({ frames := 0, cells := 1, slots := 1, locals := 0 } : Room).slots) := by
  refine MetFree.of_bodySF (plainFor_of_name own_pn0) hisR ?_
  intro p e s m args below meth c s₁ Bd hml0 hP hK
  obtain ⟨rfl, hZ, hh⟩ := hP
  have hx := Bd.exec
  have hby := Bd.bytes
  have hml : c.maxLocals = 1 := hml0
  have hown : s.vm.findClass "java/lang/StringLatin1" = some m.cls := findClass_of_methodNamed Bd.named
  have hnm := (name_of_methodNamed Bd.named Bd.method).1
  have X0 : Stand p l e ({ frames := 0, cells := 1, slots := 1, locals := 0 } : Room) s m #[(.int p1)] below meth c s₁ [] 0 0 := Stand.of_body Bd
  have e0 : s₁.heap = h0 := by rw [← hh, Bd.state]; rfl
  have N0 := Fr.nil n0
  have G0 : Goes p e below s₁ (entryFrame m #[(.int p1)] 1) s₁ (mkF m 0 #[.val (.int p1)] []) := fun _ k => castTop (by first | (simp [entryFrame, mkF, argsToLocals, Value.category]; done) | rfl : (entryFrame m #[(.int p1)] 1) = mkF m 0 #[.val (.int p1)] []) k
  have G1 : Goes p e below s₁ (entryFrame m #[(.int p1)] 1) s₁ (mkF m 1 #[.val (.int p1)] [(.int (1 : Int32))]) := fun _ k => G0 _ (by
      show Steps p.tables e below (s₁.setTop (mkF m 0 #[.val (.int p1)] [])) _
      refine XS.iconst X0.here hx rfl (hb hby own_d3_0) ?_
      exact k)
  obtain ⟨T2, h2, k2, X2, e2, E2, A2, st2⟩ := newP X0 hx hZ (hw _ (List.mem_of_getElem? (i := 14) rfl)) e0 (g := (mkF m 1 #[.val (.int p1)] [(.int (1 : Int32))])) rfl (hb hby own_d3_1) rfl (by decide) (cap := 1) (by decide) (by decide) (by decide) (by decide)
  obtain ⟨b2, g2⟩ : ∃ z, z = h0.size := ⟨_, rfl⟩
  rw [← g2] at A2 st2
  have V2 : Arv Z h2 b2 k2 .byte (1 : Int32) [(.int (0 : Int32))] (.int (0 : Int32)) := (Arv.new A2 (by decide)).pad (pad_rep [] (.int (0 : Int32)) 1)
  have G2 : Goes p e below s₁ (entryFrame m #[(.int p1)] 1) T2 (mkF m 3 #[.val (.int p1)] [(.ref b2)]) := fun _ k => G1 _ (st2 _ k)
  have gb : n0 ≤ b2 := Nat.le_trans Z0 (Nat.le_of_eq g2.symm)
  have sz : h0.size ≤ b2 := Nat.le_of_eq g2.symm
  have G3 : Goes p e below s₁ (entryFrame m #[(.int p1)] 1) T2 (mkF m 7 #[.val (.int p1)] [(.int (p1.toInt8.toInt32)), (.int (0 : Int32)), (.ref b2), (.ref b2)]) := fun _ k => G2 _ (by
      show Steps p.tables e below (T2.setTop (mkF m 3 #[.val (.int p1)] [(.ref b2)])) _
      refine XS.dup X2.here hx rfl (hb hby own_d3_3) rfl rfl ?_
      show Steps p.tables e below (T2.setTop (mkF m 4 #[.val (.int p1)] [(.ref b2), (.ref b2)])) _
      refine XS.iconst X2.here hx rfl (hb hby own_d3_4) ?_
      show Steps p.tables e below (T2.setTop (mkF m 5 #[.val (.int p1)] [(.int (0 : Int32)), (.ref b2), (.ref b2)])) _
      refine XS.iloadN X2.here hx rfl (hb hby own_d3_5) rfl ?_
      show Steps p.tables e below (T2.setTop (mkF m 6 #[.val (.int p1)] [(.int p1), (.int (0 : Int32)), (.ref b2), (.ref b2)])) _
      refine XS.i2b X2.here hx rfl (hb hby own_d3_6) rfl ?_
      exact k)
  have vc4 := V2
  obtain ⟨cl4, Ar4, q4, S4, M4, H4, J4⟩ := vc4
  have hin4 : ¬ ((0 : Int32) < 0 ∨ cl4.slots.size ≤ ((0 : Int32)).toNatClampNeg) := inb_of S4 ⟨by decide, by decide⟩
  obtain ⟨T4, h4, X4, e4, W4, st4⟩ := stB X2 hx hZ e2 Ar4 (j := (0 : Int32)) hin4 (g := (mkF m 7 #[.val (.int p1)] [(.int (p1.toInt8.toInt32)), (.int (0 : Int32)), (.ref b2), (.ref b2)])) rfl rfl (hb hby own_d3_7)
  have V4 : Arv Z h4 b2 k2 .byte (1 : Int32) [(.int (nar .byte p1.toInt8.toInt32))] (.int (0 : Int32)) := Arv.set Ar4 q4 S4 M4 H4 J4 (fits_nar_byte _) W4 0 rfl (Nat.le_of_ble_eq_true rfl)
  have G4 : Goes p e below s₁ (entryFrame m #[(.int p1)] 1) T4 (mkF m 8 #[.val (.int p1)] [(.ref b2)]) := fun _ k => G3 _ (st4 _ k)
  have N4 := Fr.snoc X4 N0 gb
  have Kp : Keep h0 h4 [] := ((Keep.refl h0 []).ext E2).wr W4 (Or.inr sz)
  obtain ⟨fs, hr, hrun, hended, hW, hsame⟩ := X4.leave (v := some (.ref b2)) (fun h => by rw [Bd.returns] at h; cases h)
  refine ⟨_, _, G4 _ (by
      show Steps p.tables e below (T4.setTop (mkF m 8 #[.val (.int p1)] [(.ref b2)])) _
      jvm_step X4.here [X4.here.top, hx, (hb hby own_d3_8), X4.method', Bd.returns, Value.isRef, FieldType.isReference]
      first | (intro acts; rw [hr _ acts rfl rfl rfl]) | rw [hr _ _ rfl rfl rfl]
      exact Steps.refl _), hrun, hended, _, _, rfl, ?_, ⟨_, rfl⟩, hW, hsame.mono (by decide) (by decide)⟩
  show Q3 h0 n0 _ T4.heap _
  rw [e4]
  exact ⟨_, rfl, N4, Kp⟩
theorem own_d4_0 : decode jdk_42_method_151_code 0 = .ok (.aload_n 0, 1) := by decide +kernel
theorem own_d4_1 : decode jdk_42_method_151_code 1 = .ok (.invokespecial 1, 3) := by decide +kernel
theorem own_d4_4 : decode jdk_42_method_151_code 4 = .ok (.aload_n 0, 1) := by decide +kernel
theorem own_d4_5 : decode jdk_42_method_151_code 5 = .ok (.aload_n 1, 1) := by decide +kernel
theorem own_d4_6 : decode jdk_42_method_151_code 6 = .ok (.putfield 9, 3) := by decide +kernel
theorem own_d4_9 : decode jdk_42_method_151_code 9 = .ok (.aload_n 0, 1) := by decide +kernel
theorem own_d4_10 : decode jdk_42_method_151_code 10 = .ok (.iload_n 2, 1) := by decide +kernel
theorem own_d4_11 : decode jdk_42_method_151_code 11 = .ok (.putfield 15, 3) := by decide +kernel
theorem own_d4_14 : decode jdk_42_method_151_code 14 = .ok (.return_, 1) := by decide +kernel
set_option maxRecDepth 65536 in
set_option maxHeartbeats 40000000 in
theorem rm4 (l : Launch) (Z : State) (a0 : Array Value) (hw : ∀ d ∈ tables_1, d.before a0 Z = true) (ws : List Jvm.Cond) (a1 a2 : Addr) (p3 : Int32) (h0 : Heap) (n0 : Nat) (Z0 : n0 ≤ h0.size) (E : Exa Z h0 a1 "java/lang/String") (F1 : Fld Z h0 a1 "java/lang/String" "value" "[B" .null) (F2 : Fld Z h0 a1 "java/lang/String" "coder" "B" (.int (0 : Int32))) (ga : n0 ≤ a1) :
    MetFree l (⟨"java/lang/String", "<init>", "([BB)V"⟩ : MethodName) (head1 (Jvm.Cond.code (⟨"java/lang/String", "<init>", "([BB)V"⟩ : MethodName) jdk_42_method_151_code 3 none :: ws) ({ frames := 1, cells := 0, slots := 0, locals := 12 } : Room)) (fun a U => a = #[(.ref a1), (.ref a2), (.int p3)] ∧ Z.Warmed39 U.vm ∧ U.heap = h0) (fun _ _ _ _ _ => True) (fun _ U oc U' => ∃ v L, oc = .returned v ∧ Q4 a1 h0 n0 v U'.heap L ∧ FrameEnd U oc U' L ({ frames := 1, cells := 0, slots := 0, locals := 12 } : Room).cells ({ frames := 1, cells := 0, slots := 0, locals := 12 } : Room).slots) := by
  refine MetFree.of_bodySF (plainFor_of_name own_pn1) hisR ?_
  intro p e s m args below meth c s₁ Bd hml0 hP hK
  obtain ⟨rfl, hZ, hh⟩ := hP
  have hx := Bd.exec
  have hby := Bd.bytes
  have hml : c.maxLocals = 3 := hml0
  have hown : s.vm.findClass "java/lang/String" = some m.cls := findClass_of_methodNamed Bd.named
  have hnm := (name_of_methodNamed Bd.named Bd.method).1
  have X0 : Stand p l e ({ frames := 1, cells := 0, slots := 0, locals := 12 } : Room) s m #[(.ref a1), (.ref a2), (.int p3)] below meth c s₁ [] 0 0 := Stand.of_body Bd
  have e0 : s₁.heap = h0 := by rw [← hh, Bd.state]; rfl
  have N0 := Fr.nil n0
  have G0 : Goes p e below s₁ (entryFrame m #[(.ref a1), (.ref a2), (.int p3)] 3) s₁ (mkF m 0 #[.val (.ref a1), .val (.ref a2), .val (.int p3)] []) := fun _ k => castTop (by first | (simp [entryFrame, mkF, argsToLocals, Value.category]; done) | rfl : (entryFrame m #[(.ref a1), (.ref a2), (.int p3)] 3) = mkF m 0 #[.val (.ref a1), .val (.ref a2), .val (.int p3)] []) k
  have G1 : Goes p e below s₁ (entryFrame m #[(.ref a1), (.ref a2), (.int p3)] 3) s₁ (mkF m 1 #[.val (.ref a1), .val (.ref a2), .val (.int p3)] [(.ref a1)]) := fun _ k => G0 _ (by
      show Steps p.tables e below (s₁.setTop (mkF m 0 #[.val (.ref a1), .val (.ref a2), .val (.int p3)] [])) _
      refine XS.aloadN X0.here hx rfl (hb hby own_d4_0) rfl rfl ?_
      exact k)
  obtain ⟨T2, X2, e2, st2⟩ := initO X0 hx hZ hown (hw _ (List.mem_of_getElem? (i := 19) rfl)) (hw _ (List.mem_of_getElem? (i := 20) rfl)) (hw _ (List.mem_of_getElem? (i := 21) rfl)) e0 (g := (mkF m 1 #[.val (.ref a1), .val (.ref a2), .val (.int p3)] [(.ref a1)])) rfl (by rw [hml]; rfl) rfl (hb hby own_d4_1) (by decide) (W := 0) (by show 2 * 0 + _ ≤ _; exact Nat.le_of_eq rfl) (by decide)
  have G2 : Goes p e below s₁ (entryFrame m #[(.ref a1), (.ref a2), (.int p3)] 3) T2 (mkF m 4 #[.val (.ref a1), .val (.ref a2), .val (.int p3)] []) := fun _ k => G1 _ (st2 _ k)
  have G3 : Goes p e below s₁ (entryFrame m #[(.ref a1), (.ref a2), (.int p3)] 3) T2 (mkF m 6 #[.val (.ref a1), .val (.ref a2), .val (.int p3)] [(.ref a2), (.ref a1)]) := fun _ k => G2 _ (by
      show Steps p.tables e below (T2.setTop (mkF m 4 #[.val (.ref a1), .val (.ref a2), .val (.int p3)] [])) _
      refine XS.aloadN X2.here hx rfl (hb hby own_d4_4) rfl rfl ?_
      show Steps p.tables e below (T2.setTop (mkF m 5 #[.val (.ref a1), .val (.ref a2), .val (.int p3)] [(.ref a1)])) _
      refine XS.aloadN X2.here hx rfl (hb hby own_d4_5) rfl rfl ?_
      exact k)
  obtain ⟨T4, h4, X4, e4, W4, st4⟩ := putF X2 hx hZ hown (host := "") (Or.inl (hw _ (List.mem_of_getElem? (i := 22) rfl))) Via.refl e2 F1 E (Or.inr ⟨(hw _ (List.mem_of_getElem? (i := 23) rfl)), rfl, hnm⟩) (hw _ (List.mem_of_getElem? (i := 10) rfl)) (ty := (.array .byte)) (by decide) rfl rfl (g := (mkF m 6 #[.val (.ref a1), .val (.ref a2), .val (.int p3)] [(.ref a2), (.ref a1)])) rfl rfl (hb hby own_d4_6)
  have G4 : Goes p e below s₁ (entryFrame m #[(.ref a1), (.ref a2), (.int p3)] 3) T4 (mkF m 9 #[.val (.ref a1), .val (.ref a2), .val (.int p3)] []) := fun _ k => G3 _ (st4 _ k)
  have N4 := Fr.snoc X4 N0 ga
  have f5 := (Keep.refl h0 [a1]).wr W4 (Or.inl (List.mem_singleton.mpr rfl))
  have f6 := E.wr W4
  have f7 := F2.other W4 (Or.inr (slot_ne (Or.inr (hw _ (List.mem_of_getElem? (i := 25) rfl))) (Or.inr (hw _ (List.mem_of_getElem? (i := 23) rfl))) (by decide) (t := .byte) (t' := (.array .byte)) (by decide) (by decide)))
  have G8 : Goes p e below s₁ (entryFrame m #[(.ref a1), (.ref a2), (.int p3)] 3) T4 (mkF m 11 #[.val (.ref a1), .val (.ref a2), .val (.int p3)] [(.int p3), (.ref a1)]) := fun _ k => G4 _ (by
      show Steps p.tables e below (T4.setTop (mkF m 9 #[.val (.ref a1), .val (.ref a2), .val (.int p3)] [])) _
      refine XS.aloadN X4.here hx rfl (hb hby own_d4_9) rfl rfl ?_
      show Steps p.tables e below (T4.setTop (mkF m 10 #[.val (.ref a1), .val (.ref a2), .val (.int p3)] [(.ref a1)])) _
      refine XS.iloadN X4.here hx rfl (hb hby own_d4_10) rfl ?_
      exact k)
  obtain ⟨T9, h9, X9, e9, W9, st9⟩ := putFN X4 hx hZ hown (hw _ (List.mem_of_getElem? (i := 24) rfl)) Via.refl e4 f7 f6 (Or.inr ⟨(hw _ (List.mem_of_getElem? (i := 25) rfl)), rfl, hnm⟩) (hw _ (List.mem_of_getElem? (i := 10) rfl)) (ty := .byte) (v' := (.int (nar .byte p3))) (by decide) rfl (fits_nar_byte _) (g := (mkF m 11 #[.val (.ref a1), .val (.ref a2), .val (.int p3)] [(.int p3), (.ref a1)])) rfl rfl (hb hby own_d4_11)
  have G9 : Goes p e below s₁ (entryFrame m #[(.ref a1), (.ref a2), (.int p3)] 3) T9 (mkF m 14 #[.val (.ref a1), .val (.ref a2), .val (.int p3)] []) := fun _ k => G8 _ (st9 _ k)
  have N9 := Fr.snoc X9 N4 ga
  have f10 := f5.wr W9 (Or.inl (List.mem_singleton.mpr rfl))
  obtain ⟨fs, hr, hrun, hended, hW, hsame⟩ := X9.leave (v := none) (fun _ => rfl)
  refine ⟨_, _, G9 _ (X9.returnOut hx Bd.returns (hb hby own_d4_14) hr), hrun, hended, _, _, rfl, ?_, ⟨_, rfl⟩, hW, hsame.mono (by decide) (by decide)⟩
  show Q4 a1 h0 n0 _ T9.heap _
  rw [e9]
  exact ⟨rfl, N9, f10⟩
theorem own_d1_0 : decode jdk_42_method_139_code 0 = .ok (.getstatic 38, 3) := by decide +kernel
theorem own_d1_3 : decode jdk_42_method_139_code 3 = .ok (.ifCond .eq 23, 3) := by decide +kernel
theorem own_d1_6 : decode jdk_42_method_139_code 6 = .ok (.iload_n 0, 1) := by decide +kernel
theorem own_d1_7 : decode jdk_42_method_139_code 7 = .ok (.invokestatic 1015, 3) := by decide +kernel
theorem own_d1_10 : decode jdk_42_method_139_code 10 = .ok (.ifCond .eq 16, 3) := by decide +kernel
theorem own_d1_13 : decode jdk_42_method_139_code 13 = .ok (.new 10, 3) := by decide +kernel
theorem own_d1_16 : decode jdk_42_method_139_code 16 = .ok (.dup, 1) := by decide +kernel
theorem own_d1_17 : decode jdk_42_method_139_code 17 = .ok (.iload_n 0, 1) := by decide +kernel
theorem own_d1_18 : decode jdk_42_method_139_code 18 = .ok (.invokestatic 1018, 3) := by decide +kernel
theorem own_d1_21 : decode jdk_42_method_139_code 21 = .ok (.iconst 0, 1) := by decide +kernel
theorem own_d1_22 : decode jdk_42_method_139_code 22 = .ok (.invokespecial 209, 3) := by decide +kernel
theorem own_d1_25 : decode jdk_42_method_139_code 25 = .ok (.areturn, 1) := by decide +kernel
set_option maxRecDepth 65536 in
set_option maxHeartbeats 40000000 in
theorem rm1 (l : Launch) (Z : State) (a0 : Array Value) (hw : ∀ d ∈ tables_1, d.before a0 Z = true) (ws : List Jvm.Cond) (p1 z : Int32) (h0 : Heap) (n0 : Nat) (Z0 : n0 ≤ h0.size) (hp : ¬ (255 : Int32) < p1) (S0 : Sta Z h0 "java/lang/String" "COMPACT_STRINGS" "Z" (.int z)) (hz : ¬ z = 0) :
    MetFree l (⟨"java/lang/String", "valueOf", "(C)Ljava/lang/String;"⟩ : MethodName) (head1 (Jvm.Cond.code (⟨"java/lang/String", "valueOf", "(C)Ljava/lang/String;"⟩ : MethodName) jdk_42_method_139_code 1 (some (.object "java/lang/String")) :: ws) ({ frames := 2, cells := 2, slots := 5, locals := 27 } : Room)) (fun a U => a = #[(.int p1)] ∧ Z.Warmed39 U.vm ∧ U.heap = h0) (fun _ _ _ _ _ => True) (fun _ U oc U' => ∃ v L, oc = .returned v ∧ Q1 h0 n0 v U'.heap L ∧ FrameEnd U oc U' L ({ frames := 2, cells := 2, slots := 5, locals := 27 } : Room).cells ({ frames := 2, cells := 2, slots := 5, locals := 27 } : Room).slots) := by
  refine MetFree.of_bodySF (plainFor_of_name own_pn1) hisR ?_
  intro p e s m args below meth c s₁ Bd hml0 hP hK
  obtain ⟨rfl, hZ, hh⟩ := hP
  have hx := Bd.exec
  have hby := Bd.bytes
  have hml : c.maxLocals = 1 := hml0
  have hown : s.vm.findClass "java/lang/String" = some m.cls := findClass_of_methodNamed Bd.named
  have hnm := (name_of_methodNamed Bd.named Bd.method).1
  have X0 : Stand p l e ({ frames := 2, cells := 2, slots := 5, locals := 27 } : Room) s m #[(.int p1)] below meth c s₁ [] 0 0 := Stand.of_body Bd
  have e0 : s₁.heap = h0 := by rw [← hh, Bd.state]; rfl
  have N0 := Fr.nil n0
  have G0 : Goes p e below s₁ (entryFrame m #[(.int p1)] 1) s₁ (mkF m 0 #[.val (.int p1)] []) := fun _ k => castTop (by first | (simp [entryFrame, mkF, argsToLocals, Value.category]; done) | rfl : (entryFrame m #[(.int p1)] 1) = mkF m 0 #[.val (.int p1)] []) k
  obtain ⟨T1, X1, e1, st1⟩ := getS2 X0 hx hZ hown (host := "") (Or.inl (hw _ (List.mem_of_getElem? (i := 4) rfl))) Via.refl e0 S0 (g := (mkF m 0 #[.val (.int p1)] [])) rfl (hb hby own_d1_0)
  have G1 : Goes p e below s₁ (entryFrame m #[(.int p1)] 1) T1 (mkF m 3 #[.val (.int p1)] [(.int z)]) := fun _ k => G0 _ (st1 _ k)
  have G2 : Goes p e below s₁ (entryFrame m #[(.int p1)] 1) T1 (mkF m 6 #[.val (.int p1)] []) := fun _ k => G1 _ (by
      show Steps p.tables e below (T1.setTop (mkF m 3 #[.val (.int p1)] [(.int z)])) _
      refine XS.ifNo X1.here hx rfl (hb hby own_d1_3) rfl ((if0 _ _).trans (feq hz).1) ?_
      exact k)
  have G3 : Goes p e below s₁ (entryFrame m #[(.int p1)] 1) T1 (mkF m 7 #[.val (.int p1)] [(.int p1)]) := fun _ k => G2 _ (by
      show Steps p.tables e below (T1.setTop (mkF m 6 #[.val (.int p1)] [])) _
      refine XS.iloadN X1.here hx rfl (hb hby own_d1_6) rfl ?_
      exact k)
  obtain ⟨_, _, ⟨T4, L4, k4, n4⟩, -, X4, ⟨Lc4, hQ4, l4, y4, z4⟩, st4⟩ := Jvm.LawKit.callS X1 hx (y := (⟨"java/lang/StringLatin1", "canEncode", "(C)Z"⟩ : MethodName)) hown (mvT hZ (hw _ (List.mem_of_getElem? (i := 5) rfl))) (mvT hZ (hw _ (List.mem_of_getElem? (i := 6) rfl))) (mvT hZ (hw _ (List.mem_of_getElem? (i := 7) rfl))) (mvT hZ (hw _ (List.mem_of_getElem? (i := 8) rfl))) (by decide) (backOf (W := 0) (rm2 l Z a0 hw [] p1 h0 n0 Z0 hp) hZ (hw _ (List.mem_of_getElem? (i := 8) rfl)) (hw _ (List.mem_of_getElem? (i := 7) rfl)) (by decide) (by decide)) (g := (mkF m 7 #[.val (.int p1)] [(.int p1)])) rfl (by rw [hml]; rfl) (argsL := [(.int p1)]) (rest := []) (lenOf own_pd0 rfl) rfl (by show 2 * 0 + _ ≤ _; exact Nat.le_of_eq rfl) (hb hby own_d1_7) (fun _ _ => ⟨rfl, e1, (by decide : 0 + 0 ≤ _), (by decide : 0 + 0 ≤ _)⟩)
  dsimp only [Pt.U, Pt.locs, Pt.cells, Pt.slots] at X4 l4 y4 z4 st4 hQ4
  subst l4 y4 z4
  obtain ⟨rfl, N4q, hh4⟩ := hQ4
  have N4 := Fr.app N0 N4q
  have G4 : Goes p e below s₁ (entryFrame m #[(.int p1)] 1) T4 (mkF m 10 #[.val (.int p1)] [(.int (1 : Int32))]) := fun _ k => G3 _ (st4 _ k)
  have G5 : Goes p e below s₁ (entryFrame m #[(.int p1)] 1) T4 (mkF m 13 #[.val (.int p1)] []) := fun _ k => G4 _ (by
      show Steps p.tables e below (T4.setTop (mkF m 10 #[.val (.int p1)] [(.int (1 : Int32))])) _
      refine XS.ifNo X4.here hx rfl (hb hby own_d1_10) rfl ((if0 _ _).trans (feq (by decide : ¬ ((1 : Int32) = (0 : Int32)))).1) ?_
      exact k)
  obtain ⟨T6, h6, X6, e6, E6, A6, D6, -, st6⟩ := newO X4 hx hZ hown (hw _ (List.mem_of_getElem? (i := 9) rfl)) (hw _ (List.mem_of_getElem? (i := 10) rfl)) (hw _ (List.mem_of_getElem? (i := 2) rfl)) hh4 (g := (mkF m 13 #[.val (.int p1)] [])) rfl (hb hby own_d1_13) (by decide) (by decide)
  obtain ⟨b6, g6⟩ : ∃ z, z = h0.size := ⟨_, rfl⟩
  rw [← g6] at A6 D6 st6
  have Fvalue_6 : Fld Z h6 b6 "java/lang/String" "value" "[B" .null := D6 (Or.inr (hw _ (List.mem_of_getElem? (i := 23) rfl))) (ty := (.array .byte)) (by decide)
  have Fcoder_6 : Fld Z h6 b6 "java/lang/String" "coder" "B" (.int (0 : Int32)) := D6 (Or.inr (hw _ (List.mem_of_getElem? (i := 25) rfl))) (ty := .byte) (by decide)
  have G6 : Goes p e below s₁ (entryFrame m #[(.int p1)] 1) T6 (mkF m 16 #[.val (.int p1)] [(.ref b6)]) := fun _ k => G5 _ (st6 _ k)
  have gb : n0 ≤ b6 := Nat.le_trans Z0 (Nat.le_of_eq g6.symm)
  have sz : h0.size ≤ b6 := Nat.le_of_eq g6.symm
  have Zn : n0 ≤ h6.size := Nat.le_trans Z0 E6.1
  have G7 : Goes p e below s₁ (entryFrame m #[(.int p1)] 1) T6 (mkF m 18 #[.val (.int p1)] [(.int p1), (.ref b6), (.ref b6)]) := fun _ k => G6 _ (by
      show Steps p.tables e below (T6.setTop (mkF m 16 #[.val (.int p1)] [(.ref b6)])) _
      refine XS.dup X6.here hx rfl (hb hby own_d1_16) rfl rfl ?_
      show Steps p.tables e below (T6.setTop (mkF m 17 #[.val (.int p1)] [(.ref b6), (.ref b6)])) _
      refine XS.iloadN X6.here hx rfl (hb hby own_d1_17) rfl ?_
      exact k)
  obtain ⟨_, _, ⟨T8, L8, k8, n8⟩, -, X8, ⟨Lc8, hQ8, l8, y8, z8⟩, st8⟩ := Jvm.LawKit.callS X6 hx (y := (⟨"java/lang/StringLatin1", "toBytes", "(C)[B"⟩ : MethodName)) hown (mvT hZ (hw _ (List.mem_of_getElem? (i := 11) rfl))) (mvT hZ (hw _ (List.mem_of_getElem? (i := 12) rfl))) (mvT hZ (hw _ (List.mem_of_getElem? (i := 7) rfl))) (mvT hZ (hw _ (List.mem_of_getElem? (i := 13) rfl))) (by decide) (backOf (W := 2) (rm3 l Z a0 hw [] p1 h6 n0 Zn) hZ (hw _ (List.mem_of_getElem? (i := 13) rfl)) (hw _ (List.mem_of_getElem? (i := 7) rfl)) (by decide) (by decide)) (g := (mkF m 18 #[.val (.int p1)] [(.int p1), (.ref b6), (.ref b6)])) rfl (by rw [hml]; rfl) (argsL := [(.int p1)]) (rest := [(.ref b6), (.ref b6)]) (lenOf own_pd1 rfl) rfl (by show 2 * 0 + _ ≤ _; exact Nat.le_of_eq rfl) (hb hby own_d1_18) (fun _ _ => ⟨rfl, e6, (by decide : 1 + 1 ≤ _), (by decide : 4 + 1 ≤ _)⟩)
  dsimp only [Pt.U, Pt.locs, Pt.cells, Pt.slots] at X8 l8 y8 z8 st8 hQ8
  subst l8 y8 z8
  obtain ⟨t8, rfl, N8q, K8⟩ := hQ8
  have N8 := Fr.app N4 N8q
  have G8 : Goes p e below s₁ (entryFrame m #[(.int p1)] 1) T8 (mkF m 21 #[.val (.int p1)] [(.ref t8), (.ref b6), (.ref b6)]) := fun _ k => G7 _ (st8 _ k)
  have Zm : n0 ≤ T8.heap.size := Nat.le_trans Zn K8.1
  have G9 : Goes p e below s₁ (entryFrame m #[(.int p1)] 1) T8 (mkF m 22 #[.val (.int p1)] [(.int (0 : Int32)), (.ref t8), (.ref b6), (.ref b6)]) := fun _ k => G8 _ (by
      show Steps p.tables e below (T8.setTop (mkF m 21 #[.val (.int p1)] [(.ref t8), (.ref b6), (.ref b6)])) _
      refine XS.iconst X8.here hx rfl (hb hby own_d1_21) ?_
      exact k)
  obtain ⟨_, _, ⟨T10, L10, k10, n10⟩, -, X10, ⟨Lc10, hQ10, l10, y10, z10⟩, st10⟩ := X8.specialBack hx (y := (⟨"java/lang/String", "<init>", "([BB)V"⟩ : MethodName)) rfl hown (mvT hZ (hw _ (List.mem_of_getElem? (i := 15) rfl))) (mvT hZ (hw _ (List.mem_of_getElem? (i := 16) rfl))) (mvT hZ (hw _ (List.mem_of_getElem? (i := 18) rfl))) (by decide) (backOf (W := 1) (rm4 l Z a0 hw [] b6 t8 (0 : Int32) T8.heap n0 Zm (A6.keep K8) (Fvalue_6.keep K8 nin0) (Fcoder_6.keep K8 nin0) gb) hZ (hw _ (List.mem_of_getElem? (i := 18) rfl)) (hw _ (List.mem_of_getElem? (i := 2) rfl)) (by decide) (by decide)) (g := (mkF m 22 #[.val (.int p1)] [(.int (0 : Int32)), (.ref t8), (.ref b6), (.ref b6)])) rfl (by rw [hml]; rfl) (Steps.refl _) (a := b6) (argsL := [(.ref t8), (.int (0 : Int32))]) (rest := [(.ref b6)]) (lenOf own_pd2 rfl) rfl (by show 2 * 0 + _ ≤ _; exact Nat.le_of_eq rfl) (hb hby own_d1_22) (fun _ _ => ⟨rfl, rfl, (by decide : 2 + 0 ≤ _), (by decide : 5 + 0 ≤ _)⟩)
  dsimp only [Pt.U, Pt.locs, Pt.cells, Pt.slots] at X10 l10 y10 z10 st10 hQ10
  subst l10 y10 z10
  obtain ⟨rfl, N10q, K10⟩ := hQ10
  have N10 := Fr.app N8 N10q
  have G10 : Goes p e below s₁ (entryFrame m #[(.int p1)] 1) T10 (mkF m 25 #[.val (.int p1)] [(.ref b6)]) := fun _ k => G9 _ (st10.trans k)
  have Kp : Keep h0 T10.heap [] := Keep.trans (Keep.trans ((Keep.refl h0 []).ext E6) K8 all0) K10 (allS (Or.inr sz) all0)
  obtain ⟨fs, hr, hrun, hended, hW, hsame⟩ := X10.leave (v := some (.ref b6)) (fun h => by rw [Bd.returns] at h; cases h)
  refine ⟨_, _, G10 _ (by
      show Steps p.tables e below (T10.setTop (mkF m 25 #[.val (.int p1)] [(.ref b6)])) _
      jvm_step X10.here [X10.here.top, hx, (hb hby own_d1_25), X10.method', Bd.returns, Value.isRef, FieldType.isReference]
      first | (intro acts; rw [hr _ acts rfl rfl rfl]) | rw [hr _ _ rfl rfl rfl]
      exact Steps.refl _), hrun, hended, _, _, rfl, ?_, ⟨_, rfl⟩, hW, hsame.mono (by decide) (by decide)⟩
  show Q1 h0 n0 _ T10.heap _
  exact ⟨_, rfl, N10, Kp⟩
theorem own_d6_0 : decode prog_30_method_1_code 0 = .ok (.aload_n 0, 1) := by decide +kernel
theorem own_d6_1 : decode prog_30_method_1_code 1 = .ok (.invokespecial 1, 3) := by decide +kernel
theorem own_d6_4 : decode prog_30_method_1_code 4 = .ok (.return_, 1) := by decide +kernel
set_option maxRecDepth 65536 in
set_option maxHeartbeats 40000000 in
theorem rm6 (l : Launch) (Z : State) (a0 : Array Value) (hw : ∀ d ∈ tables_1, d.before a0 Z = true) (ws : List Jvm.Cond) (a1 : Addr) (h0 : Heap) (n0 : Nat) (Z0 : n0 ≤ h0.size)  :
    MetFree l (⟨"com/example/fruition/fruition/core/model/Biblio", "<init>", "()V"⟩ : MethodName) (head1 (Jvm.Cond.code (⟨"com/example/fruition/fruition/core/model/Biblio", "<init>", "()V"⟩ : MethodName) prog_30_method_1_code 1 none :: ws) ({ frames := 1, cells := 0, slots := 0, locals := 12 } : Room)) (fun a U => a = #[(.ref a1)] ∧ Z.Warmed39 U.vm ∧ U.heap = h0) (fun _ _ _ _ _ => True) (fun _ U oc U' => ∃ v L, oc = .returned v ∧ Q6 h0 n0 v U'.heap L ∧ FrameEnd U oc U' L ({ frames := 1, cells := 0, slots := 0, locals := 12 } : Room).cells ({ frames := 1, cells := 0, slots := 0, locals := 12 } : Room).slots) := by
  refine MetFree.of_bodySF (plainFor_of_name own_pn2) hisR ?_
  intro p e s m args below meth c s₁ Bd hml0 hP hK
  obtain ⟨rfl, hZ, hh⟩ := hP
  have hx := Bd.exec
  have hby := Bd.bytes
  have hml : c.maxLocals = 1 := hml0
  have hown : s.vm.findClass "com/example/fruition/fruition/core/model/Biblio" = some m.cls := findClass_of_methodNamed Bd.named
  have hnm := (name_of_methodNamed Bd.named Bd.method).1
  have X0 : Stand p l e ({ frames := 1, cells := 0, slots := 0, locals := 12 } : Room) s m #[(.ref a1)] below meth c s₁ [] 0 0 := Stand.of_body Bd
  have e0 : s₁.heap = h0 := by rw [← hh, Bd.state]; rfl
  have N0 := Fr.nil n0
  have G0 : Goes p e below s₁ (entryFrame m #[(.ref a1)] 1) s₁ (mkF m 0 #[.val (.ref a1)] []) := fun _ k => castTop (by first | (simp [entryFrame, mkF, argsToLocals, Value.category]; done) | rfl : (entryFrame m #[(.ref a1)] 1) = mkF m 0 #[.val (.ref a1)] []) k
  have G1 : Goes p e below s₁ (entryFrame m #[(.ref a1)] 1) s₁ (mkF m 1 #[.val (.ref a1)] [(.ref a1)]) := fun _ k => G0 _ (by
      show Steps p.tables e below (s₁.setTop (mkF m 0 #[.val (.ref a1)] [])) _
      refine XS.aloadN X0.here hx rfl (hb hby own_d6_0) rfl rfl ?_
      exact k)
  obtain ⟨T2, X2, e2, st2⟩ := initO X0 hx hZ hown (hw _ (List.mem_of_getElem? (i := 32) rfl)) (hw _ (List.mem_of_getElem? (i := 20) rfl)) (hw _ (List.mem_of_getElem? (i := 21) rfl)) e0 (g := (mkF m 1 #[.val (.ref a1)] [(.ref a1)])) rfl (by rw [hml]; rfl) rfl (hb hby own_d6_1) (by decide) (W := 0) (by show 2 * 0 + _ ≤ _; exact Nat.le_of_eq rfl) (by decide)
  have G2 : Goes p e below s₁ (entryFrame m #[(.ref a1)] 1) T2 (mkF m 4 #[.val (.ref a1)] []) := fun _ k => G1 _ (st2 _ k)
  obtain ⟨fs, hr, hrun, hended, hW, hsame⟩ := X2.leave (v := none) (fun _ => rfl)
  refine ⟨_, _, G2 _ (X2.returnOut hx Bd.returns (hb hby own_d6_4) hr), hrun, hended, _, _, rfl, ?_, ⟨_, rfl⟩, hW, hsame.mono (by decide) (by decide)⟩
  show Q6 h0 n0 _ T2.heap _
  rw [e2]
  exact ⟨rfl, N0, rfl⟩
theorem own_d7_0 : decode method_2_code 0 = .ok (.iload_n 0, 1) := by decide +kernel
theorem own_d7_1 : decode method_2_code 1 = .ok (.iload_n 1, 1) := by decide +kernel
theorem own_d7_2 : decode method_2_code 2 = .ok (.iushr, 1) := by decide +kernel
theorem own_d7_3 : decode method_2_code 3 = .ok (.iconst 1, 1) := by decide +kernel
theorem own_d7_4 : decode method_2_code 4 = .ok (.iand, 1) := by decide +kernel
theorem own_d7_5 : decode method_2_code 5 = .ok (.ifCond .eq 7, 3) := by decide +kernel
theorem own_d7_8 : decode method_2_code 8 = .ok (.aload_n 2, 1) := by decide +kernel
theorem own_d7_9 : decode method_2_code 9 = .ok (.goto 4, 3) := by decide +kernel
theorem own_d7_12 : decode method_2_code 12 = .ok (.aconst_null, 1) := by decide +kernel
theorem own_d7_13 : decode method_2_code 13 = .ok (.areturn, 1) := by decide +kernel
set_option maxRecDepth 65536 in
set_option maxHeartbeats 40000000 in
theorem rm7 (l : Launch) (Z : State) (a0 : Array Value) (hw : ∀ d ∈ tables_1, d.before a0 Z = true) (ws : List Jvm.Cond) (p1 p2 : Int32) (a3 : Addr) (h0 : Heap) (n0 : Nat) (Z0 : n0 ≤ h0.size)  :
    MetFree l (⟨"com/example/fruition/fruition/core/model/BiblioIsEmptyPinLaw", "pick", "(IILjava/lang/String;)Ljava/lang/String;"⟩ : MethodName) (head1 (Jvm.Cond.code (⟨"com/example/fruition/fruition/core/model/BiblioIsEmptyPinLaw", "pick", "(IILjava/lang/String;)Ljava/lang/String;"⟩ : MethodName) method_2_code 3 (some (.object "java/lang/String")) :: ws) ({ frames := 0, cells := 0, slots := 0, locals := 0 } : Room)) (fun a U => a = #[(.int p1), (.int p2), (.ref a3)] ∧ Z.Warmed39 U.vm ∧ U.heap = h0) (fun _ _ _ _ _ => True) (fun _ U oc U' => ∃ v L, oc = .returned v ∧ Q7 p1 p2 a3 h0 n0 v U'.heap L ∧ FrameEnd U oc U' L ({ frames := 0, cells := 0, slots := 0, locals := 0 } : Room).cells ({ frames := 0, cells := 0, slots := 0, locals := 0 } : Room).slots) := by
  refine MetFree.of_bodySF (plainFor_of_name own_pn3) hisR ?_
  intro p e s m args below meth c s₁ Bd hml0 hP hK
  obtain ⟨rfl, hZ, hh⟩ := hP
  have hx := Bd.exec
  have hby := Bd.bytes
  have hml : c.maxLocals = 3 := hml0
  have hown : s.vm.findClass "com/example/fruition/fruition/core/model/BiblioIsEmptyPinLaw" = some m.cls := findClass_of_methodNamed Bd.named
  have hnm := (name_of_methodNamed Bd.named Bd.method).1
  have X0 : Stand p l e ({ frames := 0, cells := 0, slots := 0, locals := 0 } : Room) s m #[(.int p1), (.int p2), (.ref a3)] below meth c s₁ [] 0 0 := Stand.of_body Bd
  have e0 : s₁.heap = h0 := by rw [← hh, Bd.state]; rfl
  have N0 := Fr.nil n0
  have G0 : Goes p e below s₁ (entryFrame m #[(.int p1), (.int p2), (.ref a3)] 3) s₁ (mkF m 0 #[.val (.int p1), .val (.int p2), .val (.ref a3)] []) := fun _ k => castTop (by first | (simp [entryFrame, mkF, argsToLocals, Value.category]; done) | rfl : (entryFrame m #[(.int p1), (.int p2), (.ref a3)] 3) = mkF m 0 #[.val (.int p1), .val (.int p2), .val (.ref a3)] []) k
  have G1 : Goes p e below s₁ (entryFrame m #[(.int p1), (.int p2), (.ref a3)] 3) s₁ (mkF m 5 #[.val (.int p1), .val (.int p2), .val (.ref a3)] [(.int (((p1.toUInt32 >>> (p2 &&& 31).toUInt32).toInt32) &&& (1 : Int32)))]) := fun _ k => G0 _ (by
      show Steps p.tables e below (s₁.setTop (mkF m 0 #[.val (.int p1), .val (.int p2), .val (.ref a3)] [])) _
      refine XS.iloadN X0.here hx rfl (hb hby own_d7_0) rfl ?_
      show Steps p.tables e below (s₁.setTop (mkF m 1 #[.val (.int p1), .val (.int p2), .val (.ref a3)] [(.int p1)])) _
      refine XS.iloadN X0.here hx rfl (hb hby own_d7_1) rfl ?_
      show Steps p.tables e below (s₁.setTop (mkF m 2 #[.val (.int p1), .val (.int p2), .val (.ref a3)] [(.int p2), (.int p1)])) _
      refine XS.iushr X0.here hx rfl (hb hby own_d7_2) rfl ?_
      show Steps p.tables e below (s₁.setTop (mkF m 3 #[.val (.int p1), .val (.int p2), .val (.ref a3)] [(.int ((p1.toUInt32 >>> (p2 &&& 31).toUInt32).toInt32))])) _
      refine XS.iconst X0.here hx rfl (hb hby own_d7_3) ?_
      show Steps p.tables e below (s₁.setTop (mkF m 4 #[.val (.int p1), .val (.int p2), .val (.ref a3)] [(.int (1 : Int32)), (.int ((p1.toUInt32 >>> (p2 &&& 31).toUInt32).toInt32))])) _
      refine XS.iand X0.here hx rfl (hb hby own_d7_4) rfl ?_
      exact k)
  by_cases h1 : (((p1.toUInt32 >>> (p2 &&& 31).toUInt32).toInt32) &&& (1 : Int32)) = (0 : Int32)
  · have G2 : Goes p e below s₁ (entryFrame m #[(.int p1), (.int p2), (.ref a3)] 3) s₁ (mkF m 12 #[.val (.int p1), .val (.int p2), .val (.ref a3)] []) := fun _ k => G1 _ (by
        show Steps p.tables e below (s₁.setTop (mkF m 5 #[.val (.int p1), .val (.int p2), .val (.ref a3)] [(.int (((p1.toUInt32 >>> (p2 &&& 31).toUInt32).toInt32) &&& (1 : Int32)))])) _
        refine XS.ifYes X0.here hx rfl (pc0 := 5) (pc' := 12) rfl (hb hby own_d7_5) rfl ((if0 _ _).trans (teq h1).1) (by decide) (by decide) ?_
        exact k)
    have G3 : Goes p e below s₁ (entryFrame m #[(.int p1), (.int p2), (.ref a3)] 3) s₁ (mkF m 13 #[.val (.int p1), .val (.int p2), .val (.ref a3)] [.null]) := fun _ k => G2 _ (by
        show Steps p.tables e below (s₁.setTop (mkF m 12 #[.val (.int p1), .val (.int p2), .val (.ref a3)] [])) _
        refine XS.aconstNull X0.here hx rfl (hb hby own_d7_12) ?_
        exact k)
    obtain ⟨fs, hr, hrun, hended, hW, hsame⟩ := X0.leave (v := some .null) (fun h => by rw [Bd.returns] at h; cases h)
    refine ⟨_, _, G3 _ (by
        show Steps p.tables e below (s₁.setTop (mkF m 13 #[.val (.int p1), .val (.int p2), .val (.ref a3)] [.null])) _
        jvm_step X0.here [X0.here.top, hx, (hb hby own_d7_13), X0.method', Bd.returns, Value.isRef, FieldType.isReference]
        first | (intro acts; rw [hr _ acts rfl rfl rfl]) | rw [hr _ _ rfl rfl rfl]
        exact Steps.refl _), hrun, hended, _, _, rfl, ?_, ⟨_, rfl⟩, hW, hsame.mono (by decide) (by decide)⟩
    show Q7 p1 p2 a3 h0 n0 _ s₁.heap _
    rw [e0]
    exact ⟨by rw [own_pk, if_pos h1], N0, rfl⟩
  · have G4 : Goes p e below s₁ (entryFrame m #[(.int p1), (.int p2), (.ref a3)] 3) s₁ (mkF m 8 #[.val (.int p1), .val (.int p2), .val (.ref a3)] []) := fun _ k => G1 _ (by
        show Steps p.tables e below (s₁.setTop (mkF m 5 #[.val (.int p1), .val (.int p2), .val (.ref a3)] [(.int (((p1.toUInt32 >>> (p2 &&& 31).toUInt32).toInt32) &&& (1 : Int32)))])) _
        refine XS.ifNo X0.here hx rfl (hb hby own_d7_5) rfl ((if0 _ _).trans (feq h1).1) ?_
        exact k)
    have G5 : Goes p e below s₁ (entryFrame m #[(.int p1), (.int p2), (.ref a3)] 3) s₁ (mkF m 13 #[.val (.int p1), .val (.int p2), .val (.ref a3)] [(.ref a3)]) := fun _ k => G4 _ (by
        show Steps p.tables e below (s₁.setTop (mkF m 8 #[.val (.int p1), .val (.int p2), .val (.ref a3)] [])) _
        refine XS.aloadN X0.here hx rfl (hb hby own_d7_8) rfl rfl ?_
        show Steps p.tables e below (s₁.setTop (mkF m 9 #[.val (.int p1), .val (.int p2), .val (.ref a3)] [(.ref a3)])) _
        refine XS.goto X0.here hx rfl (pc0 := 9) (pc' := 13) rfl (hb hby own_d7_9) (by decide) (by decide) ?_
        exact k)
    obtain ⟨fs, hr, hrun, hended, hW, hsame⟩ := X0.leave (v := some (.ref a3)) (fun h => by rw [Bd.returns] at h; cases h)
    refine ⟨_, _, G5 _ (by
        show Steps p.tables e below (s₁.setTop (mkF m 13 #[.val (.int p1), .val (.int p2), .val (.ref a3)] [(.ref a3)])) _
        jvm_step X0.here [X0.here.top, hx, (hb hby own_d7_13), X0.method', Bd.returns, Value.isRef, FieldType.isReference]
        first | (intro acts; rw [hr _ acts rfl rfl rfl]) | rw [hr _ _ rfl rfl rfl]
        exact Steps.refl _), hrun, hended, _, _, rfl, ?_, ⟨_, rfl⟩, hW, hsame.mono (by decide) (by decide)⟩
    show Q7 p1 p2 a3 h0 n0 _ s₁.heap _
    rw [e0]
    exact ⟨by rw [own_pk, if_neg h1], N0, rfl⟩
theorem own_d8_0 : decode prog_30_method_3_code 0 = .ok (.aload_n 0, 1) := by decide +kernel
theorem own_d8_1 : decode prog_30_method_3_code 1 = .ok (.aload_n 1, 1) := by decide +kernel
theorem own_d8_2 : decode prog_30_method_3_code 2 = .ok (.putfield 7, 3) := by decide +kernel
theorem own_d8_5 : decode prog_30_method_3_code 5 = .ok (.return_, 1) := by decide +kernel
set_option maxRecDepth 65536 in
set_option maxHeartbeats 40000000 in
theorem rm8n (l : Launch) (Z : State) (a0 : Array Value) (hw : ∀ d ∈ tables_1, d.before a0 Z = true) (ws : List Jvm.Cond) (a1 : Addr) (u1 u2 u3 u4 u5 u6 u7 u8 : Value) (h0 : Heap) (n0 : Nat) (Z0 : n0 ≤ h0.size) (B0 : Bib Z h0 a1 u1 u2 u3 u4 u5 u6 u7 u8) (ga : n0 ≤ a1) :
    MetFree l (⟨"com/example/fruition/fruition/core/model/Biblio", "setIssue", "(Ljava/lang/String;)V"⟩ : MethodName) (head1 (Jvm.Cond.code (⟨"com/example/fruition/fruition/core/model/Biblio", "setIssue", "(Ljava/lang/String;)V"⟩ : MethodName) prog_30_method_3_code 2 none :: ws) ({ frames := 0, cells := 0, slots := 0, locals := 0 } : Room)) (fun a U => a = #[(.ref a1), .null] ∧ Z.Warmed39 U.vm ∧ U.heap = h0) (fun _ _ _ _ _ => True) (fun _ U oc U' => ∃ v L, oc = .returned v ∧ QB Z a1 .null u2 u3 u4 u5 u6 u7 u8 h0 n0 v U'.heap L ∧ FrameEnd U oc U' L ({ frames := 0, cells := 0, slots := 0, locals := 0 } : Room).cells ({ frames := 0, cells := 0, slots := 0, locals := 0 } : Room).slots) := by
  refine MetFree.of_bodySF (plainFor_of_name own_pn2) hisR ?_
  intro p e s m args below meth c s₁ Bd hml0 hP hK
  obtain ⟨rfl, hZ, hh⟩ := hP
  have hx := Bd.exec
  have hby := Bd.bytes
  have hml : c.maxLocals = 2 := hml0
  have hown : s.vm.findClass "com/example/fruition/fruition/core/model/Biblio" = some m.cls := findClass_of_methodNamed Bd.named
  have hnm := (name_of_methodNamed Bd.named Bd.method).1
  have X0 : Stand p l e ({ frames := 0, cells := 0, slots := 0, locals := 0 } : Room) s m #[(.ref a1), .null] below meth c s₁ [] 0 0 := Stand.of_body Bd
  have e0 : s₁.heap = h0 := by rw [← hh, Bd.state]; rfl
  have N0 := Fr.nil n0
  have G0 : Goes p e below s₁ (entryFrame m #[(.ref a1), .null] 2) s₁ (mkF m 0 #[.val (.ref a1), .val .null] []) := fun _ k => castTop (by first | (simp [entryFrame, mkF, argsToLocals, Value.category]; done) | rfl : (entryFrame m #[(.ref a1), .null] 2) = mkF m 0 #[.val (.ref a1), .val .null] []) k
  have Zn := Nat.le_refl h0.size
  have Bk1 := B0
  obtain ⟨Ex1, F0_1, F1_1, F2_1, F3_1, F4_1, F5_1, F6_1, F7_1⟩ := Bk1
  have G2 : Goes p e below s₁ (entryFrame m #[(.ref a1), .null] 2) s₁ (mkF m 2 #[.val (.ref a1), .val .null] [.null, (.ref a1)]) := fun _ k => G0 _ (by
      show Steps p.tables e below (s₁.setTop (mkF m 0 #[.val (.ref a1), .val .null] [])) _
      refine XS.aloadN X0.here hx rfl (hb hby own_d8_0) rfl rfl ?_
      show Steps p.tables e below (s₁.setTop (mkF m 1 #[.val (.ref a1), .val .null] [(.ref a1)])) _
      refine XS.aloadN X0.here hx rfl (hb hby own_d8_1) rfl rfl ?_
      exact k)
  obtain ⟨T3, h3, X3, e3, W3, st3⟩ := putF X0 hx hZ hown (host := "") (Or.inl (hw _ (List.mem_of_getElem? (i := 42) rfl))) Via.refl e0 F0_1 Ex1 (Or.inl (hw _ (List.mem_of_getElem? (i := 43) rfl))) (hw _ (List.mem_of_getElem? (i := 27) rfl)) (ty := (.object "java/lang/String")) (by decide) rfl rfl (g := (mkF m 2 #[.val (.ref a1), .val .null] [.null, (.ref a1)])) rfl rfl (hb hby own_d8_2)
  have G3 : Goes p e below s₁ (entryFrame m #[(.ref a1), .null] 2) T3 (mkF m 5 #[.val (.ref a1), .val .null] []) := fun _ k => G2 _ (st3 _ k)
  have N3 := Fr.snoc X3 N0 ga
  have Zn : h0.size ≤ h3.size := Nat.le_trans Zn (Nat.le_of_eq W3.size.symm)
  have B3 := own_bib0 hw B0 W3
  obtain ⟨fs, hr, hrun, hended, hW, hsame⟩ := X3.leave (v := none) (fun _ => rfl)
  refine ⟨_, _, G3 _ (X3.returnOut hx Bd.returns (hb hby own_d8_5) hr), hrun, hended, _, _, rfl, ?_, ⟨_, rfl⟩, hW, hsame.mono (by decide) (by decide)⟩
  show QB Z a1 .null u2 u3 u4 u5 u6 u7 u8 h0 n0 _ T3.heap _
  rw [e3]
  exact ⟨rfl, N3, Zn, B3⟩
set_option maxRecDepth 65536 in
set_option maxHeartbeats 40000000 in
theorem rm8r (l : Launch) (Z : State) (a0 : Array Value) (hw : ∀ d ∈ tables_1, d.before a0 Z = true) (ws : List Jvm.Cond) (a1 : Addr) (u1 u2 u3 u4 u5 u6 u7 u8 : Value) (rv : Addr) (h0 : Heap) (n0 : Nat) (Z0 : n0 ≤ h0.size) (B0 : Bib Z h0 a1 u1 u2 u3 u4 u5 u6 u7 u8) (ga : n0 ≤ a1) :
    MetFree l (⟨"com/example/fruition/fruition/core/model/Biblio", "setIssue", "(Ljava/lang/String;)V"⟩ : MethodName) (head1 (Jvm.Cond.code (⟨"com/example/fruition/fruition/core/model/Biblio", "setIssue", "(Ljava/lang/String;)V"⟩ : MethodName) prog_30_method_3_code 2 none :: ws) ({ frames := 0, cells := 0, slots := 0, locals := 0 } : Room)) (fun a U => a = #[(.ref a1), (.ref rv)] ∧ Z.Warmed39 U.vm ∧ U.heap = h0) (fun _ _ _ _ _ => True) (fun _ U oc U' => ∃ v L, oc = .returned v ∧ QB Z a1 (.ref rv) u2 u3 u4 u5 u6 u7 u8 h0 n0 v U'.heap L ∧ FrameEnd U oc U' L ({ frames := 0, cells := 0, slots := 0, locals := 0 } : Room).cells ({ frames := 0, cells := 0, slots := 0, locals := 0 } : Room).slots) := by
  refine MetFree.of_bodySF (plainFor_of_name own_pn2) hisR ?_
  intro p e s m args below meth c s₁ Bd hml0 hP hK
  obtain ⟨rfl, hZ, hh⟩ := hP
  have hx := Bd.exec
  have hby := Bd.bytes
  have hml : c.maxLocals = 2 := hml0
  have hown : s.vm.findClass "com/example/fruition/fruition/core/model/Biblio" = some m.cls := findClass_of_methodNamed Bd.named
  have hnm := (name_of_methodNamed Bd.named Bd.method).1
  have X0 : Stand p l e ({ frames := 0, cells := 0, slots := 0, locals := 0 } : Room) s m #[(.ref a1), (.ref rv)] below meth c s₁ [] 0 0 := Stand.of_body Bd
  have e0 : s₁.heap = h0 := by rw [← hh, Bd.state]; rfl
  have N0 := Fr.nil n0
  have G0 : Goes p e below s₁ (entryFrame m #[(.ref a1), (.ref rv)] 2) s₁ (mkF m 0 #[.val (.ref a1), .val (.ref rv)] []) := fun _ k => castTop (by first | (simp [entryFrame, mkF, argsToLocals, Value.category]; done) | rfl : (entryFrame m #[(.ref a1), (.ref rv)] 2) = mkF m 0 #[.val (.ref a1), .val (.ref rv)] []) k
  have Zn := Nat.le_refl h0.size
  have Bk1 := B0
  obtain ⟨Ex1, F0_1, F1_1, F2_1, F3_1, F4_1, F5_1, F6_1, F7_1⟩ := Bk1
  have G2 : Goes p e below s₁ (entryFrame m #[(.ref a1), (.ref rv)] 2) s₁ (mkF m 2 #[.val (.ref a1), .val (.ref rv)] [(.ref rv), (.ref a1)]) := fun _ k => G0 _ (by
      show Steps p.tables e below (s₁.setTop (mkF m 0 #[.val (.ref a1), .val (.ref rv)] [])) _
      refine XS.aloadN X0.here hx rfl (hb hby own_d8_0) rfl rfl ?_
      show Steps p.tables e below (s₁.setTop (mkF m 1 #[.val (.ref a1), .val (.ref rv)] [(.ref a1)])) _
      refine XS.aloadN X0.here hx rfl (hb hby own_d8_1) rfl rfl ?_
      exact k)
  obtain ⟨T3, h3, X3, e3, W3, st3⟩ := putF X0 hx hZ hown (host := "") (Or.inl (hw _ (List.mem_of_getElem? (i := 42) rfl))) Via.refl e0 F0_1 Ex1 (Or.inl (hw _ (List.mem_of_getElem? (i := 43) rfl))) (hw _ (List.mem_of_getElem? (i := 27) rfl)) (ty := (.object "java/lang/String")) (by decide) rfl rfl (g := (mkF m 2 #[.val (.ref a1), .val (.ref rv)] [(.ref rv), (.ref a1)])) rfl rfl (hb hby own_d8_2)
  have G3 : Goes p e below s₁ (entryFrame m #[(.ref a1), (.ref rv)] 2) T3 (mkF m 5 #[.val (.ref a1), .val (.ref rv)] []) := fun _ k => G2 _ (st3 _ k)
  have N3 := Fr.snoc X3 N0 ga
  have Zn : h0.size ≤ h3.size := Nat.le_trans Zn (Nat.le_of_eq W3.size.symm)
  have B3 := own_bib0 hw B0 W3
  obtain ⟨fs, hr, hrun, hended, hW, hsame⟩ := X3.leave (v := none) (fun _ => rfl)
  refine ⟨_, _, G3 _ (X3.returnOut hx Bd.returns (hb hby own_d8_5) hr), hrun, hended, _, _, rfl, ?_, ⟨_, rfl⟩, hW, hsame.mono (by decide) (by decide)⟩
  show QB Z a1 (.ref rv) u2 u3 u4 u5 u6 u7 u8 h0 n0 _ T3.heap _
  rw [e3]
  exact ⟨rfl, N3, Zn, B3⟩
theorem rm8 (l : Launch) (Z : State) (a0 : Array Value) (hw : ∀ d ∈ tables_1, d.before a0 Z = true) (ws : List Jvm.Cond) (a1 : Addr) (u1 u2 u3 u4 u5 u6 u7 u8 v : Value) (h0 : Heap) (n0 : Nat) (Z0 : n0 ≤ h0.size) (B0 : Bib Z h0 a1 u1 u2 u3 u4 u5 u6 u7 u8) (ga : n0 ≤ a1) (hv : v.isRef = true) :
    MetFree l (⟨"com/example/fruition/fruition/core/model/Biblio", "setIssue", "(Ljava/lang/String;)V"⟩ : MethodName) (head1 (Jvm.Cond.code (⟨"com/example/fruition/fruition/core/model/Biblio", "setIssue", "(Ljava/lang/String;)V"⟩ : MethodName) prog_30_method_3_code 2 none :: ws) ({ frames := 0, cells := 0, slots := 0, locals := 0 } : Room)) (fun a U => a = #[(.ref a1), v] ∧ Z.Warmed39 U.vm ∧ U.heap = h0) (fun _ _ _ _ _ => True) (fun _ U o U' => ∃ w L, o = .returned w ∧ QB Z a1 v u2 u3 u4 u5 u6 u7 u8 h0 n0 w U'.heap L ∧ FrameEnd U o U' L ({ frames := 0, cells := 0, slots := 0, locals := 0 } : Room).cells ({ frames := 0, cells := 0, slots := 0, locals := 0 } : Room).slots) := by
  rcases ref_cases hv with rfl | ⟨r, rfl⟩
  · exact rm8n l Z a0 hw ws a1 u1 u2 u3 u4 u5 u6 u7 u8 h0 n0 Z0 B0 ga
  · exact rm8r l Z a0 hw ws a1 u1 u2 u3 u4 u5 u6 u7 u8 r h0 n0 Z0 B0 ga
theorem own_d9_0 : decode prog_30_method_6_code 0 = .ok (.aload_n 0, 1) := by decide +kernel
theorem own_d9_1 : decode prog_30_method_6_code 1 = .ok (.aload_n 1, 1) := by decide +kernel
theorem own_d9_2 : decode prog_30_method_6_code 2 = .ok (.putfield 13, 3) := by decide +kernel
theorem own_d9_5 : decode prog_30_method_6_code 5 = .ok (.aload_n 0, 1) := by decide +kernel
theorem own_d9_6 : decode prog_30_method_6_code 6 = .ok (.aload_n 2, 1) := by decide +kernel
theorem own_d9_7 : decode prog_30_method_6_code 7 = .ok (.putfield 16, 3) := by decide +kernel
theorem own_d9_10 : decode prog_30_method_6_code 10 = .ok (.return_, 1) := by decide +kernel
set_option maxRecDepth 65536 in
set_option maxHeartbeats 40000000 in
theorem rm9n (l : Launch) (Z : State) (a0 : Array Value) (hw : ∀ d ∈ tables_1, d.before a0 Z = true) (ws : List Jvm.Cond) (a1 : Addr) (u1 u2 u3 u4 u5 u6 u7 u8 : Value) (h0 : Heap) (n0 : Nat) (Z0 : n0 ≤ h0.size) (B0 : Bib Z h0 a1 u1 u2 u3 u4 u5 u6 u7 u8) (ga : n0 ≤ a1) :
    MetFree l (⟨"com/example/fruition/fruition/core/model/Biblio", "setPages", "(Ljava/lang/String;Ljava/lang/String;)V"⟩ : MethodName) (head1 (Jvm.Cond.code (⟨"com/example/fruition/fruition/core/model/Biblio", "setPages", "(Ljava/lang/String;Ljava/lang/String;)V"⟩ : MethodName) prog_30_method_6_code 3 none :: ws) ({ frames := 0, cells := 0, slots := 0, locals := 0 } : Room)) (fun a U => a = #[(.ref a1), .null, .null] ∧ Z.Warmed39 U.vm ∧ U.heap = h0) (fun _ _ _ _ _ => True) (fun _ U oc U' => ∃ v L, oc = .returned v ∧ QB Z a1 u1 .null .null u4 u5 u6 u7 u8 h0 n0 v U'.heap L ∧ FrameEnd U oc U' L ({ frames := 0, cells := 0, slots := 0, locals := 0 } : Room).cells ({ frames := 0, cells := 0, slots := 0, locals := 0 } : Room).slots) := by
  refine MetFree.of_bodySF (plainFor_of_name own_pn2) hisR ?_
  intro p e s m args below meth c s₁ Bd hml0 hP hK
  obtain ⟨rfl, hZ, hh⟩ := hP
  have hx := Bd.exec
  have hby := Bd.bytes
  have hml : c.maxLocals = 3 := hml0
  have hown : s.vm.findClass "com/example/fruition/fruition/core/model/Biblio" = some m.cls := findClass_of_methodNamed Bd.named
  have hnm := (name_of_methodNamed Bd.named Bd.method).1
  have X0 : Stand p l e ({ frames := 0, cells := 0, slots := 0, locals := 0 } : Room) s m #[(.ref a1), .null, .null] below meth c s₁ [] 0 0 := Stand.of_body Bd
  have e0 : s₁.heap = h0 := by rw [← hh, Bd.state]; rfl
  have N0 := Fr.nil n0
  have G0 : Goes p e below s₁ (entryFrame m #[(.ref a1), .null, .null] 3) s₁ (mkF m 0 #[.val (.ref a1), .val .null, .val .null] []) := fun _ k => castTop (by first | (simp [entryFrame, mkF, argsToLocals, Value.category]; done) | rfl : (entryFrame m #[(.ref a1), .null, .null] 3) = mkF m 0 #[.val (.ref a1), .val .null, .val .null] []) k
  have Zn := Nat.le_refl h0.size
  have Bk1 := B0
  obtain ⟨Ex1, F0_1, F1_1, F2_1, F3_1, F4_1, F5_1, F6_1, F7_1⟩ := Bk1
  have G2 : Goes p e below s₁ (entryFrame m #[(.ref a1), .null, .null] 3) s₁ (mkF m 2 #[.val (.ref a1), .val .null, .val .null] [.null, (.ref a1)]) := fun _ k => G0 _ (by
      show Steps p.tables e below (s₁.setTop (mkF m 0 #[.val (.ref a1), .val .null, .val .null] [])) _
      refine XS.aloadN X0.here hx rfl (hb hby own_d9_0) rfl rfl ?_
      show Steps p.tables e below (s₁.setTop (mkF m 1 #[.val (.ref a1), .val .null, .val .null] [(.ref a1)])) _
      refine XS.aloadN X0.here hx rfl (hb hby own_d9_1) rfl rfl ?_
      exact k)
  obtain ⟨T3, h3, X3, e3, W3, st3⟩ := putF X0 hx hZ hown (host := "") (Or.inl (hw _ (List.mem_of_getElem? (i := 49) rfl))) Via.refl e0 F1_1 Ex1 (Or.inl (hw _ (List.mem_of_getElem? (i := 50) rfl))) (hw _ (List.mem_of_getElem? (i := 27) rfl)) (ty := (.object "java/lang/String")) (by decide) rfl rfl (g := (mkF m 2 #[.val (.ref a1), .val .null, .val .null] [.null, (.ref a1)])) rfl rfl (hb hby own_d9_2)
  have G3 : Goes p e below s₁ (entryFrame m #[(.ref a1), .null, .null] 3) T3 (mkF m 5 #[.val (.ref a1), .val .null, .val .null] []) := fun _ k => G2 _ (st3 _ k)
  have N3 := Fr.snoc X3 N0 ga
  have Zn : h0.size ≤ h3.size := Nat.le_trans Zn (Nat.le_of_eq W3.size.symm)
  have B3 := own_bib1 hw B0 W3
  have Bk4 := B3
  obtain ⟨Ex4, F0_4, F1_4, F2_4, F3_4, F4_4, F5_4, F6_4, F7_4⟩ := Bk4
  have G5 : Goes p e below s₁ (entryFrame m #[(.ref a1), .null, .null] 3) T3 (mkF m 7 #[.val (.ref a1), .val .null, .val .null] [.null, (.ref a1)]) := fun _ k => G3 _ (by
      show Steps p.tables e below (T3.setTop (mkF m 5 #[.val (.ref a1), .val .null, .val .null] [])) _
      refine XS.aloadN X3.here hx rfl (hb hby own_d9_5) rfl rfl ?_
      show Steps p.tables e below (T3.setTop (mkF m 6 #[.val (.ref a1), .val .null, .val .null] [(.ref a1)])) _
      refine XS.aloadN X3.here hx rfl (hb hby own_d9_6) rfl rfl ?_
      exact k)
  obtain ⟨T6, h6, X6, e6, W6, st6⟩ := putF X3 hx hZ hown (host := "") (Or.inl (hw _ (List.mem_of_getElem? (i := 51) rfl))) Via.refl e3 F2_4 Ex4 (Or.inl (hw _ (List.mem_of_getElem? (i := 52) rfl))) (hw _ (List.mem_of_getElem? (i := 27) rfl)) (ty := (.object "java/lang/String")) (by decide) rfl rfl (g := (mkF m 7 #[.val (.ref a1), .val .null, .val .null] [.null, (.ref a1)])) rfl rfl (hb hby own_d9_7)
  have G6 : Goes p e below s₁ (entryFrame m #[(.ref a1), .null, .null] 3) T6 (mkF m 10 #[.val (.ref a1), .val .null, .val .null] []) := fun _ k => G5 _ (st6 _ k)
  have N6 := Fr.snoc X6 N3 ga
  have Zn : h0.size ≤ h6.size := Nat.le_trans Zn (Nat.le_of_eq W6.size.symm)
  have B6 := own_bib2 hw B3 W6
  obtain ⟨fs, hr, hrun, hended, hW, hsame⟩ := X6.leave (v := none) (fun _ => rfl)
  refine ⟨_, _, G6 _ (X6.returnOut hx Bd.returns (hb hby own_d9_10) hr), hrun, hended, _, _, rfl, ?_, ⟨_, rfl⟩, hW, hsame.mono (by decide) (by decide)⟩
  show QB Z a1 u1 .null .null u4 u5 u6 u7 u8 h0 n0 _ T6.heap _
  rw [e6]
  exact ⟨rfl, N6, Zn, B6⟩
set_option maxRecDepth 65536 in
set_option maxHeartbeats 40000000 in
theorem rm9r (l : Launch) (Z : State) (a0 : Array Value) (hw : ∀ d ∈ tables_1, d.before a0 Z = true) (ws : List Jvm.Cond) (a1 : Addr) (u1 u2 u3 u4 u5 u6 u7 u8 : Value) (rv : Addr) (h0 : Heap) (n0 : Nat) (Z0 : n0 ≤ h0.size) (B0 : Bib Z h0 a1 u1 u2 u3 u4 u5 u6 u7 u8) (ga : n0 ≤ a1) :
    MetFree l (⟨"com/example/fruition/fruition/core/model/Biblio", "setPages", "(Ljava/lang/String;Ljava/lang/String;)V"⟩ : MethodName) (head1 (Jvm.Cond.code (⟨"com/example/fruition/fruition/core/model/Biblio", "setPages", "(Ljava/lang/String;Ljava/lang/String;)V"⟩ : MethodName) prog_30_method_6_code 3 none :: ws) ({ frames := 0, cells := 0, slots := 0, locals := 0 } : Room)) (fun a U => a = #[(.ref a1), (.ref rv), (.ref rv)] ∧ Z.Warmed39 U.vm ∧ U.heap = h0) (fun _ _ _ _ _ => True) (fun _ U oc U' => ∃ v L, oc = .returned v ∧ QB Z a1 u1 (.ref rv) (.ref rv) u4 u5 u6 u7 u8 h0 n0 v U'.heap L ∧ FrameEnd U oc U' L ({ frames := 0, cells := 0, slots := 0, locals := 0 } : Room).cells ({ frames := 0, cells := 0, slots := 0, locals := 0 } : Room).slots) := by
  refine MetFree.of_bodySF (plainFor_of_name own_pn2) hisR ?_
  intro p e s m args below meth c s₁ Bd hml0 hP hK
  obtain ⟨rfl, hZ, hh⟩ := hP
  have hx := Bd.exec
  have hby := Bd.bytes
  have hml : c.maxLocals = 3 := hml0
  have hown : s.vm.findClass "com/example/fruition/fruition/core/model/Biblio" = some m.cls := findClass_of_methodNamed Bd.named
  have hnm := (name_of_methodNamed Bd.named Bd.method).1
  have X0 : Stand p l e ({ frames := 0, cells := 0, slots := 0, locals := 0 } : Room) s m #[(.ref a1), (.ref rv), (.ref rv)] below meth c s₁ [] 0 0 := Stand.of_body Bd
  have e0 : s₁.heap = h0 := by rw [← hh, Bd.state]; rfl
  have N0 := Fr.nil n0
  have G0 : Goes p e below s₁ (entryFrame m #[(.ref a1), (.ref rv), (.ref rv)] 3) s₁ (mkF m 0 #[.val (.ref a1), .val (.ref rv), .val (.ref rv)] []) := fun _ k => castTop (by first | (simp [entryFrame, mkF, argsToLocals, Value.category]; done) | rfl : (entryFrame m #[(.ref a1), (.ref rv), (.ref rv)] 3) = mkF m 0 #[.val (.ref a1), .val (.ref rv), .val (.ref rv)] []) k
  have Zn := Nat.le_refl h0.size
  have Bk1 := B0
  obtain ⟨Ex1, F0_1, F1_1, F2_1, F3_1, F4_1, F5_1, F6_1, F7_1⟩ := Bk1
  have G2 : Goes p e below s₁ (entryFrame m #[(.ref a1), (.ref rv), (.ref rv)] 3) s₁ (mkF m 2 #[.val (.ref a1), .val (.ref rv), .val (.ref rv)] [(.ref rv), (.ref a1)]) := fun _ k => G0 _ (by
      show Steps p.tables e below (s₁.setTop (mkF m 0 #[.val (.ref a1), .val (.ref rv), .val (.ref rv)] [])) _
      refine XS.aloadN X0.here hx rfl (hb hby own_d9_0) rfl rfl ?_
      show Steps p.tables e below (s₁.setTop (mkF m 1 #[.val (.ref a1), .val (.ref rv), .val (.ref rv)] [(.ref a1)])) _
      refine XS.aloadN X0.here hx rfl (hb hby own_d9_1) rfl rfl ?_
      exact k)
  obtain ⟨T3, h3, X3, e3, W3, st3⟩ := putF X0 hx hZ hown (host := "") (Or.inl (hw _ (List.mem_of_getElem? (i := 49) rfl))) Via.refl e0 F1_1 Ex1 (Or.inl (hw _ (List.mem_of_getElem? (i := 50) rfl))) (hw _ (List.mem_of_getElem? (i := 27) rfl)) (ty := (.object "java/lang/String")) (by decide) rfl rfl (g := (mkF m 2 #[.val (.ref a1), .val (.ref rv), .val (.ref rv)] [(.ref rv), (.ref a1)])) rfl rfl (hb hby own_d9_2)
  have G3 : Goes p e below s₁ (entryFrame m #[(.ref a1), (.ref rv), (.ref rv)] 3) T3 (mkF m 5 #[.val (.ref a1), .val (.ref rv), .val (.ref rv)] []) := fun _ k => G2 _ (st3 _ k)
  have N3 := Fr.snoc X3 N0 ga
  have Zn : h0.size ≤ h3.size := Nat.le_trans Zn (Nat.le_of_eq W3.size.symm)
  have B3 := own_bib1 hw B0 W3
  have Bk4 := B3
  obtain ⟨Ex4, F0_4, F1_4, F2_4, F3_4, F4_4, F5_4, F6_4, F7_4⟩ := Bk4
  have G5 : Goes p e below s₁ (entryFrame m #[(.ref a1), (.ref rv), (.ref rv)] 3) T3 (mkF m 7 #[.val (.ref a1), .val (.ref rv), .val (.ref rv)] [(.ref rv), (.ref a1)]) := fun _ k => G3 _ (by
      show Steps p.tables e below (T3.setTop (mkF m 5 #[.val (.ref a1), .val (.ref rv), .val (.ref rv)] [])) _
      refine XS.aloadN X3.here hx rfl (hb hby own_d9_5) rfl rfl ?_
      show Steps p.tables e below (T3.setTop (mkF m 6 #[.val (.ref a1), .val (.ref rv), .val (.ref rv)] [(.ref a1)])) _
      refine XS.aloadN X3.here hx rfl (hb hby own_d9_6) rfl rfl ?_
      exact k)
  obtain ⟨T6, h6, X6, e6, W6, st6⟩ := putF X3 hx hZ hown (host := "") (Or.inl (hw _ (List.mem_of_getElem? (i := 51) rfl))) Via.refl e3 F2_4 Ex4 (Or.inl (hw _ (List.mem_of_getElem? (i := 52) rfl))) (hw _ (List.mem_of_getElem? (i := 27) rfl)) (ty := (.object "java/lang/String")) (by decide) rfl rfl (g := (mkF m 7 #[.val (.ref a1), .val (.ref rv), .val (.ref rv)] [(.ref rv), (.ref a1)])) rfl rfl (hb hby own_d9_7)
  have G6 : Goes p e below s₁ (entryFrame m #[(.ref a1), (.ref rv), (.ref rv)] 3) T6 (mkF m 10 #[.val (.ref a1), .val (.ref rv), .val (.ref rv)] []) := fun _ k => G5 _ (st6 _ k)
  have N6 := Fr.snoc X6 N3 ga
  have Zn : h0.size ≤ h6.size := Nat.le_trans Zn (Nat.le_of_eq W6.size.symm)
  have B6 := own_bib2 hw B3 W6
  obtain ⟨fs, hr, hrun, hended, hW, hsame⟩ := X6.leave (v := none) (fun _ => rfl)
  refine ⟨_, _, G6 _ (X6.returnOut hx Bd.returns (hb hby own_d9_10) hr), hrun, hended, _, _, rfl, ?_, ⟨_, rfl⟩, hW, hsame.mono (by decide) (by decide)⟩
  show QB Z a1 u1 (.ref rv) (.ref rv) u4 u5 u6 u7 u8 h0 n0 _ T6.heap _
  rw [e6]
  exact ⟨rfl, N6, Zn, B6⟩
theorem rm9 (l : Launch) (Z : State) (a0 : Array Value) (hw : ∀ d ∈ tables_1, d.before a0 Z = true) (ws : List Jvm.Cond) (a1 : Addr) (u1 u2 u3 u4 u5 u6 u7 u8 v : Value) (h0 : Heap) (n0 : Nat) (Z0 : n0 ≤ h0.size) (B0 : Bib Z h0 a1 u1 u2 u3 u4 u5 u6 u7 u8) (ga : n0 ≤ a1) (hv : v.isRef = true) :
    MetFree l (⟨"com/example/fruition/fruition/core/model/Biblio", "setPages", "(Ljava/lang/String;Ljava/lang/String;)V"⟩ : MethodName) (head1 (Jvm.Cond.code (⟨"com/example/fruition/fruition/core/model/Biblio", "setPages", "(Ljava/lang/String;Ljava/lang/String;)V"⟩ : MethodName) prog_30_method_6_code 3 none :: ws) ({ frames := 0, cells := 0, slots := 0, locals := 0 } : Room)) (fun a U => a = #[(.ref a1), v, v] ∧ Z.Warmed39 U.vm ∧ U.heap = h0) (fun _ _ _ _ _ => True) (fun _ U o U' => ∃ w L, o = .returned w ∧ QB Z a1 u1 v v u4 u5 u6 u7 u8 h0 n0 w U'.heap L ∧ FrameEnd U o U' L ({ frames := 0, cells := 0, slots := 0, locals := 0 } : Room).cells ({ frames := 0, cells := 0, slots := 0, locals := 0 } : Room).slots) := by
  rcases ref_cases hv with rfl | ⟨r, rfl⟩
  · exact rm9n l Z a0 hw ws a1 u1 u2 u3 u4 u5 u6 u7 u8 h0 n0 Z0 B0 ga
  · exact rm9r l Z a0 hw ws a1 u1 u2 u3 u4 u5 u6 u7 u8 r h0 n0 Z0 B0 ga
theorem own_d10_0 : decode prog_30_method_8_code 0 = .ok (.aload_n 0, 1) := by decide +kernel
theorem own_d10_1 : decode prog_30_method_8_code 1 = .ok (.aload_n 1, 1) := by decide +kernel
theorem own_d10_2 : decode prog_30_method_8_code 2 = .ok (.putfield 19, 3) := by decide +kernel
theorem own_d10_5 : decode prog_30_method_8_code 5 = .ok (.return_, 1) := by decide +kernel
set_option maxRecDepth 65536 in
set_option maxHeartbeats 40000000 in
theorem rm10n (l : Launch) (Z : State) (a0 : Array Value) (hw : ∀ d ∈ tables_1, d.before a0 Z = true) (ws : List Jvm.Cond) (a1 : Addr) (u1 u2 u3 u4 u5 u6 u7 u8 : Value) (h0 : Heap) (n0 : Nat) (Z0 : n0 ≤ h0.size) (B0 : Bib Z h0 a1 u1 u2 u3 u4 u5 u6 u7 u8) (ga : n0 ≤ a1) :
    MetFree l (⟨"com/example/fruition/fruition/core/model/Biblio", "setVolume", "(Ljava/lang/String;)V"⟩ : MethodName) (head1 (Jvm.Cond.code (⟨"com/example/fruition/fruition/core/model/Biblio", "setVolume", "(Ljava/lang/String;)V"⟩ : MethodName) prog_30_method_8_code 2 none :: ws) ({ frames := 0, cells := 0, slots := 0, locals := 0 } : Room)) (fun a U => a = #[(.ref a1), .null] ∧ Z.Warmed39 U.vm ∧ U.heap = h0) (fun _ _ _ _ _ => True) (fun _ U oc U' => ∃ v L, oc = .returned v ∧ QB Z a1 u1 u2 u3 .null u5 u6 u7 u8 h0 n0 v U'.heap L ∧ FrameEnd U oc U' L ({ frames := 0, cells := 0, slots := 0, locals := 0 } : Room).cells ({ frames := 0, cells := 0, slots := 0, locals := 0 } : Room).slots) := by
  refine MetFree.of_bodySF (plainFor_of_name own_pn2) hisR ?_
  intro p e s m args below meth c s₁ Bd hml0 hP hK
  obtain ⟨rfl, hZ, hh⟩ := hP
  have hx := Bd.exec
  have hby := Bd.bytes
  have hml : c.maxLocals = 2 := hml0
  have hown : s.vm.findClass "com/example/fruition/fruition/core/model/Biblio" = some m.cls := findClass_of_methodNamed Bd.named
  have hnm := (name_of_methodNamed Bd.named Bd.method).1
  have X0 : Stand p l e ({ frames := 0, cells := 0, slots := 0, locals := 0 } : Room) s m #[(.ref a1), .null] below meth c s₁ [] 0 0 := Stand.of_body Bd
  have e0 : s₁.heap = h0 := by rw [← hh, Bd.state]; rfl
  have N0 := Fr.nil n0
  have G0 : Goes p e below s₁ (entryFrame m #[(.ref a1), .null] 2) s₁ (mkF m 0 #[.val (.ref a1), .val .null] []) := fun _ k => castTop (by first | (simp [entryFrame, mkF, argsToLocals, Value.category]; done) | rfl : (entryFrame m #[(.ref a1), .null] 2) = mkF m 0 #[.val (.ref a1), .val .null] []) k
  have Zn := Nat.le_refl h0.size
  have Bk1 := B0
  obtain ⟨Ex1, F0_1, F1_1, F2_1, F3_1, F4_1, F5_1, F6_1, F7_1⟩ := Bk1
  have G2 : Goes p e below s₁ (entryFrame m #[(.ref a1), .null] 2) s₁ (mkF m 2 #[.val (.ref a1), .val .null] [.null, (.ref a1)]) := fun _ k => G0 _ (by
      show Steps p.tables e below (s₁.setTop (mkF m 0 #[.val (.ref a1), .val .null] [])) _
      refine XS.aloadN X0.here hx rfl (hb hby own_d10_0) rfl rfl ?_
      show Steps p.tables e below (s₁.setTop (mkF m 1 #[.val (.ref a1), .val .null] [(.ref a1)])) _
      refine XS.aloadN X0.here hx rfl (hb hby own_d10_1) rfl rfl ?_
      exact k)
  obtain ⟨T3, h3, X3, e3, W3, st3⟩ := putF X0 hx hZ hown (host := "") (Or.inl (hw _ (List.mem_of_getElem? (i := 58) rfl))) Via.refl e0 F3_1 Ex1 (Or.inl (hw _ (List.mem_of_getElem? (i := 59) rfl))) (hw _ (List.mem_of_getElem? (i := 27) rfl)) (ty := (.object "java/lang/String")) (by decide) rfl rfl (g := (mkF m 2 #[.val (.ref a1), .val .null] [.null, (.ref a1)])) rfl rfl (hb hby own_d10_2)
  have G3 : Goes p e below s₁ (entryFrame m #[(.ref a1), .null] 2) T3 (mkF m 5 #[.val (.ref a1), .val .null] []) := fun _ k => G2 _ (st3 _ k)
  have N3 := Fr.snoc X3 N0 ga
  have Zn : h0.size ≤ h3.size := Nat.le_trans Zn (Nat.le_of_eq W3.size.symm)
  have B3 := own_bib3 hw B0 W3
  obtain ⟨fs, hr, hrun, hended, hW, hsame⟩ := X3.leave (v := none) (fun _ => rfl)
  refine ⟨_, _, G3 _ (X3.returnOut hx Bd.returns (hb hby own_d10_5) hr), hrun, hended, _, _, rfl, ?_, ⟨_, rfl⟩, hW, hsame.mono (by decide) (by decide)⟩
  show QB Z a1 u1 u2 u3 .null u5 u6 u7 u8 h0 n0 _ T3.heap _
  rw [e3]
  exact ⟨rfl, N3, Zn, B3⟩
set_option maxRecDepth 65536 in
set_option maxHeartbeats 40000000 in
theorem rm10r (l : Launch) (Z : State) (a0 : Array Value) (hw : ∀ d ∈ tables_1, d.before a0 Z = true) (ws : List Jvm.Cond) (a1 : Addr) (u1 u2 u3 u4 u5 u6 u7 u8 : Value) (rv : Addr) (h0 : Heap) (n0 : Nat) (Z0 : n0 ≤ h0.size) (B0 : Bib Z h0 a1 u1 u2 u3 u4 u5 u6 u7 u8) (ga : n0 ≤ a1) :
    MetFree l (⟨"com/example/fruition/fruition/core/model/Biblio", "setVolume", "(Ljava/lang/String;)V"⟩ : MethodName) (head1 (Jvm.Cond.code (⟨"com/example/fruition/fruition/core/model/Biblio", "setVolume", "(Ljava/lang/String;)V"⟩ : MethodName) prog_30_method_8_code 2 none :: ws) ({ frames := 0, cells := 0, slots := 0, locals := 0 } : Room)) (fun a U => a = #[(.ref a1), (.ref rv)] ∧ Z.Warmed39 U.vm ∧ U.heap = h0) (fun _ _ _ _ _ => True) (fun _ U oc U' => ∃ v L, oc = .returned v ∧ QB Z a1 u1 u2 u3 (.ref rv) u5 u6 u7 u8 h0 n0 v U'.heap L ∧ FrameEnd U oc U' L ({ frames := 0, cells := 0, slots := 0, locals := 0 } : Room).cells ({ frames := 0, cells := 0, slots := 0, locals := 0 } : Room).slots) := by
  refine MetFree.of_bodySF (plainFor_of_name own_pn2) hisR ?_
  intro p e s m args below meth c s₁ Bd hml0 hP hK
  obtain ⟨rfl, hZ, hh⟩ := hP
  have hx := Bd.exec
  have hby := Bd.bytes
  have hml : c.maxLocals = 2 := hml0
  have hown : s.vm.findClass "com/example/fruition/fruition/core/model/Biblio" = some m.cls := findClass_of_methodNamed Bd.named
  have hnm := (name_of_methodNamed Bd.named Bd.method).1
  have X0 : Stand p l e ({ frames := 0, cells := 0, slots := 0, locals := 0 } : Room) s m #[(.ref a1), (.ref rv)] below meth c s₁ [] 0 0 := Stand.of_body Bd
  have e0 : s₁.heap = h0 := by rw [← hh, Bd.state]; rfl
  have N0 := Fr.nil n0
  have G0 : Goes p e below s₁ (entryFrame m #[(.ref a1), (.ref rv)] 2) s₁ (mkF m 0 #[.val (.ref a1), .val (.ref rv)] []) := fun _ k => castTop (by first | (simp [entryFrame, mkF, argsToLocals, Value.category]; done) | rfl : (entryFrame m #[(.ref a1), (.ref rv)] 2) = mkF m 0 #[.val (.ref a1), .val (.ref rv)] []) k
  have Zn := Nat.le_refl h0.size
  have Bk1 := B0
  obtain ⟨Ex1, F0_1, F1_1, F2_1, F3_1, F4_1, F5_1, F6_1, F7_1⟩ := Bk1
  have G2 : Goes p e below s₁ (entryFrame m #[(.ref a1), (.ref rv)] 2) s₁ (mkF m 2 #[.val (.ref a1), .val (.ref rv)] [(.ref rv), (.ref a1)]) := fun _ k => G0 _ (by
      show Steps p.tables e below (s₁.setTop (mkF m 0 #[.val (.ref a1), .val (.ref rv)] [])) _
      refine XS.aloadN X0.here hx rfl (hb hby own_d10_0) rfl rfl ?_
      show Steps p.tables e below (s₁.setTop (mkF m 1 #[.val (.ref a1), .val (.ref rv)] [(.ref a1)])) _
      refine XS.aloadN X0.here hx rfl (hb hby own_d10_1) rfl rfl ?_
      exact k)
  obtain ⟨T3, h3, X3, e3, W3, st3⟩ := putF X0 hx hZ hown (host := "") (Or.inl (hw _ (List.mem_of_getElem? (i := 58) rfl))) Via.refl e0 F3_1 Ex1 (Or.inl (hw _ (List.mem_of_getElem? (i := 59) rfl))) (hw _ (List.mem_of_getElem? (i := 27) rfl)) (ty := (.object "java/lang/String")) (by decide) rfl rfl (g := (mkF m 2 #[.val (.ref a1), .val (.ref rv)] [(.ref rv), (.ref a1)])) rfl rfl (hb hby own_d10_2)
  have G3 : Goes p e below s₁ (entryFrame m #[(.ref a1), (.ref rv)] 2) T3 (mkF m 5 #[.val (.ref a1), .val (.ref rv)] []) := fun _ k => G2 _ (st3 _ k)
  have N3 := Fr.snoc X3 N0 ga
  have Zn : h0.size ≤ h3.size := Nat.le_trans Zn (Nat.le_of_eq W3.size.symm)
  have B3 := own_bib3 hw B0 W3
  obtain ⟨fs, hr, hrun, hended, hW, hsame⟩ := X3.leave (v := none) (fun _ => rfl)
  refine ⟨_, _, G3 _ (X3.returnOut hx Bd.returns (hb hby own_d10_5) hr), hrun, hended, _, _, rfl, ?_, ⟨_, rfl⟩, hW, hsame.mono (by decide) (by decide)⟩
  show QB Z a1 u1 u2 u3 (.ref rv) u5 u6 u7 u8 h0 n0 _ T3.heap _
  rw [e3]
  exact ⟨rfl, N3, Zn, B3⟩
theorem rm10 (l : Launch) (Z : State) (a0 : Array Value) (hw : ∀ d ∈ tables_1, d.before a0 Z = true) (ws : List Jvm.Cond) (a1 : Addr) (u1 u2 u3 u4 u5 u6 u7 u8 v : Value) (h0 : Heap) (n0 : Nat) (Z0 : n0 ≤ h0.size) (B0 : Bib Z h0 a1 u1 u2 u3 u4 u5 u6 u7 u8) (ga : n0 ≤ a1) (hv : v.isRef = true) :
    MetFree l (⟨"com/example/fruition/fruition/core/model/Biblio", "setVolume", "(Ljava/lang/String;)V"⟩ : MethodName) (head1 (Jvm.Cond.code (⟨"com/example/fruition/fruition/core/model/Biblio", "setVolume", "(Ljava/lang/String;)V"⟩ : MethodName) prog_30_method_8_code 2 none :: ws) ({ frames := 0, cells := 0, slots := 0, locals := 0 } : Room)) (fun a U => a = #[(.ref a1), v] ∧ Z.Warmed39 U.vm ∧ U.heap = h0) (fun _ _ _ _ _ => True) (fun _ U o U' => ∃ w L, o = .returned w ∧ QB Z a1 u1 u2 u3 v u5 u6 u7 u8 h0 n0 w U'.heap L ∧ FrameEnd U o U' L ({ frames := 0, cells := 0, slots := 0, locals := 0 } : Room).cells ({ frames := 0, cells := 0, slots := 0, locals := 0 } : Room).slots) := by
  rcases ref_cases hv with rfl | ⟨r, rfl⟩
  · exact rm10n l Z a0 hw ws a1 u1 u2 u3 u4 u5 u6 u7 u8 h0 n0 Z0 B0 ga
  · exact rm10r l Z a0 hw ws a1 u1 u2 u3 u4 u5 u6 u7 u8 r h0 n0 Z0 B0 ga
theorem own_d11_0 : decode prog_30_method_10_code 0 = .ok (.aload_n 0, 1) := by decide +kernel
theorem own_d11_1 : decode prog_30_method_10_code 1 = .ok (.aload_n 1, 1) := by decide +kernel
theorem own_d11_2 : decode prog_30_method_10_code 2 = .ok (.putfield 22, 3) := by decide +kernel
theorem own_d11_5 : decode prog_30_method_10_code 5 = .ok (.return_, 1) := by decide +kernel
set_option maxRecDepth 65536 in
set_option maxHeartbeats 40000000 in
theorem rm11n (l : Launch) (Z : State) (a0 : Array Value) (hw : ∀ d ∈ tables_1, d.before a0 Z = true) (ws : List Jvm.Cond) (a1 : Addr) (u1 u2 u3 u4 u5 u6 u7 u8 : Value) (h0 : Heap) (n0 : Nat) (Z0 : n0 ≤ h0.size) (B0 : Bib Z h0 a1 u1 u2 u3 u4 u5 u6 u7 u8) (ga : n0 ≤ a1) :
    MetFree l (⟨"com/example/fruition/fruition/core/model/Biblio", "setEdition", "(Ljava/lang/String;)V"⟩ : MethodName) (head1 (Jvm.Cond.code (⟨"com/example/fruition/fruition/core/model/Biblio", "setEdition", "(Ljava/lang/String;)V"⟩ : MethodName) prog_30_method_10_code 2 none :: ws) ({ frames := 0, cells := 0, slots := 0, locals := 0 } : Room)) (fun a U => a = #[(.ref a1), .null] ∧ Z.Warmed39 U.vm ∧ U.heap = h0) (fun _ _ _ _ _ => True) (fun _ U oc U' => ∃ v L, oc = .returned v ∧ QB Z a1 u1 u2 u3 u4 .null u6 u7 u8 h0 n0 v U'.heap L ∧ FrameEnd U oc U' L ({ frames := 0, cells := 0, slots := 0, locals := 0 } : Room).cells ({ frames := 0, cells := 0, slots := 0, locals := 0 } : Room).slots) := by
  refine MetFree.of_bodySF (plainFor_of_name own_pn2) hisR ?_
  intro p e s m args below meth c s₁ Bd hml0 hP hK
  obtain ⟨rfl, hZ, hh⟩ := hP
  have hx := Bd.exec
  have hby := Bd.bytes
  have hml : c.maxLocals = 2 := hml0
  have hown : s.vm.findClass "com/example/fruition/fruition/core/model/Biblio" = some m.cls := findClass_of_methodNamed Bd.named
  have hnm := (name_of_methodNamed Bd.named Bd.method).1
  have X0 : Stand p l e ({ frames := 0, cells := 0, slots := 0, locals := 0 } : Room) s m #[(.ref a1), .null] below meth c s₁ [] 0 0 := Stand.of_body Bd
  have e0 : s₁.heap = h0 := by rw [← hh, Bd.state]; rfl
  have N0 := Fr.nil n0
  have G0 : Goes p e below s₁ (entryFrame m #[(.ref a1), .null] 2) s₁ (mkF m 0 #[.val (.ref a1), .val .null] []) := fun _ k => castTop (by first | (simp [entryFrame, mkF, argsToLocals, Value.category]; done) | rfl : (entryFrame m #[(.ref a1), .null] 2) = mkF m 0 #[.val (.ref a1), .val .null] []) k
  have Zn := Nat.le_refl h0.size
  have Bk1 := B0
  obtain ⟨Ex1, F0_1, F1_1, F2_1, F3_1, F4_1, F5_1, F6_1, F7_1⟩ := Bk1
  have G2 : Goes p e below s₁ (entryFrame m #[(.ref a1), .null] 2) s₁ (mkF m 2 #[.val (.ref a1), .val .null] [.null, (.ref a1)]) := fun _ k => G0 _ (by
      show Steps p.tables e below (s₁.setTop (mkF m 0 #[.val (.ref a1), .val .null] [])) _
      refine XS.aloadN X0.here hx rfl (hb hby own_d11_0) rfl rfl ?_
      show Steps p.tables e below (s₁.setTop (mkF m 1 #[.val (.ref a1), .val .null] [(.ref a1)])) _
      refine XS.aloadN X0.here hx rfl (hb hby own_d11_1) rfl rfl ?_
      exact k)
  obtain ⟨T3, h3, X3, e3, W3, st3⟩ := putF X0 hx hZ hown (host := "") (Or.inl (hw _ (List.mem_of_getElem? (i := 65) rfl))) Via.refl e0 F4_1 Ex1 (Or.inl (hw _ (List.mem_of_getElem? (i := 66) rfl))) (hw _ (List.mem_of_getElem? (i := 27) rfl)) (ty := (.object "java/lang/String")) (by decide) rfl rfl (g := (mkF m 2 #[.val (.ref a1), .val .null] [.null, (.ref a1)])) rfl rfl (hb hby own_d11_2)
  have G3 : Goes p e below s₁ (entryFrame m #[(.ref a1), .null] 2) T3 (mkF m 5 #[.val (.ref a1), .val .null] []) := fun _ k => G2 _ (st3 _ k)
  have N3 := Fr.snoc X3 N0 ga
  have Zn : h0.size ≤ h3.size := Nat.le_trans Zn (Nat.le_of_eq W3.size.symm)
  have B3 := own_bib4 hw B0 W3
  obtain ⟨fs, hr, hrun, hended, hW, hsame⟩ := X3.leave (v := none) (fun _ => rfl)
  refine ⟨_, _, G3 _ (X3.returnOut hx Bd.returns (hb hby own_d11_5) hr), hrun, hended, _, _, rfl, ?_, ⟨_, rfl⟩, hW, hsame.mono (by decide) (by decide)⟩
  show QB Z a1 u1 u2 u3 u4 .null u6 u7 u8 h0 n0 _ T3.heap _
  rw [e3]
  exact ⟨rfl, N3, Zn, B3⟩
set_option maxRecDepth 65536 in
set_option maxHeartbeats 40000000 in
theorem rm11r (l : Launch) (Z : State) (a0 : Array Value) (hw : ∀ d ∈ tables_1, d.before a0 Z = true) (ws : List Jvm.Cond) (a1 : Addr) (u1 u2 u3 u4 u5 u6 u7 u8 : Value) (rv : Addr) (h0 : Heap) (n0 : Nat) (Z0 : n0 ≤ h0.size) (B0 : Bib Z h0 a1 u1 u2 u3 u4 u5 u6 u7 u8) (ga : n0 ≤ a1) :
    MetFree l (⟨"com/example/fruition/fruition/core/model/Biblio", "setEdition", "(Ljava/lang/String;)V"⟩ : MethodName) (head1 (Jvm.Cond.code (⟨"com/example/fruition/fruition/core/model/Biblio", "setEdition", "(Ljava/lang/String;)V"⟩ : MethodName) prog_30_method_10_code 2 none :: ws) ({ frames := 0, cells := 0, slots := 0, locals := 0 } : Room)) (fun a U => a = #[(.ref a1), (.ref rv)] ∧ Z.Warmed39 U.vm ∧ U.heap = h0) (fun _ _ _ _ _ => True) (fun _ U oc U' => ∃ v L, oc = .returned v ∧ QB Z a1 u1 u2 u3 u4 (.ref rv) u6 u7 u8 h0 n0 v U'.heap L ∧ FrameEnd U oc U' L ({ frames := 0, cells := 0, slots := 0, locals := 0 } : Room).cells ({ frames := 0, cells := 0, slots := 0, locals := 0 } : Room).slots) := by
  refine MetFree.of_bodySF (plainFor_of_name own_pn2) hisR ?_
  intro p e s m args below meth c s₁ Bd hml0 hP hK
  obtain ⟨rfl, hZ, hh⟩ := hP
  have hx := Bd.exec
  have hby := Bd.bytes
  have hml : c.maxLocals = 2 := hml0
  have hown : s.vm.findClass "com/example/fruition/fruition/core/model/Biblio" = some m.cls := findClass_of_methodNamed Bd.named
  have hnm := (name_of_methodNamed Bd.named Bd.method).1
  have X0 : Stand p l e ({ frames := 0, cells := 0, slots := 0, locals := 0 } : Room) s m #[(.ref a1), (.ref rv)] below meth c s₁ [] 0 0 := Stand.of_body Bd
  have e0 : s₁.heap = h0 := by rw [← hh, Bd.state]; rfl
  have N0 := Fr.nil n0
  have G0 : Goes p e below s₁ (entryFrame m #[(.ref a1), (.ref rv)] 2) s₁ (mkF m 0 #[.val (.ref a1), .val (.ref rv)] []) := fun _ k => castTop (by first | (simp [entryFrame, mkF, argsToLocals, Value.category]; done) | rfl : (entryFrame m #[(.ref a1), (.ref rv)] 2) = mkF m 0 #[.val (.ref a1), .val (.ref rv)] []) k
  have Zn := Nat.le_refl h0.size
  have Bk1 := B0
  obtain ⟨Ex1, F0_1, F1_1, F2_1, F3_1, F4_1, F5_1, F6_1, F7_1⟩ := Bk1
  have G2 : Goes p e below s₁ (entryFrame m #[(.ref a1), (.ref rv)] 2) s₁ (mkF m 2 #[.val (.ref a1), .val (.ref rv)] [(.ref rv), (.ref a1)]) := fun _ k => G0 _ (by
      show Steps p.tables e below (s₁.setTop (mkF m 0 #[.val (.ref a1), .val (.ref rv)] [])) _
      refine XS.aloadN X0.here hx rfl (hb hby own_d11_0) rfl rfl ?_
      show Steps p.tables e below (s₁.setTop (mkF m 1 #[.val (.ref a1), .val (.ref rv)] [(.ref a1)])) _
      refine XS.aloadN X0.here hx rfl (hb hby own_d11_1) rfl rfl ?_
      exact k)
  obtain ⟨T3, h3, X3, e3, W3, st3⟩ := putF X0 hx hZ hown (host := "") (Or.inl (hw _ (List.mem_of_getElem? (i := 65) rfl))) Via.refl e0 F4_1 Ex1 (Or.inl (hw _ (List.mem_of_getElem? (i := 66) rfl))) (hw _ (List.mem_of_getElem? (i := 27) rfl)) (ty := (.object "java/lang/String")) (by decide) rfl rfl (g := (mkF m 2 #[.val (.ref a1), .val (.ref rv)] [(.ref rv), (.ref a1)])) rfl rfl (hb hby own_d11_2)
  have G3 : Goes p e below s₁ (entryFrame m #[(.ref a1), (.ref rv)] 2) T3 (mkF m 5 #[.val (.ref a1), .val (.ref rv)] []) := fun _ k => G2 _ (st3 _ k)
  have N3 := Fr.snoc X3 N0 ga
  have Zn : h0.size ≤ h3.size := Nat.le_trans Zn (Nat.le_of_eq W3.size.symm)
  have B3 := own_bib4 hw B0 W3
  obtain ⟨fs, hr, hrun, hended, hW, hsame⟩ := X3.leave (v := none) (fun _ => rfl)
  refine ⟨_, _, G3 _ (X3.returnOut hx Bd.returns (hb hby own_d11_5) hr), hrun, hended, _, _, rfl, ?_, ⟨_, rfl⟩, hW, hsame.mono (by decide) (by decide)⟩
  show QB Z a1 u1 u2 u3 u4 (.ref rv) u6 u7 u8 h0 n0 _ T3.heap _
  rw [e3]
  exact ⟨rfl, N3, Zn, B3⟩
theorem rm11 (l : Launch) (Z : State) (a0 : Array Value) (hw : ∀ d ∈ tables_1, d.before a0 Z = true) (ws : List Jvm.Cond) (a1 : Addr) (u1 u2 u3 u4 u5 u6 u7 u8 v : Value) (h0 : Heap) (n0 : Nat) (Z0 : n0 ≤ h0.size) (B0 : Bib Z h0 a1 u1 u2 u3 u4 u5 u6 u7 u8) (ga : n0 ≤ a1) (hv : v.isRef = true) :
    MetFree l (⟨"com/example/fruition/fruition/core/model/Biblio", "setEdition", "(Ljava/lang/String;)V"⟩ : MethodName) (head1 (Jvm.Cond.code (⟨"com/example/fruition/fruition/core/model/Biblio", "setEdition", "(Ljava/lang/String;)V"⟩ : MethodName) prog_30_method_10_code 2 none :: ws) ({ frames := 0, cells := 0, slots := 0, locals := 0 } : Room)) (fun a U => a = #[(.ref a1), v] ∧ Z.Warmed39 U.vm ∧ U.heap = h0) (fun _ _ _ _ _ => True) (fun _ U o U' => ∃ w L, o = .returned w ∧ QB Z a1 u1 u2 u3 u4 v u6 u7 u8 h0 n0 w U'.heap L ∧ FrameEnd U o U' L ({ frames := 0, cells := 0, slots := 0, locals := 0 } : Room).cells ({ frames := 0, cells := 0, slots := 0, locals := 0 } : Room).slots) := by
  rcases ref_cases hv with rfl | ⟨r, rfl⟩
  · exact rm11n l Z a0 hw ws a1 u1 u2 u3 u4 u5 u6 u7 u8 h0 n0 Z0 B0 ga
  · exact rm11r l Z a0 hw ws a1 u1 u2 u3 u4 u5 u6 u7 u8 r h0 n0 Z0 B0 ga
theorem own_d12_0 : decode prog_30_method_12_code 0 = .ok (.aload_n 0, 1) := by decide +kernel
theorem own_d12_1 : decode prog_30_method_12_code 1 = .ok (.aload_n 1, 1) := by decide +kernel
theorem own_d12_2 : decode prog_30_method_12_code 2 = .ok (.putfield 25, 3) := by decide +kernel
theorem own_d12_5 : decode prog_30_method_12_code 5 = .ok (.return_, 1) := by decide +kernel
set_option maxRecDepth 65536 in
set_option maxHeartbeats 40000000 in
theorem rm12n (l : Launch) (Z : State) (a0 : Array Value) (hw : ∀ d ∈ tables_1, d.before a0 Z = true) (ws : List Jvm.Cond) (a1 : Addr) (u1 u2 u3 u4 u5 u6 u7 u8 : Value) (h0 : Heap) (n0 : Nat) (Z0 : n0 ≤ h0.size) (B0 : Bib Z h0 a1 u1 u2 u3 u4 u5 u6 u7 u8) (ga : n0 ≤ a1) :
    MetFree l (⟨"com/example/fruition/fruition/core/model/Biblio", "setNumber", "(Ljava/lang/String;)V"⟩ : MethodName) (head1 (Jvm.Cond.code (⟨"com/example/fruition/fruition/core/model/Biblio", "setNumber", "(Ljava/lang/String;)V"⟩ : MethodName) prog_30_method_12_code 2 none :: ws) ({ frames := 0, cells := 0, slots := 0, locals := 0 } : Room)) (fun a U => a = #[(.ref a1), .null] ∧ Z.Warmed39 U.vm ∧ U.heap = h0) (fun _ _ _ _ _ => True) (fun _ U oc U' => ∃ v L, oc = .returned v ∧ QB Z a1 u1 u2 u3 u4 u5 .null u7 u8 h0 n0 v U'.heap L ∧ FrameEnd U oc U' L ({ frames := 0, cells := 0, slots := 0, locals := 0 } : Room).cells ({ frames := 0, cells := 0, slots := 0, locals := 0 } : Room).slots) := by
  refine MetFree.of_bodySF (plainFor_of_name own_pn2) hisR ?_
  intro p e s m args below meth c s₁ Bd hml0 hP hK
  obtain ⟨rfl, hZ, hh⟩ := hP
  have hx := Bd.exec
  have hby := Bd.bytes
  have hml : c.maxLocals = 2 := hml0
  have hown : s.vm.findClass "com/example/fruition/fruition/core/model/Biblio" = some m.cls := findClass_of_methodNamed Bd.named
  have hnm := (name_of_methodNamed Bd.named Bd.method).1
  have X0 : Stand p l e ({ frames := 0, cells := 0, slots := 0, locals := 0 } : Room) s m #[(.ref a1), .null] below meth c s₁ [] 0 0 := Stand.of_body Bd
  have e0 : s₁.heap = h0 := by rw [← hh, Bd.state]; rfl
  have N0 := Fr.nil n0
  have G0 : Goes p e below s₁ (entryFrame m #[(.ref a1), .null] 2) s₁ (mkF m 0 #[.val (.ref a1), .val .null] []) := fun _ k => castTop (by first | (simp [entryFrame, mkF, argsToLocals, Value.category]; done) | rfl : (entryFrame m #[(.ref a1), .null] 2) = mkF m 0 #[.val (.ref a1), .val .null] []) k
  have Zn := Nat.le_refl h0.size
  have Bk1 := B0
  obtain ⟨Ex1, F0_1, F1_1, F2_1, F3_1, F4_1, F5_1, F6_1, F7_1⟩ := Bk1
  have G2 : Goes p e below s₁ (entryFrame m #[(.ref a1), .null] 2) s₁ (mkF m 2 #[.val (.ref a1), .val .null] [.null, (.ref a1)]) := fun _ k => G0 _ (by
      show Steps p.tables e below (s₁.setTop (mkF m 0 #[.val (.ref a1), .val .null] [])) _
      refine XS.aloadN X0.here hx rfl (hb hby own_d12_0) rfl rfl ?_
      show Steps p.tables e below (s₁.setTop (mkF m 1 #[.val (.ref a1), .val .null] [(.ref a1)])) _
      refine XS.aloadN X0.here hx rfl (hb hby own_d12_1) rfl rfl ?_
      exact k)
  obtain ⟨T3, h3, X3, e3, W3, st3⟩ := putF X0 hx hZ hown (host := "") (Or.inl (hw _ (List.mem_of_getElem? (i := 72) rfl))) Via.refl e0 F5_1 Ex1 (Or.inl (hw _ (List.mem_of_getElem? (i := 73) rfl))) (hw _ (List.mem_of_getElem? (i := 27) rfl)) (ty := (.object "java/lang/String")) (by decide) rfl rfl (g := (mkF m 2 #[.val (.ref a1), .val .null] [.null, (.ref a1)])) rfl rfl (hb hby own_d12_2)
  have G3 : Goes p e below s₁ (entryFrame m #[(.ref a1), .null] 2) T3 (mkF m 5 #[.val (.ref a1), .val .null] []) := fun _ k => G2 _ (st3 _ k)
  have N3 := Fr.snoc X3 N0 ga
  have Zn : h0.size ≤ h3.size := Nat.le_trans Zn (Nat.le_of_eq W3.size.symm)
  have B3 := own_bib5 hw B0 W3
  obtain ⟨fs, hr, hrun, hended, hW, hsame⟩ := X3.leave (v := none) (fun _ => rfl)
  refine ⟨_, _, G3 _ (X3.returnOut hx Bd.returns (hb hby own_d12_5) hr), hrun, hended, _, _, rfl, ?_, ⟨_, rfl⟩, hW, hsame.mono (by decide) (by decide)⟩
  show QB Z a1 u1 u2 u3 u4 u5 .null u7 u8 h0 n0 _ T3.heap _
  rw [e3]
  exact ⟨rfl, N3, Zn, B3⟩
set_option maxRecDepth 65536 in
set_option maxHeartbeats 40000000 in
theorem rm12r (l : Launch) (Z : State) (a0 : Array Value) (hw : ∀ d ∈ tables_1, d.before a0 Z = true) (ws : List Jvm.Cond) (a1 : Addr) (u1 u2 u3 u4 u5 u6 u7 u8 : Value) (rv : Addr) (h0 : Heap) (n0 : Nat) (Z0 : n0 ≤ h0.size) (B0 : Bib Z h0 a1 u1 u2 u3 u4 u5 u6 u7 u8) (ga : n0 ≤ a1) :
    MetFree l (⟨"com/example/fruition/fruition/core/model/Biblio", "setNumber", "(Ljava/lang/String;)V"⟩ : MethodName) (head1 (Jvm.Cond.code (⟨"com/example/fruition/fruition/core/model/Biblio", "setNumber", "(Ljava/lang/String;)V"⟩ : MethodName) prog_30_method_12_code 2 none :: ws) ({ frames := 0, cells := 0, slots := 0, locals := 0 } : Room)) (fun a U => a = #[(.ref a1), (.ref rv)] ∧ Z.Warmed39 U.vm ∧ U.heap = h0) (fun _ _ _ _ _ => True) (fun _ U oc U' => ∃ v L, oc = .returned v ∧ QB Z a1 u1 u2 u3 u4 u5 (.ref rv) u7 u8 h0 n0 v U'.heap L ∧ FrameEnd U oc U' L ({ frames := 0, cells := 0, slots := 0, locals := 0 } : Room).cells ({ frames := 0, cells := 0, slots := 0, locals := 0 } : Room).slots) := by
  refine MetFree.of_bodySF (plainFor_of_name own_pn2) hisR ?_
  intro p e s m args below meth c s₁ Bd hml0 hP hK
  obtain ⟨rfl, hZ, hh⟩ := hP
  have hx := Bd.exec
  have hby := Bd.bytes
  have hml : c.maxLocals = 2 := hml0
  have hown : s.vm.findClass "com/example/fruition/fruition/core/model/Biblio" = some m.cls := findClass_of_methodNamed Bd.named
  have hnm := (name_of_methodNamed Bd.named Bd.method).1
  have X0 : Stand p l e ({ frames := 0, cells := 0, slots := 0, locals := 0 } : Room) s m #[(.ref a1), (.ref rv)] below meth c s₁ [] 0 0 := Stand.of_body Bd
  have e0 : s₁.heap = h0 := by rw [← hh, Bd.state]; rfl
  have N0 := Fr.nil n0
  have G0 : Goes p e below s₁ (entryFrame m #[(.ref a1), (.ref rv)] 2) s₁ (mkF m 0 #[.val (.ref a1), .val (.ref rv)] []) := fun _ k => castTop (by first | (simp [entryFrame, mkF, argsToLocals, Value.category]; done) | rfl : (entryFrame m #[(.ref a1), (.ref rv)] 2) = mkF m 0 #[.val (.ref a1), .val (.ref rv)] []) k
  have Zn := Nat.le_refl h0.size
  have Bk1 := B0
  obtain ⟨Ex1, F0_1, F1_1, F2_1, F3_1, F4_1, F5_1, F6_1, F7_1⟩ := Bk1
  have G2 : Goes p e below s₁ (entryFrame m #[(.ref a1), (.ref rv)] 2) s₁ (mkF m 2 #[.val (.ref a1), .val (.ref rv)] [(.ref rv), (.ref a1)]) := fun _ k => G0 _ (by
      show Steps p.tables e below (s₁.setTop (mkF m 0 #[.val (.ref a1), .val (.ref rv)] [])) _
      refine XS.aloadN X0.here hx rfl (hb hby own_d12_0) rfl rfl ?_
      show Steps p.tables e below (s₁.setTop (mkF m 1 #[.val (.ref a1), .val (.ref rv)] [(.ref a1)])) _
      refine XS.aloadN X0.here hx rfl (hb hby own_d12_1) rfl rfl ?_
      exact k)
  obtain ⟨T3, h3, X3, e3, W3, st3⟩ := putF X0 hx hZ hown (host := "") (Or.inl (hw _ (List.mem_of_getElem? (i := 72) rfl))) Via.refl e0 F5_1 Ex1 (Or.inl (hw _ (List.mem_of_getElem? (i := 73) rfl))) (hw _ (List.mem_of_getElem? (i := 27) rfl)) (ty := (.object "java/lang/String")) (by decide) rfl rfl (g := (mkF m 2 #[.val (.ref a1), .val (.ref rv)] [(.ref rv), (.ref a1)])) rfl rfl (hb hby own_d12_2)
  have G3 : Goes p e below s₁ (entryFrame m #[(.ref a1), (.ref rv)] 2) T3 (mkF m 5 #[.val (.ref a1), .val (.ref rv)] []) := fun _ k => G2 _ (st3 _ k)
  have N3 := Fr.snoc X3 N0 ga
  have Zn : h0.size ≤ h3.size := Nat.le_trans Zn (Nat.le_of_eq W3.size.symm)
  have B3 := own_bib5 hw B0 W3
  obtain ⟨fs, hr, hrun, hended, hW, hsame⟩ := X3.leave (v := none) (fun _ => rfl)
  refine ⟨_, _, G3 _ (X3.returnOut hx Bd.returns (hb hby own_d12_5) hr), hrun, hended, _, _, rfl, ?_, ⟨_, rfl⟩, hW, hsame.mono (by decide) (by decide)⟩
  show QB Z a1 u1 u2 u3 u4 u5 (.ref rv) u7 u8 h0 n0 _ T3.heap _
  rw [e3]
  exact ⟨rfl, N3, Zn, B3⟩
theorem rm12 (l : Launch) (Z : State) (a0 : Array Value) (hw : ∀ d ∈ tables_1, d.before a0 Z = true) (ws : List Jvm.Cond) (a1 : Addr) (u1 u2 u3 u4 u5 u6 u7 u8 v : Value) (h0 : Heap) (n0 : Nat) (Z0 : n0 ≤ h0.size) (B0 : Bib Z h0 a1 u1 u2 u3 u4 u5 u6 u7 u8) (ga : n0 ≤ a1) (hv : v.isRef = true) :
    MetFree l (⟨"com/example/fruition/fruition/core/model/Biblio", "setNumber", "(Ljava/lang/String;)V"⟩ : MethodName) (head1 (Jvm.Cond.code (⟨"com/example/fruition/fruition/core/model/Biblio", "setNumber", "(Ljava/lang/String;)V"⟩ : MethodName) prog_30_method_12_code 2 none :: ws) ({ frames := 0, cells := 0, slots := 0, locals := 0 } : Room)) (fun a U => a = #[(.ref a1), v] ∧ Z.Warmed39 U.vm ∧ U.heap = h0) (fun _ _ _ _ _ => True) (fun _ U o U' => ∃ w L, o = .returned w ∧ QB Z a1 u1 u2 u3 u4 u5 v u7 u8 h0 n0 w U'.heap L ∧ FrameEnd U o U' L ({ frames := 0, cells := 0, slots := 0, locals := 0 } : Room).cells ({ frames := 0, cells := 0, slots := 0, locals := 0 } : Room).slots) := by
  rcases ref_cases hv with rfl | ⟨r, rfl⟩
  · exact rm12n l Z a0 hw ws a1 u1 u2 u3 u4 u5 u6 u7 u8 h0 n0 Z0 B0 ga
  · exact rm12r l Z a0 hw ws a1 u1 u2 u3 u4 u5 u6 u7 u8 r h0 n0 Z0 B0 ga
theorem own_d13_0 : decode prog_30_method_14_code 0 = .ok (.aload_n 0, 1) := by decide +kernel
theorem own_d13_1 : decode prog_30_method_14_code 1 = .ok (.aload_n 1, 1) := by decide +kernel
theorem own_d13_2 : decode prog_30_method_14_code 2 = .ok (.putfield 28, 3) := by decide +kernel
theorem own_d13_5 : decode prog_30_method_14_code 5 = .ok (.return_, 1) := by decide +kernel
set_option maxRecDepth 65536 in
set_option maxHeartbeats 40000000 in
theorem rm13n (l : Launch) (Z : State) (a0 : Array Value) (hw : ∀ d ∈ tables_1, d.before a0 Z = true) (ws : List Jvm.Cond) (a1 : Addr) (u1 u2 u3 u4 u5 u6 u7 u8 : Value) (h0 : Heap) (n0 : Nat) (Z0 : n0 ≤ h0.size) (B0 : Bib Z h0 a1 u1 u2 u3 u4 u5 u6 u7 u8) (ga : n0 ≤ a1) :
    MetFree l (⟨"com/example/fruition/fruition/core/model/Biblio", "setIn", "(Ljava/lang/String;)V"⟩ : MethodName) (head1 (Jvm.Cond.code (⟨"com/example/fruition/fruition/core/model/Biblio", "setIn", "(Ljava/lang/String;)V"⟩ : MethodName) prog_30_method_14_code 2 none :: ws) ({ frames := 0, cells := 0, slots := 0, locals := 0 } : Room)) (fun a U => a = #[(.ref a1), .null] ∧ Z.Warmed39 U.vm ∧ U.heap = h0) (fun _ _ _ _ _ => True) (fun _ U oc U' => ∃ v L, oc = .returned v ∧ QB Z a1 u1 u2 u3 u4 u5 u6 .null u8 h0 n0 v U'.heap L ∧ FrameEnd U oc U' L ({ frames := 0, cells := 0, slots := 0, locals := 0 } : Room).cells ({ frames := 0, cells := 0, slots := 0, locals := 0 } : Room).slots) := by
  refine MetFree.of_bodySF (plainFor_of_name own_pn2) hisR ?_
  intro p e s m args below meth c s₁ Bd hml0 hP hK
  obtain ⟨rfl, hZ, hh⟩ := hP
  have hx := Bd.exec
  have hby := Bd.bytes
  have hml : c.maxLocals = 2 := hml0
  have hown : s.vm.findClass "com/example/fruition/fruition/core/model/Biblio" = some m.cls := findClass_of_methodNamed Bd.named
  have hnm := (name_of_methodNamed Bd.named Bd.method).1
  have X0 : Stand p l e ({ frames := 0, cells := 0, slots := 0, locals := 0 } : Room) s m #[(.ref a1), .null] below meth c s₁ [] 0 0 := Stand.of_body Bd
  have e0 : s₁.heap = h0 := by rw [← hh, Bd.state]; rfl
  have N0 := Fr.nil n0
  have G0 : Goes p e below s₁ (entryFrame m #[(.ref a1), .null] 2) s₁ (mkF m 0 #[.val (.ref a1), .val .null] []) := fun _ k => castTop (by first | (simp [entryFrame, mkF, argsToLocals, Value.category]; done) | rfl : (entryFrame m #[(.ref a1), .null] 2) = mkF m 0 #[.val (.ref a1), .val .null] []) k
  have Zn := Nat.le_refl h0.size
  have Bk1 := B0
  obtain ⟨Ex1, F0_1, F1_1, F2_1, F3_1, F4_1, F5_1, F6_1, F7_1⟩ := Bk1
  have G2 : Goes p e below s₁ (entryFrame m #[(.ref a1), .null] 2) s₁ (mkF m 2 #[.val (.ref a1), .val .null] [.null, (.ref a1)]) := fun _ k => G0 _ (by
      show Steps p.tables e below (s₁.setTop (mkF m 0 #[.val (.ref a1), .val .null] [])) _
      refine XS.aloadN X0.here hx rfl (hb hby own_d13_0) rfl rfl ?_
      show Steps p.tables e below (s₁.setTop (mkF m 1 #[.val (.ref a1), .val .null] [(.ref a1)])) _
      refine XS.aloadN X0.here hx rfl (hb hby own_d13_1) rfl rfl ?_
      exact k)
  obtain ⟨T3, h3, X3, e3, W3, st3⟩ := putF X0 hx hZ hown (host := "") (Or.inl (hw _ (List.mem_of_getElem? (i := 79) rfl))) Via.refl e0 F6_1 Ex1 (Or.inl (hw _ (List.mem_of_getElem? (i := 80) rfl))) (hw _ (List.mem_of_getElem? (i := 27) rfl)) (ty := (.object "java/lang/String")) (by decide) rfl rfl (g := (mkF m 2 #[.val (.ref a1), .val .null] [.null, (.ref a1)])) rfl rfl (hb hby own_d13_2)
  have G3 : Goes p e below s₁ (entryFrame m #[(.ref a1), .null] 2) T3 (mkF m 5 #[.val (.ref a1), .val .null] []) := fun _ k => G2 _ (st3 _ k)
  have N3 := Fr.snoc X3 N0 ga
  have Zn : h0.size ≤ h3.size := Nat.le_trans Zn (Nat.le_of_eq W3.size.symm)
  have B3 := own_bib6 hw B0 W3
  obtain ⟨fs, hr, hrun, hended, hW, hsame⟩ := X3.leave (v := none) (fun _ => rfl)
  refine ⟨_, _, G3 _ (X3.returnOut hx Bd.returns (hb hby own_d13_5) hr), hrun, hended, _, _, rfl, ?_, ⟨_, rfl⟩, hW, hsame.mono (by decide) (by decide)⟩
  show QB Z a1 u1 u2 u3 u4 u5 u6 .null u8 h0 n0 _ T3.heap _
  rw [e3]
  exact ⟨rfl, N3, Zn, B3⟩
set_option maxRecDepth 65536 in
set_option maxHeartbeats 40000000 in
theorem rm13r (l : Launch) (Z : State) (a0 : Array Value) (hw : ∀ d ∈ tables_1, d.before a0 Z = true) (ws : List Jvm.Cond) (a1 : Addr) (u1 u2 u3 u4 u5 u6 u7 u8 : Value) (rv : Addr) (h0 : Heap) (n0 : Nat) (Z0 : n0 ≤ h0.size) (B0 : Bib Z h0 a1 u1 u2 u3 u4 u5 u6 u7 u8) (ga : n0 ≤ a1) :
    MetFree l (⟨"com/example/fruition/fruition/core/model/Biblio", "setIn", "(Ljava/lang/String;)V"⟩ : MethodName) (head1 (Jvm.Cond.code (⟨"com/example/fruition/fruition/core/model/Biblio", "setIn", "(Ljava/lang/String;)V"⟩ : MethodName) prog_30_method_14_code 2 none :: ws) ({ frames := 0, cells := 0, slots := 0, locals := 0 } : Room)) (fun a U => a = #[(.ref a1), (.ref rv)] ∧ Z.Warmed39 U.vm ∧ U.heap = h0) (fun _ _ _ _ _ => True) (fun _ U oc U' => ∃ v L, oc = .returned v ∧ QB Z a1 u1 u2 u3 u4 u5 u6 (.ref rv) u8 h0 n0 v U'.heap L ∧ FrameEnd U oc U' L ({ frames := 0, cells := 0, slots := 0, locals := 0 } : Room).cells ({ frames := 0, cells := 0, slots := 0, locals := 0 } : Room).slots) := by
  refine MetFree.of_bodySF (plainFor_of_name own_pn2) hisR ?_
  intro p e s m args below meth c s₁ Bd hml0 hP hK
  obtain ⟨rfl, hZ, hh⟩ := hP
  have hx := Bd.exec
  have hby := Bd.bytes
  have hml : c.maxLocals = 2 := hml0
  have hown : s.vm.findClass "com/example/fruition/fruition/core/model/Biblio" = some m.cls := findClass_of_methodNamed Bd.named
  have hnm := (name_of_methodNamed Bd.named Bd.method).1
  have X0 : Stand p l e ({ frames := 0, cells := 0, slots := 0, locals := 0 } : Room) s m #[(.ref a1), (.ref rv)] below meth c s₁ [] 0 0 := Stand.of_body Bd
  have e0 : s₁.heap = h0 := by rw [← hh, Bd.state]; rfl
  have N0 := Fr.nil n0
  have G0 : Goes p e below s₁ (entryFrame m #[(.ref a1), (.ref rv)] 2) s₁ (mkF m 0 #[.val (.ref a1), .val (.ref rv)] []) := fun _ k => castTop (by first | (simp [entryFrame, mkF, argsToLocals, Value.category]; done) | rfl : (entryFrame m #[(.ref a1), (.ref rv)] 2) = mkF m 0 #[.val (.ref a1), .val (.ref rv)] []) k
  have Zn := Nat.le_refl h0.size
  have Bk1 := B0
  obtain ⟨Ex1, F0_1, F1_1, F2_1, F3_1, F4_1, F5_1, F6_1, F7_1⟩ := Bk1
  have G2 : Goes p e below s₁ (entryFrame m #[(.ref a1), (.ref rv)] 2) s₁ (mkF m 2 #[.val (.ref a1), .val (.ref rv)] [(.ref rv), (.ref a1)]) := fun _ k => G0 _ (by
      show Steps p.tables e below (s₁.setTop (mkF m 0 #[.val (.ref a1), .val (.ref rv)] [])) _
      refine XS.aloadN X0.here hx rfl (hb hby own_d13_0) rfl rfl ?_
      show Steps p.tables e below (s₁.setTop (mkF m 1 #[.val (.ref a1), .val (.ref rv)] [(.ref a1)])) _
      refine XS.aloadN X0.here hx rfl (hb hby own_d13_1) rfl rfl ?_
      exact k)
  obtain ⟨T3, h3, X3, e3, W3, st3⟩ := putF X0 hx hZ hown (host := "") (Or.inl (hw _ (List.mem_of_getElem? (i := 79) rfl))) Via.refl e0 F6_1 Ex1 (Or.inl (hw _ (List.mem_of_getElem? (i := 80) rfl))) (hw _ (List.mem_of_getElem? (i := 27) rfl)) (ty := (.object "java/lang/String")) (by decide) rfl rfl (g := (mkF m 2 #[.val (.ref a1), .val (.ref rv)] [(.ref rv), (.ref a1)])) rfl rfl (hb hby own_d13_2)
  have G3 : Goes p e below s₁ (entryFrame m #[(.ref a1), (.ref rv)] 2) T3 (mkF m 5 #[.val (.ref a1), .val (.ref rv)] []) := fun _ k => G2 _ (st3 _ k)
  have N3 := Fr.snoc X3 N0 ga
  have Zn : h0.size ≤ h3.size := Nat.le_trans Zn (Nat.le_of_eq W3.size.symm)
  have B3 := own_bib6 hw B0 W3
  obtain ⟨fs, hr, hrun, hended, hW, hsame⟩ := X3.leave (v := none) (fun _ => rfl)
  refine ⟨_, _, G3 _ (X3.returnOut hx Bd.returns (hb hby own_d13_5) hr), hrun, hended, _, _, rfl, ?_, ⟨_, rfl⟩, hW, hsame.mono (by decide) (by decide)⟩
  show QB Z a1 u1 u2 u3 u4 u5 u6 (.ref rv) u8 h0 n0 _ T3.heap _
  rw [e3]
  exact ⟨rfl, N3, Zn, B3⟩
theorem rm13 (l : Launch) (Z : State) (a0 : Array Value) (hw : ∀ d ∈ tables_1, d.before a0 Z = true) (ws : List Jvm.Cond) (a1 : Addr) (u1 u2 u3 u4 u5 u6 u7 u8 v : Value) (h0 : Heap) (n0 : Nat) (Z0 : n0 ≤ h0.size) (B0 : Bib Z h0 a1 u1 u2 u3 u4 u5 u6 u7 u8) (ga : n0 ≤ a1) (hv : v.isRef = true) :
    MetFree l (⟨"com/example/fruition/fruition/core/model/Biblio", "setIn", "(Ljava/lang/String;)V"⟩ : MethodName) (head1 (Jvm.Cond.code (⟨"com/example/fruition/fruition/core/model/Biblio", "setIn", "(Ljava/lang/String;)V"⟩ : MethodName) prog_30_method_14_code 2 none :: ws) ({ frames := 0, cells := 0, slots := 0, locals := 0 } : Room)) (fun a U => a = #[(.ref a1), v] ∧ Z.Warmed39 U.vm ∧ U.heap = h0) (fun _ _ _ _ _ => True) (fun _ U o U' => ∃ w L, o = .returned w ∧ QB Z a1 u1 u2 u3 u4 u5 u6 v u8 h0 n0 w U'.heap L ∧ FrameEnd U o U' L ({ frames := 0, cells := 0, slots := 0, locals := 0 } : Room).cells ({ frames := 0, cells := 0, slots := 0, locals := 0 } : Room).slots) := by
  rcases ref_cases hv with rfl | ⟨r, rfl⟩
  · exact rm13n l Z a0 hw ws a1 u1 u2 u3 u4 u5 u6 u7 u8 h0 n0 Z0 B0 ga
  · exact rm13r l Z a0 hw ws a1 u1 u2 u3 u4 u5 u6 u7 u8 r h0 n0 Z0 B0 ga
theorem own_d14_0 : decode prog_30_method_16_code 0 = .ok (.aload_n 0, 1) := by decide +kernel
theorem own_d14_1 : decode prog_30_method_16_code 1 = .ok (.aload_n 1, 1) := by decide +kernel
theorem own_d14_2 : decode prog_30_method_16_code 2 = .ok (.putfield 31, 3) := by decide +kernel
theorem own_d14_5 : decode prog_30_method_16_code 5 = .ok (.return_, 1) := by decide +kernel
set_option maxRecDepth 65536 in
set_option maxHeartbeats 40000000 in
theorem rm14n (l : Launch) (Z : State) (a0 : Array Value) (hw : ∀ d ∈ tables_1, d.before a0 Z = true) (ws : List Jvm.Cond) (a1 : Addr) (u1 u2 u3 u4 u5 u6 u7 u8 : Value) (h0 : Heap) (n0 : Nat) (Z0 : n0 ≤ h0.size) (B0 : Bib Z h0 a1 u1 u2 u3 u4 u5 u6 u7 u8) (ga : n0 ≤ a1) :
    MetFree l (⟨"com/example/fruition/fruition/core/model/Biblio", "setHostingDataSource", "(Ljava/lang/String;)V"⟩ : MethodName) (head1 (Jvm.Cond.code (⟨"com/example/fruition/fruition/core/model/Biblio", "setHostingDataSource", "(Ljava/lang/String;)V"⟩ : MethodName) prog_30_method_16_code 2 none :: ws) ({ frames := 0, cells := 0, slots := 0, locals := 0 } : Room)) (fun a U => a = #[(.ref a1), .null] ∧ Z.Warmed39 U.vm ∧ U.heap = h0) (fun _ _ _ _ _ => True) (fun _ U oc U' => ∃ v L, oc = .returned v ∧ QB Z a1 u1 u2 u3 u4 u5 u6 u7 .null h0 n0 v U'.heap L ∧ FrameEnd U oc U' L ({ frames := 0, cells := 0, slots := 0, locals := 0 } : Room).cells ({ frames := 0, cells := 0, slots := 0, locals := 0 } : Room).slots) := by
  refine MetFree.of_bodySF (plainFor_of_name own_pn2) hisR ?_
  intro p e s m args below meth c s₁ Bd hml0 hP hK
  obtain ⟨rfl, hZ, hh⟩ := hP
  have hx := Bd.exec
  have hby := Bd.bytes
  have hml : c.maxLocals = 2 := hml0
  have hown : s.vm.findClass "com/example/fruition/fruition/core/model/Biblio" = some m.cls := findClass_of_methodNamed Bd.named
  have hnm := (name_of_methodNamed Bd.named Bd.method).1
  have X0 : Stand p l e ({ frames := 0, cells := 0, slots := 0, locals := 0 } : Room) s m #[(.ref a1), .null] below meth c s₁ [] 0 0 := Stand.of_body Bd
  have e0 : s₁.heap = h0 := by rw [← hh, Bd.state]; rfl
  have N0 := Fr.nil n0
  have G0 : Goes p e below s₁ (entryFrame m #[(.ref a1), .null] 2) s₁ (mkF m 0 #[.val (.ref a1), .val .null] []) := fun _ k => castTop (by first | (simp [entryFrame, mkF, argsToLocals, Value.category]; done) | rfl : (entryFrame m #[(.ref a1), .null] 2) = mkF m 0 #[.val (.ref a1), .val .null] []) k
  have Zn := Nat.le_refl h0.size
  have Bk1 := B0
  obtain ⟨Ex1, F0_1, F1_1, F2_1, F3_1, F4_1, F5_1, F6_1, F7_1⟩ := Bk1
  have G2 : Goes p e below s₁ (entryFrame m #[(.ref a1), .null] 2) s₁ (mkF m 2 #[.val (.ref a1), .val .null] [.null, (.ref a1)]) := fun _ k => G0 _ (by
      show Steps p.tables e below (s₁.setTop (mkF m 0 #[.val (.ref a1), .val .null] [])) _
      refine XS.aloadN X0.here hx rfl (hb hby own_d14_0) rfl rfl ?_
      show Steps p.tables e below (s₁.setTop (mkF m 1 #[.val (.ref a1), .val .null] [(.ref a1)])) _
      refine XS.aloadN X0.here hx rfl (hb hby own_d14_1) rfl rfl ?_
      exact k)
  obtain ⟨T3, h3, X3, e3, W3, st3⟩ := putF X0 hx hZ hown (host := "") (Or.inl (hw _ (List.mem_of_getElem? (i := 86) rfl))) Via.refl e0 F7_1 Ex1 (Or.inl (hw _ (List.mem_of_getElem? (i := 87) rfl))) (hw _ (List.mem_of_getElem? (i := 27) rfl)) (ty := (.object "java/lang/String")) (by decide) rfl rfl (g := (mkF m 2 #[.val (.ref a1), .val .null] [.null, (.ref a1)])) rfl rfl (hb hby own_d14_2)
  have G3 : Goes p e below s₁ (entryFrame m #[(.ref a1), .null] 2) T3 (mkF m 5 #[.val (.ref a1), .val .null] []) := fun _ k => G2 _ (st3 _ k)
  have N3 := Fr.snoc X3 N0 ga
  have Zn : h0.size ≤ h3.size := Nat.le_trans Zn (Nat.le_of_eq W3.size.symm)
  have B3 := own_bib7 hw B0 W3
  obtain ⟨fs, hr, hrun, hended, hW, hsame⟩ := X3.leave (v := none) (fun _ => rfl)
  refine ⟨_, _, G3 _ (X3.returnOut hx Bd.returns (hb hby own_d14_5) hr), hrun, hended, _, _, rfl, ?_, ⟨_, rfl⟩, hW, hsame.mono (by decide) (by decide)⟩
  show QB Z a1 u1 u2 u3 u4 u5 u6 u7 .null h0 n0 _ T3.heap _
  rw [e3]
  exact ⟨rfl, N3, Zn, B3⟩
set_option maxRecDepth 65536 in
set_option maxHeartbeats 40000000 in
theorem rm14r (l : Launch) (Z : State) (a0 : Array Value) (hw : ∀ d ∈ tables_1, d.before a0 Z = true) (ws : List Jvm.Cond) (a1 : Addr) (u1 u2 u3 u4 u5 u6 u7 u8 : Value) (rv : Addr) (h0 : Heap) (n0 : Nat) (Z0 : n0 ≤ h0.size) (B0 : Bib Z h0 a1 u1 u2 u3 u4 u5 u6 u7 u8) (ga : n0 ≤ a1) :
    MetFree l (⟨"com/example/fruition/fruition/core/model/Biblio", "setHostingDataSource", "(Ljava/lang/String;)V"⟩ : MethodName) (head1 (Jvm.Cond.code (⟨"com/example/fruition/fruition/core/model/Biblio", "setHostingDataSource", "(Ljava/lang/String;)V"⟩ : MethodName) prog_30_method_16_code 2 none :: ws) ({ frames := 0, cells := 0, slots := 0, locals := 0 } : Room)) (fun a U => a = #[(.ref a1), (.ref rv)] ∧ Z.Warmed39 U.vm ∧ U.heap = h0) (fun _ _ _ _ _ => True) (fun _ U oc U' => ∃ v L, oc = .returned v ∧ QB Z a1 u1 u2 u3 u4 u5 u6 u7 (.ref rv) h0 n0 v U'.heap L ∧ FrameEnd U oc U' L ({ frames := 0, cells := 0, slots := 0, locals := 0 } : Room).cells ({ frames := 0, cells := 0, slots := 0, locals := 0 } : Room).slots) := by
  refine MetFree.of_bodySF (plainFor_of_name own_pn2) hisR ?_
  intro p e s m args below meth c s₁ Bd hml0 hP hK
  obtain ⟨rfl, hZ, hh⟩ := hP
  have hx := Bd.exec
  have hby := Bd.bytes
  have hml : c.maxLocals = 2 := hml0
  have hown : s.vm.findClass "com/example/fruition/fruition/core/model/Biblio" = some m.cls := findClass_of_methodNamed Bd.named
  have hnm := (name_of_methodNamed Bd.named Bd.method).1
  have X0 : Stand p l e ({ frames := 0, cells := 0, slots := 0, locals := 0 } : Room) s m #[(.ref a1), (.ref rv)] below meth c s₁ [] 0 0 := Stand.of_body Bd
  have e0 : s₁.heap = h0 := by rw [← hh, Bd.state]; rfl
  have N0 := Fr.nil n0
  have G0 : Goes p e below s₁ (entryFrame m #[(.ref a1), (.ref rv)] 2) s₁ (mkF m 0 #[.val (.ref a1), .val (.ref rv)] []) := fun _ k => castTop (by first | (simp [entryFrame, mkF, argsToLocals, Value.category]; done) | rfl : (entryFrame m #[(.ref a1), (.ref rv)] 2) = mkF m 0 #[.val (.ref a1), .val (.ref rv)] []) k
  have Zn := Nat.le_refl h0.size
  have Bk1 := B0
  obtain ⟨Ex1, F0_1, F1_1, F2_1, F3_1, F4_1, F5_1, F6_1, F7_1⟩ := Bk1
  have G2 : Goes p e below s₁ (entryFrame m #[(.ref a1), (.ref rv)] 2) s₁ (mkF m 2 #[.val (.ref a1), .val (.ref rv)] [(.ref rv), (.ref a1)]) := fun _ k => G0 _ (by
      show Steps p.tables e below (s₁.setTop (mkF m 0 #[.val (.ref a1), .val (.ref rv)] [])) _
      refine XS.aloadN X0.here hx rfl (hb hby own_d14_0) rfl rfl ?_
      show Steps p.tables e below (s₁.setTop (mkF m 1 #[.val (.ref a1), .val (.ref rv)] [(.ref a1)])) _
      refine XS.aloadN X0.here hx rfl (hb hby own_d14_1) rfl rfl ?_
      exact k)
  obtain ⟨T3, h3, X3, e3, W3, st3⟩ := putF X0 hx hZ hown (host := "") (Or.inl (hw _ (List.mem_of_getElem? (i := 86) rfl))) Via.refl e0 F7_1 Ex1 (Or.inl (hw _ (List.mem_of_getElem? (i := 87) rfl))) (hw _ (List.mem_of_getElem? (i := 27) rfl)) (ty := (.object "java/lang/String")) (by decide) rfl rfl (g := (mkF m 2 #[.val (.ref a1), .val (.ref rv)] [(.ref rv), (.ref a1)])) rfl rfl (hb hby own_d14_2)
  have G3 : Goes p e below s₁ (entryFrame m #[(.ref a1), (.ref rv)] 2) T3 (mkF m 5 #[.val (.ref a1), .val (.ref rv)] []) := fun _ k => G2 _ (st3 _ k)
  have N3 := Fr.snoc X3 N0 ga
  have Zn : h0.size ≤ h3.size := Nat.le_trans Zn (Nat.le_of_eq W3.size.symm)
  have B3 := own_bib7 hw B0 W3
  obtain ⟨fs, hr, hrun, hended, hW, hsame⟩ := X3.leave (v := none) (fun _ => rfl)
  refine ⟨_, _, G3 _ (X3.returnOut hx Bd.returns (hb hby own_d14_5) hr), hrun, hended, _, _, rfl, ?_, ⟨_, rfl⟩, hW, hsame.mono (by decide) (by decide)⟩
  show QB Z a1 u1 u2 u3 u4 u5 u6 u7 (.ref rv) h0 n0 _ T3.heap _
  rw [e3]
  exact ⟨rfl, N3, Zn, B3⟩
theorem rm14 (l : Launch) (Z : State) (a0 : Array Value) (hw : ∀ d ∈ tables_1, d.before a0 Z = true) (ws : List Jvm.Cond) (a1 : Addr) (u1 u2 u3 u4 u5 u6 u7 u8 v : Value) (h0 : Heap) (n0 : Nat) (Z0 : n0 ≤ h0.size) (B0 : Bib Z h0 a1 u1 u2 u3 u4 u5 u6 u7 u8) (ga : n0 ≤ a1) (hv : v.isRef = true) :
    MetFree l (⟨"com/example/fruition/fruition/core/model/Biblio", "setHostingDataSource", "(Ljava/lang/String;)V"⟩ : MethodName) (head1 (Jvm.Cond.code (⟨"com/example/fruition/fruition/core/model/Biblio", "setHostingDataSource", "(Ljava/lang/String;)V"⟩ : MethodName) prog_30_method_16_code 2 none :: ws) ({ frames := 0, cells := 0, slots := 0, locals := 0 } : Room)) (fun a U => a = #[(.ref a1), v] ∧ Z.Warmed39 U.vm ∧ U.heap = h0) (fun _ _ _ _ _ => True) (fun _ U o U' => ∃ w L, o = .returned w ∧ QB Z a1 u1 u2 u3 u4 u5 u6 u7 v h0 n0 w U'.heap L ∧ FrameEnd U o U' L ({ frames := 0, cells := 0, slots := 0, locals := 0 } : Room).cells ({ frames := 0, cells := 0, slots := 0, locals := 0 } : Room).slots) := by
  rcases ref_cases hv with rfl | ⟨r, rfl⟩
  · exact rm14n l Z a0 hw ws a1 u1 u2 u3 u4 u5 u6 u7 u8 h0 n0 Z0 B0 ga
  · exact rm14r l Z a0 hw ws a1 u1 u2 u3 u4 u5 u6 u7 u8 r h0 n0 Z0 B0 ga
theorem own_d15_0 : decode prog_30_method_17_code 0 = .ok (.aload_n 0, 1) := by decide +kernel
theorem own_d15_1 : decode prog_30_method_17_code 1 = .ok (.getfield 7, 3) := by decide +kernel
theorem own_d15_4 : decode prog_30_method_17_code 4 = .ok (.ifnonnull 49, 3) := by decide +kernel
theorem own_d15_7 : decode prog_30_method_17_code 7 = .ok (.aload_n 0, 1) := by decide +kernel
theorem own_d15_8 : decode prog_30_method_17_code 8 = .ok (.getfield 13, 3) := by decide +kernel
theorem own_d15_11 : decode prog_30_method_17_code 11 = .ok (.ifnonnull 42, 3) := by decide +kernel
theorem own_d15_14 : decode prog_30_method_17_code 14 = .ok (.aload_n 0, 1) := by decide +kernel
theorem own_d15_15 : decode prog_30_method_17_code 15 = .ok (.getfield 19, 3) := by decide +kernel
theorem own_d15_18 : decode prog_30_method_17_code 18 = .ok (.ifnonnull 35, 3) := by decide +kernel
theorem own_d15_21 : decode prog_30_method_17_code 21 = .ok (.aload_n 0, 1) := by decide +kernel
theorem own_d15_22 : decode prog_30_method_17_code 22 = .ok (.getfield 22, 3) := by decide +kernel
theorem own_d15_25 : decode prog_30_method_17_code 25 = .ok (.ifnonnull 28, 3) := by decide +kernel
theorem own_d15_28 : decode prog_30_method_17_code 28 = .ok (.aload_n 0, 1) := by decide +kernel
theorem own_d15_29 : decode prog_30_method_17_code 29 = .ok (.getfield 25, 3) := by decide +kernel
theorem own_d15_32 : decode prog_30_method_17_code 32 = .ok (.ifnonnull 21, 3) := by decide +kernel
theorem own_d15_35 : decode prog_30_method_17_code 35 = .ok (.aload_n 0, 1) := by decide +kernel
theorem own_d15_36 : decode prog_30_method_17_code 36 = .ok (.getfield 28, 3) := by decide +kernel
theorem own_d15_39 : decode prog_30_method_17_code 39 = .ok (.ifnonnull 14, 3) := by decide +kernel
theorem own_d15_42 : decode prog_30_method_17_code 42 = .ok (.aload_n 0, 1) := by decide +kernel
theorem own_d15_43 : decode prog_30_method_17_code 43 = .ok (.getfield 31, 3) := by decide +kernel
theorem own_d15_46 : decode prog_30_method_17_code 46 = .ok (.ifnonnull 7, 3) := by decide +kernel
theorem own_d15_49 : decode prog_30_method_17_code 49 = .ok (.iconst 1, 1) := by decide +kernel
theorem own_d15_50 : decode prog_30_method_17_code 50 = .ok (.goto 4, 3) := by decide +kernel
theorem own_d15_53 : decode prog_30_method_17_code 53 = .ok (.iconst 0, 1) := by decide +kernel
theorem own_d15_54 : decode prog_30_method_17_code 54 = .ok (.ireturn, 1) := by decide +kernel
set_option maxRecDepth 65536 in
set_option maxHeartbeats 40000000 in
theorem rm15 (l : Launch) (Z : State) (a0 : Array Value) (hw : ∀ d ∈ tables_1, d.before a0 Z = true) (ws : List Jvm.Cond) (a1 : Addr) (u1 u2 u3 u4 u5 u6 u7 u8 : Value) (h0 : Heap) (n0 : Nat) (Z0 : n0 ≤ h0.size) (B0 : Bib Z h0 a1 u1 u2 u3 u4 u5 u6 u7 u8) (ru1 : u1.isRef = true) (ru2 : u2.isRef = true) (ru4 : u4.isRef = true) (ru5 : u5.isRef = true) (ru6 : u6.isRef = true) (ru7 : u7.isRef = true) (ru8 : u8.isRef = true) :
    MetFree l (⟨"com/example/fruition/fruition/core/model/Biblio", "isEmpty", "()Z"⟩ : MethodName) (head1 (Jvm.Cond.code (⟨"com/example/fruition/fruition/core/model/Biblio", "isEmpty", "()Z"⟩ : MethodName) prog_30_method_17_code 1 (some .boolean) :: ws) ({ frames := 0, cells := 0, slots := 0, locals := 0 } : Room)) (fun a U => a = #[(.ref a1)] ∧ Z.Warmed39 U.vm ∧ U.heap = h0) (fun _ _ _ _ _ => True) (fun _ U oc U' => ∃ v L, oc = .returned v ∧ Q15 u1 u2 u4 u5 u6 u7 u8 h0 n0 v U'.heap L ∧ FrameEnd U oc U' L ({ frames := 0, cells := 0, slots := 0, locals := 0 } : Room).cells ({ frames := 0, cells := 0, slots := 0, locals := 0 } : Room).slots) := by
  refine MetFree.of_bodySF (plainFor_of_name own_pn2) hisR ?_
  intro p e s m args below meth c s₁ Bd hml0 hP hK
  obtain ⟨rfl, hZ, hh⟩ := hP
  have hx := Bd.exec
  have hby := Bd.bytes
  have hml : c.maxLocals = 1 := hml0
  have hown : s.vm.findClass "com/example/fruition/fruition/core/model/Biblio" = some m.cls := findClass_of_methodNamed Bd.named
  have hnm := (name_of_methodNamed Bd.named Bd.method).1
  have X0 : Stand p l e ({ frames := 0, cells := 0, slots := 0, locals := 0 } : Room) s m #[(.ref a1)] below meth c s₁ [] 0 0 := Stand.of_body Bd
  have e0 : s₁.heap = h0 := by rw [← hh, Bd.state]; rfl
  have N0 := Fr.nil n0
  have G0 : Goes p e below s₁ (entryFrame m #[(.ref a1)] 1) s₁ (mkF m 0 #[.val (.ref a1)] []) := fun _ k => castTop (by first | (simp [entryFrame, mkF, argsToLocals, Value.category]; done) | rfl : (entryFrame m #[(.ref a1)] 1) = mkF m 0 #[.val (.ref a1)] []) k
  have Bc := B0
  obtain ⟨Ex, F0, F1, F2, F3, F4, F5, F6, F7⟩ := Bc
  have G1 : Goes p e below s₁ (entryFrame m #[(.ref a1)] 1) s₁ (mkF m 1 #[.val (.ref a1)] [(.ref a1)]) := fun _ k => G0 _ (by
      show Steps p.tables e below (s₁.setTop (mkF m 0 #[.val (.ref a1)] [])) _
      refine XS.aloadN X0.here hx rfl (hb hby own_d15_0) rfl rfl ?_
      exact k)
  obtain ⟨T2, X2, e2, st2⟩ := getF X0 hx hZ hown (host := "") (Or.inl (hw _ (List.mem_of_getElem? (i := 42) rfl))) Via.refl e0 F0 (g := (mkF m 1 #[.val (.ref a1)] [(.ref a1)])) rfl rfl (hb hby own_d15_1)
  have G2 : Goes p e below s₁ (entryFrame m #[(.ref a1)] 1) T2 (mkF m 4 #[.val (.ref a1)] [u1]) := fun _ k => G1 _ (st2 _ k)
  by_cases hq0 : u1 = .null
  · have G3 : Goes p e below s₁ (entryFrame m #[(.ref a1)] 1) T2 (mkF m 7 #[.val (.ref a1)] []) := fun _ k => G2 _ (by
        show Steps p.tables e below (T2.setTop (mkF m 4 #[.val (.ref a1)] [u1])) _
        refine Jvm.Free.XT.nonnullNo X2.here hx rfl (hb hby own_d15_4) rfl hq0 ?_
        exact k)
    have G4 : Goes p e below s₁ (entryFrame m #[(.ref a1)] 1) T2 (mkF m 8 #[.val (.ref a1)] [(.ref a1)]) := fun _ k => G3 _ (by
        show Steps p.tables e below (T2.setTop (mkF m 7 #[.val (.ref a1)] [])) _
        refine XS.aloadN X2.here hx rfl (hb hby own_d15_7) rfl rfl ?_
        exact k)
    obtain ⟨T5, X5, e5, st5⟩ := getF X2 hx hZ hown (host := "") (Or.inl (hw _ (List.mem_of_getElem? (i := 49) rfl))) Via.refl e2 F1 (g := (mkF m 8 #[.val (.ref a1)] [(.ref a1)])) rfl rfl (hb hby own_d15_8)
    have G5 : Goes p e below s₁ (entryFrame m #[(.ref a1)] 1) T5 (mkF m 11 #[.val (.ref a1)] [u2]) := fun _ k => G4 _ (st5 _ k)
    by_cases hq1 : u2 = .null
    · have G6 : Goes p e below s₁ (entryFrame m #[(.ref a1)] 1) T5 (mkF m 14 #[.val (.ref a1)] []) := fun _ k => G5 _ (by
          show Steps p.tables e below (T5.setTop (mkF m 11 #[.val (.ref a1)] [u2])) _
          refine Jvm.Free.XT.nonnullNo X5.here hx rfl (hb hby own_d15_11) rfl hq1 ?_
          exact k)
      have G7 : Goes p e below s₁ (entryFrame m #[(.ref a1)] 1) T5 (mkF m 15 #[.val (.ref a1)] [(.ref a1)]) := fun _ k => G6 _ (by
          show Steps p.tables e below (T5.setTop (mkF m 14 #[.val (.ref a1)] [])) _
          refine XS.aloadN X5.here hx rfl (hb hby own_d15_14) rfl rfl ?_
          exact k)
      obtain ⟨T8, X8, e8, st8⟩ := getF X5 hx hZ hown (host := "") (Or.inl (hw _ (List.mem_of_getElem? (i := 58) rfl))) Via.refl e5 F3 (g := (mkF m 15 #[.val (.ref a1)] [(.ref a1)])) rfl rfl (hb hby own_d15_15)
      have G8 : Goes p e below s₁ (entryFrame m #[(.ref a1)] 1) T8 (mkF m 18 #[.val (.ref a1)] [u4]) := fun _ k => G7 _ (st8 _ k)
      by_cases hq2 : u4 = .null
      · have G9 : Goes p e below s₁ (entryFrame m #[(.ref a1)] 1) T8 (mkF m 21 #[.val (.ref a1)] []) := fun _ k => G8 _ (by
            show Steps p.tables e below (T8.setTop (mkF m 18 #[.val (.ref a1)] [u4])) _
            refine Jvm.Free.XT.nonnullNo X8.here hx rfl (hb hby own_d15_18) rfl hq2 ?_
            exact k)
        have G10 : Goes p e below s₁ (entryFrame m #[(.ref a1)] 1) T8 (mkF m 22 #[.val (.ref a1)] [(.ref a1)]) := fun _ k => G9 _ (by
            show Steps p.tables e below (T8.setTop (mkF m 21 #[.val (.ref a1)] [])) _
            refine XS.aloadN X8.here hx rfl (hb hby own_d15_21) rfl rfl ?_
            exact k)
        obtain ⟨T11, X11, e11, st11⟩ := getF X8 hx hZ hown (host := "") (Or.inl (hw _ (List.mem_of_getElem? (i := 65) rfl))) Via.refl e8 F4 (g := (mkF m 22 #[.val (.ref a1)] [(.ref a1)])) rfl rfl (hb hby own_d15_22)
        have G11 : Goes p e below s₁ (entryFrame m #[(.ref a1)] 1) T11 (mkF m 25 #[.val (.ref a1)] [u5]) := fun _ k => G10 _ (st11 _ k)
        by_cases hq3 : u5 = .null
        · have G12 : Goes p e below s₁ (entryFrame m #[(.ref a1)] 1) T11 (mkF m 28 #[.val (.ref a1)] []) := fun _ k => G11 _ (by
              show Steps p.tables e below (T11.setTop (mkF m 25 #[.val (.ref a1)] [u5])) _
              refine Jvm.Free.XT.nonnullNo X11.here hx rfl (hb hby own_d15_25) rfl hq3 ?_
              exact k)
          have G13 : Goes p e below s₁ (entryFrame m #[(.ref a1)] 1) T11 (mkF m 29 #[.val (.ref a1)] [(.ref a1)]) := fun _ k => G12 _ (by
              show Steps p.tables e below (T11.setTop (mkF m 28 #[.val (.ref a1)] [])) _
              refine XS.aloadN X11.here hx rfl (hb hby own_d15_28) rfl rfl ?_
              exact k)
          obtain ⟨T14, X14, e14, st14⟩ := getF X11 hx hZ hown (host := "") (Or.inl (hw _ (List.mem_of_getElem? (i := 72) rfl))) Via.refl e11 F5 (g := (mkF m 29 #[.val (.ref a1)] [(.ref a1)])) rfl rfl (hb hby own_d15_29)
          have G14 : Goes p e below s₁ (entryFrame m #[(.ref a1)] 1) T14 (mkF m 32 #[.val (.ref a1)] [u6]) := fun _ k => G13 _ (st14 _ k)
          by_cases hq4 : u6 = .null
          · have G15 : Goes p e below s₁ (entryFrame m #[(.ref a1)] 1) T14 (mkF m 35 #[.val (.ref a1)] []) := fun _ k => G14 _ (by
                show Steps p.tables e below (T14.setTop (mkF m 32 #[.val (.ref a1)] [u6])) _
                refine Jvm.Free.XT.nonnullNo X14.here hx rfl (hb hby own_d15_32) rfl hq4 ?_
                exact k)
            have G16 : Goes p e below s₁ (entryFrame m #[(.ref a1)] 1) T14 (mkF m 36 #[.val (.ref a1)] [(.ref a1)]) := fun _ k => G15 _ (by
                show Steps p.tables e below (T14.setTop (mkF m 35 #[.val (.ref a1)] [])) _
                refine XS.aloadN X14.here hx rfl (hb hby own_d15_35) rfl rfl ?_
                exact k)
            obtain ⟨T17, X17, e17, st17⟩ := getF X14 hx hZ hown (host := "") (Or.inl (hw _ (List.mem_of_getElem? (i := 79) rfl))) Via.refl e14 F6 (g := (mkF m 36 #[.val (.ref a1)] [(.ref a1)])) rfl rfl (hb hby own_d15_36)
            have G17 : Goes p e below s₁ (entryFrame m #[(.ref a1)] 1) T17 (mkF m 39 #[.val (.ref a1)] [u7]) := fun _ k => G16 _ (st17 _ k)
            by_cases hq5 : u7 = .null
            · have G18 : Goes p e below s₁ (entryFrame m #[(.ref a1)] 1) T17 (mkF m 42 #[.val (.ref a1)] []) := fun _ k => G17 _ (by
                  show Steps p.tables e below (T17.setTop (mkF m 39 #[.val (.ref a1)] [u7])) _
                  refine Jvm.Free.XT.nonnullNo X17.here hx rfl (hb hby own_d15_39) rfl hq5 ?_
                  exact k)
              have G19 : Goes p e below s₁ (entryFrame m #[(.ref a1)] 1) T17 (mkF m 43 #[.val (.ref a1)] [(.ref a1)]) := fun _ k => G18 _ (by
                  show Steps p.tables e below (T17.setTop (mkF m 42 #[.val (.ref a1)] [])) _
                  refine XS.aloadN X17.here hx rfl (hb hby own_d15_42) rfl rfl ?_
                  exact k)
              obtain ⟨T20, X20, e20, st20⟩ := getF X17 hx hZ hown (host := "") (Or.inl (hw _ (List.mem_of_getElem? (i := 86) rfl))) Via.refl e17 F7 (g := (mkF m 43 #[.val (.ref a1)] [(.ref a1)])) rfl rfl (hb hby own_d15_43)
              have G20 : Goes p e below s₁ (entryFrame m #[(.ref a1)] 1) T20 (mkF m 46 #[.val (.ref a1)] [u8]) := fun _ k => G19 _ (st20 _ k)
              by_cases hq6 : u8 = .null
              · have G21 : Goes p e below s₁ (entryFrame m #[(.ref a1)] 1) T20 (mkF m 49 #[.val (.ref a1)] []) := fun _ k => G20 _ (by
                    show Steps p.tables e below (T20.setTop (mkF m 46 #[.val (.ref a1)] [u8])) _
                    refine Jvm.Free.XT.nonnullNo X20.here hx rfl (hb hby own_d15_46) rfl hq6 ?_
                    exact k)
                have G22 : Goes p e below s₁ (entryFrame m #[(.ref a1)] 1) T20 (mkF m 54 #[.val (.ref a1)] [(.int (1 : Int32))]) := fun _ k => G21 _ (by
                    show Steps p.tables e below (T20.setTop (mkF m 49 #[.val (.ref a1)] [])) _
                    refine XS.iconst X20.here hx rfl (hb hby own_d15_49) ?_
                    show Steps p.tables e below (T20.setTop (mkF m 50 #[.val (.ref a1)] [(.int (1 : Int32))])) _
                    refine XS.goto X20.here hx rfl (pc0 := 50) (pc' := 54) rfl (hb hby own_d15_50) (by decide) (by decide) ?_
                    exact k)
                obtain ⟨fs, hr, hrun, hended, hW, hsame⟩ := X20.leave (v := some (.int (1 : Int32))) (fun h => by rw [Bd.returns] at h; cases h)
                refine ⟨_, _, G22 _ (retN X20 hx (t := .boolean) Bd.returns (by simp) (hb hby own_d15_54) hr), hrun, hended, _, _, rfl, ?_, ⟨_, rfl⟩, hW, hsame.mono (by decide) (by decide)⟩
                show Q15 u1 u2 u4 u5 u6 u7 u8 h0 n0 _ T20.heap _
                rw [e20]
                exact ⟨(1 : Int32), rfl, Or.inr rfl, by simp [hq0, hq1, hq2, hq3, hq4, hq5, hq6], N0, rfl⟩
              · have G23 : Goes p e below s₁ (entryFrame m #[(.ref a1)] 1) T20 (mkF m 53 #[.val (.ref a1)] []) := fun _ k => G20 _ (by
                    show Steps p.tables e below (T20.setTop (mkF m 46 #[.val (.ref a1)] [u8])) _
                    refine Jvm.Free.XT.nonnullYes X20.here hx rfl (pc0 := 46) (pc' := 53) rfl (hb hby own_d15_46) rfl ru8 hq6 (by decide) (by decide) ?_
                    exact k)
                have G24 : Goes p e below s₁ (entryFrame m #[(.ref a1)] 1) T20 (mkF m 54 #[.val (.ref a1)] [(.int (0 : Int32))]) := fun _ k => G23 _ (by
                    show Steps p.tables e below (T20.setTop (mkF m 53 #[.val (.ref a1)] [])) _
                    refine XS.iconst X20.here hx rfl (hb hby own_d15_53) ?_
                    exact k)
                obtain ⟨fs, hr, hrun, hended, hW, hsame⟩ := X20.leave (v := some (.int (0 : Int32))) (fun h => by rw [Bd.returns] at h; cases h)
                refine ⟨_, _, G24 _ (retN X20 hx (t := .boolean) Bd.returns (by simp) (hb hby own_d15_54) hr), hrun, hended, _, _, rfl, ?_, ⟨_, rfl⟩, hW, hsame.mono (by decide) (by decide)⟩
                show Q15 u1 u2 u4 u5 u6 u7 u8 h0 n0 _ T20.heap _
                rw [e20]
                exact ⟨(0 : Int32), rfl, Or.inl rfl, by simp [hq0, hq1, hq2, hq3, hq4, hq5, hq6], N0, rfl⟩
            · have G25 : Goes p e below s₁ (entryFrame m #[(.ref a1)] 1) T17 (mkF m 53 #[.val (.ref a1)] []) := fun _ k => G17 _ (by
                  show Steps p.tables e below (T17.setTop (mkF m 39 #[.val (.ref a1)] [u7])) _
                  refine Jvm.Free.XT.nonnullYes X17.here hx rfl (pc0 := 39) (pc' := 53) rfl (hb hby own_d15_39) rfl ru7 hq5 (by decide) (by decide) ?_
                  exact k)
              have G26 : Goes p e below s₁ (entryFrame m #[(.ref a1)] 1) T17 (mkF m 54 #[.val (.ref a1)] [(.int (0 : Int32))]) := fun _ k => G25 _ (by
                  show Steps p.tables e below (T17.setTop (mkF m 53 #[.val (.ref a1)] [])) _
                  refine XS.iconst X17.here hx rfl (hb hby own_d15_53) ?_
                  exact k)
              obtain ⟨fs, hr, hrun, hended, hW, hsame⟩ := X17.leave (v := some (.int (0 : Int32))) (fun h => by rw [Bd.returns] at h; cases h)
              refine ⟨_, _, G26 _ (retN X17 hx (t := .boolean) Bd.returns (by simp) (hb hby own_d15_54) hr), hrun, hended, _, _, rfl, ?_, ⟨_, rfl⟩, hW, hsame.mono (by decide) (by decide)⟩
              show Q15 u1 u2 u4 u5 u6 u7 u8 h0 n0 _ T17.heap _
              rw [e17]
              exact ⟨(0 : Int32), rfl, Or.inl rfl, by simp [hq0, hq1, hq2, hq3, hq4, hq5], N0, rfl⟩
          · have G27 : Goes p e below s₁ (entryFrame m #[(.ref a1)] 1) T14 (mkF m 53 #[.val (.ref a1)] []) := fun _ k => G14 _ (by
                show Steps p.tables e below (T14.setTop (mkF m 32 #[.val (.ref a1)] [u6])) _
                refine Jvm.Free.XT.nonnullYes X14.here hx rfl (pc0 := 32) (pc' := 53) rfl (hb hby own_d15_32) rfl ru6 hq4 (by decide) (by decide) ?_
                exact k)
            have G28 : Goes p e below s₁ (entryFrame m #[(.ref a1)] 1) T14 (mkF m 54 #[.val (.ref a1)] [(.int (0 : Int32))]) := fun _ k => G27 _ (by
                show Steps p.tables e below (T14.setTop (mkF m 53 #[.val (.ref a1)] [])) _
                refine XS.iconst X14.here hx rfl (hb hby own_d15_53) ?_
                exact k)
            obtain ⟨fs, hr, hrun, hended, hW, hsame⟩ := X14.leave (v := some (.int (0 : Int32))) (fun h => by rw [Bd.returns] at h; cases h)
            refine ⟨_, _, G28 _ (retN X14 hx (t := .boolean) Bd.returns (by simp) (hb hby own_d15_54) hr), hrun, hended, _, _, rfl, ?_, ⟨_, rfl⟩, hW, hsame.mono (by decide) (by decide)⟩
            show Q15 u1 u2 u4 u5 u6 u7 u8 h0 n0 _ T14.heap _
            rw [e14]
            exact ⟨(0 : Int32), rfl, Or.inl rfl, by simp [hq0, hq1, hq2, hq3, hq4], N0, rfl⟩
        · have G29 : Goes p e below s₁ (entryFrame m #[(.ref a1)] 1) T11 (mkF m 53 #[.val (.ref a1)] []) := fun _ k => G11 _ (by
              show Steps p.tables e below (T11.setTop (mkF m 25 #[.val (.ref a1)] [u5])) _
              refine Jvm.Free.XT.nonnullYes X11.here hx rfl (pc0 := 25) (pc' := 53) rfl (hb hby own_d15_25) rfl ru5 hq3 (by decide) (by decide) ?_
              exact k)
          have G30 : Goes p e below s₁ (entryFrame m #[(.ref a1)] 1) T11 (mkF m 54 #[.val (.ref a1)] [(.int (0 : Int32))]) := fun _ k => G29 _ (by
              show Steps p.tables e below (T11.setTop (mkF m 53 #[.val (.ref a1)] [])) _
              refine XS.iconst X11.here hx rfl (hb hby own_d15_53) ?_
              exact k)
          obtain ⟨fs, hr, hrun, hended, hW, hsame⟩ := X11.leave (v := some (.int (0 : Int32))) (fun h => by rw [Bd.returns] at h; cases h)
          refine ⟨_, _, G30 _ (retN X11 hx (t := .boolean) Bd.returns (by simp) (hb hby own_d15_54) hr), hrun, hended, _, _, rfl, ?_, ⟨_, rfl⟩, hW, hsame.mono (by decide) (by decide)⟩
          show Q15 u1 u2 u4 u5 u6 u7 u8 h0 n0 _ T11.heap _
          rw [e11]
          exact ⟨(0 : Int32), rfl, Or.inl rfl, by simp [hq0, hq1, hq2, hq3], N0, rfl⟩
      · have G31 : Goes p e below s₁ (entryFrame m #[(.ref a1)] 1) T8 (mkF m 53 #[.val (.ref a1)] []) := fun _ k => G8 _ (by
            show Steps p.tables e below (T8.setTop (mkF m 18 #[.val (.ref a1)] [u4])) _
            refine Jvm.Free.XT.nonnullYes X8.here hx rfl (pc0 := 18) (pc' := 53) rfl (hb hby own_d15_18) rfl ru4 hq2 (by decide) (by decide) ?_
            exact k)
        have G32 : Goes p e below s₁ (entryFrame m #[(.ref a1)] 1) T8 (mkF m 54 #[.val (.ref a1)] [(.int (0 : Int32))]) := fun _ k => G31 _ (by
            show Steps p.tables e below (T8.setTop (mkF m 53 #[.val (.ref a1)] [])) _
            refine XS.iconst X8.here hx rfl (hb hby own_d15_53) ?_
            exact k)
        obtain ⟨fs, hr, hrun, hended, hW, hsame⟩ := X8.leave (v := some (.int (0 : Int32))) (fun h => by rw [Bd.returns] at h; cases h)
        refine ⟨_, _, G32 _ (retN X8 hx (t := .boolean) Bd.returns (by simp) (hb hby own_d15_54) hr), hrun, hended, _, _, rfl, ?_, ⟨_, rfl⟩, hW, hsame.mono (by decide) (by decide)⟩
        show Q15 u1 u2 u4 u5 u6 u7 u8 h0 n0 _ T8.heap _
        rw [e8]
        exact ⟨(0 : Int32), rfl, Or.inl rfl, by simp [hq0, hq1, hq2], N0, rfl⟩
    · have G33 : Goes p e below s₁ (entryFrame m #[(.ref a1)] 1) T5 (mkF m 53 #[.val (.ref a1)] []) := fun _ k => G5 _ (by
          show Steps p.tables e below (T5.setTop (mkF m 11 #[.val (.ref a1)] [u2])) _
          refine Jvm.Free.XT.nonnullYes X5.here hx rfl (pc0 := 11) (pc' := 53) rfl (hb hby own_d15_11) rfl ru2 hq1 (by decide) (by decide) ?_
          exact k)
      have G34 : Goes p e below s₁ (entryFrame m #[(.ref a1)] 1) T5 (mkF m 54 #[.val (.ref a1)] [(.int (0 : Int32))]) := fun _ k => G33 _ (by
          show Steps p.tables e below (T5.setTop (mkF m 53 #[.val (.ref a1)] [])) _
          refine XS.iconst X5.here hx rfl (hb hby own_d15_53) ?_
          exact k)
      obtain ⟨fs, hr, hrun, hended, hW, hsame⟩ := X5.leave (v := some (.int (0 : Int32))) (fun h => by rw [Bd.returns] at h; cases h)
      refine ⟨_, _, G34 _ (retN X5 hx (t := .boolean) Bd.returns (by simp) (hb hby own_d15_54) hr), hrun, hended, _, _, rfl, ?_, ⟨_, rfl⟩, hW, hsame.mono (by decide) (by decide)⟩
      show Q15 u1 u2 u4 u5 u6 u7 u8 h0 n0 _ T5.heap _
      rw [e5]
      exact ⟨(0 : Int32), rfl, Or.inl rfl, by simp [hq0, hq1], N0, rfl⟩
  · have G35 : Goes p e below s₁ (entryFrame m #[(.ref a1)] 1) T2 (mkF m 53 #[.val (.ref a1)] []) := fun _ k => G2 _ (by
        show Steps p.tables e below (T2.setTop (mkF m 4 #[.val (.ref a1)] [u1])) _
        refine Jvm.Free.XT.nonnullYes X2.here hx rfl (pc0 := 4) (pc' := 53) rfl (hb hby own_d15_4) rfl ru1 hq0 (by decide) (by decide) ?_
        exact k)
    have G36 : Goes p e below s₁ (entryFrame m #[(.ref a1)] 1) T2 (mkF m 54 #[.val (.ref a1)] [(.int (0 : Int32))]) := fun _ k => G35 _ (by
        show Steps p.tables e below (T2.setTop (mkF m 53 #[.val (.ref a1)] [])) _
        refine XS.iconst X2.here hx rfl (hb hby own_d15_53) ?_
        exact k)
    obtain ⟨fs, hr, hrun, hended, hW, hsame⟩ := X2.leave (v := some (.int (0 : Int32))) (fun h => by rw [Bd.returns] at h; cases h)
    refine ⟨_, _, G36 _ (retN X2 hx (t := .boolean) Bd.returns (by simp) (hb hby own_d15_54) hr), hrun, hended, _, _, rfl, ?_, ⟨_, rfl⟩, hW, hsame.mono (by decide) (by decide)⟩
    show Q15 u1 u2 u4 u5 u6 u7 u8 h0 n0 _ T2.heap _
    rw [e2]
    exact ⟨(0 : Int32), rfl, Or.inl rfl, by simp [hq0], N0, rfl⟩
set_option maxRecDepth 65536 in
set_option maxHeartbeats 40000000 in
theorem rm0 (l : Launch) (Z : State) (a0 : Array Value) (hw : ∀ d ∈ tables_1, d.before a0 Z = true) (ws : List Jvm.Cond) (p1 p2 p3 z : Int32) (h0 : Heap) (n0 : Nat) (Z0 : n0 ≤ h0.size) (S0 : Sta Z h0 "java/lang/String" "COMPACT_STRINGS" "Z" (.int z)) (hz : ¬ z = 0) :
    MetFree l x (head1 (Jvm.Cond.code x code maxLocals ret :: ws) room_1) (fun a U => a = #[(.int p1), (.int p2), (.int p3)] ∧ Z.Warmed39 U.vm ∧ U.heap = h0) (fun _ _ _ _ _ => True) (fun _ U oc U' => ∃ v L, oc = .returned v ∧ Q0 n0 v U'.heap L ∧ ReturnedEndW U oc U' L 16 1152) := by
  refine MetFree.of_bodySF (plainFor_of_name own_pn3) hisR ?_
  intro p e s m args below meth c s₁ Bd hml0 hP hK
  obtain ⟨rfl, hZ, hh⟩ := hP
  have hx := Bd.exec
  have hby := Bd.bytes
  have hml : c.maxLocals = 7 := hml0
  have hown : s.vm.findClass "com/example/fruition/fruition/core/model/BiblioIsEmptyPinLaw" = some m.cls := findClass_of_methodNamed Bd.named
  have hnm := (name_of_methodNamed Bd.named Bd.method).1
  have X0 : Stand p l e room_1 s m #[(.int p1), (.int p2), (.int p3)] below meth c s₁ [] 0 0 := Stand.of_body Bd
  have e0 : s₁.heap = h0 := by rw [← hh, Bd.state]; rfl
  have N0 := Fr.nil n0
  have G0 : Goes p e below s₁ (entryFrame m #[(.int p1), (.int p2), (.int p3)] maxLocals) s₁ (mkF m 0 #[.val (.int p1), .val (.int p2), .val (.int p3), .unset, .unset, .unset, .unset] []) := fun _ k => castTop (by first | (simp [entryFrame, mkF, argsToLocals, Value.category, maxLocals]; done) | rfl : (entryFrame m #[(.int p1), (.int p2), (.int p3)] maxLocals) = mkF m 0 #[.val (.int p1), .val (.int p2), .val (.int p3), .unset, .unset, .unset, .unset] []) k
  have G1 : Goes p e below s₁ (entryFrame m #[(.int p1), (.int p2), (.int p3)] maxLocals) s₁ (mkF m 3 #[.val (.int p1), .val (.int p2), .val (.int p3), .unset, .unset, .unset, .unset] [(.int (p3 &&& (1 : Int32)))]) := fun _ k => G0 _ (by
      show Steps p.tables e below (s₁.setTop (mkF m 0 #[.val (.int p1), .val (.int p2), .val (.int p3), .unset, .unset, .unset, .unset] [])) _
      refine XS.iloadN X0.here hx rfl (hb hby at_0) rfl ?_
      show Steps p.tables e below (s₁.setTop (mkF m 1 #[.val (.int p1), .val (.int p2), .val (.int p3), .unset, .unset, .unset, .unset] [(.int p3)])) _
      refine XS.iconst X0.here hx rfl (hb hby at_1) ?_
      show Steps p.tables e below (s₁.setTop (mkF m 2 #[.val (.int p1), .val (.int p2), .val (.int p3), .unset, .unset, .unset, .unset] [(.int (1 : Int32)), (.int p3)])) _
      refine XS.iand X0.here hx rfl (hb hby at_2) rfl ?_
      exact k)
  obtain ⟨vm0, T', h', a', k0, lc, X', e', Zn, hS, hk, hZ', hown', N', G'⟩ : ∃ (vm0 : Vm) (T' : State) (h' : Heap) (a' : Addr) (k0 : Nat) (lc : List Loc), Stand p l e room_1 (s.setVm vm0) m #[(.int p1), (.int p2), (.int p3)] below meth c T' lc 2 5 ∧ T'.heap = h' ∧ n0 ≤ h'.size ∧ s.Since vm0 k0 ∧ k0 ≤ h'.size ∧ Z.Warmed39 (s.setVm vm0).vm ∧ (s.setVm vm0).vm.findClass "com/example/fruition/fruition/core/model/BiblioIsEmptyPinLaw" = some m.cls ∧ Fr n0 lc ∧ Goes p e below s₁ (entryFrame m #[(.int p1), (.int p2), (.int p3)] maxLocals) T' (mkF m 20 #[.val (.int p1), .val (.int p2), .val (.int p3), .unset, .unset, .unset, .unset] [(.ref a')]) := by
    by_cases hc3 : (p3 &&& (1 : Int32)) = (0 : Int32)
    · have G2 : Goes p e below s₁ (entryFrame m #[(.int p1), (.int p2), (.int p3)] maxLocals) s₁ (mkF m 11 #[.val (.int p1), .val (.int p2), .val (.int p3), .unset, .unset, .unset, .unset] []) := fun _ k => G1 _ (by
          show Steps p.tables e below (s₁.setTop (mkF m 3 #[.val (.int p1), .val (.int p2), .val (.int p3), .unset, .unset, .unset, .unset] [(.int (p3 &&& (1 : Int32)))])) _
          refine XS.ifYes X0.here hx rfl (pc0 := 3) (pc' := 11) rfl (hb hby at_3) rfl ((if0 _ _).trans (teq hc3).1) (by decide) (by decide) ?_
          exact k)
      have G3 : Goes p e below s₁ (entryFrame m #[(.int p1), (.int p2), (.int p3)] maxLocals) s₁ (mkF m 17 #[.val (.int p1), .val (.int p2), .val (.int p3), .unset, .unset, .unset, .unset] [(.int ((p2 &&& (255 : Int32)).toUInt32.toUInt16.toUInt32.toInt32))]) := fun _ k => G2 _ (by
          show Steps p.tables e below (s₁.setTop (mkF m 11 #[.val (.int p1), .val (.int p2), .val (.int p3), .unset, .unset, .unset, .unset] [])) _
          refine XS.iloadN X0.here hx rfl (hb hby at_11) rfl ?_
          show Steps p.tables e below (s₁.setTop (mkF m 12 #[.val (.int p1), .val (.int p2), .val (.int p3), .unset, .unset, .unset, .unset] [(.int p2)])) _
          refine XS.sipush X0.here hx rfl (hb hby at_12) ?_
          show Steps p.tables e below (s₁.setTop (mkF m 15 #[.val (.int p1), .val (.int p2), .val (.int p3), .unset, .unset, .unset, .unset] [(.int (255 : Int32)), (.int p2)])) _
          refine XS.iand X0.here hx rfl (hb hby at_15) rfl ?_
          show Steps p.tables e below (s₁.setTop (mkF m 16 #[.val (.int p1), .val (.int p2), .val (.int p3), .unset, .unset, .unset, .unset] [(.int (p2 &&& (255 : Int32)))])) _
          refine XS.i2c X0.here hx rfl (hb hby at_16) rfl ?_
          exact k)
      obtain ⟨_, _, ⟨T4, L4, k4, n4⟩, -, X4, ⟨Lc4, hQ4, l4, y4, z4⟩, st4⟩ := Jvm.LawKit.callS X0 hx (y := (⟨"java/lang/String", "valueOf", "(C)Ljava/lang/String;"⟩ : MethodName)) hown (mvT hZ (hw _ (List.mem_of_getElem? (i := 0) rfl))) (mvT hZ (hw _ (List.mem_of_getElem? (i := 1) rfl))) (mvT hZ (hw _ (List.mem_of_getElem? (i := 2) rfl))) (mvT hZ (hw _ (List.mem_of_getElem? (i := 3) rfl))) (by decide) (backOf (W := 0) (rm1 l Z a0 hw [] (p2 &&& (255 : Int32)).toUInt32.toUInt16.toUInt32.toInt32 z h0 n0 Z0 (own_char p2) S0 hz) hZ (hw _ (List.mem_of_getElem? (i := 3) rfl)) (hw _ (List.mem_of_getElem? (i := 2) rfl)) (by decide) (by decide)) (g := (mkF m 17 #[.val (.int p1), .val (.int p2), .val (.int p3), .unset, .unset, .unset, .unset] [(.int ((p2 &&& (255 : Int32)).toUInt32.toUInt16.toUInt32.toInt32))])) rfl (by rw [hml]; rfl) (argsL := [(.int ((p2 &&& (255 : Int32)).toUInt32.toUInt16.toUInt32.toInt32))]) (rest := []) (lenOf own_pd3 rfl) rfl (by show 2 * 0 + _ ≤ _; exact Nat.le_of_eq rfl) (hb hby at_17) (fun _ _ => ⟨rfl, e0, (by decide : 0 + 2 ≤ _), (by decide : 0 + 5 ≤ _)⟩)
      dsimp only [Pt.U, Pt.locs, Pt.cells, Pt.slots] at X4 l4 y4 z4 st4 hQ4
      subst l4 y4 z4
      obtain ⟨t4, rfl, N4q, K4⟩ := hQ4
      have N4 := Fr.app N0 N4q
      have G4 : Goes p e below s₁ (entryFrame m #[(.int p1), (.int p2), (.int p3)] maxLocals) T4 (mkF m 20 #[.val (.int p1), .val (.int p2), .val (.int p3), .unset, .unset, .unset, .unset] [(.ref t4)]) := fun _ k => G3 _ (st4 _ k)
      have hZs : Z.Warmed39 s.vm := hZ
      exact ⟨s.vm, T4, _, t4, 0, _, X4, rfl, Nat.le_trans Z0 K4.1, (State.WarmedH.refl s).since 0, Nat.zero_le _, hZ, hown, N4, G4⟩
    · have G5 : Goes p e below s₁ (entryFrame m #[(.int p1), (.int p2), (.int p3)] maxLocals) s₁ (mkF m 6 #[.val (.int p1), .val (.int p2), .val (.int p3), .unset, .unset, .unset, .unset] []) := fun _ k => G1 _ (by
          show Steps p.tables e below (s₁.setTop (mkF m 3 #[.val (.int p1), .val (.int p2), .val (.int p3), .unset, .unset, .unset, .unset] [(.int (p3 &&& (1 : Int32)))])) _
          refine XS.ifNo X0.here hx rfl (hb hby at_3) rfl ((if0 _ _).trans (feq hc3).1) ?_
          exact k)
      have X0' : Stand p l e room_1 (s.setVm s.vm) m #[(.int p1), (.int p2), (.int p3)] below meth c s₁ [] 0 0 := X0
      obtain ⟨a6, T6, h6, k6, X6, e6, E6, hS6, hk6, hZ6, hown6, st6⟩ := ldcS X0' hx hZ hown (hw _ (List.mem_of_getElem? (i := 93) rfl)) (own_strings hw) e0 ((State.WarmedH.refl s).since 0) (Nat.zero_le _) (g := (mkF m 6 #[.val (.int p1), .val (.int p2), .val (.int p3), .unset, .unset, .unset, .unset] [])) rfl (hb hby at_6) (n := 0) (by decide) (by decide) (by decide) (by decide)
      have G6 : Goes p e below s₁ (entryFrame m #[(.int p1), (.int p2), (.int p3)] maxLocals) T6 (mkF m 8 #[.val (.int p1), .val (.int p2), .val (.int p3), .unset, .unset, .unset, .unset] [(.ref a6)]) := fun _ k => G5 _ (st6 _ k)
      have G7 : Goes p e below s₁ (entryFrame m #[(.int p1), (.int p2), (.int p3)] maxLocals) T6 (mkF m 20 #[.val (.int p1), .val (.int p2), .val (.int p3), .unset, .unset, .unset, .unset] [(.ref a6)]) := fun _ k => G6 _ (by
          show Steps p.tables e below (T6.setTop (mkF m 8 #[.val (.int p1), .val (.int p2), .val (.int p3), .unset, .unset, .unset, .unset] [(.ref a6)])) _
          refine XS.goto X6.here hx rfl (pc0 := 8) (pc' := 20) rfl (hb hby at_8) (by decide) (by decide) ?_
          exact k)
      exact ⟨_, T6, _, a6, _, _, X6.more (by decide) (by decide), e6, Nat.le_trans Z0 E6.1, hS6, hk6, hZ6, hown6, N0, G7⟩
  clear hZ hown
  have hZ := hZ'
  have hown := hown'
  have G8 : Goes p e below s₁ (entryFrame m #[(.int p1), (.int p2), (.int p3)] maxLocals) T' (mkF m 21 #[.val (.int p1), .val (.int p2), .val (.int p3), .val (.ref a'), .unset, .unset, .unset] []) := fun _ k => G' _ (by
      show Steps p.tables e below (T'.setTop (mkF m 20 #[.val (.int p1), .val (.int p2), .val (.int p3), .unset, .unset, .unset, .unset] [(.ref a')])) _
      refine XS.astoreN X'.here hx rfl (hb hby at_20) rfl rfl (l' := #[.val (.int p1), .val (.int p2), .val (.int p3), .val (.ref a'), .unset, .unset, .unset]) rfl ?_
      exact k)
  obtain ⟨T9, h9, X9, e9, E9, A9, D9, -, st9⟩ := newO X' hx hZ hown (hw _ (List.mem_of_getElem? (i := 26) rfl)) (hw _ (List.mem_of_getElem? (i := 27) rfl)) (hw _ (List.mem_of_getElem? (i := 28) rfl)) e' (g := (mkF m 21 #[.val (.int p1), .val (.int p2), .val (.int p3), .val (.ref a'), .unset, .unset, .unset] [])) rfl (hb hby at_21) (by decide) (by decide)
  obtain ⟨b9, g9⟩ : ∃ z, z = h'.size := ⟨_, rfl⟩
  rw [← g9] at A9 D9 st9
  have Fissue_9 : Fld Z h9 b9 "com/example/fruition/fruition/core/model/Biblio" "issue" "Ljava/lang/String;" .null := D9 (Or.inl (hw _ (List.mem_of_getElem? (i := 43) rfl))) (ty := (.object "java/lang/String")) (by decide)
  have FfirstPage_9 : Fld Z h9 b9 "com/example/fruition/fruition/core/model/Biblio" "firstPage" "Ljava/lang/String;" .null := D9 (Or.inl (hw _ (List.mem_of_getElem? (i := 50) rfl))) (ty := (.object "java/lang/String")) (by decide)
  have FlastPage_9 : Fld Z h9 b9 "com/example/fruition/fruition/core/model/Biblio" "lastPage" "Ljava/lang/String;" .null := D9 (Or.inl (hw _ (List.mem_of_getElem? (i := 52) rfl))) (ty := (.object "java/lang/String")) (by decide)
  have Fvolume_9 : Fld Z h9 b9 "com/example/fruition/fruition/core/model/Biblio" "volume" "Ljava/lang/String;" .null := D9 (Or.inl (hw _ (List.mem_of_getElem? (i := 59) rfl))) (ty := (.object "java/lang/String")) (by decide)
  have Fedition_9 : Fld Z h9 b9 "com/example/fruition/fruition/core/model/Biblio" "edition" "Ljava/lang/String;" .null := D9 (Or.inl (hw _ (List.mem_of_getElem? (i := 66) rfl))) (ty := (.object "java/lang/String")) (by decide)
  have Fnumber_9 : Fld Z h9 b9 "com/example/fruition/fruition/core/model/Biblio" "number" "Ljava/lang/String;" .null := D9 (Or.inl (hw _ (List.mem_of_getElem? (i := 73) rfl))) (ty := (.object "java/lang/String")) (by decide)
  have Fin_9 : Fld Z h9 b9 "com/example/fruition/fruition/core/model/Biblio" "in" "Ljava/lang/String;" .null := D9 (Or.inl (hw _ (List.mem_of_getElem? (i := 80) rfl))) (ty := (.object "java/lang/String")) (by decide)
  have FhostingDataSource_9 : Fld Z h9 b9 "com/example/fruition/fruition/core/model/Biblio" "hostingDataSource" "Ljava/lang/String;" .null := D9 (Or.inl (hw _ (List.mem_of_getElem? (i := 87) rfl))) (ty := (.object "java/lang/String")) (by decide)
  have G9 : Goes p e below s₁ (entryFrame m #[(.int p1), (.int p2), (.int p3)] maxLocals) T9 (mkF m 24 #[.val (.int p1), .val (.int p2), .val (.int p3), .val (.ref a'), .unset, .unset, .unset] [(.ref b9)]) := fun _ k => G8 _ (st9 _ k)
  have gb : n0 ≤ b9 := Nat.le_trans Zn (Nat.le_of_eq g9.symm)
  have Zn : n0 ≤ h9.size := Nat.le_trans Zn E9.1
  have hk : k0 ≤ h9.size := Nat.le_trans hk E9.1
  have B0 : Bib Z h9 b9 .null .null .null .null .null .null .null .null := ⟨A9, Fissue_9, FfirstPage_9, FlastPage_9, Fvolume_9, Fedition_9, Fnumber_9, Fin_9, FhostingDataSource_9⟩
  have G10 : Goes p e below s₁ (entryFrame m #[(.int p1), (.int p2), (.int p3)] maxLocals) T9 (mkF m 25 #[.val (.int p1), .val (.int p2), .val (.int p3), .val (.ref a'), .unset, .unset, .unset] [(.ref b9), (.ref b9)]) := fun _ k => G9 _ (by
      show Steps p.tables e below (T9.setTop (mkF m 24 #[.val (.int p1), .val (.int p2), .val (.int p3), .val (.ref a'), .unset, .unset, .unset] [(.ref b9)])) _
      refine XS.dup X9.here hx rfl (hb hby at_24) rfl rfl ?_
      exact k)
  obtain ⟨_, _, ⟨T11, L11, k11, n11⟩, -, X11, ⟨Lc11, hQ11, l11, y11, z11⟩, st11⟩ := X9.specialBack hx (y := (⟨"com/example/fruition/fruition/core/model/Biblio", "<init>", "()V"⟩ : MethodName)) rfl hown (mvT hZ (hw _ (List.mem_of_getElem? (i := 29) rfl))) (mvT hZ (hw _ (List.mem_of_getElem? (i := 30) rfl))) (mvT hZ (hw _ (List.mem_of_getElem? (i := 31) rfl))) (by decide) (backOf (W := 1) (rm6 l Z a0 hw [] b9 h9 n0 Zn) hZ (hw _ (List.mem_of_getElem? (i := 31) rfl)) (hw _ (List.mem_of_getElem? (i := 28) rfl)) (by decide) (by decide)) (g := (mkF m 25 #[.val (.int p1), .val (.int p2), .val (.int p3), .val (.ref a'), .unset, .unset, .unset] [(.ref b9), (.ref b9)])) rfl (by rw [hml]; rfl) (Steps.refl _) (a := b9) (argsL := []) (rest := [(.ref b9)]) (lenOf own_pd4 rfl) rfl (by show 2 * 0 + _ ≤ _; exact Nat.le_of_eq rfl) (hb hby at_25) (fun _ _ => ⟨rfl, e9, (by decide : 3 + 0 ≤ _), (by decide : 13 + 0 ≤ _)⟩)
  dsimp only [Pt.U, Pt.locs, Pt.cells, Pt.slots] at X11 l11 y11 z11 st11 hQ11
  subst l11 y11 z11
  obtain ⟨rfl, N11q, hh11⟩ := hQ11
  have N11 := Fr.app N' N11q
  have G11 : Goes p e below s₁ (entryFrame m #[(.int p1), (.int p2), (.int p3)] maxLocals) T11 (mkF m 28 #[.val (.int p1), .val (.int p2), .val (.int p3), .val (.ref a'), .unset, .unset, .unset] [(.ref b9)]) := fun _ k => G10 _ (st11.trans k)
  have G12 : Goes p e below s₁ (entryFrame m #[(.int p1), (.int p2), (.int p3)] maxLocals) T11 (mkF m 35 #[.val (.int p1), .val (.int p2), .val (.int p3), .val (.ref a'), .val (.ref b9), .unset, .unset] [(.ref a'), (.int (0 : Int32)), (.int p1), (.ref b9)]) := fun _ k => G11 _ (by
      show Steps p.tables e below (T11.setTop (mkF m 28 #[.val (.int p1), .val (.int p2), .val (.int p3), .val (.ref a'), .unset, .unset, .unset] [(.ref b9)])) _
      refine XS.astore X11.here hx rfl (hb hby at_28) rfl rfl (l' := #[.val (.int p1), .val (.int p2), .val (.int p3), .val (.ref a'), .val (.ref b9), .unset, .unset]) rfl ?_
      show Steps p.tables e below (T11.setTop (mkF m 30 #[.val (.int p1), .val (.int p2), .val (.int p3), .val (.ref a'), .val (.ref b9), .unset, .unset] [])) _
      refine XS.aload X11.here hx rfl (hb hby at_30) rfl rfl ?_
      show Steps p.tables e below (T11.setTop (mkF m 32 #[.val (.int p1), .val (.int p2), .val (.int p3), .val (.ref a'), .val (.ref b9), .unset, .unset] [(.ref b9)])) _
      refine XS.iloadN X11.here hx rfl (hb hby at_32) rfl ?_
      show Steps p.tables e below (T11.setTop (mkF m 33 #[.val (.int p1), .val (.int p2), .val (.int p3), .val (.ref a'), .val (.ref b9), .unset, .unset] [(.int p1), (.ref b9)])) _
      refine XS.iconst X11.here hx rfl (hb hby at_33) ?_
      show Steps p.tables e below (T11.setTop (mkF m 34 #[.val (.int p1), .val (.int p2), .val (.int p3), .val (.ref a'), .val (.ref b9), .unset, .unset] [(.int (0 : Int32)), (.int p1), (.ref b9)])) _
      refine XS.aloadN X11.here hx rfl (hb hby at_34) rfl rfl ?_
      exact k)
  obtain ⟨_, _, ⟨T13, L13, k13, n13⟩, -, X13, ⟨Lc13, hQ13, l13, y13, z13⟩, st13⟩ := Jvm.LawKit.callS X11 hx (y := (⟨"com/example/fruition/fruition/core/model/BiblioIsEmptyPinLaw", "pick", "(IILjava/lang/String;)Ljava/lang/String;"⟩ : MethodName)) hown (mvT hZ (hw _ (List.mem_of_getElem? (i := 33) rfl))) (mvT hZ (hw _ (List.mem_of_getElem? (i := 34) rfl))) (mvT hZ (hw _ (List.mem_of_getElem? (i := 35) rfl))) (mvT hZ (hw _ (List.mem_of_getElem? (i := 36) rfl))) (by decide) (backOf (W := 1) (rm7 l Z a0 hw [] p1 (0 : Int32) a' h9 n0 Zn) hZ (hw _ (List.mem_of_getElem? (i := 36) rfl)) (hw _ (List.mem_of_getElem? (i := 35) rfl)) (by decide) (by decide)) (g := (mkF m 35 #[.val (.int p1), .val (.int p2), .val (.int p3), .val (.ref a'), .val (.ref b9), .unset, .unset] [(.ref a'), (.int (0 : Int32)), (.int p1), (.ref b9)])) rfl (by rw [hml]; rfl) (argsL := [(.int p1), (.int (0 : Int32)), (.ref a')]) (rest := [(.ref b9)]) (lenOf own_pd5 rfl) rfl (by show 2 * 0 + _ ≤ _; exact Nat.le_of_eq rfl) (hb hby at_35) (fun _ _ => ⟨rfl, hh11, (by decide : 3 + 0 ≤ _), (by decide : 13 + 0 ≤ _)⟩)
  dsimp only [Pt.U, Pt.locs, Pt.cells, Pt.slots] at X13 l13 y13 z13 st13 hQ13
  subst l13 y13 z13
  obtain ⟨rfl, N13q, hh13⟩ := hQ13
  have N13 := Fr.app N11 N13q
  have G13 : Goes p e below s₁ (entryFrame m #[(.int p1), (.int p2), (.int p3)] maxLocals) T13 (mkF m 38 #[.val (.int p1), .val (.int p2), .val (.int p3), .val (.ref a'), .val (.ref b9), .unset, .unset] [(own_pk p1 (0 : Int32) a'), (.ref b9)]) := fun _ k => G12 _ (st13 _ k)
  obtain ⟨cq14, kq14, q14a, q14b, q14c⟩ := isOf hZ hh13 (B0).1
  obtain ⟨_, _, ⟨T14, L14, k14, n14⟩, -, X14, ⟨Lc14, hQ14, l14, y14, z14⟩, st14⟩ := X13.virtualBack hx (y := (⟨"com/example/fruition/fruition/core/model/Biblio", "setIssue", "(Ljava/lang/String;)V"⟩ : MethodName)) (z := (⟨"com/example/fruition/fruition/core/model/Biblio", "setIssue", "(Ljava/lang/String;)V"⟩ : MethodName)) hown (mvT hZ (hw _ (List.mem_of_getElem? (i := 37) rfl))) (mvT hZ (hw _ (List.mem_of_getElem? (i := 38) rfl))) (notFace_of_selects (args := #[]) (mvT hZ (hw _ (List.mem_of_getElem? (i := 40) rfl)))) (mvT hZ (hw _ (List.mem_of_getElem? (i := 40) rfl))) (mvT hZ (hw _ (List.mem_of_getElem? (i := 39) rfl))) (by decide) (backOf (W := 0) (rm8 l Z a0 hw [] b9 .null .null .null .null .null .null .null .null (own_pk p1 (0 : Int32) a') h9 n0 Zn B0 gb (own_pk_ref _ _ _)) hZ (hw _ (List.mem_of_getElem? (i := 41) rfl)) (hw _ (List.mem_of_getElem? (i := 28) rfl)) (by decide) (by decide)) q14a q14c (g := (mkF m 38 #[.val (.int p1), .val (.int p2), .val (.int p3), .val (.ref a'), .val (.ref b9), .unset, .unset] [(own_pk p1 (0 : Int32) a'), (.ref b9)])) rfl (by rw [hml]; rfl) (Steps.refl _) (argsL := [(own_pk p1 (0 : Int32) a')]) (rest := []) (lenOf own_pd6 rfl) rfl (by show 2 * 0 + _ ≤ _; exact Nat.le_of_eq rfl) (hb hby at_38) (fun _ _ => ⟨rfl, hh13, (by decide : 3 + 0 ≤ _), (by decide : 13 + 0 ≤ _)⟩)
  dsimp only [Pt.U, Pt.locs, Pt.cells, Pt.slots] at X14 l14 y14 z14 st14 hQ14
  subst l14 y14 z14
  obtain ⟨rfl, N14q, sz14, B14⟩ := hQ14
  have N14 := Fr.app N13 N14q
  have G14 : Goes p e below s₁ (entryFrame m #[(.int p1), (.int p2), (.int p3)] maxLocals) T14 (mkF m 41 #[.val (.int p1), .val (.int p2), .val (.int p3), .val (.ref a'), .val (.ref b9), .unset, .unset] []) := fun _ k => G13 _ (st14.trans k)
  have Zn := Nat.le_trans Zn sz14
  have hk := Nat.le_trans hk sz14
  have G15 : Goes p e below s₁ (entryFrame m #[(.int p1), (.int p2), (.int p3)] maxLocals) T14 (mkF m 44 #[.val (.int p1), .val (.int p2), .val (.int p3), .val (.ref a'), .val (.ref b9), .unset, .unset] [(.ref a'), (.int (1 : Int32)), (.int p1)]) := fun _ k => G14 _ (by
      show Steps p.tables e below (T14.setTop (mkF m 41 #[.val (.int p1), .val (.int p2), .val (.int p3), .val (.ref a'), .val (.ref b9), .unset, .unset] [])) _
      refine XS.iloadN X14.here hx rfl (hb hby at_41) rfl ?_
      show Steps p.tables e below (T14.setTop (mkF m 42 #[.val (.int p1), .val (.int p2), .val (.int p3), .val (.ref a'), .val (.ref b9), .unset, .unset] [(.int p1)])) _
      refine XS.iconst X14.here hx rfl (hb hby at_42) ?_
      show Steps p.tables e below (T14.setTop (mkF m 43 #[.val (.int p1), .val (.int p2), .val (.int p3), .val (.ref a'), .val (.ref b9), .unset, .unset] [(.int (1 : Int32)), (.int p1)])) _
      refine XS.aloadN X14.here hx rfl (hb hby at_43) rfl rfl ?_
      exact k)
  obtain ⟨_, _, ⟨T16, L16, k16, n16⟩, -, X16, ⟨Lc16, hQ16, l16, y16, z16⟩, st16⟩ := Jvm.LawKit.callS X14 hx (y := (⟨"com/example/fruition/fruition/core/model/BiblioIsEmptyPinLaw", "pick", "(IILjava/lang/String;)Ljava/lang/String;"⟩ : MethodName)) hown (mvT hZ (hw _ (List.mem_of_getElem? (i := 33) rfl))) (mvT hZ (hw _ (List.mem_of_getElem? (i := 34) rfl))) (mvT hZ (hw _ (List.mem_of_getElem? (i := 35) rfl))) (mvT hZ (hw _ (List.mem_of_getElem? (i := 36) rfl))) (by decide) (backOf (W := 0) (rm7 l Z a0 hw [] p1 (1 : Int32) a' T14.heap n0 Zn) hZ (hw _ (List.mem_of_getElem? (i := 36) rfl)) (hw _ (List.mem_of_getElem? (i := 35) rfl)) (by decide) (by decide)) (g := (mkF m 44 #[.val (.int p1), .val (.int p2), .val (.int p3), .val (.ref a'), .val (.ref b9), .unset, .unset] [(.ref a'), (.int (1 : Int32)), (.int p1)])) rfl (by rw [hml]; rfl) (argsL := [(.int p1), (.int (1 : Int32)), (.ref a')]) (rest := []) (lenOf own_pd5 rfl) rfl (by show 2 * 0 + _ ≤ _; exact Nat.le_of_eq rfl) (hb hby at_44) (fun _ _ => ⟨rfl, rfl, (by decide : 3 + 0 ≤ _), (by decide : 13 + 0 ≤ _)⟩)
  dsimp only [Pt.U, Pt.locs, Pt.cells, Pt.slots] at X16 l16 y16 z16 st16 hQ16
  subst l16 y16 z16
  obtain ⟨rfl, N16q, hh16⟩ := hQ16
  have N16 := Fr.app N14 N16q
  have G16 : Goes p e below s₁ (entryFrame m #[(.int p1), (.int p2), (.int p3)] maxLocals) T16 (mkF m 47 #[.val (.int p1), .val (.int p2), .val (.int p3), .val (.ref a'), .val (.ref b9), .unset, .unset] [(own_pk p1 (1 : Int32) a')]) := fun _ k => G15 _ (st16 _ k)
  have G17 : Goes p e below s₁ (entryFrame m #[(.int p1), (.int p2), (.int p3)] maxLocals) T16 (mkF m 55 #[.val (.int p1), .val (.int p2), .val (.int p3), .val (.ref a'), .val (.ref b9), .val (own_pk p1 (1 : Int32) a'), .unset] [(own_pk p1 (1 : Int32) a'), (own_pk p1 (1 : Int32) a'), (.ref b9)]) := fun _ k => G16 _ (by
      show Steps p.tables e below (T16.setTop (mkF m 47 #[.val (.int p1), .val (.int p2), .val (.int p3), .val (.ref a'), .val (.ref b9), .unset, .unset] [(own_pk p1 (1 : Int32) a')])) _
      refine XS.astore X16.here hx rfl (hb hby at_47) rfl (own_pk_ref _ _ _) (l' := #[.val (.int p1), .val (.int p2), .val (.int p3), .val (.ref a'), .val (.ref b9), .val (own_pk p1 (1 : Int32) a'), .unset]) (XS.store1 (o := .unset) rfl (Or.inl rfl) (Jvm.Free.XT.cat1 (own_pk_ref _ _ _))) ?_
      show Steps p.tables e below (T16.setTop (mkF m 49 #[.val (.int p1), .val (.int p2), .val (.int p3), .val (.ref a'), .val (.ref b9), .val (own_pk p1 (1 : Int32) a'), .unset] [])) _
      refine XS.aload X16.here hx rfl (hb hby at_49) rfl rfl ?_
      show Steps p.tables e below (T16.setTop (mkF m 51 #[.val (.int p1), .val (.int p2), .val (.int p3), .val (.ref a'), .val (.ref b9), .val (own_pk p1 (1 : Int32) a'), .unset] [(.ref b9)])) _
      refine XS.aload X16.here hx rfl (hb hby at_51) rfl (own_pk_ref _ _ _) ?_
      show Steps p.tables e below (T16.setTop (mkF m 53 #[.val (.int p1), .val (.int p2), .val (.int p3), .val (.ref a'), .val (.ref b9), .val (own_pk p1 (1 : Int32) a'), .unset] [(own_pk p1 (1 : Int32) a'), (.ref b9)])) _
      refine XS.aload X16.here hx rfl (hb hby at_53) rfl (own_pk_ref _ _ _) ?_
      exact k)
  obtain ⟨cq18, kq18, q18a, q18b, q18c⟩ := isOf hZ hh16 (B14).1
  obtain ⟨_, _, ⟨T18, L18, k18, n18⟩, -, X18, ⟨Lc18, hQ18, l18, y18, z18⟩, st18⟩ := X16.virtualBack hx (y := (⟨"com/example/fruition/fruition/core/model/Biblio", "setPages", "(Ljava/lang/String;Ljava/lang/String;)V"⟩ : MethodName)) (z := (⟨"com/example/fruition/fruition/core/model/Biblio", "setPages", "(Ljava/lang/String;Ljava/lang/String;)V"⟩ : MethodName)) hown (mvT hZ (hw _ (List.mem_of_getElem? (i := 44) rfl))) (mvT hZ (hw _ (List.mem_of_getElem? (i := 45) rfl))) (notFace_of_selects (args := #[]) (mvT hZ (hw _ (List.mem_of_getElem? (i := 47) rfl)))) (mvT hZ (hw _ (List.mem_of_getElem? (i := 47) rfl))) (mvT hZ (hw _ (List.mem_of_getElem? (i := 46) rfl))) (by decide) (backOf (W := 0) (rm9 l Z a0 hw [] b9 (own_pk p1 (0 : Int32) a') .null .null .null .null .null .null .null (own_pk p1 (1 : Int32) a') T14.heap n0 Zn B14 gb (own_pk_ref _ _ _)) hZ (hw _ (List.mem_of_getElem? (i := 48) rfl)) (hw _ (List.mem_of_getElem? (i := 28) rfl)) (by decide) (by decide)) q18a q18c (g := (mkF m 55 #[.val (.int p1), .val (.int p2), .val (.int p3), .val (.ref a'), .val (.ref b9), .val (own_pk p1 (1 : Int32) a'), .unset] [(own_pk p1 (1 : Int32) a'), (own_pk p1 (1 : Int32) a'), (.ref b9)])) rfl (by rw [hml]; rfl) (Steps.refl _) (argsL := [(own_pk p1 (1 : Int32) a'), (own_pk p1 (1 : Int32) a')]) (rest := []) (lenOf own_pd7 rfl) rfl (by show 2 * 0 + _ ≤ _; exact Nat.le_of_eq rfl) (hb hby at_55) (fun _ _ => ⟨rfl, hh16, (by decide : 3 + 0 ≤ _), (by decide : 13 + 0 ≤ _)⟩)
  dsimp only [Pt.U, Pt.locs, Pt.cells, Pt.slots] at X18 l18 y18 z18 st18 hQ18
  subst l18 y18 z18
  obtain ⟨rfl, N18q, sz18, B18⟩ := hQ18
  have N18 := Fr.app N16 N18q
  have G18 : Goes p e below s₁ (entryFrame m #[(.int p1), (.int p2), (.int p3)] maxLocals) T18 (mkF m 58 #[.val (.int p1), .val (.int p2), .val (.int p3), .val (.ref a'), .val (.ref b9), .val (own_pk p1 (1 : Int32) a'), .unset] []) := fun _ k => G17 _ (st18.trans k)
  have Zn := Nat.le_trans Zn sz18
  have hk := Nat.le_trans hk sz18
  have G19 : Goes p e below s₁ (entryFrame m #[(.int p1), (.int p2), (.int p3)] maxLocals) T18 (mkF m 63 #[.val (.int p1), .val (.int p2), .val (.int p3), .val (.ref a'), .val (.ref b9), .val (own_pk p1 (1 : Int32) a'), .unset] [(.ref a'), (.int (2 : Int32)), (.int p1), (.ref b9)]) := fun _ k => G18 _ (by
      show Steps p.tables e below (T18.setTop (mkF m 58 #[.val (.int p1), .val (.int p2), .val (.int p3), .val (.ref a'), .val (.ref b9), .val (own_pk p1 (1 : Int32) a'), .unset] [])) _
      refine XS.aload X18.here hx rfl (hb hby at_58) rfl rfl ?_
      show Steps p.tables e below (T18.setTop (mkF m 60 #[.val (.int p1), .val (.int p2), .val (.int p3), .val (.ref a'), .val (.ref b9), .val (own_pk p1 (1 : Int32) a'), .unset] [(.ref b9)])) _
      refine XS.iloadN X18.here hx rfl (hb hby at_60) rfl ?_
      show Steps p.tables e below (T18.setTop (mkF m 61 #[.val (.int p1), .val (.int p2), .val (.int p3), .val (.ref a'), .val (.ref b9), .val (own_pk p1 (1 : Int32) a'), .unset] [(.int p1), (.ref b9)])) _
      refine XS.iconst X18.here hx rfl (hb hby at_61) ?_
      show Steps p.tables e below (T18.setTop (mkF m 62 #[.val (.int p1), .val (.int p2), .val (.int p3), .val (.ref a'), .val (.ref b9), .val (own_pk p1 (1 : Int32) a'), .unset] [(.int (2 : Int32)), (.int p1), (.ref b9)])) _
      refine XS.aloadN X18.here hx rfl (hb hby at_62) rfl rfl ?_
      exact k)
  obtain ⟨_, _, ⟨T20, L20, k20, n20⟩, -, X20, ⟨Lc20, hQ20, l20, y20, z20⟩, st20⟩ := Jvm.LawKit.callS X18 hx (y := (⟨"com/example/fruition/fruition/core/model/BiblioIsEmptyPinLaw", "pick", "(IILjava/lang/String;)Ljava/lang/String;"⟩ : MethodName)) hown (mvT hZ (hw _ (List.mem_of_getElem? (i := 33) rfl))) (mvT hZ (hw _ (List.mem_of_getElem? (i := 34) rfl))) (mvT hZ (hw _ (List.mem_of_getElem? (i := 35) rfl))) (mvT hZ (hw _ (List.mem_of_getElem? (i := 36) rfl))) (by decide) (backOf (W := 1) (rm7 l Z a0 hw [] p1 (2 : Int32) a' T18.heap n0 Zn) hZ (hw _ (List.mem_of_getElem? (i := 36) rfl)) (hw _ (List.mem_of_getElem? (i := 35) rfl)) (by decide) (by decide)) (g := (mkF m 63 #[.val (.int p1), .val (.int p2), .val (.int p3), .val (.ref a'), .val (.ref b9), .val (own_pk p1 (1 : Int32) a'), .unset] [(.ref a'), (.int (2 : Int32)), (.int p1), (.ref b9)])) rfl (by rw [hml]; rfl) (argsL := [(.int p1), (.int (2 : Int32)), (.ref a')]) (rest := [(.ref b9)]) (lenOf own_pd5 rfl) rfl (by show 2 * 0 + _ ≤ _; exact Nat.le_of_eq rfl) (hb hby at_63) (fun _ _ => ⟨rfl, rfl, (by decide : 3 + 0 ≤ _), (by decide : 13 + 0 ≤ _)⟩)
  dsimp only [Pt.U, Pt.locs, Pt.cells, Pt.slots] at X20 l20 y20 z20 st20 hQ20
  subst l20 y20 z20
  obtain ⟨rfl, N20q, hh20⟩ := hQ20
  have N20 := Fr.app N18 N20q
  have G20 : Goes p e below s₁ (entryFrame m #[(.int p1), (.int p2), (.int p3)] maxLocals) T20 (mkF m 66 #[.val (.int p1), .val (.int p2), .val (.int p3), .val (.ref a'), .val (.ref b9), .val (own_pk p1 (1 : Int32) a'), .unset] [(own_pk p1 (2 : Int32) a'), (.ref b9)]) := fun _ k => G19 _ (st20 _ k)
  obtain ⟨cq21, kq21, q21a, q21b, q21c⟩ := isOf hZ hh20 (B18).1
  obtain ⟨_, _, ⟨T21, L21, k21, n21⟩, -, X21, ⟨Lc21, hQ21, l21, y21, z21⟩, st21⟩ := X20.virtualBack hx (y := (⟨"com/example/fruition/fruition/core/model/Biblio", "setVolume", "(Ljava/lang/String;)V"⟩ : MethodName)) (z := (⟨"com/example/fruition/fruition/core/model/Biblio", "setVolume", "(Ljava/lang/String;)V"⟩ : MethodName)) hown (mvT hZ (hw _ (List.mem_of_getElem? (i := 53) rfl))) (mvT hZ (hw _ (List.mem_of_getElem? (i := 54) rfl))) (notFace_of_selects (args := #[]) (mvT hZ (hw _ (List.mem_of_getElem? (i := 56) rfl)))) (mvT hZ (hw _ (List.mem_of_getElem? (i := 56) rfl))) (mvT hZ (hw _ (List.mem_of_getElem? (i := 55) rfl))) (by decide) (backOf (W := 0) (rm10 l Z a0 hw [] b9 (own_pk p1 (0 : Int32) a') (own_pk p1 (1 : Int32) a') (own_pk p1 (1 : Int32) a') .null .null .null .null .null (own_pk p1 (2 : Int32) a') T18.heap n0 Zn B18 gb (own_pk_ref _ _ _)) hZ (hw _ (List.mem_of_getElem? (i := 57) rfl)) (hw _ (List.mem_of_getElem? (i := 28) rfl)) (by decide) (by decide)) q21a q21c (g := (mkF m 66 #[.val (.int p1), .val (.int p2), .val (.int p3), .val (.ref a'), .val (.ref b9), .val (own_pk p1 (1 : Int32) a'), .unset] [(own_pk p1 (2 : Int32) a'), (.ref b9)])) rfl (by rw [hml]; rfl) (Steps.refl _) (argsL := [(own_pk p1 (2 : Int32) a')]) (rest := []) (lenOf own_pd6 rfl) rfl (by show 2 * 0 + _ ≤ _; exact Nat.le_of_eq rfl) (hb hby at_66) (fun _ _ => ⟨rfl, hh20, (by decide : 3 + 0 ≤ _), (by decide : 13 + 0 ≤ _)⟩)
  dsimp only [Pt.U, Pt.locs, Pt.cells, Pt.slots] at X21 l21 y21 z21 st21 hQ21
  subst l21 y21 z21
  obtain ⟨rfl, N21q, sz21, B21⟩ := hQ21
  have N21 := Fr.app N20 N21q
  have G21 : Goes p e below s₁ (entryFrame m #[(.int p1), (.int p2), (.int p3)] maxLocals) T21 (mkF m 69 #[.val (.int p1), .val (.int p2), .val (.int p3), .val (.ref a'), .val (.ref b9), .val (own_pk p1 (1 : Int32) a'), .unset] []) := fun _ k => G20 _ (st21.trans k)
  have Zn := Nat.le_trans Zn sz21
  have hk := Nat.le_trans hk sz21
  have G22 : Goes p e below s₁ (entryFrame m #[(.int p1), (.int p2), (.int p3)] maxLocals) T21 (mkF m 74 #[.val (.int p1), .val (.int p2), .val (.int p3), .val (.ref a'), .val (.ref b9), .val (own_pk p1 (1 : Int32) a'), .unset] [(.ref a'), (.int (3 : Int32)), (.int p1), (.ref b9)]) := fun _ k => G21 _ (by
      show Steps p.tables e below (T21.setTop (mkF m 69 #[.val (.int p1), .val (.int p2), .val (.int p3), .val (.ref a'), .val (.ref b9), .val (own_pk p1 (1 : Int32) a'), .unset] [])) _
      refine XS.aload X21.here hx rfl (hb hby at_69) rfl rfl ?_
      show Steps p.tables e below (T21.setTop (mkF m 71 #[.val (.int p1), .val (.int p2), .val (.int p3), .val (.ref a'), .val (.ref b9), .val (own_pk p1 (1 : Int32) a'), .unset] [(.ref b9)])) _
      refine XS.iloadN X21.here hx rfl (hb hby at_71) rfl ?_
      show Steps p.tables e below (T21.setTop (mkF m 72 #[.val (.int p1), .val (.int p2), .val (.int p3), .val (.ref a'), .val (.ref b9), .val (own_pk p1 (1 : Int32) a'), .unset] [(.int p1), (.ref b9)])) _
      refine XS.iconst X21.here hx rfl (hb hby at_72) ?_
      show Steps p.tables e below (T21.setTop (mkF m 73 #[.val (.int p1), .val (.int p2), .val (.int p3), .val (.ref a'), .val (.ref b9), .val (own_pk p1 (1 : Int32) a'), .unset] [(.int (3 : Int32)), (.int p1), (.ref b9)])) _
      refine XS.aloadN X21.here hx rfl (hb hby at_73) rfl rfl ?_
      exact k)
  obtain ⟨_, _, ⟨T23, L23, k23, n23⟩, -, X23, ⟨Lc23, hQ23, l23, y23, z23⟩, st23⟩ := Jvm.LawKit.callS X21 hx (y := (⟨"com/example/fruition/fruition/core/model/BiblioIsEmptyPinLaw", "pick", "(IILjava/lang/String;)Ljava/lang/String;"⟩ : MethodName)) hown (mvT hZ (hw _ (List.mem_of_getElem? (i := 33) rfl))) (mvT hZ (hw _ (List.mem_of_getElem? (i := 34) rfl))) (mvT hZ (hw _ (List.mem_of_getElem? (i := 35) rfl))) (mvT hZ (hw _ (List.mem_of_getElem? (i := 36) rfl))) (by decide) (backOf (W := 1) (rm7 l Z a0 hw [] p1 (3 : Int32) a' T21.heap n0 Zn) hZ (hw _ (List.mem_of_getElem? (i := 36) rfl)) (hw _ (List.mem_of_getElem? (i := 35) rfl)) (by decide) (by decide)) (g := (mkF m 74 #[.val (.int p1), .val (.int p2), .val (.int p3), .val (.ref a'), .val (.ref b9), .val (own_pk p1 (1 : Int32) a'), .unset] [(.ref a'), (.int (3 : Int32)), (.int p1), (.ref b9)])) rfl (by rw [hml]; rfl) (argsL := [(.int p1), (.int (3 : Int32)), (.ref a')]) (rest := [(.ref b9)]) (lenOf own_pd5 rfl) rfl (by show 2 * 0 + _ ≤ _; exact Nat.le_of_eq rfl) (hb hby at_74) (fun _ _ => ⟨rfl, rfl, (by decide : 3 + 0 ≤ _), (by decide : 13 + 0 ≤ _)⟩)
  dsimp only [Pt.U, Pt.locs, Pt.cells, Pt.slots] at X23 l23 y23 z23 st23 hQ23
  subst l23 y23 z23
  obtain ⟨rfl, N23q, hh23⟩ := hQ23
  have N23 := Fr.app N21 N23q
  have G23 : Goes p e below s₁ (entryFrame m #[(.int p1), (.int p2), (.int p3)] maxLocals) T23 (mkF m 77 #[.val (.int p1), .val (.int p2), .val (.int p3), .val (.ref a'), .val (.ref b9), .val (own_pk p1 (1 : Int32) a'), .unset] [(own_pk p1 (3 : Int32) a'), (.ref b9)]) := fun _ k => G22 _ (st23 _ k)
  obtain ⟨cq24, kq24, q24a, q24b, q24c⟩ := isOf hZ hh23 (B21).1
  obtain ⟨_, _, ⟨T24, L24, k24, n24⟩, -, X24, ⟨Lc24, hQ24, l24, y24, z24⟩, st24⟩ := X23.virtualBack hx (y := (⟨"com/example/fruition/fruition/core/model/Biblio", "setEdition", "(Ljava/lang/String;)V"⟩ : MethodName)) (z := (⟨"com/example/fruition/fruition/core/model/Biblio", "setEdition", "(Ljava/lang/String;)V"⟩ : MethodName)) hown (mvT hZ (hw _ (List.mem_of_getElem? (i := 60) rfl))) (mvT hZ (hw _ (List.mem_of_getElem? (i := 61) rfl))) (notFace_of_selects (args := #[]) (mvT hZ (hw _ (List.mem_of_getElem? (i := 63) rfl)))) (mvT hZ (hw _ (List.mem_of_getElem? (i := 63) rfl))) (mvT hZ (hw _ (List.mem_of_getElem? (i := 62) rfl))) (by decide) (backOf (W := 0) (rm11 l Z a0 hw [] b9 (own_pk p1 (0 : Int32) a') (own_pk p1 (1 : Int32) a') (own_pk p1 (1 : Int32) a') (own_pk p1 (2 : Int32) a') .null .null .null .null (own_pk p1 (3 : Int32) a') T21.heap n0 Zn B21 gb (own_pk_ref _ _ _)) hZ (hw _ (List.mem_of_getElem? (i := 64) rfl)) (hw _ (List.mem_of_getElem? (i := 28) rfl)) (by decide) (by decide)) q24a q24c (g := (mkF m 77 #[.val (.int p1), .val (.int p2), .val (.int p3), .val (.ref a'), .val (.ref b9), .val (own_pk p1 (1 : Int32) a'), .unset] [(own_pk p1 (3 : Int32) a'), (.ref b9)])) rfl (by rw [hml]; rfl) (Steps.refl _) (argsL := [(own_pk p1 (3 : Int32) a')]) (rest := []) (lenOf own_pd6 rfl) rfl (by show 2 * 0 + _ ≤ _; exact Nat.le_of_eq rfl) (hb hby at_77) (fun _ _ => ⟨rfl, hh23, (by decide : 3 + 0 ≤ _), (by decide : 13 + 0 ≤ _)⟩)
  dsimp only [Pt.U, Pt.locs, Pt.cells, Pt.slots] at X24 l24 y24 z24 st24 hQ24
  subst l24 y24 z24
  obtain ⟨rfl, N24q, sz24, B24⟩ := hQ24
  have N24 := Fr.app N23 N24q
  have G24 : Goes p e below s₁ (entryFrame m #[(.int p1), (.int p2), (.int p3)] maxLocals) T24 (mkF m 80 #[.val (.int p1), .val (.int p2), .val (.int p3), .val (.ref a'), .val (.ref b9), .val (own_pk p1 (1 : Int32) a'), .unset] []) := fun _ k => G23 _ (st24.trans k)
  have Zn := Nat.le_trans Zn sz24
  have hk := Nat.le_trans hk sz24
  have G25 : Goes p e below s₁ (entryFrame m #[(.int p1), (.int p2), (.int p3)] maxLocals) T24 (mkF m 85 #[.val (.int p1), .val (.int p2), .val (.int p3), .val (.ref a'), .val (.ref b9), .val (own_pk p1 (1 : Int32) a'), .unset] [(.ref a'), (.int (4 : Int32)), (.int p1), (.ref b9)]) := fun _ k => G24 _ (by
      show Steps p.tables e below (T24.setTop (mkF m 80 #[.val (.int p1), .val (.int p2), .val (.int p3), .val (.ref a'), .val (.ref b9), .val (own_pk p1 (1 : Int32) a'), .unset] [])) _
      refine XS.aload X24.here hx rfl (hb hby at_80) rfl rfl ?_
      show Steps p.tables e below (T24.setTop (mkF m 82 #[.val (.int p1), .val (.int p2), .val (.int p3), .val (.ref a'), .val (.ref b9), .val (own_pk p1 (1 : Int32) a'), .unset] [(.ref b9)])) _
      refine XS.iloadN X24.here hx rfl (hb hby at_82) rfl ?_
      show Steps p.tables e below (T24.setTop (mkF m 83 #[.val (.int p1), .val (.int p2), .val (.int p3), .val (.ref a'), .val (.ref b9), .val (own_pk p1 (1 : Int32) a'), .unset] [(.int p1), (.ref b9)])) _
      refine XS.iconst X24.here hx rfl (hb hby at_83) ?_
      show Steps p.tables e below (T24.setTop (mkF m 84 #[.val (.int p1), .val (.int p2), .val (.int p3), .val (.ref a'), .val (.ref b9), .val (own_pk p1 (1 : Int32) a'), .unset] [(.int (4 : Int32)), (.int p1), (.ref b9)])) _
      refine XS.aloadN X24.here hx rfl (hb hby at_84) rfl rfl ?_
      exact k)
  obtain ⟨_, _, ⟨T26, L26, k26, n26⟩, -, X26, ⟨Lc26, hQ26, l26, y26, z26⟩, st26⟩ := Jvm.LawKit.callS X24 hx (y := (⟨"com/example/fruition/fruition/core/model/BiblioIsEmptyPinLaw", "pick", "(IILjava/lang/String;)Ljava/lang/String;"⟩ : MethodName)) hown (mvT hZ (hw _ (List.mem_of_getElem? (i := 33) rfl))) (mvT hZ (hw _ (List.mem_of_getElem? (i := 34) rfl))) (mvT hZ (hw _ (List.mem_of_getElem? (i := 35) rfl))) (mvT hZ (hw _ (List.mem_of_getElem? (i := 36) rfl))) (by decide) (backOf (W := 1) (rm7 l Z a0 hw [] p1 (4 : Int32) a' T24.heap n0 Zn) hZ (hw _ (List.mem_of_getElem? (i := 36) rfl)) (hw _ (List.mem_of_getElem? (i := 35) rfl)) (by decide) (by decide)) (g := (mkF m 85 #[.val (.int p1), .val (.int p2), .val (.int p3), .val (.ref a'), .val (.ref b9), .val (own_pk p1 (1 : Int32) a'), .unset] [(.ref a'), (.int (4 : Int32)), (.int p1), (.ref b9)])) rfl (by rw [hml]; rfl) (argsL := [(.int p1), (.int (4 : Int32)), (.ref a')]) (rest := [(.ref b9)]) (lenOf own_pd5 rfl) rfl (by show 2 * 0 + _ ≤ _; exact Nat.le_of_eq rfl) (hb hby at_85) (fun _ _ => ⟨rfl, rfl, (by decide : 3 + 0 ≤ _), (by decide : 13 + 0 ≤ _)⟩)
  dsimp only [Pt.U, Pt.locs, Pt.cells, Pt.slots] at X26 l26 y26 z26 st26 hQ26
  subst l26 y26 z26
  obtain ⟨rfl, N26q, hh26⟩ := hQ26
  have N26 := Fr.app N24 N26q
  have G26 : Goes p e below s₁ (entryFrame m #[(.int p1), (.int p2), (.int p3)] maxLocals) T26 (mkF m 88 #[.val (.int p1), .val (.int p2), .val (.int p3), .val (.ref a'), .val (.ref b9), .val (own_pk p1 (1 : Int32) a'), .unset] [(own_pk p1 (4 : Int32) a'), (.ref b9)]) := fun _ k => G25 _ (st26 _ k)
  obtain ⟨cq27, kq27, q27a, q27b, q27c⟩ := isOf hZ hh26 (B24).1
  obtain ⟨_, _, ⟨T27, L27, k27, n27⟩, -, X27, ⟨Lc27, hQ27, l27, y27, z27⟩, st27⟩ := X26.virtualBack hx (y := (⟨"com/example/fruition/fruition/core/model/Biblio", "setNumber", "(Ljava/lang/String;)V"⟩ : MethodName)) (z := (⟨"com/example/fruition/fruition/core/model/Biblio", "setNumber", "(Ljava/lang/String;)V"⟩ : MethodName)) hown (mvT hZ (hw _ (List.mem_of_getElem? (i := 67) rfl))) (mvT hZ (hw _ (List.mem_of_getElem? (i := 68) rfl))) (notFace_of_selects (args := #[]) (mvT hZ (hw _ (List.mem_of_getElem? (i := 70) rfl)))) (mvT hZ (hw _ (List.mem_of_getElem? (i := 70) rfl))) (mvT hZ (hw _ (List.mem_of_getElem? (i := 69) rfl))) (by decide) (backOf (W := 0) (rm12 l Z a0 hw [] b9 (own_pk p1 (0 : Int32) a') (own_pk p1 (1 : Int32) a') (own_pk p1 (1 : Int32) a') (own_pk p1 (2 : Int32) a') (own_pk p1 (3 : Int32) a') .null .null .null (own_pk p1 (4 : Int32) a') T24.heap n0 Zn B24 gb (own_pk_ref _ _ _)) hZ (hw _ (List.mem_of_getElem? (i := 71) rfl)) (hw _ (List.mem_of_getElem? (i := 28) rfl)) (by decide) (by decide)) q27a q27c (g := (mkF m 88 #[.val (.int p1), .val (.int p2), .val (.int p3), .val (.ref a'), .val (.ref b9), .val (own_pk p1 (1 : Int32) a'), .unset] [(own_pk p1 (4 : Int32) a'), (.ref b9)])) rfl (by rw [hml]; rfl) (Steps.refl _) (argsL := [(own_pk p1 (4 : Int32) a')]) (rest := []) (lenOf own_pd6 rfl) rfl (by show 2 * 0 + _ ≤ _; exact Nat.le_of_eq rfl) (hb hby at_88) (fun _ _ => ⟨rfl, hh26, (by decide : 3 + 0 ≤ _), (by decide : 13 + 0 ≤ _)⟩)
  dsimp only [Pt.U, Pt.locs, Pt.cells, Pt.slots] at X27 l27 y27 z27 st27 hQ27
  subst l27 y27 z27
  obtain ⟨rfl, N27q, sz27, B27⟩ := hQ27
  have N27 := Fr.app N26 N27q
  have G27 : Goes p e below s₁ (entryFrame m #[(.int p1), (.int p2), (.int p3)] maxLocals) T27 (mkF m 91 #[.val (.int p1), .val (.int p2), .val (.int p3), .val (.ref a'), .val (.ref b9), .val (own_pk p1 (1 : Int32) a'), .unset] []) := fun _ k => G26 _ (st27.trans k)
  have Zn := Nat.le_trans Zn sz27
  have hk := Nat.le_trans hk sz27
  have G28 : Goes p e below s₁ (entryFrame m #[(.int p1), (.int p2), (.int p3)] maxLocals) T27 (mkF m 96 #[.val (.int p1), .val (.int p2), .val (.int p3), .val (.ref a'), .val (.ref b9), .val (own_pk p1 (1 : Int32) a'), .unset] [(.ref a'), (.int (5 : Int32)), (.int p1), (.ref b9)]) := fun _ k => G27 _ (by
      show Steps p.tables e below (T27.setTop (mkF m 91 #[.val (.int p1), .val (.int p2), .val (.int p3), .val (.ref a'), .val (.ref b9), .val (own_pk p1 (1 : Int32) a'), .unset] [])) _
      refine XS.aload X27.here hx rfl (hb hby at_91) rfl rfl ?_
      show Steps p.tables e below (T27.setTop (mkF m 93 #[.val (.int p1), .val (.int p2), .val (.int p3), .val (.ref a'), .val (.ref b9), .val (own_pk p1 (1 : Int32) a'), .unset] [(.ref b9)])) _
      refine XS.iloadN X27.here hx rfl (hb hby at_93) rfl ?_
      show Steps p.tables e below (T27.setTop (mkF m 94 #[.val (.int p1), .val (.int p2), .val (.int p3), .val (.ref a'), .val (.ref b9), .val (own_pk p1 (1 : Int32) a'), .unset] [(.int p1), (.ref b9)])) _
      refine XS.iconst X27.here hx rfl (hb hby at_94) ?_
      show Steps p.tables e below (T27.setTop (mkF m 95 #[.val (.int p1), .val (.int p2), .val (.int p3), .val (.ref a'), .val (.ref b9), .val (own_pk p1 (1 : Int32) a'), .unset] [(.int (5 : Int32)), (.int p1), (.ref b9)])) _
      refine XS.aloadN X27.here hx rfl (hb hby at_95) rfl rfl ?_
      exact k)
  obtain ⟨_, _, ⟨T29, L29, k29, n29⟩, -, X29, ⟨Lc29, hQ29, l29, y29, z29⟩, st29⟩ := Jvm.LawKit.callS X27 hx (y := (⟨"com/example/fruition/fruition/core/model/BiblioIsEmptyPinLaw", "pick", "(IILjava/lang/String;)Ljava/lang/String;"⟩ : MethodName)) hown (mvT hZ (hw _ (List.mem_of_getElem? (i := 33) rfl))) (mvT hZ (hw _ (List.mem_of_getElem? (i := 34) rfl))) (mvT hZ (hw _ (List.mem_of_getElem? (i := 35) rfl))) (mvT hZ (hw _ (List.mem_of_getElem? (i := 36) rfl))) (by decide) (backOf (W := 1) (rm7 l Z a0 hw [] p1 (5 : Int32) a' T27.heap n0 Zn) hZ (hw _ (List.mem_of_getElem? (i := 36) rfl)) (hw _ (List.mem_of_getElem? (i := 35) rfl)) (by decide) (by decide)) (g := (mkF m 96 #[.val (.int p1), .val (.int p2), .val (.int p3), .val (.ref a'), .val (.ref b9), .val (own_pk p1 (1 : Int32) a'), .unset] [(.ref a'), (.int (5 : Int32)), (.int p1), (.ref b9)])) rfl (by rw [hml]; rfl) (argsL := [(.int p1), (.int (5 : Int32)), (.ref a')]) (rest := [(.ref b9)]) (lenOf own_pd5 rfl) rfl (by show 2 * 0 + _ ≤ _; exact Nat.le_of_eq rfl) (hb hby at_96) (fun _ _ => ⟨rfl, rfl, (by decide : 3 + 0 ≤ _), (by decide : 13 + 0 ≤ _)⟩)
  dsimp only [Pt.U, Pt.locs, Pt.cells, Pt.slots] at X29 l29 y29 z29 st29 hQ29
  subst l29 y29 z29
  obtain ⟨rfl, N29q, hh29⟩ := hQ29
  have N29 := Fr.app N27 N29q
  have G29 : Goes p e below s₁ (entryFrame m #[(.int p1), (.int p2), (.int p3)] maxLocals) T29 (mkF m 99 #[.val (.int p1), .val (.int p2), .val (.int p3), .val (.ref a'), .val (.ref b9), .val (own_pk p1 (1 : Int32) a'), .unset] [(own_pk p1 (5 : Int32) a'), (.ref b9)]) := fun _ k => G28 _ (st29 _ k)
  obtain ⟨cq30, kq30, q30a, q30b, q30c⟩ := isOf hZ hh29 (B27).1
  obtain ⟨_, _, ⟨T30, L30, k30, n30⟩, -, X30, ⟨Lc30, hQ30, l30, y30, z30⟩, st30⟩ := X29.virtualBack hx (y := (⟨"com/example/fruition/fruition/core/model/Biblio", "setIn", "(Ljava/lang/String;)V"⟩ : MethodName)) (z := (⟨"com/example/fruition/fruition/core/model/Biblio", "setIn", "(Ljava/lang/String;)V"⟩ : MethodName)) hown (mvT hZ (hw _ (List.mem_of_getElem? (i := 74) rfl))) (mvT hZ (hw _ (List.mem_of_getElem? (i := 75) rfl))) (notFace_of_selects (args := #[]) (mvT hZ (hw _ (List.mem_of_getElem? (i := 77) rfl)))) (mvT hZ (hw _ (List.mem_of_getElem? (i := 77) rfl))) (mvT hZ (hw _ (List.mem_of_getElem? (i := 76) rfl))) (by decide) (backOf (W := 0) (rm13 l Z a0 hw [] b9 (own_pk p1 (0 : Int32) a') (own_pk p1 (1 : Int32) a') (own_pk p1 (1 : Int32) a') (own_pk p1 (2 : Int32) a') (own_pk p1 (3 : Int32) a') (own_pk p1 (4 : Int32) a') .null .null (own_pk p1 (5 : Int32) a') T27.heap n0 Zn B27 gb (own_pk_ref _ _ _)) hZ (hw _ (List.mem_of_getElem? (i := 78) rfl)) (hw _ (List.mem_of_getElem? (i := 28) rfl)) (by decide) (by decide)) q30a q30c (g := (mkF m 99 #[.val (.int p1), .val (.int p2), .val (.int p3), .val (.ref a'), .val (.ref b9), .val (own_pk p1 (1 : Int32) a'), .unset] [(own_pk p1 (5 : Int32) a'), (.ref b9)])) rfl (by rw [hml]; rfl) (Steps.refl _) (argsL := [(own_pk p1 (5 : Int32) a')]) (rest := []) (lenOf own_pd6 rfl) rfl (by show 2 * 0 + _ ≤ _; exact Nat.le_of_eq rfl) (hb hby at_99) (fun _ _ => ⟨rfl, hh29, (by decide : 3 + 0 ≤ _), (by decide : 13 + 0 ≤ _)⟩)
  dsimp only [Pt.U, Pt.locs, Pt.cells, Pt.slots] at X30 l30 y30 z30 st30 hQ30
  subst l30 y30 z30
  obtain ⟨rfl, N30q, sz30, B30⟩ := hQ30
  have N30 := Fr.app N29 N30q
  have G30 : Goes p e below s₁ (entryFrame m #[(.int p1), (.int p2), (.int p3)] maxLocals) T30 (mkF m 102 #[.val (.int p1), .val (.int p2), .val (.int p3), .val (.ref a'), .val (.ref b9), .val (own_pk p1 (1 : Int32) a'), .unset] []) := fun _ k => G29 _ (st30.trans k)
  have Zn := Nat.le_trans Zn sz30
  have hk := Nat.le_trans hk sz30
  have G31 : Goes p e below s₁ (entryFrame m #[(.int p1), (.int p2), (.int p3)] maxLocals) T30 (mkF m 108 #[.val (.int p1), .val (.int p2), .val (.int p3), .val (.ref a'), .val (.ref b9), .val (own_pk p1 (1 : Int32) a'), .unset] [(.ref a'), (.int (6 : Int32)), (.int p1), (.ref b9)]) := fun _ k => G30 _ (by
      show Steps p.tables e below (T30.setTop (mkF m 102 #[.val (.int p1), .val (.int p2), .val (.int p3), .val (.ref a'), .val (.ref b9), .val (own_pk p1 (1 : Int32) a'), .unset] [])) _
      refine XS.aload X30.here hx rfl (hb hby at_102) rfl rfl ?_
      show Steps p.tables e below (T30.setTop (mkF m 104 #[.val (.int p1), .val (.int p2), .val (.int p3), .val (.ref a'), .val (.ref b9), .val (own_pk p1 (1 : Int32) a'), .unset] [(.ref b9)])) _
      refine XS.iloadN X30.here hx rfl (hb hby at_104) rfl ?_
      show Steps p.tables e below (T30.setTop (mkF m 105 #[.val (.int p1), .val (.int p2), .val (.int p3), .val (.ref a'), .val (.ref b9), .val (own_pk p1 (1 : Int32) a'), .unset] [(.int p1), (.ref b9)])) _
      refine XS.bipush X30.here hx rfl (hb hby at_105) ?_
      show Steps p.tables e below (T30.setTop (mkF m 107 #[.val (.int p1), .val (.int p2), .val (.int p3), .val (.ref a'), .val (.ref b9), .val (own_pk p1 (1 : Int32) a'), .unset] [(.int (6 : Int32)), (.int p1), (.ref b9)])) _
      refine XS.aloadN X30.here hx rfl (hb hby at_107) rfl rfl ?_
      exact k)
  obtain ⟨_, _, ⟨T32, L32, k32, n32⟩, -, X32, ⟨Lc32, hQ32, l32, y32, z32⟩, st32⟩ := Jvm.LawKit.callS X30 hx (y := (⟨"com/example/fruition/fruition/core/model/BiblioIsEmptyPinLaw", "pick", "(IILjava/lang/String;)Ljava/lang/String;"⟩ : MethodName)) hown (mvT hZ (hw _ (List.mem_of_getElem? (i := 33) rfl))) (mvT hZ (hw _ (List.mem_of_getElem? (i := 34) rfl))) (mvT hZ (hw _ (List.mem_of_getElem? (i := 35) rfl))) (mvT hZ (hw _ (List.mem_of_getElem? (i := 36) rfl))) (by decide) (backOf (W := 1) (rm7 l Z a0 hw [] p1 (6 : Int32) a' T30.heap n0 Zn) hZ (hw _ (List.mem_of_getElem? (i := 36) rfl)) (hw _ (List.mem_of_getElem? (i := 35) rfl)) (by decide) (by decide)) (g := (mkF m 108 #[.val (.int p1), .val (.int p2), .val (.int p3), .val (.ref a'), .val (.ref b9), .val (own_pk p1 (1 : Int32) a'), .unset] [(.ref a'), (.int (6 : Int32)), (.int p1), (.ref b9)])) rfl (by rw [hml]; rfl) (argsL := [(.int p1), (.int (6 : Int32)), (.ref a')]) (rest := [(.ref b9)]) (lenOf own_pd5 rfl) rfl (by show 2 * 0 + _ ≤ _; exact Nat.le_of_eq rfl) (hb hby at_108) (fun _ _ => ⟨rfl, rfl, (by decide : 3 + 0 ≤ _), (by decide : 13 + 0 ≤ _)⟩)
  dsimp only [Pt.U, Pt.locs, Pt.cells, Pt.slots] at X32 l32 y32 z32 st32 hQ32
  subst l32 y32 z32
  obtain ⟨rfl, N32q, hh32⟩ := hQ32
  have N32 := Fr.app N30 N32q
  have G32 : Goes p e below s₁ (entryFrame m #[(.int p1), (.int p2), (.int p3)] maxLocals) T32 (mkF m 111 #[.val (.int p1), .val (.int p2), .val (.int p3), .val (.ref a'), .val (.ref b9), .val (own_pk p1 (1 : Int32) a'), .unset] [(own_pk p1 (6 : Int32) a'), (.ref b9)]) := fun _ k => G31 _ (st32 _ k)
  obtain ⟨cq33, kq33, q33a, q33b, q33c⟩ := isOf hZ hh32 (B30).1
  obtain ⟨_, _, ⟨T33, L33, k33, n33⟩, -, X33, ⟨Lc33, hQ33, l33, y33, z33⟩, st33⟩ := X32.virtualBack hx (y := (⟨"com/example/fruition/fruition/core/model/Biblio", "setHostingDataSource", "(Ljava/lang/String;)V"⟩ : MethodName)) (z := (⟨"com/example/fruition/fruition/core/model/Biblio", "setHostingDataSource", "(Ljava/lang/String;)V"⟩ : MethodName)) hown (mvT hZ (hw _ (List.mem_of_getElem? (i := 81) rfl))) (mvT hZ (hw _ (List.mem_of_getElem? (i := 82) rfl))) (notFace_of_selects (args := #[]) (mvT hZ (hw _ (List.mem_of_getElem? (i := 84) rfl)))) (mvT hZ (hw _ (List.mem_of_getElem? (i := 84) rfl))) (mvT hZ (hw _ (List.mem_of_getElem? (i := 83) rfl))) (by decide) (backOf (W := 0) (rm14 l Z a0 hw [] b9 (own_pk p1 (0 : Int32) a') (own_pk p1 (1 : Int32) a') (own_pk p1 (1 : Int32) a') (own_pk p1 (2 : Int32) a') (own_pk p1 (3 : Int32) a') (own_pk p1 (4 : Int32) a') (own_pk p1 (5 : Int32) a') .null (own_pk p1 (6 : Int32) a') T30.heap n0 Zn B30 gb (own_pk_ref _ _ _)) hZ (hw _ (List.mem_of_getElem? (i := 85) rfl)) (hw _ (List.mem_of_getElem? (i := 28) rfl)) (by decide) (by decide)) q33a q33c (g := (mkF m 111 #[.val (.int p1), .val (.int p2), .val (.int p3), .val (.ref a'), .val (.ref b9), .val (own_pk p1 (1 : Int32) a'), .unset] [(own_pk p1 (6 : Int32) a'), (.ref b9)])) rfl (by rw [hml]; rfl) (Steps.refl _) (argsL := [(own_pk p1 (6 : Int32) a')]) (rest := []) (lenOf own_pd6 rfl) rfl (by show 2 * 0 + _ ≤ _; exact Nat.le_of_eq rfl) (hb hby at_111) (fun _ _ => ⟨rfl, hh32, (by decide : 3 + 0 ≤ _), (by decide : 13 + 0 ≤ _)⟩)
  dsimp only [Pt.U, Pt.locs, Pt.cells, Pt.slots] at X33 l33 y33 z33 st33 hQ33
  subst l33 y33 z33
  obtain ⟨rfl, N33q, sz33, B33⟩ := hQ33
  have N33 := Fr.app N32 N33q
  have G33 : Goes p e below s₁ (entryFrame m #[(.int p1), (.int p2), (.int p3)] maxLocals) T33 (mkF m 114 #[.val (.int p1), .val (.int p2), .val (.int p3), .val (.ref a'), .val (.ref b9), .val (own_pk p1 (1 : Int32) a'), .unset] []) := fun _ k => G32 _ (st33.trans k)
  have Zn := Nat.le_trans Zn sz33
  have hk := Nat.le_trans hk sz33
  have G34 : Goes p e below s₁ (entryFrame m #[(.int p1), (.int p2), (.int p3)] maxLocals) T33 (mkF m 118 #[.val (.int p1), .val (.int p2), .val (.int p3), .val (.ref a'), .val (.ref b9), .val (own_pk p1 (1 : Int32) a'), .unset] [(.int (p1 &&& (127 : Int32)))]) := fun _ k => G33 _ (by
      show Steps p.tables e below (T33.setTop (mkF m 114 #[.val (.int p1), .val (.int p2), .val (.int p3), .val (.ref a'), .val (.ref b9), .val (own_pk p1 (1 : Int32) a'), .unset] [])) _
      refine XS.iloadN X33.here hx rfl (hb hby at_114) rfl ?_
      show Steps p.tables e below (T33.setTop (mkF m 115 #[.val (.int p1), .val (.int p2), .val (.int p3), .val (.ref a'), .val (.ref b9), .val (own_pk p1 (1 : Int32) a'), .unset] [(.int p1)])) _
      refine XS.bipush X33.here hx rfl (hb hby at_115) ?_
      show Steps p.tables e below (T33.setTop (mkF m 117 #[.val (.int p1), .val (.int p2), .val (.int p3), .val (.ref a'), .val (.ref b9), .val (own_pk p1 (1 : Int32) a'), .unset] [(.int (127 : Int32)), (.int p1)])) _
      refine XS.iand X33.here hx rfl (hb hby at_117) rfl ?_
      exact k)
  have G35 : Goes p e below s₁ (entryFrame m #[(.int p1), (.int p2), (.int p3)] maxLocals) T33 (mkF m 126 #[.val (.int p1), .val (.int p2), .val (.int p3), .val (.ref a'), .val (.ref b9), .val (own_pk p1 (1 : Int32) a'), .unset] [(.int (if (p1 &&& (127 : Int32)) = (0 : Int32) then (1 : Int32) else 0))]) := by
    by_cases hm118_35 : (p1 &&& (127 : Int32)) = (0 : Int32)
    · have G37 : Goes p e below s₁ (entryFrame m #[(.int p1), (.int p2), (.int p3)] maxLocals) T33 (mkF m 121 #[.val (.int p1), .val (.int p2), .val (.int p3), .val (.ref a'), .val (.ref b9), .val (own_pk p1 (1 : Int32) a'), .unset] []) := fun _ k => G34 _ (by
          show Steps p.tables e below (T33.setTop (mkF m 118 #[.val (.int p1), .val (.int p2), .val (.int p3), .val (.ref a'), .val (.ref b9), .val (own_pk p1 (1 : Int32) a'), .unset] [(.int (p1 &&& (127 : Int32)))])) _
          refine XS.ifNo X33.here hx rfl (hb hby at_118) rfl ((if0 _ _).trans (teq hm118_35).2) ?_
          exact k)
      have G38 : Goes p e below s₁ (entryFrame m #[(.int p1), (.int p2), (.int p3)] maxLocals) T33 (mkF m 126 #[.val (.int p1), .val (.int p2), .val (.int p3), .val (.ref a'), .val (.ref b9), .val (own_pk p1 (1 : Int32) a'), .unset] [(.int (1 : Int32))]) := fun _ k => G37 _ (by
          show Steps p.tables e below (T33.setTop (mkF m 121 #[.val (.int p1), .val (.int p2), .val (.int p3), .val (.ref a'), .val (.ref b9), .val (own_pk p1 (1 : Int32) a'), .unset] [])) _
          refine XS.iconst X33.here hx rfl (hb hby at_121) ?_
          show Steps p.tables e below (T33.setTop (mkF m 122 #[.val (.int p1), .val (.int p2), .val (.int p3), .val (.ref a'), .val (.ref b9), .val (own_pk p1 (1 : Int32) a'), .unset] [(.int (1 : Int32))])) _
          refine XS.goto X33.here hx rfl (pc0 := 122) (pc' := 126) rfl (hb hby at_122) (by decide) (by decide) ?_
          exact k)
      have hv : (if (p1 &&& (127 : Int32)) = (0 : Int32) then (1 : Int32) else 0) = (1 : Int32) := by simp [hm118_35]
      exact fun _ k => G38 _ (by rw [hv] at k; exact k)
    · have G39 : Goes p e below s₁ (entryFrame m #[(.int p1), (.int p2), (.int p3)] maxLocals) T33 (mkF m 125 #[.val (.int p1), .val (.int p2), .val (.int p3), .val (.ref a'), .val (.ref b9), .val (own_pk p1 (1 : Int32) a'), .unset] []) := fun _ k => G34 _ (by
          show Steps p.tables e below (T33.setTop (mkF m 118 #[.val (.int p1), .val (.int p2), .val (.int p3), .val (.ref a'), .val (.ref b9), .val (own_pk p1 (1 : Int32) a'), .unset] [(.int (p1 &&& (127 : Int32)))])) _
          refine XS.ifYes X33.here hx rfl (pc0 := 118) (pc' := 125) rfl (hb hby at_118) rfl ((if0 _ _).trans (feq hm118_35).2) (by decide) (by decide) ?_
          exact k)
      have G40 : Goes p e below s₁ (entryFrame m #[(.int p1), (.int p2), (.int p3)] maxLocals) T33 (mkF m 126 #[.val (.int p1), .val (.int p2), .val (.int p3), .val (.ref a'), .val (.ref b9), .val (own_pk p1 (1 : Int32) a'), .unset] [(.int (0 : Int32))]) := fun _ k => G39 _ (by
          show Steps p.tables e below (T33.setTop (mkF m 125 #[.val (.int p1), .val (.int p2), .val (.int p3), .val (.ref a'), .val (.ref b9), .val (own_pk p1 (1 : Int32) a'), .unset] [])) _
          refine XS.iconst X33.here hx rfl (hb hby at_125) ?_
          exact k)
      have hv : (if (p1 &&& (127 : Int32)) = (0 : Int32) then (1 : Int32) else 0) = (0 : Int32) := by simp [hm118_35]
      exact fun _ k => G40 _ (by rw [hv] at k; exact k)
  have G41 : Goes p e below s₁ (entryFrame m #[(.int p1), (.int p2), (.int p3)] maxLocals) T33 (mkF m 130 #[.val (.int p1), .val (.int p2), .val (.int p3), .val (.ref a'), .val (.ref b9), .val (own_pk p1 (1 : Int32) a'), .val (.int (if (p1 &&& (127 : Int32)) = (0 : Int32) then (1 : Int32) else 0))] [(.ref b9)]) := fun _ k => G35 _ (by
      show Steps p.tables e below (T33.setTop (mkF m 126 #[.val (.int p1), .val (.int p2), .val (.int p3), .val (.ref a'), .val (.ref b9), .val (own_pk p1 (1 : Int32) a'), .unset] [(.int (if (p1 &&& (127 : Int32)) = (0 : Int32) then (1 : Int32) else 0))])) _
      refine XS.istore X33.here hx rfl (hb hby at_126) rfl (l' := #[.val (.int p1), .val (.int p2), .val (.int p3), .val (.ref a'), .val (.ref b9), .val (own_pk p1 (1 : Int32) a'), .val (.int (if (p1 &&& (127 : Int32)) = (0 : Int32) then (1 : Int32) else 0))]) rfl ?_
      show Steps p.tables e below (T33.setTop (mkF m 128 #[.val (.int p1), .val (.int p2), .val (.int p3), .val (.ref a'), .val (.ref b9), .val (own_pk p1 (1 : Int32) a'), .val (.int (if (p1 &&& (127 : Int32)) = (0 : Int32) then (1 : Int32) else 0))] [])) _
      refine XS.aload X33.here hx rfl (hb hby at_128) rfl rfl ?_
      exact k)
  obtain ⟨cq42, kq42, q42a, q42b, q42c⟩ := isOf hZ rfl (B33).1
  obtain ⟨_, _, ⟨T42, L42, k42, n42⟩, -, X42, ⟨Lc42, hQ42, l42, y42, z42⟩, st42⟩ := X33.virtualBack hx (y := (⟨"com/example/fruition/fruition/core/model/Biblio", "isEmpty", "()Z"⟩ : MethodName)) (z := (⟨"com/example/fruition/fruition/core/model/Biblio", "isEmpty", "()Z"⟩ : MethodName)) hown (mvT hZ (hw _ (List.mem_of_getElem? (i := 88) rfl))) (mvT hZ (hw _ (List.mem_of_getElem? (i := 89) rfl))) (notFace_of_selects (args := #[]) (mvT hZ (hw _ (List.mem_of_getElem? (i := 91) rfl)))) (mvT hZ (hw _ (List.mem_of_getElem? (i := 91) rfl))) (mvT hZ (hw _ (List.mem_of_getElem? (i := 90) rfl))) (by decide) (backOf (W := 0) (rm15 l Z a0 hw [] b9 (own_pk p1 (0 : Int32) a') (own_pk p1 (1 : Int32) a') (own_pk p1 (1 : Int32) a') (own_pk p1 (2 : Int32) a') (own_pk p1 (3 : Int32) a') (own_pk p1 (4 : Int32) a') (own_pk p1 (5 : Int32) a') (own_pk p1 (6 : Int32) a') T33.heap n0 Zn B33 (own_pk_ref _ _ _) (own_pk_ref _ _ _) (own_pk_ref _ _ _) (own_pk_ref _ _ _) (own_pk_ref _ _ _) (own_pk_ref _ _ _) (own_pk_ref _ _ _)) hZ (hw _ (List.mem_of_getElem? (i := 92) rfl)) (hw _ (List.mem_of_getElem? (i := 28) rfl)) (by decide) (by decide)) q42a q42c (g := (mkF m 130 #[.val (.int p1), .val (.int p2), .val (.int p3), .val (.ref a'), .val (.ref b9), .val (own_pk p1 (1 : Int32) a'), .val (.int (if (p1 &&& (127 : Int32)) = (0 : Int32) then (1 : Int32) else 0))] [(.ref b9)])) rfl (by rw [hml]; rfl) (Steps.refl _) (argsL := []) (rest := []) (lenOf own_pd8 rfl) rfl (by show 2 * 0 + _ ≤ _; exact Nat.le_of_eq rfl) (hb hby at_130) (fun _ _ => ⟨rfl, rfl, (by decide : 3 + 0 ≤ _), (by decide : 13 + 0 ≤ _)⟩)
  dsimp only [Pt.U, Pt.locs, Pt.cells, Pt.slots] at X42 l42 y42 z42 st42 hQ42
  subst l42 y42 z42
  obtain ⟨x42, rfl, h0142, hi42, N42q, hh42⟩ := hQ42
  have N42 := Fr.app N33 N42q
  have G42 : Goes p e below s₁ (entryFrame m #[(.int p1), (.int p2), (.int p3)] maxLocals) T42 (mkF m 133 #[.val (.int p1), .val (.int p2), .val (.int p3), .val (.ref a'), .val (.ref b9), .val (own_pk p1 (1 : Int32) a'), .val (.int (if (p1 &&& (127 : Int32)) = (0 : Int32) then (1 : Int32) else 0))] [(.int x42)]) := fun _ k => G41 _ (st42.trans k)
  have G43 : Goes p e below s₁ (entryFrame m #[(.int p1), (.int p2), (.int p3)] maxLocals) T42 (mkF m 135 #[.val (.int p1), .val (.int p2), .val (.int p3), .val (.ref a'), .val (.ref b9), .val (own_pk p1 (1 : Int32) a'), .val (.int (if (p1 &&& (127 : Int32)) = (0 : Int32) then (1 : Int32) else 0))] [(.int (if (p1 &&& (127 : Int32)) = (0 : Int32) then (1 : Int32) else 0)), (.int x42)]) := fun _ k => G42 _ (by
      show Steps p.tables e below (T42.setTop (mkF m 133 #[.val (.int p1), .val (.int p2), .val (.int p3), .val (.ref a'), .val (.ref b9), .val (own_pk p1 (1 : Int32) a'), .val (.int (if (p1 &&& (127 : Int32)) = (0 : Int32) then (1 : Int32) else 0))] [(.int x42)])) _
      refine XS.iload X42.here hx rfl (hb hby at_133) rfl ?_
      exact k)
  have G44 : Goes p e below s₁ (entryFrame m #[(.int p1), (.int p2), (.int p3)] maxLocals) T42 (mkF m 138 #[.val (.int p1), .val (.int p2), .val (.int p3), .val (.ref a'), .val (.ref b9), .val (own_pk p1 (1 : Int32) a'), .val (.int (if (p1 &&& (127 : Int32)) = (0 : Int32) then (1 : Int32) else 0))] []) := fun _ k => G43 _ (by
      show Steps p.tables e below (T42.setTop (mkF m 135 #[.val (.int p1), .val (.int p2), .val (.int p3), .val (.ref a'), .val (.ref b9), .val (own_pk p1 (1 : Int32) a'), .val (.int (if (p1 &&& (127 : Int32)) = (0 : Int32) then (1 : Int32) else 0))] [(.int (if (p1 &&& (127 : Int32)) = (0 : Int32) then (1 : Int32) else 0)), (.int x42)])) _
      refine XS.icmpNo X42.here hx rfl (hb hby at_135) rfl (teq (own_law h0142 hi42)).2 ?_
      exact k)
  have G45 : Goes p e below s₁ (entryFrame m #[(.int p1), (.int p2), (.int p3)] maxLocals) T42 (mkF m 143 #[.val (.int p1), .val (.int p2), .val (.int p3), .val (.ref a'), .val (.ref b9), .val (own_pk p1 (1 : Int32) a'), .val (.int (if (p1 &&& (127 : Int32)) = (0 : Int32) then (1 : Int32) else 0))] [(.int (1 : Int32))]) := fun _ k => G44 _ (by
      show Steps p.tables e below (T42.setTop (mkF m 138 #[.val (.int p1), .val (.int p2), .val (.int p3), .val (.ref a'), .val (.ref b9), .val (own_pk p1 (1 : Int32) a'), .val (.int (if (p1 &&& (127 : Int32)) = (0 : Int32) then (1 : Int32) else 0))] [])) _
      refine XS.iconst X42.here hx rfl (hb hby at_138) ?_
      show Steps p.tables e below (T42.setTop (mkF m 139 #[.val (.int p1), .val (.int p2), .val (.int p3), .val (.ref a'), .val (.ref b9), .val (own_pk p1 (1 : Int32) a'), .val (.int (if (p1 &&& (127 : Int32)) = (0 : Int32) then (1 : Int32) else 0))] [(.int (1 : Int32))])) _
      refine XS.goto X42.here hx rfl (pc0 := 139) (pc' := 143) rfl (hb hby at_139) (by decide) (by decide) ?_
      exact k)
  have hkk : k0 ≤ T42.heap.size := by rw [hh42]; exact hk
  obtain ⟨fs, hr, hrun, hended, hEnd⟩ := X42.leaveW hS hkk (v := some (.int (1 : Int32))) (fun h => by rw [Bd.returns] at h; cases h)
  exact ⟨_, _, G45 _ (retN X42 hx (t := .boolean) Bd.returns (by simp) (hb hby at_143) hr), hrun, hended, _, _, rfl, ⟨rfl, N42⟩, hEnd.1, hEnd.2.1, hEnd.2.2.1, hEnd.2.2.2.mono (by decide) (by decide)⟩
set_option maxRecDepth 65536 in
set_option maxHeartbeats 40000000 in
theorem comes_1 {Post : Tables → Env → Array Value → State → Outcome → State → Prop} (hpost : ∀ tb e args s v u, (limb_1_1.after args s (.returned v) u = true ∧ limb_1_2.after args s (.returned v) u = true ∧ True) → ReturnedEndW s (.returned v) u (Jvm.fieldLocs frame_1_writes args s ++ Jvm.arrayLocs frame_1_arrays args s ++ Jvm.staticLocs frame_1_statics s) 16 1152 → Post tb e args s (.returned v) u) :
    ArmFor flags0 classFile x code maxLocals ret World_1 tables_1 room_1 Calls_1 rest_1 Pre_1 Post := by
  intro l hfl _ _ p e ha hc hk s m args below hf hA hF happ hP
  obtain ⟨hcalls, hrest, hpre⟩ := hP
  obtain ⟨-, -, -, hnamed, -, -, -, hat⟩ := (Spec.applies_iff hf).mp happ
  obtain ⟨hg, hn⟩ := and_e (Cond.before_iff.mp (show (Jvm.Cond.and given_1 narrow_1).before args s = true from hpre))
  obtain ⟨gc, gr0⟩ := and_e hg
  obtain ⟨gk0, gr1⟩ := and_e gr0
  obtain ⟨gk1, gr2⟩ := and_e gr1
  obtain ⟨w0, w1, w2, rfl⟩ : ∃ w0 w1 w2 : Value, args = #[w0, w1, w2] := by
    have hs : args.size = 3 := by simpa [Cond.value, given_1] using gc
    obtain ⟨L⟩ := args
    match L, hs with
    | [w0, w1, w2], _ => exact ⟨w0, w1, w2, rfl⟩
  have hw := fun d (hd : d ∈ tables_1) => atoms_spec (ws := Jvm.Cond.code x code maxLocals ret :: tables_1) hat d (List.mem_cons_of_mem _ hd)
  obtain ⟨i0, ei0⟩ := is_v gk0
  obtain rfl : w0 = (.int i0) := Option.some.inj ei0
  obtain ⟨i1, ei1⟩ := is_v gk1
  obtain rfl : w1 = (.int i1) := Option.some.inj ei1
  obtain ⟨i2, ei2⟩ := is_v gr2
  obtain rfl : w2 = (.int i2) := Option.some.inj ei2
  obtain ⟨hsets, hown0⟩ := atoms_of _ (rest_1_c_eq ▸ (show rest_1_c.before _ s = true from hrest))
  have n5 := not_v (Cond.before_iff.mp (hsets _ (List.mem_of_getElem? (i := 2) rfl)))
  obtain ⟨iS, eS⟩ := is_v (Cond.before_iff.mp (hsets _ (List.mem_of_getElem? (i := 1) rfl)))
  have SS : Sta s s.heap "java/lang/String" "COMPACT_STRINGS" "Z" (.int iS) := Sta.start eS (Or.inl (hsets _ (List.mem_of_getElem? (i := 0) rfl)))
  have cS : ¬ (iS = (0 : Int32)) := gotF (Cond.eq_ints eS (Term.int_eval (0))) n5
  obtain ⟨n, o, h1, h2, h3, _, L, rfl, ⟨rfl, N⟩, hq⟩ := rm0 l s _ hw tables_1 i0 i1 i2 iS s.heap s.heap.size (Nat.le_refl _) SS cS p e ha hc hk s m _ below hf ((Spec.applies_iff_loose hf).mp happ).1 ⟨rfl, State.Warmed39.refl s, rfl⟩ trivial
  refine ⟨n, _, h1, h2, h3, hpost _ _ _ _ _ _ ⟨Cond.after_iff.mpr rfl, Cond.after_iff.mpr (eq_i res_at (Term.int_eval (1)) rfl), trivial⟩ ⟨hq.1, hq.2.1, hq.2.2.1, (hq.2.2.2.sift fun y hy => Or.inr (N y hy)).mono (by decide) (by decide)⟩⟩
theorem main_1_1 : Claimed_1_1 := comes_1 fun _ _ _ _ _ _ h hF => ⟨h.1, hF⟩
theorem main_1_2 : Claimed_1_2 := comes_1 fun _ _ _ _ _ _ h hF => ⟨h.2.1, hF⟩
end Jvm.Pilot.@@N@@
namespace Jvm.Pilot.@@N@@
open Jvm Jvm.ClassFile Sem Op Lib Jvm.Free Jvm.Stand Jvm.Pilot.@@N@@.Jvm.D
/-! MADE BY PROGRAM (witnessworld.py) out of the Statement's table words and the real class files: 17 classes; the members and pool entries that the words name. The judged class is class 1, her method 2. -/
namespace start1
open Jvm.ClassFile
def u (s : String) : CpInfo := .utf8 (stringToUtf16 s)
/-- a pool by its gaps: so many unusable entries, then the entry; so many at the end -/
def gap : Nat → List CpInfo → List CpInfo
  | 0, r => r
  | n + 1, r => .unusable :: gap n r
def poolList (es : List (Nat × CpInfo)) (last : Nat) : List CpInfo := es.foldr (fun e r => gap e.1 (e.2 :: r)) (gap last [])
def pool (es : List (Nat × CpInfo)) (last : Nat) : Array CpInfo := ⟨poolList es last⟩
def fileOf (pool : Array CpInfo) (this : Nat) (attrs : Array Attribute := #[]) (ms : Array MethodInfo := #[]) (fl : Nat := 33) (sup : Nat := 0) (ifs : Array Nat := #[]) (fds : Array FieldInfo := #[]) : ClassFile where
  minorVersion := 0
  majorVersion := 65
  constantPool := pool
  accessFlags := fl
  thisClass := this
  superClass := sup
  interfaces := ifs
  fields := fds
  methods := ms
  attributes := attrs
def plain (name : String) (sup : Option ClassId) : Class where
  name := name
  kind := .ordinary
  loader := none
  accessFlags := 33
  super := sup
  interfaces := #[]
  cf := none
  fields := #[]
  methods := #[]
  instanceTypes := #[]
  staticTypes := #[]
  resolved := #[]
  callSites := []
  init := .initialized
  statics := none
  mirror := none

def pool0 : Array CpInfo := pool [(5, u "<init>"), (0, u "()V"), (1, .class_ 10), (1, u "java/lang/Object")] 113

def k0c0 : Code := { maxStack := 0, maxLocals := 1, code := object_method_1_code, exceptionTable := #[], attributes := #[] }
def k0m0 : Method := { name := "<init>", desc := "()V", sig := { parameters := [], returnType := none }, accessFlags := 1, code := some k0c0 }
/-- java/lang/Object -/
def k0 : Class := { plain "java/lang/Object" none with
  accessFlags := 33
  interfaces := #[]
  cf := some (fileOf pool0 8 #[] #[{ accessFlags := 1, nameIndex := 5, descriptorIndex := 6, attributes := #[] }] 33 0 #[] #[])
  fields := #[]
  methods := #[k0m0]
  instanceTypes := #[]
  staticTypes := #[]
  resolved := Array.replicate 124 none
  statics := none }

def pool1 : Array CpInfo := pool [(2, .class_ 4), (0, .nameAndType 5 6), (0, u "java/lang/Object"), (0, u "<init>"), (0, u "()V"), (0, .string 8), (0, u ""), (0, .methodref 10 11), (0, .class_ 12), (0, .nameAndType 13 14), (0, u "java/lang/String"), (0, u "valueOf"), (0, u "(C)Ljava/lang/String;"), (0, .class_ 16), (0, u "com/example/fruition/fruition/core/model/Biblio"), (0, .methodref 15 3), (0, .methodref 19 20), (0, .class_ 21), (0, .nameAndType 22 23), (0, u "com/example/fruition/fruition/core/model/BiblioIsEmptyPinLaw"), (0, u "pick"), (0, u "(IILjava/lang/String;)Ljava/lang/String;"), (0, .methodref 15 25), (0, .nameAndType 26 27), (0, u "setIssue"), (0, u "(Ljava/lang/String;)V"), (0, .methodref 15 29), (0, .nameAndType 30 31), (0, u "setPages"), (0, u "(Ljava/lang/String;Ljava/lang/String;)V"), (0, .methodref 15 33), (0, .nameAndType 34 27), (0, u "setVolume"), (0, .methodref 15 36), (0, .nameAndType 37 27), (0, u "setEdition"), (0, .methodref 15 39), (0, .nameAndType 40 27), (0, u "setNumber"), (0, .methodref 15 42), (0, .nameAndType 43 27), (0, u "setIn"), (0, .methodref 15 45), (0, .nameAndType 46 27), (0, u "setHostingDataSource"), (0, .methodref 15 48), (0, .nameAndType 49 50), (0, u "isEmpty"), (0, u "()Z"), (3, u "law"), (0, u "(III)Z")] 2

def k1m0 : Method := { name := "<init>", desc := "()V", sig := { parameters := [], returnType := none }, accessFlags := 1, code := none }
def k1c1 : Code := { maxStack := 2, maxLocals := 3, code := method_2_code, exceptionTable := #[], attributes := #[] }
def k1m1 : Method := { name := "pick", desc := "(IILjava/lang/String;)Ljava/lang/String;", sig := { parameters := [.int, .int, (.object "java/lang/String")], returnType := some (.object "java/lang/String") }, accessFlags := 10, code := some k1c1 }
def k1c2 : Code := { maxStack := 4, maxLocals := 7, code := code, exceptionTable := #[], attributes := #[] }
def k1m2 : Method := { name := "law", desc := "(III)Z", sig := { parameters := [.int, .int, .int], returnType := some .boolean }, accessFlags := 9, code := some k1c2 }
/-- com/example/fruition/fruition/core/model/BiblioIsEmptyPinLaw -/
def k1 : Class := { plain "com/example/fruition/fruition/core/model/BiblioIsEmptyPinLaw" (some 0) with
  accessFlags := 49
  interfaces := #[]
  cf := some (fileOf pool1 19 #[] #[{ accessFlags := 1, nameIndex := 5, descriptorIndex := 6, attributes := #[] }, { accessFlags := 10, nameIndex := 22, descriptorIndex := 23, attributes := #[] }, { accessFlags := 9, nameIndex := 54, descriptorIndex := 55, attributes := #[] }] 49 2 #[] #[])
  fields := #[]
  methods := #[k1m0, k1m1, k1m2]
  instanceTypes := #[]
  staticTypes := #[]
  resolved := Array.replicate 58 none
  statics := none }

def pool2 : Array CpInfo := pool [(1, .class_ 2), (0, u "java/io/Serializable"), (0, .class_ 4), (0, u "java/lang/Object")] 2

/-- java/io/Serializable -/
def k2 : Class := { plain "java/io/Serializable" (some 0) with
  accessFlags := 1537
  interfaces := #[]
  cf := some (fileOf pool2 1 #[] #[] 1537 3 #[] #[])
  fields := #[]
  methods := #[]
  instanceTypes := #[]
  staticTypes := #[]
  resolved := Array.replicate 7 none
  statics := none }

def pool3 : Array CpInfo := pool [(1, .class_ 2), (0, u "java/lang/Comparable"), (0, .class_ 4), (0, u "java/lang/Object")] 7

/-- java/lang/Comparable -/
def k3 : Class := { plain "java/lang/Comparable" (some 0) with
  accessFlags := 1537
  interfaces := #[]
  cf := some (fileOf pool3 1 #[] #[] 1537 3 #[] #[])
  fields := #[]
  methods := #[]
  instanceTypes := #[]
  staticTypes := #[]
  resolved := Array.replicate 12 none
  statics := none }

def pool4 : Array CpInfo := pool [(2, .class_ 4), (1, u "java/lang/CharSequence"), (42, .class_ 48), (0, u "java/lang/CharSequence$1CodePointIterator"), (10, .class_ 60), (0, u "java/lang/CharSequence$1CharIterator"), (5, .class_ 67), (0, u "java/lang/Object")] 63

/-- java/lang/CharSequence -/
def k4 : Class := { plain "java/lang/CharSequence" (some 0) with
  accessFlags := 1537
  interfaces := #[]
  cf := some (fileOf pool4 2 #[.nestMembers #[47, 59]] #[] 1537 66 #[] #[])
  fields := #[]
  methods := #[]
  instanceTypes := #[]
  staticTypes := #[]
  resolved := Array.replicate 131 none
  statics := none }

def pool5 : Array CpInfo := pool [(1, .class_ 2), (0, u "java/lang/constant/Constable"), (0, .class_ 4), (0, u "java/lang/Object")] 6

/-- java/lang/constant/Constable -/
def k5 : Class := { plain "java/lang/constant/Constable" (some 0) with
  accessFlags := 1537
  interfaces := #[]
  cf := some (fileOf pool5 1 #[] #[] 1537 3 #[] #[])
  fields := #[]
  methods := #[]
  instanceTypes := #[]
  staticTypes := #[]
  resolved := Array.replicate 11 none
  statics := none }

def pool6 : Array CpInfo := pool [(1, .class_ 2), (0, u "java/lang/constant/ConstantDesc"), (0, .class_ 4), (0, u "java/lang/Object")] 32

/-- java/lang/constant/ConstantDesc -/
def k6 : Class := { plain "java/lang/constant/ConstantDesc" (some 0) with
  accessFlags := 1537
  interfaces := #[]
  cf := some (fileOf pool6 1 #[] #[] 1537 3 #[] #[])
  fields := #[]
  methods := #[]
  instanceTypes := #[]
  staticTypes := #[]
  resolved := Array.replicate 37 none
  statics := none }

def pool7 : Array CpInfo := pool [(1, .methodref 2 3), (0, .class_ 4), (0, .nameAndType 5 6), (0, u "java/lang/Object"), (0, u "<init>"), (0, u "()V"), (2, .fieldref 10 11), (0, .class_ 12), (0, .nameAndType 13 14), (0, u "java/lang/String"), (0, u "value"), (0, u "[B"), (0, .fieldref 10 16), (0, .nameAndType 17 18), (0, u "coder"), (0, u "B"), (2, u "hash"), (0, u "I"), (2, u "hashIsZero"), (0, u "Z"), (11, .fieldref 10 39), (0, .nameAndType 40 26), (0, u "COMPACT_STRINGS"), (12, u "toBytes"), (53, .class_ 109), (1, u "java/lang/StringLatin1"), (99, .methodref 10 210), (0, .nameAndType 5 211), (0, u "([BB)V"), (157, u "(C)Z"), (205, .class_ 576), (0, u "java/lang/CharSequence"), (22, u "CASE_INSENSITIVE_ORDER"), (0, u "Ljava/util/Comparator;"), (181, u "valueOf"), (0, u "(C)Ljava/lang/String;"), (231, .methodref 107 1016), (0, .nameAndType 1017 369), (0, u "canEncode"), (0, .methodref 107 1019), (0, .nameAndType 53 1020), (0, u "(C)[B"), (80, u "serialPersistentFields"), (0, u "[Ljava/io/ObjectStreamField;"), (0, .class_ 1104), (0, u "java/lang/String$CaseInsensitiveComparator"), (1, .class_ 1107), (0, u "java/io/Serializable"), (0, .class_ 1109), (0, u "java/lang/Comparable"), (0, .class_ 1111), (0, u "java/lang/constant/Constable"), (0, .class_ 1113), (0, u "java/lang/constant/ConstantDesc"), (2, u "serialVersionUID"), (0, u "J"), (3, u "REPL"), (0, u "C"), (2, u "LATIN1"), (1, u "UTF16")] 323

def k7m0 : Method := { name := "<init>", desc := "()V", sig := { parameters := [], returnType := none }, accessFlags := 1, code := none }
def k7c1 : Code := { maxStack := 4, maxLocals := 1, code := jdk_42_method_139_code, exceptionTable := #[], attributes := #[] }
def k7m1 : Method := { name := "valueOf", desc := "(C)Ljava/lang/String;", sig := { parameters := [.char], returnType := some (.object "java/lang/String") }, accessFlags := 9, code := some k7c1 }
def k7c2 : Code := { maxStack := 2, maxLocals := 3, code := jdk_42_method_151_code, exceptionTable := #[], attributes := #[] }
def k7m2 : Method := { name := "<init>", desc := "([BB)V", sig := { parameters := [(.array .byte), .byte], returnType := none }, accessFlags := 0, code := some k7c2 }
/-- java/lang/String -/
def k7 : Class := { plain "java/lang/String" (some 0) with
  accessFlags := 49
  interfaces := #[2, 3, 4, 5, 6]
  cf := some (fileOf pool7 10 #[.nestMembers #[1103]] #[{ accessFlags := 1, nameIndex := 5, descriptorIndex := 6, attributes := #[] }, { accessFlags := 9, nameIndex := 782, descriptorIndex := 783, attributes := #[] }, { accessFlags := 0, nameIndex := 5, descriptorIndex := 211, attributes := #[] }] 49 2 #[1106, 1108, 575, 1110, 1112] #[{ accessFlags := 18, nameIndex := 13, descriptorIndex := 14, attributes := #[] }, { accessFlags := 18, nameIndex := 17, descriptorIndex := 18, attributes := #[] }, { accessFlags := 2, nameIndex := 21, descriptorIndex := 22, attributes := #[] }, { accessFlags := 2, nameIndex := 25, descriptorIndex := 26, attributes := #[] }, { accessFlags := 26, nameIndex := 1116, descriptorIndex := 1117, attributes := #[] }, { accessFlags := 24, nameIndex := 40, descriptorIndex := 26, attributes := #[] }, { accessFlags := 26, nameIndex := 1101, descriptorIndex := 1102, attributes := #[] }, { accessFlags := 26, nameIndex := 1121, descriptorIndex := 1122, attributes := #[] }, { accessFlags := 25, nameIndex := 599, descriptorIndex := 600, attributes := #[] }, { accessFlags := 24, nameIndex := 1125, descriptorIndex := 18, attributes := #[] }, { accessFlags := 24, nameIndex := 1127, descriptorIndex := 18, attributes := #[] }])
  fields := #[{ name := "value", type := (.array .byte), accessFlags := 18, slot := 0, constantValue := 0 }, { name := "coder", type := .byte, accessFlags := 18, slot := 1, constantValue := 0 }, { name := "hash", type := .int, accessFlags := 2, slot := 2, constantValue := 0 }, { name := "hashIsZero", type := .boolean, accessFlags := 2, slot := 3, constantValue := 0 }, { name := "serialVersionUID", type := .long, accessFlags := 26, slot := 0, constantValue := 0 }, { name := "COMPACT_STRINGS", type := .boolean, accessFlags := 24, slot := 1, constantValue := 0 }, { name := "serialPersistentFields", type := (.array (.object "java/io/ObjectStreamField")), accessFlags := 26, slot := 2, constantValue := 0 }, { name := "REPL", type := .char, accessFlags := 26, slot := 3, constantValue := 0 }, { name := "CASE_INSENSITIVE_ORDER", type := (.object "java/util/Comparator"), accessFlags := 25, slot := 4, constantValue := 0 }, { name := "LATIN1", type := .byte, accessFlags := 24, slot := 5, constantValue := 0 }, { name := "UTF16", type := .byte, accessFlags := 24, slot := 6, constantValue := 0 }]
  methods := #[k7m0, k7m1, k7m2]
  instanceTypes := #[(.array .byte), .byte, .int, .boolean]
  staticTypes := #[.long, .boolean, (.array (.object "java/io/ObjectStreamField")), .char, (.object "java/util/Comparator"), .byte, .byte]
  resolved := Array.replicate 1451 none
  statics := some 0 }

def pool8 : Array CpInfo := pool [(4, .class_ 6), (1, u "java/lang/Object"), (0, u "<init>"), (0, u "()V"), (5, .class_ 16), (1, u "java/lang/StringLatin1"), (73, u "canEncode"), (14, u "(C)Z"), (15, u "$assertionsDisabled"), (0, u "Z"), (98, .class_ 223), (1, u "java/lang/StringLatin1$LinesSpliterator"), (156, u "toBytes"), (1, u "(C)[B"), (7, .class_ 391), (0, u "java/lang/StringLatin1$CharsSpliterator")] 3

def k8m0 : Method := { name := "<init>", desc := "()V", sig := { parameters := [], returnType := none }, accessFlags := 0, code := none }
def k8c1 : Code := { maxStack := 2, maxLocals := 1, code := jdk_43_method_3_code, exceptionTable := #[], attributes := #[] }
def k8m1 : Method := { name := "canEncode", desc := "(C)Z", sig := { parameters := [.char], returnType := some .boolean }, accessFlags := 9, code := some k8c1 }
def k8c2 : Code := { maxStack := 4, maxLocals := 1, code := jdk_43_method_46_code, exceptionTable := #[], attributes := #[] }
def k8m2 : Method := { name := "toBytes", desc := "(C)[B", sig := { parameters := [.char], returnType := some (.array .byte) }, accessFlags := 9, code := some k8c2 }
/-- java/lang/StringLatin1 -/
def k8 : Class := { plain "java/lang/StringLatin1" (some 0) with
  accessFlags := 48
  interfaces := #[]
  cf := some (fileOf pool8 14 #[.nestMembers #[390, 221]] #[{ accessFlags := 0, nameIndex := 7, descriptorIndex := 8, attributes := #[] }, { accessFlags := 9, nameIndex := 90, descriptorIndex := 105, attributes := #[] }, { accessFlags := 9, nameIndex := 380, descriptorIndex := 382, attributes := #[] }] 48 4 #[] #[{ accessFlags := 4120, nameIndex := 121, descriptorIndex := 122, attributes := #[] }])
  fields := #[{ name := "$assertionsDisabled", type := .boolean, accessFlags := 4120, slot := 0, constantValue := 0 }]
  methods := #[k8m0, k8m1, k8m2]
  instanceTypes := #[]
  staticTypes := #[.boolean]
  resolved := Array.replicate 395 none
  statics := none }

def pool9 : Array CpInfo := pool [(1, .methodref 2 3), (0, .class_ 4), (0, .nameAndType 5 6), (0, u "java/lang/Object"), (0, u "<init>"), (0, u "()V"), (0, .fieldref 8 9), (0, .class_ 10), (0, .nameAndType 11 12), (0, u "com/example/fruition/fruition/core/model/Biblio"), (0, u "issue"), (0, u "Ljava/lang/String;"), (0, .fieldref 8 14), (0, .nameAndType 15 12), (0, u "firstPage"), (0, .fieldref 8 17), (0, .nameAndType 18 12), (0, u "lastPage"), (0, .fieldref 8 20), (0, .nameAndType 21 12), (0, u "volume"), (0, .fieldref 8 23), (0, .nameAndType 24 12), (0, u "edition"), (0, .fieldref 8 26), (0, .nameAndType 27 12), (0, u "number"), (0, .fieldref 8 29), (0, .nameAndType 30 12), (0, u "in"), (0, .fieldref 8 32), (0, .nameAndType 33 12), (0, u "hostingDataSource"), (4, u "setIssue"), (0, u "(Ljava/lang/String;)V"), (2, u "setPages"), (0, u "(Ljava/lang/String;Ljava/lang/String;)V"), (1, u "setVolume"), (1, u "setEdition"), (1, u "setNumber"), (1, u "setIn"), (1, u "setHostingDataSource"), (0, u "isEmpty"), (0, u "()Z")] 3

def k9c0 : Code := { maxStack := 1, maxLocals := 1, code := prog_30_method_1_code, exceptionTable := #[], attributes := #[] }
def k9m0 : Method := { name := "<init>", desc := "()V", sig := { parameters := [], returnType := none }, accessFlags := 1, code := some k9c0 }
def k9c1 : Code := { maxStack := 2, maxLocals := 2, code := prog_30_method_3_code, exceptionTable := #[], attributes := #[] }
def k9m1 : Method := { name := "setIssue", desc := "(Ljava/lang/String;)V", sig := { parameters := [(.object "java/lang/String")], returnType := none }, accessFlags := 1, code := some k9c1 }
def k9c2 : Code := { maxStack := 2, maxLocals := 3, code := prog_30_method_6_code, exceptionTable := #[], attributes := #[] }
def k9m2 : Method := { name := "setPages", desc := "(Ljava/lang/String;Ljava/lang/String;)V", sig := { parameters := [(.object "java/lang/String"), (.object "java/lang/String")], returnType := none }, accessFlags := 1, code := some k9c2 }
def k9c3 : Code := { maxStack := 2, maxLocals := 2, code := prog_30_method_8_code, exceptionTable := #[], attributes := #[] }
def k9m3 : Method := { name := "setVolume", desc := "(Ljava/lang/String;)V", sig := { parameters := [(.object "java/lang/String")], returnType := none }, accessFlags := 1, code := some k9c3 }
def k9c4 : Code := { maxStack := 2, maxLocals := 2, code := prog_30_method_10_code, exceptionTable := #[], attributes := #[] }
def k9m4 : Method := { name := "setEdition", desc := "(Ljava/lang/String;)V", sig := { parameters := [(.object "java/lang/String")], returnType := none }, accessFlags := 1, code := some k9c4 }
def k9c5 : Code := { maxStack := 2, maxLocals := 2, code := prog_30_method_12_code, exceptionTable := #[], attributes := #[] }
def k9m5 : Method := { name := "setNumber", desc := "(Ljava/lang/String;)V", sig := { parameters := [(.object "java/lang/String")], returnType := none }, accessFlags := 1, code := some k9c5 }
def k9c6 : Code := { maxStack := 2, maxLocals := 2, code := prog_30_method_14_code, exceptionTable := #[], attributes := #[] }
def k9m6 : Method := { name := "setIn", desc := "(Ljava/lang/String;)V", sig := { parameters := [(.object "java/lang/String")], returnType := none }, accessFlags := 1, code := some k9c6 }
def k9c7 : Code := { maxStack := 2, maxLocals := 2, code := prog_30_method_16_code, exceptionTable := #[], attributes := #[] }
def k9m7 : Method := { name := "setHostingDataSource", desc := "(Ljava/lang/String;)V", sig := { parameters := [(.object "java/lang/String")], returnType := none }, accessFlags := 1, code := some k9c7 }
def k9c8 : Code := { maxStack := 1, maxLocals := 1, code := prog_30_method_17_code, exceptionTable := #[], attributes := #[] }
def k9m8 : Method := { name := "isEmpty", desc := "()Z", sig := { parameters := [], returnType := some .boolean }, accessFlags := 1, code := some k9c8 }
/-- com/example/fruition/fruition/core/model/Biblio -/
def k9 : Class := { plain "com/example/fruition/fruition/core/model/Biblio" (some 0) with
  accessFlags := 49
  interfaces := #[]
  cf := some (fileOf pool9 8 #[] #[{ accessFlags := 1, nameIndex := 5, descriptorIndex := 6, attributes := #[] }, { accessFlags := 1, nameIndex := 38, descriptorIndex := 39, attributes := #[] }, { accessFlags := 1, nameIndex := 42, descriptorIndex := 43, attributes := #[] }, { accessFlags := 1, nameIndex := 45, descriptorIndex := 39, attributes := #[] }, { accessFlags := 1, nameIndex := 47, descriptorIndex := 39, attributes := #[] }, { accessFlags := 1, nameIndex := 49, descriptorIndex := 39, attributes := #[] }, { accessFlags := 1, nameIndex := 51, descriptorIndex := 39, attributes := #[] }, { accessFlags := 1, nameIndex := 53, descriptorIndex := 39, attributes := #[] }, { accessFlags := 1, nameIndex := 54, descriptorIndex := 55, attributes := #[] }] 49 2 #[] #[{ accessFlags := 2, nameIndex := 11, descriptorIndex := 12, attributes := #[] }, { accessFlags := 2, nameIndex := 15, descriptorIndex := 12, attributes := #[] }, { accessFlags := 2, nameIndex := 18, descriptorIndex := 12, attributes := #[] }, { accessFlags := 2, nameIndex := 21, descriptorIndex := 12, attributes := #[] }, { accessFlags := 2, nameIndex := 24, descriptorIndex := 12, attributes := #[] }, { accessFlags := 2, nameIndex := 27, descriptorIndex := 12, attributes := #[] }, { accessFlags := 2, nameIndex := 30, descriptorIndex := 12, attributes := #[] }, { accessFlags := 2, nameIndex := 33, descriptorIndex := 12, attributes := #[] }])
  fields := #[{ name := "issue", type := (.object "java/lang/String"), accessFlags := 2, slot := 0, constantValue := 0 }, { name := "firstPage", type := (.object "java/lang/String"), accessFlags := 2, slot := 1, constantValue := 0 }, { name := "lastPage", type := (.object "java/lang/String"), accessFlags := 2, slot := 2, constantValue := 0 }, { name := "volume", type := (.object "java/lang/String"), accessFlags := 2, slot := 3, constantValue := 0 }, { name := "edition", type := (.object "java/lang/String"), accessFlags := 2, slot := 4, constantValue := 0 }, { name := "number", type := (.object "java/lang/String"), accessFlags := 2, slot := 5, constantValue := 0 }, { name := "in", type := (.object "java/lang/String"), accessFlags := 2, slot := 6, constantValue := 0 }, { name := "hostingDataSource", type := (.object "java/lang/String"), accessFlags := 2, slot := 7, constantValue := 0 }]
  methods := #[k9m0, k9m1, k9m2, k9m3, k9m4, k9m5, k9m6, k9m7, k9m8]
  instanceTypes := #[(.object "java/lang/String"), (.object "java/lang/String"), (.object "java/lang/String"), (.object "java/lang/String"), (.object "java/lang/String"), (.object "java/lang/String"), (.object "java/lang/String"), (.object "java/lang/String")]
  staticTypes := #[]
  resolved := Array.replicate 59 none
  statics := none }

def pool10 : Array CpInfo := pool [(2, .class_ 4), (1, u "java/lang/Object"), (0, u "<init>"), (0, u "()V"), (17, .class_ 26), (1, u "jdk/internal/util/Preconditions"), (28, .class_ 56), (0, u "jdk/internal/util/Preconditions$4"), (57, .class_ 115), (0, u "jdk/internal/util/Preconditions$1"), (7, u "SIOOBE_FORMATTER"), (0, u "Ljava/util/function/BiFunction;"), (0, .class_ 126), (0, u "jdk/internal/util/Preconditions$2"), (3, u "AIOOBE_FORMATTER"), (0, .class_ 132), (0, u "jdk/internal/util/Preconditions$3"), (3, u "IOOBE_FORMATTER")] 57

def k10m0 : Method := { name := "<init>", desc := "()V", sig := { parameters := [], returnType := none }, accessFlags := 1, code := none }
/-- jdk/internal/util/Preconditions -/
def k10 : Class := { plain "jdk/internal/util/Preconditions" (some 0) with
  accessFlags := 33
  interfaces := #[]
  cf := some (fileOf pool10 24 #[.nestMembers #[55, 131, 125, 114]] #[{ accessFlags := 1, nameIndex := 5, descriptorIndex := 6, attributes := #[] }] 33 2 #[] #[{ accessFlags := 25, nameIndex := 123, descriptorIndex := 124, attributes := #[] }, { accessFlags := 25, nameIndex := 130, descriptorIndex := 124, attributes := #[] }, { accessFlags := 25, nameIndex := 136, descriptorIndex := 124, attributes := #[] }])
  fields := #[{ name := "SIOOBE_FORMATTER", type := (.object "java/util/function/BiFunction"), accessFlags := 25, slot := 0, constantValue := 0 }, { name := "AIOOBE_FORMATTER", type := (.object "java/util/function/BiFunction"), accessFlags := 25, slot := 1, constantValue := 0 }, { name := "IOOBE_FORMATTER", type := (.object "java/util/function/BiFunction"), accessFlags := 25, slot := 2, constantValue := 0 }]
  methods := #[k10m0]
  instanceTypes := #[]
  staticTypes := #[(.object "java/util/function/BiFunction"), (.object "java/util/function/BiFunction"), (.object "java/util/function/BiFunction")]
  resolved := Array.replicate 194 none
  statics := some 1 }

def pool11 : Array CpInfo := pool [(9, u "<init>"), (6, .class_ 18), (1, u "java/lang/Object"), (0, u "()V"), (1, .class_ 23), (1, u "jdk/internal/util/ArraysSupport"), (0, u "LOG2_ARRAY_LONG_INDEX_SCALE"), (0, u "I"), (2, u "U"), (0, u "Ljdk/internal/misc/Unsafe;"), (8, u "BIG_ENDIAN"), (0, u "Z"), (8, u "LOG2_BYTE_BIT_SIZE"), (4, u "LOG2_ARRAY_INT_INDEX_SCALE"), (54, u "JLA"), (0, u "Ljdk/internal/access/JavaLangAccess;"), (11, u "LOG2_ARRAY_BOOLEAN_INDEX_SCALE"), (9, u "LOG2_ARRAY_BYTE_INDEX_SCALE"), (5, u "LOG2_ARRAY_CHAR_INDEX_SCALE"), (5, u "LOG2_ARRAY_SHORT_INDEX_SCALE"), (18, u "LOG2_ARRAY_FLOAT_INDEX_SCALE"), (24, u "LOG2_ARRAY_DOUBLE_INDEX_SCALE"), (89, u "T_BOOLEAN"), (2, u "T_CHAR"), (1, u "T_FLOAT"), (1, u "T_DOUBLE"), (1, u "T_BYTE"), (1, u "T_SHORT"), (1, u "T_INT"), (1, u "T_LONG"), (1, u "SOFT_MAX_ARRAY_LENGTH")] 83

def k11m0 : Method := { name := "<init>", desc := "()V", sig := { parameters := [], returnType := none }, accessFlags := 2, code := none }
/-- jdk/internal/util/ArraysSupport -/
def k11 : Class := { plain "jdk/internal/util/ArraysSupport" (some 0) with
  accessFlags := 33
  interfaces := #[]
  cf := some (fileOf pool11 21 #[] #[{ accessFlags := 2, nameIndex := 9, descriptorIndex := 19, attributes := #[] }] 33 16 #[] #[{ accessFlags := 24, nameIndex := 28, descriptorIndex := 29, attributes := #[] }, { accessFlags := 26, nameIndex := 38, descriptorIndex := 39, attributes := #[] }, { accessFlags := 25, nameIndex := 121, descriptorIndex := 25, attributes := #[] }, { accessFlags := 25, nameIndex := 131, descriptorIndex := 25, attributes := #[] }, { accessFlags := 25, nameIndex := 137, descriptorIndex := 25, attributes := #[] }, { accessFlags := 25, nameIndex := 143, descriptorIndex := 25, attributes := #[] }, { accessFlags := 25, nameIndex := 53, descriptorIndex := 25, attributes := #[] }, { accessFlags := 25, nameIndex := 24, descriptorIndex := 25, attributes := #[] }, { accessFlags := 25, nameIndex := 162, descriptorIndex := 25, attributes := #[] }, { accessFlags := 25, nameIndex := 187, descriptorIndex := 25, attributes := #[] }, { accessFlags := 26, nameIndex := 48, descriptorIndex := 25, attributes := #[] }, { accessFlags := 25, nameIndex := 277, descriptorIndex := 25, attributes := #[] }, { accessFlags := 25, nameIndex := 280, descriptorIndex := 25, attributes := #[] }, { accessFlags := 25, nameIndex := 282, descriptorIndex := 25, attributes := #[] }, { accessFlags := 25, nameIndex := 284, descriptorIndex := 25, attributes := #[] }, { accessFlags := 25, nameIndex := 286, descriptorIndex := 25, attributes := #[] }, { accessFlags := 25, nameIndex := 288, descriptorIndex := 25, attributes := #[] }, { accessFlags := 25, nameIndex := 290, descriptorIndex := 25, attributes := #[] }, { accessFlags := 25, nameIndex := 292, descriptorIndex := 25, attributes := #[] }, { accessFlags := 26, nameIndex := 108, descriptorIndex := 109, attributes := #[] }, { accessFlags := 25, nameIndex := 294, descriptorIndex := 25, attributes := #[] }])
  fields := #[{ name := "U", type := (.object "jdk/internal/misc/Unsafe"), accessFlags := 24, slot := 0, constantValue := 0 }, { name := "BIG_ENDIAN", type := .boolean, accessFlags := 26, slot := 1, constantValue := 0 }, { name := "LOG2_ARRAY_BOOLEAN_INDEX_SCALE", type := .int, accessFlags := 25, slot := 2, constantValue := 0 }, { name := "LOG2_ARRAY_BYTE_INDEX_SCALE", type := .int, accessFlags := 25, slot := 3, constantValue := 0 }, { name := "LOG2_ARRAY_CHAR_INDEX_SCALE", type := .int, accessFlags := 25, slot := 4, constantValue := 0 }, { name := "LOG2_ARRAY_SHORT_INDEX_SCALE", type := .int, accessFlags := 25, slot := 5, constantValue := 0 }, { name := "LOG2_ARRAY_INT_INDEX_SCALE", type := .int, accessFlags := 25, slot := 6, constantValue := 0 }, { name := "LOG2_ARRAY_LONG_INDEX_SCALE", type := .int, accessFlags := 25, slot := 7, constantValue := 0 }, { name := "LOG2_ARRAY_FLOAT_INDEX_SCALE", type := .int, accessFlags := 25, slot := 8, constantValue := 0 }, { name := "LOG2_ARRAY_DOUBLE_INDEX_SCALE", type := .int, accessFlags := 25, slot := 9, constantValue := 0 }, { name := "LOG2_BYTE_BIT_SIZE", type := .int, accessFlags := 26, slot := 10, constantValue := 0 }, { name := "T_BOOLEAN", type := .int, accessFlags := 25, slot := 11, constantValue := 0 }, { name := "T_CHAR", type := .int, accessFlags := 25, slot := 12, constantValue := 0 }, { name := "T_FLOAT", type := .int, accessFlags := 25, slot := 13, constantValue := 0 }, { name := "T_DOUBLE", type := .int, accessFlags := 25, slot := 14, constantValue := 0 }, { name := "T_BYTE", type := .int, accessFlags := 25, slot := 15, constantValue := 0 }, { name := "T_SHORT", type := .int, accessFlags := 25, slot := 16, constantValue := 0 }, { name := "T_INT", type := .int, accessFlags := 25, slot := 17, constantValue := 0 }, { name := "T_LONG", type := .int, accessFlags := 25, slot := 18, constantValue := 0 }, { name := "JLA", type := (.object "jdk/internal/access/JavaLangAccess"), accessFlags := 26, slot := 19, constantValue := 0 }, { name := "SOFT_MAX_ARRAY_LENGTH", type := .int, accessFlags := 25, slot := 20, constantValue := 0 }]
  methods := #[k11m0]
  instanceTypes := #[]
  staticTypes := #[(.object "jdk/internal/misc/Unsafe"), .boolean, .int, .int, .int, .int, .int, .int, .int, .int, .int, .int, .int, .int, .int, .int, .int, .int, .int, (.object "jdk/internal/access/JavaLangAccess"), .int]
  resolved := Array.replicate 378 none
  statics := none }

def pool12 : Array CpInfo := pool [(1, u "java/lang/Cloneable"), (0, .class_ 1), (0, u "java/lang/Object"), (0, .class_ 3)] 3

/-- java/lang/Cloneable -/
def k12 : Class := { plain "java/lang/Cloneable" (some 0) with
  accessFlags := 1537
  interfaces := #[]
  cf := some (fileOf pool12 2 #[] #[] 1537 4 #[] #[])
  fields := #[]
  methods := #[]
  instanceTypes := #[]
  staticTypes := #[]
  resolved := Array.replicate 8 none
  statics := none }

/-- the primitive byte -/
def k13 : Class := { plain "byte" none with kind := .primitive 'B', accessFlags := 0x411 }
/-- [B -/
def k14 : Class := { plain "[B" (some 0) with kind := .array 13 .byte, interfaces := #[12, 2], accessFlags := 1041 }

/-- the primitive int -/
def k15 : Class := { plain "int" none with kind := .primitive 'I', accessFlags := 0x411 }
/-- [I -/
def k16 : Class := { plain "[I" (some 0) with kind := .array 15 .int, interfaces := #[12, 2], accessFlags := 1041 }

def heap : Heap := #[{ cls := 7, slots := #[.long 0, .int 1, .null, .int 0, .null, .int 0, .int 0], vm := .statics 7 },
  { cls := 10, slots := #[.null, .null, .null], vm := .statics 10 }]
def classes : Array Class := #[k0, k1, k2, k3, k4, k5, k6, k7, k8, k9, k10, k11, k12, k13, k14, k15, k16]
def interned : List (Array UInt16 × Addr) := []
def slotsUsed : Nat := 10
def theMethod : MethodId := ⟨1, 2⟩
def args0 : Array Value := #[.int 5, .int 65, .int 0]
def aboutOver (below : List Frame) : State where
  vm := { classes := classes, interned := interned.toArray }
  heap := heap
  slotsUsed := slotsUsed
  threads := #[{ frames := .invoking theMethod args0 :: below }]
def below0 : List Frame := [.native { method := ⟨0, 0⟩, args := #[] }]
def about1 : State := aboutOver below0
def p0 : Program := .bare "" "" ""
def e0 : Env := launch0.env 0 0 0
theorem w_frames : about1.frames = Frame.invoking theMethod args0 :: below0 := rfl
set_option maxRecDepth 65536 in
theorem w_args : argsFit about1.vm theMethod args0 = true := by decide +kernel
set_option maxRecDepth 65536 in
theorem w_heap : heapFits about1 = true := by decide +kernel
set_option maxRecDepth 65536 in
theorem w_runnable : about1.curStatus? = some .runnable := by decide +kernel
set_option maxRecDepth 65536 in
theorem w_alone : about1.alone = true := by decide +kernel
set_option maxRecDepth 65536 in
theorem w_named : about1.methodNamed? x = some theMethod := by decide +kernel
set_option maxRecDepth 65536 in
theorem w_hears : about1.hears theMethod below0 = true := by decide +kernel
set_option maxRecDepth 65536 in
theorem w_ripe : about1.ripe theMethod args0 below0 = true := by decide +kernel
theorem w_running : about1.status = .running := rfl
set_option maxRecDepth 65536 in
theorem w_room : about1.hasRoom e0.platform room_1 = true :=
  launch0.hasRoom_least _ room_1 (by decide +kernel) (by decide +kernel) (by decide +kernel) (by decide +kernel) (by decide +kernel) (by decide +kernel)
theorem allAtoms_all (ts : List Jvm.Cond) (a : Array Jvm.Value) (st : Jvm.State) : (allAtoms ts).before a st = ts.all (fun c => c.before a st) := by
  induction ts with
  | nil => rfl
  | cons c t ih =>
    show (Jvm.Cond.and c (allAtoms t)).before a st = _
    rw [Jvm.Cond.before_and, ih, List.all_cons]
def words1 : List Jvm.Cond := Jvm.Cond.code x code maxLocals ret :: tables_1
/-- a 'code' word, met by the world's own term for the bytes: nothing is compared byte by byte -/
theorem code_word {y : MethodName} {bytes : ByteArray} {mx : Nat} {rt : Option FieldType} {a : Array Value} {s : State} {m : MethodId} {meth : Method} {c : Code} (h1 : s.methodNamed? y = some m) (h2 : s.vm.method? m = some meth) (h3 : meth.code = some c) (h4 : c.code = bytes)
    (h5 : (c.maxLocals == mx && c.exceptionTable.isEmpty && decide (c.maxStack ≤ mostOperands) && decide (meth.sig.returnType = rt) && !meth.locks && decide (parseMethodDescriptor y.desc = some meth.sig)) = true) : (Jvm.Cond.code y bytes mx rt).before a s = true := by
  simp only [Bool.and_eq_true, beq_iff_eq, Bool.not_eq_true', decide_eq_true_eq] at h5
  obtain ⟨⟨⟨⟨⟨g1, g2⟩, g3⟩, g4⟩, g5⟩, g6⟩ := h5
  simp [Cond.before, Cond.holds, Cond.value, h1, h2, h3, h4, g1, g2, g3, g4, g5, g6]
def isCode : Jvm.Cond → Bool
  | .code _ _ _ _ => true
  | _ => false
theorem all_split {L : List Jvm.Cond} {P : Jvm.Cond → Bool} (h1 : L.all (fun c => isCode c || P c) = true) (h2 : ∀ c ∈ L.filter isCode, P c = true) : L.all P = true := by
  refine List.all_eq_true.mpr fun c hc => ?_
  have h := List.all_eq_true.mp h1 c hc
  rcases Bool.eq_false_or_eq_true (isCode c) with hi | hi
  · exact h2 c (List.mem_filter.mpr ⟨hc, hi⟩)
  · simpa [hi] using h
set_option maxRecDepth 65536 in
theorem w_c0 : (Jvm.Cond.code x code maxLocals ret).before args0 about1 = true := code_word (m := ⟨1, 2⟩) (meth := k1m2) (c := k1c2) (by decide +kernel) rfl rfl rfl (by decide +kernel)
set_option maxRecDepth 65536 in
theorem w_c1 : (Jvm.Cond.code ({ cls := "java/lang/String", name := "valueOf", desc := "(C)Ljava/lang/String;" } : Jvm.MethodName) jdk_42_method_139_code (1 : Nat) (Option.some (Jvm.ClassFile.FieldType.object "java/lang/String"))).before args0 about1 = true := code_word (m := ⟨7, 1⟩) (meth := k7m1) (c := k7c1) (by decide +kernel) rfl rfl rfl (by decide +kernel)
set_option maxRecDepth 65536 in
theorem w_c2 : (Jvm.Cond.code ({ cls := "java/lang/StringLatin1", name := "canEncode", desc := "(C)Z" } : Jvm.MethodName) jdk_43_method_3_code (1 : Nat) (Option.some Jvm.ClassFile.FieldType.boolean)).before args0 about1 = true := code_word (m := ⟨8, 1⟩) (meth := k8m1) (c := k8c1) (by decide +kernel) rfl rfl rfl (by decide +kernel)
set_option maxRecDepth 65536 in
theorem w_c3 : (Jvm.Cond.code ({ cls := "java/lang/StringLatin1", name := "toBytes", desc := "(C)[B" } : Jvm.MethodName) jdk_43_method_46_code (1 : Nat) (Option.some (Jvm.ClassFile.FieldType.array Jvm.ClassFile.FieldType.byte))).before args0 about1 = true := code_word (m := ⟨8, 2⟩) (meth := k8m2) (c := k8c2) (by decide +kernel) rfl rfl rfl (by decide +kernel)
set_option maxRecDepth 65536 in
theorem w_c4 : (Jvm.Cond.code ({ cls := "java/lang/String", name := "<init>", desc := "([BB)V" } : Jvm.MethodName) jdk_42_method_151_code (3 : Nat) (Option.none : Option Jvm.ClassFile.FieldType)).before args0 about1 = true := code_word (m := ⟨7, 2⟩) (meth := k7m2) (c := k7c2) (by decide +kernel) rfl rfl rfl (by decide +kernel)
set_option maxRecDepth 65536 in
theorem w_c5 : (Jvm.Cond.code ({ cls := "java/lang/Object", name := "<init>", desc := "()V" } : Jvm.MethodName) object_method_1_code (1 : Nat) (Option.none : Option Jvm.ClassFile.FieldType)).before args0 about1 = true := code_word (m := ⟨0, 0⟩) (meth := k0m0) (c := k0c0) (by decide +kernel) rfl rfl rfl (by decide +kernel)
set_option maxRecDepth 65536 in
theorem w_c6 : (Jvm.Cond.code ({ cls := "com/example/fruition/fruition/core/model/Biblio", name := "<init>", desc := "()V" } : Jvm.MethodName) prog_30_method_1_code (1 : Nat) (Option.none : Option Jvm.ClassFile.FieldType)).before args0 about1 = true := code_word (m := ⟨9, 0⟩) (meth := k9m0) (c := k9c0) (by decide +kernel) rfl rfl rfl (by decide +kernel)
set_option maxRecDepth 65536 in
theorem w_c7 : (Jvm.Cond.code ({ cls := "com/example/fruition/fruition/core/model/BiblioIsEmptyPinLaw", name := "pick", desc := "(IILjava/lang/String;)Ljava/lang/String;" } : Jvm.MethodName) method_2_code (3 : Nat) (Option.some (Jvm.ClassFile.FieldType.object "java/lang/String"))).before args0 about1 = true := code_word (m := ⟨1, 1⟩) (meth := k1m1) (c := k1c1) (by decide +kernel) rfl rfl rfl (by decide +kernel)
set_option maxRecDepth 65536 in
theorem w_c8 : (Jvm.Cond.code ({ cls := "com/example/fruition/fruition/core/model/Biblio", name := "setIssue", desc := "(Ljava/lang/String;)V" } : Jvm.MethodName) prog_30_method_3_code (2 : Nat) (Option.none : Option Jvm.ClassFile.FieldType)).before args0 about1 = true := code_word (m := ⟨9, 1⟩) (meth := k9m1) (c := k9c1) (by decide +kernel) rfl rfl rfl (by decide +kernel)
set_option maxRecDepth 65536 in
theorem w_c9 : (Jvm.Cond.code ({ cls := "com/example/fruition/fruition/core/model/Biblio", name := "setPages", desc := "(Ljava/lang/String;Ljava/lang/String;)V" } : Jvm.MethodName) prog_30_method_6_code (3 : Nat) (Option.none : Option Jvm.ClassFile.FieldType)).before args0 about1 = true := code_word (m := ⟨9, 2⟩) (meth := k9m2) (c := k9c2) (by decide +kernel) rfl rfl rfl (by decide +kernel)
set_option maxRecDepth 65536 in
theorem w_c10 : (Jvm.Cond.code ({ cls := "com/example/fruition/fruition/core/model/Biblio", name := "setVolume", desc := "(Ljava/lang/String;)V" } : Jvm.MethodName) prog_30_method_8_code (2 : Nat) (Option.none : Option Jvm.ClassFile.FieldType)).before args0 about1 = true := code_word (m := ⟨9, 3⟩) (meth := k9m3) (c := k9c3) (by decide +kernel) rfl rfl rfl (by decide +kernel)
set_option maxRecDepth 65536 in
theorem w_c11 : (Jvm.Cond.code ({ cls := "com/example/fruition/fruition/core/model/Biblio", name := "setEdition", desc := "(Ljava/lang/String;)V" } : Jvm.MethodName) prog_30_method_10_code (2 : Nat) (Option.none : Option Jvm.ClassFile.FieldType)).before args0 about1 = true := code_word (m := ⟨9, 4⟩) (meth := k9m4) (c := k9c4) (by decide +kernel) rfl rfl rfl (by decide +kernel)
set_option maxRecDepth 65536 in
theorem w_c12 : (Jvm.Cond.code ({ cls := "com/example/fruition/fruition/core/model/Biblio", name := "setNumber", desc := "(Ljava/lang/String;)V" } : Jvm.MethodName) prog_30_method_12_code (2 : Nat) (Option.none : Option Jvm.ClassFile.FieldType)).before args0 about1 = true := code_word (m := ⟨9, 5⟩) (meth := k9m5) (c := k9c5) (by decide +kernel) rfl rfl rfl (by decide +kernel)
set_option maxRecDepth 65536 in
theorem w_c13 : (Jvm.Cond.code ({ cls := "com/example/fruition/fruition/core/model/Biblio", name := "setIn", desc := "(Ljava/lang/String;)V" } : Jvm.MethodName) prog_30_method_14_code (2 : Nat) (Option.none : Option Jvm.ClassFile.FieldType)).before args0 about1 = true := code_word (m := ⟨9, 6⟩) (meth := k9m6) (c := k9c6) (by decide +kernel) rfl rfl rfl (by decide +kernel)
set_option maxRecDepth 65536 in
theorem w_c14 : (Jvm.Cond.code ({ cls := "com/example/fruition/fruition/core/model/Biblio", name := "setHostingDataSource", desc := "(Ljava/lang/String;)V" } : Jvm.MethodName) prog_30_method_16_code (2 : Nat) (Option.none : Option Jvm.ClassFile.FieldType)).before args0 about1 = true := code_word (m := ⟨9, 7⟩) (meth := k9m7) (c := k9c7) (by decide +kernel) rfl rfl rfl (by decide +kernel)
set_option maxRecDepth 65536 in
theorem w_c15 : (Jvm.Cond.code ({ cls := "com/example/fruition/fruition/core/model/Biblio", name := "isEmpty", desc := "()Z" } : Jvm.MethodName) prog_30_method_17_code (1 : Nat) (Option.some Jvm.ClassFile.FieldType.boolean)).before args0 about1 = true := code_word (m := ⟨9, 8⟩) (meth := k9m8) (c := k9c8) (by decide +kernel) rfl rfl rfl (by decide +kernel)
def codes1 : List Jvm.Cond := [Jvm.Cond.code x code maxLocals ret, Jvm.Cond.code ({ cls := "java/lang/String", name := "valueOf", desc := "(C)Ljava/lang/String;" } : Jvm.MethodName) jdk_42_method_139_code (1 : Nat) (Option.some (Jvm.ClassFile.FieldType.object "java/lang/String")), Jvm.Cond.code ({ cls := "java/lang/StringLatin1", name := "canEncode", desc := "(C)Z" } : Jvm.MethodName) jdk_43_method_3_code (1 : Nat) (Option.some Jvm.ClassFile.FieldType.boolean), Jvm.Cond.code ({ cls := "java/lang/StringLatin1", name := "toBytes", desc := "(C)[B" } : Jvm.MethodName) jdk_43_method_46_code (1 : Nat) (Option.some (Jvm.ClassFile.FieldType.array Jvm.ClassFile.FieldType.byte)), Jvm.Cond.code ({ cls := "java/lang/String", name := "<init>", desc := "([BB)V" } : Jvm.MethodName) jdk_42_method_151_code (3 : Nat) (Option.none : Option Jvm.ClassFile.FieldType), Jvm.Cond.code ({ cls := "java/lang/Object", name := "<init>", desc := "()V" } : Jvm.MethodName) object_method_1_code (1 : Nat) (Option.none : Option Jvm.ClassFile.FieldType), Jvm.Cond.code ({ cls := "com/example/fruition/fruition/core/model/Biblio", name := "<init>", desc := "()V" } : Jvm.MethodName) prog_30_method_1_code (1 : Nat) (Option.none : Option Jvm.ClassFile.FieldType), Jvm.Cond.code ({ cls := "com/example/fruition/fruition/core/model/BiblioIsEmptyPinLaw", name := "pick", desc := "(IILjava/lang/String;)Ljava/lang/String;" } : Jvm.MethodName) method_2_code (3 : Nat) (Option.some (Jvm.ClassFile.FieldType.object "java/lang/String")), Jvm.Cond.code ({ cls := "com/example/fruition/fruition/core/model/Biblio", name := "setIssue", desc := "(Ljava/lang/String;)V" } : Jvm.MethodName) prog_30_method_3_code (2 : Nat) (Option.none : Option Jvm.ClassFile.FieldType), Jvm.Cond.code ({ cls := "com/example/fruition/fruition/core/model/Biblio", name := "setPages", desc := "(Ljava/lang/String;Ljava/lang/String;)V" } : Jvm.MethodName) prog_30_method_6_code (3 : Nat) (Option.none : Option Jvm.ClassFile.FieldType), Jvm.Cond.code ({ cls := "com/example/fruition/fruition/core/model/Biblio", name := "setVolume", desc := "(Ljava/lang/String;)V" } : Jvm.MethodName) prog_30_method_8_code (2 : Nat) (Option.none : Option Jvm.ClassFile.FieldType), Jvm.Cond.code ({ cls := "com/example/fruition/fruition/core/model/Biblio", name := "setEdition", desc := "(Ljava/lang/String;)V" } : Jvm.MethodName) prog_30_method_10_code (2 : Nat) (Option.none : Option Jvm.ClassFile.FieldType), Jvm.Cond.code ({ cls := "com/example/fruition/fruition/core/model/Biblio", name := "setNumber", desc := "(Ljava/lang/String;)V" } : Jvm.MethodName) prog_30_method_12_code (2 : Nat) (Option.none : Option Jvm.ClassFile.FieldType), Jvm.Cond.code ({ cls := "com/example/fruition/fruition/core/model/Biblio", name := "setIn", desc := "(Ljava/lang/String;)V" } : Jvm.MethodName) prog_30_method_14_code (2 : Nat) (Option.none : Option Jvm.ClassFile.FieldType), Jvm.Cond.code ({ cls := "com/example/fruition/fruition/core/model/Biblio", name := "setHostingDataSource", desc := "(Ljava/lang/String;)V" } : Jvm.MethodName) prog_30_method_16_code (2 : Nat) (Option.none : Option Jvm.ClassFile.FieldType), Jvm.Cond.code ({ cls := "com/example/fruition/fruition/core/model/Biblio", name := "isEmpty", desc := "()Z" } : Jvm.MethodName) prog_30_method_17_code (1 : Nat) (Option.some Jvm.ClassFile.FieldType.boolean)]
set_option maxRecDepth 65536 in
theorem codes_eq : words1.filter isCode = codes1 := rfl
theorem w_codes : ∀ c ∈ words1.filter isCode, c.before args0 about1 = true := by
  rw [codes_eq]
  intro c hc
  simp only [codes1, List.mem_cons, List.not_mem_nil, or_false] at hc
  rcases hc with rfl | rfl | rfl | rfl | rfl | rfl | rfl | rfl | rfl | rfl | rfl | rfl | rfl | rfl | rfl | rfl
  · exact w_c0
  · exact w_c1
  · exact w_c2
  · exact w_c3
  · exact w_c4
  · exact w_c5
  · exact w_c6
  · exact w_c7
  · exact w_c8
  · exact w_c9
  · exact w_c10
  · exact w_c11
  · exact w_c12
  · exact w_c13
  · exact w_c14
  · exact w_c15
set_option maxRecDepth 65536 in
theorem w_t1 : (words1.take 24).all (fun c => isCode c || c.before args0 about1) = true := by decide +kernel
set_option maxRecDepth 65536 in
theorem w_t2 : ((words1.drop 24).take 24).all (fun c => isCode c || c.before args0 about1) = true := by decide +kernel
set_option maxRecDepth 65536 in
theorem w_t3 : (((words1.drop 24).drop 24).take 24).all (fun c => isCode c || c.before args0 about1) = true := by decide +kernel
set_option maxRecDepth 65536 in
theorem w_t4 : ((((words1.drop 24).drop 24).drop 24).take 24).all (fun c => isCode c || c.before args0 about1) = true := by decide +kernel
set_option maxRecDepth 65536 in
theorem w_t5 : ((((words1.drop 24).drop 24).drop 24).drop 24).all (fun c => isCode c || c.before args0 about1) = true := by decide +kernel
theorem w_tables : (allAtoms (Jvm.Cond.code x code maxLocals ret :: tables_1)).before args0 about1 = true := by
  rw [allAtoms_all]
  show words1.all (fun c => c.before args0 about1) = true
  refine all_split ?_ w_codes
  rw [← List.take_append_drop 24 words1, List.all_append, w_t1, ← List.take_append_drop 24 (words1.drop 24), List.all_append, w_t2, ← List.take_append_drop 24 ((words1.drop 24).drop 24), List.all_append, w_t3, ← List.take_append_drop 24 (((words1.drop 24).drop 24).drop 24), List.all_append, w_t4, w_t5]
  rfl
set_option maxRecDepth 65536 in
theorem w_rest : rest_1_c.before args0 about1 = true := by decide +kernel
set_option maxRecDepth 65536 in
theorem w_case : (Jvm.Cond.and given_1 narrow_1).before args0 about1 = true := by decide +kernel
theorem w_applies : (headSpec (Jvm.Cond.code x code maxLocals ret :: tables_1) room_1).applies x e0.platform about1 = true :=
  (Spec.applies_iff w_frames).mpr ⟨w_running, w_runnable, w_alone, w_named, w_hears, w_ripe, w_room, w_tables⟩
theorem atStart : AtStart classFile x code maxLocals ret World_1 tables_1 room_1 Calls_1 rest_1 Pre_1 launch0 p0 e0 about1 theMethod args0 below0 :=
  ⟨lists_1, trivial, launch0.admits_env _ _ _, launch0.least_env, fairChoices_fair.cas, fairChoices_fair.clock, w_frames, w_args, w_heap, w_applies, trivial, w_rest, w_case⟩
end start1
theorem witness_1 : WitnessClaimed_1 := ⟨start1.p0, start1.e0, start1.about1, start1.theMethod, start1.args0, start1.below0, start1.atStart⟩
end Jvm.Pilot.@@N@@
