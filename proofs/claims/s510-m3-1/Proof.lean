import JvmDerived
import JvmDerived.Pilot.@@N@@Statement
import JvmDerived.Pilot.@@N@@Code
set_option linter.unusedVariables false
set_option linter.unusedSimpArgs false
namespace Jvm.RoadKit
open Sem ClassFile Op Lib Jvm.Stand Jvm.Free Jvm.LawKit
section New
variable {p : Program} {l : Launch} {e : Env} {R : Room} {s : State} {m : MethodId} {args : Array Value} {below : List Frame} {meth : Method} {c : Code} {T : State} {locs : List Loc} {cells slots : Nat}
theorem retI (X : Stand p l e R s m args below meth c T locs cells slots) (hx : p.tables.exec = Jvm.exec) {pc : Nat} {Ls : Array Slot} {z : Int32} {rest : List Value} (hret : meth.sig.returnType = some .int) (hd : decode c.code pc = .ok (.ireturn, 1)) {fs : List Frame}
    (hl : ∀ (f : JFrame) (acts : List Action), f.method = m → f.locked = none → f.entered = [] → (doReturn e (T.setTop f) acts (some (.int z))).1 = T.setFrames fs) : Steps p.tables e below (T.setTop (mkF m pc Ls (.int z :: rest))) (T.setFrames fs) := by
  have hm' : T.vm.method? m = some meth := X.method'
  have hn : narrow .int (.int z) = .int z := rfl
  show Steps p.tables e below (T.setTop { method := m, pc := pc, locals := Ls, stack := _ :: rest, locked := none }) _
  jvm_step X.here [X.here.top, hx, hd, hm', hret, hn]
  first | (intro acts; rw [hl _ acts rfl rfl rfl]) | rw [hl _ _ rfl rfl rfl]
  exact Steps.refl _
theorem own_retJ (X : Stand p l e R s m args below meth c T locs cells slots) (hx : p.tables.exec = Jvm.exec) {pc : Nat} {Ls : Array Slot} {z : Int64} {rest : List Value} (hret : meth.sig.returnType = some .long) (hd : decode c.code pc = .ok (.lreturn, 1)) {fs : List Frame}
    (hl : ∀ (f : JFrame) (acts : List Action), f.method = m → f.locked = none → f.entered = [] → (doReturn e (T.setTop f) acts (some (.long z))).1 = T.setFrames fs) : Steps p.tables e below (T.setTop (mkF m pc Ls (.long z :: rest))) (T.setFrames fs) := by
  have hm' : T.vm.method? m = some meth := X.method'
  show Steps p.tables e below (T.setTop { method := m, pc := pc, locals := Ls, stack := _ :: rest, locked := none }) _
  jvm_step X.here [X.here.top, hx, hd, hm', hret, narrow]
  first | (intro acts; rw [hl _ acts rfl rfl rfl]) | rw [hl _ _ rfl rfl rfl]
  exact Steps.refl _
theorem own_join {n0 : Nat} (X : Stand p l e R s m args below meth c T locs cells slots) (N : Fr n0 locs) {h : Heap} (g g' : JFrame)
    (H : ∃ (T' : State) (locs' : List Loc), Stand p l e R s m args below meth c T' locs' cells slots ∧ Fr n0 locs' ∧ T'.heap = h ∧ ∀ t, Steps p.tables e below (T'.setTop g') t → Steps p.tables e below (T.setTop g) t) :
    ∃ (T' : State) (locs' : List Loc), Stand p l e R s m args below meth c T' locs' cells slots ∧ Fr n0 locs' ∧ T'.heap = h ∧ ∀ t, Steps p.tables e below (T'.setTop g') t → Steps p.tables e below (T.setTop g) t := H
theorem own_mono (X : Stand p l e R s m args below meth c T locs cells slots) {c' s' : Nat} (h1 : cells ≤ c') (h2 : slots ≤ s') : Stand p l e R s m args below meth c T locs c' s' :=
  ⟨X.admits, X.cas, X.clock, X.frames, X.room, X.hears, X.method, X.code, X.here, X.tail, X.warmed, X.limits, X.bytes, X.same.mono h1 h2⟩
theorem own_lrem {g : JFrame} {target : State} (X : Stand p l e R s m args below meth c T locs cells slots) (hx : p.tables.exec = Jvm.exec) (hg : g.method = m) {x y : Int64} {rest : List Value} (hd : decode c.code g.pc = .ok (.lrem, 1)) (hs : g.stack = .long y :: .long x :: rest) (hy : y ≠ 0)
    (hr : Steps p.tables e below (T.setTop { g with pc := g.pc + 1, stack := .long (x % y) :: rest }) target) : Steps p.tables e below (T.setTop g) target :=
  Jvm.Free.XS.lrem X.here hx hg hd hs hy (by rw [lrem_mod x y]; exact hr)
def Bya (Z : State) (h : Heap) (a : Addr) (z : Int32) (f : Int32 → Int32) : Prop := ∃ c : Cell, Arr Z h a c .byte ∧ c.slots.size = z.toNatClampNeg ∧ ∀ j : Int32, ¬ j < 0 → j < z → c.slots[j.toNatClampNeg]? = some (.int (f j))
theorem Bya.lt {Z : State} {h : Heap} {a : Addr} {z : Int32} {f : Int32 → Int32} (F : Bya Z h a z f) : a < h.size := by obtain ⟨c, A, -⟩ := F; exact A.lt
theorem Bya.ext {Z : State} {h h' : Heap} {a : Addr} {z : Int32} {f : Int32 → Int32} (F : Bya Z h a z f) (E : Ext h h') : Bya Z h' a z f := by obtain ⟨c, A, r⟩ := F; exact ⟨c, A.ext E, r⟩
theorem Bya.other {Z : State} {h h' : Heap} {a b : Addr} {z : Int32} {f : Int32 → Int32} {sl : Nat} {v : Value} (F : Bya Z h b z f) (W : Wr h h' a sl v) (q : b ≠ a) : Bya Z h' b z f := by obtain ⟨c, A, r⟩ := F; exact ⟨c, A.other W q, r⟩
theorem Bya.keep {Z : State} {h h' : Heap} {a : Addr} {z : Int32} {f : Int32 → Int32} {ws : List Addr} (F : Bya Z h a z f) (K : Keep h h' ws) (q : a ∉ ws) : Bya Z h' a z f := by obtain ⟨c, A, r⟩ := F; exact ⟨c, ⟨K.2.1 a c A.1 q, A.2⟩, r⟩
theorem Bya.set {Z : State} {h h' : Heap} {a : Addr} {z j v : Int32} {f : Int32 → Int32} {c : Cell} (A : Arr Z h a c .byte) (S : c.slots.size = z.toNatClampNeg) (H : ∀ j : Int32, ¬ j < 0 → j < z → c.slots[j.toNatClampNeg]? = some (.int (f j))) (hj : ¬ j < 0 ∧ j < z) (W : Wr h h' a j.toNatClampNeg (.int v)) : Bya Z h' a z (fun i => if i = j then v else f i) := by
  refine ⟨_, A.same W, by rw [sz_set]; exact S, fun i h1 h2 => ?_⟩
  by_cases q : i = j
  · rw [get_hit (inb_of S hj) q]; simp [q]
  · rw [get_miss hj.1 h1 q, H i h1 h2]; simp [q]
theorem Bya.of_arv {Z : State} {h : Heap} {a : Addr} {k : ClassId} {z : Int32} {vs : List Value} {es : List Int32} (F : Arv Z h a k .byte z vs (.int (0 : Int32))) (e : vs = es.map Value.int) : Bya Z h a z (fun i => es.getD i.toNatClampNeg 0) := by
  obtain ⟨c, A, -, S, -, H, -⟩ := F
  refine ⟨c, A, S, fun j h1 h2 => ?_⟩
  refine H.at (inb_of S ⟨h1, h2⟩) ?_
  subst e
  simp only [List.getD_eq_getElem?_getD, List.getElem?_map]
  cases es[j.toNatClampNeg]? <;> rfl
theorem own_b1 {x : Int32} (h : x = 1) : ¬ x = 0 := by rw [h]; decide
theorem ocs {α : Type} {a b : α} {l m : List α} (h1 : a = b) (h2 : l = m) : a :: l = b :: m := by rw [h1, h2]
theorem own_arv {Z : State} {h : Heap} {a : Addr} {k : ClassId} {ty : FieldType} {z : Int32} {vs ws : List Value} {d : Value} (A : Arv Z h a k ty z vs d) (q : ws = vs) : Arv Z h a k ty z ws d := q ▸ A
theorem own_fld {Z : State} {h : Heap} {a : Addr} {C n d : String} {v w : Value} (F : Fld Z h a C n d v) (q : w = v) : Fld Z h a C n d w := q ▸ F
end New
end Jvm.RoadKit
namespace Jvm.Pilot.@@N@@
open Jvm Jvm.ClassFile Sem Op Lib Jvm.Free Jvm.Stand Jvm.LawKit Jvm.RoadKit Bundle Jvm.Pilot.@@N@@.Jvm.D
abbrev own_T (Z : State) (a0 : Array Value) : Prop := ∀ d ∈ tables_1, d.before a0 Z = true
set_option maxRecDepth 65536
set_option maxHeartbeats 40000000
abbrev oDe (b : ByteArray) (n : Nat) (i : ClassFile.Instr) (k : Nat) : Prop := decode b n = .ok (i, k)
abbrev oRm (a b c d : Nat) : Room := { frames := a, cells := b, slots := c, locals := d }
theorem owg {Z : State} {a0 : Array Value} (hw : own_T Z a0) (i : Nat) {d : Cond} (h : tables_1[i]? = some d) : d.before a0 Z = true := hw _ (List.mem_of_getElem? h)
variable (l : Launch) (Z : State) (a0 : Array Value)
theorem onl {a b : Addr} {x y : Nat} (h : a < x) (k : x ≤ y) (g : b = y) : a ≠ b := Nat.ne_of_lt (Nat.lt_of_lt_of_le (Nat.lt_of_lt_of_le h k) (Nat.le_of_eq g.symm))
theorem onm {a b : Addr} {x : Nat} (h : a < x) (g : b = x) : a ≠ b := Nat.ne_of_lt (Nat.lt_of_lt_of_le h (Nat.le_of_eq g.symm))
theorem onk {a b : Addr} {x : Nat} (h : a < x) (g : x ≤ b) : a ≠ b := Nat.ne_of_lt (Nat.lt_of_lt_of_le h g)
theorem oyw {h0 h h' : Heap} {a : Addr} {sl : Nat} {v : Value} (k : h0.size ≤ h.size) (W : Wr h h' a sl v) : h0.size ≤ h'.size := Nat.le_trans k (Nat.le_of_eq W.size.symm)
theorem osl {Z : State} {a0 : Array Value} {C O n d O' n' d' : String} (t t' : FieldType) (A : (Cond.lays C O n d).before a0 Z = true) (B : (Cond.lays C O' n' d').before a0 Z = true) (hn : n ≠ n' := by decide) (h1 : parseFieldDescriptor d = some t := by decide) (h2 : parseFieldDescriptor d' = some t' := by decide) : Jvm.RoadKit.slotOf Z O n d ≠ Jvm.RoadKit.slotOf Z O' n' d' := slot_ne (Or.inl A) (Or.inl B) hn h1 h2
abbrev oAL : FieldType := .array .long
abbrev oOB : FieldType := .object "java/util/BitSet"
abbrev oc1 := jdk_29_method_70_code
abbrev oy1 := (⟨"java/lang/Math", "min", "(JJ)J"⟩ : MethodName)
abbrev oc2 := jdk_29_method_66_code
abbrev oy2 := (⟨"java/lang/Math", "max", "(JJ)J"⟩ : MethodName)
abbrev oc3 := prog_30_method_1_code
abbrev oy3 := (⟨"com/example/throttlua/throttlua/slidinglog/SubjectLog", "<init>", "()V"⟩ : MethodName)
abbrev oy4 := (⟨"java/lang/Object", "<init>", "()V"⟩ : MethodName)
abbrev oc5 := jdk_92_method_4_code
abbrev oy5 := (⟨"java/util/BitSet", "<init>", "()V"⟩ : MethodName)
abbrev oc6 := jdk_92_method_6_code
abbrev oy6 := (⟨"java/util/BitSet", "initWords", "(I)V"⟩ : MethodName)
abbrev oc7 := jdk_92_method_1_code
abbrev oy7 := (⟨"java/util/BitSet", "wordIndex", "(I)I"⟩ : MethodName)
abbrev oc8 := prog_30_method_7_code
abbrev oy8 := (⟨"com/example/throttlua/throttlua/slidinglog/SubjectLog", "add", "(JJI)V"⟩ : MethodName)
abbrev oy9 := (⟨"java/lang/Integer", "highestOneBit", "(I)I"⟩ : MethodName)
abbrev oy10 := (⟨"java/lang/Integer", "numberOfLeadingZeros", "(I)I"⟩ : MethodName)
abbrev oc11 := jdk_29_method_65_code
abbrev oy11 := (⟨"java/lang/Math", "max", "(II)I"⟩ : MethodName)
abbrev oc12 := prog_30_method_15_code
abbrev oy12 := (⟨"com/example/throttlua/throttlua/slidinglog/SubjectLog", "moveTo", "(I)V"⟩ : MethodName)
abbrev oc13 := jdk_92_method_28_code
abbrev oy13 := (⟨"java/util/BitSet", "nextSetBit", "(I)I"⟩ : MethodName)
abbrev oc14 := jdk_92_method_2_code
abbrev oy14 := (⟨"java/util/BitSet", "checkInvariants", "()V"⟩ : MethodName)
abbrev oc15 := jdk_92_method_5_code
abbrev oy15 := (⟨"java/util/BitSet", "<init>", "(I)V"⟩ : MethodName)
abbrev oc16 := jdk_92_method_21_code
abbrev oy16 := (⟨"java/util/BitSet", "set", "(II)V"⟩ : MethodName)
abbrev oc17 := jdk_92_method_16_code
abbrev oy17 := (⟨"java/util/BitSet", "checkRange", "(II)V"⟩ : MethodName)
abbrev oc18 := jdk_65_method_102_code
abbrev oy18 := (⟨"java/util/Arrays", "fill", "([JIIJ)V"⟩ : MethodName)
abbrev oc19 := jdk_65_method_30_code
abbrev oy19 := (⟨"java/util/Arrays", "rangeCheck", "(III)V"⟩ : MethodName)
abbrev oc20 := jdk_92_method_19_code
abbrev oy20 := (⟨"java/util/BitSet", "set", "(I)V"⟩ : MethodName)
abbrev oc21 := jdk_92_method_15_code
abbrev oy21 := (⟨"java/util/BitSet", "expandTo", "(I)V"⟩ : MethodName)
abbrev oc22 := jdk_92_method_14_code
abbrev oy22 := (⟨"java/util/BitSet", "ensureCapacity", "(I)V"⟩ : MethodName)
abbrev oc23 := prog_30_method_14_code
abbrev oy23 := (⟨"com/example/throttlua/throttlua/slidinglog/SubjectLog", "setSpan", "(IJ)V"⟩ : MethodName)
abbrev oc24 := method_2_code
abbrev oy24 := (⟨"com/example/throttlua/throttlua/slidinglog/SubjectLogTakenAfterPinLaw", "addRef", "([J[J[ZII)I"⟩ : MethodName)
abbrev oc25 := method_3_code
abbrev oy25 := (⟨"com/example/throttlua/throttlua/slidinglog/SubjectLogTakenAfterPinLaw", "after", "([J[JIIJ)J"⟩ : MethodName)
abbrev oc26 := prog_30_method_4_code
abbrev oy26 := (⟨"com/example/throttlua/throttlua/slidinglog/SubjectLog", "takenAfter", "(J)J"⟩ : MethodName)
abbrev oc27 := prog_30_method_10_code
abbrev oy27 := (⟨"com/example/throttlua/throttlua/slidinglog/SubjectLog", "oldestAfter", "(J)I"⟩ : MethodName)
abbrev oc28 := prog_30_method_12_code
abbrev oy28 := (⟨"com/example/throttlua/throttlua/slidinglog/SubjectLog", "firstSlotPast", "([JJJI)I"⟩ : MethodName)
abbrev oy29 := (⟨"java/lang/Long", "numberOfTrailingZeros", "(J)I"⟩ : MethodName)
abbrev oy30 := (⟨"java/lang/Integer", "numberOfTrailingZeros", "(I)I"⟩ : MethodName)
abbrev oc31 := prog_30_method_11_code
abbrev oy31 := (⟨"com/example/throttlua/throttlua/slidinglog/SubjectLog", "totalBefore", "(I)J"⟩ : MethodName)
abbrev oc32 := jdk_92_method_30_code
abbrev oy32 := (⟨"java/util/BitSet", "previousSetBit", "(I)I"⟩ : MethodName)
abbrev oc33 := prog_30_method_6_code
abbrev oy33 := (⟨"com/example/throttlua/throttlua/slidinglog/SubjectLog", "dropUpTo", "(J)V"⟩ : MethodName)
abbrev oc34 := prog_30_method_9_code
abbrev oy34 := (⟨"com/example/throttlua/throttlua/slidinglog/SubjectLog", "shrink", "()Z"⟩ : MethodName)
abbrev oc35 := prog_30_method_13_code
abbrev oy35 := (⟨"com/example/throttlua/throttlua/slidinglog/SubjectLog", "shortest", "()I"⟩ : MethodName)
abbrev oy36 := (⟨"java/lang/Long", "numberOfLeadingZeros", "(J)I"⟩ : MethodName)
abbrev oc37 := jdk_92_method_23_code
abbrev oy37 := (⟨"java/util/BitSet", "clear", "(I)V"⟩ : MethodName)
abbrev oc38 := jdk_92_method_3_code
abbrev oy38 := (⟨"java/util/BitSet", "recalculateWordsInUse", "()V"⟩ : MethodName)
abbrev oc39 := jdk_92_method_25_code
abbrev oy39 := (⟨"java/util/BitSet", "clear", "()V"⟩ : MethodName)
abbrev oU : Slot := .unset
abbrev oD : Slot := .second
abbrev oI (n : Int32) : Slot := .val (.int n)
abbrev oJ (n : Int64) : Slot := .val (.long n)
abbrev oR (n : Addr) : Slot := .val (.ref n)
abbrev oM : Int64 := 9223372036854775807
abbrev oZ : Value := .long (0 : Int64)
abbrev oL : String := "com/example/throttlua/throttlua/slidinglog/SubjectLog"
abbrev oB : String := "java/util/BitSet"
section OwnW
variable {Z : State} {a0 : Array Value}
theorem waa (hw : own_T Z a0) : (Cond.constantLong "com/example/throttlua/throttlua/slidinglog/SubjectLogTakenAfterPinLaw" (9 : Nat) (-9223372036854775800 : Int64)).before a0 Z = true := owg hw 0 rfl
theorem wab (hw : own_T Z a0) : (Cond.constantLong "com/example/throttlua/throttlua/slidinglog/SubjectLogTakenAfterPinLaw" (11 : Nat) (9223372036854775743 : Int64)).before a0 Z = true := owg hw 1 rfl
theorem wbY (hw : own_T Z a0) : (Cond.methodLink "com/example/throttlua/throttlua/slidinglog/SubjectLogTakenAfterPinLaw" (13 : Nat) oy1).before a0 Z = true := owg hw 2 rfl
theorem wcd (hw : own_T Z a0) : (Cond.static oy1).before a0 Z = true := owg hw 3 rfl
theorem wco (hw : own_T Z a0) : (Cond.initialized "java/lang/Math").before a0 Z = true := owg hw 4 rfl
theorem wcz (hw : own_T Z a0) : (Cond.code oy1 oc1 (4 : Nat) (Option.some FieldType.long)).before a0 Z = true := owg hw 5 rfl
theorem wcK (hw : own_T Z a0) : (Cond.methodLink "com/example/throttlua/throttlua/slidinglog/SubjectLogTakenAfterPinLaw" (19 : Nat) oy2).before a0 Z = true := owg hw 6 rfl
theorem wcV (hw : own_T Z a0) : (Cond.static oy2).before a0 Z = true := owg hw 7 rfl
theorem wc6 (hw : own_T Z a0) : (Cond.code oy2 oc2 (4 : Nat) (Option.some FieldType.long)).before a0 Z = true := owg hw 8 rfl
theorem wdh (hw : own_T Z a0) : (Cond.constantLong "com/example/throttlua/throttlua/slidinglog/SubjectLogTakenAfterPinLaw" (22 : Nat) (1125899906842623 : Int64)).before a0 Z = true := owg hw 9 rfl
theorem wac (hw : own_T Z a0) : (Cond.constantLong "com/example/throttlua/throttlua/slidinglog/SubjectLogTakenAfterPinLaw" (24 : Nat) (4 : Int64)).before a0 Z = true := owg hw 10 rfl
theorem wan (hw : own_T Z a0) : (Cond.arrayClass FieldType.long).before a0 Z = true := owg hw 11 rfl
theorem way (hw : own_T Z a0) : (Cond.arrayClass FieldType.boolean).before a0 Z = true := owg hw 12 rfl
theorem waJ (hw : own_T Z a0) : (Cond.classLink "com/example/throttlua/throttlua/slidinglog/SubjectLogTakenAfterPinLaw" (28 : Nat) oL).before a0 Z = true := owg hw 13 rfl
theorem waU (hw : own_T Z a0) : (Cond.instantiable oL (9 : Nat)).before a0 Z = true := owg hw 14 rfl
theorem wa5 (hw : own_T Z a0) : (Cond.initialized oL).before a0 Z = true := owg hw 15 rfl
theorem wbg (hw : own_T Z a0) : (Cond.methodLink "com/example/throttlua/throttlua/slidinglog/SubjectLogTakenAfterPinLaw" (30 : Nat) oy3).before a0 Z = true := owg hw 16 rfl
theorem wbr (hw : own_T Z a0) : (Cond.instanceMethod oy3).before a0 Z = true := owg hw 17 rfl
theorem wbC (hw : own_T Z a0) : (Cond.code oy3 oc3 (1 : Nat) (Option.none : Option FieldType)).before a0 Z = true := owg hw 18 rfl
theorem wbN (hw : own_T Z a0) : (Cond.methodLink oL (3 : Nat) oy4).before a0 Z = true := owg hw 19 rfl
theorem wbZ (hw : own_T Z a0) : (Cond.instanceMethod oy4).before a0 Z = true := owg hw 20 rfl
theorem wb4 (hw : own_T Z a0) : (Cond.code oy4 object_method_1_code (1 : Nat) (Option.none : Option FieldType)).before a0 Z = true := owg hw 21 rfl
theorem wb5 (hw : own_T Z a0) : (Cond.fieldLink oL (9 : Nat) oL "times" "[J").before a0 Z = true := owg hw 22 rfl
theorem wb6 (hw : own_T Z a0) : (Cond.lays oL oL "times" "[J").before a0 Z = true := owg hw 23 rfl
theorem wb7 (hw : own_T Z a0) : (Cond.fieldLink oL (15 : Nat) oL "froms" "[J").before a0 Z = true := owg hw 24 rfl
theorem wb8 (hw : own_T Z a0) : (Cond.lays oL oL "froms" "[J").before a0 Z = true := owg hw 25 rfl
theorem wb9 (hw : own_T Z a0) : (Cond.fieldLink oL (18 : Nat) oL "totals" "[J").before a0 Z = true := owg hw 26 rfl
theorem wca (hw : own_T Z a0) : (Cond.lays oL oL "totals" "[J").before a0 Z = true := owg hw 27 rfl
theorem wcb (hw : own_T Z a0) : (Cond.fieldLink oL (21 : Nat) oL "spans" "[J").before a0 Z = true := owg hw 28 rfl
theorem wcc (hw : own_T Z a0) : (Cond.lays oL oL "spans" "[J").before a0 Z = true := owg hw 29 rfl
theorem wce (hw : own_T Z a0) : (Cond.classLink oL (24 : Nat) oB).before a0 Z = true := owg hw 30 rfl
theorem wcf (hw : own_T Z a0) : (Cond.instantiable oB (3 : Nat)).before a0 Z = true := owg hw 31 rfl
theorem wcg (hw : own_T Z a0) : (Cond.initialized oB).before a0 Z = true := owg hw 32 rfl
theorem wch (hw : own_T Z a0) : (Cond.methodLink oL (26 : Nat) oy5).before a0 Z = true := owg hw 33 rfl
theorem wci (hw : own_T Z a0) : (Cond.instanceMethod oy5).before a0 Z = true := owg hw 34 rfl
theorem wcj (hw : own_T Z a0) : (Cond.code oy5 oc5 (1 : Nat) (Option.none : Option FieldType)).before a0 Z = true := owg hw 35 rfl
theorem wck (hw : own_T Z a0) : (Cond.methodLink oB (21 : Nat) oy4).before a0 Z = true := owg hw 36 rfl
theorem wcl (hw : own_T Z a0) : (Cond.fieldLink oB (7 : Nat) oB "wordsInUse" "I").before a0 Z = true := owg hw 37 rfl
theorem wcm (hw : own_T Z a0) : (Cond.lays oB oB "wordsInUse" "I").before a0 Z = true := owg hw 38 rfl
theorem wcn (hw : own_T Z a0) : (Cond.fieldLink oB (24 : Nat) oB "sizeIsSticky" "Z").before a0 Z = true := owg hw 39 rfl
theorem wcp (hw : own_T Z a0) : (Cond.lays oB oB "sizeIsSticky" "Z").before a0 Z = true := owg hw 40 rfl
theorem wcq (hw : own_T Z a0) : (Cond.methodLink oB (27 : Nat) oy6).before a0 Z = true := owg hw 41 rfl
theorem wcr (hw : own_T Z a0) : (Cond.instanceMethod oy6).before a0 Z = true := owg hw 42 rfl
theorem wcs (hw : own_T Z a0) : (Cond.privateMethod oy6).before a0 Z = true := owg hw 43 rfl
theorem wct (hw : own_T Z a0) : (Cond.selects oB oy6 oy6).before a0 Z = true := owg hw 44 rfl
theorem wcu (hw : own_T Z a0) : (Cond.code oy6 oc6 (2 : Nat) (Option.none : Option FieldType)).before a0 Z = true := owg hw 45 rfl
theorem wcv (hw : own_T Z a0) : (Cond.methodLink oB (52 : Nat) oy7).before a0 Z = true := owg hw 46 rfl
theorem wcw (hw : own_T Z a0) : (Cond.static oy7).before a0 Z = true := owg hw 47 rfl
theorem wcx (hw : own_T Z a0) : (Cond.code oy7 oc7 (1 : Nat) (Option.some FieldType.int)).before a0 Z = true := owg hw 48 rfl
theorem wcy (hw : own_T Z a0) : (Cond.fieldLink oB (11 : Nat) oB "words" "[J").before a0 Z = true := owg hw 49 rfl
theorem wcA (hw : own_T Z a0) : (Cond.lays oB oB "words" "[J").before a0 Z = true := owg hw 50 rfl
theorem wcB (hw : own_T Z a0) : (Cond.fieldLink oL (27 : Nat) oL "entries" "Ljava/util/BitSet;").before a0 Z = true := owg hw 51 rfl
theorem wcC (hw : own_T Z a0) : (Cond.lays oL oL "entries" "Ljava/util/BitSet;").before a0 Z = true := owg hw 52 rfl
theorem wcD (hw : own_T Z a0) : (Cond.methodLink "com/example/throttlua/throttlua/slidinglog/SubjectLogTakenAfterPinLaw" (31 : Nat) oy8).before a0 Z = true := owg hw 53 rfl
theorem wcE (hw : own_T Z a0) : (Cond.declares oy8).before a0 Z = true := owg hw 54 rfl
theorem wcF (hw : own_T Z a0) : (Cond.instanceMethod oy8).before a0 Z = true := owg hw 55 rfl
theorem wcG (hw : own_T Z a0) : (Cond.selects oL oy8 oy8).before a0 Z = true := owg hw 56 rfl
theorem wcH (hw : own_T Z a0) : (Cond.code oy8 oc8 (9 : Nat) (Option.none : Option FieldType)).before a0 Z = true := owg hw 57 rfl
theorem wcI (hw : own_T Z a0) : (Cond.fieldLink oL (31 : Nat) oL "size" "I").before a0 Z = true := owg hw 58 rfl
theorem wcJ (hw : own_T Z a0) : (Cond.lays oL oL "size" "I").before a0 Z = true := owg hw 59 rfl
theorem wcL (hw : own_T Z a0) : (Cond.fieldLink oL (35 : Nat) oL "end" "I").before a0 Z = true := owg hw 60 rfl
theorem wcM (hw : own_T Z a0) : (Cond.lays oL oL "end" "I").before a0 Z = true := owg hw 61 rfl
theorem wcN (hw : own_T Z a0) : (Cond.methodLink oL (76 : Nat) oy9).before a0 Z = true := owg hw 62 rfl
theorem wcO (hw : own_T Z a0) : (Cond.static oy9).before a0 Z = true := owg hw 63 rfl
theorem wcP (hw : own_T Z a0) : (Cond.initialized "java/lang/Integer").before a0 Z = true := owg hw 64 rfl
theorem wcQ (hw : own_T Z a0) : (Cond.code oy9 jdk_33_method_45_code (1 : Nat) (Option.some FieldType.int)).before a0 Z = true := owg hw 65 rfl
theorem wcR (hw : own_T Z a0) : (Cond.constant "java/lang/Integer" (127 : Nat) (-2147483648 : Int32)).before a0 Z = true := owg hw 66 rfl
theorem wcS (hw : own_T Z a0) : (Cond.methodLink "java/lang/Integer" (51 : Nat) oy10).before a0 Z = true := owg hw 67 rfl
theorem wcT (hw : own_T Z a0) : (Cond.static oy10).before a0 Z = true := owg hw 68 rfl
theorem wcU (hw : own_T Z a0) : (Cond.code oy10 jdk_33_method_47_code (2 : Nat) (Option.some FieldType.int)).before a0 Z = true := owg hw 69 rfl
theorem wcW (hw : own_T Z a0) : (Cond.constant "java/lang/Integer" (264 : Nat) (65536 : Int32)).before a0 Z = true := owg hw 70 rfl
theorem wcX (hw : own_T Z a0) : (Cond.methodLink oL (81 : Nat) oy11).before a0 Z = true := owg hw 71 rfl
theorem wcY (hw : own_T Z a0) : (Cond.static oy11).before a0 Z = true := owg hw 72 rfl
theorem wcZ (hw : own_T Z a0) : (Cond.code oy11 oc11 (2 : Nat) (Option.some FieldType.int)).before a0 Z = true := owg hw 73 rfl
theorem wc0 (hw : own_T Z a0) : (Cond.methodLink oL (87 : Nat) oy12).before a0 Z = true := owg hw 74 rfl
theorem wc1 (hw : own_T Z a0) : (Cond.instanceMethod oy12).before a0 Z = true := owg hw 75 rfl
theorem wc2 (hw : own_T Z a0) : (Cond.privateMethod oy12).before a0 Z = true := owg hw 76 rfl
theorem wc3 (hw : own_T Z a0) : (Cond.code oy12 oc12 (8 : Nat) (Option.none : Option FieldType)).before a0 Z = true := owg hw 77 rfl
theorem wc4 (hw : own_T Z a0) : (Cond.fieldLink oL (54 : Nat) oL "first" "I").before a0 Z = true := owg hw 78 rfl
theorem wc5 (hw : own_T Z a0) : (Cond.lays oL oL "first" "I").before a0 Z = true := owg hw 79 rfl
theorem wc7 (hw : own_T Z a0) : (Cond.methodLink oL (50 : Nat) oy13).before a0 Z = true := owg hw 80 rfl
theorem wc8 (hw : own_T Z a0) : (Cond.declares oy13).before a0 Z = true := owg hw 81 rfl
theorem wc9 (hw : own_T Z a0) : (Cond.instanceMethod oy13).before a0 Z = true := owg hw 82 rfl
theorem wda (hw : own_T Z a0) : (Cond.selects oB oy13 oy13).before a0 Z = true := owg hw 83 rfl
theorem wdb (hw : own_T Z a0) : (Cond.code oy13 oc13 (5 : Nat) (Option.some FieldType.int)).before a0 Z = true := owg hw 84 rfl
theorem wdc (hw : own_T Z a0) : (Cond.methodLink oB (56 : Nat) oy14).before a0 Z = true := owg hw 85 rfl
theorem wdd (hw : own_T Z a0) : (Cond.instanceMethod oy14).before a0 Z = true := owg hw 86 rfl
theorem wde (hw : own_T Z a0) : (Cond.privateMethod oy14).before a0 Z = true := owg hw 87 rfl
theorem wdf (hw : own_T Z a0) : (Cond.selects oB oy14 oy14).before a0 Z = true := owg hw 88 rfl
theorem wdg (hw : own_T Z a0) : (Cond.code oy14 oc14 (1 : Nat) (Option.none : Option FieldType)).before a0 Z = true := owg hw 89 rfl
theorem wdi (hw : own_T Z a0) : (Cond.fieldLink oB (3 : Nat) oB "$assertionsDisabled" "Z").before a0 Z = true := owg hw 90 rfl
theorem wdj (hw : own_T Z a0) : (Cond.methodLink oL (105 : Nat) oy15).before a0 Z = true := owg hw 91 rfl
theorem wdk (hw : own_T Z a0) : (Cond.instanceMethod oy15).before a0 Z = true := owg hw 92 rfl
theorem wdl (hw : own_T Z a0) : (Cond.code oy15 oc15 (2 : Nat) (Option.none : Option FieldType)).before a0 Z = true := owg hw 93 rfl
theorem wdm (hw : own_T Z a0) : (Cond.methodLink oL (109 : Nat) oy16).before a0 Z = true := owg hw 94 rfl
theorem wdn (hw : own_T Z a0) : (Cond.declares oy16).before a0 Z = true := owg hw 95 rfl
theorem wdo (hw : own_T Z a0) : (Cond.instanceMethod oy16).before a0 Z = true := owg hw 96 rfl
theorem wdp (hw : own_T Z a0) : (Cond.selects oB oy16 oy16).before a0 Z = true := owg hw 97 rfl
theorem wdq (hw : own_T Z a0) : (Cond.code oy16 oc16 (10 : Nat) (Option.none : Option FieldType)).before a0 Z = true := owg hw 98 rfl
theorem wdr (hw : own_T Z a0) : (Cond.methodLink oB (161 : Nat) oy17).before a0 Z = true := owg hw 99 rfl
theorem wad (hw : own_T Z a0) : (Cond.static oy17).before a0 Z = true := owg hw 100 rfl
theorem wae (hw : own_T Z a0) : (Cond.code oy17 oc17 (2 : Nat) (Option.none : Option FieldType)).before a0 Z = true := owg hw 101 rfl
theorem waf (hw : own_T Z a0) : (Cond.constantLong oL (65 : Nat) oM).before a0 Z = true := owg hw 102 rfl
theorem wag (hw : own_T Z a0) : (Cond.methodLink oL (112 : Nat) oy18).before a0 Z = true := owg hw 103 rfl
theorem wah (hw : own_T Z a0) : (Cond.static oy18).before a0 Z = true := owg hw 104 rfl
theorem wai (hw : own_T Z a0) : (Cond.initialized "java/util/Arrays").before a0 Z = true := owg hw 105 rfl
theorem waj (hw : own_T Z a0) : (Cond.code oy18 oc18 (6 : Nat) (Option.none : Option FieldType)).before a0 Z = true := owg hw 106 rfl
theorem wak (hw : own_T Z a0) : (Cond.methodLink "java/util/Arrays" (13 : Nat) oy19).before a0 Z = true := owg hw 107 rfl
theorem wal (hw : own_T Z a0) : (Cond.static oy19).before a0 Z = true := owg hw 108 rfl
theorem wam (hw : own_T Z a0) : (Cond.code oy19 oc19 (3 : Nat) (Option.none : Option FieldType)).before a0 Z = true := owg hw 109 rfl
theorem wao (hw : own_T Z a0) : (Cond.methodLink oL (101 : Nat) oy1).before a0 Z = true := owg hw 110 rfl
theorem wap (hw : own_T Z a0) : (Cond.fieldLink oL (57 : Nat) oL "base" "J").before a0 Z = true := owg hw 111 rfl
theorem waq (hw : own_T Z a0) : (Cond.lays oL oL "base" "J").before a0 Z = true := owg hw 112 rfl
theorem war (hw : own_T Z a0) : (Cond.methodLink oL (90 : Nat) oy20).before a0 Z = true := owg hw 113 rfl
theorem was (hw : own_T Z a0) : (Cond.declares oy20).before a0 Z = true := owg hw 114 rfl
theorem wat (hw : own_T Z a0) : (Cond.instanceMethod oy20).before a0 Z = true := owg hw 115 rfl
theorem wau (hw : own_T Z a0) : (Cond.selects oB oy20 oy20).before a0 Z = true := owg hw 116 rfl
theorem wav (hw : own_T Z a0) : (Cond.code oy20 oc20 (3 : Nat) (Option.none : Option FieldType)).before a0 Z = true := owg hw 117 rfl
theorem waw (hw : own_T Z a0) : (Cond.methodLink oB (155 : Nat) oy21).before a0 Z = true := owg hw 118 rfl
theorem wax (hw : own_T Z a0) : (Cond.instanceMethod oy21).before a0 Z = true := owg hw 119 rfl
theorem waz (hw : own_T Z a0) : (Cond.privateMethod oy21).before a0 Z = true := owg hw 120 rfl
theorem waA (hw : own_T Z a0) : (Cond.selects oB oy21 oy21).before a0 Z = true := owg hw 121 rfl
theorem waB (hw : own_T Z a0) : (Cond.code oy21 oc21 (3 : Nat) (Option.none : Option FieldType)).before a0 Z = true := owg hw 122 rfl
theorem waC (hw : own_T Z a0) : (Cond.methodLink oB (139 : Nat) oy22).before a0 Z = true := owg hw 123 rfl
theorem waD (hw : own_T Z a0) : (Cond.instanceMethod oy22).before a0 Z = true := owg hw 124 rfl
theorem waE (hw : own_T Z a0) : (Cond.privateMethod oy22).before a0 Z = true := owg hw 125 rfl
theorem waF (hw : own_T Z a0) : (Cond.selects oB oy22 oy22).before a0 Z = true := owg hw 126 rfl
theorem waG (hw : own_T Z a0) : (Cond.code oy22 oc22 (3 : Nat) (Option.none : Option FieldType)).before a0 Z = true := owg hw 127 rfl
theorem waH (hw : own_T Z a0) : (Cond.methodLink oL (67 : Nat) oy23).before a0 Z = true := owg hw 128 rfl
theorem waI (hw : own_T Z a0) : (Cond.instanceMethod oy23).before a0 Z = true := owg hw 129 rfl
theorem waK (hw : own_T Z a0) : (Cond.privateMethod oy23).before a0 Z = true := owg hw 130 rfl
theorem waL (hw : own_T Z a0) : (Cond.code oy23 oc23 (7 : Nat) (Option.none : Option FieldType)).before a0 Z = true := owg hw 131 rfl
theorem waM (hw : own_T Z a0) : (Cond.methodLink "com/example/throttlua/throttlua/slidinglog/SubjectLogTakenAfterPinLaw" (35 : Nat) oy24).before a0 Z = true := owg hw 132 rfl
theorem waN (hw : own_T Z a0) : (Cond.static oy24).before a0 Z = true := owg hw 133 rfl
theorem waO (hw : own_T Z a0) : (Cond.initialized "com/example/throttlua/throttlua/slidinglog/SubjectLogTakenAfterPinLaw").before a0 Z = true := owg hw 134 rfl
theorem waP (hw : own_T Z a0) : (Cond.code oy24 oc24 (5 : Nat) (Option.some FieldType.int)).before a0 Z = true := owg hw 135 rfl
theorem waQ (hw : own_T Z a0) : (Cond.methodLink "com/example/throttlua/throttlua/slidinglog/SubjectLogTakenAfterPinLaw" (49 : Nat) oy25).before a0 Z = true := owg hw 136 rfl
theorem waR (hw : own_T Z a0) : (Cond.static oy25).before a0 Z = true := owg hw 137 rfl
theorem waS (hw : own_T Z a0) : (Cond.code oy25 oc25 (6 : Nat) (Option.some FieldType.long)).before a0 Z = true := owg hw 138 rfl
theorem waT (hw : own_T Z a0) : (Cond.methodLink "com/example/throttlua/throttlua/slidinglog/SubjectLogTakenAfterPinLaw" (53 : Nat) oy26).before a0 Z = true := owg hw 139 rfl
theorem waV (hw : own_T Z a0) : (Cond.declares oy26).before a0 Z = true := owg hw 140 rfl
theorem waW (hw : own_T Z a0) : (Cond.instanceMethod oy26).before a0 Z = true := owg hw 141 rfl
theorem waX (hw : own_T Z a0) : (Cond.selects oL oy26 oy26).before a0 Z = true := owg hw 142 rfl
theorem waY (hw : own_T Z a0) : (Cond.code oy26 oc26 (5 : Nat) (Option.some FieldType.long)).before a0 Z = true := owg hw 143 rfl
theorem waZ (hw : own_T Z a0) : (Cond.methodLink oL (38 : Nat) oy27).before a0 Z = true := owg hw 144 rfl
theorem wa0 (hw : own_T Z a0) : (Cond.instanceMethod oy27).before a0 Z = true := owg hw 145 rfl
theorem wa1 (hw : own_T Z a0) : (Cond.privateMethod oy27).before a0 Z = true := owg hw 146 rfl
theorem wa2 (hw : own_T Z a0) : (Cond.code oy27 oc27 (3 : Nat) (Option.some FieldType.int)).before a0 Z = true := owg hw 147 rfl
theorem wa3 (hw : own_T Z a0) : (Cond.methodLink oL (46 : Nat) oy28).before a0 Z = true := owg hw 148 rfl
theorem wa4 (hw : own_T Z a0) : (Cond.instanceMethod oy28).before a0 Z = true := owg hw 149 rfl
theorem wa6 (hw : own_T Z a0) : (Cond.privateMethod oy28).before a0 Z = true := owg hw 150 rfl
theorem wa7 (hw : own_T Z a0) : (Cond.code oy28 oc28 (10 : Nat) (Option.some FieldType.int)).before a0 Z = true := owg hw 151 rfl
theorem wa8 (hw : own_T Z a0) : (Cond.constantLong oB (165 : Nat) (-1 : Int64)).before a0 Z = true := owg hw 152 rfl
theorem wa9 (hw : own_T Z a0) : (Cond.methodLink oB (182 : Nat) oy29).before a0 Z = true := owg hw 153 rfl
theorem wba (hw : own_T Z a0) : (Cond.static oy29).before a0 Z = true := owg hw 154 rfl
theorem wbb (hw : own_T Z a0) : (Cond.initialized "java/lang/Long").before a0 Z = true := owg hw 155 rfl
theorem wbc (hw : own_T Z a0) : (Cond.code oy29 jdk_35_method_49_code (3 : Nat) (Option.some FieldType.int)).before a0 Z = true := owg hw 156 rfl
theorem wbd (hw : own_T Z a0) : (Cond.methodLink "java/lang/Long" (311 : Nat) oy30).before a0 Z = true := owg hw 157 rfl
theorem wbe (hw : own_T Z a0) : (Cond.static oy30).before a0 Z = true := owg hw 158 rfl
theorem wbf (hw : own_T Z a0) : (Cond.code oy30 jdk_33_method_48_code (2 : Nat) (Option.some FieldType.int)).before a0 Z = true := owg hw 159 rfl
theorem wbh (hw : own_T Z a0) : (Cond.methodLink oL (42 : Nat) oy31).before a0 Z = true := owg hw 160 rfl
theorem wbi (hw : own_T Z a0) : (Cond.instanceMethod oy31).before a0 Z = true := owg hw 161 rfl
theorem wbj (hw : own_T Z a0) : (Cond.privateMethod oy31).before a0 Z = true := owg hw 162 rfl
theorem wbk (hw : own_T Z a0) : (Cond.code oy31 oc31 (3 : Nat) (Option.some FieldType.long)).before a0 Z = true := owg hw 163 rfl
theorem wbl (hw : own_T Z a0) : (Cond.methodLink oL (71 : Nat) oy32).before a0 Z = true := owg hw 164 rfl
theorem wbm (hw : own_T Z a0) : (Cond.declares oy32).before a0 Z = true := owg hw 165 rfl
theorem wbn (hw : own_T Z a0) : (Cond.instanceMethod oy32).before a0 Z = true := owg hw 166 rfl
theorem wbo (hw : own_T Z a0) : (Cond.selects oB oy32 oy32).before a0 Z = true := owg hw 167 rfl
theorem wbp (hw : own_T Z a0) : (Cond.code oy32 oc32 (5 : Nat) (Option.some FieldType.int)).before a0 Z = true := owg hw 168 rfl
theorem wbq (hw : own_T Z a0) : (Cond.constantLong "com/example/throttlua/throttlua/slidinglog/SubjectLogTakenAfterPinLaw" (26 : Nat) (31 : Int64)).before a0 Z = true := owg hw 169 rfl
theorem wbs (hw : own_T Z a0) : (Cond.methodLink "com/example/throttlua/throttlua/slidinglog/SubjectLogTakenAfterPinLaw" (41 : Nat) oy33).before a0 Z = true := owg hw 170 rfl
theorem wbt (hw : own_T Z a0) : (Cond.declares oy33).before a0 Z = true := owg hw 171 rfl
theorem wbu (hw : own_T Z a0) : (Cond.instanceMethod oy33).before a0 Z = true := owg hw 172 rfl
theorem wbv (hw : own_T Z a0) : (Cond.selects oL oy33 oy33).before a0 Z = true := owg hw 173 rfl
theorem wbw (hw : own_T Z a0) : (Cond.code oy33 oc33 (4 : Nat) (Option.none : Option FieldType)).before a0 Z = true := owg hw 174 rfl
theorem wbx (hw : own_T Z a0) : (Cond.methodLink "com/example/throttlua/throttlua/slidinglog/SubjectLogTakenAfterPinLaw" (45 : Nat) oy34).before a0 Z = true := owg hw 175 rfl
theorem wby (hw : own_T Z a0) : (Cond.declares oy34).before a0 Z = true := owg hw 176 rfl
theorem wbz (hw : own_T Z a0) : (Cond.instanceMethod oy34).before a0 Z = true := owg hw 177 rfl
theorem wbA (hw : own_T Z a0) : (Cond.selects oL oy34 oy34).before a0 Z = true := owg hw 178 rfl
theorem wbB (hw : own_T Z a0) : (Cond.code oy34 oc34 (6 : Nat) (Option.some FieldType.boolean)).before a0 Z = true := owg hw 179 rfl
theorem wbD (hw : own_T Z a0) : (Cond.methodLink oL (97 : Nat) oy35).before a0 Z = true := owg hw 180 rfl
theorem wbE (hw : own_T Z a0) : (Cond.instanceMethod oy35).before a0 Z = true := owg hw 181 rfl
theorem wbF (hw : own_T Z a0) : (Cond.privateMethod oy35).before a0 Z = true := owg hw 182 rfl
theorem wbG (hw : own_T Z a0) : (Cond.code oy35 oc35 (3 : Nat) (Option.some FieldType.int)).before a0 Z = true := owg hw 183 rfl
theorem wbH (hw : own_T Z a0) : (Cond.methodLink oB (190 : Nat) oy36).before a0 Z = true := owg hw 184 rfl
theorem wbI (hw : own_T Z a0) : (Cond.static oy36).before a0 Z = true := owg hw 185 rfl
theorem wbJ (hw : own_T Z a0) : (Cond.code oy36 jdk_35_method_48_code (3 : Nat) (Option.some FieldType.int)).before a0 Z = true := owg hw 186 rfl
theorem wbK (hw : own_T Z a0) : (Cond.methodLink "java/lang/Long" (308 : Nat) oy10).before a0 Z = true := owg hw 187 rfl
theorem wbL (hw : own_T Z a0) : (Cond.methodLink oL (61 : Nat) oy37).before a0 Z = true := owg hw 188 rfl
theorem wbM (hw : own_T Z a0) : (Cond.declares oy37).before a0 Z = true := owg hw 189 rfl
theorem wbO (hw : own_T Z a0) : (Cond.instanceMethod oy37).before a0 Z = true := owg hw 190 rfl
theorem wbP (hw : own_T Z a0) : (Cond.selects oB oy37 oy37).before a0 Z = true := owg hw 191 rfl
theorem wbQ (hw : own_T Z a0) : (Cond.code oy37 oc37 (3 : Nat) (Option.none : Option FieldType)).before a0 Z = true := owg hw 192 rfl
theorem wbR (hw : own_T Z a0) : (Cond.methodLink oB (158 : Nat) oy38).before a0 Z = true := owg hw 193 rfl
theorem wbS (hw : own_T Z a0) : (Cond.instanceMethod oy38).before a0 Z = true := owg hw 194 rfl
theorem wbT (hw : own_T Z a0) : (Cond.privateMethod oy38).before a0 Z = true := owg hw 195 rfl
theorem wbU (hw : own_T Z a0) : (Cond.selects oB oy38 oy38).before a0 Z = true := owg hw 196 rfl
theorem wbV (hw : own_T Z a0) : (Cond.code oy38 oc38 (2 : Nat) (Option.none : Option FieldType)).before a0 Z = true := owg hw 197 rfl
theorem wbW (hw : own_T Z a0) : (Cond.methodLink oL (107 : Nat) oy39).before a0 Z = true := owg hw 198 rfl
theorem wbX (hw : own_T Z a0) : (Cond.declares oy39).before a0 Z = true := owg hw 199 rfl
theorem wb0 (hw : own_T Z a0) : (Cond.instanceMethod oy39).before a0 Z = true := owg hw 200 rfl
theorem wb1 (hw : own_T Z a0) : (Cond.selects oB oy39 oy39).before a0 Z = true := owg hw 201 rfl
theorem wb2 (hw : own_T Z a0) : (Cond.code oy39 oc39 (1 : Nat) (Option.none : Option FieldType)).before a0 Z = true := owg hw 202 rfl
theorem wb3 (hw : own_T Z a0) : (Cond.constantLong oL (74 : Nat) (8 : Int64)).before a0 Z = true := owg hw 203 rfl
end OwnW
def own_StK (Z : State) (h h' : Heap) : Prop := ∀ (C n d : String) (w : Value), Sta Z h C n d w → Sta Z h' C n d w
theorem own_StK.refl (Z : State) (h : Heap) : own_StK Z h h := fun _ _ _ _ q => q
theorem own_StK.ext {Z : State} {h h1 h2 : Heap} (K : own_StK Z h h1) (E : Ext h1 h2) : own_StK Z h h2 := fun C n d w F => Sta.ext E (K C n d w F)
theorem own_StK.wr {Z : State} {h h1 h2 : Heap} {a : Addr} {sl : Nat} {v : Value} (K : own_StK Z h h1) (W : Wr h1 h2 a sl v) : own_StK Z h h2 := fun C n d w F => Sta.wr W (K C n d w F)
theorem own_StK.tr {Z : State} {h h1 h2 : Heap} (K : own_StK Z h h1) (K' : own_StK Z h1 h2) : own_StK Z h h2 := fun C n d w F => K' C n d w (K C n d w F)
theorem own_selp {s : State} {args args' : Array Value} {x y : MethodName} (hxy : x.cls = y.cls) (h0 : (Cond.selects x.cls x x).before args' s = true) (hpriv : s.PrivateAt y) (hinst : (Cond.instanceMethod y).before args s = true) (hy : y.cls ≠ "java/lang/invoke/MethodHandle" ∧ y.cls ≠ "java/lang/invoke/VarHandle") : (Cond.selects y.cls y y).before args s = true := by
 obtain ⟨c, r, m, q1, q2, q3, q4, k, hk, hki⟩ := Cond.selects_spec h0
 have hc : s.vm.findClass y.cls = some m.cls := by rw [← hxy]; exact findClass_of_methodNamed q3
 exact selects_self_of_private hc hk hki hpriv hinst hy
theorem own_ilt {p : Int32} (j k : Int32) (h : j < p) (hk : k.toInt ≤ j.toInt + 1) : ¬ p < k := by
 rw [Int32.lt_iff_toInt_lt] at h ⊢; omega
theorem own_igt {p : Int32} (j k : Int32) (h : ¬ j < p) (hk : j.toInt < k.toInt) : p < k := by
 rw [Int32.lt_iff_toInt_lt] at h ⊢; omega
section OwnK
variable {p : Program} {l : Launch} {e : Env} {R : Room} {s : State} {m : MethodId} {args : Array Value} {below : List Frame} {meth : Method} {c : Code} {T T' : State} {locs : List Loc} {cells slots : Nat} {Z : State} {a0 : Array Value} {h h0 : Heap} {code : ByteArray} {ml n0 : Nat} {own : String} {g g' : JFrame} {L : Array Slot} {S rest : List Value} {pc : Nat} {a : Addr} {Q : Option Value → Heap → List Loc → Prop} {G : State → Prop}
def own_C (p : Program) (c : Code) (code : ByteArray) (ml : Nat) (s : State) (m : MethodId) (own : String) (Z : State) (a0 : Array Value) : Prop :=
 p.tables.exec = Jvm.exec ∧ c.code = code ∧ c.maxLocals = ml ∧ s.vm.findClass own = some m.cls ∧ Z.Warmed39 s.vm ∧ own_T Z a0
theorem own_C.w (C : own_C p c code ml s m own Z a0) : own_T Z a0 := C.2.2.2.2.2
theorem own_C.z (C : own_C p c code ml s m own Z a0) : Z.Warmed39 s.vm := C.2.2.2.2.1
theorem own_C.o (C : own_C p c code ml s m own Z a0) : s.vm.findClass own = some m.cls := C.2.2.2.1
theorem own_C.n (C : own_C p c code ml s m own Z a0) : c.maxLocals = ml := C.2.2.1
theorem own_C.d (C : own_C p c code ml s m own Z a0) {pc : Nat} {r : Except ClassFile.DecodeError (ClassFile.Instr × Nat)} (h2 : ClassFile.decode code pc = r) : ClassFile.decode c.code pc = r := hb C.2.1 h2
def own_Fin (p : Program) (e : Env) (below : List Frame) (G : State → Prop) (T : State) (g : JFrame) : Prop := ∃ U, G U ∧ Steps p.tables e below (T.setTop g) U
theorem own_Fin.st (F : own_Fin p e below G T' g') (k : ∀ t, Steps p.tables e below (T'.setTop g') t → Steps p.tables e below (T.setTop g) t) : own_Fin p e below G T g := by
 obtain ⟨U, h1, h2⟩ := F
 exact ⟨U, h1, k _ h2⟩
/-- a plain end -/
def own_E (R : Room) (s : State) (below : List Frame) (Q : Option Value → Heap → List Loc → Prop) (U : State) : Prop := ∃ (v : Option Value) (lo : List Loc), U.status = .running ∧ Ended U below (.returned v) ∧ Q v U.heap lo ∧ s.WarmedH U.vm ∧ s.sameButNew ({ U with vm := s.vm } : State) lo R.cells R.slots
/-- a body's contract -/
def own_Met (l : Launch) (y : MethodName) (code : ByteArray) (ml : Nat) (ret : Option FieldType) (rm : Room) (Z : State) (h0 : Heap) (as : Array Value) (Q : Option Value → Heap → List Loc → Prop) : Prop :=
 ∀ ws, MetFree l y (head1 (Jvm.Cond.code y code ml ret :: ws) rm) (fun a U => a = as ∧ Z.Warmed39 U.vm ∧ U.heap = h0) (fun _ _ _ _ _ => True) (fun _ U o U' => ∃ v L, o = .returned v ∧ Q v U'.heap L ∧ FrameEnd U o U' L rm.cells rm.slots)
theorem own_go {y : MethodName} {ret : Option FieldType} (hw : own_T Z a0) (hp : plainFor y = true) (hef : ∀ m, entryFrame m args ml = mkF m 0 L [])
   (body : ∀ (p : Program) (e : Env) (s : State) (m : MethodId) (below : List Frame) (meth : Method) (c : Code) (T : State), own_C p c code ml s m y.cls Z a0 → meth.sig.returnType = ret ∧ meth.locks = false → Stand p l e R s m args below meth c T [] 0 0 → T.heap = h0 → own_Fin p e below (own_E R s below Q) T (mkF m 0 L [])) : own_Met l y code ml ret R Z h0 args Q := by
 intro ws
 refine MetFree.of_bodySF hp hisR ?_
 intro p e s m args' below meth c s₁ Bd hml0 hP hK
 obtain ⟨rfl, hZ, hh⟩ := hP
 obtain ⟨U, ⟨v, lo, h1, h2, h3, h4, h5⟩, h6⟩ := body p e s m below meth c s₁ ⟨Bd.exec, Bd.bytes, hml0, findClass_of_methodNamed Bd.named, hZ, hw⟩ ⟨Bd.returns, Bd.notSynchronized⟩ (Stand.of_body Bd) (by rw [← hh, Bd.state]; rfl)
 exact ⟨_, _, castTop (hef m) h6, h1, h2, v, lo, rfl, h3, ⟨_, rfl⟩, h4, h5⟩
theorem sA (C : own_C p c code ml s m own Z a0) (X : Stand p l e R s m args below meth c T locs cells slots) {k : Fin 4} {v : Value} {pc' : Nat} (hd : decode code pc' = .ok (.aload_n k, 1)) (F : own_Fin p e below G T (mkF m (pc' + 1) L (v :: S))) (hp : pc = pc' := by rfl) (hl : L[k.val]? = some (.val v) := by rfl) (hv : v.isRef = true := by rfl) : own_Fin p e below G T (mkF m pc L S) := by subst hp; exact F.st fun t k => XS.aloadN X.here C.1 rfl (C.d hd) hl hv k
theorem sa (C : own_C p c code ml s m own Z a0) (X : Stand p l e R s m args below meth c T locs cells slots) {k : Nat} {v : Value} {pc' : Nat} (hd : decode code pc' = .ok (.aload k, 2)) (F : own_Fin p e below G T (mkF m (pc' + 2) L (v :: S))) (hp : pc = pc' := by rfl) (hl : L[k]? = some (.val v) := by rfl) (hv : v.isRef = true := by rfl) : own_Fin p e below G T (mkF m pc L S) := by subst hp; exact F.st fun t k => XS.aload X.here C.1 rfl (C.d hd) hl hv k
theorem sI (C : own_C p c code ml s m own Z a0) (X : Stand p l e R s m args below meth c T locs cells slots) {k : Fin 4} {v : Int32} {pc' : Nat} (hd : decode code pc' = .ok (.iload_n k, 1)) (F : own_Fin p e below G T (mkF m (pc' + 1) L (.int v :: S))) (hp : pc = pc' := by rfl) (hl : L[k.val]? = some (.val (.int v)) := by rfl) : own_Fin p e below G T (mkF m pc L S) := by subst hp; exact F.st fun t k => XS.iloadN X.here C.1 rfl (C.d hd) hl k
theorem si (C : own_C p c code ml s m own Z a0) (X : Stand p l e R s m args below meth c T locs cells slots) {k : Nat} {v : Int32} {pc' : Nat} (hd : decode code pc' = .ok (.iload k, 2)) (F : own_Fin p e below G T (mkF m (pc' + 2) L (.int v :: S))) (hp : pc = pc' := by rfl) (hl : L[k]? = some (.val (.int v)) := by rfl) : own_Fin p e below G T (mkF m pc L S) := by subst hp; exact F.st fun t k => XS.iload X.here C.1 rfl (C.d hd) hl k
theorem wI (C : own_C p c code ml s m own Z a0) (X : Stand p l e R s m args below meth c T locs cells slots) {k : Fin 4} {x : Int32} (L' : Array Slot) {pc' : Nat} (hd : decode code pc' = .ok (.istore_n k, 1)) (F : own_Fin p e below G T (mkF m (pc' + 1) L' S)) (hp : pc = pc' := by rfl) (hl : storeLocals L k.val (.int x) = some L' := by rfl) : own_Fin p e below G T (mkF m pc L (.int x :: S)) := by subst hp; exact F.st fun t k => XS.istoreN X.here C.1 rfl (C.d hd) rfl hl k
theorem wi (C : own_C p c code ml s m own Z a0) (X : Stand p l e R s m args below meth c T locs cells slots) {k : Nat} {x : Int32} (L' : Array Slot) {pc' : Nat} (hd : decode code pc' = .ok (.istore k, 2)) (F : own_Fin p e below G T (mkF m (pc' + 2) L' S)) (hp : pc = pc' := by rfl) (hl : storeLocals L k (.int x) = some L' := by rfl) : own_Fin p e below G T (mkF m pc L (.int x :: S)) := by subst hp; exact F.st fun t k => XS.istore X.here C.1 rfl (C.d hd) rfl hl k
theorem sL (C : own_C p c code ml s m own Z a0) (X : Stand p l e R s m args below meth c T locs cells slots) {k : Fin 4} {v : Int64} {pc' : Nat} (hd : decode code pc' = .ok (.lload_n k, 1)) (F : own_Fin p e below G T (mkF m (pc' + 1) L (.long v :: S))) (hp : pc = pc' := by rfl) (hl : L[k.val]? = some (.val (.long v)) := by rfl) : own_Fin p e below G T (mkF m pc L S) := by subst hp; exact F.st fun t k => XS.lloadN X.here C.1 rfl (C.d hd) hl k
theorem sl (C : own_C p c code ml s m own Z a0) (X : Stand p l e R s m args below meth c T locs cells slots) {k : Nat} {v : Int64} {pc' : Nat} (hd : decode code pc' = .ok (.lload k, 2)) (F : own_Fin p e below G T (mkF m (pc' + 2) L (.long v :: S))) (hp : pc = pc' := by rfl) (hl : L[k]? = some (.val (.long v)) := by rfl) : own_Fin p e below G T (mkF m pc L S) := by subst hp; exact F.st fun t k => XS.lload X.here C.1 rfl (C.d hd) hl k
theorem wL (C : own_C p c code ml s m own Z a0) (X : Stand p l e R s m args below meth c T locs cells slots) {k : Fin 4} {x : Int64} (L' : Array Slot) {pc' : Nat} (hd : decode code pc' = .ok (.lstore_n k, 1)) (F : own_Fin p e below G T (mkF m (pc' + 1) L' S)) (hp : pc = pc' := by rfl) (hl : storeLocals L k.val (.long x) = some L' := by rfl) : own_Fin p e below G T (mkF m pc L (.long x :: S)) := by subst hp; exact F.st fun t k => XS.lstoreN X.here C.1 rfl (C.d hd) rfl hl k
theorem wl (C : own_C p c code ml s m own Z a0) (X : Stand p l e R s m args below meth c T locs cells slots) {k : Nat} {x : Int64} (L' : Array Slot) {pc' : Nat} (hd : decode code pc' = .ok (.lstore k, 2)) (F : own_Fin p e below G T (mkF m (pc' + 2) L' S)) (hp : pc = pc' := by rfl) (hl : storeLocals L k (.long x) = some L' := by rfl) : own_Fin p e below G T (mkF m pc L (.long x :: S)) := by subst hp; exact F.st fun t k => XS.lstore X.here C.1 rfl (C.d hd) rfl hl k
theorem wA (C : own_C p c code ml s m own Z a0) (X : Stand p l e R s m args below meth c T locs cells slots) {k : Fin 4} {x : Value} (L' : Array Slot) {pc' : Nat} (hd : decode code pc' = .ok (.astore_n k, 1)) (F : own_Fin p e below G T (mkF m (pc' + 1) L' S)) (hp : pc = pc' := by rfl) (hv : x.isRef = true := by rfl) (hl : storeLocals L k.val x = some L' := by rfl) : own_Fin p e below G T (mkF m pc L (x :: S)) := by subst hp; exact F.st fun t k => XS.astoreN X.here C.1 rfl (C.d hd) rfl hv hl k
theorem wa (C : own_C p c code ml s m own Z a0) (X : Stand p l e R s m args below meth c T locs cells slots) {k : Nat} {x : Value} (L' : Array Slot) {pc' : Nat} (hd : decode code pc' = .ok (.astore k, 2)) (F : own_Fin p e below G T (mkF m (pc' + 2) L' S)) (hp : pc = pc' := by rfl) (hv : x.isRef = true := by rfl) (hl : storeLocals L k x = some L' := by rfl) : own_Fin p e below G T (mkF m pc L (x :: S)) := by subst hp; exact F.st fun t k => XS.astore X.here C.1 rfl (C.d hd) rfl hv hl k
theorem wc (C : own_C p c code ml s m own Z a0) (X : Stand p l e R s m args below meth c T locs cells slots) {k : Nat} {cst : Int} {x : Int32} (L' : Array Slot) {pc' : Nat} (hd : decode code pc' = .ok (.iinc k cst, 3)) (F : own_Fin p e below G T (mkF m (pc' + 3) L' S)) (hp : pc = pc' := by rfl) (h1 : L[k]? = some (.val (.int x)) := by rfl) (hl : storeLocals L k (.int (x + Int32.ofInt cst)) = some L' := by rfl) : own_Fin p e below G T (mkF m pc L S) := by subst hp; exact F.st fun t k => XS.iinc X.here C.1 rfl (C.d hd) h1 hl k
theorem sC (C : own_C p c code ml s m own Z a0) (X : Stand p l e R s m args below meth c T locs cells slots) {i : Int} {pc' : Nat} (hd : decode code pc' = .ok (.iconst i, 1)) (F : own_Fin p e below G T (mkF m (pc' + 1) L (.int (Int32.ofInt i) :: S))) (hp : pc = pc' := by rfl) : own_Fin p e below G T (mkF m pc L S) := by subst hp; exact F.st fun t k => XS.iconst X.here C.1 rfl (C.d hd) k
theorem sB (C : own_C p c code ml s m own Z a0) (X : Stand p l e R s m args below meth c T locs cells slots) {i : Int} {pc' : Nat} (hd : decode code pc' = .ok (.bipush i, 2)) (F : own_Fin p e below G T (mkF m (pc' + 2) L (.int (Int8.ofInt i).toInt32 :: S))) (hp : pc = pc' := by rfl) : own_Fin p e below G T (mkF m pc L S) := by subst hp; exact F.st fun t k => XS.bipush X.here C.1 rfl (C.d hd) k
theorem sU (C : own_C p c code ml s m own Z a0) (X : Stand p l e R s m args below meth c T locs cells slots) {i : Int} {pc' : Nat} (hd : decode code pc' = .ok (.sipush i, 3)) (F : own_Fin p e below G T (mkF m (pc' + 3) L (.int (Int16.ofInt i).toInt32 :: S))) (hp : pc = pc' := by rfl) : own_Fin p e below G T (mkF m pc L S) := by subst hp; exact F.st fun t k => XS.sipush X.here C.1 rfl (C.d hd) k
theorem sS (C : own_C p c code ml s m own Z a0) (X : Stand p l e R s m args below meth c T locs cells slots) {x y : Int32} {pc' : Nat} (hd : decode code pc' = .ok (.isub, 1)) (F : own_Fin p e below G T (mkF m (pc' + 1) L (.int (x - y) :: S))) (hp : pc = pc' := by rfl) : own_Fin p e below G T (mkF m pc L (.int y :: .int x :: S)) := by subst hp; exact F.st fun t k => XS.isub X.here C.1 rfl (C.d hd) rfl k
theorem sP (C : own_C p c code ml s m own Z a0) (X : Stand p l e R s m args below meth c T locs cells slots) {x y : Int32} {pc' : Nat} (hd : decode code pc' = .ok (.iadd, 1)) (F : own_Fin p e below G T (mkF m (pc' + 1) L (.int (x + y) :: S))) (hp : pc = pc' := by rfl) : own_Fin p e below G T (mkF m pc L (.int y :: .int x :: S)) := by subst hp; exact F.st fun t k => XS.iadd X.here C.1 rfl (C.d hd) rfl k
theorem sM (C : own_C p c code ml s m own Z a0) (X : Stand p l e R s m args below meth c T locs cells slots) {x y : Int32} {pc' : Nat} (hd : decode code pc' = .ok (.imul, 1)) (F : own_Fin p e below G T (mkF m (pc' + 1) L (.int (x * y) :: S))) (hp : pc = pc' := by rfl) : own_Fin p e below G T (mkF m pc L (.int y :: .int x :: S)) := by subst hp; exact F.st fun t k => XS.imul X.here C.1 rfl (C.d hd) rfl k
theorem tS (C : own_C p c code ml s m own Z a0) (X : Stand p l e R s m args below meth c T locs cells slots) {x y : Int64} {pc' : Nat} (hd : decode code pc' = .ok (.lsub, 1)) (F : own_Fin p e below G T (mkF m (pc' + 1) L (.long (x - y) :: S))) (hp : pc = pc' := by rfl) : own_Fin p e below G T (mkF m pc L (.long y :: .long x :: S)) := by subst hp; exact F.st fun t k => XS.lsub X.here C.1 rfl (C.d hd) rfl k
theorem tP (C : own_C p c code ml s m own Z a0) (X : Stand p l e R s m args below meth c T locs cells slots) {x y : Int64} {pc' : Nat} (hd : decode code pc' = .ok (.ladd, 1)) (F : own_Fin p e below G T (mkF m (pc' + 1) L (.long (x + y) :: S))) (hp : pc = pc' := by rfl) : own_Fin p e below G T (mkF m pc L (.long y :: .long x :: S)) := by subst hp; exact F.st fun t k => XS.ladd X.here C.1 rfl (C.d hd) rfl k
theorem tA (C : own_C p c code ml s m own Z a0) (X : Stand p l e R s m args below meth c T locs cells slots) {x y : Int64} {pc' : Nat} (hd : decode code pc' = .ok (.land, 1)) (F : own_Fin p e below G T (mkF m (pc' + 1) L (.long (x &&& y) :: S))) (hp : pc = pc' := by rfl) : own_Fin p e below G T (mkF m pc L (.long y :: .long x :: S)) := by subst hp; exact F.st fun t k => XS.land X.here C.1 rfl (C.d hd) rfl k
theorem tO (C : own_C p c code ml s m own Z a0) (X : Stand p l e R s m args below meth c T locs cells slots) {x y : Int64} {pc' : Nat} (hd : decode code pc' = .ok (.lor, 1)) (F : own_Fin p e below G T (mkF m (pc' + 1) L (.long (x ||| y) :: S))) (hp : pc = pc' := by rfl) : own_Fin p e below G T (mkF m pc L (.long y :: .long x :: S)) := by subst hp; exact F.st fun t k => XS.lor X.here C.1 rfl (C.d hd) rfl k
theorem tX (C : own_C p c code ml s m own Z a0) (X : Stand p l e R s m args below meth c T locs cells slots) {x y : Int64} {pc' : Nat} (hd : decode code pc' = .ok (.lxor, 1)) (F : own_Fin p e below G T (mkF m (pc' + 1) L (.long (x ^^^ y) :: S))) (hp : pc = pc' := by rfl) : own_Fin p e below G T (mkF m pc L (.long y :: .long x :: S)) := by subst hp; exact F.st fun t k => XS.lxor X.here C.1 rfl (C.d hd) rfl k
theorem sD (C : own_C p c code ml s m own Z a0) (X : Stand p l e R s m args below meth c T locs cells slots) {x : Value} {pc' : Nat} (hd : decode code pc' = .ok (.dup, 1)) (F : own_Fin p e below G T (mkF m (pc' + 1) L (x :: x :: S))) (hp : pc = pc' := by rfl) (hc : x.category = 1 := by rfl) : own_Fin p e below G T (mkF m pc L (x :: S)) := by subst hp; exact F.st fun t k => XS.dup X.here C.1 rfl (C.d hd) rfl hc k
theorem sO (C : own_C p c code ml s m own Z a0) (X : Stand p l e R s m args below meth c T locs cells slots) {x : Value} {pc' : Nat} (hd : decode code pc' = .ok (.pop, 1)) (F : own_Fin p e below G T (mkF m (pc' + 1) L S)) (hp : pc = pc' := by rfl) (hc : x.category = 1 := by rfl) : own_Fin p e below G T (mkF m pc L (x :: S)) := by subst hp; exact F.st fun t k => XS.pop X.here C.1 rfl (C.d hd) rfl hc k
theorem tC (C : own_C p c code ml s m own Z a0) (X : Stand p l e R s m args below meth c T locs cells slots) {x y : Int64} {pc' : Nat} (hd : decode code pc' = .ok (.lcmp, 1)) (F : own_Fin p e below G T (mkF m (pc' + 1) L (.int (lcmpW x y) :: S))) (hp : pc = pc' := by rfl) : own_Fin p e below G T (mkF m pc L (.long y :: .long x :: S)) := by subst hp; exact F.st fun t k => XS.lcmp X.here C.1 rfl (C.d hd) rfl k
theorem sN (C : own_C p c code ml s m own Z a0) (X : Stand p l e R s m args below meth c T locs cells slots) {x y : Int32} {pc' : Nat} (hd : decode code pc' = .ok (.iand, 1)) (F : own_Fin p e below G T (mkF m (pc' + 1) L (.int (x &&& y) :: S))) (hp : pc = pc' := by rfl) : own_Fin p e below G T (mkF m pc L (.int y :: .int x :: S)) := by subst hp; exact F.st fun t k => XS.iand X.here C.1 rfl (C.d hd) rfl k
theorem tK (C : own_C p c code ml s m own Z a0) (X : Stand p l e R s m args below meth c T locs cells slots) {k : Fin 2} {pc' : Nat} (hd : decode code pc' = .ok (.lconst k, 1)) (F : own_Fin p e below G T (mkF m (pc' + 1) L (.long (Int64.ofNat k) :: S))) (hp : pc = pc' := by rfl) : own_Fin p e below G T (mkF m pc L S) := by subst hp; exact F.st fun t k => XS.lconst X.here C.1 rfl (C.d hd) k
theorem tI (C : own_C p c code ml s m own Z a0) (X : Stand p l e R s m args below meth c T locs cells slots) {x : Int32} {pc' : Nat} (hd : decode code pc' = .ok (.i2l, 1)) (F : own_Fin p e below G T (mkF m (pc' + 1) L (.long x.toInt64 :: S))) (hp : pc = pc' := by rfl) : own_Fin p e below G T (mkF m pc L (.int x :: S)) := by subst hp; exact F.st fun t k => XS.i2l X.here C.1 rfl (C.d hd) rfl k
theorem sH (C : own_C p c code ml s m own Z a0) (X : Stand p l e R s m args below meth c T locs cells slots) {x y : Int32} {pc' : Nat} (hd : decode code pc' = .ok (.ishl, 1)) (F : own_Fin p e below G T (mkF m (pc' + 1) L (.int (x <<< (y &&& 31)) :: S))) (hp : pc = pc' := by rfl) : own_Fin p e below G T (mkF m pc L (.int y :: .int x :: S)) := by subst hp; exact F.st fun t k => XS.ishl X.here C.1 rfl (C.d hd) rfl k
theorem sR (C : own_C p c code ml s m own Z a0) (X : Stand p l e R s m args below meth c T locs cells slots) {x y : Int32} {pc' : Nat} (hd : decode code pc' = .ok (.iushr, 1)) (F : own_Fin p e below G T (mkF m (pc' + 1) L (.int ((x.toUInt32 >>> (y &&& 31).toUInt32).toInt32) :: S))) (hp : pc = pc' := by rfl) : own_Fin p e below G T (mkF m pc L (.int y :: .int x :: S)) := by subst hp; exact F.st fun t k => XS.iushr X.here C.1 rfl (C.d hd) rfl k
theorem tH (C : own_C p c code ml s m own Z a0) (X : Stand p l e R s m args below meth c T locs cells slots) {x : Int64} {y : Int32} {pc' : Nat} (hd : decode code pc' = .ok (.lshl, 1)) (F : own_Fin p e below G T (mkF m (pc' + 1) L (.long (x <<< (y &&& 0x3f).toInt64) :: S))) (hp : pc = pc' := by rfl) : own_Fin p e below G T (mkF m pc L (.int y :: .long x :: S)) := by subst hp; exact F.st fun t k => XS.lshl X.here C.1 rfl (C.d hd) rfl k
theorem tR (C : own_C p c code ml s m own Z a0) (X : Stand p l e R s m args below meth c T locs cells slots) {x : Int64} {y : Int32} {pc' : Nat} (hd : decode code pc' = .ok (.lshr, 1)) (F : own_Fin p e below G T (mkF m (pc' + 1) L (.long (x >>> (y &&& 0x3f).toInt64) :: S))) (hp : pc = pc' := by rfl) : own_Fin p e below G T (mkF m pc L (.int y :: .long x :: S)) := by subst hp; exact F.st fun t k => XS.lshr X.here C.1 rfl (C.d hd) rfl k
theorem tU (C : own_C p c code ml s m own Z a0) (X : Stand p l e R s m args below meth c T locs cells slots) {x : Int64} {y : Int32} {pc' : Nat} (hd : decode code pc' = .ok (.lushr, 1)) (F : own_Fin p e below G T (mkF m (pc' + 1) L (.long ((x.toUInt64 >>> (y &&& 0x3f).toInt64.toUInt64).toInt64) :: S))) (hp : pc = pc' := by rfl) : own_Fin p e below G T (mkF m pc L (.int y :: .long x :: S)) := by subst hp; exact F.st fun t k => XS.lushr X.here C.1 rfl (C.d hd) rfl k
theorem sE (C : own_C p c code ml s m own Z a0) (X : Stand p l e R s m args below meth c T locs cells slots) {x : Int32} {pc' : Nat} (hd : decode code pc' = .ok (.ineg, 1)) (F : own_Fin p e below G T (mkF m (pc' + 1) L (.int (-x) :: S))) (hp : pc = pc' := by rfl) : own_Fin p e below G T (mkF m pc L (.int x :: S)) := by subst hp; exact F.st fun t k => XS.ineg X.here C.1 rfl (C.d hd) rfl k
theorem sG (C : own_C p c code ml s m own Z a0) (X : Stand p l e R s m args below meth c T locs cells slots) {o : Int} {pc' : Nat} (hd : decode code pc' = .ok (.goto o, 3)) (pt : Nat) (F : own_Fin p e below G T (mkF m pt L S)) (hp : pc = pc' := by rfl) (ho : 0 ≤ (pc' : Int) + o := by decide) (ht : ((pc' : Int) + o).toNat = pt := by decide) : own_Fin p e below G T (mkF m pc L S) := by subst hp; exact F.st fun t k => XS.goto X.here C.1 rfl rfl (C.d hd) ho ht k
theorem bY (C : own_C p c code ml s m own Z a0) (X : Stand p l e R s m args below meth c T locs cells slots) {cd : ClassFile.Cond} {x : Int32} {o : Int} {pc' : Nat} (hd : decode code pc' = .ok (.ifCond cd o, 3)) (pt : Nat) (hc : ifCond.holds cd x = true) (F : own_Fin p e below G T (mkF m pt L S)) (hp : pc = pc' := by rfl) (ho : 0 ≤ (pc' : Int) + o := by decide) (ht : ((pc' : Int) + o).toNat = pt := by decide) : own_Fin p e below G T (mkF m pc L (.int x :: S)) := by subst hp; exact F.st fun t k => XS.ifYes X.here C.1 rfl rfl (C.d hd) rfl hc ho ht k
theorem bN (C : own_C p c code ml s m own Z a0) (X : Stand p l e R s m args below meth c T locs cells slots) {cd : ClassFile.Cond} {x : Int32} {o : Int} {pc' : Nat} (hd : decode code pc' = .ok (.ifCond cd o, 3)) (hc : ifCond.holds cd x = false) (F : own_Fin p e below G T (mkF m (pc' + 3) L S)) (hp : pc = pc' := by rfl) : own_Fin p e below G T (mkF m pc L (.int x :: S)) := by subst hp; exact F.st fun t k => XS.ifNo X.here C.1 rfl (C.d hd) rfl hc k
theorem cY (C : own_C p c code ml s m own Z a0) (X : Stand p l e R s m args below meth c T locs cells slots) {cd : ClassFile.Cond} {x y : Int32} {o : Int} {pc' : Nat} (hd : decode code pc' = .ok (.if_icmp cd o, 3)) (pt : Nat) (hc : if_icmp.holds cd x y = true) (F : own_Fin p e below G T (mkF m pt L S)) (hp : pc = pc' := by rfl) (ho : 0 ≤ (pc' : Int) + o := by decide) (ht : ((pc' : Int) + o).toNat = pt := by decide) : own_Fin p e below G T (mkF m pc L (.int y :: .int x :: S)) := by subst hp; exact F.st fun t k => XS.icmpYes X.here C.1 rfl rfl (C.d hd) rfl hc ho ht k
theorem cN (C : own_C p c code ml s m own Z a0) (X : Stand p l e R s m args below meth c T locs cells slots) {cd : ClassFile.Cond} {x y : Int32} {o : Int} {pc' : Nat} (hd : decode code pc' = .ok (.if_icmp cd o, 3)) (hc : if_icmp.holds cd x y = false) (F : own_Fin p e below G T (mkF m (pc' + 3) L S)) (hp : pc = pc' := by rfl) : own_Fin p e below G T (mkF m pc L (.int y :: .int x :: S)) := by subst hp; exact F.st fun t k => XS.icmpNo X.here C.1 rfl (C.d hd) rfl hc k
theorem gA (C : own_C p c code ml s m own Z a0) (X : Stand p l e R s m args below meth c T locs cells slots) (eT : T.heap = h) {O n d : String} {v : Value} (F : Fld Z h a O n d v) {i : Nat} (w : (Cond.fieldLink own i O n d).before a0 Z = true) {pc' : Nat} (hd1 : decode code pc' = .ok (.aload_n 0, 1)) (hd2 : decode code (pc' + 1) = .ok (.getfield i, 3))
   (k : ∀ T', Stand p l e R s m args below meth c T' locs cells slots → T'.heap = h → own_Fin p e below G T' (mkF m (pc' + 4) L (v :: S))) (hp : pc = pc' := by rfl) (h0 : L[0]? = some (.val (.ref a)) := by rfl) : own_Fin p e below G T (mkF m pc L S) := by
 subst hp
 obtain ⟨T', X', e', st⟩ := getF X C.1 C.z C.o (host := "") (Or.inl w) Via.refl eT F (g := mkF m (pc + 1) L (.ref a :: S)) rfl rfl (C.d hd2)
 exact (k T' X' e').st fun t q => XS.aloadN X.here C.1 rfl (C.d hd1) (k := 0) h0 rfl (st t q)
theorem gF (C : own_C p c code ml s m own Z a0) (X : Stand p l e R s m args below meth c T locs cells slots) (eT : T.heap = h) {O n d : String} {v : Value} (F : Fld Z h a O n d v) {i : Nat} (w : (Cond.fieldLink own i O n d).before a0 Z = true) {pc' : Nat} (hd2 : decode code pc' = .ok (.getfield i, 3))
   (k : ∀ T', Stand p l e R s m args below meth c T' locs cells slots → T'.heap = h → own_Fin p e below G T' (mkF m (pc' + 3) L (v :: S))) (hp : pc = pc' := by rfl) : own_Fin p e below G T (mkF m pc L (.ref a :: S)) := by
 subst hp
 obtain ⟨T', X', e', st⟩ := getF X C.1 C.z C.o (host := "") (Or.inl w) Via.refl eT F (g := mkF m pc L (.ref a :: S)) rfl rfl (C.d hd2)
 exact (k T' X' e').st st
theorem pF (C : own_C p c code ml s m own Z a0) (X : Stand p l e R s m args below meth c T locs cells slots) (eT : T.heap = h) (N : Fr n0 locs) (ga : n0 ≤ a) {O n d : String} {v old : Value} {kk : Nat} (F : Fld Z h a O n d old) (E : Exa Z h a O) {ty : FieldType} {i : Nat} (w : (Cond.fieldLink own i O n d).before a0 Z = true) (wl : (Cond.lays O O n d).before a0 Z = true) (wi : (Cond.instantiable O kk).before a0 Z = true) (hty : parseFieldDescriptor d = some ty) {pc' : Nat} (hd2 : decode code pc' = .ok (.putfield i, 3))
   (k : ∀ T' h' lo, Stand p l e R s m args below meth c T' lo cells slots → T'.heap = h' → Fr n0 lo → Wr h h' a (Jvm.RoadKit.slotOf Z O n d) v → Fld Z h' a O n d v → own_Fin p e below G T' (mkF m (pc' + 3) L S)) (hp : pc = pc' := by rfl) (hn : narrow ty v = v := by rfl) (hf : fits ty v = true := by first | rfl | decide) : own_Fin p e below G T (mkF m pc L (v :: .ref a :: S)) := by
 subst hp
 obtain ⟨T', h', X', e', W, st⟩ := putF X C.1 C.z C.o (host := "") (Or.inl w) Via.refl eT F E (Or.inl wl) wi hty hn hf (g := mkF m pc L (v :: .ref a :: S)) rfl rfl (C.d hd2)
 exact (k T' h' _ X' e' (Fr.snoc X' N ga) W (F.same W)).st st
theorem lA (C : own_C p c code ml s m own Z a0) (X : Stand p l e R s m args below meth c T locs cells slots) (eT : T.heap = h) {k : ClassId} {z : Int32} {vs : List Value} {dv : Value} (V : Arv Z h a k .long z vs dv) {j : Int32} {v : Value} {pc' : Nat} (hd : decode code pc' = .ok (.laload, 1)) (F : own_Fin p e below G T (mkF m (pc' + 1) L (v :: S))) (hp : pc = pc' := by rfl) (hj : ¬ j < 0 ∧ j < z := by decide) (hv : vs.getD j.toNatClampNeg dv = v := by rfl) : own_Fin p e below G T (mkF m pc L (.int j :: .ref a :: S)) := by
 subst hp
 obtain ⟨cl, Ar, qk, Sz, Nz, Hh, Gf⟩ := V
 exact F.st fun t q => X.laload C.1 (by rw [eT]; exact Ar.1) (State.isArrayOf_alike C.z.alike Ar.2.1) Ar.2.2 (inb_of Sz hj) (Hh.at (inb_of Sz hj) hv) (g := mkF m pc L (.int j :: .ref a :: S)) rfl rfl (C.d hd) _ q
theorem nA (C : own_C p c code ml s m own Z a0) (X : Stand p l e R s m args below meth c T locs cells slots) (eT : T.heap = h) {k : ClassId} {ty : FieldType} {z : Int32} {vs : List Value} {dv : Value} (V : Arv Z h a k ty z vs dv) {pc' : Nat} (hd : decode code pc' = .ok (.arraylength, 1)) (F : own_Fin p e below G T (mkF m (pc' + 1) L (.int z :: S))) (hp : pc = pc' := by rfl) : own_Fin p e below G T (mkF m pc L (.ref a :: S)) := by
 subst hp
 obtain ⟨cl, Ar, qk, Sz, Nz, Hh, Gf⟩ := V
 refine F.st fun t q => X.arraylength C.1 (cell := cl) (by rw [eT]; exact Ar.1) (State.isArrayOf_alike C.z.alike Ar.2.1) (g := mkF m pc L (.ref a :: S)) rfl rfl (C.d hd) _ ?_
 rw [len_of Sz Nz]; exact q
theorem sJ (C : own_C p c code ml s m own Z a0) (X : Stand p l e R s m args below meth c T locs cells slots) (eT : T.heap = h) (N : Fr n0 locs) (ga : n0 ≤ a) {k : ClassId} {z : Int32} {vs : List Value} {dv : Value} (V : Arv Z h a k .long z vs dv) {j : Int32} {v : Int64} (vs' : List Value) {pc' : Nat} (hd : decode code pc' = .ok (.lastore, 1))
   (kk : ∀ T' h' lo, Stand p l e R s m args below meth c T' lo cells slots → T'.heap = h' → Fr n0 lo → Wr h h' a j.toNatClampNeg (.long v) → Arv Z h' a k .long z vs' dv → own_Fin p e below G T' (mkF m (pc' + 1) L S)) (hp : pc = pc' := by rfl) (hj : ¬ j < 0 ∧ j < z := by decide) (hl : j.toNatClampNeg < vs.length := by exact Nat.le_of_ble_eq_true rfl) (hv : vs.set j.toNatClampNeg (.long v) = vs' := by rfl) : own_Fin p e below G T (mkF m pc L (.long v :: .int j :: .ref a :: S)) := by
 subst hp
 obtain ⟨cl, Ar, qk, Sz, Nz, Hh, Gf⟩ := V
 obtain ⟨T', h', X', e', W, st⟩ := stJ X C.1 C.z eT Ar (j := j) (inb_of Sz hj) (g := mkF m pc L (.long v :: .int j :: .ref a :: S)) rfl rfl (C.d hd)
 exact (kk T' h' _ X' e' (Fr.snoc X' N ga) W (hv ▸ Arv.set Ar qk Sz Nz Hh Gf rfl W _ rfl hl)).st st
theorem gS (C : own_C p c code ml s m own Z a0) (X : Stand p l e R s m args below meth c T locs cells slots) (eT : T.heap = h) {O n d : String} {v : Value} (F : Sta Z h O n d v) {i : Nat} (w : (Cond.fieldLink own i O n d).before a0 Z = true) {pc' : Nat} (hd2 : decode code pc' = .ok (.getstatic i, 3))
   (k : ∀ T', Stand p l e R s m args below meth c T' locs cells slots → T'.heap = h → own_Fin p e below G T' (mkF m (pc' + 3) L (v :: S))) (hp : pc = pc' := by rfl) : own_Fin p e below G T (mkF m pc L S) := by
 subst hp
 obtain ⟨T', X', e', st⟩ := getS2 X C.1 C.z C.o (host := "") (Or.inl w) Via.refl eT F (g := mkF m pc L S) rfl (C.d hd2)
 exact (k T' X' e').st st
theorem nP (C : own_C p c code ml s m own Z a0) (X : Stand p l e R s m args below meth c T locs cells slots) (eT : T.heap = h) {n : Int32} (cap : Nat) (vs : List Value) (w : (Cond.arrayClass .long).before a0 Z = true) {pc' : Nat} (hd : decode code pc' = .ok (.newarray .long, 2))
   (k : ∀ T' h' cA b, b = h.size → Stand p l e R s m args below meth c T' locs (cells + 1) (slots + cap) → T'.heap = h' → Ext h h' → Arv Z h' b cA .long n vs oZ → own_Fin p e below G T' (mkF m (pc' + 2) L (.ref b :: S))) (hp : pc = pc' := by rfl) (hn : ¬ n < 0 := by decide) (hcap : n.toNatClampNeg ≤ cap := by decide) (hb : cap * 8 ≤ 536870912 := by decide) (hc : cells + 1 ≤ R.cells := by decide) (hl : slots + cap ≤ R.slots := by decide) (hv : List.replicate cap oZ = vs := by rfl) : own_Fin p e below G T (mkF m pc L (.int n :: S)) := by
 subst hp
 obtain ⟨T', h', cA, X', e', E, A, st⟩ := newP X C.1 C.z (aty := .long) w eT (g := mkF m pc L (.int n :: S)) rfl (C.d hd) rfl hn hcap hb hc hl
 exact (k T' h' cA _ rfl X' e' E (hv ▸ (Arv.new A hn).pad (pad_rep [] oZ cap))).st st
theorem nO (C : own_C p c code ml s m own Z a0) (X : Stand p l e R s m args below meth c T locs cells slots) (eT : T.heap = h) {D : String} {i n : Nat} (w : (Cond.classLink own i D).before a0 Z = true) (wi : (Cond.instantiable D n).before a0 Z = true) (wz : (Cond.initialized D).before a0 Z = true) {pc' : Nat} (hd : decode code pc' = .ok (.new i, 3))
   (k : ∀ T' h' b, b = h.size → Stand p l e R s m args below meth c T' locs (cells + 1) (slots + n) → T'.heap = h' → Ext h h' → Exa Z h' b D → (∀ {O nm d : String} {ty : FieldType}, Laid Z a0 D O nm d → parseFieldDescriptor d = some ty → Fld Z h' b O nm d (defaultValue ty)) → own_Fin p e below G T' (mkF m (pc' + 3) L (.ref b :: S))) (hp : pc = pc' := by rfl) (hc : cells + 1 ≤ R.cells := by decide) (hl : slots + n ≤ R.slots := by decide) : own_Fin p e below G T (mkF m pc L S) := by
 subst hp
 obtain ⟨T', h', X', e', E, A, D', -, st⟩ := newO X C.1 C.z C.o w wi wz eT (g := mkF m pc L S) rfl (C.d hd) hc hl
 exact (k T' h' _ rfl X' e' E A D').st st
theorem iO (C : own_C p c code ml s m own Z a0) (X : Stand p l e R s m args below meth c T locs cells slots) (eT : T.heap = h) {i W : Nat} (w1 : (Cond.methodLink own i Lib.objectInit).before a0 Z = true) (w2 : (Cond.instanceMethod Lib.objectInit).before a0 Z = true) (w3 : (Cond.code Lib.objectInit ⟨#[0xb1]⟩ 1 none).before a0 Z = true) {pc' : Nat} (hd : decode code pc' = .ok (.invokespecial i, 3))
   (k : ∀ T', Stand p l e R s m args below meth c T' locs cells slots → T'.heap = h → own_Fin p e below G T' (mkF m (pc' + 3) L S)) (hp : pc = pc' := by rfl) (hsz : L.size = ml := by rfl) (hf : 1 ≤ R.frames := by decide) (hW : 2 * 0 + (S.map fun v => v.category).sum ≤ W := by first | exact Nat.le_of_eq rfl | decide) (hl : W + 12 ≤ R.locals := by decide) : own_Fin p e below G T (mkF m pc L (.ref a :: S)) := by
 subst hp
 obtain ⟨T', X', e', st⟩ := initO X C.1 C.z C.o w1 w2 w3 eT (g := mkF m pc L (.ref a :: S)) rfl (by rw [C.n]; exact hsz) rfl (C.d hd) hf hW hl
 exact (k T' X' e').st st
theorem kJ (C : own_C p c code ml s m own Z a0) (X : Stand p l e R s m args below meth c T locs cells slots) {i : Nat} {v : Int64} (w : (Cond.constantLong own i v).before a0 Z = true) {pc' : Nat} (hd : decode code pc' = .ok (.ldc2_w i, 3)) (F : own_Fin p e below G T (mkF m (pc' + 3) L (.long v :: S))) (hp : pc = pc' := by rfl) : own_Fin p e below G T (mkF m pc L S) := by subst hp; exact F.st fun t q => X.ldc2Long C.1 C.o (mvT C.z w) (g := mkF m pc L S) rfl (C.d hd) _ q
theorem rV (C : own_C p c code ml s m own Z a0) (X : Stand p l e R s m args below meth c T locs cells slots) (eT : T.heap = h) (hret : meth.sig.returnType = none ∧ meth.locks = false) {pc' : Nat} (hd : decode code pc' = .ok (.return_, 1)) (q : Q none h locs) (hp : pc = pc' := by rfl) (h1 : cells ≤ R.cells := by decide) (h2 : slots ≤ R.slots := by decide) : own_Fin p e below (own_E R s below Q) T (mkF m pc L []) := by
 obtain ⟨fs, hr, hrun, hended, hW, hsame⟩ := X.leave (v := none) (fun _ => rfl) hret.2
 exact ⟨T.setFrames fs, ⟨none, locs, hrun, hended, eT ▸ q, hW, hsame.mono h1 h2⟩, X.returnOut C.1 hret.1 (C.d (hp ▸ hd)) hr⟩
theorem rI (C : own_C p c code ml s m own Z a0) (X : Stand p l e R s m args below meth c T locs cells slots) (eT : T.heap = h) {z : Int32} (hret : meth.sig.returnType = some .int ∧ meth.locks = false) {pc' : Nat} (hd : decode code pc' = .ok (.ireturn, 1)) (q : Q (some (.int z)) h locs) (hp : pc = pc' := by rfl) (h1 : cells ≤ R.cells := by decide) (h2 : slots ≤ R.slots := by decide) : own_Fin p e below (own_E R s below Q) T (mkF m pc L (.int z :: S)) := by
 obtain ⟨fs, hr, hrun, hended, hW, hsame⟩ := X.leave (v := (some (.int z))) (fun u => by rw [hret.1] at u; cases u) hret.2
 exact ⟨T.setFrames fs, ⟨(some (.int z)), locs, hrun, hended, eT ▸ q, hW, hsame.mono h1 h2⟩, retI X C.1 hret.1 (C.d (hp ▸ hd)) hr⟩
theorem rJ (C : own_C p c code ml s m own Z a0) (X : Stand p l e R s m args below meth c T locs cells slots) (eT : T.heap = h) {z : Int64} (hret : meth.sig.returnType = some .long ∧ meth.locks = false) {pc' : Nat} (hd : decode code pc' = .ok (.lreturn, 1)) (q : Q (some (.long z)) h locs) (hp : pc = pc' := by rfl) (h1 : cells ≤ R.cells := by decide) (h2 : slots ≤ R.slots := by decide) : own_Fin p e below (own_E R s below Q) T (mkF m pc L (.long z :: S)) := by
 obtain ⟨fs, hr, hrun, hended, hW, hsame⟩ := X.leave (v := (some (.long z))) (fun u => by rw [hret.1] at u; cases u) hret.2
 exact ⟨T.setFrames fs, ⟨(some (.long z)), locs, hrun, hended, eT ▸ q, hW, hsame.mono h1 h2⟩, own_retJ X C.1 hret.1 (C.d (hp ▸ hd)) hr⟩
theorem rZ (C : own_C p c code ml s m own Z a0) (X : Stand p l e R s m args below meth c T locs cells slots) (eT : T.heap = h) {z : Int32} (hret : meth.sig.returnType = some .boolean ∧ meth.locks = false) {pc' : Nat} (hd : decode code pc' = .ok (.ireturn, 1)) (q : Q (some (.int (nar .boolean z))) h locs) (hp : pc = pc' := by rfl) (h1 : cells ≤ R.cells := by decide) (h2 : slots ≤ R.slots := by decide) : own_Fin p e below (own_E R s below Q) T (mkF m pc L (.int z :: S)) := by
 obtain ⟨fs, hr, hrun, hended, hW, hsame⟩ := X.leave (v := (some (.int (nar .boolean z)))) (fun u => by rw [hret.1] at u; cases u) hret.2
 exact ⟨T.setFrames fs, ⟨(some (.int (nar .boolean z))), locs, hrun, hended, eT ▸ q, hW, hsame.mono h1 h2⟩, retN X C.1 (t := .boolean) hret.1 (by simp) (C.d (hp ▸ hd)) hr⟩
theorem cS (C : own_C p c code ml s m own Z a0) (X : Stand p l e R s m args below meth c T locs cells slots) (eT : T.heap = h) {y : MethodName} {ycode : ByteArray} {yml : Nat} {yret : Option FieldType} {rm : Room} {as' : Array Value} {Qy : Option Value → Heap → List Loc → Prop} (K : own_Met l y ycode yml yret rm Z h as' Qy) {i W : Nat} (w1 : (Cond.methodLink own i y).before a0 Z = true) (w2 : (Cond.static y).before a0 Z = true) (wc : (Cond.code y ycode yml yret).before a0 Z = true) (wz : (Cond.initialized y.cls).before a0 Z = true) {argsL : List Value} (hlen : ∀ sig, parseMethodDescriptor y.desc = some sig → argsL.length = sig.parameters.length) {pc' : Nat} (hd : decode code pc' = .ok (.invokestatic i, 3)) (k : ∀ v T' lo, Stand p l e R s m args below meth c T' (locs ++ lo) (cells + rm.cells) (slots + rm.slots) → Qy v T'.heap lo → own_Fin p e below G T' (mkF m (pc' + 3) L (v.toList ++ rest))) (hy : y.cls ≠ "java/lang/invoke/MethodHandle" ∧ y.cls ≠ "java/lang/invoke/VarHandle" := by decide) (hp : pc = pc' := by rfl) (hsz : L.size = ml := by rfl) (hs : S = argsL.reverse ++ rest := by rfl) (ha : as' = (argsL).toArray := by rfl) (hW : 2 * 0 + (rest.map fun v => v.category).sum ≤ W := by first | exact Nat.le_of_eq rfl | decide) (hf : rm.frames + 1 ≤ R.frames := by decide) (hl : W + (yml + 11) + rm.locals ≤ R.locals := by decide) (hc : cells + rm.cells ≤ R.cells := by decide) (hsl : slots + rm.slots ≤ R.slots := by decide) : own_Fin p e below G T (mkF m pc L S) := by
 subst hp
 obtain ⟨v, _, ⟨B, L', k', n'⟩, -, X', ⟨lo, hQ, h1, h2, h3⟩, st⟩ := Jvm.LawKit.callS X C.1 (y := y) C.o (mvT C.z w1) (mvT C.z w2) (mvT C.z wz) (mvT C.z wc) hy (backOf (W := W) (K []) C.z wc wz hf hl) (g := mkF m pc L S) rfl (by rw [C.n]; exact hsz) hlen hs hW (C.d hd) (fun _ _ => ⟨ha.symm, eT, hc, hsl⟩)
 dsimp only [Pt.U, Pt.locs, Pt.cells, Pt.slots] at X' h1 h2 h3 st hQ
 subst h1 h2 h3
 exact (k v B lo X' hQ).st (fun t q => st _ q)
theorem cI (C : own_C p c code ml s m own Z a0) (X : Stand p l e R s m args below meth c T locs cells slots) (eT : T.heap = h) {y : MethodName} {ycode : ByteArray} {yml : Nat} {rm : Room} {as' : Array Value} {Qy : Option Value → Heap → List Loc → Prop} (K : own_Met l y ycode yml none rm Z h as' Qy) {i W : Nat} (w1 : (Cond.methodLink own i y).before a0 Z = true) (w2 : (Cond.instanceMethod y).before a0 Z = true) (wc : (Cond.code y ycode yml none).before a0 Z = true) (wz : (Cond.initialized y.cls).before a0 Z = true) {argsL : List Value} (hlen : ∀ sig, parseMethodDescriptor y.desc = some sig → argsL.length = sig.parameters.length) {pc' : Nat} (hd : decode code pc' = .ok (.invokespecial i, 3)) (k : ∀ v T' lo, Stand p l e R s m args below meth c T' (locs ++ lo) (cells + rm.cells) (slots + rm.slots) → Qy v T'.heap lo → own_Fin p e below G T' (mkF m (pc' + 3) L (v.toList ++ rest))) (hy : y.cls ≠ "java/lang/invoke/MethodHandle" ∧ y.cls ≠ "java/lang/invoke/VarHandle" := by decide) (hp : pc = pc' := by rfl) (hsz : L.size = ml := by rfl) (hs : S = argsL.reverse ++ .ref a :: rest := by rfl) (ha : as' = (.ref a :: argsL).toArray := by rfl) (hW : 2 * 0 + (rest.map fun v => v.category).sum ≤ W := by first | exact Nat.le_of_eq rfl | decide) (hf : rm.frames + 1 ≤ R.frames := by decide) (hl : W + (yml + 11) + rm.locals ≤ R.locals := by decide) (hc : cells + rm.cells ≤ R.cells := by decide) (hsl : slots + rm.slots ≤ R.slots := by decide) (hy1 : y.name = "<init>" := by rfl) : own_Fin p e below G T (mkF m pc L S) := by
 subst hp
 obtain ⟨v, _, ⟨B, L', k', n'⟩, -, X', ⟨lo, hQ, h1, h2, h3⟩, st⟩ := X.specialBack C.1 (y := y) hy1 C.o (mvT C.z w1) (mvT C.z w2) (mvT C.z wc) hy (backOf (W := W) (K []) C.z wc wz hf hl) (g := mkF m pc L S) rfl (by rw [C.n]; exact hsz) (Steps.refl _) (a := a) hlen hs hW (C.d hd) (fun _ _ => ⟨ha.symm, eT, hc, hsl⟩)
 dsimp only [Pt.U, Pt.locs, Pt.cells, Pt.slots] at X' h1 h2 h3 st hQ
 subst h1 h2 h3
 exact (k v B lo X' hQ).st (fun t q => st.trans q)
theorem cP (C : own_C p c code ml s m own Z a0) (X : Stand p l e R s m args below meth c T locs cells slots) (eT : T.heap = h) {y : MethodName} {ycode : ByteArray} {yml : Nat} {yret : Option FieldType} {rm : Room} {as' : Array Value} {Qy : Option Value → Heap → List Loc → Prop} (K : own_Met l y ycode yml yret rm Z h as' Qy) (E : Exa Z h a y.cls) {i W : Nat} (w1 : (Cond.methodLink own i y).before a0 Z = true) (w2 : (Cond.instanceMethod y).before a0 Z = true) (w3 : (Cond.selects y.cls y y).before args s = true) (w4 : (Cond.privateMethod y).before a0 Z = true) (wc : (Cond.code y ycode yml yret).before a0 Z = true) (wz : (Cond.initialized y.cls).before a0 Z = true) {argsL : List Value} (hlen : ∀ sig, parseMethodDescriptor y.desc = some sig → argsL.length = sig.parameters.length) {pc' : Nat} (hd : decode code pc' = .ok (.invokevirtual i, 3)) (k : ∀ v T' lo, Stand p l e R s m args below meth c T' (locs ++ lo) (cells + rm.cells) (slots + rm.slots) → Qy v T'.heap lo → own_Fin p e below G T' (mkF m (pc' + 3) L (v.toList ++ rest))) (hy : y.cls ≠ "java/lang/invoke/MethodHandle" ∧ y.cls ≠ "java/lang/invoke/VarHandle" := by decide) (hp : pc = pc' := by rfl) (hsz : L.size = ml := by rfl) (hs : S = argsL.reverse ++ .ref a :: rest := by rfl) (ha : as' = (.ref a :: argsL).toArray := by rfl) (hW : 2 * 0 + (rest.map fun v => v.category).sum ≤ W := by first | exact Nat.le_of_eq rfl | decide) (hf : rm.frames + 1 ≤ R.frames := by decide) (hl : W + (yml + 11) + rm.locals ≤ R.locals := by decide) (hc : cells + rm.cells ≤ R.cells := by decide) (hsl : slots + rm.slots ≤ R.slots := by decide) : own_Fin p e below G T (mkF m pc L S) := by
 subst hp
 obtain ⟨cq, q1, q2⟩ := E.cell
 obtain ⟨v, _, ⟨B, L', k', n'⟩, -, X', ⟨lo, hQ, h1, h2, h3⟩, st⟩ := X.privateBack C.1 (y := y) C.o (mvT C.z w1) (mvT C.z w2) w3 (Cond.privateMethod_at (mvP C.z w4 (args := #[]))) (mvT C.z wc) hy (backOf (W := W) (K []) C.z wc wz hf hl) (g := mkF m pc L S) rfl (by rw [C.n]; exact hsz) (Steps.refl _) (a := a) (by rw [eT]; exact q1) q2 hlen hs hW (C.d hd) (fun _ _ => ⟨ha.symm, eT, hc, hsl⟩)
 dsimp only [Pt.U, Pt.locs, Pt.cells, Pt.slots] at X' h1 h2 h3 st hQ
 subst h1 h2 h3
 exact (k v B lo X' hQ).st (fun t q => st.trans q)
theorem cV (C : own_C p c code ml s m own Z a0) (X : Stand p l e R s m args below meth c T locs cells slots) (eT : T.heap = h) {y : MethodName} {ycode : ByteArray} {yml : Nat} {yret : Option FieldType} {rm : Room} {as' : Array Value} {Qy : Option Value → Heap → List Loc → Prop} (K : own_Met l y ycode yml yret rm Z h as' Qy) (E : Exa Z h a y.cls) {i W : Nat} (w1 : (Cond.methodLink own i y).before a0 Z = true) (w2 : (Cond.declares y).before a0 Z = true) (w3 : (Cond.selects y.cls y y).before a0 Z = true) (w4 : (Cond.instanceMethod y).before a0 Z = true) (wc : (Cond.code y ycode yml yret).before a0 Z = true) (wz : (Cond.initialized y.cls).before a0 Z = true) {argsL : List Value} (hlen : ∀ sig, parseMethodDescriptor y.desc = some sig → argsL.length = sig.parameters.length) {pc' : Nat} (hd : decode code pc' = .ok (.invokevirtual i, 3)) (k : ∀ v T' lo, Stand p l e R s m args below meth c T' (locs ++ lo) (cells + rm.cells) (slots + rm.slots) → Qy v T'.heap lo → own_Fin p e below G T' (mkF m (pc' + 3) L (v.toList ++ rest))) (hy : y.cls ≠ "java/lang/invoke/MethodHandle" ∧ y.cls ≠ "java/lang/invoke/VarHandle" := by decide) (hp : pc = pc' := by rfl) (hsz : L.size = ml := by rfl) (hs : S = argsL.reverse ++ .ref a :: rest := by rfl) (ha : as' = (.ref a :: argsL).toArray := by rfl) (hW : 2 * 0 + (rest.map fun v => v.category).sum ≤ W := by first | exact Nat.le_of_eq rfl | decide) (hf : rm.frames + 1 ≤ R.frames := by decide) (hl : W + (yml + 11) + rm.locals ≤ R.locals := by decide) (hc : cells + rm.cells ≤ R.cells := by decide) (hsl : slots + rm.slots ≤ R.slots := by decide) : own_Fin p e below G T (mkF m pc L S) := by
 subst hp
 obtain ⟨cq, kq, q1, q2, q3⟩ := isOf C.z eT E
 obtain ⟨v, _, ⟨B, L', k', n'⟩, -, X', ⟨lo, hQ, h1, h2, h3⟩, st⟩ := X.virtualBack C.1 (y := y) (z := y) C.o (mvT C.z w1) (mvT C.z w2) (notFace_of_selects (args := #[]) (mvT C.z w3)) (mvT C.z w3) (mvT C.z w4) hy (backOf (W := W) (K []) C.z wc wz hf hl) q1 q3 (g := mkF m pc L S) rfl (by rw [C.n]; exact hsz) (Steps.refl _) hlen hs hW (C.d hd) (fun _ _ => ⟨ha.symm, eT, hc, hsl⟩)
 dsimp only [Pt.U, Pt.locs, Pt.cells, Pt.slots] at X' h1 h2 h3 st hQ
 subst h1 h2 h3
 exact (k v B lo X' hQ).st (fun t q => st.trans q)
theorem cB (C : own_C p c code ml s m own Z a0) (X : Stand p l e R s m args below meth c T locs cells slots) (eT : T.heap = h) {y : MethodName} {ycode : ByteArray} {yml : Nat} {yret : Option FieldType} {Pp : Array Value → State → Prop} {vv : Option Value} {i W : Nat} (K : Back l R p e below s args y 3 W (fun A a => A.cells + 0 ≤ R.cells ∧ A.slots + 0 ≤ R.slots ∧ Pp a A.U) (fun A _ v B => XT.PureE vv v A.U B.U ∧ B.locs = A.locs ++ [] ∧ B.cells = A.cells + 0 ∧ B.slots = A.slots + 0)) (w1 : (Cond.methodLink own i y).before a0 Z = true) (w2 : (Cond.static y).before a0 Z = true) (wc : (Cond.code y ycode yml yret).before a0 Z = true) (wz : (Cond.initialized y.cls).before a0 Z = true) {argsL : List Value} (hlen : ∀ sig, parseMethodDescriptor y.desc = some sig → argsL.length = sig.parameters.length) (hP : ∀ U, Pp argsL.toArray U) {pc' : Nat} (hd : decode code pc' = .ok (.invokestatic i, 3)) (k : ∀ T', Stand p l e R s m args below meth c T' locs cells slots → T'.heap = h → own_Fin p e below G T' (mkF m (pc' + 3) L (vv.toList ++ rest))) (hy : y.cls ≠ "java/lang/invoke/MethodHandle" ∧ y.cls ≠ "java/lang/invoke/VarHandle" := by decide) (hp : pc = pc' := by rfl) (hsz : L.size = ml := by rfl) (hs : S = argsL.reverse ++ rest := by rfl) (hW : 2 * 0 + (rest.map fun v => v.category).sum ≤ W := by first | exact Nat.le_of_eq rfl | decide) (hc : cells + 0 ≤ R.cells := by decide) (hsl : slots + 0 ≤ R.slots := by decide) : own_Fin p e below G T (mkF m pc L S) := by
 subst hp
 obtain ⟨v, vm₁, ⟨B, L', k', n'⟩, -, X', ⟨hE, h1, h2, h3⟩, st⟩ := Jvm.LawKit.callS X C.1 (y := y) C.o (mvT C.z w1) (mvT C.z w2) (mvT C.z wz) (mvT C.z wc) hy K (g := mkF m pc L S) rfl (by rw [C.n]; exact hsz) hlen hs hW (C.d hd) (fun _ _ => ⟨hc, hsl, hP _⟩)
 dsimp only [Pt.U, Pt.locs, Pt.cells, Pt.slots] at X' h1 h2 h3 st hE
 obtain ⟨rfl, q⟩ := hE
 subst h1 h2 h3
 rw [List.append_nil] at X'
 exact (k B X' (q.trans eT)).st st
end OwnK
def own_m (q1_0 : Int64) (q1_1 : Int64) : Int64 := (if q1_1 < q1_0 then q1_1 else q1_0)
theorem dfo : oDe oc1 0 (.lload_n 0) 1:=by decide+kernel
theorem dfp : oDe oc1 1 (.lload_n 2) 1:=by decide+kernel
theorem dfs : oDe oc1 2 (.lcmp) 1:=by decide+kernel
theorem dft : oDe oc1 3 (.ifCond .gt 7) 3:=by decide+kernel
theorem dfu : oDe oc1 6 (.lload_n 0) 1:=by decide+kernel
theorem dfv : oDe oc1 7 (.goto 4) 3:=by decide+kernel
theorem dfq : oDe oc1 10 (.lload_n 2) 1:=by decide+kernel
theorem dfr : oDe oc1 11 (.lreturn) 1:=by decide+kernel
theorem fak (m : MethodId) (y0 : Int64) (y1 : Int64) : entryFrame m #[(.long y0), (.long y1)] 4 = mkF m 0 #[oJ y0, oD, oJ y1, oD] [] := by first | (simp [entryFrame, mkF, argsToLocals, Value.category]; done) | rfl
def Q_rm1 (Z : State) (q1_0 q1_1 : Int64) (h0 : Heap) (n0 : Nat) (v : Option Value) (h : Heap) (L : List Loc) : Prop := v = some (.long (own_m q1_0 q1_1)) ∧ Fr n0 L ∧ h = h0
theorem rm1 (hw : own_T Z a0) (ws : List Jvm.Cond) (q1_0 q1_1 : Int64) (h0 : Heap) (n0 : Nat) (Z0 : n0 ≤ h0.size) :
   MetFree l oy1 (head1 (Jvm.Cond.code oy1 oc1 4 (some .long) :: ws) (oRm 0 0 0 0)) (fun a U => a = #[(.long q1_0), (.long q1_1)] ∧ Z.Warmed39 U.vm ∧ U.heap = h0) (fun _ _ _ _ _ => True) (fun _ U o U' => ∃ v L, o = .returned v ∧ Q_rm1 Z q1_0 q1_1 h0 n0 v U'.heap L ∧ FrameEnd U o U' L (oRm 0 0 0 0).cells (oRm 0 0 0 0).slots) := by
 refine MetFree.of_bodySF (Jvm.Free.JP.mathPlain rfl (by decide+kernel)) hisR ?_
 intro p e s m args below meth c s₁ Bd hml0 hP hK
 obtain ⟨rfl, hZ, hh⟩ := hP
 have hx := Bd.exec
 have hby := Bd.bytes
 have hml : c.maxLocals = 4 := hml0
 have hown : s.vm.findClass "java/lang/Math" = some m.cls := findClass_of_methodNamed Bd.named
 have hnm := (name_of_methodNamed Bd.named Bd.method).1
 have X0 : Stand p l e (oRm 0 0 0 0) s m #[(.long q1_0), (.long q1_1)] below meth c s₁ [] 0 0 := Stand.of_body Bd
 have e0 : s₁.heap = h0 := by rw [← hh, Bd.state]; rfl
 have N0 := Fr.nil n0
 have pre0 : ∀ t, Steps p.tables e below (s₁.setTop (mkF m 0 #[oJ q1_0, oD, oJ q1_1, oD] [])) t → Steps p.tables e below (s₁.setTop (entryFrame m #[(.long q1_0), (.long q1_1)] 4)) t := fun t k => castTop (fak m q1_0 q1_1) k
 have G1 : ∀ t, Steps p.tables e below (s₁.setTop (mkF m 3 #[oJ q1_0, oD, oJ q1_1, oD] [(.int (lcmpW q1_0 q1_1))])) t → Steps p.tables e below (s₁.setTop (mkF m 0 #[oJ q1_0, oD, oJ q1_1, oD] [])) t := by
   intro t k
   show Steps p.tables e below (s₁.setTop (mkF m 0 #[oJ q1_0, oD, oJ q1_1, oD] [])) _
   refine XS.lloadN X0.here hx rfl (hb hby dfo) rfl ?_
   refine XS.lloadN X0.here hx rfl (hb hby dfp) rfl ?_
   refine XS.lcmp X0.here hx rfl (hb hby dfs) rfl ?_
   exact k
 obtain ⟨v3, hv3⟩ : ∃ z : Int64, z = (if q1_1 < q1_0 then q1_1 else q1_0) := ⟨_, rfl⟩
 obtain ⟨T4, Lo4, X4, N4, e4, G4⟩ := own_join X0 N0 (h := h0) (mkF m 3 #[oJ q1_0, oD, oJ q1_1, oD] [(.int (lcmpW q1_0 q1_1))]) (mkF m 11 #[oJ q1_0, oD, oJ q1_1, oD] [(.long v3)]) (by
   by_cases h3_2 : q1_1 < q1_0
   · refine ⟨s₁, _, X0, N0, e0, fun t k => ?_⟩
     rw [show v3 = q1_1 from hv3.trans (if_pos h3_2)] at k
     show Steps p.tables e below (s₁.setTop (mkF m 3 #[oJ q1_0, oD, oJ q1_1, oD] [(.int (lcmpW q1_0 q1_1))])) _
     refine XS.ifYes X0.here hx rfl (pc0 := 3) (pc' := 10) rfl (hb hby dft) rfl ((if0 _ _).trans (tlt ((lw_gt _ _).mpr h3_2)).2.2.1) (by decide) (by decide) ?_
     refine XS.lloadN X0.here hx rfl (hb hby dfq) rfl ?_
     exact k
   · refine ⟨s₁, _, X0, N0, e0, fun t k => ?_⟩
     rw [show v3 = q1_0 from hv3.trans (if_neg h3_2)] at k
     show Steps p.tables e below (s₁.setTop (mkF m 3 #[oJ q1_0, oD, oJ q1_1, oD] [(.int (lcmpW q1_0 q1_1))])) _
     refine XS.ifNo X0.here hx rfl (hb hby dft) rfl ((if0 _ _).trans (flt (fun q => h3_2 ((lw_gt _ _).mp q))).2.2.1) ?_
     refine XS.lloadN X0.here hx rfl (hb hby dfu) rfl ?_
     refine XS.goto X0.here hx rfl (pc0 := 7) (pc' := 11) rfl (hb hby dfv) (by decide) (by decide) ?_
     exact k)
 obtain ⟨fs, hr, hrun, hended, hW, hsame⟩ := X4.leave (v := some (.long v3)) (fun h => by rw [Bd.returns] at h; cases h)
 refine ⟨_, _, pre0 _ ?_, hrun, hended, _, _, rfl, ?_, ⟨_, rfl⟩, hW, hsame.mono (by decide) (by decide)⟩
 · refine G1 _ ?_
   refine G4 _ ?_
   show Steps p.tables e below (T4.setTop (mkF m 11 #[oJ q1_0, oD, oJ q1_1, oD] [(.long v3)])) _
   exact own_retJ X4 hx Bd.returns (hb hby dfr) hr
 · show Q_rm1 Z q1_0 q1_1 h0 n0 _ T4.heap _
   rw [e4]
   subst hv3
   exact ⟨rfl, N4, rfl⟩
theorem own_mMM : own_m oM oM = oM:=by decide+kernel
def own_Sp0 (Z : State) (h : Heap) (a : Addr) : Prop := ∃ k : ClassId, Arv Z h a k .long (0 : Int32) [] oZ
theorem own_Sp0.lt {Z : State} {h : Heap} {a : Addr} (F : own_Sp0 Z h a) : a < h.size := by obtain ⟨k, V⟩ := F; exact V.lt
theorem own_Sp0.ext {Z : State} {h h' : Heap} {a : Addr} (F : own_Sp0 Z h a) (E : Ext h h') : own_Sp0 Z h' a := by obtain ⟨k, V⟩ := F; exact ⟨k, V.ext E⟩
theorem own_Sp0.keep {Z : State} {h h' : Heap} {a : Addr} {ws : List Addr} (F : own_Sp0 Z h a) (K : Keep h h' ws) (q : a ∉ ws) : own_Sp0 Z h' a := by obtain ⟨k, V⟩ := F; exact ⟨k, V.keep K q⟩
theorem own_Sp0.other {Z : State} {h h' : Heap} {a b : Addr} {sl : Nat} {v : Value} (F : own_Sp0 Z h b) (W : Wr h h' a sl v) (q : b ≠ a) : own_Sp0 Z h' b := by obtain ⟨k, V⟩ := F; exact ⟨k, V.other W q⟩
def own_Sp2 (Z : State) (h : Heap) (a : Addr) (l0 : Int64) (l1 : Int64) : Prop := ∃ k : ClassId, Arv Z h a k .long (4 : Int32) [oZ, (.long (own_m l0 l1)), (.long l0), (.long l1)] oZ
theorem own_Sp2.lt {Z : State} {h : Heap} {a : Addr} {l0 : Int64} {l1 : Int64} (F : own_Sp2 Z h a l0 l1) : a < h.size := by obtain ⟨k, V⟩ := F; exact V.lt
theorem own_Sp2.ext {Z : State} {h h' : Heap} {a : Addr} {l0 : Int64} {l1 : Int64} (F : own_Sp2 Z h a l0 l1) (E : Ext h h') : own_Sp2 Z h' a l0 l1 := by obtain ⟨k, V⟩ := F; exact ⟨k, V.ext E⟩
theorem own_Sp2.keep {Z : State} {h h' : Heap} {a : Addr} {ws : List Addr} {l0 : Int64} {l1 : Int64} (F : own_Sp2 Z h a l0 l1) (K : Keep h h' ws) (q : a ∉ ws) : own_Sp2 Z h' a l0 l1 := by obtain ⟨k, V⟩ := F; exact ⟨k, V.keep K q⟩
theorem own_Sp2.other {Z : State} {h h' : Heap} {a b : Addr} {sl : Nat} {v : Value} {l0 : Int64} {l1 : Int64} (F : own_Sp2 Z h b l0 l1) (W : Wr h h' a sl v) (q : b ≠ a) : own_Sp2 Z h' b l0 l1 := by obtain ⟨k, V⟩ := F; exact ⟨k, V.other W q⟩
def own_Sp4 (Z : State) (h : Heap) (a : Addr) (l0 : Int64) (l1 : Int64) (l2 : Int64) (l3 : Int64) : Prop := ∃ k : ClassId, Arv Z h a k .long (8 : Int32) [oZ, (.long (own_m (own_m l0 l1) (own_m l2 l3))), (.long (own_m l0 l1)), (.long (own_m l2 l3)), (.long l0), (.long l1), (.long l2), (.long l3)] oZ
theorem own_Sp4.lt {Z : State} {h : Heap} {a : Addr} {l0 : Int64} {l1 : Int64} {l2 : Int64} {l3 : Int64} (F : own_Sp4 Z h a l0 l1 l2 l3) : a < h.size := by obtain ⟨k, V⟩ := F; exact V.lt
theorem own_Sp4.ext {Z : State} {h h' : Heap} {a : Addr} {l0 : Int64} {l1 : Int64} {l2 : Int64} {l3 : Int64} (F : own_Sp4 Z h a l0 l1 l2 l3) (E : Ext h h') : own_Sp4 Z h' a l0 l1 l2 l3 := by obtain ⟨k, V⟩ := F; exact ⟨k, V.ext E⟩
theorem own_Sp4.keep {Z : State} {h h' : Heap} {a : Addr} {ws : List Addr} {l0 : Int64} {l1 : Int64} {l2 : Int64} {l3 : Int64} (F : own_Sp4 Z h a l0 l1 l2 l3) (K : Keep h h' ws) (q : a ∉ ws) : own_Sp4 Z h' a l0 l1 l2 l3 := by obtain ⟨k, V⟩ := F; exact ⟨k, V.keep K q⟩
theorem own_Sp4.other {Z : State} {h h' : Heap} {a b : Addr} {sl : Nat} {v : Value} {l0 : Int64} {l1 : Int64} {l2 : Int64} {l3 : Int64} (F : own_Sp4 Z h b l0 l1 l2 l3) (W : Wr h h' a sl v) (q : b ≠ a) : own_Sp4 Z h' b l0 l1 l2 l3 := by obtain ⟨k, V⟩ := F; exact ⟨k, V.other W q⟩
def own_Sp8 (Z : State) (h : Heap) (a : Addr) (l0 : Int64) (l1 : Int64) (l2 : Int64) (l3 : Int64) (l4 : Int64) (l5 : Int64) (l6 : Int64) (l7 : Int64) : Prop := ∃ k : ClassId, Arv Z h a k .long (16 : Int32) [oZ, (.long (own_m (own_m (own_m l0 l1) (own_m l2 l3)) (own_m (own_m l4 l5) (own_m l6 l7)))), (.long (own_m (own_m l0 l1) (own_m l2 l3))), (.long (own_m (own_m l4 l5) (own_m l6 l7))), (.long (own_m l0 l1)), (.long (own_m l2 l3)), (.long (own_m l4 l5)), (.long (own_m l6 l7)), (.long l0), (.long l1), (.long l2), (.long l3), (.long l4), (.long l5), (.long l6), (.long l7)] oZ
theorem own_Sp8.lt {Z : State} {h : Heap} {a : Addr} {l0 : Int64} {l1 : Int64} {l2 : Int64} {l3 : Int64} {l4 : Int64} {l5 : Int64} {l6 : Int64} {l7 : Int64} (F : own_Sp8 Z h a l0 l1 l2 l3 l4 l5 l6 l7) : a < h.size := by obtain ⟨k, V⟩ := F; exact V.lt
theorem own_Sp8.ext {Z : State} {h h' : Heap} {a : Addr} {l0 : Int64} {l1 : Int64} {l2 : Int64} {l3 : Int64} {l4 : Int64} {l5 : Int64} {l6 : Int64} {l7 : Int64} (F : own_Sp8 Z h a l0 l1 l2 l3 l4 l5 l6 l7) (E : Ext h h') : own_Sp8 Z h' a l0 l1 l2 l3 l4 l5 l6 l7 := by obtain ⟨k, V⟩ := F; exact ⟨k, V.ext E⟩
theorem own_Sp8.keep {Z : State} {h h' : Heap} {a : Addr} {ws : List Addr} {l0 : Int64} {l1 : Int64} {l2 : Int64} {l3 : Int64} {l4 : Int64} {l5 : Int64} {l6 : Int64} {l7 : Int64} (F : own_Sp8 Z h a l0 l1 l2 l3 l4 l5 l6 l7) (K : Keep h h' ws) (q : a ∉ ws) : own_Sp8 Z h' a l0 l1 l2 l3 l4 l5 l6 l7 := by obtain ⟨k, V⟩ := F; exact ⟨k, V.keep K q⟩
theorem own_Sp8.other {Z : State} {h h' : Heap} {a b : Addr} {sl : Nat} {v : Value} {l0 : Int64} {l1 : Int64} {l2 : Int64} {l3 : Int64} {l4 : Int64} {l5 : Int64} {l6 : Int64} {l7 : Int64} (F : own_Sp8 Z h b l0 l1 l2 l3 l4 l5 l6 l7) (W : Wr h h' a sl v) (q : b ≠ a) : own_Sp8 Z h' b l0 l1 l2 l3 l4 l5 l6 l7 := by obtain ⟨k, V⟩ := F; exact ⟨k, V.other W q⟩
theorem own_tN {p : Program} {c : Code} {code : ByteArray} {ml : Nat} {s : State} {m : MethodId} {own : String} {Z : State} {a0 args : Array Value} (C : own_C p c code ml s m own Z a0) : Jvm.Free.JP.Integer_numberOfTrailingZeros_I.tab.before args s = true := Jvm.Free.XT.unparts (mvT C.z (wbf C.w)) (List.forall_mem_cons.mpr ⟨(mvT C.z (wcP C.w)), (List.forall_mem_cons.mpr ⟨(mvT C.z (wcW C.w)), (fun _ q => nomatch q)⟩)⟩)
theorem own_tM {p : Program} {c : Code} {code : ByteArray} {ml : Nat} {s : State} {m : MethodId} {own : String} {Z : State} {a0 args : Array Value} (C : own_C p c code ml s m own Z a0) : Jvm.Free.JP.Long_numberOfTrailingZeros_J.tab.before args s = true := Jvm.Free.XT.unparts (mvT C.z (wbc C.w)) (List.forall_mem_cons.mpr ⟨(mvT C.z (wbb C.w)), (List.forall_mem_cons.mpr ⟨(own_tN C), (List.forall_mem_cons.mpr ⟨(mvT C.z (wbd C.w)), (List.forall_mem_cons.mpr ⟨(mvT C.z (wbe C.w)), (fun _ q => nomatch q)⟩)⟩)⟩)⟩)
theorem own_tZ {p : Program} {c : Code} {code : ByteArray} {ml : Nat} {s : State} {m : MethodId} {own : String} {Z : State} {a0 args : Array Value} (C : own_C p c code ml s m own Z a0) : Jvm.Free.JP.Integer_numberOfLeadingZeros_I.tab.before args s = true := Jvm.Free.XT.unparts (mvT C.z (wcU C.w)) (List.forall_mem_cons.mpr ⟨(mvT C.z (wcP C.w)), (List.forall_mem_cons.mpr ⟨(mvT C.z (wcW C.w)), (fun _ q => nomatch q)⟩)⟩)
theorem own_tY {p : Program} {c : Code} {code : ByteArray} {ml : Nat} {s : State} {m : MethodId} {own : String} {Z : State} {a0 args : Array Value} (C : own_C p c code ml s m own Z a0) : Jvm.Free.JP.Long_numberOfLeadingZeros_J.tab.before args s = true := Jvm.Free.XT.unparts (mvT C.z (wbJ C.w)) (List.forall_mem_cons.mpr ⟨(mvT C.z (wbb C.w)), (List.forall_mem_cons.mpr ⟨(own_tZ C), (List.forall_mem_cons.mpr ⟨(mvT C.z (wbK C.w)), (List.forall_mem_cons.mpr ⟨(mvT C.z (wcT C.w)), (fun _ q => nomatch q)⟩)⟩)⟩)⟩)
theorem own_tH {p : Program} {c : Code} {code : ByteArray} {ml : Nat} {s : State} {m : MethodId} {own : String} {Z : State} {a0 args : Array Value} (C : own_C p c code ml s m own Z a0) : Jvm.Free.JP.Integer_highestOneBit_I.tab.before args s = true := Jvm.Free.XT.unparts (mvT C.z (wcQ C.w)) (List.forall_mem_cons.mpr ⟨(mvT C.z (wcP C.w)), (List.forall_mem_cons.mpr ⟨(mvT C.z (wcR C.w)), (List.forall_mem_cons.mpr ⟨(own_tZ C), (List.forall_mem_cons.mpr ⟨(mvT C.z (wcS C.w)), (List.forall_mem_cons.mpr ⟨(mvT C.z (wcT C.w)), (fun _ q => nomatch q)⟩)⟩)⟩)⟩)⟩)
abbrev own_intz := Jvm.Free.JP.Integer_numberOfTrailingZeros_I.val
abbrev own_lntz := Jvm.Free.JP.Long_numberOfTrailingZeros_J.val
abbrev own_inlz := Jvm.Free.JP.Integer_numberOfLeadingZeros_I.val
abbrev own_lnlz := Jvm.Free.JP.Long_numberOfLeadingZeros_J.val
abbrev own_hob := Jvm.Free.JP.Integer_highestOneBit_I.val
theorem daa : oDe oc11 0 (.iload_n 0) 1:=by decide+kernel
theorem dab : oDe oc11 1 (.iload_n 1) 1:=by decide+kernel
theorem dad : oDe oc11 2 (.if_icmp .lt 7) 3:=by decide+kernel
theorem dae : oDe oc11 5 (.iload_n 0) 1:=by decide+kernel
theorem daf : oDe oc11 6 (.goto 4) 3:=by decide+kernel
theorem dag : oDe oc11 9 (.iload_n 1) 1:=by decide+kernel
theorem dac : oDe oc11 10 (.ireturn) 1:=by decide+kernel
theorem fal (m : MethodId) (y0 : Int32) (y1 : Int32) : entryFrame m #[(.int y0), (.int y1)] 2 = mkF m 0 #[oI y0, oI y1] [] := by first | (simp [entryFrame, mkF, argsToLocals, Value.category]; done) | rfl
def Q_rm11 (Z : State) (p11_0 p11_1 : Int32) (h0 : Heap) (n0 : Nat) (v : Option Value) (h : Heap) (L : List Loc) : Prop := v = some (.int (if p11_0 < p11_1 then p11_1 else p11_0)) ∧ Fr n0 L ∧ h = h0
theorem rm11 (hw : own_T Z a0) (ws : List Jvm.Cond) (p11_0 p11_1 : Int32) (h0 : Heap) (n0 : Nat) (Z0 : n0 ≤ h0.size) :
   MetFree l (⟨"java/lang/Math", "max", "(II)I"⟩ : MethodName) (head1 (Jvm.Cond.code (⟨"java/lang/Math", "max", "(II)I"⟩ : MethodName) oc11 2 (some .int) :: ws) (oRm 0 0 0 0)) (fun a U => a = #[(.int p11_0), (.int p11_1)] ∧ Z.Warmed39 U.vm ∧ U.heap = h0) (fun _ _ _ _ _ => True) (fun _ U o U' => ∃ v L, o = .returned v ∧ Q_rm11 Z p11_0 p11_1 h0 n0 v U'.heap L ∧ FrameEnd U o U' L (oRm 0 0 0 0).cells (oRm 0 0 0 0).slots) := by
 refine MetFree.of_bodySF (Jvm.Free.JP.mathPlain rfl (by decide+kernel)) hisR ?_
 intro p e s m args below meth c s₁ Bd hml0 hP hK
 obtain ⟨rfl, hZ, hh⟩ := hP
 have hx := Bd.exec
 have hby := Bd.bytes
 have hml : c.maxLocals = 2 := hml0
 have hown : s.vm.findClass "java/lang/Math" = some m.cls := findClass_of_methodNamed Bd.named
 have hnm := (name_of_methodNamed Bd.named Bd.method).1
 have X0 : Stand p l e (oRm 0 0 0 0) s m #[(.int p11_0), (.int p11_1)] below meth c s₁ [] 0 0 := Stand.of_body Bd
 have e0 : s₁.heap = h0 := by rw [← hh, Bd.state]; rfl
 have N0 := Fr.nil n0
 have pre0 : ∀ t, Steps p.tables e below (s₁.setTop (mkF m 0 #[oI p11_0, oI p11_1] [])) t → Steps p.tables e below (s₁.setTop (entryFrame m #[(.int p11_0), (.int p11_1)] 2)) t := fun t k => castTop (fal m p11_0 p11_1) k
 have G1 : ∀ t, Steps p.tables e below (s₁.setTop (mkF m 2 #[oI p11_0, oI p11_1] [(.int p11_1), (.int p11_0)])) t → Steps p.tables e below (s₁.setTop (mkF m 0 #[oI p11_0, oI p11_1] [])) t := by
   intro t k
   show Steps p.tables e below (s₁.setTop (mkF m 0 #[oI p11_0, oI p11_1] [])) _
   refine XS.iloadN X0.here hx rfl (hb hby daa) rfl ?_
   refine XS.iloadN X0.here hx rfl (hb hby dab) rfl ?_
   exact k
 by_cases h2_2 : p11_0 < p11_1
 · obtain ⟨fs, hr, hrun, hended, hW, hsame⟩ := X0.leave (v := some (.int p11_1)) (fun h => by rw [Bd.returns] at h; cases h)
   refine ⟨_, _, pre0 _ ?_, hrun, hended, _, _, rfl, ?_, ⟨_, rfl⟩, hW, hsame.mono (by decide) (by decide)⟩
   · refine G1 _ ?_
     show Steps p.tables e below (s₁.setTop (mkF m 2 #[oI p11_0, oI p11_1] [(.int p11_1), (.int p11_0)])) _
     refine XS.icmpYes X0.here hx rfl (pc0 := 2) (pc' := 9) rfl (hb hby dad) rfl (tlt h2_2).1 (by decide) (by decide) ?_
     refine XS.iloadN X0.here hx rfl (hb hby dag) rfl ?_
     show Steps p.tables e below (s₁.setTop (mkF m 10 #[oI p11_0, oI p11_1] [(.int p11_1)])) _
     exact retI X0 hx Bd.returns (hb hby dac) hr
   · show Q_rm11 Z p11_0 p11_1 h0 n0 _ s₁.heap _
     rw [e0]
     exact ⟨(congrArg (fun z => some (Value.int z)) (if_pos h2_2).symm), N0, rfl⟩
 · obtain ⟨fs, hr, hrun, hended, hW, hsame⟩ := X0.leave (v := some (.int p11_0)) (fun h => by rw [Bd.returns] at h; cases h)
   refine ⟨_, _, pre0 _ ?_, hrun, hended, _, _, rfl, ?_, ⟨_, rfl⟩, hW, hsame.mono (by decide) (by decide)⟩
   · refine G1 _ ?_
     show Steps p.tables e below (s₁.setTop (mkF m 2 #[oI p11_0, oI p11_1] [(.int p11_1), (.int p11_0)])) _
     refine XS.icmpNo X0.here hx rfl (hb hby dad) rfl (flt h2_2).1 ?_
     refine XS.iloadN X0.here hx rfl (hb hby dae) rfl ?_
     refine XS.goto X0.here hx rfl (pc0 := 6) (pc' := 10) rfl (hb hby daf) (by decide) (by decide) ?_
     show Steps p.tables e below (s₁.setTop (mkF m 10 #[oI p11_0, oI p11_1] [(.int p11_0)])) _
     exact retI X0 hx Bd.returns (hb hby dac) hr
   · show Q_rm11 Z p11_0 p11_1 h0 n0 _ s₁.heap _
     rw [e0]
     exact ⟨(congrArg (fun z => some (Value.int z)) (if_neg h2_2).symm), N0, rfl⟩
theorem ddJ : oDe oc14 0 (.getstatic 3) 3:=by decide+kernel
theorem ddL : oDe oc14 3 (.ifCond .ne 34) 3:=by decide+kernel
theorem ddM : oDe oc14 37 (.getstatic 3) 3:=by decide+kernel
theorem ddN : oDe oc14 40 (.ifCond .ne 30) 3:=by decide+kernel
theorem ddO : oDe oc14 70 (.getstatic 3) 3:=by decide+kernel
theorem ddP : oDe oc14 73 (.ifCond .ne 37) 3:=by decide+kernel
theorem ddK : oDe oc14 110 (.return_) 1:=by decide+kernel
theorem pn_14 : plainName oB = true := by first | (simp [plainName, overriddenIn]; done) | decide +kernel
theorem fat (m : MethodId) (y0 : Addr) : entryFrame m #[(.ref y0)] 1 = mkF m 0 #[oR y0] [] := by first | (simp [entryFrame, mkF, argsToLocals, Value.category]; done) | rfl
def Q_rm14 (Z : State) (a14_0 : Addr) (h0 : Heap) (n0 : Nat) (v : Option Value) (h : Heap) (L : List Loc) : Prop := v = none ∧ Fr n0 L ∧ h = h0
theorem rm14 (hw : own_T Z a0) (ws : List Jvm.Cond) (a14_0 : Addr) (h0 : Heap) (n0 : Nat) (Z0 : n0 ≤ h0.size) (Sta1 : Sta Z h0 oB "$assertionsDisabled" "Z" (.int 1)) :
   MetFree l (⟨oB, "checkInvariants", "()V"⟩ : MethodName) (head1 (Jvm.Cond.code (⟨oB, "checkInvariants", "()V"⟩ : MethodName) oc14 1 none :: ws) (oRm 0 0 0 0)) (fun a U => a = #[(.ref a14_0)] ∧ Z.Warmed39 U.vm ∧ U.heap = h0) (fun _ _ _ _ _ => True) (fun _ U o U' => ∃ v L, o = .returned v ∧ Q_rm14 Z a14_0 h0 n0 v U'.heap L ∧ FrameEnd U o U' L (oRm 0 0 0 0).cells (oRm 0 0 0 0).slots) := by
 refine MetFree.of_bodySF (plainFor_of_name pn_14) hisR ?_
 intro p e s m args below meth c s₁ Bd hml0 hP hK
 obtain ⟨rfl, hZ, hh⟩ := hP
 have hx := Bd.exec
 have hby := Bd.bytes
 have hml : c.maxLocals = 1 := hml0
 have hown : s.vm.findClass oB = some m.cls := findClass_of_methodNamed Bd.named
 have hnm := (name_of_methodNamed Bd.named Bd.method).1
 have X0 : Stand p l e (oRm 0 0 0 0) s m #[(.ref a14_0)] below meth c s₁ [] 0 0 := Stand.of_body Bd
 have e0 : s₁.heap = h0 := by rw [← hh, Bd.state]; rfl
 have N0 := Fr.nil n0
 have pre0 : ∀ t, Steps p.tables e below (s₁.setTop (mkF m 0 #[oR a14_0] [])) t → Steps p.tables e below (s₁.setTop (entryFrame m #[(.ref a14_0)] 1)) t := fun t k => castTop (fat m a14_0) k
 obtain ⟨T1, X1, e1, st1⟩ := getS2 X0 hx hZ hown (host := "") (Or.inl (wdi hw)) Via.refl e0 Sta1 (g := (mkF m 0 #[oR a14_0] [])) rfl (hb hby ddJ)
 obtain ⟨T2, X2, e2, st2⟩ := getS2 X1 hx hZ hown (host := "") (Or.inl (wdi hw)) Via.refl e1 Sta1 (g := (mkF m 37 #[oR a14_0] [])) rfl (hb hby ddM)
 obtain ⟨T3, X3, e3, st3⟩ := getS2 X2 hx hZ hown (host := "") (Or.inl (wdi hw)) Via.refl e2 Sta1 (g := (mkF m 70 #[oR a14_0] [])) rfl (hb hby ddO)
 obtain ⟨fs, hr, hrun, hended, hW, hsame⟩ := X3.leave (v := none) (fun _ => rfl)
 refine ⟨_, _, pre0 _ ?_, hrun, hended, _, _, rfl, ?_, ⟨_, rfl⟩, hW, hsame.mono (by decide) (by decide)⟩
 · show Steps p.tables e below (s₁.setTop (mkF m 0 #[oR a14_0] [])) _
   refine st1 _ ?_
   show Steps p.tables e below (T1.setTop (mkF m 3 #[oR a14_0] [(.int 1)])) _
   refine XS.ifYes X1.here hx rfl (pc0 := 3) (pc' := 37) rfl (hb hby ddL) rfl ((if0 _ _).trans (feq (by decide : ¬ ((1 : Int32) = (0 : Int32)))).2) (by decide) (by decide) ?_
   refine st2 _ ?_
   show Steps p.tables e below (T2.setTop (mkF m 40 #[oR a14_0] [(.int 1)])) _
   refine XS.ifYes X2.here hx rfl (pc0 := 40) (pc' := 70) rfl (hb hby ddN) rfl ((if0 _ _).trans (feq (by decide : ¬ ((1 : Int32) = (0 : Int32)))).2) (by decide) (by decide) ?_
   refine st3 _ ?_
   show Steps p.tables e below (T3.setTop (mkF m 73 #[oR a14_0] [(.int 1)])) _
   refine XS.ifYes X3.here hx rfl (pc0 := 73) (pc' := 110) rfl (hb hby ddP) rfl ((if0 _ _).trans (feq (by decide : ¬ ((1 : Int32) = (0 : Int32)))).2) (by decide) (by decide) ?_
   show Steps p.tables e below (T3.setTop (mkF m 110 #[oR a14_0] [])) _
   exact X3.returnOut hx Bd.returns (hb hby ddK) hr
 · show Q_rm14 Z a14_0 h0 n0 _ T3.heap _
   rw [e3]
   exact ⟨rfl, N0, rfl⟩
theorem doG : oDe oc7 0 (.iload_n 0) 1:=by decide+kernel
theorem doH : oDe oc7 1 (.bipush 6) 2:=by decide+kernel
theorem doI : oDe oc7 3 (.ishr) 1:=by decide+kernel
theorem doJ : oDe oc7 4 (.ireturn) 1:=by decide+kernel
theorem pn_7 : plainName oB = true := by first | (simp [plainName, overriddenIn]; done) | decide +kernel
theorem fa3 (m : MethodId) (y0 : Int32) : entryFrame m #[(.int y0)] 1 = mkF m 0 #[oI y0] [] := by first | (simp [entryFrame, mkF, argsToLocals, Value.category]; done) | rfl
def Q_rm7 (Z : State) (p7_0 : Int32) (h0 : Heap) (n0 : Nat) (v : Option Value) (h : Heap) (L : List Loc) : Prop := v = some (.int (p7_0 >>> ((6 : Int32) &&& 31))) ∧ Fr n0 L ∧ h = h0
theorem rm7 (hw : own_T Z a0) (ws : List Jvm.Cond) (p7_0 : Int32) (h0 : Heap) (n0 : Nat) (Z0 : n0 ≤ h0.size) :
   MetFree l (⟨oB, "wordIndex", "(I)I"⟩ : MethodName) (head1 (Jvm.Cond.code (⟨oB, "wordIndex", "(I)I"⟩ : MethodName) oc7 1 (some .int) :: ws) (oRm 0 0 0 0)) (fun a U => a = #[(.int p7_0)] ∧ Z.Warmed39 U.vm ∧ U.heap = h0) (fun _ _ _ _ _ => True) (fun _ U o U' => ∃ v L, o = .returned v ∧ Q_rm7 Z p7_0 h0 n0 v U'.heap L ∧ FrameEnd U o U' L (oRm 0 0 0 0).cells (oRm 0 0 0 0).slots) := by
 refine MetFree.of_bodySF (plainFor_of_name pn_7) hisR ?_
 intro p e s m args below meth c s₁ Bd hml0 hP hK
 obtain ⟨rfl, hZ, hh⟩ := hP
 have hx := Bd.exec
 have hby := Bd.bytes
 have hml : c.maxLocals = 1 := hml0
 have hown : s.vm.findClass oB = some m.cls := findClass_of_methodNamed Bd.named
 have hnm := (name_of_methodNamed Bd.named Bd.method).1
 have X0 : Stand p l e (oRm 0 0 0 0) s m #[(.int p7_0)] below meth c s₁ [] 0 0 := Stand.of_body Bd
 have e0 : s₁.heap = h0 := by rw [← hh, Bd.state]; rfl
 have N0 := Fr.nil n0
 have pre0 : ∀ t, Steps p.tables e below (s₁.setTop (mkF m 0 #[oI p7_0] [])) t → Steps p.tables e below (s₁.setTop (entryFrame m #[(.int p7_0)] 1)) t := fun t k => castTop (fa3 m p7_0) k
 obtain ⟨fs, hr, hrun, hended, hW, hsame⟩ := X0.leave (v := some (.int (p7_0 >>> ((6 : Int32) &&& 31)))) (fun h => by rw [Bd.returns] at h; cases h)
 refine ⟨_, _, pre0 _ ?_, hrun, hended, _, _, rfl, ?_, ⟨_, rfl⟩, hW, hsame.mono (by decide) (by decide)⟩
 · show Steps p.tables e below (s₁.setTop (mkF m 0 #[oI p7_0] [])) _
   refine XS.iloadN X0.here hx rfl (hb hby doG) rfl ?_
   refine XS.bipush X0.here hx rfl (hb hby doH) ?_
   refine XS.ishr X0.here hx rfl (hb hby doI) rfl ?_
   show Steps p.tables e below (s₁.setTop (mkF m 4 #[oI p7_0] [(.int (p7_0 >>> ((6 : Int32) &&& 31)))])) _
   exact retI X0 hx Bd.returns (hb hby doJ) hr
 · show Q_rm7 Z p7_0 h0 n0 _ s₁.heap _
   rw [e0]
   exact ⟨rfl, N0, rfl⟩
def own_Lo (hB : Heap) (n0 : Nat) (h : Heap) : Prop := ∀ (x : Addr) (c : Cell), x < n0 → hB[x]? = some c → h[x]? = some c
theorem own_Lo.refl (h : Heap) (n0 : Nat) : own_Lo h n0 h := fun _ _ _ q => q
theorem own_Lo.ext {hB h h' : Heap} {n0 : Nat} (L : own_Lo hB n0 h) (E : Ext h h') : own_Lo hB n0 h' := fun x c q r => E.2 x c (L x c q r)
theorem own_Lo.keep {hB h h' : Heap} {n0 : Nat} {ws : List Addr} (L : own_Lo hB n0 h) (K : Keep h h' ws) (g : ∀ x ∈ ws, n0 ≤ x) : own_Lo hB n0 h' := fun x c q r => K.2.1 x c (L x c q r) fun m => absurd q (Nat.not_lt.mpr (g x m))
theorem own_Lo.wr {hB h h' : Heap} {n0 : Nat} {a : Addr} {sl : Nat} {v : Value} (L : own_Lo hB n0 h) (W : Wr h h' a sl v) (g : n0 ≤ a) : own_Lo hB n0 h' := L.keep (Keep.of_wr W) (allS (P := fun x => n0 ≤ x) g all0)
theorem own_Lo.tr {hA hB h : Heap} {n0 : Nat} (L : own_Lo hA n0 hB) (L' : own_Lo hB n0 h) : own_Lo hA n0 h := fun x c q r => L' x c q (L x c q r)
theorem own_Lo.arv {Z : State} {h h' : Heap} {n0 : Nat} {a : Addr} {k : ClassId} {ty : FieldType} {z : Int32} {vs : List Value} {dv : Value} (L : own_Lo h n0 h') (F : Arv Z h a k ty z vs dv) (q : a < n0) : Arv Z h' a k ty z vs dv := by obtain ⟨c, A, r⟩ := F; exact ⟨c, ⟨L a c q A.1, A.2⟩, r⟩
def own_Obj (Z : State) (h : Heap) (n0 : Nat) (a rT rF rO rS rE rW : Addr) (kT kF kO kW : ClassId) (fi en sz : Int32) (bs : Int64) (u sk : Int32) (w : Int64) (n : Int32) (ts fs os : List Value) (hB : Heap) : Prop := Exa Z h a oL ∧ Fld Z h a oL "times" "[J" (.ref rT) ∧ Fld Z h a oL "froms" "[J" (.ref rF) ∧ Fld Z h a oL "totals" "[J" (.ref rO) ∧ Fld Z h a oL "spans" "[J" (.ref rS) ∧ Fld Z h a oL "entries" "Ljava/util/BitSet;" (.ref rE) ∧ Fld Z h a oL "size" "I" (.int sz) ∧ Fld Z h a oL "end" "I" (.int en) ∧ Fld Z h a oL "first" "I" (.int fi) ∧ Fld Z h a oL "base" "J" (.long bs) ∧ Exa Z h rE oB ∧ Fld Z h rE oB "wordsInUse" "I" (.int u) ∧ Fld Z h rE oB "sizeIsSticky" "Z" (.int sk) ∧ Fld Z h rE oB "words" "[J" (.ref rW) ∧ Arv Z h rT kT .long n ts oZ ∧ Arv Z h rF kF .long n fs oZ ∧ Arv Z h rO kO .long n os oZ ∧ Arv Z h rW kW .long (1 : Int32) [(.long w)] oZ ∧ Sta Z h oB "$assertionsDisabled" "Z" (.int 1) ∧ n0 ≤ a ∧ n0 ≤ rT ∧ n0 ≤ rF ∧ n0 ≤ rO ∧ n0 ≤ rS ∧ n0 ≤ rE ∧ n0 ≤ rW ∧ a ≠ rT ∧ a ≠ rF ∧ a ≠ rO ∧ a ≠ rS ∧ a ≠ rE ∧ a ≠ rW ∧ rT ≠ rF ∧ rT ≠ rO ∧ rT ≠ rS ∧ rT ≠ rE ∧ rT ≠ rW ∧ rF ≠ rO ∧ rF ≠ rS ∧ rF ≠ rE ∧ rF ≠ rW ∧ rO ≠ rS ∧ rO ≠ rE ∧ rO ≠ rW ∧ rS ≠ rE ∧ rS ≠ rW ∧ rE ≠ rW ∧ own_Lo hB n0 h
section OwnO
variable {Z : State} {h h' hB : Heap} {n0 : Nat} {a rT rF rO rS rE rW : Addr} {kT kF kO kW : ClassId} {fi en sz fi' en' sz' : Int32} {bs bs' : Int64} {u sk u' sk' : Int32} {w w' : Int64} {n : Int32} {ts fs os ts' fs' os' : List Value}
theorem own_Obj.Ea (O : own_Obj Z h n0 a rT rF rO rS rE rW kT kF kO kW fi en sz bs u sk w n ts fs os hB) : Exa Z h a oL := O.1
theorem own_Obj.Ftimes (O : own_Obj Z h n0 a rT rF rO rS rE rW kT kF kO kW fi en sz bs u sk w n ts fs os hB) : Fld Z h a oL "times" "[J" (.ref rT) := O.2.1
theorem own_Obj.Ffroms (O : own_Obj Z h n0 a rT rF rO rS rE rW kT kF kO kW fi en sz bs u sk w n ts fs os hB) : Fld Z h a oL "froms" "[J" (.ref rF) := O.2.2.1
theorem own_Obj.Ftotals (O : own_Obj Z h n0 a rT rF rO rS rE rW kT kF kO kW fi en sz bs u sk w n ts fs os hB) : Fld Z h a oL "totals" "[J" (.ref rO) := O.2.2.2.1
theorem own_Obj.Fspans (O : own_Obj Z h n0 a rT rF rO rS rE rW kT kF kO kW fi en sz bs u sk w n ts fs os hB) : Fld Z h a oL "spans" "[J" (.ref rS) := O.2.2.2.2.1
theorem own_Obj.Fentries (O : own_Obj Z h n0 a rT rF rO rS rE rW kT kF kO kW fi en sz bs u sk w n ts fs os hB) : Fld Z h a oL "entries" "Ljava/util/BitSet;" (.ref rE) := O.2.2.2.2.2.1
theorem own_Obj.Fsize (O : own_Obj Z h n0 a rT rF rO rS rE rW kT kF kO kW fi en sz bs u sk w n ts fs os hB) : Fld Z h a oL "size" "I" (.int sz) := O.2.2.2.2.2.2.1
theorem own_Obj.Fend (O : own_Obj Z h n0 a rT rF rO rS rE rW kT kF kO kW fi en sz bs u sk w n ts fs os hB) : Fld Z h a oL "end" "I" (.int en) := O.2.2.2.2.2.2.2.1
theorem own_Obj.Ffirst (O : own_Obj Z h n0 a rT rF rO rS rE rW kT kF kO kW fi en sz bs u sk w n ts fs os hB) : Fld Z h a oL "first" "I" (.int fi) := O.2.2.2.2.2.2.2.2.1
theorem own_Obj.Fbase (O : own_Obj Z h n0 a rT rF rO rS rE rW kT kF kO kW fi en sz bs u sk w n ts fs os hB) : Fld Z h a oL "base" "J" (.long bs) := O.2.2.2.2.2.2.2.2.2.1
theorem own_Obj.Ee (O : own_Obj Z h n0 a rT rF rO rS rE rW kT kF kO kW fi en sz bs u sk w n ts fs os hB) : Exa Z h rE oB := O.2.2.2.2.2.2.2.2.2.2.1
theorem own_Obj.BwordsInUse (O : own_Obj Z h n0 a rT rF rO rS rE rW kT kF kO kW fi en sz bs u sk w n ts fs os hB) : Fld Z h rE oB "wordsInUse" "I" (.int u) := O.2.2.2.2.2.2.2.2.2.2.2.1
theorem own_Obj.BsizeIsSticky (O : own_Obj Z h n0 a rT rF rO rS rE rW kT kF kO kW fi en sz bs u sk w n ts fs os hB) : Fld Z h rE oB "sizeIsSticky" "Z" (.int sk) := O.2.2.2.2.2.2.2.2.2.2.2.2.1
theorem own_Obj.Bwords (O : own_Obj Z h n0 a rT rF rO rS rE rW kT kF kO kW fi en sz bs u sk w n ts fs os hB) : Fld Z h rE oB "words" "[J" (.ref rW) := O.2.2.2.2.2.2.2.2.2.2.2.2.2.1
theorem own_Obj.Vt (O : own_Obj Z h n0 a rT rF rO rS rE rW kT kF kO kW fi en sz bs u sk w n ts fs os hB) : Arv Z h rT kT .long n ts oZ := O.2.2.2.2.2.2.2.2.2.2.2.2.2.2.1
theorem own_Obj.Vf (O : own_Obj Z h n0 a rT rF rO rS rE rW kT kF kO kW fi en sz bs u sk w n ts fs os hB) : Arv Z h rF kF .long n fs oZ := O.2.2.2.2.2.2.2.2.2.2.2.2.2.2.2.1
theorem own_Obj.Vo (O : own_Obj Z h n0 a rT rF rO rS rE rW kT kF kO kW fi en sz bs u sk w n ts fs os hB) : Arv Z h rO kO .long n os oZ := O.2.2.2.2.2.2.2.2.2.2.2.2.2.2.2.2.1
theorem own_Obj.Vw (O : own_Obj Z h n0 a rT rF rO rS rE rW kT kF kO kW fi en sz bs u sk w n ts fs os hB) : Arv Z h rW kW .long (1 : Int32) [(.long w)] oZ := O.2.2.2.2.2.2.2.2.2.2.2.2.2.2.2.2.2.1
theorem own_Obj.St (O : own_Obj Z h n0 a rT rF rO rS rE rW kT kF kO kW fi en sz bs u sk w n ts fs os hB) : Sta Z h oB "$assertionsDisabled" "Z" (.int 1) := O.2.2.2.2.2.2.2.2.2.2.2.2.2.2.2.2.2.2.1
theorem own_Obj.ga (O : own_Obj Z h n0 a rT rF rO rS rE rW kT kF kO kW fi en sz bs u sk w n ts fs os hB) : n0 ≤ a := O.2.2.2.2.2.2.2.2.2.2.2.2.2.2.2.2.2.2.2.1
theorem own_Obj.grT (O : own_Obj Z h n0 a rT rF rO rS rE rW kT kF kO kW fi en sz bs u sk w n ts fs os hB) : n0 ≤ rT := O.2.2.2.2.2.2.2.2.2.2.2.2.2.2.2.2.2.2.2.2.1
theorem own_Obj.grF (O : own_Obj Z h n0 a rT rF rO rS rE rW kT kF kO kW fi en sz bs u sk w n ts fs os hB) : n0 ≤ rF := O.2.2.2.2.2.2.2.2.2.2.2.2.2.2.2.2.2.2.2.2.2.1
theorem own_Obj.grO (O : own_Obj Z h n0 a rT rF rO rS rE rW kT kF kO kW fi en sz bs u sk w n ts fs os hB) : n0 ≤ rO := O.2.2.2.2.2.2.2.2.2.2.2.2.2.2.2.2.2.2.2.2.2.2.1
theorem own_Obj.grS (O : own_Obj Z h n0 a rT rF rO rS rE rW kT kF kO kW fi en sz bs u sk w n ts fs os hB) : n0 ≤ rS := O.2.2.2.2.2.2.2.2.2.2.2.2.2.2.2.2.2.2.2.2.2.2.2.1
theorem own_Obj.grE (O : own_Obj Z h n0 a rT rF rO rS rE rW kT kF kO kW fi en sz bs u sk w n ts fs os hB) : n0 ≤ rE := O.2.2.2.2.2.2.2.2.2.2.2.2.2.2.2.2.2.2.2.2.2.2.2.2.1
theorem own_Obj.grW (O : own_Obj Z h n0 a rT rF rO rS rE rW kT kF kO kW fi en sz bs u sk w n ts fs os hB) : n0 ≤ rW := O.2.2.2.2.2.2.2.2.2.2.2.2.2.2.2.2.2.2.2.2.2.2.2.2.2.1
theorem own_Obj.n_a_rT (O : own_Obj Z h n0 a rT rF rO rS rE rW kT kF kO kW fi en sz bs u sk w n ts fs os hB) : a ≠ rT := O.2.2.2.2.2.2.2.2.2.2.2.2.2.2.2.2.2.2.2.2.2.2.2.2.2.2.1
theorem own_Obj.n_a_rF (O : own_Obj Z h n0 a rT rF rO rS rE rW kT kF kO kW fi en sz bs u sk w n ts fs os hB) : a ≠ rF := O.2.2.2.2.2.2.2.2.2.2.2.2.2.2.2.2.2.2.2.2.2.2.2.2.2.2.2.1
theorem own_Obj.n_a_rO (O : own_Obj Z h n0 a rT rF rO rS rE rW kT kF kO kW fi en sz bs u sk w n ts fs os hB) : a ≠ rO := O.2.2.2.2.2.2.2.2.2.2.2.2.2.2.2.2.2.2.2.2.2.2.2.2.2.2.2.2.1
theorem own_Obj.n_a_rS (O : own_Obj Z h n0 a rT rF rO rS rE rW kT kF kO kW fi en sz bs u sk w n ts fs os hB) : a ≠ rS := O.2.2.2.2.2.2.2.2.2.2.2.2.2.2.2.2.2.2.2.2.2.2.2.2.2.2.2.2.2.1
theorem own_Obj.n_a_rE (O : own_Obj Z h n0 a rT rF rO rS rE rW kT kF kO kW fi en sz bs u sk w n ts fs os hB) : a ≠ rE := O.2.2.2.2.2.2.2.2.2.2.2.2.2.2.2.2.2.2.2.2.2.2.2.2.2.2.2.2.2.2.1
theorem own_Obj.n_a_rW (O : own_Obj Z h n0 a rT rF rO rS rE rW kT kF kO kW fi en sz bs u sk w n ts fs os hB) : a ≠ rW := O.2.2.2.2.2.2.2.2.2.2.2.2.2.2.2.2.2.2.2.2.2.2.2.2.2.2.2.2.2.2.2.1
theorem own_Obj.n_rT_rF (O : own_Obj Z h n0 a rT rF rO rS rE rW kT kF kO kW fi en sz bs u sk w n ts fs os hB) : rT ≠ rF := O.2.2.2.2.2.2.2.2.2.2.2.2.2.2.2.2.2.2.2.2.2.2.2.2.2.2.2.2.2.2.2.2.1
theorem own_Obj.n_rT_rO (O : own_Obj Z h n0 a rT rF rO rS rE rW kT kF kO kW fi en sz bs u sk w n ts fs os hB) : rT ≠ rO := O.2.2.2.2.2.2.2.2.2.2.2.2.2.2.2.2.2.2.2.2.2.2.2.2.2.2.2.2.2.2.2.2.2.1
theorem own_Obj.n_rT_rS (O : own_Obj Z h n0 a rT rF rO rS rE rW kT kF kO kW fi en sz bs u sk w n ts fs os hB) : rT ≠ rS := O.2.2.2.2.2.2.2.2.2.2.2.2.2.2.2.2.2.2.2.2.2.2.2.2.2.2.2.2.2.2.2.2.2.2.1
theorem own_Obj.n_rT_rE (O : own_Obj Z h n0 a rT rF rO rS rE rW kT kF kO kW fi en sz bs u sk w n ts fs os hB) : rT ≠ rE := O.2.2.2.2.2.2.2.2.2.2.2.2.2.2.2.2.2.2.2.2.2.2.2.2.2.2.2.2.2.2.2.2.2.2.2.1
theorem own_Obj.n_rT_rW (O : own_Obj Z h n0 a rT rF rO rS rE rW kT kF kO kW fi en sz bs u sk w n ts fs os hB) : rT ≠ rW := O.2.2.2.2.2.2.2.2.2.2.2.2.2.2.2.2.2.2.2.2.2.2.2.2.2.2.2.2.2.2.2.2.2.2.2.2.1
theorem own_Obj.n_rF_rO (O : own_Obj Z h n0 a rT rF rO rS rE rW kT kF kO kW fi en sz bs u sk w n ts fs os hB) : rF ≠ rO := O.2.2.2.2.2.2.2.2.2.2.2.2.2.2.2.2.2.2.2.2.2.2.2.2.2.2.2.2.2.2.2.2.2.2.2.2.2.1
theorem own_Obj.n_rF_rS (O : own_Obj Z h n0 a rT rF rO rS rE rW kT kF kO kW fi en sz bs u sk w n ts fs os hB) : rF ≠ rS := O.2.2.2.2.2.2.2.2.2.2.2.2.2.2.2.2.2.2.2.2.2.2.2.2.2.2.2.2.2.2.2.2.2.2.2.2.2.2.1
theorem own_Obj.n_rF_rE (O : own_Obj Z h n0 a rT rF rO rS rE rW kT kF kO kW fi en sz bs u sk w n ts fs os hB) : rF ≠ rE := O.2.2.2.2.2.2.2.2.2.2.2.2.2.2.2.2.2.2.2.2.2.2.2.2.2.2.2.2.2.2.2.2.2.2.2.2.2.2.2.1
theorem own_Obj.n_rF_rW (O : own_Obj Z h n0 a rT rF rO rS rE rW kT kF kO kW fi en sz bs u sk w n ts fs os hB) : rF ≠ rW := O.2.2.2.2.2.2.2.2.2.2.2.2.2.2.2.2.2.2.2.2.2.2.2.2.2.2.2.2.2.2.2.2.2.2.2.2.2.2.2.2.1
theorem own_Obj.n_rO_rS (O : own_Obj Z h n0 a rT rF rO rS rE rW kT kF kO kW fi en sz bs u sk w n ts fs os hB) : rO ≠ rS := O.2.2.2.2.2.2.2.2.2.2.2.2.2.2.2.2.2.2.2.2.2.2.2.2.2.2.2.2.2.2.2.2.2.2.2.2.2.2.2.2.2.1
theorem own_Obj.n_rO_rE (O : own_Obj Z h n0 a rT rF rO rS rE rW kT kF kO kW fi en sz bs u sk w n ts fs os hB) : rO ≠ rE := O.2.2.2.2.2.2.2.2.2.2.2.2.2.2.2.2.2.2.2.2.2.2.2.2.2.2.2.2.2.2.2.2.2.2.2.2.2.2.2.2.2.2.1
theorem own_Obj.n_rO_rW (O : own_Obj Z h n0 a rT rF rO rS rE rW kT kF kO kW fi en sz bs u sk w n ts fs os hB) : rO ≠ rW := O.2.2.2.2.2.2.2.2.2.2.2.2.2.2.2.2.2.2.2.2.2.2.2.2.2.2.2.2.2.2.2.2.2.2.2.2.2.2.2.2.2.2.2.1
theorem own_Obj.n_rS_rE (O : own_Obj Z h n0 a rT rF rO rS rE rW kT kF kO kW fi en sz bs u sk w n ts fs os hB) : rS ≠ rE := O.2.2.2.2.2.2.2.2.2.2.2.2.2.2.2.2.2.2.2.2.2.2.2.2.2.2.2.2.2.2.2.2.2.2.2.2.2.2.2.2.2.2.2.2.1
theorem own_Obj.n_rS_rW (O : own_Obj Z h n0 a rT rF rO rS rE rW kT kF kO kW fi en sz bs u sk w n ts fs os hB) : rS ≠ rW := O.2.2.2.2.2.2.2.2.2.2.2.2.2.2.2.2.2.2.2.2.2.2.2.2.2.2.2.2.2.2.2.2.2.2.2.2.2.2.2.2.2.2.2.2.2.1
theorem own_Obj.n_rE_rW (O : own_Obj Z h n0 a rT rF rO rS rE rW kT kF kO kW fi en sz bs u sk w n ts fs os hB) : rE ≠ rW := O.2.2.2.2.2.2.2.2.2.2.2.2.2.2.2.2.2.2.2.2.2.2.2.2.2.2.2.2.2.2.2.2.2.2.2.2.2.2.2.2.2.2.2.2.2.2.1
theorem own_Obj.Lo (O : own_Obj Z h n0 a rT rF rO rS rE rW kT kF kO kW fi en sz bs u sk w n ts fs os hB) : own_Lo hB n0 h := O.2.2.2.2.2.2.2.2.2.2.2.2.2.2.2.2.2.2.2.2.2.2.2.2.2.2.2.2.2.2.2.2.2.2.2.2.2.2.2.2.2.2.2.2.2.2.2
theorem own_Obj.hsz (O : own_Obj Z h n0 a rT rF rO rS rE rW kT kF kO kW fi en sz bs u sk w n ts fs os hB) : n0 ≤ h.size := Nat.le_trans O.ga (Nat.le_of_lt O.Ea.lt)
theorem own_Obj.sp (O : own_Obj Z h n0 a rT rF rO rS rE rW kT kF kO kW fi en sz bs u sk w n ts fs os hB) (K : Keep h h' [rS]) (S : own_StK Z h h') : own_Obj Z h' n0 a rT rF rO rS rE rW kT kF kO kW fi en sz bs u sk w n ts fs os hB := ⟨O.Ea.keep K, O.Ftimes.keep K (ninS O.n_a_rS nin0), O.Ffroms.keep K (ninS O.n_a_rS nin0), O.Ftotals.keep K (ninS O.n_a_rS nin0), O.Fspans.keep K (ninS O.n_a_rS nin0), O.Fentries.keep K (ninS O.n_a_rS nin0), O.Fsize.keep K (ninS O.n_a_rS nin0), O.Fend.keep K (ninS O.n_a_rS nin0), O.Ffirst.keep K (ninS O.n_a_rS nin0), O.Fbase.keep K (ninS O.n_a_rS nin0), O.Ee.keep K, O.BwordsInUse.keep K (ninS O.n_rS_rE.symm nin0), O.BsizeIsSticky.keep K (ninS O.n_rS_rE.symm nin0), O.Bwords.keep K (ninS O.n_rS_rE.symm nin0), O.Vt.keep K (ninS O.n_rT_rS nin0), O.Vf.keep K (ninS O.n_rF_rS nin0), O.Vo.keep K (ninS O.n_rO_rS nin0), O.Vw.keep K (ninS O.n_rS_rW.symm nin0), S _ _ _ _ O.St, O.ga, O.grT, O.grF, O.grO, O.grS, O.grE, O.grW, O.n_a_rT, O.n_a_rF, O.n_a_rO, O.n_a_rS, O.n_a_rE, O.n_a_rW, O.n_rT_rF, O.n_rT_rO, O.n_rT_rS, O.n_rT_rE, O.n_rT_rW, O.n_rF_rO, O.n_rF_rS, O.n_rF_rE, O.n_rF_rW, O.n_rO_rS, O.n_rO_rE, O.n_rO_rW, O.n_rS_rE, O.n_rS_rW, O.n_rE_rW, O.Lo.keep K (allS (P := fun x => n0 ≤ x) O.grS all0)⟩
theorem own_Obj.wsp {sl : Nat} {v : Value} (O : own_Obj Z h n0 a rT rF rO rS rE rW kT kF kO kW fi en sz bs u sk w n ts fs os hB) (W : Wr h h' rS sl v) : own_Obj Z h' n0 a rT rF rO rS rE rW kT kF kO kW fi en sz bs u sk w n ts fs os hB := ⟨O.Ea.wr W, O.Ftimes.other W (Or.inl O.n_a_rS), O.Ffroms.other W (Or.inl O.n_a_rS), O.Ftotals.other W (Or.inl O.n_a_rS), O.Fspans.other W (Or.inl O.n_a_rS), O.Fentries.other W (Or.inl O.n_a_rS), O.Fsize.other W (Or.inl O.n_a_rS), O.Fend.other W (Or.inl O.n_a_rS), O.Ffirst.other W (Or.inl O.n_a_rS), O.Fbase.other W (Or.inl O.n_a_rS), O.Ee.wr W, O.BwordsInUse.other W (Or.inl O.n_rS_rE.symm), O.BsizeIsSticky.other W (Or.inl O.n_rS_rE.symm), O.Bwords.other W (Or.inl O.n_rS_rE.symm), O.Vt.other W O.n_rT_rS, O.Vf.other W O.n_rF_rS, O.Vo.other W O.n_rO_rS, O.Vw.other W O.n_rS_rW.symm, O.St.wr W, O.ga, O.grT, O.grF, O.grO, O.grS, O.grE, O.grW, O.n_a_rT, O.n_a_rF, O.n_a_rO, O.n_a_rS, O.n_a_rE, O.n_a_rW, O.n_rT_rF, O.n_rT_rO, O.n_rT_rS, O.n_rT_rE, O.n_rT_rW, O.n_rF_rO, O.n_rF_rS, O.n_rF_rE, O.n_rF_rW, O.n_rO_rS, O.n_rO_rE, O.n_rO_rW, O.n_rS_rE, O.n_rS_rW, O.n_rE_rW, O.Lo.wr W O.grS⟩
theorem own_Obj.bits (O : own_Obj Z h n0 a rT rF rO rS rE rW kT kF kO kW fi en sz bs u sk w n ts fs os hB) (K : Keep h h' [rE, rW]) (S : own_StK Z h h') (Ee : Exa Z h' rE oB) (BwordsInUse : Fld Z h' rE oB "wordsInUse" "I" (.int u')) (BsizeIsSticky : Fld Z h' rE oB "sizeIsSticky" "Z" (.int sk')) (Bwords : Fld Z h' rE oB "words" "[J" (.ref rW)) (Vw : Arv Z h' rW kW .long (1 : Int32) [(.long w')] oZ) : own_Obj Z h' n0 a rT rF rO rS rE rW kT kF kO kW fi en sz bs u' sk' w' n ts fs os hB := ⟨O.Ea.keep K, O.Ftimes.keep K (ninS O.n_a_rE (ninS O.n_a_rW nin0)), O.Ffroms.keep K (ninS O.n_a_rE (ninS O.n_a_rW nin0)), O.Ftotals.keep K (ninS O.n_a_rE (ninS O.n_a_rW nin0)), O.Fspans.keep K (ninS O.n_a_rE (ninS O.n_a_rW nin0)), O.Fentries.keep K (ninS O.n_a_rE (ninS O.n_a_rW nin0)), O.Fsize.keep K (ninS O.n_a_rE (ninS O.n_a_rW nin0)), O.Fend.keep K (ninS O.n_a_rE (ninS O.n_a_rW nin0)), O.Ffirst.keep K (ninS O.n_a_rE (ninS O.n_a_rW nin0)), O.Fbase.keep K (ninS O.n_a_rE (ninS O.n_a_rW nin0)), Ee, BwordsInUse, BsizeIsSticky, Bwords, O.Vt.keep K (ninS O.n_rT_rE (ninS O.n_rT_rW nin0)), O.Vf.keep K (ninS O.n_rF_rE (ninS O.n_rF_rW nin0)), O.Vo.keep K (ninS O.n_rO_rE (ninS O.n_rO_rW nin0)), Vw, S _ _ _ _ O.St, O.ga, O.grT, O.grF, O.grO, O.grS, O.grE, O.grW, O.n_a_rT, O.n_a_rF, O.n_a_rO, O.n_a_rS, O.n_a_rE, O.n_a_rW, O.n_rT_rF, O.n_rT_rO, O.n_rT_rS, O.n_rT_rE, O.n_rT_rW, O.n_rF_rO, O.n_rF_rS, O.n_rF_rE, O.n_rF_rW, O.n_rO_rS, O.n_rO_rE, O.n_rO_rW, O.n_rS_rE, O.n_rS_rW, O.n_rE_rW, O.Lo.keep K (allS (P := fun x => n0 ≤ x) O.grE (allS (P := fun x => n0 ≤ x) O.grW all0))⟩
theorem own_Obj.bits2 (O : own_Obj Z h n0 a rT rF rO rS rE rW kT kF kO kW fi en sz bs u sk w n ts fs os hB) (K : Keep h h' [rW, rE]) (S : own_StK Z h h') (Ee : Exa Z h' rE oB) (BwordsInUse : Fld Z h' rE oB "wordsInUse" "I" (.int u')) (BsizeIsSticky : Fld Z h' rE oB "sizeIsSticky" "Z" (.int sk')) (Bwords : Fld Z h' rE oB "words" "[J" (.ref rW)) (Vw : Arv Z h' rW kW .long (1 : Int32) [(.long w')] oZ) : own_Obj Z h' n0 a rT rF rO rS rE rW kT kF kO kW fi en sz bs u' sk' w' n ts fs os hB := ⟨O.Ea.keep K, O.Ftimes.keep K (ninS O.n_a_rW (ninS O.n_a_rE nin0)), O.Ffroms.keep K (ninS O.n_a_rW (ninS O.n_a_rE nin0)), O.Ftotals.keep K (ninS O.n_a_rW (ninS O.n_a_rE nin0)), O.Fspans.keep K (ninS O.n_a_rW (ninS O.n_a_rE nin0)), O.Fentries.keep K (ninS O.n_a_rW (ninS O.n_a_rE nin0)), O.Fsize.keep K (ninS O.n_a_rW (ninS O.n_a_rE nin0)), O.Fend.keep K (ninS O.n_a_rW (ninS O.n_a_rE nin0)), O.Ffirst.keep K (ninS O.n_a_rW (ninS O.n_a_rE nin0)), O.Fbase.keep K (ninS O.n_a_rW (ninS O.n_a_rE nin0)), Ee, BwordsInUse, BsizeIsSticky, Bwords, O.Vt.keep K (ninS O.n_rT_rW (ninS O.n_rT_rE nin0)), O.Vf.keep K (ninS O.n_rF_rW (ninS O.n_rF_rE nin0)), O.Vo.keep K (ninS O.n_rO_rW (ninS O.n_rO_rE nin0)), Vw, S _ _ _ _ O.St, O.ga, O.grT, O.grF, O.grO, O.grS, O.grE, O.grW, O.n_a_rT, O.n_a_rF, O.n_a_rO, O.n_a_rS, O.n_a_rE, O.n_a_rW, O.n_rT_rF, O.n_rT_rO, O.n_rT_rS, O.n_rT_rE, O.n_rT_rW, O.n_rF_rO, O.n_rF_rS, O.n_rF_rE, O.n_rF_rW, O.n_rO_rS, O.n_rO_rE, O.n_rO_rW, O.n_rS_rE, O.n_rS_rW, O.n_rE_rW, O.Lo.keep K (allS (P := fun x => n0 ≤ x) O.grW (allS (P := fun x => n0 ≤ x) O.grE all0))⟩
theorem own_Obj.bit1 (O : own_Obj Z h n0 a rT rF rO rS rE rW kT kF kO kW fi en sz bs u sk w n ts fs os hB) (K : Keep h h' [rW]) (S : own_StK Z h h') (Vw : Arv Z h' rW kW .long (1 : Int32) [(.long w')] oZ) : own_Obj Z h' n0 a rT rF rO rS rE rW kT kF kO kW fi en sz bs u sk w' n ts fs os hB := ⟨O.Ea.keep K, O.Ftimes.keep K (ninS O.n_a_rW nin0), O.Ffroms.keep K (ninS O.n_a_rW nin0), O.Ftotals.keep K (ninS O.n_a_rW nin0), O.Fspans.keep K (ninS O.n_a_rW nin0), O.Fentries.keep K (ninS O.n_a_rW nin0), O.Fsize.keep K (ninS O.n_a_rW nin0), O.Fend.keep K (ninS O.n_a_rW nin0), O.Ffirst.keep K (ninS O.n_a_rW nin0), O.Fbase.keep K (ninS O.n_a_rW nin0), O.Ee.keep K, O.BwordsInUse.keep K (ninS O.n_rE_rW nin0), O.BsizeIsSticky.keep K (ninS O.n_rE_rW nin0), O.Bwords.keep K (ninS O.n_rE_rW nin0), O.Vt.keep K (ninS O.n_rT_rW nin0), O.Vf.keep K (ninS O.n_rF_rW nin0), O.Vo.keep K (ninS O.n_rO_rW nin0), Vw, S _ _ _ _ O.St, O.ga, O.grT, O.grF, O.grO, O.grS, O.grE, O.grW, O.n_a_rT, O.n_a_rF, O.n_a_rO, O.n_a_rS, O.n_a_rE, O.n_a_rW, O.n_rT_rF, O.n_rT_rO, O.n_rT_rS, O.n_rT_rE, O.n_rT_rW, O.n_rF_rO, O.n_rF_rS, O.n_rF_rE, O.n_rF_rW, O.n_rO_rS, O.n_rO_rE, O.n_rO_rW, O.n_rS_rE, O.n_rS_rW, O.n_rE_rW, O.Lo.keep K (allS (P := fun x => n0 ≤ x) O.grW all0)⟩
theorem own_Obj.setT {sl : Nat} {v : Value} (O : own_Obj Z h n0 a rT rF rO rS rE rW kT kF kO kW fi en sz bs u sk w n ts fs os hB) (W : Wr h h' rT sl v) (A : Arv Z h' rT kT .long n ts' oZ) : own_Obj Z h' n0 a rT rF rO rS rE rW kT kF kO kW fi en sz bs u sk w n ts' fs os hB := ⟨O.Ea.wr W, O.Ftimes.other W (Or.inl O.n_a_rT), O.Ffroms.other W (Or.inl O.n_a_rT), O.Ftotals.other W (Or.inl O.n_a_rT), O.Fspans.other W (Or.inl O.n_a_rT), O.Fentries.other W (Or.inl O.n_a_rT), O.Fsize.other W (Or.inl O.n_a_rT), O.Fend.other W (Or.inl O.n_a_rT), O.Ffirst.other W (Or.inl O.n_a_rT), O.Fbase.other W (Or.inl O.n_a_rT), O.Ee.wr W, O.BwordsInUse.other W (Or.inl O.n_rT_rE.symm), O.BsizeIsSticky.other W (Or.inl O.n_rT_rE.symm), O.Bwords.other W (Or.inl O.n_rT_rE.symm), A, O.Vf.other W O.n_rT_rF.symm, O.Vo.other W O.n_rT_rO.symm, O.Vw.other W O.n_rT_rW.symm, O.St.wr W, O.ga, O.grT, O.grF, O.grO, O.grS, O.grE, O.grW, O.n_a_rT, O.n_a_rF, O.n_a_rO, O.n_a_rS, O.n_a_rE, O.n_a_rW, O.n_rT_rF, O.n_rT_rO, O.n_rT_rS, O.n_rT_rE, O.n_rT_rW, O.n_rF_rO, O.n_rF_rS, O.n_rF_rE, O.n_rF_rW, O.n_rO_rS, O.n_rO_rE, O.n_rO_rW, O.n_rS_rE, O.n_rS_rW, O.n_rE_rW, O.Lo.wr W O.grT⟩
theorem own_Obj.setF {sl : Nat} {v : Value} (O : own_Obj Z h n0 a rT rF rO rS rE rW kT kF kO kW fi en sz bs u sk w n ts fs os hB) (W : Wr h h' rF sl v) (A : Arv Z h' rF kF .long n fs' oZ) : own_Obj Z h' n0 a rT rF rO rS rE rW kT kF kO kW fi en sz bs u sk w n ts fs' os hB := ⟨O.Ea.wr W, O.Ftimes.other W (Or.inl O.n_a_rF), O.Ffroms.other W (Or.inl O.n_a_rF), O.Ftotals.other W (Or.inl O.n_a_rF), O.Fspans.other W (Or.inl O.n_a_rF), O.Fentries.other W (Or.inl O.n_a_rF), O.Fsize.other W (Or.inl O.n_a_rF), O.Fend.other W (Or.inl O.n_a_rF), O.Ffirst.other W (Or.inl O.n_a_rF), O.Fbase.other W (Or.inl O.n_a_rF), O.Ee.wr W, O.BwordsInUse.other W (Or.inl O.n_rF_rE.symm), O.BsizeIsSticky.other W (Or.inl O.n_rF_rE.symm), O.Bwords.other W (Or.inl O.n_rF_rE.symm), O.Vt.other W O.n_rT_rF, A, O.Vo.other W O.n_rF_rO.symm, O.Vw.other W O.n_rF_rW.symm, O.St.wr W, O.ga, O.grT, O.grF, O.grO, O.grS, O.grE, O.grW, O.n_a_rT, O.n_a_rF, O.n_a_rO, O.n_a_rS, O.n_a_rE, O.n_a_rW, O.n_rT_rF, O.n_rT_rO, O.n_rT_rS, O.n_rT_rE, O.n_rT_rW, O.n_rF_rO, O.n_rF_rS, O.n_rF_rE, O.n_rF_rW, O.n_rO_rS, O.n_rO_rE, O.n_rO_rW, O.n_rS_rE, O.n_rS_rW, O.n_rE_rW, O.Lo.wr W O.grF⟩
theorem own_Obj.setO {sl : Nat} {v : Value} (O : own_Obj Z h n0 a rT rF rO rS rE rW kT kF kO kW fi en sz bs u sk w n ts fs os hB) (W : Wr h h' rO sl v) (A : Arv Z h' rO kO .long n os' oZ) : own_Obj Z h' n0 a rT rF rO rS rE rW kT kF kO kW fi en sz bs u sk w n ts fs os' hB := ⟨O.Ea.wr W, O.Ftimes.other W (Or.inl O.n_a_rO), O.Ffroms.other W (Or.inl O.n_a_rO), O.Ftotals.other W (Or.inl O.n_a_rO), O.Fspans.other W (Or.inl O.n_a_rO), O.Fentries.other W (Or.inl O.n_a_rO), O.Fsize.other W (Or.inl O.n_a_rO), O.Fend.other W (Or.inl O.n_a_rO), O.Ffirst.other W (Or.inl O.n_a_rO), O.Fbase.other W (Or.inl O.n_a_rO), O.Ee.wr W, O.BwordsInUse.other W (Or.inl O.n_rO_rE.symm), O.BsizeIsSticky.other W (Or.inl O.n_rO_rE.symm), O.Bwords.other W (Or.inl O.n_rO_rE.symm), O.Vt.other W O.n_rT_rO, O.Vf.other W O.n_rF_rO, A, O.Vw.other W O.n_rO_rW.symm, O.St.wr W, O.ga, O.grT, O.grF, O.grO, O.grS, O.grE, O.grW, O.n_a_rT, O.n_a_rF, O.n_a_rO, O.n_a_rS, O.n_a_rE, O.n_a_rW, O.n_rT_rF, O.n_rT_rO, O.n_rT_rS, O.n_rT_rE, O.n_rT_rW, O.n_rF_rO, O.n_rF_rS, O.n_rF_rE, O.n_rF_rW, O.n_rO_rS, O.n_rO_rE, O.n_rO_rW, O.n_rS_rE, O.n_rS_rW, O.n_rE_rW, O.Lo.wr W O.grO⟩
theorem own_Obj.put_size {v : Value} {a0 : Array Value} (hw : own_T Z a0) (O : own_Obj Z h n0 a rT rF rO rS rE rW kT kF kO kW fi en sz bs u sk w n ts fs os hB) (W : Wr h h' a (Jvm.RoadKit.slotOf Z oL "size" "I") v) (F : Fld Z h' a oL "size" "I" (.int sz')) : own_Obj Z h' n0 a rT rF rO rS rE rW kT kF kO kW fi en sz' bs u sk w n ts fs os hB := ⟨O.Ea.wr W, O.Ftimes.other W (Or.inr (osl oAL .int (wb6 hw) (wcJ hw))), O.Ffroms.other W (Or.inr (osl oAL .int (wb8 hw) (wcJ hw))), O.Ftotals.other W (Or.inr (osl oAL .int (wca hw) (wcJ hw))), O.Fspans.other W (Or.inr (osl oAL .int (wcc hw) (wcJ hw))), O.Fentries.other W (Or.inr (osl oOB .int (wcC hw) (wcJ hw))), F, O.Fend.other W (Or.inr (osl .int .int (wcM hw) (wcJ hw))), O.Ffirst.other W (Or.inr (osl .int .int (wc5 hw) (wcJ hw))), O.Fbase.other W (Or.inr (osl .long .int (waq hw) (wcJ hw))), O.Ee.wr W, O.BwordsInUse.other W (Or.inl O.n_a_rE.symm), O.BsizeIsSticky.other W (Or.inl O.n_a_rE.symm), O.Bwords.other W (Or.inl O.n_a_rE.symm), O.Vt.other W O.n_a_rT.symm, O.Vf.other W O.n_a_rF.symm, O.Vo.other W O.n_a_rO.symm, O.Vw.other W O.n_a_rW.symm, O.St.wr W, O.ga, O.grT, O.grF, O.grO, O.grS, O.grE, O.grW, O.n_a_rT, O.n_a_rF, O.n_a_rO, O.n_a_rS, O.n_a_rE, O.n_a_rW, O.n_rT_rF, O.n_rT_rO, O.n_rT_rS, O.n_rT_rE, O.n_rT_rW, O.n_rF_rO, O.n_rF_rS, O.n_rF_rE, O.n_rF_rW, O.n_rO_rS, O.n_rO_rE, O.n_rO_rW, O.n_rS_rE, O.n_rS_rW, O.n_rE_rW, O.Lo.wr W O.ga⟩
theorem own_Obj.put_end {v : Value} {a0 : Array Value} (hw : own_T Z a0) (O : own_Obj Z h n0 a rT rF rO rS rE rW kT kF kO kW fi en sz bs u sk w n ts fs os hB) (W : Wr h h' a (Jvm.RoadKit.slotOf Z oL "end" "I") v) (F : Fld Z h' a oL "end" "I" (.int en')) : own_Obj Z h' n0 a rT rF rO rS rE rW kT kF kO kW fi en' sz bs u sk w n ts fs os hB := ⟨O.Ea.wr W, O.Ftimes.other W (Or.inr (osl oAL .int (wb6 hw) (wcM hw))), O.Ffroms.other W (Or.inr (osl oAL .int (wb8 hw) (wcM hw))), O.Ftotals.other W (Or.inr (osl oAL .int (wca hw) (wcM hw))), O.Fspans.other W (Or.inr (osl oAL .int (wcc hw) (wcM hw))), O.Fentries.other W (Or.inr (osl oOB .int (wcC hw) (wcM hw))), O.Fsize.other W (Or.inr (osl .int .int (wcJ hw) (wcM hw))), F, O.Ffirst.other W (Or.inr (osl .int .int (wc5 hw) (wcM hw))), O.Fbase.other W (Or.inr (osl .long .int (waq hw) (wcM hw))), O.Ee.wr W, O.BwordsInUse.other W (Or.inl O.n_a_rE.symm), O.BsizeIsSticky.other W (Or.inl O.n_a_rE.symm), O.Bwords.other W (Or.inl O.n_a_rE.symm), O.Vt.other W O.n_a_rT.symm, O.Vf.other W O.n_a_rF.symm, O.Vo.other W O.n_a_rO.symm, O.Vw.other W O.n_a_rW.symm, O.St.wr W, O.ga, O.grT, O.grF, O.grO, O.grS, O.grE, O.grW, O.n_a_rT, O.n_a_rF, O.n_a_rO, O.n_a_rS, O.n_a_rE, O.n_a_rW, O.n_rT_rF, O.n_rT_rO, O.n_rT_rS, O.n_rT_rE, O.n_rT_rW, O.n_rF_rO, O.n_rF_rS, O.n_rF_rE, O.n_rF_rW, O.n_rO_rS, O.n_rO_rE, O.n_rO_rW, O.n_rS_rE, O.n_rS_rW, O.n_rE_rW, O.Lo.wr W O.ga⟩
theorem own_Obj.put_first {v : Value} {a0 : Array Value} (hw : own_T Z a0) (O : own_Obj Z h n0 a rT rF rO rS rE rW kT kF kO kW fi en sz bs u sk w n ts fs os hB) (W : Wr h h' a (Jvm.RoadKit.slotOf Z oL "first" "I") v) (F : Fld Z h' a oL "first" "I" (.int fi')) : own_Obj Z h' n0 a rT rF rO rS rE rW kT kF kO kW fi' en sz bs u sk w n ts fs os hB := ⟨O.Ea.wr W, O.Ftimes.other W (Or.inr (osl oAL .int (wb6 hw) (wc5 hw))), O.Ffroms.other W (Or.inr (osl oAL .int (wb8 hw) (wc5 hw))), O.Ftotals.other W (Or.inr (osl oAL .int (wca hw) (wc5 hw))), O.Fspans.other W (Or.inr (osl oAL .int (wcc hw) (wc5 hw))), O.Fentries.other W (Or.inr (osl oOB .int (wcC hw) (wc5 hw))), O.Fsize.other W (Or.inr (osl .int .int (wcJ hw) (wc5 hw))), O.Fend.other W (Or.inr (osl .int .int (wcM hw) (wc5 hw))), F, O.Fbase.other W (Or.inr (osl .long .int (waq hw) (wc5 hw))), O.Ee.wr W, O.BwordsInUse.other W (Or.inl O.n_a_rE.symm), O.BsizeIsSticky.other W (Or.inl O.n_a_rE.symm), O.Bwords.other W (Or.inl O.n_a_rE.symm), O.Vt.other W O.n_a_rT.symm, O.Vf.other W O.n_a_rF.symm, O.Vo.other W O.n_a_rO.symm, O.Vw.other W O.n_a_rW.symm, O.St.wr W, O.ga, O.grT, O.grF, O.grO, O.grS, O.grE, O.grW, O.n_a_rT, O.n_a_rF, O.n_a_rO, O.n_a_rS, O.n_a_rE, O.n_a_rW, O.n_rT_rF, O.n_rT_rO, O.n_rT_rS, O.n_rT_rE, O.n_rT_rW, O.n_rF_rO, O.n_rF_rS, O.n_rF_rE, O.n_rF_rW, O.n_rO_rS, O.n_rO_rE, O.n_rO_rW, O.n_rS_rE, O.n_rS_rW, O.n_rE_rW, O.Lo.wr W O.ga⟩
theorem own_Obj.put_base {v : Value} {a0 : Array Value} (hw : own_T Z a0) (O : own_Obj Z h n0 a rT rF rO rS rE rW kT kF kO kW fi en sz bs u sk w n ts fs os hB) (W : Wr h h' a (Jvm.RoadKit.slotOf Z oL "base" "J") v) (F : Fld Z h' a oL "base" "J" (.long bs')) : own_Obj Z h' n0 a rT rF rO rS rE rW kT kF kO kW fi en sz bs' u sk w n ts fs os hB := ⟨O.Ea.wr W, O.Ftimes.other W (Or.inr (osl oAL .long (wb6 hw) (waq hw))), O.Ffroms.other W (Or.inr (osl oAL .long (wb8 hw) (waq hw))), O.Ftotals.other W (Or.inr (osl oAL .long (wca hw) (waq hw))), O.Fspans.other W (Or.inr (osl oAL .long (wcc hw) (waq hw))), O.Fentries.other W (Or.inr (osl oOB .long (wcC hw) (waq hw))), O.Fsize.other W (Or.inr (osl .int .long (wcJ hw) (waq hw))), O.Fend.other W (Or.inr (osl .int .long (wcM hw) (waq hw))), O.Ffirst.other W (Or.inr (osl .int .long (wc5 hw) (waq hw))), F, O.Ee.wr W, O.BwordsInUse.other W (Or.inl O.n_a_rE.symm), O.BsizeIsSticky.other W (Or.inl O.n_a_rE.symm), O.Bwords.other W (Or.inl O.n_a_rE.symm), O.Vt.other W O.n_a_rT.symm, O.Vf.other W O.n_a_rF.symm, O.Vo.other W O.n_a_rO.symm, O.Vw.other W O.n_a_rW.symm, O.St.wr W, O.ga, O.grT, O.grF, O.grO, O.grS, O.grE, O.grW, O.n_a_rT, O.n_a_rF, O.n_a_rO, O.n_a_rS, O.n_a_rE, O.n_a_rW, O.n_rT_rF, O.n_rT_rO, O.n_rT_rS, O.n_rT_rE, O.n_rT_rW, O.n_rF_rO, O.n_rF_rS, O.n_rF_rE, O.n_rF_rW, O.n_rO_rS, O.n_rO_rE, O.n_rO_rW, O.n_rS_rE, O.n_rS_rW, O.n_rE_rW, O.Lo.wr W O.ga⟩
end OwnO
def own_near (T x : Int64) : Prop := T.toInt ≤ x.toInt ∧ x.toInt ≤ T.toInt + 64 ∧ T.toInt ≤ 9223372036854775743
theorem own_max : oM.toInt = 9223372036854775807 := by decide
theorem own_nlt {T x y : Int64} (hx : own_near T x) (hy : own_near T y) : (x - y) < oM := by
 obtain ⟨x1, x2, x3⟩ := hx
 obtain ⟨y1, y2, -⟩ := hy
 have q := c_lsub x y
 have r := rng64 (x - y)
 have rx := rng64 x
 have ry := rng64 y
 rw [Int64.lt_iff_toInt_lt, own_max]; omega
theorem own_nM {R x : Int64} (h : R = oM) : ¬ R < x := by
 have r := rng64 x
 rw [h, Int64.lt_iff_toInt_lt, own_max]; omega
theorem own_ltM {R L : Int64} (h : L = oM) (hR : R < oM) : R < L := by rw [h]; exact hR
theorem own_m_c (a b : Int64) : (own_m a b).toInt ≤ a.toInt ∧ (own_m a b).toInt ≤ b.toInt ∧ ((own_m a b).toInt = a.toInt ∨ (own_m a b).toInt = b.toInt) := by
 unfold own_m
 by_cases h : b < a
 · rw [if_pos h]; rw [Int64.lt_iff_toInt_lt] at h; omega
 · rw [if_neg h]; rw [Int64.lt_iff_toInt_lt] at h; omega
theorem own_ml {a b : Int64} (h : a < oM) : own_m a b < oM := by
 have q := own_m_c a b
 rw [Int64.lt_iff_toInt_lt] at h ⊢; omega
theorem own_mr {a b : Int64} (h : b < oM) : own_m a b < oM := by
 have q := own_m_c a b
 rw [Int64.lt_iff_toInt_lt] at h ⊢; omega
theorem own_weak {l : Launch} {x : MethodName} {S : Spec} {P : Array Value → State → Prop} {K : Program → Env → List Frame → State → Array Value → Prop} {Q Q' : Array Value → State → Outcome → State → Prop} (h : MetFree l x S P K Q) (q : ∀ a U o U', Q a U o U' → Q' a U o U') : MetFree l x S P K Q' := by
 intro p e a1 a2 a3 s m args below h1 h2 h3 h4
 obtain ⟨n, o, r1, r2, r3, r4⟩ := h p e a1 a2 a3 s m args below h1 h2 h3 h4
 exact ⟨n, o, r1, r2, r3, q _ _ _ _ r4⟩
theorem paf : parseMethodDescriptor "(I)I" = some ⟨[.int], some .int⟩:=by decide+kernel
theorem dow : oDe oc6 0 (.aload_n 0) 1:=by decide+kernel
theorem dox : oDe oc6 1 (.iload_n 1) 1:=by decide+kernel
theorem doA : oDe oc6 2 (.iconst 1) 1:=by decide+kernel
theorem doB : oDe oc6 3 (.isub) 1:=by decide+kernel
theorem doC : oDe oc6 4 (.invokestatic 52) 3:=by decide+kernel
theorem doD : oDe oc6 7 (.iconst 1) 1:=by decide+kernel
theorem doE : oDe oc6 8 (.iadd) 1:=by decide+kernel
theorem doF : oDe oc6 9 (.newarray .long) 2:=by decide+kernel
theorem doy : oDe oc6 11 (.putfield 11) 3:=by decide+kernel
theorem doz : oDe oc6 14 (.return_) 1:=by decide+kernel
theorem pn_6 : plainName oB = true := by first | (simp [plainName, overriddenIn]; done) | decide +kernel
theorem faZ (m : MethodId) (y0 : Addr) : entryFrame m #[(.ref y0), (.int 64)] 2 = mkF m 0 #[oR y0, oI 64] [] := by first | (simp [entryFrame, mkF, argsToLocals, Value.category]; done) | rfl
def Q_rm6_1 (Z : State) (a6_0 : Addr) (h0 : Heap) (n0 : Nat) (v : Option Value) (h : Heap) (L : List Loc) : Prop := ∃ bx6_0 : Addr, ∃ kx6_0 : ClassId, v = none ∧ Fr n0 L ∧ Keep h0 h [a6_0] ∧ own_StK Z h0 h ∧ h0.size ≤ bx6_0 ∧ Exa Z h a6_0 oB ∧ Fld Z h a6_0 oB "wordsInUse" "I" (.int 0) ∧ Fld Z h a6_0 oB "sizeIsSticky" "Z" (.int 0) ∧ Fld Z h a6_0 oB "words" "[J" (.ref bx6_0) ∧ Arv Z h bx6_0 kx6_0 .long (1 : Int32) [oZ] oZ
theorem rm6_1 (hw : own_T Z a0) (a6_0 : Addr) (h0 : Heap) (n0 : Nat) (Z0 : n0 ≤ h0.size) (E_a : Exa Z h0 a6_0 oB) (F_wordsInUse : Fld Z h0 a6_0 oB "wordsInUse" "I" (.int 0)) (F_sizeIsSticky : Fld Z h0 a6_0 oB "sizeIsSticky" "Z" (.int 0)) (F_words : Fld Z h0 a6_0 oB "words" "[J" .null) (g_a6_0 : n0 ≤ a6_0) :
   own_Met l oy6 oc6 2 none (oRm 1 1 1 13) Z h0 #[(.ref a6_0), (.int 64)] (Q_rm6_1 Z a6_0 h0 n0) := by
 refine own_go hw (plainFor_of_name pn_6) (fun m => faZ m a6_0) fun p e s m below meth c T0 C hret X u => ?_
 have N := Fr.nil n0
 refine sA C X dow ?_
 refine sI C X dox ?_
 refine sC C X doA ?_
 refine sS C X doB ?_
 refine cS C X u (fun ws => rm7 l Z a0 C.w ws (63 : Int32) h0 n0 Z0 ) (W := 1) (wcv C.w) (wcw C.w) (wcx C.w) (wcg C.w) (argsL := [(.int 63)]) (lenOf paf rfl) doC fun _ T1 _ X hQ1 => ?_
 obtain ⟨rfl, Nq1, u⟩ := hQ1
 rw [show ((63 : Int32) >>> ((6 : Int32) &&& 31)) = (0 : Int32) from by decide+kernel]
 refine sC C X doD ?_
 refine sP C X doE ?_
 refine nP C X u (n := 1) 1 [oZ] (wan C.w) doF fun _ h3 k3 b3 g3 X u E3 V_b3 => ?_
 have ne_a6_0_b3 := onm E_a.lt g3
 have sz_b3 : h0.size ≤ b3 := Nat.le_trans (Nat.le_refl _) (Nat.le_of_eq g3.symm)
 have S3 := (own_StK.refl Z h0).ext E3
 have K3 : Keep h0 h3 [a6_0] := (Keep.refl h0 [a6_0]).ext E3
 have f4 := (E_a.ext E3)
 have f5 := (F_words.ext E3)
 refine pF C X u (N.app Nq1) g_a6_0 f5 f4 (ty := (.array .long)) (wcy C.w) (wcA C.w) (wcf C.w) (by decide) doy fun _ h6 _ X u N W6 F6 => ?_
 have S6 := S3.wr W6
 have K6 : Keep h0 h6 [a6_0] := K3.wr W6 (Or.inl (List.mem_of_getElem? (i := 0) rfl))
 have f7 := (f4.wr W6)
 have f8 := ((F_wordsInUse.ext E3).other W6 (Or.inr (osl .int oAL (wcm hw) (wcA hw))))
 have f9 := ((F_sizeIsSticky.ext E3).other W6 (Or.inr (osl .boolean oAL (wcp hw) (wcA hw))))
 have f10 := (V_b3.other W6 ne_a6_0_b3.symm)
 refine rV C X u hret doz ?_
 exact ⟨b3, k3, rfl, N, K6, S6, sz_b3, f7, f8, f9, F6, f10⟩
theorem pah : parseMethodDescriptor "(I)V" = some ⟨[.int], none⟩:=by decide+kernel
theorem doh : oDe oc5 0 (.aload_n 0) 1:=by decide+kernel
theorem doi : oDe oc5 1 (.invokespecial 21) 3:=by decide+kernel
theorem dos : oDe oc5 4 (.aload_n 0) 1:=by decide+kernel
theorem dot : oDe oc5 5 (.iconst 0) 1:=by decide+kernel
theorem dou : oDe oc5 6 (.putfield 7) 3:=by decide+kernel
theorem dov : oDe oc5 9 (.aload_n 0) 1:=by decide+kernel
theorem doj : oDe oc5 10 (.iconst 0) 1:=by decide+kernel
theorem dok : oDe oc5 11 (.putfield 24) 3:=by decide+kernel
theorem dol : oDe oc5 14 (.aload_n 0) 1:=by decide+kernel
theorem dom : oDe oc5 15 (.bipush 64) 2:=by decide+kernel
theorem don : oDe oc5 17 (.invokevirtual 27) 3:=by decide+kernel
theorem doo : oDe oc5 20 (.aload_n 0) 1:=by decide+kernel
theorem dop : oDe oc5 21 (.iconst 0) 1:=by decide+kernel
theorem doq : oDe oc5 22 (.putfield 24) 3:=by decide+kernel
theorem dor : oDe oc5 25 (.return_) 1:=by decide+kernel
theorem pn_5 : plainName oB = true := by first | (simp [plainName, overriddenIn]; done) | decide +kernel
theorem faY (m : MethodId) (y0 : Addr) : entryFrame m #[(.ref y0)] 1 = mkF m 0 #[oR y0] [] := by first | (simp [entryFrame, mkF, argsToLocals, Value.category]; done) | rfl
def Q_rm5_1 (Z : State) (a5_0 : Addr) (h0 : Heap) (n0 : Nat) (v : Option Value) (h : Heap) (L : List Loc) : Prop := ∃ bx5_0 : Addr, ∃ kx5_0 : ClassId, v = none ∧ Fr n0 L ∧ Keep h0 h [a5_0] ∧ own_StK Z h0 h ∧ h0.size ≤ bx5_0 ∧ Exa Z h a5_0 oB ∧ Fld Z h a5_0 oB "wordsInUse" "I" (.int 0) ∧ Fld Z h a5_0 oB "sizeIsSticky" "Z" (.int 0) ∧ Fld Z h a5_0 oB "words" "[J" (.ref bx5_0) ∧ Arv Z h bx5_0 kx5_0 .long (1 : Int32) [oZ] oZ
theorem rm5_1 (hw : own_T Z a0) (a5_0 : Addr) (h0 : Heap) (n0 : Nat) (Z0 : n0 ≤ h0.size) (E_a : Exa Z h0 a5_0 oB) (F_wordsInUse : Fld Z h0 a5_0 oB "wordsInUse" "I" (.int 0)) (F_sizeIsSticky : Fld Z h0 a5_0 oB "sizeIsSticky" "Z" (.int 0)) (F_words : Fld Z h0 a5_0 oB "words" "[J" .null) (g_a5_0 : n0 ≤ a5_0) :
   own_Met l (⟨oB, "<init>", "()V"⟩ : MethodName) oc5 1 none (oRm 2 1 1 26) Z h0 #[(.ref a5_0)] (Q_rm5_1 Z a5_0 h0 n0) := by
 refine own_go hw (plainFor_of_name pn_5) (fun m => faY m a5_0) fun p e s m below meth c T0 C hret X u => ?_
 have N := Fr.nil n0
 refine sA C X doh ?_
 refine iO C X u (W := 0) (wck C.w) (wbZ C.w) (wb4 C.w) doi fun _ X u => ?_
 refine sA C X dos ?_
 refine sC C X dot ?_
 refine pF C X u N g_a5_0 F_wordsInUse E_a (ty := .int) (wcl C.w) (wcm C.w) (wcf C.w) (by decide) dou fun _ h2 _ X u N W2 F2 => ?_
 have S2 := (own_StK.refl Z h0).wr W2
 have K2 : Keep h0 h2 [a5_0] := (Keep.refl h0 [a5_0]).wr W2 (Or.inl (List.mem_of_getElem? (i := 0) rfl))
 refine sA C X dov ?_
 refine sC C X doj ?_
 have f3 := (E_a.wr W2)
 have f4 := (F_sizeIsSticky.other W2 (Or.inr (osl .boolean .int (wcp hw) (wcm hw))))
 refine pF C X u N g_a5_0 f4 f3 (ty := .boolean) (wcn C.w) (wcp C.w) (wcf C.w) (by decide) dok fun _ h5 _ X u N W5 F5 => ?_
 have S5 := S2.wr W5
 have K5 : Keep h0 h5 [a5_0] := K2.wr W5 (Or.inl (List.mem_of_getElem? (i := 0) rfl))
 have Z5 : n0 ≤ h5.size := Nat.le_trans Z0 K5.1
 refine sA C X dol ?_
 refine sB C X dom ?_
 have f6 := (f3.wr W5)
 have f7 := (F2.other W5 (Or.inr (osl .int .boolean (wcm hw) (wcp hw))))
 have f8 := ((F_words.other W2 (Or.inr (osl oAL .int (wcA hw) (wcm hw)))).other W5 (Or.inr (osl oAL .boolean (wcA hw) (wcp hw))))
 refine cP C X u (rm6_1 l Z a0 C.w a5_0 h5 n0 Z5 f6 f7 F5 f8 g_a5_0) f6 (W := 0) (wcq C.w) (wcr C.w) (mvT C.z (wct C.w)) (wcs C.w) (wcu C.w) (wcg C.w) (argsL := [(.int 64)]) (lenOf pah rfl) don fun _ T9 _ X hQ9 => ?_
 obtain ⟨bx6_0_9, kx6_0_9, rfl, Nq9, Kc9, Sc9, P9_0, P9_1, P9_2, P9_3, P9_4, P9_5⟩ := hQ9
 have S9 := S5.tr Sc9
 have K9 : Keep h0 T9.heap [a5_0] := Keep.trans K5 Kc9 (allS (P := fun x => x ∈ ([a5_0] : List Addr) ∨ h0.size ≤ x) (Or.inl (List.mem_of_getElem? (i := 0) rfl)) all0)
 have sz_bx6_0_9 : h0.size ≤ bx6_0_9 := Nat.le_trans K5.1 P9_0
 have ne_a5_0_bx6_0_9 := onk f6.lt P9_0
 refine sA C X doo ?_
 refine sC C X dop ?_
 refine pF C X rfl (N.app Nq9) g_a5_0 P9_3 P9_1 (ty := .boolean) (wcn C.w) (wcp C.w) (wcf C.w) (by decide) doq fun _ h10 _ X u N W10 F10 => ?_
 have S10 := S9.wr W10
 have K10 : Keep h0 h10 [a5_0] := K9.wr W10 (Or.inl (List.mem_of_getElem? (i := 0) rfl))
 have f11 := (P9_1.wr W10)
 have f12 := (P9_2.other W10 (Or.inr (osl .int .boolean (wcm hw) (wcp hw))))
 have f13 := (P9_4.other W10 (Or.inr (osl oAL .boolean (wcA hw) (wcp hw))))
 have f14 := (P9_5.other W10 ne_a5_0_bx6_0_9.symm)
 refine rV C X u hret dor ?_
 exact ⟨bx6_0_9, kx6_0_9, rfl, N, K10, S10, sz_bx6_0_9, f11, f12, F10, f13, f14⟩
theorem pas : parseMethodDescriptor "()V" = some ⟨[], none⟩:=by decide+kernel
def own_G_0_0_0_0 (Z : State) (hB h : Heap) (n0 : Nat) (a : Addr) (bs : Int64) : Prop := ∃ rT : Addr, ∃ rF : Addr, ∃ rO : Addr, ∃ rS : Addr, ∃ rE : Addr, ∃ rW : Addr, ∃ kT : ClassId, ∃ kF : ClassId, ∃ kO : ClassId, ∃ kW : ClassId, own_Obj Z h n0 a rT rF rO rS rE rW kT kF kO kW (0 : Int32) (0 : Int32) (0 : Int32) bs (0 : Int32) (0 : Int32) (0 : Int64) (0 : Int32) [] [] [] hB ∧ own_Sp0 Z h rS
theorem dnT : oDe oc3 0 (.aload_n 0) 1:=by decide+kernel
theorem dnU : oDe oc3 1 (.invokespecial 3) 3:=by decide+kernel
theorem dob : oDe oc3 4 (.aload_n 0) 1:=by decide+kernel
theorem doe : oDe oc3 5 (.iconst 0) 1:=by decide+kernel
theorem dof : oDe oc3 6 (.newarray .long) 2:=by decide+kernel
theorem dog : oDe oc3 8 (.putfield 9) 3:=by decide+kernel
theorem dnV : oDe oc3 11 (.aload_n 0) 1:=by decide+kernel
theorem dnW : oDe oc3 12 (.iconst 0) 1:=by decide+kernel
theorem dnX : oDe oc3 13 (.newarray .long) 2:=by decide+kernel
theorem dnY : oDe oc3 15 (.putfield 15) 3:=by decide+kernel
theorem dnZ : oDe oc3 18 (.aload_n 0) 1:=by decide+kernel
theorem dn0 : oDe oc3 19 (.iconst 0) 1:=by decide+kernel
theorem dn1 : oDe oc3 20 (.newarray .long) 2:=by decide+kernel
theorem dn2 : oDe oc3 22 (.putfield 18) 3:=by decide+kernel
theorem dn3 : oDe oc3 25 (.aload_n 0) 1:=by decide+kernel
theorem dn4 : oDe oc3 26 (.iconst 0) 1:=by decide+kernel
theorem dn5 : oDe oc3 27 (.newarray .long) 2:=by decide+kernel
theorem dn6 : oDe oc3 29 (.putfield 21) 3:=by decide+kernel
theorem dn7 : oDe oc3 32 (.aload_n 0) 1:=by decide+kernel
theorem dn8 : oDe oc3 33 (.new 24) 3:=by decide+kernel
theorem dn9 : oDe oc3 36 (.dup) 1:=by decide+kernel
theorem doa : oDe oc3 37 (.invokespecial 26) 3:=by decide+kernel
theorem doc : oDe oc3 40 (.putfield 27) 3:=by decide+kernel
theorem dod : oDe oc3 43 (.return_) 1:=by decide+kernel
theorem pn_3 : plainName oL = true := by first | (simp [plainName, overriddenIn]; done) | decide +kernel
theorem faQ (m : MethodId) (y0 : Addr) : entryFrame m #[(.ref y0)] 1 = mkF m 0 #[oR y0] [] := by first | (simp [entryFrame, mkF, argsToLocals, Value.category]; done) | rfl
def Q_rm3 (Z : State) (a3_0 : Addr) (hB : Heap) (h0 : Heap) (n0 : Nat) (v : Option Value) (h : Heap) (L : List Loc) : Prop := v = none ∧ Fr n0 L ∧ own_G_0_0_0_0 Z hB h n0 a3_0 (0 : Int64)
theorem rm3 (hw : own_T Z a0) (a3_0 : Addr) (hB : Heap) (h0 : Heap) (n0 : Nat) (Z0 : n0 ≤ h0.size) (E_a : Exa Z h0 a3_0 oL) (F_times : Fld Z h0 a3_0 oL "times" "[J" .null) (F_froms : Fld Z h0 a3_0 oL "froms" "[J" .null) (F_totals : Fld Z h0 a3_0 oL "totals" "[J" .null) (F_spans : Fld Z h0 a3_0 oL "spans" "[J" .null) (F_entries : Fld Z h0 a3_0 oL "entries" "Ljava/util/BitSet;" .null) (F_size : Fld Z h0 a3_0 oL "size" "I" (.int 0)) (F_end : Fld Z h0 a3_0 oL "end" "I" (.int 0)) (F_first : Fld Z h0 a3_0 oL "first" "I" (.int 0)) (F_base : Fld Z h0 a3_0 oL "base" "J" oZ) (Lo0 : own_Lo hB n0 h0) (ga : n0 ≤ a3_0) (Sta0 : Sta Z h0 oB "$assertionsDisabled" "Z" (.int 1)) :
   own_Met l (⟨oL, "<init>", "()V"⟩ : MethodName) oc3 1 none (oRm 3 6 4 40) Z h0 #[(.ref a3_0)] (Q_rm3 Z a3_0 hB h0 n0) := by
 refine own_go hw (plainFor_of_name pn_3) (fun m => faQ m a3_0) fun p e s m below meth c T0 C hret X u => ?_
 have N := Fr.nil n0
 refine sA C X dnT ?_
 refine iO C X u (W := 0) (wbN C.w) (wbZ C.w) (wb4 C.w) dnU fun _ X u => ?_
 refine sA C X dob ?_
 refine sC C X doe ?_
 refine nP C X u (n := 0) 0 [] (wan C.w) dof fun _ h2 k2 b2 g2 X u E2 V_b2 => ?_
 have ne_a3_0_b2 := onm E_a.lt g2
 have g_b2 : n0 ≤ b2 := Nat.le_trans Z0 (Nat.le_of_eq g2.symm)
 have S2 := (own_StK.refl Z h0).ext E2
 have Y2 : h0.size ≤ h2.size := Nat.le_trans (Nat.le_refl _) E2.1
 have f3 := (E_a.ext E2)
 have f4 := (F_times.ext E2)
 refine pF C X u N ga f4 f3 (ty := (.array .long)) (wb5 C.w) (wb6 C.w) (waU C.w) (by decide) dog fun _ h5 _ X u N W5 F5 => ?_
 have S5 := S2.wr W5
 have Y5 := oyw Y2 W5
 refine sA C X dnV ?_
 refine sC C X dnW ?_
 have f6 := (f3.wr W5)
 have f7 := (V_b2.other W5 ne_a3_0_b2.symm)
 refine nP C X u (n := 0) 0 [] (wan C.w) dnX fun _ h8 k8 b8 g8 X u E8 V_b8 => ?_
 have ne_a3_0_b8 := onm f6.lt g8
 have ne_b2_b8 := onm f7.lt g8
 have g_b8 : n0 ≤ b8 := Nat.le_trans (Nat.le_trans Z0 Y5) (Nat.le_of_eq g8.symm)
 have S8 := S5.ext E8
 have Y8 := Nat.le_trans Y5 E8.1
 have f9 := (f6.ext E8)
 have f10 := (((F_froms.ext E2).other W5 (Or.inr (osl oAL oAL (wb8 hw) (wb6 hw)))).ext E8)
 refine pF C X u N ga f10 f9 (ty := (.array .long)) (wb7 C.w) (wb8 C.w) (waU C.w) (by decide) dnY fun _ h11 _ X u N W11 F11 => ?_
 have S11 := S8.wr W11
 have Y11 := oyw Y8 W11
 refine sA C X dnZ ?_
 refine sC C X dn0 ?_
 have f12 := (f9.wr W11)
 have f13 := ((f7.ext E8).other W11 ne_a3_0_b2.symm)
 have f14 := (V_b8.other W11 ne_a3_0_b8.symm)
 refine nP C X u (n := 0) 0 [] (wan C.w) dn1 fun _ h15 k15 b15 g15 X u E15 V_b15 => ?_
 have ne_a3_0_b15 := onm f12.lt g15
 have ne_b2_b15 := onm f13.lt g15
 have ne_b8_b15 := onm f14.lt g15
 have g_b15 : n0 ≤ b15 := Nat.le_trans (Nat.le_trans Z0 Y11) (Nat.le_of_eq g15.symm)
 have S15 := S11.ext E15
 have Y15 := Nat.le_trans Y11 E15.1
 have f16 := (f12.ext E15)
 have f17 := (((((F_totals.ext E2).other W5 (Or.inr (osl oAL oAL (wca hw) (wb6 hw)))).ext E8).other W11 (Or.inr (osl oAL oAL (wca hw) (wb8 hw)))).ext E15)
 refine pF C X u N ga f17 f16 (ty := (.array .long)) (wb9 C.w) (wca C.w) (waU C.w) (by decide) dn2 fun _ h18 _ X u N W18 F18 => ?_
 have S18 := S15.wr W18
 have Y18 := oyw Y15 W18
 refine sA C X dn3 ?_
 refine sC C X dn4 ?_
 have f19 := (f16.wr W18)
 have f20 := ((f13.ext E15).other W18 ne_a3_0_b2.symm)
 have f21 := ((f14.ext E15).other W18 ne_a3_0_b8.symm)
 have f22 := (V_b15.other W18 ne_a3_0_b15.symm)
 refine nP C X u (n := 0) 0 [] (wan C.w) dn5 fun _ h23 k23 b23 g23 X u E23 V_b23 => ?_
 have ne_a3_0_b23 := onm f19.lt g23
 have ne_b2_b23 := onm f20.lt g23
 have ne_b8_b23 := onm f21.lt g23
 have ne_b15_b23 := onm f22.lt g23
 have g_b23 : n0 ≤ b23 := Nat.le_trans (Nat.le_trans Z0 Y18) (Nat.le_of_eq g23.symm)
 have S23 := S18.ext E23
 have Y23 := Nat.le_trans Y18 E23.1
 have f24 := (f19.ext E23)
 have f25 := (((((((F_spans.ext E2).other W5 (Or.inr (osl oAL oAL (wcc hw) (wb6 hw)))).ext E8).other W11 (Or.inr (osl oAL oAL (wcc hw) (wb8 hw)))).ext E15).other W18 (Or.inr (osl oAL oAL (wcc hw) (wca hw)))).ext E23)
 refine pF C X u N ga f25 f24 (ty := (.array .long)) (wcb C.w) (wcc C.w) (waU C.w) (by decide) dn6 fun _ h26 _ X u N W26 F26 => ?_
 have S26 := S23.wr W26
 have Y26 := oyw Y23 W26
 refine sA C X dn7 ?_
 have f27 := (f24.wr W26)
 have f28 := ((f20.ext E23).other W26 ne_a3_0_b2.symm)
 have f29 := ((f21.ext E23).other W26 ne_a3_0_b8.symm)
 have f30 := ((f22.ext E23).other W26 ne_a3_0_b15.symm)
 have f31 := (V_b23.other W26 ne_a3_0_b23.symm)
 refine nO C X u (wce C.w) (wcf C.w) (wcg C.w) dn8 fun _ h32 b32 g32 X u E32 A32 D32 => ?_
 have ne_a3_0_b32 := onm f27.lt g32
 have ne_b2_b32 := onm f28.lt g32
 have ne_b8_b32 := onm f29.lt g32
 have ne_b15_b32 := onm f30.lt g32
 have ne_b23_b32 := onm f31.lt g32
 have F_wordsInUse_b32 : Fld Z h32 b32 oB "wordsInUse" "I" (.int 0) := D32 (Or.inl (wcm hw)) (ty := .int) (by decide)
 have F_sizeIsSticky_b32 : Fld Z h32 b32 oB "sizeIsSticky" "Z" (.int 0) := D32 (Or.inl (wcp hw)) (ty := .boolean) (by decide)
 have F_words_b32 : Fld Z h32 b32 oB "words" "[J" .null := D32 (Or.inl (wcA hw)) (ty := (.array .long)) (by decide)
 have g_b32 : n0 ≤ b32 := Nat.le_trans (Nat.le_trans Z0 Y26) (Nat.le_of_eq g32.symm)
 have S32 := S26.ext E32
 have Y32 := Nat.le_trans Y26 E32.1
 refine sD C X dn9 ?_
 have f34 := (f27.ext E32)
 have f35 := (f28.ext E32)
 have f36 := (f29.ext E32)
 have f37 := (f30.ext E32)
 have f38 := (f31.ext E32)
 refine cI C X u (rm5_1 l Z a0 C.w b32 h32 n0 (Nat.le_trans Z0 Y32) A32 F_wordsInUse_b32 F_sizeIsSticky_b32 F_words_b32 g_b32) (W := 2) (wch C.w) (wci C.w) (wcj C.w) (wcg C.w) (argsL := []) (lenOf pas rfl) doa fun _ T33 _ X hQ33 => ?_
 obtain ⟨bx5_0_33, kx5_0_33, rfl, Nq33, Kc33, Sc33, P33_0, P33_1, P33_2, P33_3, P33_4, P33_5⟩ := hQ33
 have S33 := S32.tr Sc33
 have g_bx5_0_33 : n0 ≤ bx5_0_33 := Nat.le_trans (Nat.le_trans Z0 Y32) P33_0
 have ne_a3_0_bx5_0_33 := onk f34.lt P33_0
 have ne_b2_bx5_0_33 := onk f35.lt P33_0
 have ne_b8_bx5_0_33 := onk f36.lt P33_0
 have ne_b15_bx5_0_33 := onk f37.lt P33_0
 have ne_b23_bx5_0_33 := onk f38.lt P33_0
 have ne_b32_bx5_0_33 := onk A32.lt P33_0
 have f39 := (f34.keep Kc33)
 have f40 := ((((((((((F_entries.ext E2).other W5 (Or.inr (osl oOB oAL (wcC hw) (wb6 hw)))).ext E8).other W11 (Or.inr (osl oOB oAL (wcC hw) (wb8 hw)))).ext E15).other W18 (Or.inr (osl oOB oAL (wcC hw) (wca hw)))).ext E23).other W26 (Or.inr (osl oOB oAL (wcC hw) (wcc hw)))).ext E32).keep Kc33 (ninS ne_a3_0_b32 nin0))
 refine pF C X rfl (N.app Nq33) ga f40 f39 (ty := (.object oB)) (wcB C.w) (wcC C.w) (waU C.w) (by decide) doc fun _ h41 _ X u N W41 F41 => ?_
 have S41 := S33.wr W41
 have f42 := ((f38.keep Kc33 (ninS ne_b23_b32 nin0)).other W41 ne_a3_0_b23.symm)
 have f43 := (f39.wr W41)
 have f44 := (((((((((F5.ext E8).other W11 (Or.inr (osl oAL oAL (wb6 hw) (wb8 hw)))).ext E15).other W18 (Or.inr (osl oAL oAL (wb6 hw) (wca hw)))).ext E23).other W26 (Or.inr (osl oAL oAL (wb6 hw) (wcc hw)))).ext E32).keep Kc33 (ninS ne_a3_0_b32 nin0)).other W41 (Or.inr (osl oAL oOB (wb6 hw) (wcC hw))))
 have f45 := (((((((F11.ext E15).other W18 (Or.inr (osl oAL oAL (wb8 hw) (wca hw)))).ext E23).other W26 (Or.inr (osl oAL oAL (wb8 hw) (wcc hw)))).ext E32).keep Kc33 (ninS ne_a3_0_b32 nin0)).other W41 (Or.inr (osl oAL oOB (wb8 hw) (wcC hw))))
 have f46 := (((((F18.ext E23).other W26 (Or.inr (osl oAL oAL (wca hw) (wcc hw)))).ext E32).keep Kc33 (ninS ne_a3_0_b32 nin0)).other W41 (Or.inr (osl oAL oOB (wca hw) (wcC hw))))
 have f47 := (((F26.ext E32).keep Kc33 (ninS ne_a3_0_b32 nin0)).other W41 (Or.inr (osl oAL oOB (wcc hw) (wcC hw))))
 have f48 := (((((((((((F_size.ext E2).other W5 (Or.inr (osl .int oAL (wcJ hw) (wb6 hw)))).ext E8).other W11 (Or.inr (osl .int oAL (wcJ hw) (wb8 hw)))).ext E15).other W18 (Or.inr (osl .int oAL (wcJ hw) (wca hw)))).ext E23).other W26 (Or.inr (osl .int oAL (wcJ hw) (wcc hw)))).ext E32).keep Kc33 (ninS ne_a3_0_b32 nin0)).other W41 (Or.inr (osl .int oOB (wcJ hw) (wcC hw))))
 have f49 := (((((((((((F_end.ext E2).other W5 (Or.inr (osl .int oAL (wcM hw) (wb6 hw)))).ext E8).other W11 (Or.inr (osl .int oAL (wcM hw) (wb8 hw)))).ext E15).other W18 (Or.inr (osl .int oAL (wcM hw) (wca hw)))).ext E23).other W26 (Or.inr (osl .int oAL (wcM hw) (wcc hw)))).ext E32).keep Kc33 (ninS ne_a3_0_b32 nin0)).other W41 (Or.inr (osl .int oOB (wcM hw) (wcC hw))))
 have f50 := (((((((((((F_first.ext E2).other W5 (Or.inr (osl .int oAL (wc5 hw) (wb6 hw)))).ext E8).other W11 (Or.inr (osl .int oAL (wc5 hw) (wb8 hw)))).ext E15).other W18 (Or.inr (osl .int oAL (wc5 hw) (wca hw)))).ext E23).other W26 (Or.inr (osl .int oAL (wc5 hw) (wcc hw)))).ext E32).keep Kc33 (ninS ne_a3_0_b32 nin0)).other W41 (Or.inr (osl .int oOB (wc5 hw) (wcC hw))))
 have f51 := (((((((((((F_base.ext E2).other W5 (Or.inr (osl .long oAL (waq hw) (wb6 hw)))).ext E8).other W11 (Or.inr (osl .long oAL (waq hw) (wb8 hw)))).ext E15).other W18 (Or.inr (osl .long oAL (waq hw) (wca hw)))).ext E23).other W26 (Or.inr (osl .long oAL (waq hw) (wcc hw)))).ext E32).keep Kc33 (ninS ne_a3_0_b32 nin0)).other W41 (Or.inr (osl .long oOB (waq hw) (wcC hw))))
 have f52 := (P33_1.wr W41)
 have f53 := (P33_2.other W41 (Or.inl ne_a3_0_b32.symm))
 have f54 := (P33_3.other W41 (Or.inl ne_a3_0_b32.symm))
 have f55 := (P33_4.other W41 (Or.inl ne_a3_0_b32.symm))
 have f56 := ((f35.keep Kc33 (ninS ne_b2_b32 nin0)).other W41 ne_a3_0_b2.symm)
 have f57 := ((f36.keep Kc33 (ninS ne_b8_b32 nin0)).other W41 ne_a3_0_b8.symm)
 have f58 := ((f37.keep Kc33 (ninS ne_b15_b32 nin0)).other W41 ne_a3_0_b15.symm)
 have f59 := (P33_5.other W41 ne_a3_0_bx5_0_33.symm)
 refine rV C X u hret dod ?_
 exact ⟨rfl, N, ⟨b2, b8, b15, b23, b32, bx5_0_33, k2, k8, k15, kx5_0_33, ⟨f43, f44, f45, f46, f47, F41, f48, f49, f50, f51, f52, f53, f54, f55, f56, f57, f58, f59, (S41 _ _ _ _ Sta0), ga, g_b2, g_b8, g_b15, g_b23, g_b32, g_bx5_0_33, ne_a3_0_b2, ne_a3_0_b8, ne_a3_0_b15, ne_a3_0_b23, ne_a3_0_b32, ne_a3_0_bx5_0_33, ne_b2_b8, ne_b2_b15, ne_b2_b23, ne_b2_b32, ne_b2_bx5_0_33, ne_b8_b15, ne_b8_b23, ne_b8_b32, ne_b8_bx5_0_33, ne_b15_b23, ne_b15_b32, ne_b15_bx5_0_33, ne_b23_b32, ne_b23_bx5_0_33, ne_b32_bx5_0_33, (((((((((((Lo0.ext E2).wr W5 ga).ext E8).wr W11 ga).ext E15).wr W18 ga).ext E23).wr W26 ga).ext E32).keep Kc33 (allS (P := fun x => n0 ≤ x) g_b32 all0)).wr W41 ga)⟩, ⟨_, f42⟩⟩⟩
theorem pab : parseMethodDescriptor "(II)I" = some ⟨[.int, .int], some .int⟩:=by decide+kernel
theorem dc5 : oDe oc13 0 (.iload_n 1) 1:=by decide+kernel
theorem dc6 : oDe oc13 1 (.ifCond .ge 30) 3:=by decide+kernel
theorem dc7 : oDe oc13 31 (.aload_n 0) 1:=by decide+kernel
theorem dc8 : oDe oc13 32 (.invokevirtual 56) 3:=by decide+kernel
theorem dc9 : oDe oc13 35 (.iload_n 1) 1:=by decide+kernel
theorem dda : oDe oc13 36 (.invokestatic 52) 3:=by decide+kernel
theorem ddb : oDe oc13 39 (.istore_n 2) 1:=by decide+kernel
theorem ddc : oDe oc13 40 (.iload_n 2) 1:=by decide+kernel
theorem ddd : oDe oc13 41 (.aload_n 0) 1:=by decide+kernel
theorem dde : oDe oc13 42 (.getfield 7) 3:=by decide+kernel
theorem ddf : oDe oc13 45 (.if_icmp .lt 5) 3:=by decide+kernel
theorem ddg : oDe oc13 48 (.iconst (-1)) 1:=by decide+kernel
theorem ddh : oDe oc13 49 (.ireturn) 1:=by decide+kernel
theorem pn_13 : plainName oB = true := by first | (simp [plainName, overriddenIn]; done) | decide +kernel
theorem fap (m : MethodId) (y0 : Addr) : entryFrame m #[(.ref y0), (.int 0)] 5 = mkF m 0 #[oR y0, oI 0, oU, oU, oU] [] := by first | (simp [entryFrame, mkF, argsToLocals, Value.category]; done) | rfl
def Q_rm13_1 (Z : State) (a13_0 ww : Addr) (kw : ClassId) (tw : Int64) (h0 : Heap) (n0 : Nat) (v : Option Value) (h : Heap) (L : List Loc) : Prop := v = some (.int (-1 : Int32)) ∧ Fr n0 L ∧ h = h0
theorem rm13_1 (hw : own_T Z a0) (a13_0 ww : Addr) (kw : ClassId) (tw : Int64) (h0 : Heap) (n0 : Nat) (Z0 : n0 ≤ h0.size) (E_a : Exa Z h0 a13_0 oB) (F_wordsInUse : Fld Z h0 a13_0 oB "wordsInUse" "I" (.int 0)) (F_sizeIsSticky : Fld Z h0 a13_0 oB "sizeIsSticky" "Z" (.int 0)) (F_words : Fld Z h0 a13_0 oB "words" "[J" (.ref ww)) (V_ww : Arv Z h0 ww kw .long (1 : Int32) [(.long tw)] oZ) (Sta1 : Sta Z h0 oB "$assertionsDisabled" "Z" (.int 1)) :
   own_Met l oy13 oc13 5 (some .int) (oRm 1 0 0 12) Z h0 #[(.ref a13_0), (.int 0)] (Q_rm13_1 Z a13_0 ww kw tw h0 n0) := by
 refine own_go hw (plainFor_of_name pn_13) (fun m => fap m a13_0) fun p e s m below meth c T0 C hret X u => ?_
 have N := Fr.nil n0
 refine sI C X dc5 ?_
 refine bY C X dc6 31 (by decide) ?_
 refine sA C X dc7 ?_
 refine cP C X u (fun ws => rm14 l Z a0 C.w ws a13_0 h0 n0 Z0 Sta1) E_a (W := 0) (wdc C.w) (wdd C.w) (mvT C.z (wdf C.w)) (wde C.w) (wdg C.w) (wcg C.w) (argsL := []) (lenOf pas rfl) dc8 fun _ T1 _ X hQ1 => ?_
 obtain ⟨rfl, Nq1, u⟩ := hQ1
 refine sI C X dc9 ?_
 refine cS C X u (fun ws => rm7 l Z a0 C.w ws (0 : Int32) h0 n0 Z0 ) (W := 0) (wcv C.w) (wcw C.w) (wcx C.w) (wcg C.w) (argsL := [(.int 0)]) (lenOf paf rfl) dda fun _ T2 _ X hQ2 => ?_
 obtain ⟨rfl, Nq2, u⟩ := hQ2
 rw [show ((0 : Int32) >>> ((6 : Int32) &&& 31)) = (0 : Int32) from by decide+kernel]
 refine wI C X #[oR a13_0, oI 0, oI 0, oU, oU] ddb ?_
 refine sI C X ddc ?_
 refine gA C X u F_wordsInUse (wcl C.w) ddd dde fun _ X u => ?_
 refine cN C X ddf (by decide) ?_
 refine sC C X ddg ?_
 refine rI C X u hret ddh ?_
 exact ⟨rfl, ((N.app Nq1).app Nq2), rfl⟩
theorem fa0 (m : MethodId) (y0 : Addr) : entryFrame m #[(.ref y0), (.int 2)] 2 = mkF m 0 #[oR y0, oI 2] [] := by first | (simp [entryFrame, mkF, argsToLocals, Value.category]; done) | rfl
def Q_rm6_2 (Z : State) (a6_0 : Addr) (h0 : Heap) (n0 : Nat) (v : Option Value) (h : Heap) (L : List Loc) : Prop := ∃ bx6_0 : Addr, ∃ kx6_0 : ClassId, v = none ∧ Fr n0 L ∧ Keep h0 h [a6_0] ∧ own_StK Z h0 h ∧ h0.size ≤ bx6_0 ∧ Exa Z h a6_0 oB ∧ Fld Z h a6_0 oB "wordsInUse" "I" (.int 0) ∧ Fld Z h a6_0 oB "sizeIsSticky" "Z" (.int 0) ∧ Fld Z h a6_0 oB "words" "[J" (.ref bx6_0) ∧ Arv Z h bx6_0 kx6_0 .long (1 : Int32) [oZ] oZ
theorem rm6_2 (hw : own_T Z a0) (a6_0 : Addr) (h0 : Heap) (n0 : Nat) (Z0 : n0 ≤ h0.size) (E_a : Exa Z h0 a6_0 oB) (F_wordsInUse : Fld Z h0 a6_0 oB "wordsInUse" "I" (.int 0)) (F_sizeIsSticky : Fld Z h0 a6_0 oB "sizeIsSticky" "Z" (.int 0)) (F_words : Fld Z h0 a6_0 oB "words" "[J" .null) (g_a6_0 : n0 ≤ a6_0) :
   own_Met l oy6 oc6 2 none (oRm 1 1 1 13) Z h0 #[(.ref a6_0), (.int 2)] (Q_rm6_2 Z a6_0 h0 n0) := by
 refine own_go hw (plainFor_of_name pn_6) (fun m => fa0 m a6_0) fun p e s m below meth c T0 C hret X u => ?_
 have N := Fr.nil n0
 refine sA C X dow ?_
 refine sI C X dox ?_
 refine sC C X doA ?_
 refine sS C X doB ?_
 refine cS C X u (fun ws => rm7 l Z a0 C.w ws (1 : Int32) h0 n0 Z0 ) (W := 1) (wcv C.w) (wcw C.w) (wcx C.w) (wcg C.w) (argsL := [(.int 1)]) (lenOf paf rfl) doC fun _ T1 _ X hQ1 => ?_
 obtain ⟨rfl, Nq1, u⟩ := hQ1
 rw [show ((1 : Int32) >>> ((6 : Int32) &&& 31)) = (0 : Int32) from by decide+kernel]
 refine sC C X doD ?_
 refine sP C X doE ?_
 refine nP C X u (n := 1) 1 [oZ] (wan C.w) doF fun _ h3 k3 b3 g3 X u E3 V_b3 => ?_
 have ne_a6_0_b3 := onm E_a.lt g3
 have sz_b3 : h0.size ≤ b3 := Nat.le_trans (Nat.le_refl _) (Nat.le_of_eq g3.symm)
 have S3 := (own_StK.refl Z h0).ext E3
 have K3 : Keep h0 h3 [a6_0] := (Keep.refl h0 [a6_0]).ext E3
 have f4 := (E_a.ext E3)
 have f5 := (F_words.ext E3)
 refine pF C X u (N.app Nq1) g_a6_0 f5 f4 (ty := (.array .long)) (wcy C.w) (wcA C.w) (wcf C.w) (by decide) doy fun _ h6 _ X u N W6 F6 => ?_
 have S6 := S3.wr W6
 have K6 : Keep h0 h6 [a6_0] := K3.wr W6 (Or.inl (List.mem_of_getElem? (i := 0) rfl))
 have f7 := (f4.wr W6)
 have f8 := ((F_wordsInUse.ext E3).other W6 (Or.inr (osl .int oAL (wcm hw) (wcA hw))))
 have f9 := ((F_sizeIsSticky.ext E3).other W6 (Or.inr (osl .boolean oAL (wcp hw) (wcA hw))))
 have f10 := (V_b3.other W6 ne_a6_0_b3.symm)
 refine rV C X u hret doz ?_
 exact ⟨b3, k3, rfl, N, K6, S6, sz_b3, f7, f8, f9, F6, f10⟩
theorem ddQ : oDe oc15 0 (.aload_n 0) 1:=by decide+kernel
theorem ddR : oDe oc15 1 (.invokespecial 21) 3:=by decide+kernel
theorem ddW : oDe oc15 4 (.aload_n 0) 1:=by decide+kernel
theorem dd0 : oDe oc15 5 (.iconst 0) 1:=by decide+kernel
theorem dd5 : oDe oc15 6 (.putfield 7) 3:=by decide+kernel
theorem dd6 : oDe oc15 9 (.aload_n 0) 1:=by decide+kernel
theorem ddS : oDe oc15 10 (.iconst 0) 1:=by decide+kernel
theorem ddT : oDe oc15 11 (.putfield 24) 3:=by decide+kernel
theorem ddU : oDe oc15 14 (.iload_n 1) 1:=by decide+kernel
theorem ddV : oDe oc15 15 (.ifCond .ge 30) 3:=by decide+kernel
theorem ddX : oDe oc15 45 (.aload_n 0) 1:=by decide+kernel
theorem ddY : oDe oc15 46 (.iload_n 1) 1:=by decide+kernel
theorem ddZ : oDe oc15 47 (.invokevirtual 27) 3:=by decide+kernel
theorem dd1 : oDe oc15 50 (.aload_n 0) 1:=by decide+kernel
theorem dd2 : oDe oc15 51 (.iconst 1) 1:=by decide+kernel
theorem dd3 : oDe oc15 52 (.putfield 24) 3:=by decide+kernel
theorem dd4 : oDe oc15 55 (.return_) 1:=by decide+kernel
theorem pn_15 : plainName oB = true := by first | (simp [plainName, overriddenIn]; done) | decide +kernel
theorem fau (m : MethodId) (y0 : Addr) : entryFrame m #[(.ref y0), (.int 2)] 2 = mkF m 0 #[oR y0, oI 2] [] := by first | (simp [entryFrame, mkF, argsToLocals, Value.category]; done) | rfl
def Q_rm15_1 (Z : State) (a15_0 : Addr) (h0 : Heap) (n0 : Nat) (v : Option Value) (h : Heap) (L : List Loc) : Prop := ∃ bx15_0 : Addr, ∃ kx15_0 : ClassId, v = none ∧ Fr n0 L ∧ Keep h0 h [a15_0] ∧ own_StK Z h0 h ∧ h0.size ≤ bx15_0 ∧ Exa Z h a15_0 oB ∧ Fld Z h a15_0 oB "wordsInUse" "I" (.int 0) ∧ Fld Z h a15_0 oB "sizeIsSticky" "Z" (.int 1) ∧ Fld Z h a15_0 oB "words" "[J" (.ref bx15_0) ∧ Arv Z h bx15_0 kx15_0 .long (1 : Int32) [oZ] oZ
theorem rm15_1 (hw : own_T Z a0) (a15_0 : Addr) (h0 : Heap) (n0 : Nat) (Z0 : n0 ≤ h0.size) (E_a : Exa Z h0 a15_0 oB) (F_wordsInUse : Fld Z h0 a15_0 oB "wordsInUse" "I" (.int 0)) (F_sizeIsSticky : Fld Z h0 a15_0 oB "sizeIsSticky" "Z" (.int 0)) (F_words : Fld Z h0 a15_0 oB "words" "[J" .null) (g_a15_0 : n0 ≤ a15_0) :
   own_Met l oy15 oc15 2 none (oRm 2 1 1 26) Z h0 #[(.ref a15_0), (.int 2)] (Q_rm15_1 Z a15_0 h0 n0) := by
 refine own_go hw (plainFor_of_name pn_15) (fun m => fau m a15_0) fun p e s m below meth c T0 C hret X u => ?_
 have N := Fr.nil n0
 refine sA C X ddQ ?_
 refine iO C X u (W := 0) (wck C.w) (wbZ C.w) (wb4 C.w) ddR fun _ X u => ?_
 refine sA C X ddW ?_
 refine sC C X dd0 ?_
 refine pF C X u N g_a15_0 F_wordsInUse E_a (ty := .int) (wcl C.w) (wcm C.w) (wcf C.w) (by decide) dd5 fun _ h2 _ X u N W2 F2 => ?_
 have S2 := (own_StK.refl Z h0).wr W2
 have K2 : Keep h0 h2 [a15_0] := (Keep.refl h0 [a15_0]).wr W2 (Or.inl (List.mem_of_getElem? (i := 0) rfl))
 refine sA C X dd6 ?_
 refine sC C X ddS ?_
 have f3 := (E_a.wr W2)
 have f4 := (F_sizeIsSticky.other W2 (Or.inr (osl .boolean .int (wcp hw) (wcm hw))))
 refine pF C X u N g_a15_0 f4 f3 (ty := .boolean) (wcn C.w) (wcp C.w) (wcf C.w) (by decide) ddT fun _ h5 _ X u N W5 F5 => ?_
 have S5 := S2.wr W5
 have K5 : Keep h0 h5 [a15_0] := K2.wr W5 (Or.inl (List.mem_of_getElem? (i := 0) rfl))
 have Z5 : n0 ≤ h5.size := Nat.le_trans Z0 K5.1
 refine sI C X ddU ?_
 refine bY C X ddV 45 (by decide) ?_
 refine sA C X ddX ?_
 refine sI C X ddY ?_
 have f6 := (f3.wr W5)
 have f7 := (F2.other W5 (Or.inr (osl .int .boolean (wcm hw) (wcp hw))))
 have f8 := ((F_words.other W2 (Or.inr (osl oAL .int (wcA hw) (wcm hw)))).other W5 (Or.inr (osl oAL .boolean (wcA hw) (wcp hw))))
 refine cP C X u (rm6_2 l Z a0 C.w a15_0 h5 n0 Z5 f6 f7 F5 f8 g_a15_0) f6 (W := 0) (wcq C.w) (wcr C.w) (mvT C.z (wct C.w)) (wcs C.w) (wcu C.w) (wcg C.w) (argsL := [(.int 2)]) (lenOf pah rfl) ddZ fun _ T9 _ X hQ9 => ?_
 obtain ⟨bx6_0_9, kx6_0_9, rfl, Nq9, Kc9, Sc9, P9_0, P9_1, P9_2, P9_3, P9_4, P9_5⟩ := hQ9
 have S9 := S5.tr Sc9
 have K9 : Keep h0 T9.heap [a15_0] := Keep.trans K5 Kc9 (allS (P := fun x => x ∈ ([a15_0] : List Addr) ∨ h0.size ≤ x) (Or.inl (List.mem_of_getElem? (i := 0) rfl)) all0)
 have sz_bx6_0_9 : h0.size ≤ bx6_0_9 := Nat.le_trans K5.1 P9_0
 have ne_a15_0_bx6_0_9 := onk f6.lt P9_0
 refine sA C X dd1 ?_
 refine sC C X dd2 ?_
 refine pF C X rfl (N.app Nq9) g_a15_0 P9_3 P9_1 (ty := .boolean) (wcn C.w) (wcp C.w) (wcf C.w) (by decide) dd3 fun _ h10 _ X u N W10 F10 => ?_
 have S10 := S9.wr W10
 have K10 : Keep h0 h10 [a15_0] := K9.wr W10 (Or.inl (List.mem_of_getElem? (i := 0) rfl))
 have f11 := (P9_1.wr W10)
 have f12 := (P9_2.other W10 (Or.inr (osl .int .boolean (wcm hw) (wcp hw))))
 have f13 := (P9_4.other W10 (Or.inr (osl oAL .boolean (wcA hw) (wcp hw))))
 have f14 := (P9_5.other W10 ne_a15_0_bx6_0_9.symm)
 refine rV C X u hret dd4 ?_
 exact ⟨bx6_0_9, kx6_0_9, rfl, N, K10, S10, sz_bx6_0_9, f11, f12, F10, f13, f14⟩
theorem deQ : oDe oc17 0 (.iload_n 0) 1:=by decide+kernel
theorem deR : oDe oc17 1 (.ifCond .ge 30) 3:=by decide+kernel
theorem deT : oDe oc17 31 (.iload_n 1) 1:=by decide+kernel
theorem deU : oDe oc17 32 (.ifCond .ge 30) 3:=by decide+kernel
theorem deV : oDe oc17 62 (.iload_n 0) 1:=by decide+kernel
theorem deW : oDe oc17 63 (.iload_n 1) 1:=by decide+kernel
theorem deX : oDe oc17 64 (.if_icmp .le 39) 3:=by decide+kernel
theorem deS : oDe oc17 103 (.return_) 1:=by decide+kernel
theorem pn_17 : plainName oB = true := by first | (simp [plainName, overriddenIn]; done) | decide +kernel
theorem faA (m : MethodId)  : entryFrame m #[(.int 0), (.int 0)] 2 = mkF m 0 #[oI 0, oI 0] [] := by first | (simp [entryFrame, mkF, argsToLocals, Value.category]; done) | rfl
def Q_rm17_1 (Z : State)  (h0 : Heap) (n0 : Nat) (v : Option Value) (h : Heap) (L : List Loc) : Prop := v = none ∧ Fr n0 L ∧ h = h0
theorem rm17_1 (hw : own_T Z a0)  (h0 : Heap) (n0 : Nat) (Z0 : n0 ≤ h0.size) :
   own_Met l oy17 oc17 2 none (oRm 0 0 0 0) Z h0 #[(.int 0), (.int 0)] (Q_rm17_1 Z  h0 n0) := by
 refine own_go hw (plainFor_of_name pn_17) (fun m => faA m) fun p e s m below meth c T0 C hret X u => ?_
 have N := Fr.nil n0
 refine sI C X deQ ?_
 refine bY C X deR 31 (by decide) ?_
 refine sI C X deT ?_
 refine bY C X deU 62 (by decide) ?_
 refine sI C X deV ?_
 refine sI C X deW ?_
 refine cY C X deX 103 (by decide) ?_
 refine rV C X u hret deS ?_
 exact ⟨rfl, N, rfl⟩
theorem pac : parseMethodDescriptor "(II)V" = some ⟨[.int, .int], none⟩:=by decide+kernel
theorem dd7 : oDe oc16 0 (.iload_n 1) 1:=by decide+kernel
theorem dd8 : oDe oc16 1 (.iload_n 2) 1:=by decide+kernel
theorem del : oDe oc16 2 (.invokestatic 161) 3:=by decide+kernel
theorem deC : oDe oc16 5 (.iload_n 1) 1:=by decide+kernel
theorem deJ : oDe oc16 6 (.iload_n 2) 1:=by decide+kernel
theorem deP : oDe oc16 7 (.if_icmp .ne 4) 3:=by decide+kernel
theorem dd9 : oDe oc16 10 (.return_) 1:=by decide+kernel
theorem pn_16 : plainName oB = true := by first | (simp [plainName, overriddenIn]; done) | decide +kernel
theorem fax (m : MethodId) (y0 : Addr) : entryFrame m #[(.ref y0), (.int 0), (.int 0)] 10 = mkF m 0 #[oR y0, oI 0, oI 0, oU, oU, oU, oU, oU, oU, oU] [] := by first | (simp [entryFrame, mkF, argsToLocals, Value.category]; done) | rfl
def Q_rm16_1 (Z : State) (a16_0 ww : Addr) (kw : ClassId) (tw : Int64) (h0 : Heap) (n0 : Nat) (v : Option Value) (h : Heap) (L : List Loc) : Prop := v = none ∧ Fr n0 L ∧ h = h0
theorem rm16_1 (hw : own_T Z a0) (a16_0 ww : Addr) (kw : ClassId) (tw : Int64) (h0 : Heap) (n0 : Nat) (Z0 : n0 ≤ h0.size) (E_a : Exa Z h0 a16_0 oB) (F_wordsInUse : Fld Z h0 a16_0 oB "wordsInUse" "I" (.int 0)) (F_sizeIsSticky : Fld Z h0 a16_0 oB "sizeIsSticky" "Z" (.int 1)) (F_words : Fld Z h0 a16_0 oB "words" "[J" (.ref ww)) (V_ww : Arv Z h0 ww kw .long (1 : Int32) [(.long tw)] oZ) :
   own_Met l oy16 oc16 10 none (oRm 1 0 0 13) Z h0 #[(.ref a16_0), (.int 0), (.int 0)] (Q_rm16_1 Z a16_0 ww kw tw h0 n0) := by
 refine own_go hw (plainFor_of_name pn_16) (fun m => fax m a16_0) fun p e s m below meth c T0 C hret X u => ?_
 have N := Fr.nil n0
 refine sI C X dd7 ?_
 refine sI C X dd8 ?_
 refine cS C X u (rm17_1 l Z a0 C.w  h0 n0 Z0 ) (W := 0) (wdr C.w) (wad C.w) (wae C.w) (wcg C.w) (argsL := [(.int 0), (.int 0)]) (lenOf pac rfl) del fun _ T1 _ X hQ1 => ?_
 obtain ⟨rfl, Nq1, u⟩ := hQ1
 refine sI C X deC ?_
 refine sI C X deJ ?_
 refine cN C X deP (by decide) ?_
 refine rV C X u hret dd9 ?_
 exact ⟨rfl, (N.app Nq1), rfl⟩
theorem dff : oDe oc19 0 (.iload_n 1) 1:=by decide+kernel
theorem dfg : oDe oc19 1 (.iload_n 2) 1:=by decide+kernel
theorem dfh : oDe oc19 2 (.if_icmp .le 44) 3:=by decide+kernel
theorem dfi : oDe oc19 46 (.iload_n 1) 1:=by decide+kernel
theorem dfj : oDe oc19 47 (.ifCond .ge 12) 3:=by decide+kernel
theorem dfk : oDe oc19 59 (.iload_n 2) 1:=by decide+kernel
theorem dfl : oDe oc19 60 (.iload_n 0) 1:=by decide+kernel
theorem dfm : oDe oc19 61 (.if_icmp .le 12) 3:=by decide+kernel
theorem dfn : oDe oc19 73 (.return_) 1:=by decide+kernel
theorem pn_19 : plainName "java/util/Arrays" = true := by first | (simp [plainName, overriddenIn]; done) | decide +kernel
theorem faG (m : MethodId)  : entryFrame m #[(.int 4), (.int 2), (.int 4)] 3 = mkF m 0 #[oI 4, oI 2, oI 4] [] := by first | (simp [entryFrame, mkF, argsToLocals, Value.category]; done) | rfl
def Q_rm19_1 (Z : State)  (h0 : Heap) (n0 : Nat) (v : Option Value) (h : Heap) (L : List Loc) : Prop := v = none ∧ Fr n0 L ∧ h = h0
theorem rm19_1 (hw : own_T Z a0)  (h0 : Heap) (n0 : Nat) (Z0 : n0 ≤ h0.size) :
   own_Met l oy19 oc19 3 none (oRm 0 0 0 0) Z h0 #[(.int 4), (.int 2), (.int 4)] (Q_rm19_1 Z  h0 n0) := by
 refine own_go hw (plainFor_of_name pn_19) (fun m => faG m) fun p e s m below meth c T0 C hret X u => ?_
 have N := Fr.nil n0
 refine sI C X dff ?_
 refine sI C X dfg ?_
 refine cY C X dfh 46 (by decide) ?_
 refine sI C X dfi ?_
 refine bY C X dfj 59 (by decide) ?_
 refine sI C X dfk ?_
 refine sI C X dfl ?_
 refine cY C X dfm 73 (by decide) ?_
 refine rV C X u hret dfn ?_
 exact ⟨rfl, N, rfl⟩
theorem paa : parseMethodDescriptor "(III)V" = some ⟨[.int, .int, .int], none⟩:=by decide+kernel
theorem deY : oDe oc18 0 (.aload_n 0) 1:=by decide+kernel
theorem deZ : oDe oc18 1 (.arraylength) 1:=by decide+kernel
theorem de6 : oDe oc18 2 (.iload_n 1) 1:=by decide+kernel
theorem dfb : oDe oc18 3 (.iload_n 2) 1:=by decide+kernel
theorem dfc : oDe oc18 4 (.invokestatic 13) 3:=by decide+kernel
theorem dfd : oDe oc18 7 (.iload_n 1) 1:=by decide+kernel
theorem dfe : oDe oc18 8 (.istore 5) 2:=by decide+kernel
theorem de0 : oDe oc18 10 (.iload 5) 2:=by decide+kernel
theorem de1 : oDe oc18 12 (.iload_n 2) 1:=by decide+kernel
theorem de2 : oDe oc18 13 (.if_icmp .ge 14) 3:=by decide+kernel
theorem de3 : oDe oc18 16 (.aload_n 0) 1:=by decide+kernel
theorem de4 : oDe oc18 17 (.iload 5) 2:=by decide+kernel
theorem de5 : oDe oc18 19 (.lload_n 3) 1:=by decide+kernel
theorem de7 : oDe oc18 20 (.lastore) 1:=by decide+kernel
theorem de8 : oDe oc18 21 (.iinc 5 1) 3:=by decide+kernel
theorem de9 : oDe oc18 24 (.goto (-14)) 3:=by decide+kernel
theorem dfa : oDe oc18 27 (.return_) 1:=by decide+kernel
theorem pn_18 : plainName "java/util/Arrays" = true := by first | (simp [plainName, overriddenIn]; done) | decide +kernel
theorem faD (m : MethodId) (y0 : Addr) : entryFrame m #[(.ref y0), (.int 2), (.int 4), (.long oM)] 6 = mkF m 0 #[oR y0, oI 2, oI 4, oJ 9223372036854775807, oD, oU] [] := by first | (simp [entryFrame, mkF, argsToLocals, Value.category]; done) | rfl
def Q_rm18_1 (Z : State) (a18_0 : Addr) (kc_a18_0 : ClassId) (t_a18_0_0 t_a18_0_1 t_a18_0_2 t_a18_0_3 : Int64) (h0 : Heap) (n0 : Nat) (v : Option Value) (h : Heap) (L : List Loc) : Prop := v = none ∧ Fr n0 L ∧ Keep h0 h [a18_0] ∧ own_StK Z h0 h ∧ Arv Z h a18_0 kc_a18_0 .long (4 : Int32) [(.long t_a18_0_0), (.long t_a18_0_1), (.long oM), (.long oM)] oZ
theorem rm18_1 (hw : own_T Z a0) (a18_0 : Addr) (kc_a18_0 : ClassId) (t_a18_0_0 t_a18_0_1 t_a18_0_2 t_a18_0_3 : Int64) (h0 : Heap) (n0 : Nat) (Z0 : n0 ≤ h0.size) (V_a18_0 : Arv Z h0 a18_0 kc_a18_0 .long (4 : Int32) [(.long t_a18_0_0), (.long t_a18_0_1), (.long t_a18_0_2), (.long t_a18_0_3)] oZ) (g_a18_0 : n0 ≤ a18_0) :
   own_Met l oy18 oc18 6 none (oRm 1 0 0 14) Z h0 #[(.ref a18_0), (.int 2), (.int 4), (.long oM)] (Q_rm18_1 Z a18_0 kc_a18_0 t_a18_0_0 t_a18_0_1 t_a18_0_2 t_a18_0_3 h0 n0) := by
 refine own_go hw (plainFor_of_name pn_18) (fun m => faD m a18_0) fun p e s m below meth c T0 C hret X u => ?_
 have N := Fr.nil n0
 refine sA C X deY ?_
 refine nA C X u V_a18_0 deZ ?_
 refine sI C X de6 ?_
 refine sI C X dfb ?_
 refine cS C X u (rm19_1 l Z a0 C.w  h0 n0 Z0 ) (W := 0) (wak C.w) (wal C.w) (wam C.w) (wai C.w) (argsL := [(.int 4), (.int 2), (.int 4)]) (lenOf paa rfl) dfc fun _ T1 _ X hQ1 => ?_
 obtain ⟨rfl, Nq1, u⟩ := hQ1
 refine sI C X dfd ?_
 refine wi C X #[oR a18_0, oI 2, oI 4, oJ 9223372036854775807, oD, oI 2] dfe ?_
 refine si C X de0 ?_
 refine sI C X de1 ?_
 refine cN C X de2 (by decide) ?_
 refine sA C X de3 ?_
 refine si C X de4 ?_
 refine sL C X de5 ?_
 refine sJ C X u (N.app Nq1) g_a18_0 V_a18_0 _ de7 fun _ h2 _ X u N W2 V2 => ?_
 have S2 := (own_StK.refl Z h0).wr W2
 have K2 : Keep h0 h2 [a18_0] := (Keep.refl h0 [a18_0]).wr W2 (Or.inl (List.mem_of_getElem? (i := 0) rfl))
 refine wc C X #[oR a18_0, oI 2, oI 4, oJ 9223372036854775807, oD, oI 3] de8 ?_
 refine sG C X de9 10 ?_
 refine si C X de0 ?_
 refine sI C X de1 ?_
 refine cN C X de2 (by decide) ?_
 refine sA C X de3 ?_
 refine si C X de4 ?_
 refine sL C X de5 ?_
 refine sJ C X u N g_a18_0 V2 _ de7 fun _ h3 _ X u N W3 V3 => ?_
 have S3 := S2.wr W3
 have K3 : Keep h0 h3 [a18_0] := K2.wr W3 (Or.inl (List.mem_of_getElem? (i := 0) rfl))
 refine wc C X #[oR a18_0, oI 2, oI 4, oJ 9223372036854775807, oD, oI 4] de8 ?_
 refine sG C X de9 10 ?_
 refine si C X de0 ?_
 refine sI C X de1 ?_
 refine cY C X de2 27 (by decide) ?_
 refine rV C X u hret dfa ?_
 exact ⟨rfl, N, K3, S3, V3⟩
theorem pao : parseMethodDescriptor "([JIIJ)V" = some ⟨[(.array .long), .int, .int, .long], none⟩:=by decide+kernel
theorem paj : parseMethodDescriptor "(JJ)J" = some ⟨[.long, .long], some .long⟩:=by decide+kernel
theorem dah : oDe oc12 0 (.iload_n 1) 1:=by decide+kernel
theorem dai : oDe oc12 1 (.aload_n 0) 1:=by decide+kernel
theorem dbf : oDe oc12 2 (.getfield 9) 3:=by decide+kernel
theorem dcB : oDe oc12 5 (.arraylength) 1:=by decide+kernel
theorem dcH : oDe oc12 6 (.if_icmp .eq 7) 3:=by decide+kernel
theorem dcX : oDe oc12 9 (.iconst 1) 1:=by decide+kernel
theorem daj : oDe oc12 10 (.goto 4) 3:=by decide+kernel
theorem daH : oDe oc12 14 (.istore_n 2) 1:=by decide+kernel
theorem daN : oDe oc12 15 (.iload_n 2) 1:=by decide+kernel
theorem daT : oDe oc12 16 (.ifCond .eq 9) 3:=by decide+kernel
theorem da9 : oDe oc12 19 (.iload_n 1) 1:=by decide+kernel
theorem dbg : oDe oc12 20 (.newarray .long) 2:=by decide+kernel
theorem dbs : oDe oc12 22 (.goto 7) 3:=by decide+kernel
theorem db9 : oDe oc12 29 (.astore_n 3) 1:=by decide+kernel
theorem dcg : oDe oc12 30 (.iload_n 2) 1:=by decide+kernel
theorem dco : oDe oc12 31 (.ifCond .eq 9) 3:=by decide+kernel
theorem dct : oDe oc12 34 (.iload_n 1) 1:=by decide+kernel
theorem dcu : oDe oc12 35 (.newarray .long) 2:=by decide+kernel
theorem dcv : oDe oc12 37 (.goto 7) 3:=by decide+kernel
theorem dcy : oDe oc12 44 (.astore 4) 2:=by decide+kernel
theorem dcz : oDe oc12 46 (.iload_n 2) 1:=by decide+kernel
theorem dcA : oDe oc12 47 (.ifCond .eq 9) 3:=by decide+kernel
theorem dcC : oDe oc12 50 (.iload_n 1) 1:=by decide+kernel
theorem dcD : oDe oc12 51 (.newarray .long) 2:=by decide+kernel
theorem dcE : oDe oc12 53 (.goto 7) 3:=by decide+kernel
theorem dcI : oDe oc12 60 (.astore 5) 2:=by decide+kernel
theorem dcJ : oDe oc12 62 (.iconst 0) 1:=by decide+kernel
theorem dcK : oDe oc12 63 (.istore 6) 2:=by decide+kernel
theorem dcL : oDe oc12 65 (.aload_n 0) 1:=by decide+kernel
theorem dcM : oDe oc12 66 (.getfield 27) 3:=by decide+kernel
theorem dcN : oDe oc12 69 (.aload_n 0) 1:=by decide+kernel
theorem dcO : oDe oc12 70 (.getfield 54) 3:=by decide+kernel
theorem dcP : oDe oc12 73 (.invokevirtual 50) 3:=by decide+kernel
theorem dcQ : oDe oc12 76 (.istore 7) 2:=by decide+kernel
theorem dcR : oDe oc12 78 (.iload 7) 2:=by decide+kernel
theorem dcS : oDe oc12 80 (.ifCond .lt 57) 3:=by decide+kernel
theorem daE : oDe oc12 137 (.aload_n 0) 1:=by decide+kernel
theorem daF : oDe oc12 138 (.aload_n 3) 1:=by decide+kernel
theorem daG : oDe oc12 139 (.putfield 9) 3:=by decide+kernel
theorem daI : oDe oc12 142 (.aload_n 0) 1:=by decide+kernel
theorem daJ : oDe oc12 143 (.aload 4) 2:=by decide+kernel
theorem daK : oDe oc12 145 (.putfield 15) 3:=by decide+kernel
theorem daL : oDe oc12 148 (.aload_n 0) 1:=by decide+kernel
theorem daM : oDe oc12 149 (.aload 5) 2:=by decide+kernel
theorem daO : oDe oc12 151 (.putfield 18) 3:=by decide+kernel
theorem daP : oDe oc12 154 (.iload_n 2) 1:=by decide+kernel
theorem daQ : oDe oc12 155 (.ifCond .eq 27) 3:=by decide+kernel
theorem daR : oDe oc12 158 (.aload_n 0) 1:=by decide+kernel
theorem daS : oDe oc12 159 (.new 24) 3:=by decide+kernel
theorem daU : oDe oc12 162 (.dup) 1:=by decide+kernel
theorem daV : oDe oc12 163 (.iload_n 1) 1:=by decide+kernel
theorem daW : oDe oc12 164 (.invokespecial 105) 3:=by decide+kernel
theorem daX : oDe oc12 167 (.putfield 27) 3:=by decide+kernel
theorem daY : oDe oc12 170 (.aload_n 0) 1:=by decide+kernel
theorem daZ : oDe oc12 171 (.iconst 2) 1:=by decide+kernel
theorem da0 : oDe oc12 172 (.iload_n 1) 1:=by decide+kernel
theorem da1 : oDe oc12 173 (.imul) 1:=by decide+kernel
theorem da2 : oDe oc12 174 (.newarray .long) 2:=by decide+kernel
theorem da3 : oDe oc12 176 (.putfield 21) 3:=by decide+kernel
theorem da4 : oDe oc12 179 (.goto 10) 3:=by decide+kernel
theorem da8 : oDe oc12 189 (.aload_n 0) 1:=by decide+kernel
theorem dba : oDe oc12 190 (.getfield 27) 3:=by decide+kernel
theorem dbb : oDe oc12 193 (.iconst 0) 1:=by decide+kernel
theorem dbc : oDe oc12 194 (.aload_n 0) 1:=by decide+kernel
theorem dbd : oDe oc12 195 (.getfield 31) 3:=by decide+kernel
theorem dbe : oDe oc12 198 (.invokevirtual 109) 3:=by decide+kernel
theorem dbh : oDe oc12 201 (.aload_n 0) 1:=by decide+kernel
theorem dbi : oDe oc12 202 (.iconst 0) 1:=by decide+kernel
theorem dbj : oDe oc12 203 (.putfield 54) 3:=by decide+kernel
theorem dbk : oDe oc12 206 (.aload_n 0) 1:=by decide+kernel
theorem dbl : oDe oc12 207 (.aload_n 0) 1:=by decide+kernel
theorem dbm : oDe oc12 208 (.getfield 31) 3:=by decide+kernel
theorem dbn : oDe oc12 211 (.putfield 35) 3:=by decide+kernel
theorem dbo : oDe oc12 214 (.aload_n 0) 1:=by decide+kernel
theorem dbp : oDe oc12 215 (.getfield 21) 3:=by decide+kernel
theorem dbq : oDe oc12 218 (.iload_n 1) 1:=by decide+kernel
theorem dbr : oDe oc12 219 (.iconst 2) 1:=by decide+kernel
theorem dbt : oDe oc12 220 (.iload_n 1) 1:=by decide+kernel
theorem dbu : oDe oc12 221 (.imul) 1:=by decide+kernel
theorem dbv : oDe oc12 222 (.ldc2_w 65) 3:=by decide+kernel
theorem dbw : oDe oc12 225 (.invokestatic 112) 3:=by decide+kernel
theorem dbx : oDe oc12 228 (.iconst 1) 1:=by decide+kernel
theorem dby : oDe oc12 229 (.istore 7) 2:=by decide+kernel
theorem dbz : oDe oc12 231 (.iload 7) 2:=by decide+kernel
theorem dbA : oDe oc12 233 (.aload_n 0) 1:=by decide+kernel
theorem dbB : oDe oc12 234 (.getfield 31) 3:=by decide+kernel
theorem dbC : oDe oc12 237 (.if_icmp .ge 35) 3:=by decide+kernel
theorem dbY : oDe oc12 272 (.iload_n 1) 1:=by decide+kernel
theorem dbZ : oDe oc12 273 (.iconst 1) 1:=by decide+kernel
theorem db0 : oDe oc12 274 (.isub) 1:=by decide+kernel
theorem db1 : oDe oc12 275 (.istore 7) 2:=by decide+kernel
theorem db2 : oDe oc12 277 (.iload 7) 2:=by decide+kernel
theorem db3 : oDe oc12 279 (.ifCond .le 39) 3:=by decide+kernel
theorem db4 : oDe oc12 282 (.aload_n 0) 1:=by decide+kernel
theorem db5 : oDe oc12 283 (.getfield 21) 3:=by decide+kernel
theorem db6 : oDe oc12 286 (.iload 7) 2:=by decide+kernel
theorem db7 : oDe oc12 288 (.aload_n 0) 1:=by decide+kernel
theorem db8 : oDe oc12 289 (.getfield 21) 3:=by decide+kernel
theorem dca : oDe oc12 292 (.iconst 2) 1:=by decide+kernel
theorem dcb : oDe oc12 293 (.iload 7) 2:=by decide+kernel
theorem dcc : oDe oc12 295 (.imul) 1:=by decide+kernel
theorem dcd : oDe oc12 296 (.laload) 1:=by decide+kernel
theorem dce : oDe oc12 297 (.aload_n 0) 1:=by decide+kernel
theorem dcf : oDe oc12 298 (.getfield 21) 3:=by decide+kernel
theorem dch : oDe oc12 301 (.iconst 2) 1:=by decide+kernel
theorem dci : oDe oc12 302 (.iload 7) 2:=by decide+kernel
theorem dcj : oDe oc12 304 (.imul) 1:=by decide+kernel
theorem dck : oDe oc12 305 (.iconst 1) 1:=by decide+kernel
theorem dcl : oDe oc12 306 (.iadd) 1:=by decide+kernel
theorem dcm : oDe oc12 307 (.laload) 1:=by decide+kernel
theorem dcn : oDe oc12 308 (.invokestatic 101) 3:=by decide+kernel
theorem dcp : oDe oc12 311 (.lastore) 1:=by decide+kernel
theorem dcq : oDe oc12 312 (.iinc 7 (-1)) 3:=by decide+kernel
theorem dcr : oDe oc12 315 (.goto (-38)) 3:=by decide+kernel
theorem dcs : oDe oc12 318 (.return_) 1:=by decide+kernel
theorem pn_12 : plainName oL = true := by first | (simp [plainName, overriddenIn]; done) | decide +kernel
theorem fam (m : MethodId) (y0 : Addr) : entryFrame m #[(.ref y0), (.int 2)] 8 = mkF m 0 #[oR y0, oI 2, oU, oU, oU, oU, oU, oU] [] := by first | (simp [entryFrame, mkF, argsToLocals, Value.category]; done) | rfl
def Q_rm12_1 (Z : State) (a12_0 : Addr) (rT : Addr) (rF : Addr) (rO : Addr) (rS : Addr) (rE : Addr) (rW : Addr) (kT : ClassId) (kF : ClassId) (kO : ClassId) (kW : ClassId) (bs : Int64) (hB : Heap) (h0 : Heap) (n0 : Nat) (v : Option Value) (h : Heap) (L : List Loc) : Prop := v = none ∧ Fr n0 L ∧ ∃ rT' : Addr, ∃ rF' : Addr, ∃ rO' : Addr, ∃ rS' : Addr, ∃ rE' : Addr, ∃ rW' : Addr, ∃ kT' : ClassId, ∃ kF' : ClassId, ∃ kO' : ClassId, ∃ kW' : ClassId, own_Obj Z h n0 a12_0 rT' rF' rO' rS' rE' rW' kT' kF' kO' kW' (0 : Int32) (0 : Int32) (0 : Int32) bs (0 : Int32) (1 : Int32) (0 : Int64) (2 : Int32) [oZ, oZ] [oZ, oZ] [oZ, oZ] hB ∧ own_Sp2 Z h rS' oM oM
theorem rm12_1 (hw : own_T Z a0) (a12_0 rT rF rO rS rE rW : Addr) (kT kF kO kW : ClassId) (bs : Int64) (hB : Heap) (h0 : Heap) (n0 : Nat) (Z0 : n0 ≤ h0.size) (O : own_Obj Z h0 n0 a12_0 rT rF rO rS rE rW kT kF kO kW (0 : Int32) (0 : Int32) (0 : Int32) bs (0 : Int32) (0 : Int32) (0 : Int64) (0 : Int32) [] [] [] hB) (SP : own_Sp0 Z h0 rS) :
   own_Met l oy12 oc12 8 none (oRm 3 6 14 41) Z h0 #[(.ref a12_0), (.int 2)] (Q_rm12_1 Z a12_0 rT rF rO rS rE rW kT kF kO kW bs hB h0 n0) := by
 refine own_go hw (plainFor_of_name pn_12) (fun m => fam m a12_0) fun p e s m below meth c T0 C hret X u => ?_
 have N := Fr.nil n0
 obtain ⟨Ea1, Ftimes1, Ffroms1, Ftotals1, Fspans1, Fentries1, Fsize1, Fend1, Ffirst1, Fbase1, Ee1, BwordsInUse1, BsizeIsSticky1, Bwords1, Vt1, Vf1, Vo1, Vw1, St1, g0_1, g1_1, g2_1, g3_1, g4_1, g5_1, g6_1, n0_1, n1_1, n2_1, n3_1, n4_1, n5_1, n6_1, n7_1, n8_1, n9_1, n10_1, n11_1, n12_1, n13_1, n14_1, n15_1, n16_1, n17_1, n18_1, n19_1, n20_1, Lo1⟩ := O
 refine sI C X dah ?_
 refine gA C X u Ftimes1 (wb5 C.w) dai dbf fun _ X u => ?_
 refine nA C X u Vt1 dcB ?_
 refine cN C X dcH (by decide) ?_
 refine sC C X dcX ?_
 refine sG C X daj 14 ?_
 refine wI C X #[oR a12_0, oI 2, oI 1, oU, oU, oU, oU, oU] daH ?_
 refine sI C X daN ?_
 refine bN C X daT (by decide) ?_
 refine sI C X da9 ?_
 refine nP C X u (n := 2) 2 [oZ, oZ] (wan C.w) dbg fun _ h3 k3 b3 g3 X u E3 V_b3 => ?_
 have ne_a12_0_b3 := onl Ea1.lt (Nat.le_refl _) g3
 have g_b3 : n0 ≤ b3 := Nat.le_trans Z0 (Nat.le_of_eq g3.symm)
 have S3 := (own_StK.refl Z h0).ext E3
 have Y3 : h0.size ≤ h3.size := Nat.le_trans (Nat.le_refl _) E3.1
 refine sG C X dbs 29 ?_
 refine wA C X #[oR a12_0, oI 2, oI 1, oR b3, oU, oU, oU, oU] db9 ?_
 refine sI C X dcg ?_
 refine bN C X dco (by decide) ?_
 refine sI C X dct ?_
 refine nP C X u (n := 2) 2 [oZ, oZ] (wan C.w) dcu fun _ h4 k4 b4 g4 X u E4 V_b4 => ?_
 have ne_a12_0_b4 := onl Ea1.lt Y3 g4
 have ne_b3_b4 := onm V_b3.lt g4
 have g_b4 : n0 ≤ b4 := Nat.le_trans (Nat.le_trans Z0 Y3) (Nat.le_of_eq g4.symm)
 have S4 := S3.ext E4
 have Y4 := Nat.le_trans Y3 E4.1
 refine sG C X dcv 44 ?_
 refine wa C X #[oR a12_0, oI 2, oI 1, oR b3, oR b4, oU, oU, oU] dcy ?_
 refine sI C X dcz ?_
 refine bN C X dcA (by decide) ?_
 refine sI C X dcC ?_
 have f5 := (V_b3.ext E4)
 refine nP C X u (n := 2) 2 [oZ, oZ] (wan C.w) dcD fun _ h6 k6 b6 g6 X u E6 V_b6 => ?_
 have ne_a12_0_b6 := onl Ea1.lt Y4 g6
 have ne_b3_b6 := onm f5.lt g6
 have ne_b4_b6 := onm V_b4.lt g6
 have g_b6 : n0 ≤ b6 := Nat.le_trans (Nat.le_trans Z0 Y4) (Nat.le_of_eq g6.symm)
 have S6 := S4.ext E6
 have Y6 := Nat.le_trans Y4 E6.1
 refine sG C X dcE 60 ?_
 refine wa C X #[oR a12_0, oI 2, oI 1, oR b3, oR b4, oR b6, oU, oU] dcI ?_
 refine sC C X dcJ ?_
 refine wi C X #[oR a12_0, oI 2, oI 1, oR b3, oR b4, oR b6, oI 0, oU] dcK ?_
 have f7 := (((Fentries1.ext E3).ext E4).ext E6)
 refine gA C X u f7 (wcB C.w) dcL dcM fun _ X u => ?_
 have f9 := (((Ffirst1.ext E3).ext E4).ext E6)
 refine gA C X u f9 (wc4 C.w) dcN dcO fun _ X u => ?_
 have f11 := (((Vw1.ext E3).ext E4).ext E6)
 have f12 := (((Ee1.ext E3).ext E4).ext E6)
 have f13 := (((BwordsInUse1.ext E3).ext E4).ext E6)
 have f14 := (((BsizeIsSticky1.ext E3).ext E4).ext E6)
 have f15 := (((Bwords1.ext E3).ext E4).ext E6)
 refine cV C X u (rm13_1 l Z a0 C.w rE rW kW (0 : Int64) h6 n0 (Nat.le_trans Z0 Y6) f12 f13 f14 f15 f11 (S6 _ _ _ _ St1)) f12 (W := 0) (wc7 C.w) (wc8 C.w) (wda C.w) (wc9 C.w) (wdb C.w) (wcg C.w) (argsL := [(.int 0)]) (lenOf paf rfl) dcP fun _ T16 _ X hQ16 => ?_
 obtain ⟨rfl, Nq16, u⟩ := hQ16
 refine wi C X #[oR a12_0, oI 2, oI 1, oR b3, oR b4, oR b6, oI 0, oI (-1)] dcQ ?_
 refine si C X dcR ?_
 refine bY C X dcS 137 (by decide) ?_
 refine sA C X daE ?_
 refine sA C X daF ?_
 have f17 := (((Ea1.ext E3).ext E4).ext E6)
 have f18 := (((Ftimes1.ext E3).ext E4).ext E6)
 refine pF C X u (N.app Nq16) g0_1 f18 f17 (ty := (.array .long)) (wb5 C.w) (wb6 C.w) (waU C.w) (by decide) daG fun _ h19 _ X u N W19 F19 => ?_
 have S19 := S6.wr W19
 have Y19 := oyw Y6 W19
 refine sA C X daI ?_
 refine sa C X daJ ?_
 have f20 := (f17.wr W19)
 have f21 := ((((Ffroms1.ext E3).ext E4).ext E6).other W19 (Or.inr (osl oAL oAL (wb8 hw) (wb6 hw))))
 refine pF C X u N g0_1 f21 f20 (ty := (.array .long)) (wb7 C.w) (wb8 C.w) (waU C.w) (by decide) daK fun _ h22 _ X u N W22 F22 => ?_
 have S22 := S19.wr W22
 have Y22 := oyw Y19 W22
 refine sA C X daL ?_
 refine sa C X daM ?_
 have f23 := (f20.wr W22)
 have f24 := (((((Ftotals1.ext E3).ext E4).ext E6).other W19 (Or.inr (osl oAL oAL (wca hw) (wb6 hw)))).other W22 (Or.inr (osl oAL oAL (wca hw) (wb8 hw))))
 refine pF C X u N g0_1 f24 f23 (ty := (.array .long)) (wb9 C.w) (wca C.w) (waU C.w) (by decide) daO fun _ h25 _ X u N W25 F25 => ?_
 have S25 := S22.wr W25
 have Y25 := oyw Y22 W25
 refine sI C X daP ?_
 refine bN C X daQ (by decide) ?_
 refine sA C X daR ?_
 have f26 := ((((f5.ext E6).other W19 ne_a12_0_b3.symm).other W22 ne_a12_0_b3.symm).other W25 ne_a12_0_b3.symm)
 have f27 := ((((V_b4.ext E6).other W19 ne_a12_0_b4.symm).other W22 ne_a12_0_b4.symm).other W25 ne_a12_0_b4.symm)
 have f28 := (((V_b6.other W19 ne_a12_0_b6.symm).other W22 ne_a12_0_b6.symm).other W25 ne_a12_0_b6.symm)
 refine nO C X u (wce C.w) (wcf C.w) (wcg C.w) daS fun _ h29 b29 g29 X u E29 A29 D29 => ?_
 have ne_a12_0_b29 := onl Ea1.lt Y25 g29
 have ne_b3_b29 := onm f26.lt g29
 have ne_b4_b29 := onm f27.lt g29
 have ne_b6_b29 := onm f28.lt g29
 have F_wordsInUse_b29 : Fld Z h29 b29 oB "wordsInUse" "I" (.int 0) := D29 (Or.inl (wcm hw)) (ty := .int) (by decide)
 have F_sizeIsSticky_b29 : Fld Z h29 b29 oB "sizeIsSticky" "Z" (.int 0) := D29 (Or.inl (wcp hw)) (ty := .boolean) (by decide)
 have F_words_b29 : Fld Z h29 b29 oB "words" "[J" .null := D29 (Or.inl (wcA hw)) (ty := (.array .long)) (by decide)
 have g_b29 : n0 ≤ b29 := Nat.le_trans (Nat.le_trans Z0 Y25) (Nat.le_of_eq g29.symm)
 have S29 := S25.ext E29
 have Y29 := Nat.le_trans Y25 E29.1
 refine sD C X daU ?_
 refine sI C X daV ?_
 have f31 := ((f23.wr W25).ext E29)
 have f38 := (f26.ext E29)
 have f39 := (f27.ext E29)
 have f40 := (f28.ext E29)
 refine cI C X u (rm15_1 l Z a0 C.w b29 h29 n0 (Nat.le_trans Z0 Y29) A29 F_wordsInUse_b29 F_sizeIsSticky_b29 F_words_b29 g_b29) (W := 2) (wdj C.w) (wdk C.w) (wdl C.w) (wcg C.w) (argsL := [(.int 2)]) (lenOf pah rfl) daW fun _ T30 _ X hQ30 => ?_
 obtain ⟨bx15_0_30, kx15_0_30, rfl, Nq30, Kc30, Sc30, P30_0, P30_1, P30_2, P30_3, P30_4, P30_5⟩ := hQ30
 have S30 := S29.tr Sc30
 have Y30 := Nat.le_trans Y29 Kc30.1
 have g_bx15_0_30 : n0 ≤ bx15_0_30 := Nat.le_trans (Nat.le_trans Z0 Y29) P30_0
 have ne_a12_0_bx15_0_30 := onk f31.lt P30_0
 have ne_b3_bx15_0_30 := onk f38.lt P30_0
 have ne_b4_bx15_0_30 := onk f39.lt P30_0
 have ne_b6_bx15_0_30 := onk f40.lt P30_0
 have ne_b29_bx15_0_30 := onk A29.lt P30_0
 have f41 := (f31.keep Kc30)
 have f42 := (((((f7.other W19 (Or.inr (osl oOB oAL (wcC hw) (wb6 hw)))).other W22 (Or.inr (osl oOB oAL (wcC hw) (wb8 hw)))).other W25 (Or.inr (osl oOB oAL (wcC hw) (wca hw)))).ext E29).keep Kc30 (ninS ne_a12_0_b29 nin0))
 refine pF C X rfl (N.app Nq30) g0_1 f42 f41 (ty := (.object oB)) (wcB C.w) (wcC C.w) (waU C.w) (by decide) daX fun _ h43 _ X u N W43 F43 => ?_
 have S43 := S30.wr W43
 have Y43 := oyw Y30 W43
 refine sA C X daY ?_
 refine sC C X daZ ?_
 refine sI C X da0 ?_
 refine sM C X da1 ?_
 have f44 := ((f38.keep Kc30 (ninS ne_b3_b29 nin0)).other W43 ne_a12_0_b3.symm)
 have f45 := ((f39.keep Kc30 (ninS ne_b4_b29 nin0)).other W43 ne_a12_0_b4.symm)
 have f46 := ((f40.keep Kc30 (ninS ne_b6_b29 nin0)).other W43 ne_a12_0_b6.symm)
 have f47 := (P30_1.wr W43)
 have f48 := (P30_5.other W43 ne_a12_0_bx15_0_30.symm)
 refine nP C X u (n := 4) 4 [oZ, oZ, oZ, oZ] (wan C.w) da2 fun _ h49 k49 b49 g49 X u E49 V_b49 => ?_
 have ne_a12_0_b49 := onl Ea1.lt Y43 g49
 have ne_b3_b49 := onm f44.lt g49
 have ne_b4_b49 := onm f45.lt g49
 have ne_b6_b49 := onm f46.lt g49
 have ne_b29_b49 := onm f47.lt g49
 have ne_bx15_0_30_b49 := onm f48.lt g49
 have g_b49 : n0 ≤ b49 := Nat.le_trans (Nat.le_trans Z0 Y43) (Nat.le_of_eq g49.symm)
 have S49 := S43.ext E49
 have Y49 := Nat.le_trans Y43 E49.1
 have f50 := ((f41.wr W43).ext E49)
 have f51 := ((((((((((Fspans1.ext E3).ext E4).ext E6).other W19 (Or.inr (osl oAL oAL (wcc hw) (wb6 hw)))).other W22 (Or.inr (osl oAL oAL (wcc hw) (wb8 hw)))).other W25 (Or.inr (osl oAL oAL (wcc hw) (wca hw)))).ext E29).keep Kc30 (ninS ne_a12_0_b29 nin0)).other W43 (Or.inr (osl oAL oOB (wcc hw) (wcC hw)))).ext E49)
 refine pF C X u N g0_1 f51 f50 (ty := (.array .long)) (wcb C.w) (wcc C.w) (waU C.w) (by decide) da3 fun _ h52 _ X u N W52 F52 => ?_
 have S52 := S49.wr W52
 have Y52 := oyw Y49 W52
 refine sG C X da4 189 ?_
 have f53 := ((F43.ext E49).other W52 (Or.inr (osl oOB oAL (wcC hw) (wcc hw))))
 refine gA C X u f53 (wcB C.w) da8 dba fun _ X u => ?_
 refine sC C X dbb ?_
 have f55 := (((((((((((Fsize1.ext E3).ext E4).ext E6).other W19 (Or.inr (osl .int oAL (wcJ hw) (wb6 hw)))).other W22 (Or.inr (osl .int oAL (wcJ hw) (wb8 hw)))).other W25 (Or.inr (osl .int oAL (wcJ hw) (wca hw)))).ext E29).keep Kc30 (ninS ne_a12_0_b29 nin0)).other W43 (Or.inr (osl .int oOB (wcJ hw) (wcC hw)))).ext E49).other W52 (Or.inr (osl .int oAL (wcJ hw) (wcc hw))))
 refine gA C X u f55 (wcI C.w) dbc dbd fun _ X u => ?_
 have f57 := ((f48.ext E49).other W52 ne_a12_0_bx15_0_30.symm)
 have f58 := ((f47.ext E49).wr W52)
 have f59 := (((P30_2.other W43 (Or.inl ne_a12_0_b29.symm)).ext E49).other W52 (Or.inl ne_a12_0_b29.symm))
 have f60 := (((P30_3.other W43 (Or.inl ne_a12_0_b29.symm)).ext E49).other W52 (Or.inl ne_a12_0_b29.symm))
 have f61 := (((P30_4.other W43 (Or.inl ne_a12_0_b29.symm)).ext E49).other W52 (Or.inl ne_a12_0_b29.symm))
 refine cV C X u (rm16_1 l Z a0 C.w b29 bx15_0_30 kx15_0_30 (0 : Int64) h52 n0 (Nat.le_trans Z0 Y52) f58 f59 f60 f61 f57) f58 (W := 0) (wdm C.w) (wdn C.w) (wdp C.w) (wdo C.w) (wdq C.w) (wcg C.w) (argsL := [(.int 0), (.int 0)]) (lenOf pac rfl) dbe fun _ T62 _ X hQ62 => ?_
 obtain ⟨rfl, Nq62, u⟩ := hQ62
 refine sA C X dbh ?_
 refine sC C X dbi ?_
 have f63 := (f50.wr W52)
 have f64 := ((((((((f9.other W19 (Or.inr (osl .int oAL (wc5 hw) (wb6 hw)))).other W22 (Or.inr (osl .int oAL (wc5 hw) (wb8 hw)))).other W25 (Or.inr (osl .int oAL (wc5 hw) (wca hw)))).ext E29).keep Kc30 (ninS ne_a12_0_b29 nin0)).other W43 (Or.inr (osl .int oOB (wc5 hw) (wcC hw)))).ext E49).other W52 (Or.inr (osl .int oAL (wc5 hw) (wcc hw))))
 refine pF C X u (N.app Nq62) g0_1 f64 f63 (ty := .int) (wc4 C.w) (wc5 C.w) (waU C.w) (by decide) dbj fun _ h65 _ X u N W65 F65 => ?_
 have S65 := S52.wr W65
 refine sA C X dbk ?_
 have f66 := (f55.other W65 (Or.inr (osl .int .int (wcJ hw) (wc5 hw))))
 refine gA C X u f66 (wcI C.w) dbl dbm fun _ X u => ?_
 have f68 := (f63.wr W65)
 have f69 := ((((((((((((Fend1.ext E3).ext E4).ext E6).other W19 (Or.inr (osl .int oAL (wcM hw) (wb6 hw)))).other W22 (Or.inr (osl .int oAL (wcM hw) (wb8 hw)))).other W25 (Or.inr (osl .int oAL (wcM hw) (wca hw)))).ext E29).keep Kc30 (ninS ne_a12_0_b29 nin0)).other W43 (Or.inr (osl .int oOB (wcM hw) (wcC hw)))).ext E49).other W52 (Or.inr (osl .int oAL (wcM hw) (wcc hw)))).other W65 (Or.inr (osl .int .int (wcM hw) (wc5 hw))))
 refine pF C X u N g0_1 f69 f68 (ty := .int) (wcL C.w) (wcM C.w) (waU C.w) (by decide) dbn fun _ h70 _ X u N W70 F70 => ?_
 have S70 := S65.wr W70
 have f71 := (((V_b49.other W52 ne_a12_0_b49.symm).other W65 ne_a12_0_b49.symm).other W70 ne_a12_0_b49.symm)
 have f72 := (f68.wr W70)
 have f73 := (((((((((F19.other W22 (Or.inr (osl oAL oAL (wb6 hw) (wb8 hw)))).other W25 (Or.inr (osl oAL oAL (wb6 hw) (wca hw)))).ext E29).keep Kc30 (ninS ne_a12_0_b29 nin0)).other W43 (Or.inr (osl oAL oOB (wb6 hw) (wcC hw)))).ext E49).other W52 (Or.inr (osl oAL oAL (wb6 hw) (wcc hw)))).other W65 (Or.inr (osl oAL .int (wb6 hw) (wc5 hw)))).other W70 (Or.inr (osl oAL .int (wb6 hw) (wcM hw))))
 have f74 := ((((((((F22.other W25 (Or.inr (osl oAL oAL (wb8 hw) (wca hw)))).ext E29).keep Kc30 (ninS ne_a12_0_b29 nin0)).other W43 (Or.inr (osl oAL oOB (wb8 hw) (wcC hw)))).ext E49).other W52 (Or.inr (osl oAL oAL (wb8 hw) (wcc hw)))).other W65 (Or.inr (osl oAL .int (wb8 hw) (wc5 hw)))).other W70 (Or.inr (osl oAL .int (wb8 hw) (wcM hw))))
 have f75 := (((((((F25.ext E29).keep Kc30 (ninS ne_a12_0_b29 nin0)).other W43 (Or.inr (osl oAL oOB (wca hw) (wcC hw)))).ext E49).other W52 (Or.inr (osl oAL oAL (wca hw) (wcc hw)))).other W65 (Or.inr (osl oAL .int (wca hw) (wc5 hw)))).other W70 (Or.inr (osl oAL .int (wca hw) (wcM hw))))
 have f76 := ((F52.other W65 (Or.inr (osl oAL .int (wcc hw) (wc5 hw)))).other W70 (Or.inr (osl oAL .int (wcc hw) (wcM hw))))
 have f77 := ((f53.other W65 (Or.inr (osl oOB .int (wcC hw) (wc5 hw)))).other W70 (Or.inr (osl oOB .int (wcC hw) (wcM hw))))
 have f78 := (f66.other W70 (Or.inr (osl .int .int (wcJ hw) (wcM hw))))
 have f79 := (F65.other W70 (Or.inr (osl .int .int (wc5 hw) (wcM hw))))
 have f80 := (((((((((((((Fbase1.ext E3).ext E4).ext E6).other W19 (Or.inr (osl .long oAL (waq hw) (wb6 hw)))).other W22 (Or.inr (osl .long oAL (waq hw) (wb8 hw)))).other W25 (Or.inr (osl .long oAL (waq hw) (wca hw)))).ext E29).keep Kc30 (ninS ne_a12_0_b29 nin0)).other W43 (Or.inr (osl .long oOB (waq hw) (wcC hw)))).ext E49).other W52 (Or.inr (osl .long oAL (waq hw) (wcc hw)))).other W65 (Or.inr (osl .long .int (waq hw) (wc5 hw)))).other W70 (Or.inr (osl .long .int (waq hw) (wcM hw))))
 have f81 := ((f58.wr W65).wr W70)
 have f82 := ((f59.other W65 (Or.inl ne_a12_0_b29.symm)).other W70 (Or.inl ne_a12_0_b29.symm))
 have f83 := ((f60.other W65 (Or.inl ne_a12_0_b29.symm)).other W70 (Or.inl ne_a12_0_b29.symm))
 have f84 := ((f61.other W65 (Or.inl ne_a12_0_b29.symm)).other W70 (Or.inl ne_a12_0_b29.symm))
 have f85 := ((((f44.ext E49).other W52 ne_a12_0_b3.symm).other W65 ne_a12_0_b3.symm).other W70 ne_a12_0_b3.symm)
 have f86 := ((((f45.ext E49).other W52 ne_a12_0_b4.symm).other W65 ne_a12_0_b4.symm).other W70 ne_a12_0_b4.symm)
 have f87 := ((((f46.ext E49).other W52 ne_a12_0_b6.symm).other W65 ne_a12_0_b6.symm).other W70 ne_a12_0_b6.symm)
 have f88 := ((f57.other W65 ne_a12_0_bx15_0_30.symm).other W70 ne_a12_0_bx15_0_30.symm)
 have Op89 : own_Obj Z h70 n0 a12_0 b3 b4 b6 b49 b29 bx15_0_30 k3 k4 k6 kx15_0_30 (0 : Int32) (0 : Int32) (0 : Int32) bs (0 : Int32) (1 : Int32) (0 : Int64) (2 : Int32) [oZ, oZ] [oZ, oZ] [oZ, oZ] hB := ⟨f72, f73, f74, f75, f76, f77, f78, F70, f79, f80, f81, f82, f83, f84, f85, f86, f87, f88, (S70 _ _ _ _ St1), g0_1, g_b3, g_b4, g_b6, g_b49, g_b29, g_bx15_0_30, ne_a12_0_b3, ne_a12_0_b4, ne_a12_0_b6, ne_a12_0_b49, ne_a12_0_b29, ne_a12_0_bx15_0_30, ne_b3_b4, ne_b3_b6, ne_b3_b49, ne_b3_b29, ne_b3_bx15_0_30, ne_b4_b6, ne_b4_b49, ne_b4_b29, ne_b4_bx15_0_30, ne_b6_b49, ne_b6_b29, ne_b6_bx15_0_30, ne_b29_b49.symm, ne_bx15_0_30_b49.symm, ne_b29_bx15_0_30, (((((((((((((Lo1.ext E3).ext E4).ext E6).wr W19 g0_1).wr W22 g0_1).wr W25 g0_1).ext E29).keep Kc30 (allS (P := fun x => n0 ≤ x) g_b29 all0)).wr W43 g0_1).ext E49).wr W52 g0_1).wr W65 g0_1).wr W70 g0_1)⟩
 refine gA C X u Op89.Fspans (wcb C.w) dbo dbp fun _ X u => ?_
 refine sI C X dbq ?_
 refine sC C X dbr ?_
 refine sI C X dbt ?_
 refine sM C X dbu ?_
 refine kJ C X (waf C.w) dbv ?_
 refine cS C X u (rm18_1 l Z a0 C.w b49 k49 (0 : Int64) (0 : Int64) (0 : Int64) (0 : Int64) h70 n0 Op89.hsz f71 Op89.grS) (W := 0) (wag C.w) (wah C.w) (waj C.w) (wai C.w) (argsL := [(.ref b49), (.int 2), (.int 4), (.long oM)]) (lenOf pao rfl) dbw fun _ T91 _ X hQ91 => ?_
 obtain ⟨rfl, Nq91, Kc91, Sc91, P91_0⟩ := hQ91
 have O91 := Op89.sp Kc91 Sc91
 refine sC C X dbx ?_
 refine wi C X #[oR a12_0, oI 2, oI 1, oR b3, oR b4, oR b6, oI 0, oI 1] dby ?_
 refine si C X dbz ?_
 refine gA C X rfl O91.Fsize (wcI C.w) dbA dbB fun _ X u => ?_
 refine cY C X dbC 272 (by decide) ?_
 refine sI C X dbY ?_
 refine sC C X dbZ ?_
 refine sS C X db0 ?_
 refine wi C X #[oR a12_0, oI 2, oI 1, oR b3, oR b4, oR b6, oI 0, oI 1] db1 ?_
 refine si C X db2 ?_
 refine bN C X db3 (by decide) ?_
 refine gA C X u O91.Fspans (wcb C.w) db4 db5 fun _ X u => ?_
 refine si C X db6 ?_
 refine gA C X u O91.Fspans (wcb C.w) db7 db8 fun _ X u => ?_
 refine sC C X dca ?_
 refine si C X dcb ?_
 refine sM C X dcc ?_
 refine lA C X u P91_0 dcd ?_
 refine gA C X u O91.Fspans (wcb C.w) dce dcf fun _ X u => ?_
 refine sC C X dch ?_
 refine si C X dci ?_
 refine sM C X dcj ?_
 refine sC C X dck ?_
 refine sP C X dcl ?_
 refine lA C X u P91_0 dcm ?_
 refine cS C X u (fun ws => rm1 l Z a0 C.w ws oM oM T91.heap n0 O91.hsz ) (W := 2) (wao C.w) (wcd C.w) (wcz C.w) (wco C.w) (argsL := [(.long oM), (.long oM)]) (lenOf paj rfl) dcn fun _ T96 _ X hQ96 => ?_
 obtain ⟨rfl, Nq96, u⟩ := hQ96
 rw [show (own_m oM oM) = oM from by decide+kernel]
 refine sJ C X u ((N.app Nq91).app Nq96) O91.grS P91_0 _ dcp fun _ h98 _ X u N W98 V98 => ?_
 have O98 := O91.wsp W98
 refine wc C X #[oR a12_0, oI 2, oI 1, oR b3, oR b4, oR b6, oI 0, oI 0] dcq ?_
 refine sG C X dcr 277 ?_
 refine si C X db2 ?_
 refine bY C X db3 318 (by decide) ?_
 refine rV C X u hret dcs ?_
 exact ⟨rfl, N, b3, b4, b6, b49, b29, bx15_0_30, k3, k4, k6, kx15_0_30, O98, ⟨_, own_arv V98 (ocs rfl (ocs (congrArg Value.long (by simp only [own_mMM])) (ocs rfl (ocs rfl rfl))))⟩⟩
theorem df6 : oDe oc22 0 (.aload_n 0) 1:=by decide+kernel
theorem df7 : oDe oc22 1 (.getfield 11) 3:=by decide+kernel
theorem df9 : oDe oc22 4 (.arraylength) 1:=by decide+kernel
theorem dga : oDe oc22 5 (.iload_n 1) 1:=by decide+kernel
theorem dgb : oDe oc22 6 (.if_icmp .ge 32) 3:=by decide+kernel
theorem df8 : oDe oc22 38 (.return_) 1:=by decide+kernel
theorem pn_22 : plainName oB = true := by first | (simp [plainName, overriddenIn]; done) | decide +kernel
theorem faL (m : MethodId) (y0 : Addr) : entryFrame m #[(.ref y0), (.int 1)] 3 = mkF m 0 #[oR y0, oI 1, oU] [] := by first | (simp [entryFrame, mkF, argsToLocals, Value.category]; done) | rfl
def Q_rm22_1 (Z : State) (a22_0 ww : Addr) (kw : ClassId) (tw : Int64) (h0 : Heap) (n0 : Nat) (v : Option Value) (h : Heap) (L : List Loc) : Prop := v = none ∧ Fr n0 L ∧ h = h0
theorem rm22_1 (hw : own_T Z a0) (a22_0 ww : Addr) (kw : ClassId) (tw : Int64) (h0 : Heap) (n0 : Nat) (Z0 : n0 ≤ h0.size) (E_a : Exa Z h0 a22_0 oB) (F_wordsInUse : Fld Z h0 a22_0 oB "wordsInUse" "I" (.int 0)) (F_sizeIsSticky : Fld Z h0 a22_0 oB "sizeIsSticky" "Z" (.int 1)) (F_words : Fld Z h0 a22_0 oB "words" "[J" (.ref ww)) (V_ww : Arv Z h0 ww kw .long (1 : Int32) [(.long tw)] oZ) :
   own_Met l (⟨oB, "ensureCapacity", "(I)V"⟩ : MethodName) oc22 3 none (oRm 0 0 0 0) Z h0 #[(.ref a22_0), (.int 1)] (Q_rm22_1 Z a22_0 ww kw tw h0 n0) := by
 refine own_go hw (plainFor_of_name pn_22) (fun m => faL m a22_0) fun p e s m below meth c T0 C hret X u => ?_
 have N := Fr.nil n0
 refine gA C X u F_words (wcy C.w) df6 df7 fun _ X u => ?_
 refine nA C X u V_ww df9 ?_
 refine sI C X dga ?_
 refine cY C X dgb 38 (by decide) ?_
 refine rV C X u hret df8 ?_
 exact ⟨rfl, N, rfl⟩
theorem dfR : oDe oc21 0 (.iload_n 1) 1:=by decide+kernel
theorem dfS : oDe oc21 1 (.iconst 1) 1:=by decide+kernel
theorem dfZ : oDe oc21 2 (.iadd) 1:=by decide+kernel
theorem df1 : oDe oc21 3 (.istore_n 2) 1:=by decide+kernel
theorem df2 : oDe oc21 4 (.aload_n 0) 1:=by decide+kernel
theorem df3 : oDe oc21 5 (.getfield 7) 3:=by decide+kernel
theorem df4 : oDe oc21 8 (.iload_n 2) 1:=by decide+kernel
theorem df5 : oDe oc21 9 (.if_icmp .ge 13) 3:=by decide+kernel
theorem dfT : oDe oc21 12 (.aload_n 0) 1:=by decide+kernel
theorem dfU : oDe oc21 13 (.iload_n 2) 1:=by decide+kernel
theorem dfV : oDe oc21 14 (.invokevirtual 139) 3:=by decide+kernel
theorem dfW : oDe oc21 17 (.aload_n 0) 1:=by decide+kernel
theorem dfX : oDe oc21 18 (.iload_n 2) 1:=by decide+kernel
theorem dfY : oDe oc21 19 (.putfield 7) 3:=by decide+kernel
theorem df0 : oDe oc21 22 (.return_) 1:=by decide+kernel
theorem pn_21 : plainName oB = true := by first | (simp [plainName, overriddenIn]; done) | decide +kernel
theorem faK (m : MethodId) (y0 : Addr) : entryFrame m #[(.ref y0), (.int 0)] 3 = mkF m 0 #[oR y0, oI 0, oU] [] := by first | (simp [entryFrame, mkF, argsToLocals, Value.category]; done) | rfl
def Q_rm21_1 (Z : State) (a21_0 ww : Addr) (kw : ClassId) (tw : Int64) (h0 : Heap) (n0 : Nat) (v : Option Value) (h : Heap) (L : List Loc) : Prop := v = none ∧ Fr n0 L ∧ Keep h0 h [a21_0] ∧ own_StK Z h0 h ∧ Exa Z h a21_0 oB ∧ Fld Z h a21_0 oB "wordsInUse" "I" (.int 1) ∧ Fld Z h a21_0 oB "sizeIsSticky" "Z" (.int 1) ∧ Fld Z h a21_0 oB "words" "[J" (.ref ww)
theorem rm21_1 (hw : own_T Z a0) (a21_0 ww : Addr) (kw : ClassId) (tw : Int64) (h0 : Heap) (n0 : Nat) (Z0 : n0 ≤ h0.size) (E_a : Exa Z h0 a21_0 oB) (F_wordsInUse : Fld Z h0 a21_0 oB "wordsInUse" "I" (.int 0)) (F_sizeIsSticky : Fld Z h0 a21_0 oB "sizeIsSticky" "Z" (.int 1)) (F_words : Fld Z h0 a21_0 oB "words" "[J" (.ref ww)) (V_ww : Arv Z h0 ww kw .long (1 : Int32) [(.long tw)] oZ) (g_a21_0 : n0 ≤ a21_0) :
   own_Met l (⟨oB, "expandTo", "(I)V"⟩ : MethodName) oc21 3 none (oRm 1 0 0 14) Z h0 #[(.ref a21_0), (.int 0)] (Q_rm21_1 Z a21_0 ww kw tw h0 n0) := by
 refine own_go hw (plainFor_of_name pn_21) (fun m => faK m a21_0) fun p e s m below meth c T0 C hret X u => ?_
 have N := Fr.nil n0
 refine sI C X dfR ?_
 refine sC C X dfS ?_
 refine sP C X dfZ ?_
 refine wI C X #[oR a21_0, oI 0, oI 1] df1 ?_
 refine gA C X u F_wordsInUse (wcl C.w) df2 df3 fun _ X u => ?_
 refine sI C X df4 ?_
 refine cN C X df5 (by decide) ?_
 refine sA C X dfT ?_
 refine sI C X dfU ?_
 refine cP C X u (rm22_1 l Z a0 C.w a21_0 ww kw tw h0 n0 Z0 E_a F_wordsInUse F_sizeIsSticky F_words V_ww) E_a (W := 0) (waC C.w) (waD C.w) (mvT C.z (waF C.w)) (waE C.w) (waG C.w) (wcg C.w) (argsL := [(.int 1)]) (lenOf pah rfl) dfV fun _ T2 _ X hQ2 => ?_
 obtain ⟨rfl, Nq2, u⟩ := hQ2
 refine sA C X dfW ?_
 refine sI C X dfX ?_
 refine pF C X u (N.app Nq2) g_a21_0 F_wordsInUse E_a (ty := .int) (wcl C.w) (wcm C.w) (wcf C.w) (by decide) dfY fun _ h3 _ X u N W3 F3 => ?_
 have S3 := (own_StK.refl Z h0).wr W3
 have K3 : Keep h0 h3 [a21_0] := (Keep.refl h0 [a21_0]).wr W3 (Or.inl (List.mem_of_getElem? (i := 0) rfl))
 have f4 := (E_a.wr W3)
 have f5 := (F_sizeIsSticky.other W3 (Or.inr (osl .boolean .int (wcp hw) (wcm hw))))
 have f6 := (F_words.other W3 (Or.inr (osl oAL .int (wcA hw) (wcm hw))))
 refine rV C X u hret df0 ?_
 exact ⟨rfl, N, K3, S3, f4, F3, f5, f6⟩
theorem dfw : oDe oc20 0 (.iload_n 1) 1:=by decide+kernel
theorem dfx : oDe oc20 1 (.ifCond .ge 30) 3:=by decide+kernel
theorem dfy : oDe oc20 31 (.iload_n 1) 1:=by decide+kernel
theorem dfz : oDe oc20 32 (.invokestatic 52) 3:=by decide+kernel
theorem dfA : oDe oc20 35 (.istore_n 2) 1:=by decide+kernel
theorem dfB : oDe oc20 36 (.aload_n 0) 1:=by decide+kernel
theorem dfC : oDe oc20 37 (.iload_n 2) 1:=by decide+kernel
theorem dfD : oDe oc20 38 (.invokevirtual 155) 3:=by decide+kernel
theorem dfE : oDe oc20 41 (.aload_n 0) 1:=by decide+kernel
theorem dfF : oDe oc20 42 (.getfield 11) 3:=by decide+kernel
theorem dfG : oDe oc20 45 (.iload_n 2) 1:=by decide+kernel
theorem dfH : oDe oc20 46 (.dup2) 1:=by decide+kernel
theorem dfI : oDe oc20 47 (.laload) 1:=by decide+kernel
theorem dfJ : oDe oc20 48 (.lconst 1) 1:=by decide+kernel
theorem dfK : oDe oc20 49 (.iload_n 1) 1:=by decide+kernel
theorem dfL : oDe oc20 50 (.lshl) 1:=by decide+kernel
theorem dfM : oDe oc20 51 (.lor) 1:=by decide+kernel
theorem dfN : oDe oc20 52 (.lastore) 1:=by decide+kernel
theorem dfO : oDe oc20 53 (.aload_n 0) 1:=by decide+kernel
theorem dfP : oDe oc20 54 (.invokevirtual 56) 3:=by decide+kernel
theorem dfQ : oDe oc20 57 (.return_) 1:=by decide+kernel
theorem pn_20 : plainName oB = true := by first | (simp [plainName, overriddenIn]; done) | decide +kernel
theorem faJ (m : MethodId) (y0 : Addr) (y1 : Int32) : entryFrame m #[(.ref y0), (.int y1)] 3 = mkF m 0 #[oR y0, oI y1, oU] [] := by first | (simp [entryFrame, mkF, argsToLocals, Value.category]; done) | rfl
def Q_rm20_1 (Z : State) (a20_0 : Addr) (p20_1 : Int32) (ww : Addr) (kw : ClassId) (tw : Int64) (h0 : Heap) (n0 : Nat) (v : Option Value) (h : Heap) (L : List Loc) : Prop := v = none ∧ Fr n0 L ∧ Keep h0 h [a20_0, ww] ∧ own_StK Z h0 h ∧ Exa Z h a20_0 oB ∧ Fld Z h a20_0 oB "wordsInUse" "I" (.int 1) ∧ Fld Z h a20_0 oB "sizeIsSticky" "Z" (.int 1) ∧ Fld Z h a20_0 oB "words" "[J" (.ref ww) ∧ Arv Z h ww kw .long (1 : Int32) [(.long (tw ||| ((1 : Int64) <<< (p20_1 &&& 0x3f).toInt64)))] oZ
theorem rm20_1 (hw : own_T Z a0) (a20_0 : Addr) (p20_1 : Int32) (ww : Addr) (kw : ClassId) (tw : Int64) (h0 : Heap) (n0 : Nat) (Z0 : n0 ≤ h0.size) (hn : ¬ (p20_1 < (0 : Int32))) (hu : (p20_1 >>> ((6 : Int32) &&& 31)) = (0 : Int32)) (E_a : Exa Z h0 a20_0 oB) (F_wordsInUse : Fld Z h0 a20_0 oB "wordsInUse" "I" (.int 0)) (F_sizeIsSticky : Fld Z h0 a20_0 oB "sizeIsSticky" "Z" (.int 1)) (F_words : Fld Z h0 a20_0 oB "words" "[J" (.ref ww)) (V_ww : Arv Z h0 ww kw .long (1 : Int32) [(.long tw)] oZ) (g_a20_0 : n0 ≤ a20_0) (ne_ww_a20_0 : ww ≠ a20_0) (g_ww : n0 ≤ ww) (Sta1 : Sta Z h0 oB "$assertionsDisabled" "Z" (.int 1)) :
   own_Met l (⟨oB, "set", "(I)V"⟩ : MethodName) oc20 3 none (oRm 2 0 0 28) Z h0 #[(.ref a20_0), (.int p20_1)] (Q_rm20_1 Z a20_0 p20_1 ww kw tw h0 n0) := by
 refine own_go hw (plainFor_of_name pn_20) (fun m => faJ m a20_0 p20_1) fun p e s m below meth c T0 C hret X u => ?_
 have N := Fr.nil n0
 refine sI C X dfw ?_
 refine bY C X dfx 31 ((if0 _ _).trans (flt hn).2.1) ?_
 refine sI C X dfy ?_
 refine cS C X u (fun ws => rm7 l Z a0 C.w ws p20_1 h0 n0 Z0 ) (W := 0) (wcv C.w) (wcw C.w) (wcx C.w) (wcg C.w) (argsL := [(.int p20_1)]) (lenOf paf rfl) dfz fun _ T1 _ X hQ1 => ?_
 obtain ⟨rfl, Nq1, u⟩ := hQ1
 rw [hu]
 refine wI C X #[oR a20_0, oI p20_1, oI 0] dfA ?_
 refine sA C X dfB ?_
 refine sI C X dfC ?_
 refine cP C X u (rm21_1 l Z a0 C.w a20_0 ww kw tw h0 n0 Z0 E_a F_wordsInUse F_sizeIsSticky F_words V_ww g_a20_0) E_a (W := 0) (waw C.w) (wax C.w) (mvT C.z (waA C.w)) (waz C.w) (waB C.w) (wcg C.w) (argsL := [(.int 0)]) (lenOf pah rfl) dfD fun _ T2 _ X hQ2 => ?_
 obtain ⟨rfl, Nq2, Kc2, Sc2, P2_0, P2_1, P2_2, P2_3⟩ := hQ2
 have S2 := (own_StK.refl Z h0).tr Sc2
 have K2 : Keep h0 T2.heap [a20_0, ww] := Keep.trans (Keep.refl h0 [a20_0, ww]) Kc2 (allS (P := fun x => x ∈ ([a20_0, ww] : List Addr) ∨ h0.size ≤ x) (Or.inl (List.mem_of_getElem? (i := 0) rfl)) all0)
 refine gA C X rfl P2_3 (wcy C.w) dfE dfF fun T3 X u => ?_
 refine sI C X dfG ?_
 show own_Fin p e below _ T3 (mkF m 46 #[oR a20_0, oI p20_1, oI 0] [(.int 0), (.ref ww)])
 refine own_Fin.st (g' := (mkF m 47 #[oR a20_0, oI p20_1, oI 0] [(.int 0), (.ref ww), (.int 0), (.ref ww)])) ?_ (fun t k => by jvm_step X.here [X.here.top, C.1, C.d dfH, Value.category]; exact k)
 have f4 := (V_ww.keep Kc2 (ninS ne_ww_a20_0 nin0))
 refine lA C X u f4 dfI ?_
 refine tK C X dfJ ?_
 refine sI C X dfK ?_
 refine tH C X dfL ?_
 refine tO C X dfM ?_
 refine sJ C X u ((N.app Nq1).app Nq2) g_ww f4 _ dfN fun _ h5 _ X u N W5 V5 => ?_
 have S5 := S2.wr W5
 have K5 : Keep h0 h5 [a20_0, ww] := K2.wr W5 (Or.inl (List.mem_of_getElem? (i := 1) rfl))
 have Z5 : n0 ≤ h5.size := Nat.le_trans Z0 K5.1
 refine sA C X dfO ?_
 have f7 := (P2_0.wr W5)
 refine cP C X u (fun ws => rm14 l Z a0 C.w ws a20_0 h5 n0 Z5 (S5 _ _ _ _ Sta1)) f7 (W := 0) (wdc C.w) (wdd C.w) (mvT C.z (wdf C.w)) (wde C.w) (wdg C.w) (wcg C.w) (argsL := []) (lenOf pas rfl) dfP fun _ T6 _ X hQ6 => ?_
 obtain ⟨rfl, Nq6, u⟩ := hQ6
 have f8 := (P2_1.other W5 (Or.inl ne_ww_a20_0.symm))
 have f9 := (P2_2.other W5 (Or.inl ne_ww_a20_0.symm))
 have f10 := (P2_3.other W5 (Or.inl ne_ww_a20_0.symm))
 refine rV C X u hret dfQ ?_
 exact ⟨rfl, (N.app Nq6), K5, S5, f7, f8, f9, f10, V5⟩
theorem dgc : oDe oc23 0 (.aload_n 0) 1:=by decide+kernel
theorem dgd : oDe oc23 1 (.getfield 9) 3:=by decide+kernel
theorem dgw : oDe oc23 4 (.arraylength) 1:=by decide+kernel
theorem dgE : oDe oc23 5 (.iload_n 1) 1:=by decide+kernel
theorem dgK : oDe oc23 6 (.iadd) 1:=by decide+kernel
theorem dgQ : oDe oc23 7 (.istore 4) 2:=by decide+kernel
theorem dg1 : oDe oc23 9 (.aload_n 0) 1:=by decide+kernel
theorem dge : oDe oc23 10 (.getfield 21) 3:=by decide+kernel
theorem dgf : oDe oc23 13 (.iload 4) 2:=by decide+kernel
theorem dgg : oDe oc23 15 (.lload_n 2) 1:=by decide+kernel
theorem dgh : oDe oc23 16 (.lastore) 1:=by decide+kernel
theorem dgi : oDe oc23 17 (.iload 4) 2:=by decide+kernel
theorem dgj : oDe oc23 19 (.iconst 2) 1:=by decide+kernel
theorem dgk : oDe oc23 20 (.idiv) 1:=by decide+kernel
theorem dgl : oDe oc23 21 (.istore 4) 2:=by decide+kernel
theorem dgm : oDe oc23 23 (.iload 4) 2:=by decide+kernel
theorem dgn : oDe oc23 25 (.ifCond .le 62) 3:=by decide+kernel
theorem dgo : oDe oc23 28 (.aload_n 0) 1:=by decide+kernel
theorem dgp : oDe oc23 29 (.getfield 21) 3:=by decide+kernel
theorem dgq : oDe oc23 32 (.iconst 2) 1:=by decide+kernel
theorem dgr : oDe oc23 33 (.iload 4) 2:=by decide+kernel
theorem dgs : oDe oc23 35 (.imul) 1:=by decide+kernel
theorem dgt : oDe oc23 36 (.laload) 1:=by decide+kernel
theorem dgu : oDe oc23 37 (.aload_n 0) 1:=by decide+kernel
theorem dgv : oDe oc23 38 (.getfield 21) 3:=by decide+kernel
theorem dgx : oDe oc23 41 (.iconst 2) 1:=by decide+kernel
theorem dgy : oDe oc23 42 (.iload 4) 2:=by decide+kernel
theorem dgz : oDe oc23 44 (.imul) 1:=by decide+kernel
theorem dgA : oDe oc23 45 (.iconst 1) 1:=by decide+kernel
theorem dgB : oDe oc23 46 (.iadd) 1:=by decide+kernel
theorem dgC : oDe oc23 47 (.laload) 1:=by decide+kernel
theorem dgD : oDe oc23 48 (.invokestatic 101) 3:=by decide+kernel
theorem dgF : oDe oc23 51 (.lstore 5) 2:=by decide+kernel
theorem dgG : oDe oc23 53 (.aload_n 0) 1:=by decide+kernel
theorem dgH : oDe oc23 54 (.getfield 21) 3:=by decide+kernel
theorem dgI : oDe oc23 57 (.iload 4) 2:=by decide+kernel
theorem dgJ : oDe oc23 59 (.laload) 1:=by decide+kernel
theorem dgL : oDe oc23 60 (.lload 5) 2:=by decide+kernel
theorem dgM : oDe oc23 62 (.lcmp) 1:=by decide+kernel
theorem dgN : oDe oc23 63 (.ifCond .ne 6) 3:=by decide+kernel
theorem dgO : oDe oc23 66 (.goto 21) 3:=by decide+kernel
theorem dgP : oDe oc23 69 (.aload_n 0) 1:=by decide+kernel
theorem dgR : oDe oc23 70 (.getfield 21) 3:=by decide+kernel
theorem dgS : oDe oc23 73 (.iload 4) 2:=by decide+kernel
theorem dgT : oDe oc23 75 (.lload 5) 2:=by decide+kernel
theorem dgU : oDe oc23 77 (.lastore) 1:=by decide+kernel
theorem dgV : oDe oc23 78 (.iload 4) 2:=by decide+kernel
theorem dgW : oDe oc23 80 (.iconst 2) 1:=by decide+kernel
theorem dgX : oDe oc23 81 (.idiv) 1:=by decide+kernel
theorem dgY : oDe oc23 82 (.istore 4) 2:=by decide+kernel
theorem dgZ : oDe oc23 84 (.goto (-61)) 3:=by decide+kernel
theorem dg0 : oDe oc23 87 (.return_) 1:=by decide+kernel
theorem pn_23 : plainName oL = true := by first | (simp [plainName, overriddenIn]; done) | decide +kernel
theorem faM (m : MethodId) (y0 : Addr) (y2 : Int64) : entryFrame m #[(.ref y0), (.int 0), (.long y2)] 7 = mkF m 0 #[oR y0, oI 0, oJ y2, oD, oU, oU, oU] [] := by first | (simp [entryFrame, mkF, argsToLocals, Value.category]; done) | rfl
def Q_rm23_2_0 (Z : State) (a23_0 : Addr) (q23_2 : Int64) (wt : Addr) (kt : ClassId) (t0 t1 : Int64) (ws : Addr) (l0 l1 : Int64) (h0 : Heap) (n0 : Nat) (v : Option Value) (h : Heap) (L : List Loc) : Prop := v = none ∧ Fr n0 L ∧ Keep h0 h [ws] ∧ own_StK Z h0 h ∧ own_Sp2 Z h ws q23_2 l1
theorem rm23_2_0 (hw : own_T Z a0) (a23_0 : Addr) (q23_2 : Int64) (wt : Addr) (kt : ClassId) (t0 t1 : Int64) (ws : Addr) (l0 l1 : Int64) (h0 : Heap) (n0 : Nat) (Z0 : n0 ≤ h0.size) (F_times : Fld Z h0 a23_0 oL "times" "[J" (.ref wt)) (V_wt : Arv Z h0 wt kt .long (2 : Int32) [(.long t0), (.long t1)] oZ) (F_spans : Fld Z h0 a23_0 oL "spans" "[J" (.ref ws)) (T_ws : own_Sp2 Z h0 ws l0 l1) (g_ws : n0 ≤ ws) (ne_a23_0_ws : a23_0 ≠ ws) :
   own_Met l oy23 oc23 7 none (oRm 1 0 0 15) Z h0 #[(.ref a23_0), (.int 0), (.long q23_2)] (Q_rm23_2_0 Z a23_0 q23_2 wt kt t0 t1 ws l0 l1 h0 n0) := by
 refine own_go hw (plainFor_of_name pn_23) (fun m => faM m a23_0 q23_2) fun p e s m below meth c T0 C hret X u => ?_
 have N := Fr.nil n0
 refine gA C X u F_times (wb5 C.w) dgc dgd fun _ X u => ?_
 refine nA C X u V_wt dgw ?_
 refine sI C X dgE ?_
 refine sP C X dgK ?_
 refine wi C X #[oR a23_0, oI 0, oJ q23_2, oD, oI 2, oU, oU] dgQ ?_
 refine gA C X u F_spans (wcb C.w) dg1 dge fun _ X u => ?_
 refine si C X dgf ?_
 refine sL C X dgg ?_
 obtain ⟨kq3, VT3⟩ := id T_ws
 obtain ⟨m3_1, hm3_1⟩ : ∃ z : Int64, z = (own_m l0 l1) := ⟨_, rfl⟩
 rw [← hm3_1] at VT3
 refine sJ C X u N g_ws VT3 _ dgh fun _ h4 _ X u N W4 V4 => ?_
 have S4 := (own_StK.refl Z h0).wr W4
 have K4 : Keep h0 h4 [ws] := (Keep.refl h0 [ws]).wr W4 (Or.inl (List.mem_of_getElem? (i := 0) rfl))
 have Z4 : n0 ≤ h4.size := Nat.le_trans Z0 K4.1
 refine si C X dgi ?_
 refine sC C X dgj ?_
 refine own_Fin.st (g' := (mkF m 21 #[oR a23_0, oI 0, oJ q23_2, oD, oI 2, oU, oU] [(.int 1)])) ?_ (fun t k => XS.idiv X.here C.1 rfl (C.d dgk) rfl (by decide : ¬ ((2 : Int32) = (0 : Int32))) k)
 refine wi C X #[oR a23_0, oI 0, oJ q23_2, oD, oI 1, oU, oU] dgl ?_
 refine si C X dgm ?_
 refine bN C X dgn (by decide) ?_
 have f5 := (F_spans.other W4 (Or.inl ne_a23_0_ws))
 refine gA C X u f5 (wcb C.w) dgo dgp fun _ X u => ?_
 refine sC C X dgq ?_
 refine si C X dgr ?_
 refine sM C X dgs ?_
 refine lA C X u V4 dgt ?_
 refine gA C X u f5 (wcb C.w) dgu dgv fun _ X u => ?_
 refine sC C X dgx ?_
 refine si C X dgy ?_
 refine sM C X dgz ?_
 refine sC C X dgA ?_
 refine sP C X dgB ?_
 refine lA C X u V4 dgC ?_
 refine cS C X u (fun ws => rm1 l Z a0 C.w ws q23_2 l1 h4 n0 Z4 ) (W := 0) (wao C.w) (wcd C.w) (wcz C.w) (wco C.w) (argsL := [(.long q23_2), (.long l1)]) (lenOf paj rfl) dgD fun _ T8 _ X hQ8 => ?_
 obtain ⟨rfl, Nq8, u⟩ := hQ8
 obtain ⟨x9, hx9⟩ : ∃ z : Int64, z = (own_m q23_2 l1) := ⟨_, rfl⟩
 rw [← hx9]
 refine wl C X #[oR a23_0, oI 0, oJ q23_2, oD, oI 1, oJ x9, oD] dgF ?_
 refine gA C X u f5 (wcb C.w) dgG dgH fun _ X u => ?_
 refine si C X dgI ?_
 refine lA C X u V4 dgJ ?_
 refine sl C X dgL ?_
 refine tC C X dgM ?_
 by_cases h63_11 : m3_1 = x9
 · refine bN C X dgN ((if0 _ _).trans (teq ((lw_eq _ _).mpr h63_11)).2) ?_
   refine sG C X dgO 87 ?_
   refine rV C X u hret dg0 ?_
   subst hx9
   subst hm3_1
   exact ⟨rfl, (N.app Nq8), K4, S4, ⟨_, own_arv V4 (ocs rfl (ocs (congrArg Value.long h63_11.symm) (ocs rfl (ocs rfl rfl))))⟩⟩
 refine bY C X dgN 69 ((if0 _ _).trans (feq (fun q => h63_11 ((lw_eq _ _).mp q))).2) ?_
 refine gA C X u f5 (wcb C.w) dgP dgR fun _ X u => ?_
 refine si C X dgS ?_
 refine sl C X dgT ?_
 refine sJ C X u (N.app Nq8) g_ws V4 _ dgU fun _ h13 _ X u N W13 V13 => ?_
 have S13 := S4.wr W13
 have K13 : Keep h0 h13 [ws] := K4.wr W13 (Or.inl (List.mem_of_getElem? (i := 0) rfl))
 refine si C X dgV ?_
 refine sC C X dgW ?_
 refine own_Fin.st (g' := (mkF m 82 #[oR a23_0, oI 0, oJ q23_2, oD, oI 1, oJ x9, oD] [(.int 0)])) ?_ (fun t k => XS.idiv X.here C.1 rfl (C.d dgX) rfl (by decide : ¬ ((2 : Int32) = (0 : Int32))) k)
 refine wi C X #[oR a23_0, oI 0, oJ q23_2, oD, oI 0, oJ x9, oD] dgY ?_
 refine sG C X dgZ 23 ?_
 refine si C X dgm ?_
 refine bY C X dgn 87 (by decide) ?_
 refine rV C X u hret dg0 ?_
 subst hx9
 subst hm3_1
 exact ⟨rfl, N, K13, S13, ⟨_, own_arv V13 (ocs rfl (ocs rfl (ocs rfl (ocs rfl rfl))))⟩⟩
theorem pae : parseMethodDescriptor "(IJ)V" = some ⟨[.int, .long], none⟩:=by decide+kernel
def own_G_2_0_1_1 (Z : State) (hB h : Heap) (n0 : Nat) (a : Addr) (bs : Int64) (tm0 : Int64) (to0 : Int64) : Prop := ∃ rT : Addr, ∃ rF : Addr, ∃ rO : Addr, ∃ rS : Addr, ∃ rE : Addr, ∃ rW : Addr, ∃ kT : ClassId, ∃ kF : ClassId, ∃ kO : ClassId, ∃ kW : ClassId, ∃ tm1 : Int64, ∃ fr1 : Int64, ∃ to1 : Int64, own_Obj Z h n0 a rT rF rO rS rE rW kT kF kO kW (0 : Int32) (1 : Int32) (1 : Int32) bs (1 : Int32) (1 : Int32) (1 : Int64) (2 : Int32) [(.long tm0), (.long tm1)] [(.long tm0), (.long fr1)] [(.long to0), (.long to1)] hB ∧ own_Sp2 Z h rS oM oM
theorem doK : oDe oc8 0 (.aload_n 0) 1:=by decide+kernel
theorem doL : oDe oc8 1 (.getfield 31) 3:=by decide+kernel
theorem dqR : oDe oc8 4 (.ifCond .le 37) 3:=by decide+kernel
theorem dqS : oDe oc8 41 (.aload_n 0) 1:=by decide+kernel
theorem dqT : oDe oc8 42 (.getfield 31) 3:=by decide+kernel
theorem dqU : oDe oc8 45 (.iload 5) 2:=by decide+kernel
theorem dqV : oDe oc8 47 (.if_icmp .lt 101) 3:=by decide+kernel
theorem doO : oDe oc8 148 (.aload_n 0) 1:=by decide+kernel
theorem doP : oDe oc8 149 (.getfield 9) 3:=by decide+kernel
theorem doR : oDe oc8 152 (.arraylength) 1:=by decide+kernel
theorem doS : oDe oc8 153 (.istore 6) 2:=by decide+kernel
theorem doT : oDe oc8 155 (.aload_n 0) 1:=by decide+kernel
theorem doU : oDe oc8 156 (.getfield 35) 3:=by decide+kernel
theorem doV : oDe oc8 159 (.iload 6) 2:=by decide+kernel
theorem doX : oDe oc8 161 (.if_icmp .eq 27) 3:=by decide+kernel
theorem dpe : oDe oc8 188 (.aload_n 0) 1:=by decide+kernel
theorem dpf : oDe oc8 189 (.iconst 2) 1:=by decide+kernel
theorem dph : oDe oc8 190 (.iconst 2) 1:=by decide+kernel
theorem dpi : oDe oc8 191 (.aload_n 0) 1:=by decide+kernel
theorem dpj : oDe oc8 192 (.getfield 31) 3:=by decide+kernel
theorem dpk : oDe oc8 195 (.imul) 1:=by decide+kernel
theorem dpl : oDe oc8 196 (.iconst 1) 1:=by decide+kernel
theorem dpm : oDe oc8 197 (.iadd) 1:=by decide+kernel
theorem dpn : oDe oc8 198 (.invokestatic 76) 3:=by decide+kernel
theorem dpp : oDe oc8 201 (.iconst 1) 1:=by decide+kernel
theorem dpq : oDe oc8 202 (.ishl) 1:=by decide+kernel
theorem dpr : oDe oc8 203 (.invokestatic 81) 3:=by decide+kernel
theorem dps : oDe oc8 206 (.invokevirtual 87) 3:=by decide+kernel
theorem dpt : oDe oc8 209 (.aload_n 0) 1:=by decide+kernel
theorem dpu : oDe oc8 210 (.getfield 31) 3:=by decide+kernel
theorem dpv : oDe oc8 213 (.ifCond .le 17) 3:=by decide+kernel
theorem dpF : oDe oc8 230 (.aload_n 0) 1:=by decide+kernel
theorem dpG : oDe oc8 231 (.getfield 57) 3:=by decide+kernel
theorem dpH : oDe oc8 234 (.lstore 7) 2:=by decide+kernel
theorem dpI : oDe oc8 236 (.aload_n 0) 1:=by decide+kernel
theorem dpJ : oDe oc8 237 (.getfield 9) 3:=by decide+kernel
theorem dpL : oDe oc8 240 (.aload_n 0) 1:=by decide+kernel
theorem dpM : oDe oc8 241 (.getfield 35) 3:=by decide+kernel
theorem dpN : oDe oc8 244 (.lload_n 1) 1:=by decide+kernel
theorem dpO : oDe oc8 245 (.lastore) 1:=by decide+kernel
theorem dpP : oDe oc8 246 (.aload_n 0) 1:=by decide+kernel
theorem dpQ : oDe oc8 247 (.getfield 15) 3:=by decide+kernel
theorem dpR : oDe oc8 250 (.aload_n 0) 1:=by decide+kernel
theorem dpS : oDe oc8 251 (.getfield 35) 3:=by decide+kernel
theorem dpT : oDe oc8 254 (.lload_n 1) 1:=by decide+kernel
theorem dpU : oDe oc8 255 (.lastore) 1:=by decide+kernel
theorem dpV : oDe oc8 256 (.aload_n 0) 1:=by decide+kernel
theorem dpW : oDe oc8 257 (.getfield 18) 3:=by decide+kernel
theorem dpX : oDe oc8 260 (.aload_n 0) 1:=by decide+kernel
theorem dpY : oDe oc8 261 (.getfield 35) 3:=by decide+kernel
theorem dpZ : oDe oc8 264 (.lload 7) 2:=by decide+kernel
theorem dp0 : oDe oc8 266 (.lload_n 3) 1:=by decide+kernel
theorem dp1 : oDe oc8 267 (.ladd) 1:=by decide+kernel
theorem dp2 : oDe oc8 268 (.lastore) 1:=by decide+kernel
theorem dp3 : oDe oc8 269 (.aload_n 0) 1:=by decide+kernel
theorem dp5 : oDe oc8 270 (.getfield 27) 3:=by decide+kernel
theorem dp6 : oDe oc8 273 (.aload_n 0) 1:=by decide+kernel
theorem dp7 : oDe oc8 274 (.getfield 35) 3:=by decide+kernel
theorem dp8 : oDe oc8 277 (.invokevirtual 90) 3:=by decide+kernel
theorem dqa : oDe oc8 280 (.aload_n 0) 1:=by decide+kernel
theorem dqb : oDe oc8 281 (.aload_n 0) 1:=by decide+kernel
theorem dqc : oDe oc8 282 (.getfield 35) 3:=by decide+kernel
theorem dqd : oDe oc8 285 (.aload_n 0) 1:=by decide+kernel
theorem dqe : oDe oc8 286 (.getfield 31) 3:=by decide+kernel
theorem dqf : oDe oc8 289 (.ifCond .le 19) 3:=by decide+kernel
theorem dqq : oDe oc8 308 (.ldc2_w 65) 3:=by decide+kernel
theorem dqs : oDe oc8 311 (.invokevirtual 67) 3:=by decide+kernel
theorem dqt : oDe oc8 314 (.aload_n 0) 1:=by decide+kernel
theorem dqu : oDe oc8 315 (.dup) 1:=by decide+kernel
theorem dqv : oDe oc8 316 (.getfield 35) 3:=by decide+kernel
theorem dqw : oDe oc8 319 (.iconst 1) 1:=by decide+kernel
theorem dqy : oDe oc8 320 (.iadd) 1:=by decide+kernel
theorem dqz : oDe oc8 321 (.putfield 35) 3:=by decide+kernel
theorem dqA : oDe oc8 324 (.aload_n 0) 1:=by decide+kernel
theorem dqB : oDe oc8 325 (.dup) 1:=by decide+kernel
theorem dqC : oDe oc8 326 (.getfield 31) 3:=by decide+kernel
theorem dqD : oDe oc8 329 (.iconst 1) 1:=by decide+kernel
theorem dqF : oDe oc8 330 (.iadd) 1:=by decide+kernel
theorem dqG : oDe oc8 331 (.putfield 31) 3:=by decide+kernel
theorem dqH : oDe oc8 334 (.aload_n 0) 1:=by decide+kernel
theorem dqI : oDe oc8 335 (.getfield 31) 3:=by decide+kernel
theorem dqJ : oDe oc8 338 (.iload 5) 2:=by decide+kernel
theorem dqL : oDe oc8 340 (.if_icmp .le 8) 3:=by decide+kernel
theorem dqM : oDe oc8 348 (.return_) 1:=by decide+kernel
theorem pn_8 : plainName oL = true := by first | (simp [plainName, overriddenIn]; done) | decide +kernel
theorem fa4 (m : MethodId) (y0 : Addr) (y1 : Int64) (y2 : Int64) : entryFrame m #[(.ref y0), (.long y1), (.long y2), (.int 1000)] 9 = mkF m 0 #[oR y0, oJ y1, oD, oJ y2, oD, oI 1000, oU, oU, oU] [] := by first | (simp [entryFrame, mkF, argsToLocals, Value.category]; done) | rfl
def Q_rmA_0_0_0 (Z : State) (a8_0 : Addr) (q8_1 : Int64) (q8_2 : Int64) (rT : Addr) (rF : Addr) (rO : Addr) (rS : Addr) (rE : Addr) (rW : Addr) (kT : ClassId) (kF : ClassId) (kO : ClassId) (kW : ClassId) (bs : Int64) (hB : Heap) (h0 : Heap) (n0 : Nat) (v : Option Value) (h : Heap) (L : List Loc) : Prop := v = none ∧ Fr n0 L ∧ ((own_G_2_0_1_1 Z hB h n0 a8_0 bs q8_1 (bs + q8_2)))
theorem osp1 {p : Program} {c : Code} {code : ByteArray} {ml : Nat} {s : State} {m : MethodId} {own : String} {Z : State} {a0 args : Array Value} (C : own_C p c code ml s m own Z a0) : (Cond.selects oy23.cls oy23 oy23).before args s = true := own_selp (x := oy8) rfl (mvT (args := #[]) C.z (wcG C.w)) (Cond.privateMethod_at (mvP C.z (waK C.w) (args := #[]))) (mvT C.z (waI C.w)) (by decide)
theorem osp2 {p : Program} {c : Code} {code : ByteArray} {ml : Nat} {s : State} {m : MethodId} {own : String} {Z : State} {a0 args : Array Value} (C : own_C p c code ml s m own Z a0) : (Cond.selects oy27.cls oy27 oy27).before args s = true := own_selp (x := oy8) rfl (mvT (args := #[]) C.z (wcG C.w)) (Cond.privateMethod_at (mvP C.z (wa1 C.w) (args := #[]))) (mvT C.z (wa0 C.w)) (by decide)
theorem osp3 {p : Program} {c : Code} {code : ByteArray} {ml : Nat} {s : State} {m : MethodId} {own : String} {Z : State} {a0 args : Array Value} (C : own_C p c code ml s m own Z a0) : (Cond.selects oy28.cls oy28 oy28).before args s = true := own_selp (x := oy8) rfl (mvT (args := #[]) C.z (wcG C.w)) (Cond.privateMethod_at (mvP C.z (wa6 C.w) (args := #[]))) (mvT C.z (wa4 C.w)) (by decide)
theorem osp4 {p : Program} {c : Code} {code : ByteArray} {ml : Nat} {s : State} {m : MethodId} {own : String} {Z : State} {a0 args : Array Value} (C : own_C p c code ml s m own Z a0) : (Cond.selects oy31.cls oy31 oy31).before args s = true := own_selp (x := oy8) rfl (mvT (args := #[]) C.z (wcG C.w)) (Cond.privateMethod_at (mvP C.z (wbj C.w) (args := #[]))) (mvT C.z (wbi C.w)) (by decide)
theorem osp5 {p : Program} {c : Code} {code : ByteArray} {ml : Nat} {s : State} {m : MethodId} {own : String} {Z : State} {a0 args : Array Value} (C : own_C p c code ml s m own Z a0) : (Cond.selects oy35.cls oy35 oy35).before args s = true := own_selp (x := oy8) rfl (mvT (args := #[]) C.z (wcG C.w)) (Cond.privateMethod_at (mvP C.z (wbF C.w) (args := #[]))) (mvT C.z (wbE C.w)) (by decide)
theorem osp6 {p : Program} {c : Code} {code : ByteArray} {ml : Nat} {s : State} {m : MethodId} {own : String} {Z : State} {a0 args : Array Value} (C : own_C p c code ml s m own Z a0) : (Cond.selects oy12.cls oy12 oy12).before args s = true := own_selp (x := oy8) rfl (mvT (args := #[]) C.z (wcG C.w)) (Cond.privateMethod_at (mvP C.z (wc2 C.w) (args := #[]))) (mvT C.z (wc1 C.w)) (by decide)
theorem rmA_0_0_0 (hw : own_T Z a0) (a8_0 : Addr) (q8_1 q8_2 : Int64) (rT rF rO rS rE rW : Addr) (kT kF kO kW : ClassId) (bs : Int64) (hB : Heap) (h0 : Heap) (n0 : Nat) (Z0 : n0 ≤ h0.size) (O : own_Obj Z h0 n0 a8_0 rT rF rO rS rE rW kT kF kO kW (0 : Int32) (0 : Int32) (0 : Int32) bs (0 : Int32) (0 : Int32) (0 : Int64) (0 : Int32) [] [] [] hB) (SP : own_Sp0 Z h0 rS) :
   own_Met l oy8 oc8 9 none (oRm 6 6 44 150) Z h0 #[(.ref a8_0), (.long q8_1), (.long q8_2), (.int 1000)] (Q_rmA_0_0_0 Z a8_0 q8_1 q8_2 rT rF rO rS rE rW kT kF kO kW bs hB h0 n0) := by
 refine own_go hw (plainFor_of_name pn_8) (fun m => fa4 m a8_0 q8_1 q8_2) fun p e s m below meth c T0 C hret X u => ?_
 have N := Fr.nil n0
 refine gA C X u O.Fsize (wcI C.w) doK doL fun _ X u => ?_
 refine bY C X dqR 41 (by decide) ?_
 refine gA C X u O.Fsize (wcI C.w) dqS dqT fun _ X u => ?_
 refine si C X dqU ?_
 refine cY C X dqV 148 (by decide) ?_
 refine gA C X u O.Ftimes (wb5 C.w) doO doP fun _ X u => ?_
 refine nA C X u O.Vt doR ?_
 refine wi C X #[oR a8_0, oJ q8_1, oD, oJ q8_2, oD, oI 1000, oI 0, oU, oU] doS ?_
 refine gA C X u O.Fend (wcL C.w) doT doU fun _ X u => ?_
 refine si C X doV ?_
 refine cY C X doX 188 (by decide) ?_
 refine sA C X dpe ?_
 refine sC C X dpf ?_
 refine sC C X dph ?_
 refine gA C X u O.Fsize (wcI C.w) dpi dpj fun _ X u => ?_
 refine sM C X dpk ?_
 refine sC C X dpl ?_
 refine sP C X dpm ?_
 refine cB C X u (W := 2) (Jvm.Free.JP.Integer_highestOneBit_I.pays (1 : Int32) (own_tH C) (by decide) (by decide)) (wcN C.w) (wcO C.w) (wcQ C.w) (wcP C.w) (argsL := [(.int 1)]) (lenOf paf rfl) (fun _ => ⟨rfl, trivial⟩) dpn fun _ X u => ?_
 have cz7 : Jvm.Free.JP.Integer_highestOneBit_I.val (1 : Int32) = (1 : Int32):=by decide+kernel
 rw [cz7]
 refine sC C X dpp ?_
 refine sH C X dpq ?_
 refine cS C X u (fun ws => rm11 l Z a0 C.w ws (2 : Int32) (2 : Int32) h0 n0 O.hsz ) (W := 1) (wcX C.w) (wcY C.w) (wcZ C.w) (wco C.w) (argsL := [(.int 2), (.int 2)]) (lenOf pab rfl) dpr fun _ T8 _ X hQ8 => ?_
 obtain ⟨rfl, Nq8, u⟩ := hQ8
 rw [show (if (2 : Int32) < (2 : Int32) then (2 : Int32) else (2 : Int32)) = (2 : Int32) from by decide+kernel]
 refine cP C X u (rm12_1 l Z a0 C.w a8_0 rT rF rO rS rE rW kT kF kO kW bs hB h0 n0 O.hsz O SP) O.Ea (W := 0) (wc0 C.w) (wc1 C.w) (osp6 C) (wc2 C.w) (wc3 C.w) (wa5 C.w) (argsL := [(.int 2)]) (lenOf pah rfl) dps fun _ T10 _ X hQ10 => ?_
 obtain ⟨rfl, Nq10, rT_10, rF_10, rO_10, rS_10, rE_10, rW_10, kT_10, kF_10, kO_10, kW_10, O10, SP10⟩ := hQ10
 refine gA C X rfl O10.Fsize (wcI C.w) dpt dpu fun _ X u => ?_
 refine bY C X dpv 230 (by decide) ?_
 refine gA C X u O10.Fbase (wap C.w) dpF dpG fun _ X u => ?_
 refine wl C X #[oR a8_0, oJ q8_1, oD, oJ q8_2, oD, oI 1000, oI 0, oJ bs, oD] dpH ?_
 refine gA C X u O10.Ftimes (wb5 C.w) dpI dpJ fun _ X u => ?_
 refine gA C X u O10.Fend (wcL C.w) dpL dpM fun _ X u => ?_
 refine sL C X dpN ?_
 refine sJ C X u ((N.app Nq8).app Nq10) O10.grT O10.Vt _ dpO fun _ h15 _ X u N W15 V15 => ?_
 have O15 := O10.setT W15 V15
 refine gA C X u O15.Ffroms (wb7 C.w) dpP dpQ fun _ X u => ?_
 refine gA C X u O15.Fend (wcL C.w) dpR dpS fun _ X u => ?_
 refine sL C X dpT ?_
 refine sJ C X u N O15.grF O15.Vf _ dpU fun _ h18 _ X u N W18 V18 => ?_
 have O18 := O15.setF W18 V18
 refine gA C X u O18.Ftotals (wb9 C.w) dpV dpW fun _ X u => ?_
 refine gA C X u O18.Fend (wcL C.w) dpX dpY fun _ X u => ?_
 refine sl C X dpZ ?_
 refine sL C X dp0 ?_
 refine tP C X dp1 ?_
 refine sJ C X u N O18.grO O18.Vo _ dp2 fun _ h21 _ X u N W21 V21 => ?_
 have O21 := O18.setO W21 V21
 refine gA C X u O21.Fentries (wcB C.w) dp3 dp5 fun _ X u => ?_
 refine gA C X u O21.Fend (wcL C.w) dp6 dp7 fun _ X u => ?_
 refine cV C X u (rm20_1 l Z a0 C.w rE_10 (0 : Int32) rW_10 kW_10 (0 : Int64) h21 n0 O21.hsz (by decide+kernel) (by decide+kernel) O21.Ee O21.BwordsInUse O21.BsizeIsSticky O21.Bwords O21.Vw O21.grE (Ne.symm O21.n_rE_rW) O21.grW O21.St) O21.Ee (W := 0) (war C.w) (was C.w) (wau C.w) (wat C.w) (wav C.w) (wcg C.w) (argsL := [(.int 0)]) (lenOf pah rfl) dp8 fun _ T24 _ X hQ24 => ?_
 obtain ⟨rfl, Nq24, Kc24, Sc24, P24_0, P24_1, P24_2, P24_3, P24_4⟩ := hQ24
 rw [show ((0 : Int64) ||| ((1 : Int64) <<< ((0 : Int32) &&& 0x3f).toInt64)) = (1 : Int64) from by decide+kernel] at P24_4
 have O24 := O21.bits Kc24 Sc24 P24_0 P24_1 P24_2 P24_3 P24_4
 refine sA C X dqa ?_
 refine gA C X rfl O24.Fend (wcL C.w) dqb dqc fun _ X u => ?_
 refine gA C X u O24.Fsize (wcI C.w) dqd dqe fun _ X u => ?_
 refine bY C X dqf 308 (by decide) ?_
 refine kJ C X (waf C.w) dqq ?_
 have f27 := ((((SP10.other W15 (Ne.symm O24.n_rT_rS)).other W18 (Ne.symm O24.n_rF_rS)).other W21 (Ne.symm O24.n_rO_rS)).keep Kc24 (ninS O24.n_rS_rE (ninS O24.n_rS_rW nin0)))
 refine cP C X u (rm23_2_0 l Z a0 C.w a8_0 oM rT_10 kT_10 q8_1 (0 : Int64) rS_10 oM oM T24.heap n0 O24.hsz O24.Ftimes O24.Vt O24.Fspans f27 O24.grS O24.n_a_rS) O24.Ea (W := 0) (waH C.w) (waI C.w) (osp1 C) (waK C.w) (waL C.w) (wa5 C.w) (argsL := [(.int 0), (.long oM)]) (lenOf pae rfl) dqs fun _ T28 _ X hQ28 => ?_
 obtain ⟨rfl, Nq28, Kc28, Sc28, P28_0⟩ := hQ28
 have O28 := O24.sp Kc28 Sc28
 refine sA C X dqt ?_
 refine sD C X dqu ?_
 refine gF C X rfl O28.Fend (wcL C.w) dqv fun _ X u => ?_
 refine sC C X dqw ?_
 refine sP C X dqy ?_
 refine pF C X u ((N.app Nq24).app Nq28) O28.ga O28.Fend O28.Ea (ty := .int) (wcL C.w) (wcM C.w) (waU C.w) (by decide) dqz fun _ h30 _ X u N W30 F30 => ?_
 have O30 := own_Obj.put_end hw O28 W30 F30
 refine sA C X dqA ?_
 refine sD C X dqB ?_
 refine gF C X u O30.Fsize (wcI C.w) dqC fun _ X u => ?_
 refine sC C X dqD ?_
 refine sP C X dqF ?_
 refine pF C X u N O30.ga O30.Fsize O30.Ea (ty := .int) (wcI C.w) (wcJ C.w) (waU C.w) (by decide) dqG fun _ h32 _ X u N W32 F32 => ?_
 have O32 := own_Obj.put_size hw O30 W32 F32
 refine gA C X u O32.Fsize (wcI C.w) dqH dqI fun _ X u => ?_
 refine si C X dqJ ?_
 refine cY C X dqL 348 (by decide) ?_
 have f34 := ((P28_0.other W30 (Ne.symm O32.n_a_rS)).other W32 (Ne.symm O32.n_a_rS))
 refine rV C X u hret dqM ?_
 exact ⟨rfl, N, ⟨rT_10, rF_10, rO_10, rS_10, rE_10, rW_10, kT_10, kF_10, kO_10, kW_10, (0 : Int64), (0 : Int64), (0 : Int64), O32, f34⟩⟩
def Q_rm21_2 (Z : State) (a21_0 ww : Addr) (kw : ClassId) (tw : Int64) (h0 : Heap) (n0 : Nat) (v : Option Value) (h : Heap) (L : List Loc) : Prop := v = none ∧ Fr n0 L ∧ h = h0
theorem rm21_2 (hw : own_T Z a0) (a21_0 ww : Addr) (kw : ClassId) (tw : Int64) (h0 : Heap) (n0 : Nat) (Z0 : n0 ≤ h0.size) (E_a : Exa Z h0 a21_0 oB) (F_wordsInUse : Fld Z h0 a21_0 oB "wordsInUse" "I" (.int 1)) (F_sizeIsSticky : Fld Z h0 a21_0 oB "sizeIsSticky" "Z" (.int 1)) (F_words : Fld Z h0 a21_0 oB "words" "[J" (.ref ww)) (V_ww : Arv Z h0 ww kw .long (1 : Int32) [(.long tw)] oZ) :
   own_Met l (⟨oB, "expandTo", "(I)V"⟩ : MethodName) oc21 3 none (oRm 0 0 0 0) Z h0 #[(.ref a21_0), (.int 0)] (Q_rm21_2 Z a21_0 ww kw tw h0 n0) := by
 refine own_go hw (plainFor_of_name pn_21) (fun m => faK m a21_0) fun p e s m below meth c T0 C hret X u => ?_
 have N := Fr.nil n0
 refine sI C X dfR ?_
 refine sC C X dfS ?_
 refine sP C X dfZ ?_
 refine wI C X #[oR a21_0, oI 0, oI 1] df1 ?_
 refine gA C X u F_wordsInUse (wcl C.w) df2 df3 fun _ X u => ?_
 refine sI C X df4 ?_
 refine cY C X df5 22 (by decide) ?_
 refine rV C X u hret df0 ?_
 exact ⟨rfl, N, rfl⟩
def Q_rm20_2 (Z : State) (a20_0 : Addr) (p20_1 : Int32) (ww : Addr) (kw : ClassId) (tw : Int64) (h0 : Heap) (n0 : Nat) (v : Option Value) (h : Heap) (L : List Loc) : Prop := v = none ∧ Fr n0 L ∧ Keep h0 h [ww] ∧ own_StK Z h0 h ∧ Arv Z h ww kw .long (1 : Int32) [(.long (tw ||| ((1 : Int64) <<< (p20_1 &&& 0x3f).toInt64)))] oZ
theorem rm20_2 (hw : own_T Z a0) (a20_0 : Addr) (p20_1 : Int32) (ww : Addr) (kw : ClassId) (tw : Int64) (h0 : Heap) (n0 : Nat) (Z0 : n0 ≤ h0.size) (hn : ¬ (p20_1 < (0 : Int32))) (hu : (p20_1 >>> ((6 : Int32) &&& 31)) = (0 : Int32)) (E_a : Exa Z h0 a20_0 oB) (F_wordsInUse : Fld Z h0 a20_0 oB "wordsInUse" "I" (.int 1)) (F_sizeIsSticky : Fld Z h0 a20_0 oB "sizeIsSticky" "Z" (.int 1)) (F_words : Fld Z h0 a20_0 oB "words" "[J" (.ref ww)) (V_ww : Arv Z h0 ww kw .long (1 : Int32) [(.long tw)] oZ) (g_ww : n0 ≤ ww) (Sta1 : Sta Z h0 oB "$assertionsDisabled" "Z" (.int 1)) :
   own_Met l (⟨oB, "set", "(I)V"⟩ : MethodName) oc20 3 none (oRm 1 0 0 14) Z h0 #[(.ref a20_0), (.int p20_1)] (Q_rm20_2 Z a20_0 p20_1 ww kw tw h0 n0) := by
 refine own_go hw (plainFor_of_name pn_20) (fun m => faJ m a20_0 p20_1) fun p e s m below meth c T0 C hret X u => ?_
 have N := Fr.nil n0
 refine sI C X dfw ?_
 refine bY C X dfx 31 ((if0 _ _).trans (flt hn).2.1) ?_
 refine sI C X dfy ?_
 refine cS C X u (fun ws => rm7 l Z a0 C.w ws p20_1 h0 n0 Z0 ) (W := 0) (wcv C.w) (wcw C.w) (wcx C.w) (wcg C.w) (argsL := [(.int p20_1)]) (lenOf paf rfl) dfz fun _ T1 _ X hQ1 => ?_
 obtain ⟨rfl, Nq1, u⟩ := hQ1
 rw [hu]
 refine wI C X #[oR a20_0, oI p20_1, oI 0] dfA ?_
 refine sA C X dfB ?_
 refine sI C X dfC ?_
 refine cP C X u (rm21_2 l Z a0 C.w a20_0 ww kw tw h0 n0 Z0 E_a F_wordsInUse F_sizeIsSticky F_words V_ww) E_a (W := 0) (waw C.w) (wax C.w) (mvT C.z (waA C.w)) (waz C.w) (waB C.w) (wcg C.w) (argsL := [(.int 0)]) (lenOf pah rfl) dfD fun _ T2 _ X hQ2 => ?_
 obtain ⟨rfl, Nq2, u⟩ := hQ2
 refine gA C X u F_words (wcy C.w) dfE dfF fun T3 X u => ?_
 refine sI C X dfG ?_
 show own_Fin p e below _ T3 (mkF m 46 #[oR a20_0, oI p20_1, oI 0] [(.int 0), (.ref ww)])
 refine own_Fin.st (g' := (mkF m 47 #[oR a20_0, oI p20_1, oI 0] [(.int 0), (.ref ww), (.int 0), (.ref ww)])) ?_ (fun t k => by jvm_step X.here [X.here.top, C.1, C.d dfH, Value.category]; exact k)
 refine lA C X u V_ww dfI ?_
 refine tK C X dfJ ?_
 refine sI C X dfK ?_
 refine tH C X dfL ?_
 refine tO C X dfM ?_
 refine sJ C X u ((N.app Nq1).app Nq2) g_ww V_ww _ dfN fun _ h4 _ X u N W4 V4 => ?_
 have S4 := (own_StK.refl Z h0).wr W4
 have K4 : Keep h0 h4 [ww] := (Keep.refl h0 [ww]).wr W4 (Or.inl (List.mem_of_getElem? (i := 0) rfl))
 have Z4 : n0 ≤ h4.size := Nat.le_trans Z0 K4.1
 refine sA C X dfO ?_
 have f6 := (E_a.wr W4)
 refine cP C X u (fun ws => rm14 l Z a0 C.w ws a20_0 h4 n0 Z4 (S4 _ _ _ _ Sta1)) f6 (W := 0) (wdc C.w) (wdd C.w) (mvT C.z (wdf C.w)) (wde C.w) (wdg C.w) (wcg C.w) (argsL := []) (lenOf pas rfl) dfP fun _ T5 _ X hQ5 => ?_
 obtain ⟨rfl, Nq5, u⟩ := hQ5
 refine rV C X u hret dfQ ?_
 exact ⟨rfl, (N.app Nq5), K4, S4, V4⟩
theorem faN (m : MethodId) (y0 : Addr) (y2 : Int64) : entryFrame m #[(.ref y0), (.int 1), (.long y2)] 7 = mkF m 0 #[oR y0, oI 1, oJ y2, oD, oU, oU, oU] [] := by first | (simp [entryFrame, mkF, argsToLocals, Value.category]; done) | rfl
def Q_rm23_2_1 (Z : State) (a23_0 : Addr) (q23_2 : Int64) (wt : Addr) (kt : ClassId) (t0 t1 : Int64) (ws : Addr) (l0 l1 : Int64) (h0 : Heap) (n0 : Nat) (v : Option Value) (h : Heap) (L : List Loc) : Prop := v = none ∧ Fr n0 L ∧ Keep h0 h [ws] ∧ own_StK Z h0 h ∧ own_Sp2 Z h ws l0 q23_2
theorem rm23_2_1 (hw : own_T Z a0) (a23_0 : Addr) (q23_2 : Int64) (wt : Addr) (kt : ClassId) (t0 t1 : Int64) (ws : Addr) (l0 l1 : Int64) (h0 : Heap) (n0 : Nat) (Z0 : n0 ≤ h0.size) (F_times : Fld Z h0 a23_0 oL "times" "[J" (.ref wt)) (V_wt : Arv Z h0 wt kt .long (2 : Int32) [(.long t0), (.long t1)] oZ) (F_spans : Fld Z h0 a23_0 oL "spans" "[J" (.ref ws)) (T_ws : own_Sp2 Z h0 ws l0 l1) (g_ws : n0 ≤ ws) (ne_a23_0_ws : a23_0 ≠ ws) :
   own_Met l oy23 oc23 7 none (oRm 1 0 0 15) Z h0 #[(.ref a23_0), (.int 1), (.long q23_2)] (Q_rm23_2_1 Z a23_0 q23_2 wt kt t0 t1 ws l0 l1 h0 n0) := by
 refine own_go hw (plainFor_of_name pn_23) (fun m => faN m a23_0 q23_2) fun p e s m below meth c T0 C hret X u => ?_
 have N := Fr.nil n0
 refine gA C X u F_times (wb5 C.w) dgc dgd fun _ X u => ?_
 refine nA C X u V_wt dgw ?_
 refine sI C X dgE ?_
 refine sP C X dgK ?_
 refine wi C X #[oR a23_0, oI 1, oJ q23_2, oD, oI 3, oU, oU] dgQ ?_
 refine gA C X u F_spans (wcb C.w) dg1 dge fun _ X u => ?_
 refine si C X dgf ?_
 refine sL C X dgg ?_
 obtain ⟨kq3, VT3⟩ := id T_ws
 obtain ⟨m3_1, hm3_1⟩ : ∃ z : Int64, z = (own_m l0 l1) := ⟨_, rfl⟩
 rw [← hm3_1] at VT3
 refine sJ C X u N g_ws VT3 _ dgh fun _ h4 _ X u N W4 V4 => ?_
 have S4 := (own_StK.refl Z h0).wr W4
 have K4 : Keep h0 h4 [ws] := (Keep.refl h0 [ws]).wr W4 (Or.inl (List.mem_of_getElem? (i := 0) rfl))
 have Z4 : n0 ≤ h4.size := Nat.le_trans Z0 K4.1
 refine si C X dgi ?_
 refine sC C X dgj ?_
 refine own_Fin.st (g' := (mkF m 21 #[oR a23_0, oI 1, oJ q23_2, oD, oI 3, oU, oU] [(.int 1)])) ?_ (fun t k => XS.idiv X.here C.1 rfl (C.d dgk) rfl (by decide : ¬ ((2 : Int32) = (0 : Int32))) k)
 refine wi C X #[oR a23_0, oI 1, oJ q23_2, oD, oI 1, oU, oU] dgl ?_
 refine si C X dgm ?_
 refine bN C X dgn (by decide) ?_
 have f5 := (F_spans.other W4 (Or.inl ne_a23_0_ws))
 refine gA C X u f5 (wcb C.w) dgo dgp fun _ X u => ?_
 refine sC C X dgq ?_
 refine si C X dgr ?_
 refine sM C X dgs ?_
 refine lA C X u V4 dgt ?_
 refine gA C X u f5 (wcb C.w) dgu dgv fun _ X u => ?_
 refine sC C X dgx ?_
 refine si C X dgy ?_
 refine sM C X dgz ?_
 refine sC C X dgA ?_
 refine sP C X dgB ?_
 refine lA C X u V4 dgC ?_
 refine cS C X u (fun ws => rm1 l Z a0 C.w ws l0 q23_2 h4 n0 Z4 ) (W := 0) (wao C.w) (wcd C.w) (wcz C.w) (wco C.w) (argsL := [(.long l0), (.long q23_2)]) (lenOf paj rfl) dgD fun _ T8 _ X hQ8 => ?_
 obtain ⟨rfl, Nq8, u⟩ := hQ8
 obtain ⟨x9, hx9⟩ : ∃ z : Int64, z = (own_m l0 q23_2) := ⟨_, rfl⟩
 rw [← hx9]
 refine wl C X #[oR a23_0, oI 1, oJ q23_2, oD, oI 1, oJ x9, oD] dgF ?_
 refine gA C X u f5 (wcb C.w) dgG dgH fun _ X u => ?_
 refine si C X dgI ?_
 refine lA C X u V4 dgJ ?_
 refine sl C X dgL ?_
 refine tC C X dgM ?_
 by_cases h63_11 : m3_1 = x9
 · refine bN C X dgN ((if0 _ _).trans (teq ((lw_eq _ _).mpr h63_11)).2) ?_
   refine sG C X dgO 87 ?_
   refine rV C X u hret dg0 ?_
   subst hx9
   subst hm3_1
   exact ⟨rfl, (N.app Nq8), K4, S4, ⟨_, own_arv V4 (ocs rfl (ocs (congrArg Value.long h63_11.symm) (ocs rfl (ocs rfl rfl))))⟩⟩
 refine bY C X dgN 69 ((if0 _ _).trans (feq (fun q => h63_11 ((lw_eq _ _).mp q))).2) ?_
 refine gA C X u f5 (wcb C.w) dgP dgR fun _ X u => ?_
 refine si C X dgS ?_
 refine sl C X dgT ?_
 refine sJ C X u (N.app Nq8) g_ws V4 _ dgU fun _ h13 _ X u N W13 V13 => ?_
 have S13 := S4.wr W13
 have K13 : Keep h0 h13 [ws] := K4.wr W13 (Or.inl (List.mem_of_getElem? (i := 0) rfl))
 refine si C X dgV ?_
 refine sC C X dgW ?_
 refine own_Fin.st (g' := (mkF m 82 #[oR a23_0, oI 1, oJ q23_2, oD, oI 1, oJ x9, oD] [(.int 0)])) ?_ (fun t k => XS.idiv X.here C.1 rfl (C.d dgX) rfl (by decide : ¬ ((2 : Int32) = (0 : Int32))) k)
 refine wi C X #[oR a23_0, oI 1, oJ q23_2, oD, oI 0, oJ x9, oD] dgY ?_
 refine sG C X dgZ 23 ?_
 refine si C X dgm ?_
 refine bY C X dgn 87 (by decide) ?_
 refine rV C X u hret dg0 ?_
 subst hx9
 subst hm3_1
 exact ⟨rfl, N, K13, S13, ⟨_, own_arv V13 (ocs rfl (ocs rfl (ocs rfl (ocs rfl rfl))))⟩⟩
def own_G_2_0_2_3 (Z : State) (hB h : Heap) (n0 : Nat) (a : Addr) (bs : Int64) (tm0 : Int64) (tm1 : Int64) (to0 : Int64) (to1 : Int64) : Prop := ∃ rT : Addr, ∃ rF : Addr, ∃ rO : Addr, ∃ rS : Addr, ∃ rE : Addr, ∃ rW : Addr, ∃ kT : ClassId, ∃ kF : ClassId, ∃ kO : ClassId, ∃ kW : ClassId, own_Obj Z h n0 a rT rF rO rS rE rW kT kF kO kW (0 : Int32) (2 : Int32) (2 : Int32) bs (1 : Int32) (1 : Int32) (3 : Int64) (2 : Int32) [(.long tm0), (.long tm1)] [(.long tm0), (.long tm1)] [(.long to0), (.long to1)] hB ∧ own_Sp2 Z h rS oM (tm1 - tm0)
theorem dqW : oDe oc8 7 (.aload_n 0) 1:=by decide+kernel
theorem dqX : oDe oc8 8 (.getfield 9) 3:=by decide+kernel
theorem doM : oDe oc8 11 (.aload_n 0) 1:=by decide+kernel
theorem doN : oDe oc8 12 (.getfield 35) 3:=by decide+kernel
theorem doQ : oDe oc8 15 (.iconst 1) 1:=by decide+kernel
theorem doW : oDe oc8 16 (.isub) 1:=by decide+kernel
theorem do1 : oDe oc8 17 (.laload) 1:=by decide+kernel
theorem do8 : oDe oc8 18 (.lload_n 1) 1:=by decide+kernel
theorem dpg : oDe oc8 19 (.lcmp) 1:=by decide+kernel
theorem dpo : oDe oc8 20 (.ifCond .ne 21) 3:=by decide+kernel
theorem dpE : oDe oc8 23 (.aload_n 0) 1:=by decide+kernel
theorem dpK : oDe oc8 24 (.getfield 18) 3:=by decide+kernel
theorem dp4 : oDe oc8 27 (.aload_n 0) 1:=by decide+kernel
theorem dp9 : oDe oc8 28 (.getfield 35) 3:=by decide+kernel
theorem dqr : oDe oc8 31 (.iconst 1) 1:=by decide+kernel
theorem dqx : oDe oc8 32 (.isub) 1:=by decide+kernel
theorem dqE : oDe oc8 33 (.dup2) 1:=by decide+kernel
theorem dqK : oDe oc8 34 (.laload) 1:=by decide+kernel
theorem dqN : oDe oc8 35 (.lload_n 3) 1:=by decide+kernel
theorem dqO : oDe oc8 36 (.ladd) 1:=by decide+kernel
theorem dqP : oDe oc8 37 (.lastore) 1:=by decide+kernel
theorem dqQ : oDe oc8 38 (.goto 310) 3:=by decide+kernel
theorem doY : oDe oc8 164 (.iload 6) 2:=by decide+kernel
theorem doZ : oDe oc8 166 (.iconst 2) 1:=by decide+kernel
theorem do0 : oDe oc8 167 (.if_icmp .le 42) 3:=by decide+kernel
theorem dpw : oDe oc8 216 (.aload_n 0) 1:=by decide+kernel
theorem dpx : oDe oc8 217 (.getfield 18) 3:=by decide+kernel
theorem dpy : oDe oc8 220 (.aload_n 0) 1:=by decide+kernel
theorem dpz : oDe oc8 221 (.getfield 35) 3:=by decide+kernel
theorem dpA : oDe oc8 224 (.iconst 1) 1:=by decide+kernel
theorem dpB : oDe oc8 225 (.isub) 1:=by decide+kernel
theorem dpC : oDe oc8 226 (.laload) 1:=by decide+kernel
theorem dpD : oDe oc8 227 (.goto 7) 3:=by decide+kernel
theorem dqg : oDe oc8 292 (.lload_n 1) 1:=by decide+kernel
theorem dqh : oDe oc8 293 (.aload_n 0) 1:=by decide+kernel
theorem dqi : oDe oc8 294 (.getfield 15) 3:=by decide+kernel
theorem dqj : oDe oc8 297 (.aload_n 0) 1:=by decide+kernel
theorem dqk : oDe oc8 298 (.getfield 35) 3:=by decide+kernel
theorem dql : oDe oc8 301 (.iconst 1) 1:=by decide+kernel
theorem dqm : oDe oc8 302 (.isub) 1:=by decide+kernel
theorem dqn : oDe oc8 303 (.laload) 1:=by decide+kernel
theorem dqo : oDe oc8 304 (.lsub) 1:=by decide+kernel
theorem dqp : oDe oc8 305 (.goto 6) 3:=by decide+kernel
def Q_rmA_2_0_1 (Z : State) (a8_0 : Addr) (q8_1 : Int64) (q8_2 : Int64) (rT : Addr) (rF : Addr) (rO : Addr) (rS : Addr) (rE : Addr) (rW : Addr) (kT : ClassId) (kF : ClassId) (kO : ClassId) (kW : ClassId) (bs : Int64) (tm0 : Int64) (tm1 : Int64) (fr1 : Int64) (to0 : Int64) (to1 : Int64) (hB : Heap) (h0 : Heap) (n0 : Nat) (v : Option Value) (h : Heap) (L : List Loc) : Prop := v = none ∧ Fr n0 L ∧ ((tm0 = q8_1 ∧ own_G_2_0_1_1 Z hB h n0 a8_0 bs tm0 (to0 + q8_2)) ∨ (¬ (tm0 = q8_1) ∧ own_G_2_0_2_3 Z hB h n0 a8_0 bs tm0 q8_1 to0 (to0 + q8_2)))
theorem rmA_2_0_1 (hw : own_T Z a0) (a8_0 : Addr) (q8_1 q8_2 : Int64) (rT rF rO rS rE rW : Addr) (kT kF kO kW : ClassId) (bs tm0 tm1 fr1 to0 to1 : Int64) (hB : Heap) (h0 : Heap) (n0 : Nat) (Z0 : n0 ≤ h0.size) (O : own_Obj Z h0 n0 a8_0 rT rF rO rS rE rW kT kF kO kW (0 : Int32) (1 : Int32) (1 : Int32) bs (1 : Int32) (1 : Int32) (1 : Int64) (2 : Int32) [(.long tm0), (.long tm1)] [(.long tm0), (.long fr1)] [(.long to0), (.long to1)] hB) (SP : own_Sp2 Z h0 rS oM oM) :
   own_Met l oy8 oc8 9 none (oRm 6 6 44 150) Z h0 #[(.ref a8_0), (.long q8_1), (.long q8_2), (.int 1000)] (Q_rmA_2_0_1 Z a8_0 q8_1 q8_2 rT rF rO rS rE rW kT kF kO kW bs tm0 tm1 fr1 to0 to1 hB h0 n0) := by
 refine own_go hw (plainFor_of_name pn_8) (fun m => fa4 m a8_0 q8_1 q8_2) fun p e s m below meth c T0 C hret X u => ?_
 have N := Fr.nil n0
 refine gA C X u O.Fsize (wcI C.w) doK doL fun _ X u => ?_
 refine bN C X dqR (by decide) ?_
 refine gA C X u O.Ftimes (wb5 C.w) dqW dqX fun _ X u => ?_
 refine gA C X u O.Fend (wcL C.w) doM doN fun _ X u => ?_
 refine sC C X doQ ?_
 refine sS C X doW ?_
 refine lA C X u O.Vt do1 ?_
 refine sL C X do8 ?_
 refine tC C X dpg ?_
 by_cases h20_4 : tm0 = q8_1
 · refine bN C X dpo ((if0 _ _).trans (teq ((lw_eq _ _).mpr h20_4)).2) ?_
   refine gA C X u O.Ftotals (wb9 C.w) dpE dpK fun _ X u => ?_
   refine gA C X u O.Fend (wcL C.w) dp4 dp9 fun T6 X u => ?_
   refine sC C X dqr ?_
   refine sS C X dqx ?_
   show own_Fin p e below _ T6 (mkF m 33 #[oR a8_0, oJ q8_1, oD, oJ q8_2, oD, oI 1000, oU, oU, oU] [(.int 0), (.ref rO)])
   refine own_Fin.st (g' := (mkF m 34 #[oR a8_0, oJ q8_1, oD, oJ q8_2, oD, oI 1000, oU, oU, oU] [(.int 0), (.ref rO), (.int 0), (.ref rO)])) ?_ (fun t k => by jvm_step X.here [X.here.top, C.1, C.d dqE, Value.category]; exact k)
   refine lA C X u O.Vo dqK ?_
   refine sL C X dqN ?_
   refine tP C X dqO ?_
   refine sJ C X u N O.grO O.Vo _ dqP fun _ h7 _ X u N W7 V7 => ?_
   have O7 := O.setO W7 V7
   refine sG C X dqQ 348 ?_
   have f37 := (SP.other W7 (Ne.symm O7.n_rO_rS))
   refine rV C X u hret dqM ?_
   exact ⟨rfl, N, Or.inl ⟨h20_4, ⟨rT, rF, rO, rS, rE, rW, kT, kF, kO, kW, tm1, fr1, to1, O7, f37⟩⟩⟩
 refine bY C X dpo 41 ((if0 _ _).trans (feq (fun q => h20_4 ((lw_eq _ _).mp q))).2) ?_
 refine gA C X u O.Fsize (wcI C.w) dqS dqT fun _ X u => ?_
 refine si C X dqU ?_
 refine cY C X dqV 148 (by decide) ?_
 refine gA C X u O.Ftimes (wb5 C.w) doO doP fun _ X u => ?_
 refine nA C X u O.Vt doR ?_
 refine wi C X #[oR a8_0, oJ q8_1, oD, oJ q8_2, oD, oI 1000, oI 2, oU, oU] doS ?_
 refine gA C X u O.Fend (wcL C.w) doT doU fun _ X u => ?_
 refine si C X doV ?_
 refine cN C X doX (by decide) ?_
 refine si C X doY ?_
 refine sC C X doZ ?_
 refine cY C X do0 209 (by decide) ?_
 refine gA C X u O.Fsize (wcI C.w) dpt dpu fun _ X u => ?_
 refine bN C X dpv (by decide) ?_
 refine gA C X u O.Ftotals (wb9 C.w) dpw dpx fun _ X u => ?_
 refine gA C X u O.Fend (wcL C.w) dpy dpz fun _ X u => ?_
 refine sC C X dpA ?_
 refine sS C X dpB ?_
 refine lA C X u O.Vo dpC ?_
 refine sG C X dpD 234 ?_
 refine wl C X #[oR a8_0, oJ q8_1, oD, oJ q8_2, oD, oI 1000, oI 2, oJ to0, oD] dpH ?_
 refine gA C X u O.Ftimes (wb5 C.w) dpI dpJ fun _ X u => ?_
 refine gA C X u O.Fend (wcL C.w) dpL dpM fun _ X u => ?_
 refine sL C X dpN ?_
 refine sJ C X u N O.grT O.Vt _ dpO fun _ h16 _ X u N W16 V16 => ?_
 have O16 := O.setT W16 V16
 refine gA C X u O16.Ffroms (wb7 C.w) dpP dpQ fun _ X u => ?_
 refine gA C X u O16.Fend (wcL C.w) dpR dpS fun _ X u => ?_
 refine sL C X dpT ?_
 refine sJ C X u N O16.grF O16.Vf _ dpU fun _ h19 _ X u N W19 V19 => ?_
 have O19 := O16.setF W19 V19
 refine gA C X u O19.Ftotals (wb9 C.w) dpV dpW fun _ X u => ?_
 refine gA C X u O19.Fend (wcL C.w) dpX dpY fun _ X u => ?_
 refine sl C X dpZ ?_
 refine sL C X dp0 ?_
 refine tP C X dp1 ?_
 refine sJ C X u N O19.grO O19.Vo _ dp2 fun _ h22 _ X u N W22 V22 => ?_
 have O22 := O19.setO W22 V22
 refine gA C X u O22.Fentries (wcB C.w) dp3 dp5 fun _ X u => ?_
 refine gA C X u O22.Fend (wcL C.w) dp6 dp7 fun _ X u => ?_
 refine cV C X u (rm20_2 l Z a0 C.w rE (1 : Int32) rW kW (1 : Int64) h22 n0 O22.hsz (by decide+kernel) (by decide+kernel) O22.Ee O22.BwordsInUse O22.BsizeIsSticky O22.Bwords O22.Vw O22.grW O22.St) O22.Ee (W := 0) (war C.w) (was C.w) (wau C.w) (wat C.w) (wav C.w) (wcg C.w) (argsL := [(.int 1)]) (lenOf pah rfl) dp8 fun _ T25 _ X hQ25 => ?_
 obtain ⟨rfl, Nq25, Kc25, Sc25, P25_0⟩ := hQ25
 rw [show ((1 : Int64) ||| ((1 : Int64) <<< ((1 : Int32) &&& 0x3f).toInt64)) = (3 : Int64) from by decide+kernel] at P25_0
 have O25 := O22.bit1 Kc25 Sc25 P25_0
 refine sA C X dqa ?_
 refine gA C X rfl O25.Fend (wcL C.w) dqb dqc fun _ X u => ?_
 refine gA C X u O25.Fsize (wcI C.w) dqd dqe fun _ X u => ?_
 refine bN C X dqf (by decide) ?_
 refine sL C X dqg ?_
 refine gA C X u O25.Ffroms (wb7 C.w) dqh dqi fun _ X u => ?_
 refine gA C X u O25.Fend (wcL C.w) dqj dqk fun _ X u => ?_
 refine sC C X dql ?_
 refine sS C X dqm ?_
 refine lA C X u O25.Vf dqn ?_
 refine tS C X dqo ?_
 refine sG C X dqp 311 ?_
 have f30 := ((((SP.other W16 (Ne.symm O25.n_rT_rS)).other W19 (Ne.symm O25.n_rF_rS)).other W22 (Ne.symm O25.n_rO_rS)).keep Kc25 (ninS O25.n_rS_rW nin0))
 refine cP C X u (rm23_2_1 l Z a0 C.w a8_0 (q8_1 - tm0) rT kT tm0 q8_1 rS oM oM T25.heap n0 O25.hsz O25.Ftimes O25.Vt O25.Fspans f30 O25.grS O25.n_a_rS) O25.Ea (W := 0) (waH C.w) (waI C.w) (osp1 C) (waK C.w) (waL C.w) (wa5 C.w) (argsL := [(.int 1), (.long (q8_1 - tm0))]) (lenOf pae rfl) dqs fun _ T31 _ X hQ31 => ?_
 obtain ⟨rfl, Nq31, Kc31, Sc31, P31_0⟩ := hQ31
 have O31 := O25.sp Kc31 Sc31
 refine sA C X dqt ?_
 refine sD C X dqu ?_
 refine gF C X rfl O31.Fend (wcL C.w) dqv fun _ X u => ?_
 refine sC C X dqw ?_
 refine sP C X dqy ?_
 refine pF C X u ((N.app Nq25).app Nq31) O31.ga O31.Fend O31.Ea (ty := .int) (wcL C.w) (wcM C.w) (waU C.w) (by decide) dqz fun _ h33 _ X u N W33 F33 => ?_
 have O33 := own_Obj.put_end hw O31 W33 F33
 refine sA C X dqA ?_
 refine sD C X dqB ?_
 refine gF C X u O33.Fsize (wcI C.w) dqC fun _ X u => ?_
 refine sC C X dqD ?_
 refine sP C X dqF ?_
 refine pF C X u N O33.ga O33.Fsize O33.Ea (ty := .int) (wcI C.w) (wcJ C.w) (waU C.w) (by decide) dqG fun _ h35 _ X u N W35 F35 => ?_
 have O35 := own_Obj.put_size hw O33 W35 F35
 refine gA C X u O35.Fsize (wcI C.w) dqH dqI fun _ X u => ?_
 refine si C X dqJ ?_
 refine cY C X dqL 348 (by decide) ?_
 have f38 := ((P31_0.other W33 (Ne.symm O35.n_a_rS)).other W35 (Ne.symm O35.n_a_rS))
 refine rV C X u hret dqM ?_
 exact ⟨rfl, N, Or.inr (⟨h20_4, ⟨rT, rF, rO, rS, rE, rW, kT, kF, kO, kW, O35, f38⟩⟩)⟩
theorem pak : parseMethodDescriptor "(J)I" = some ⟨[.long], some .int⟩:=by decide+kernel
def own_nsb (p13_1 : Int32) (tw : Int64) : Int32 := (if (tw &&& ((-1 : Int64) <<< (p13_1 &&& 0x3f).toInt64)) = (0 : Int64) then (-1 : Int32) else ((0 : Int32) + (own_lntz (tw &&& ((-1 : Int64) <<< (p13_1 &&& 0x3f).toInt64)))))
theorem ddi : oDe oc13 50 (.aload_n 0) 1:=by decide+kernel
theorem ddj : oDe oc13 51 (.getfield 11) 3:=by decide+kernel
theorem ddk : oDe oc13 54 (.iload_n 2) 1:=by decide+kernel
theorem ddl : oDe oc13 55 (.laload) 1:=by decide+kernel
theorem ddm : oDe oc13 56 (.ldc2_w 165) 3:=by decide+kernel
theorem ddn : oDe oc13 59 (.iload_n 1) 1:=by decide+kernel
theorem ddo : oDe oc13 60 (.lshl) 1:=by decide+kernel
theorem ddp : oDe oc13 61 (.land) 1:=by decide+kernel
theorem ddq : oDe oc13 62 (.lstore_n 3) 1:=by decide+kernel
theorem ddr : oDe oc13 63 (.lload_n 3) 1:=by decide+kernel
theorem dds : oDe oc13 64 (.lconst 0) 1:=by decide+kernel
theorem ddt : oDe oc13 65 (.lcmp) 1:=by decide+kernel
theorem ddu : oDe oc13 66 (.ifCond .eq 13) 3:=by decide+kernel
theorem ddv : oDe oc13 69 (.iload_n 2) 1:=by decide+kernel
theorem ddw : oDe oc13 70 (.bipush 64) 2:=by decide+kernel
theorem ddx : oDe oc13 72 (.imul) 1:=by decide+kernel
theorem ddy : oDe oc13 73 (.lload_n 3) 1:=by decide+kernel
theorem ddz : oDe oc13 74 (.invokestatic 182) 3:=by decide+kernel
theorem ddA : oDe oc13 77 (.iadd) 1:=by decide+kernel
theorem ddB : oDe oc13 78 (.ireturn) 1:=by decide+kernel
theorem ddC : oDe oc13 79 (.iinc 2 1) 3:=by decide+kernel
theorem ddD : oDe oc13 82 (.iload_n 2) 1:=by decide+kernel
theorem ddE : oDe oc13 83 (.aload_n 0) 1:=by decide+kernel
theorem ddF : oDe oc13 84 (.getfield 7) 3:=by decide+kernel
theorem ddG : oDe oc13 87 (.if_icmp .ne 5) 3:=by decide+kernel
theorem ddH : oDe oc13 90 (.iconst (-1)) 1:=by decide+kernel
theorem ddI : oDe oc13 91 (.ireturn) 1:=by decide+kernel
theorem faq (m : MethodId) (y0 : Addr) (y1 : Int32) : entryFrame m #[(.ref y0), (.int y1)] 5 = mkF m 0 #[oR y0, oI y1, oU, oU, oU] [] := by first | (simp [entryFrame, mkF, argsToLocals, Value.category]; done) | rfl
def Q_rm13_2 (Z : State) (a13_0 : Addr) (p13_1 : Int32) (ww : Addr) (kw : ClassId) (tw : Int64) (h0 : Heap) (n0 : Nat) (v : Option Value) (h : Heap) (L : List Loc) : Prop := v = some (.int (own_nsb p13_1 tw)) ∧ Fr n0 L ∧ h = h0
theorem rm13_2 (hw : own_T Z a0) (a13_0 : Addr) (p13_1 : Int32) (ww : Addr) (kw : ClassId) (tw : Int64) (h0 : Heap) (n0 : Nat) (Z0 : n0 ≤ h0.size) (hn : ¬ (p13_1 < (0 : Int32))) (hu : (p13_1 >>> ((6 : Int32) &&& 31)) = (0 : Int32)) (E_a : Exa Z h0 a13_0 oB) (F_wordsInUse : Fld Z h0 a13_0 oB "wordsInUse" "I" (.int 1)) (F_sizeIsSticky : Fld Z h0 a13_0 oB "sizeIsSticky" "Z" (.int 1)) (F_words : Fld Z h0 a13_0 oB "words" "[J" (.ref ww)) (V_ww : Arv Z h0 ww kw .long (1 : Int32) [(.long tw)] oZ) (Sta1 : Sta Z h0 oB "$assertionsDisabled" "Z" (.int 1)) :
   own_Met l oy13 oc13 5 (some .int) (oRm 2 0 0 29) Z h0 #[(.ref a13_0), (.int p13_1)] (Q_rm13_2 Z a13_0 p13_1 ww kw tw h0 n0) := by
 refine own_go hw (plainFor_of_name pn_13) (fun m => faq m a13_0 p13_1) fun p e s m below meth c T0 C hret X u => ?_
 have N := Fr.nil n0
 refine sI C X dc5 ?_
 refine bY C X dc6 31 ((if0 _ _).trans (flt hn).2.1) ?_
 refine sA C X dc7 ?_
 refine cP C X u (fun ws => rm14 l Z a0 C.w ws a13_0 h0 n0 Z0 Sta1) E_a (W := 0) (wdc C.w) (wdd C.w) (mvT C.z (wdf C.w)) (wde C.w) (wdg C.w) (wcg C.w) (argsL := []) (lenOf pas rfl) dc8 fun _ T1 _ X hQ1 => ?_
 obtain ⟨rfl, Nq1, u⟩ := hQ1
 refine sI C X dc9 ?_
 refine cS C X u (fun ws => rm7 l Z a0 C.w ws p13_1 h0 n0 Z0 ) (W := 0) (wcv C.w) (wcw C.w) (wcx C.w) (wcg C.w) (argsL := [(.int p13_1)]) (lenOf paf rfl) dda fun _ T2 _ X hQ2 => ?_
 obtain ⟨rfl, Nq2, u⟩ := hQ2
 rw [hu]
 refine wI C X #[oR a13_0, oI p13_1, oI 0, oU, oU] ddb ?_
 refine sI C X ddc ?_
 refine gA C X u F_wordsInUse (wcl C.w) ddd dde fun _ X u => ?_
 refine cY C X ddf 50 (by decide) ?_
 refine gA C X u F_words (wcy C.w) ddi ddj fun _ X u => ?_
 refine sI C X ddk ?_
 refine lA C X u V_ww ddl ?_
 refine kJ C X (wa8 C.w) ddm ?_
 refine sI C X ddn ?_
 refine tH C X ddo ?_
 refine tA C X ddp ?_
 refine wL C X #[oR a13_0, oI p13_1, oI 0, oJ (tw &&& ((-1 : Int64) <<< (p13_1 &&& 0x3f).toInt64)), oD] ddq ?_
 refine sL C X ddr ?_
 refine tK C X dds ?_
 refine tC C X ddt ?_
 by_cases h66_5 : (tw &&& ((-1 : Int64) <<< (p13_1 &&& 0x3f).toInt64)) = (0 : Int64)
 · refine bY C X ddu 79 ((if0 _ _).trans (teq ((lw_eq _ _).mpr h66_5)).1) ?_
   refine wc C X #[oR a13_0, oI p13_1, oI 1, oJ (tw &&& ((-1 : Int64) <<< (p13_1 &&& 0x3f).toInt64)), oD] ddC ?_
   refine sI C X ddD ?_
   refine gA C X u F_wordsInUse (wcl C.w) ddE ddF fun _ X u => ?_
   refine cN C X ddG (by decide) ?_
   refine sC C X ddH ?_
   refine rI C X u hret ddI ?_
   exact ⟨(congrArg (fun z => some (Value.int z)) (if_pos h66_5).symm), ((N.app Nq1).app Nq2), rfl⟩
 refine bN C X ddu ((if0 _ _).trans (feq (fun q => h66_5 ((lw_eq _ _).mp q))).1) ?_
 refine sI C X ddv ?_
 refine sB C X ddw ?_
 refine sM C X ddx ?_
 refine sL C X ddy ?_
 refine cB C X u (W := 1) (Jvm.Free.JP.Long_numberOfTrailingZeros_J.pays (tw &&& ((-1 : Int64) <<< (p13_1 &&& 0x3f).toInt64)) (own_tM C) (by decide) (by decide)) (wa9 C.w) (wba C.w) (wbc C.w) (wbb C.w) (argsL := [(.long (tw &&& ((-1 : Int64) <<< (p13_1 &&& 0x3f).toInt64)))]) (lenOf pak rfl) (fun _ => ⟨rfl, trivial⟩) ddz fun _ X u => ?_
 refine sP C X ddA ?_
 refine rI C X u hret ddB ?_
 exact ⟨(congrArg (fun z => some (Value.int z)) (if_neg h66_5).symm), ((N.app Nq1).app Nq2), rfl⟩
theorem fa1 (m : MethodId) (y0 : Addr) : entryFrame m #[(.ref y0), (.int 8)] 2 = mkF m 0 #[oR y0, oI 8] [] := by first | (simp [entryFrame, mkF, argsToLocals, Value.category]; done) | rfl
def Q_rm6_3 (Z : State) (a6_0 : Addr) (h0 : Heap) (n0 : Nat) (v : Option Value) (h : Heap) (L : List Loc) : Prop := ∃ bx6_0 : Addr, ∃ kx6_0 : ClassId, v = none ∧ Fr n0 L ∧ Keep h0 h [a6_0] ∧ own_StK Z h0 h ∧ h0.size ≤ bx6_0 ∧ Exa Z h a6_0 oB ∧ Fld Z h a6_0 oB "wordsInUse" "I" (.int 0) ∧ Fld Z h a6_0 oB "sizeIsSticky" "Z" (.int 0) ∧ Fld Z h a6_0 oB "words" "[J" (.ref bx6_0) ∧ Arv Z h bx6_0 kx6_0 .long (1 : Int32) [oZ] oZ
theorem rm6_3 (hw : own_T Z a0) (a6_0 : Addr) (h0 : Heap) (n0 : Nat) (Z0 : n0 ≤ h0.size) (E_a : Exa Z h0 a6_0 oB) (F_wordsInUse : Fld Z h0 a6_0 oB "wordsInUse" "I" (.int 0)) (F_sizeIsSticky : Fld Z h0 a6_0 oB "sizeIsSticky" "Z" (.int 0)) (F_words : Fld Z h0 a6_0 oB "words" "[J" .null) (g_a6_0 : n0 ≤ a6_0) :
   own_Met l oy6 oc6 2 none (oRm 1 1 1 13) Z h0 #[(.ref a6_0), (.int 8)] (Q_rm6_3 Z a6_0 h0 n0) := by
 refine own_go hw (plainFor_of_name pn_6) (fun m => fa1 m a6_0) fun p e s m below meth c T0 C hret X u => ?_
 have N := Fr.nil n0
 refine sA C X dow ?_
 refine sI C X dox ?_
 refine sC C X doA ?_
 refine sS C X doB ?_
 refine cS C X u (fun ws => rm7 l Z a0 C.w ws (7 : Int32) h0 n0 Z0 ) (W := 1) (wcv C.w) (wcw C.w) (wcx C.w) (wcg C.w) (argsL := [(.int 7)]) (lenOf paf rfl) doC fun _ T1 _ X hQ1 => ?_
 obtain ⟨rfl, Nq1, u⟩ := hQ1
 rw [show ((7 : Int32) >>> ((6 : Int32) &&& 31)) = (0 : Int32) from by decide+kernel]
 refine sC C X doD ?_
 refine sP C X doE ?_
 refine nP C X u (n := 1) 1 [oZ] (wan C.w) doF fun _ h3 k3 b3 g3 X u E3 V_b3 => ?_
 have ne_a6_0_b3 := onm E_a.lt g3
 have sz_b3 : h0.size ≤ b3 := Nat.le_trans (Nat.le_refl _) (Nat.le_of_eq g3.symm)
 have S3 := (own_StK.refl Z h0).ext E3
 have K3 : Keep h0 h3 [a6_0] := (Keep.refl h0 [a6_0]).ext E3
 have f4 := (E_a.ext E3)
 have f5 := (F_words.ext E3)
 refine pF C X u (N.app Nq1) g_a6_0 f5 f4 (ty := (.array .long)) (wcy C.w) (wcA C.w) (wcf C.w) (by decide) doy fun _ h6 _ X u N W6 F6 => ?_
 have S6 := S3.wr W6
 have K6 : Keep h0 h6 [a6_0] := K3.wr W6 (Or.inl (List.mem_of_getElem? (i := 0) rfl))
 have f7 := (f4.wr W6)
 have f8 := ((F_wordsInUse.ext E3).other W6 (Or.inr (osl .int oAL (wcm hw) (wcA hw))))
 have f9 := ((F_sizeIsSticky.ext E3).other W6 (Or.inr (osl .boolean oAL (wcp hw) (wcA hw))))
 have f10 := (V_b3.other W6 ne_a6_0_b3.symm)
 refine rV C X u hret doz ?_
 exact ⟨b3, k3, rfl, N, K6, S6, sz_b3, f7, f8, f9, F6, f10⟩
theorem fav (m : MethodId) (y0 : Addr) : entryFrame m #[(.ref y0), (.int 8)] 2 = mkF m 0 #[oR y0, oI 8] [] := by first | (simp [entryFrame, mkF, argsToLocals, Value.category]; done) | rfl
def Q_rm15_2 (Z : State) (a15_0 : Addr) (h0 : Heap) (n0 : Nat) (v : Option Value) (h : Heap) (L : List Loc) : Prop := ∃ bx15_0 : Addr, ∃ kx15_0 : ClassId, v = none ∧ Fr n0 L ∧ Keep h0 h [a15_0] ∧ own_StK Z h0 h ∧ h0.size ≤ bx15_0 ∧ Exa Z h a15_0 oB ∧ Fld Z h a15_0 oB "wordsInUse" "I" (.int 0) ∧ Fld Z h a15_0 oB "sizeIsSticky" "Z" (.int 1) ∧ Fld Z h a15_0 oB "words" "[J" (.ref bx15_0) ∧ Arv Z h bx15_0 kx15_0 .long (1 : Int32) [oZ] oZ
theorem rm15_2 (hw : own_T Z a0) (a15_0 : Addr) (h0 : Heap) (n0 : Nat) (Z0 : n0 ≤ h0.size) (E_a : Exa Z h0 a15_0 oB) (F_wordsInUse : Fld Z h0 a15_0 oB "wordsInUse" "I" (.int 0)) (F_sizeIsSticky : Fld Z h0 a15_0 oB "sizeIsSticky" "Z" (.int 0)) (F_words : Fld Z h0 a15_0 oB "words" "[J" .null) (g_a15_0 : n0 ≤ a15_0) :
   own_Met l oy15 oc15 2 none (oRm 2 1 1 26) Z h0 #[(.ref a15_0), (.int 8)] (Q_rm15_2 Z a15_0 h0 n0) := by
 refine own_go hw (plainFor_of_name pn_15) (fun m => fav m a15_0) fun p e s m below meth c T0 C hret X u => ?_
 have N := Fr.nil n0
 refine sA C X ddQ ?_
 refine iO C X u (W := 0) (wck C.w) (wbZ C.w) (wb4 C.w) ddR fun _ X u => ?_
 refine sA C X ddW ?_
 refine sC C X dd0 ?_
 refine pF C X u N g_a15_0 F_wordsInUse E_a (ty := .int) (wcl C.w) (wcm C.w) (wcf C.w) (by decide) dd5 fun _ h2 _ X u N W2 F2 => ?_
 have S2 := (own_StK.refl Z h0).wr W2
 have K2 : Keep h0 h2 [a15_0] := (Keep.refl h0 [a15_0]).wr W2 (Or.inl (List.mem_of_getElem? (i := 0) rfl))
 refine sA C X dd6 ?_
 refine sC C X ddS ?_
 have f3 := (E_a.wr W2)
 have f4 := (F_sizeIsSticky.other W2 (Or.inr (osl .boolean .int (wcp hw) (wcm hw))))
 refine pF C X u N g_a15_0 f4 f3 (ty := .boolean) (wcn C.w) (wcp C.w) (wcf C.w) (by decide) ddT fun _ h5 _ X u N W5 F5 => ?_
 have S5 := S2.wr W5
 have K5 : Keep h0 h5 [a15_0] := K2.wr W5 (Or.inl (List.mem_of_getElem? (i := 0) rfl))
 have Z5 : n0 ≤ h5.size := Nat.le_trans Z0 K5.1
 refine sI C X ddU ?_
 refine bY C X ddV 45 (by decide) ?_
 refine sA C X ddX ?_
 refine sI C X ddY ?_
 have f6 := (f3.wr W5)
 have f7 := (F2.other W5 (Or.inr (osl .int .boolean (wcm hw) (wcp hw))))
 have f8 := ((F_words.other W2 (Or.inr (osl oAL .int (wcA hw) (wcm hw)))).other W5 (Or.inr (osl oAL .boolean (wcA hw) (wcp hw))))
 refine cP C X u (rm6_3 l Z a0 C.w a15_0 h5 n0 Z5 f6 f7 F5 f8 g_a15_0) f6 (W := 0) (wcq C.w) (wcr C.w) (mvT C.z (wct C.w)) (wcs C.w) (wcu C.w) (wcg C.w) (argsL := [(.int 8)]) (lenOf pah rfl) ddZ fun _ T9 _ X hQ9 => ?_
 obtain ⟨bx6_0_9, kx6_0_9, rfl, Nq9, Kc9, Sc9, P9_0, P9_1, P9_2, P9_3, P9_4, P9_5⟩ := hQ9
 have S9 := S5.tr Sc9
 have K9 : Keep h0 T9.heap [a15_0] := Keep.trans K5 Kc9 (allS (P := fun x => x ∈ ([a15_0] : List Addr) ∨ h0.size ≤ x) (Or.inl (List.mem_of_getElem? (i := 0) rfl)) all0)
 have sz_bx6_0_9 : h0.size ≤ bx6_0_9 := Nat.le_trans K5.1 P9_0
 have ne_a15_0_bx6_0_9 := onk f6.lt P9_0
 refine sA C X dd1 ?_
 refine sC C X dd2 ?_
 refine pF C X rfl (N.app Nq9) g_a15_0 P9_3 P9_1 (ty := .boolean) (wcn C.w) (wcp C.w) (wcf C.w) (by decide) dd3 fun _ h10 _ X u N W10 F10 => ?_
 have S10 := S9.wr W10
 have K10 : Keep h0 h10 [a15_0] := K9.wr W10 (Or.inl (List.mem_of_getElem? (i := 0) rfl))
 have f11 := (P9_1.wr W10)
 have f12 := (P9_2.other W10 (Or.inr (osl .int .boolean (wcm hw) (wcp hw))))
 have f13 := (P9_4.other W10 (Or.inr (osl oAL .boolean (wcA hw) (wcp hw))))
 have f14 := (P9_5.other W10 ne_a15_0_bx6_0_9.symm)
 refine rV C X u hret dd4 ?_
 exact ⟨bx6_0_9, kx6_0_9, rfl, N, K10, S10, sz_bx6_0_9, f11, f12, F10, f13, f14⟩
theorem faB (m : MethodId)  : entryFrame m #[(.int 0), (.int 2)] 2 = mkF m 0 #[oI 0, oI 2] [] := by first | (simp [entryFrame, mkF, argsToLocals, Value.category]; done) | rfl
def Q_rm17_2 (Z : State)  (h0 : Heap) (n0 : Nat) (v : Option Value) (h : Heap) (L : List Loc) : Prop := v = none ∧ Fr n0 L ∧ h = h0
theorem rm17_2 (hw : own_T Z a0)  (h0 : Heap) (n0 : Nat) (Z0 : n0 ≤ h0.size) :
   own_Met l oy17 oc17 2 none (oRm 0 0 0 0) Z h0 #[(.int 0), (.int 2)] (Q_rm17_2 Z  h0 n0) := by
 refine own_go hw (plainFor_of_name pn_17) (fun m => faB m) fun p e s m below meth c T0 C hret X u => ?_
 have N := Fr.nil n0
 refine sI C X deQ ?_
 refine bY C X deR 31 (by decide) ?_
 refine sI C X deT ?_
 refine bY C X deU 62 (by decide) ?_
 refine sI C X deV ?_
 refine sI C X deW ?_
 refine cY C X deX 103 (by decide) ?_
 refine rV C X u hret deS ?_
 exact ⟨rfl, N, rfl⟩
theorem dea : oDe oc16 11 (.iload_n 1) 1:=by decide+kernel
theorem dec : oDe oc16 12 (.invokestatic 52) 3:=by decide+kernel
theorem deg : oDe oc16 15 (.istore_n 3) 1:=by decide+kernel
theorem deh : oDe oc16 16 (.iload_n 2) 1:=by decide+kernel
theorem dei : oDe oc16 17 (.iconst 1) 1:=by decide+kernel
theorem dej : oDe oc16 18 (.isub) 1:=by decide+kernel
theorem dek : oDe oc16 19 (.invokestatic 52) 3:=by decide+kernel
theorem dem : oDe oc16 22 (.istore 4) 2:=by decide+kernel
theorem den : oDe oc16 24 (.aload_n 0) 1:=by decide+kernel
theorem deo : oDe oc16 25 (.iload 4) 2:=by decide+kernel
theorem dep : oDe oc16 27 (.invokevirtual 155) 3:=by decide+kernel
theorem deq : oDe oc16 30 (.ldc2_w 165) 3:=by decide+kernel
theorem der : oDe oc16 33 (.iload_n 1) 1:=by decide+kernel
theorem des : oDe oc16 34 (.lshl) 1:=by decide+kernel
theorem det : oDe oc16 35 (.lstore 5) 2:=by decide+kernel
theorem deu : oDe oc16 37 (.ldc2_w 165) 3:=by decide+kernel
theorem dev : oDe oc16 40 (.iload_n 2) 1:=by decide+kernel
theorem dew : oDe oc16 41 (.ineg) 1:=by decide+kernel
theorem dex : oDe oc16 42 (.lushr) 1:=by decide+kernel
theorem dey : oDe oc16 43 (.lstore 7) 2:=by decide+kernel
theorem dez : oDe oc16 45 (.iload_n 3) 1:=by decide+kernel
theorem deA : oDe oc16 46 (.iload 4) 2:=by decide+kernel
theorem deB : oDe oc16 48 (.if_icmp .ne 20) 3:=by decide+kernel
theorem deD : oDe oc16 51 (.aload_n 0) 1:=by decide+kernel
theorem deE : oDe oc16 52 (.getfield 11) 3:=by decide+kernel
theorem deF : oDe oc16 55 (.iload_n 3) 1:=by decide+kernel
theorem deG : oDe oc16 56 (.dup2) 1:=by decide+kernel
theorem deH : oDe oc16 57 (.laload) 1:=by decide+kernel
theorem deI : oDe oc16 58 (.lload 5) 2:=by decide+kernel
theorem deK : oDe oc16 60 (.lload 7) 2:=by decide+kernel
theorem deL : oDe oc16 62 (.land) 1:=by decide+kernel
theorem deM : oDe oc16 63 (.lor) 1:=by decide+kernel
theorem deN : oDe oc16 64 (.lastore) 1:=by decide+kernel
theorem deO : oDe oc16 65 (.goto 54) 3:=by decide+kernel
theorem deb : oDe oc16 119 (.aload_n 0) 1:=by decide+kernel
theorem ded : oDe oc16 120 (.invokevirtual 56) 3:=by decide+kernel
theorem dee : oDe oc16 123 (.return_) 1:=by decide+kernel
theorem fay (m : MethodId) (y0 : Addr) : entryFrame m #[(.ref y0), (.int 0), (.int 2)] 10 = mkF m 0 #[oR y0, oI 0, oI 2, oU, oU, oU, oU, oU, oU, oU] [] := by first | (simp [entryFrame, mkF, argsToLocals, Value.category]; done) | rfl
def Q_rm16_2 (Z : State) (a16_0 ww : Addr) (kw : ClassId) (tw : Int64) (h0 : Heap) (n0 : Nat) (v : Option Value) (h : Heap) (L : List Loc) : Prop := v = none ∧ Fr n0 L ∧ Keep h0 h [a16_0, ww] ∧ own_StK Z h0 h ∧ Exa Z h a16_0 oB ∧ Fld Z h a16_0 oB "wordsInUse" "I" (.int 1) ∧ Fld Z h a16_0 oB "sizeIsSticky" "Z" (.int 1) ∧ Fld Z h a16_0 oB "words" "[J" (.ref ww) ∧ Arv Z h ww kw .long (1 : Int32) [(.long (tw ||| (3 : Int64)))] oZ
theorem rm16_2 (hw : own_T Z a0) (a16_0 ww : Addr) (kw : ClassId) (tw : Int64) (h0 : Heap) (n0 : Nat) (Z0 : n0 ≤ h0.size) (E_a : Exa Z h0 a16_0 oB) (F_wordsInUse : Fld Z h0 a16_0 oB "wordsInUse" "I" (.int 0)) (F_sizeIsSticky : Fld Z h0 a16_0 oB "sizeIsSticky" "Z" (.int 1)) (F_words : Fld Z h0 a16_0 oB "words" "[J" (.ref ww)) (V_ww : Arv Z h0 ww kw .long (1 : Int32) [(.long tw)] oZ) (g_a16_0 : n0 ≤ a16_0) (ne_ww_a16_0 : ww ≠ a16_0) (g_ww : n0 ≤ ww) (Sta1 : Sta Z h0 oB "$assertionsDisabled" "Z" (.int 1)) :
   own_Met l oy16 oc16 10 none (oRm 2 0 0 28) Z h0 #[(.ref a16_0), (.int 0), (.int 2)] (Q_rm16_2 Z a16_0 ww kw tw h0 n0) := by
 refine own_go hw (plainFor_of_name pn_16) (fun m => fay m a16_0) fun p e s m below meth c T0 C hret X u => ?_
 have N := Fr.nil n0
 refine sI C X dd7 ?_
 refine sI C X dd8 ?_
 refine cS C X u (rm17_2 l Z a0 C.w  h0 n0 Z0 ) (W := 0) (wdr C.w) (wad C.w) (wae C.w) (wcg C.w) (argsL := [(.int 0), (.int 2)]) (lenOf pac rfl) del fun _ T1 _ X hQ1 => ?_
 obtain ⟨rfl, Nq1, u⟩ := hQ1
 refine sI C X deC ?_
 refine sI C X deJ ?_
 refine cY C X deP 11 (by decide) ?_
 refine sI C X dea ?_
 refine cS C X u (fun ws => rm7 l Z a0 C.w ws (0 : Int32) h0 n0 Z0 ) (W := 0) (wcv C.w) (wcw C.w) (wcx C.w) (wcg C.w) (argsL := [(.int 0)]) (lenOf paf rfl) dec fun _ T2 _ X hQ2 => ?_
 obtain ⟨rfl, Nq2, u⟩ := hQ2
 rw [show ((0 : Int32) >>> ((6 : Int32) &&& 31)) = (0 : Int32) from by decide+kernel]
 refine wI C X #[oR a16_0, oI 0, oI 2, oI 0, oU, oU, oU, oU, oU, oU] deg ?_
 refine sI C X deh ?_
 refine sC C X dei ?_
 refine sS C X dej ?_
 refine cS C X u (fun ws => rm7 l Z a0 C.w ws (1 : Int32) h0 n0 Z0 ) (W := 0) (wcv C.w) (wcw C.w) (wcx C.w) (wcg C.w) (argsL := [(.int 1)]) (lenOf paf rfl) dek fun _ T4 _ X hQ4 => ?_
 obtain ⟨rfl, Nq4, u⟩ := hQ4
 rw [show ((1 : Int32) >>> ((6 : Int32) &&& 31)) = (0 : Int32) from by decide+kernel]
 refine wi C X #[oR a16_0, oI 0, oI 2, oI 0, oI 0, oU, oU, oU, oU, oU] dem ?_
 refine sA C X den ?_
 refine si C X deo ?_
 refine cP C X u (rm21_1 l Z a0 C.w a16_0 ww kw tw h0 n0 Z0 E_a F_wordsInUse F_sizeIsSticky F_words V_ww g_a16_0) E_a (W := 0) (waw C.w) (wax C.w) (mvT C.z (waA C.w)) (waz C.w) (waB C.w) (wcg C.w) (argsL := [(.int 0)]) (lenOf pah rfl) dep fun _ T6 _ X hQ6 => ?_
 obtain ⟨rfl, Nq6, Kc6, Sc6, P6_0, P6_1, P6_2, P6_3⟩ := hQ6
 have S6 := (own_StK.refl Z h0).tr Sc6
 have K6 : Keep h0 T6.heap [a16_0, ww] := Keep.trans (Keep.refl h0 [a16_0, ww]) Kc6 (allS (P := fun x => x ∈ ([a16_0, ww] : List Addr) ∨ h0.size ≤ x) (Or.inl (List.mem_of_getElem? (i := 0) rfl)) all0)
 refine kJ C X (wa8 C.w) deq ?_
 refine sI C X der ?_
 refine tH C X des ?_
 refine wl C X #[oR a16_0, oI 0, oI 2, oI 0, oI 0, oJ (-1), oD, oU, oU, oU] det ?_
 refine kJ C X (wa8 C.w) deu ?_
 refine sI C X dev ?_
 refine sE C X dew ?_
 refine tU C X dex ?_
 refine wl C X #[oR a16_0, oI 0, oI 2, oI 0, oI 0, oJ (-1), oD, oJ 3, oD, oU] dey ?_
 refine sI C X dez ?_
 refine si C X deA ?_
 refine cN C X deB (by decide) ?_
 refine gA C X rfl P6_3 (wcy C.w) deD deE fun T7 X u => ?_
 refine sI C X deF ?_
 show own_Fin p e below _ T7 (mkF m 56 #[oR a16_0, oI 0, oI 2, oI 0, oI 0, oJ (-1), oD, oJ 3, oD, oU] [(.int 0), (.ref ww)])
 refine own_Fin.st (g' := (mkF m 57 #[oR a16_0, oI 0, oI 2, oI 0, oI 0, oJ (-1), oD, oJ 3, oD, oU] [(.int 0), (.ref ww), (.int 0), (.ref ww)])) ?_ (fun t k => by jvm_step X.here [X.here.top, C.1, C.d deG, Value.category]; exact k)
 have f8 := (V_ww.keep Kc6 (ninS ne_ww_a16_0 nin0))
 refine lA C X u f8 deH ?_
 refine sl C X deI ?_
 refine sl C X deK ?_
 refine tA C X deL ?_
 refine tO C X deM ?_
 refine sJ C X u ((((N.app Nq1).app Nq2).app Nq4).app Nq6) g_ww f8 _ deN fun _ h9 _ X u N W9 V9 => ?_
 have S9 := S6.wr W9
 have K9 : Keep h0 h9 [a16_0, ww] := K6.wr W9 (Or.inl (List.mem_of_getElem? (i := 1) rfl))
 have Z9 : n0 ≤ h9.size := Nat.le_trans Z0 K9.1
 refine sG C X deO 119 ?_
 refine sA C X deb ?_
 have f11 := (P6_0.wr W9)
 refine cP C X u (fun ws => rm14 l Z a0 C.w ws a16_0 h9 n0 Z9 (S9 _ _ _ _ Sta1)) f11 (W := 0) (wdc C.w) (wdd C.w) (mvT C.z (wdf C.w)) (wde C.w) (wdg C.w) (wcg C.w) (argsL := []) (lenOf pas rfl) ded fun _ T10 _ X hQ10 => ?_
 obtain ⟨rfl, Nq10, u⟩ := hQ10
 have f12 := (P6_1.other W9 (Or.inl ne_ww_a16_0.symm))
 have f13 := (P6_2.other W9 (Or.inl ne_ww_a16_0.symm))
 have f14 := (P6_3.other W9 (Or.inl ne_ww_a16_0.symm))
 refine rV C X u hret dee ?_
 exact ⟨rfl, (N.app Nq10), K9, S9, f11, f12, f13, f14, V9⟩
theorem faH (m : MethodId)  : entryFrame m #[(.int 16), (.int 8), (.int 16)] 3 = mkF m 0 #[oI 16, oI 8, oI 16] [] := by first | (simp [entryFrame, mkF, argsToLocals, Value.category]; done) | rfl
def Q_rm19_2 (Z : State)  (h0 : Heap) (n0 : Nat) (v : Option Value) (h : Heap) (L : List Loc) : Prop := v = none ∧ Fr n0 L ∧ h = h0
theorem rm19_2 (hw : own_T Z a0)  (h0 : Heap) (n0 : Nat) (Z0 : n0 ≤ h0.size) :
   own_Met l oy19 oc19 3 none (oRm 0 0 0 0) Z h0 #[(.int 16), (.int 8), (.int 16)] (Q_rm19_2 Z  h0 n0) := by
 refine own_go hw (plainFor_of_name pn_19) (fun m => faH m) fun p e s m below meth c T0 C hret X u => ?_
 have N := Fr.nil n0
 refine sI C X dff ?_
 refine sI C X dfg ?_
 refine cY C X dfh 46 (by decide) ?_
 refine sI C X dfi ?_
 refine bY C X dfj 59 (by decide) ?_
 refine sI C X dfk ?_
 refine sI C X dfl ?_
 refine cY C X dfm 73 (by decide) ?_
 refine rV C X u hret dfn ?_
 exact ⟨rfl, N, rfl⟩
theorem faE (m : MethodId) (y0 : Addr) : entryFrame m #[(.ref y0), (.int 8), (.int 16), (.long oM)] 6 = mkF m 0 #[oR y0, oI 8, oI 16, oJ 9223372036854775807, oD, oU] [] := by first | (simp [entryFrame, mkF, argsToLocals, Value.category]; done) | rfl
def Q_rm18_2 (Z : State) (a18_0 : Addr) (kc_a18_0 : ClassId) (t_a18_0_0 t_a18_0_1 t_a18_0_2 t_a18_0_3 t_a18_0_4 t_a18_0_5 t_a18_0_6 t_a18_0_7 t_a18_0_8 t_a18_0_9 t_a18_0_10 t_a18_0_11 t_a18_0_12 t_a18_0_13 t_a18_0_14 t_a18_0_15 : Int64) (h0 : Heap) (n0 : Nat) (v : Option Value) (h : Heap) (L : List Loc) : Prop := v = none ∧ Fr n0 L ∧ Keep h0 h [a18_0] ∧ own_StK Z h0 h ∧ Arv Z h a18_0 kc_a18_0 .long (16 : Int32) [(.long t_a18_0_0), (.long t_a18_0_1), (.long t_a18_0_2), (.long t_a18_0_3), (.long t_a18_0_4), (.long t_a18_0_5), (.long t_a18_0_6), (.long t_a18_0_7), (.long oM), (.long oM), (.long oM), (.long oM), (.long oM), (.long oM), (.long oM), (.long oM)] oZ
theorem rm18_2 (hw : own_T Z a0) (a18_0 : Addr) (kc_a18_0 : ClassId) (t_a18_0_0 t_a18_0_1 t_a18_0_2 t_a18_0_3 t_a18_0_4 t_a18_0_5 t_a18_0_6 t_a18_0_7 t_a18_0_8 t_a18_0_9 t_a18_0_10 t_a18_0_11 t_a18_0_12 t_a18_0_13 t_a18_0_14 t_a18_0_15 : Int64) (h0 : Heap) (n0 : Nat) (Z0 : n0 ≤ h0.size) (V_a18_0 : Arv Z h0 a18_0 kc_a18_0 .long (16 : Int32) [(.long t_a18_0_0), (.long t_a18_0_1), (.long t_a18_0_2), (.long t_a18_0_3), (.long t_a18_0_4), (.long t_a18_0_5), (.long t_a18_0_6), (.long t_a18_0_7), (.long t_a18_0_8), (.long t_a18_0_9), (.long t_a18_0_10), (.long t_a18_0_11), (.long t_a18_0_12), (.long t_a18_0_13), (.long t_a18_0_14), (.long t_a18_0_15)] oZ) (g_a18_0 : n0 ≤ a18_0) :
   own_Met l oy18 oc18 6 none (oRm 1 0 0 14) Z h0 #[(.ref a18_0), (.int 8), (.int 16), (.long oM)] (Q_rm18_2 Z a18_0 kc_a18_0 t_a18_0_0 t_a18_0_1 t_a18_0_2 t_a18_0_3 t_a18_0_4 t_a18_0_5 t_a18_0_6 t_a18_0_7 t_a18_0_8 t_a18_0_9 t_a18_0_10 t_a18_0_11 t_a18_0_12 t_a18_0_13 t_a18_0_14 t_a18_0_15 h0 n0) := by
 refine own_go hw (plainFor_of_name pn_18) (fun m => faE m a18_0) fun p e s m below meth c T0 C hret X u => ?_
 have N := Fr.nil n0
 refine sA C X deY ?_
 refine nA C X u V_a18_0 deZ ?_
 refine sI C X de6 ?_
 refine sI C X dfb ?_
 refine cS C X u (rm19_2 l Z a0 C.w  h0 n0 Z0 ) (W := 0) (wak C.w) (wal C.w) (wam C.w) (wai C.w) (argsL := [(.int 16), (.int 8), (.int 16)]) (lenOf paa rfl) dfc fun _ T1 _ X hQ1 => ?_
 obtain ⟨rfl, Nq1, u⟩ := hQ1
 refine sI C X dfd ?_
 refine wi C X #[oR a18_0, oI 8, oI 16, oJ 9223372036854775807, oD, oI 8] dfe ?_
 refine si C X de0 ?_
 refine sI C X de1 ?_
 refine cN C X de2 (by decide) ?_
 refine sA C X de3 ?_
 refine si C X de4 ?_
 refine sL C X de5 ?_
 refine sJ C X u (N.app Nq1) g_a18_0 V_a18_0 _ de7 fun _ h2 _ X u N W2 V2 => ?_
 have S2 := (own_StK.refl Z h0).wr W2
 have K2 : Keep h0 h2 [a18_0] := (Keep.refl h0 [a18_0]).wr W2 (Or.inl (List.mem_of_getElem? (i := 0) rfl))
 refine wc C X #[oR a18_0, oI 8, oI 16, oJ 9223372036854775807, oD, oI 9] de8 ?_
 refine sG C X de9 10 ?_
 refine si C X de0 ?_
 refine sI C X de1 ?_
 refine cN C X de2 (by decide) ?_
 refine sA C X de3 ?_
 refine si C X de4 ?_
 refine sL C X de5 ?_
 refine sJ C X u N g_a18_0 V2 _ de7 fun _ h3 _ X u N W3 V3 => ?_
 have S3 := S2.wr W3
 have K3 : Keep h0 h3 [a18_0] := K2.wr W3 (Or.inl (List.mem_of_getElem? (i := 0) rfl))
 refine wc C X #[oR a18_0, oI 8, oI 16, oJ 9223372036854775807, oD, oI 10] de8 ?_
 refine sG C X de9 10 ?_
 refine si C X de0 ?_
 refine sI C X de1 ?_
 refine cN C X de2 (by decide) ?_
 refine sA C X de3 ?_
 refine si C X de4 ?_
 refine sL C X de5 ?_
 refine sJ C X u N g_a18_0 V3 _ de7 fun _ h4 _ X u N W4 V4 => ?_
 have S4 := S3.wr W4
 have K4 : Keep h0 h4 [a18_0] := K3.wr W4 (Or.inl (List.mem_of_getElem? (i := 0) rfl))
 refine wc C X #[oR a18_0, oI 8, oI 16, oJ 9223372036854775807, oD, oI 11] de8 ?_
 refine sG C X de9 10 ?_
 refine si C X de0 ?_
 refine sI C X de1 ?_
 refine cN C X de2 (by decide) ?_
 refine sA C X de3 ?_
 refine si C X de4 ?_
 refine sL C X de5 ?_
 refine sJ C X u N g_a18_0 V4 _ de7 fun _ h5 _ X u N W5 V5 => ?_
 have S5 := S4.wr W5
 have K5 : Keep h0 h5 [a18_0] := K4.wr W5 (Or.inl (List.mem_of_getElem? (i := 0) rfl))
 refine wc C X #[oR a18_0, oI 8, oI 16, oJ 9223372036854775807, oD, oI 12] de8 ?_
 refine sG C X de9 10 ?_
 refine si C X de0 ?_
 refine sI C X de1 ?_
 refine cN C X de2 (by decide) ?_
 refine sA C X de3 ?_
 refine si C X de4 ?_
 refine sL C X de5 ?_
 refine sJ C X u N g_a18_0 V5 _ de7 fun _ h6 _ X u N W6 V6 => ?_
 have S6 := S5.wr W6
 have K6 : Keep h0 h6 [a18_0] := K5.wr W6 (Or.inl (List.mem_of_getElem? (i := 0) rfl))
 refine wc C X #[oR a18_0, oI 8, oI 16, oJ 9223372036854775807, oD, oI 13] de8 ?_
 refine sG C X de9 10 ?_
 refine si C X de0 ?_
 refine sI C X de1 ?_
 refine cN C X de2 (by decide) ?_
 refine sA C X de3 ?_
 refine si C X de4 ?_
 refine sL C X de5 ?_
 refine sJ C X u N g_a18_0 V6 _ de7 fun _ h7 _ X u N W7 V7 => ?_
 have S7 := S6.wr W7
 have K7 : Keep h0 h7 [a18_0] := K6.wr W7 (Or.inl (List.mem_of_getElem? (i := 0) rfl))
 refine wc C X #[oR a18_0, oI 8, oI 16, oJ 9223372036854775807, oD, oI 14] de8 ?_
 refine sG C X de9 10 ?_
 refine si C X de0 ?_
 refine sI C X de1 ?_
 refine cN C X de2 (by decide) ?_
 refine sA C X de3 ?_
 refine si C X de4 ?_
 refine sL C X de5 ?_
 refine sJ C X u N g_a18_0 V7 _ de7 fun _ h8 _ X u N W8 V8 => ?_
 have S8 := S7.wr W8
 have K8 : Keep h0 h8 [a18_0] := K7.wr W8 (Or.inl (List.mem_of_getElem? (i := 0) rfl))
 refine wc C X #[oR a18_0, oI 8, oI 16, oJ 9223372036854775807, oD, oI 15] de8 ?_
 refine sG C X de9 10 ?_
 refine si C X de0 ?_
 refine sI C X de1 ?_
 refine cN C X de2 (by decide) ?_
 refine sA C X de3 ?_
 refine si C X de4 ?_
 refine sL C X de5 ?_
 refine sJ C X u N g_a18_0 V8 _ de7 fun _ h9 _ X u N W9 V9 => ?_
 have S9 := S8.wr W9
 have K9 : Keep h0 h9 [a18_0] := K8.wr W9 (Or.inl (List.mem_of_getElem? (i := 0) rfl))
 refine wc C X #[oR a18_0, oI 8, oI 16, oJ 9223372036854775807, oD, oI 16] de8 ?_
 refine sG C X de9 10 ?_
 refine si C X de0 ?_
 refine sI C X de1 ?_
 refine cY C X de2 27 (by decide) ?_
 refine rV C X u hret dfa ?_
 exact ⟨rfl, N, K9, S9, V9⟩
theorem dcT : oDe oc12 83 (.aload_n 3) 1:=by decide+kernel
theorem dcU : oDe oc12 84 (.iload 6) 2:=by decide+kernel
theorem dcV : oDe oc12 86 (.aload_n 0) 1:=by decide+kernel
theorem dcW : oDe oc12 87 (.getfield 9) 3:=by decide+kernel
theorem dcY : oDe oc12 90 (.iload 7) 2:=by decide+kernel
theorem dcZ : oDe oc12 92 (.laload) 1:=by decide+kernel
theorem dc0 : oDe oc12 93 (.lastore) 1:=by decide+kernel
theorem dc1 : oDe oc12 94 (.aload 4) 2:=by decide+kernel
theorem dc2 : oDe oc12 96 (.iload 6) 2:=by decide+kernel
theorem dc3 : oDe oc12 98 (.aload_n 0) 1:=by decide+kernel
theorem dc4 : oDe oc12 99 (.getfield 15) 3:=by decide+kernel
theorem dak : oDe oc12 102 (.iload 7) 2:=by decide+kernel
theorem dal : oDe oc12 104 (.laload) 1:=by decide+kernel
theorem dam : oDe oc12 105 (.lastore) 1:=by decide+kernel
theorem dan : oDe oc12 106 (.aload 5) 2:=by decide+kernel
theorem dao : oDe oc12 108 (.iload 6) 2:=by decide+kernel
theorem dap : oDe oc12 110 (.aload_n 0) 1:=by decide+kernel
theorem daq : oDe oc12 111 (.getfield 18) 3:=by decide+kernel
theorem dar : oDe oc12 114 (.iload 7) 2:=by decide+kernel
theorem das : oDe oc12 116 (.laload) 1:=by decide+kernel
theorem dat : oDe oc12 117 (.lastore) 1:=by decide+kernel
theorem dau : oDe oc12 118 (.iinc 6 1) 3:=by decide+kernel
theorem dav : oDe oc12 121 (.aload_n 0) 1:=by decide+kernel
theorem daw : oDe oc12 122 (.getfield 27) 3:=by decide+kernel
theorem dax : oDe oc12 125 (.iload 7) 2:=by decide+kernel
theorem day : oDe oc12 127 (.iconst 1) 1:=by decide+kernel
theorem daz : oDe oc12 128 (.iadd) 1:=by decide+kernel
theorem daA : oDe oc12 129 (.invokevirtual 50) 3:=by decide+kernel
theorem daC : oDe oc12 132 (.istore 7) 2:=by decide+kernel
theorem daD : oDe oc12 134 (.goto (-56)) 3:=by decide+kernel
theorem dbD : oDe oc12 240 (.aload_n 0) 1:=by decide+kernel
theorem dbE : oDe oc12 241 (.getfield 21) 3:=by decide+kernel
theorem dbF : oDe oc12 244 (.iload_n 1) 1:=by decide+kernel
theorem dbG : oDe oc12 245 (.iload 7) 2:=by decide+kernel
theorem dbH : oDe oc12 247 (.iadd) 1:=by decide+kernel
theorem dbI : oDe oc12 248 (.aload_n 0) 1:=by decide+kernel
theorem dbJ : oDe oc12 249 (.getfield 9) 3:=by decide+kernel
theorem dbL : oDe oc12 252 (.iload 7) 2:=by decide+kernel
theorem dbM : oDe oc12 254 (.laload) 1:=by decide+kernel
theorem dbN : oDe oc12 255 (.aload_n 0) 1:=by decide+kernel
theorem dbO : oDe oc12 256 (.getfield 15) 3:=by decide+kernel
theorem dbP : oDe oc12 259 (.iload 7) 2:=by decide+kernel
theorem dbR : oDe oc12 261 (.iconst 1) 1:=by decide+kernel
theorem dbS : oDe oc12 262 (.isub) 1:=by decide+kernel
theorem dbT : oDe oc12 263 (.laload) 1:=by decide+kernel
theorem dbU : oDe oc12 264 (.lsub) 1:=by decide+kernel
theorem dbV : oDe oc12 265 (.lastore) 1:=by decide+kernel
theorem dbW : oDe oc12 266 (.iinc 7 1) 3:=by decide+kernel
theorem dbX : oDe oc12 269 (.goto (-38)) 3:=by decide+kernel
theorem fan (m : MethodId) (y0 : Addr) : entryFrame m #[(.ref y0), (.int 8)] 8 = mkF m 0 #[oR y0, oI 8, oU, oU, oU, oU, oU, oU] [] := by first | (simp [entryFrame, mkF, argsToLocals, Value.category]; done) | rfl
def Q_rm12_2 (Z : State) (a12_0 : Addr) (rT : Addr) (rF : Addr) (rO : Addr) (rS : Addr) (rE : Addr) (rW : Addr) (kT : ClassId) (kF : ClassId) (kO : ClassId) (kW : ClassId) (bs : Int64) (tm0 : Int64) (tm1 : Int64) (to0 : Int64) (to1 : Int64) (hB : Heap) (h0 : Heap) (n0 : Nat) (v : Option Value) (h : Heap) (L : List Loc) : Prop := v = none ∧ Fr n0 L ∧ ∃ rT' : Addr, ∃ rF' : Addr, ∃ rO' : Addr, ∃ rS' : Addr, ∃ rE' : Addr, ∃ rW' : Addr, ∃ kT' : ClassId, ∃ kF' : ClassId, ∃ kO' : ClassId, ∃ kW' : ClassId, own_Obj Z h n0 a12_0 rT' rF' rO' rS' rE' rW' kT' kF' kO' kW' (0 : Int32) (2 : Int32) (2 : Int32) bs (1 : Int32) (1 : Int32) (3 : Int64) (8 : Int32) [(.long tm0), (.long tm1), oZ, oZ, oZ, oZ, oZ, oZ] [(.long tm0), (.long tm1), oZ, oZ, oZ, oZ, oZ, oZ] [(.long to0), (.long to1), oZ, oZ, oZ, oZ, oZ, oZ] hB ∧ own_Sp8 Z h rS' oM (tm1 - tm0) oM oM oM oM oM oM
theorem rm12_2 (hw : own_T Z a0) (a12_0 rT rF rO rS rE rW : Addr) (kT kF kO kW : ClassId) (bs tm0 tm1 to0 to1 : Int64) (hB : Heap) (h0 : Heap) (n0 : Nat) (Z0 : n0 ≤ h0.size) (O : own_Obj Z h0 n0 a12_0 rT rF rO rS rE rW kT kF kO kW (0 : Int32) (2 : Int32) (2 : Int32) bs (1 : Int32) (1 : Int32) (3 : Int64) (2 : Int32) [(.long tm0), (.long tm1)] [(.long tm0), (.long tm1)] [(.long to0), (.long to1)] hB) (SP : own_Sp2 Z h0 rS oM (tm1 - tm0)) :
   own_Met l oy12 oc12 8 none (oRm 3 6 44 49) Z h0 #[(.ref a12_0), (.int 8)] (Q_rm12_2 Z a12_0 rT rF rO rS rE rW kT kF kO kW bs tm0 tm1 to0 to1 hB h0 n0) := by
 refine own_go hw (plainFor_of_name pn_12) (fun m => fan m a12_0) fun p e s m below meth c T0 C hret X u => ?_
 have N := Fr.nil n0
 obtain ⟨Ea1, Ftimes1, Ffroms1, Ftotals1, Fspans1, Fentries1, Fsize1, Fend1, Ffirst1, Fbase1, Ee1, BwordsInUse1, BsizeIsSticky1, Bwords1, Vt1, Vf1, Vo1, Vw1, St1, g0_1, g1_1, g2_1, g3_1, g4_1, g5_1, g6_1, n0_1, n1_1, n2_1, n3_1, n4_1, n5_1, n6_1, n7_1, n8_1, n9_1, n10_1, n11_1, n12_1, n13_1, n14_1, n15_1, n16_1, n17_1, n18_1, n19_1, n20_1, Lo1⟩ := O
 refine sI C X dah ?_
 refine gA C X u Ftimes1 (wb5 C.w) dai dbf fun _ X u => ?_
 refine nA C X u Vt1 dcB ?_
 refine cN C X dcH (by decide) ?_
 refine sC C X dcX ?_
 refine sG C X daj 14 ?_
 refine wI C X #[oR a12_0, oI 8, oI 1, oU, oU, oU, oU, oU] daH ?_
 refine sI C X daN ?_
 refine bN C X daT (by decide) ?_
 refine sI C X da9 ?_
 refine nP C X u (n := 8) 8 [oZ, oZ, oZ, oZ, oZ, oZ, oZ, oZ] (wan C.w) dbg fun _ h3 k3 b3 g3 X u E3 V_b3 => ?_
 have ne_a12_0_b3 := onl Ea1.lt (Nat.le_refl _) g3
 have ne_rE_b3 := onl Ee1.lt (Nat.le_refl _) g3
 have ne_rT_b3 := onl Vt1.lt (Nat.le_refl _) g3
 have ne_rF_b3 := onl Vf1.lt (Nat.le_refl _) g3
 have ne_rO_b3 := onl Vo1.lt (Nat.le_refl _) g3
 have ne_rW_b3 := onl Vw1.lt (Nat.le_refl _) g3
 have g_b3 : n0 ≤ b3 := Nat.le_trans Z0 (Nat.le_of_eq g3.symm)
 have S3 := (own_StK.refl Z h0).ext E3
 have Y3 : h0.size ≤ h3.size := Nat.le_trans (Nat.le_refl _) E3.1
 refine sG C X dbs 29 ?_
 refine wA C X #[oR a12_0, oI 8, oI 1, oR b3, oU, oU, oU, oU] db9 ?_
 refine sI C X dcg ?_
 refine bN C X dco (by decide) ?_
 refine sI C X dct ?_
 refine nP C X u (n := 8) 8 [oZ, oZ, oZ, oZ, oZ, oZ, oZ, oZ] (wan C.w) dcu fun _ h4 k4 b4 g4 X u E4 V_b4 => ?_
 have ne_a12_0_b4 := onl Ea1.lt Y3 g4
 have ne_rE_b4 := onl Ee1.lt Y3 g4
 have ne_rT_b4 := onl Vt1.lt Y3 g4
 have ne_rF_b4 := onl Vf1.lt Y3 g4
 have ne_rO_b4 := onl Vo1.lt Y3 g4
 have ne_rW_b4 := onl Vw1.lt Y3 g4
 have ne_b3_b4 := onm V_b3.lt g4
 have g_b4 : n0 ≤ b4 := Nat.le_trans (Nat.le_trans Z0 Y3) (Nat.le_of_eq g4.symm)
 have S4 := S3.ext E4
 have Y4 := Nat.le_trans Y3 E4.1
 refine sG C X dcv 44 ?_
 refine wa C X #[oR a12_0, oI 8, oI 1, oR b3, oR b4, oU, oU, oU] dcy ?_
 refine sI C X dcz ?_
 refine bN C X dcA (by decide) ?_
 refine sI C X dcC ?_
 have f5 := (V_b3.ext E4)
 refine nP C X u (n := 8) 8 [oZ, oZ, oZ, oZ, oZ, oZ, oZ, oZ] (wan C.w) dcD fun _ h6 k6 b6 g6 X u E6 V_b6 => ?_
 have ne_a12_0_b6 := onl Ea1.lt Y4 g6
 have ne_rE_b6 := onl Ee1.lt Y4 g6
 have ne_rT_b6 := onl Vt1.lt Y4 g6
 have ne_rF_b6 := onl Vf1.lt Y4 g6
 have ne_rO_b6 := onl Vo1.lt Y4 g6
 have ne_rW_b6 := onl Vw1.lt Y4 g6
 have ne_b3_b6 := onm f5.lt g6
 have ne_b4_b6 := onm V_b4.lt g6
 have g_b6 : n0 ≤ b6 := Nat.le_trans (Nat.le_trans Z0 Y4) (Nat.le_of_eq g6.symm)
 have S6 := S4.ext E6
 have Y6 := Nat.le_trans Y4 E6.1
 refine sG C X dcE 60 ?_
 refine wa C X #[oR a12_0, oI 8, oI 1, oR b3, oR b4, oR b6, oU, oU] dcI ?_
 refine sC C X dcJ ?_
 refine wi C X #[oR a12_0, oI 8, oI 1, oR b3, oR b4, oR b6, oI 0, oU] dcK ?_
 have f7 := (((Fentries1.ext E3).ext E4).ext E6)
 refine gA C X u f7 (wcB C.w) dcL dcM fun _ X u => ?_
 have f9 := (((Ffirst1.ext E3).ext E4).ext E6)
 refine gA C X u f9 (wc4 C.w) dcN dcO fun _ X u => ?_
 have f11 := (((Vw1.ext E3).ext E4).ext E6)
 have f12 := (((Ee1.ext E3).ext E4).ext E6)
 have f13 := (((BwordsInUse1.ext E3).ext E4).ext E6)
 have f14 := (((BsizeIsSticky1.ext E3).ext E4).ext E6)
 have f15 := (((Bwords1.ext E3).ext E4).ext E6)
 refine cV C X u (rm13_2 l Z a0 C.w rE (0 : Int32) rW kW (3 : Int64) h6 n0 (Nat.le_trans Z0 Y6) (by decide+kernel) (by decide+kernel) f12 f13 f14 f15 f11 (S6 _ _ _ _ St1)) f12 (W := 0) (wc7 C.w) (wc8 C.w) (wda C.w) (wc9 C.w) (wdb C.w) (wcg C.w) (argsL := [(.int 0)]) (lenOf paf rfl) dcP fun _ T16 _ X hQ16 => ?_
 obtain ⟨rfl, Nq16, u⟩ := hQ16
 rw [show (own_nsb (0 : Int32) (3 : Int64)) = (0 : Int32) from by decide+kernel]
 refine wi C X #[oR a12_0, oI 8, oI 1, oR b3, oR b4, oR b6, oI 0, oI 0] dcQ ?_
 refine si C X dcR ?_
 refine bN C X dcS (by decide) ?_
 refine sA C X dcT ?_
 refine si C X dcU ?_
 have f18 := (((Ftimes1.ext E3).ext E4).ext E6)
 refine gA C X u f18 (wb5 C.w) dcV dcW fun _ X u => ?_
 refine si C X dcY ?_
 have f20 := (((Vt1.ext E3).ext E4).ext E6)
 refine lA C X u f20 dcZ ?_
 have f21 := (f5.ext E6)
 refine sJ C X u (N.app Nq16) g_b3 f21 _ dc0 fun _ h22 _ X u N W22 V22 => ?_
 have S22 := S6.wr W22
 have Y22 := oyw Y6 W22
 refine sa C X dc1 ?_
 refine si C X dc2 ?_
 have f23 := ((((Ffroms1.ext E3).ext E4).ext E6).other W22 (Or.inl ne_a12_0_b3))
 refine gA C X u f23 (wb7 C.w) dc3 dc4 fun _ X u => ?_
 refine si C X dak ?_
 have f25 := ((((Vf1.ext E3).ext E4).ext E6).other W22 ne_rF_b3)
 refine lA C X u f25 dal ?_
 have f26 := ((V_b4.ext E6).other W22 ne_b3_b4.symm)
 refine sJ C X u N g_b4 f26 _ dam fun _ h27 _ X u N W27 V27 => ?_
 have S27 := S22.wr W27
 have Y27 := oyw Y22 W27
 refine sa C X dan ?_
 refine si C X dao ?_
 have f28 := (((((Ftotals1.ext E3).ext E4).ext E6).other W22 (Or.inl ne_a12_0_b3)).other W27 (Or.inl ne_a12_0_b4))
 refine gA C X u f28 (wb9 C.w) dap daq fun _ X u => ?_
 refine si C X dar ?_
 have f30 := (((((Vo1.ext E3).ext E4).ext E6).other W22 ne_rO_b3).other W27 ne_rO_b4)
 refine lA C X u f30 das ?_
 have f31 := ((V_b6.other W22 ne_b3_b6.symm).other W27 ne_b4_b6.symm)
 refine sJ C X u N g_b6 f31 _ dat fun _ h32 _ X u N W32 V32 => ?_
 have S32 := S27.wr W32
 have Y32 := oyw Y27 W32
 refine wc C X #[oR a12_0, oI 8, oI 1, oR b3, oR b4, oR b6, oI 1, oI 0] dau ?_
 have f33 := (((f7.other W22 (Or.inl ne_a12_0_b3)).other W27 (Or.inl ne_a12_0_b4)).other W32 (Or.inl ne_a12_0_b6))
 refine gA C X u f33 (wcB C.w) dav daw fun _ X u => ?_
 refine si C X dax ?_
 refine sC C X day ?_
 refine sP C X daz ?_
 have f35 := (((f11.other W22 ne_rW_b3).other W27 ne_rW_b4).other W32 ne_rW_b6)
 have f36 := (((f12.wr W22).wr W27).wr W32)
 have f37 := (((f13.other W22 (Or.inl ne_rE_b3)).other W27 (Or.inl ne_rE_b4)).other W32 (Or.inl ne_rE_b6))
 have f38 := (((f14.other W22 (Or.inl ne_rE_b3)).other W27 (Or.inl ne_rE_b4)).other W32 (Or.inl ne_rE_b6))
 have f39 := (((f15.other W22 (Or.inl ne_rE_b3)).other W27 (Or.inl ne_rE_b4)).other W32 (Or.inl ne_rE_b6))
 refine cV C X u (rm13_2 l Z a0 C.w rE (1 : Int32) rW kW (3 : Int64) h32 n0 (Nat.le_trans Z0 Y32) (by decide+kernel) (by decide+kernel) f36 f37 f38 f39 f35 (S32 _ _ _ _ St1)) f36 (W := 0) (wc7 C.w) (wc8 C.w) (wda C.w) (wc9 C.w) (wdb C.w) (wcg C.w) (argsL := [(.int 1)]) (lenOf paf rfl) daA fun _ T40 _ X hQ40 => ?_
 obtain ⟨rfl, Nq40, u⟩ := hQ40
 rw [show (own_nsb (1 : Int32) (3 : Int64)) = (1 : Int32) from by decide+kernel]
 refine wi C X #[oR a12_0, oI 8, oI 1, oR b3, oR b4, oR b6, oI 1, oI 1] daC ?_
 refine sG C X daD 78 ?_
 refine si C X dcR ?_
 refine bN C X dcS (by decide) ?_
 refine sA C X dcT ?_
 refine si C X dcU ?_
 have f42 := (((f18.other W22 (Or.inl ne_a12_0_b3)).other W27 (Or.inl ne_a12_0_b4)).other W32 (Or.inl ne_a12_0_b6))
 refine gA C X u f42 (wb5 C.w) dcV dcW fun _ X u => ?_
 refine si C X dcY ?_
 have f44 := (((f20.other W22 ne_rT_b3).other W27 ne_rT_b4).other W32 ne_rT_b6)
 refine lA C X u f44 dcZ ?_
 have f45 := ((V22.other W27 ne_b3_b4).other W32 ne_b3_b6)
 refine sJ C X u (N.app Nq40) g_b3 f45 _ dc0 fun _ h46 _ X u N W46 V46 => ?_
 have S46 := S32.wr W46
 have Y46 := oyw Y32 W46
 refine sa C X dc1 ?_
 refine si C X dc2 ?_
 have f47 := (((f23.other W27 (Or.inl ne_a12_0_b4)).other W32 (Or.inl ne_a12_0_b6)).other W46 (Or.inl ne_a12_0_b3))
 refine gA C X u f47 (wb7 C.w) dc3 dc4 fun _ X u => ?_
 refine si C X dak ?_
 have f49 := (((f25.other W27 ne_rF_b4).other W32 ne_rF_b6).other W46 ne_rF_b3)
 refine lA C X u f49 dal ?_
 have f50 := ((V27.other W32 ne_b4_b6).other W46 ne_b3_b4.symm)
 refine sJ C X u N g_b4 f50 _ dam fun _ h51 _ X u N W51 V51 => ?_
 have S51 := S46.wr W51
 have Y51 := oyw Y46 W51
 refine sa C X dan ?_
 refine si C X dao ?_
 have f52 := (((f28.other W32 (Or.inl ne_a12_0_b6)).other W46 (Or.inl ne_a12_0_b3)).other W51 (Or.inl ne_a12_0_b4))
 refine gA C X u f52 (wb9 C.w) dap daq fun _ X u => ?_
 refine si C X dar ?_
 have f54 := (((f30.other W32 ne_rO_b6).other W46 ne_rO_b3).other W51 ne_rO_b4)
 refine lA C X u f54 das ?_
 have f55 := ((V32.other W46 ne_b3_b6.symm).other W51 ne_b4_b6.symm)
 refine sJ C X u N g_b6 f55 _ dat fun _ h56 _ X u N W56 V56 => ?_
 have S56 := S51.wr W56
 have Y56 := oyw Y51 W56
 refine wc C X #[oR a12_0, oI 8, oI 1, oR b3, oR b4, oR b6, oI 2, oI 1] dau ?_
 have f57 := (((f33.other W46 (Or.inl ne_a12_0_b3)).other W51 (Or.inl ne_a12_0_b4)).other W56 (Or.inl ne_a12_0_b6))
 refine gA C X u f57 (wcB C.w) dav daw fun _ X u => ?_
 refine si C X dax ?_
 refine sC C X day ?_
 refine sP C X daz ?_
 have f59 := (((f35.other W46 ne_rW_b3).other W51 ne_rW_b4).other W56 ne_rW_b6)
 have f60 := (((f36.wr W46).wr W51).wr W56)
 have f61 := (((f37.other W46 (Or.inl ne_rE_b3)).other W51 (Or.inl ne_rE_b4)).other W56 (Or.inl ne_rE_b6))
 have f62 := (((f38.other W46 (Or.inl ne_rE_b3)).other W51 (Or.inl ne_rE_b4)).other W56 (Or.inl ne_rE_b6))
 have f63 := (((f39.other W46 (Or.inl ne_rE_b3)).other W51 (Or.inl ne_rE_b4)).other W56 (Or.inl ne_rE_b6))
 refine cV C X u (rm13_2 l Z a0 C.w rE (2 : Int32) rW kW (3 : Int64) h56 n0 (Nat.le_trans Z0 Y56) (by decide+kernel) (by decide+kernel) f60 f61 f62 f63 f59 (S56 _ _ _ _ St1)) f60 (W := 0) (wc7 C.w) (wc8 C.w) (wda C.w) (wc9 C.w) (wdb C.w) (wcg C.w) (argsL := [(.int 2)]) (lenOf paf rfl) daA fun _ T64 _ X hQ64 => ?_
 obtain ⟨rfl, Nq64, u⟩ := hQ64
 rw [show (own_nsb (2 : Int32) (3 : Int64)) = (-1 : Int32) from by decide+kernel]
 refine wi C X #[oR a12_0, oI 8, oI 1, oR b3, oR b4, oR b6, oI 2, oI (-1)] daC ?_
 refine sG C X daD 78 ?_
 refine si C X dcR ?_
 refine bY C X dcS 137 (by decide) ?_
 refine sA C X daE ?_
 refine sA C X daF ?_
 have f66 := (((((((((Ea1.ext E3).ext E4).ext E6).wr W22).wr W27).wr W32).wr W46).wr W51).wr W56)
 have f67 := (((f42.other W46 (Or.inl ne_a12_0_b3)).other W51 (Or.inl ne_a12_0_b4)).other W56 (Or.inl ne_a12_0_b6))
 refine pF C X u (N.app Nq64) g0_1 f67 f66 (ty := (.array .long)) (wb5 C.w) (wb6 C.w) (waU C.w) (by decide) daG fun _ h68 _ X u N W68 F68 => ?_
 have S68 := S56.wr W68
 have Y68 := oyw Y56 W68
 refine sA C X daI ?_
 refine sa C X daJ ?_
 have f69 := (f66.wr W68)
 have f70 := (((f47.other W51 (Or.inl ne_a12_0_b4)).other W56 (Or.inl ne_a12_0_b6)).other W68 (Or.inr (osl oAL oAL (wb8 hw) (wb6 hw))))
 refine pF C X u N g0_1 f70 f69 (ty := (.array .long)) (wb7 C.w) (wb8 C.w) (waU C.w) (by decide) daK fun _ h71 _ X u N W71 F71 => ?_
 have S71 := S68.wr W71
 have Y71 := oyw Y68 W71
 refine sA C X daL ?_
 refine sa C X daM ?_
 have f72 := (f69.wr W71)
 have f73 := (((f52.other W56 (Or.inl ne_a12_0_b6)).other W68 (Or.inr (osl oAL oAL (wca hw) (wb6 hw)))).other W71 (Or.inr (osl oAL oAL (wca hw) (wb8 hw))))
 refine pF C X u N g0_1 f73 f72 (ty := (.array .long)) (wb9 C.w) (wca C.w) (waU C.w) (by decide) daO fun _ h74 _ X u N W74 F74 => ?_
 have S74 := S71.wr W74
 have Y74 := oyw Y71 W74
 refine sI C X daP ?_
 refine bN C X daQ (by decide) ?_
 refine sA C X daR ?_
 have f75 := (((((V46.other W51 ne_b3_b4).other W56 ne_b3_b6).other W68 ne_a12_0_b3.symm).other W71 ne_a12_0_b3.symm).other W74 ne_a12_0_b3.symm)
 have f76 := ((((V51.other W56 ne_b4_b6).other W68 ne_a12_0_b4.symm).other W71 ne_a12_0_b4.symm).other W74 ne_a12_0_b4.symm)
 have f77 := (((V56.other W68 ne_a12_0_b6.symm).other W71 ne_a12_0_b6.symm).other W74 ne_a12_0_b6.symm)
 refine nO C X u (wce C.w) (wcf C.w) (wcg C.w) daS fun _ h78 b78 g78 X u E78 A78 D78 => ?_
 have ne_a12_0_b78 := onl Ea1.lt Y74 g78
 have ne_b3_b78 := onm f75.lt g78
 have ne_b4_b78 := onm f76.lt g78
 have ne_b6_b78 := onm f77.lt g78
 have F_wordsInUse_b78 : Fld Z h78 b78 oB "wordsInUse" "I" (.int 0) := D78 (Or.inl (wcm hw)) (ty := .int) (by decide)
 have F_sizeIsSticky_b78 : Fld Z h78 b78 oB "sizeIsSticky" "Z" (.int 0) := D78 (Or.inl (wcp hw)) (ty := .boolean) (by decide)
 have F_words_b78 : Fld Z h78 b78 oB "words" "[J" .null := D78 (Or.inl (wcA hw)) (ty := (.array .long)) (by decide)
 have g_b78 : n0 ≤ b78 := Nat.le_trans (Nat.le_trans Z0 Y74) (Nat.le_of_eq g78.symm)
 have S78 := S74.ext E78
 have Y78 := Nat.le_trans Y74 E78.1
 refine sD C X daU ?_
 refine sI C X daV ?_
 have f80 := ((f72.wr W74).ext E78)
 have f87 := (f75.ext E78)
 have f88 := (f76.ext E78)
 have f89 := (f77.ext E78)
 refine cI C X u (rm15_2 l Z a0 C.w b78 h78 n0 (Nat.le_trans Z0 Y78) A78 F_wordsInUse_b78 F_sizeIsSticky_b78 F_words_b78 g_b78) (W := 2) (wdj C.w) (wdk C.w) (wdl C.w) (wcg C.w) (argsL := [(.int 8)]) (lenOf pah rfl) daW fun _ T79 _ X hQ79 => ?_
 obtain ⟨bx15_0_79, kx15_0_79, rfl, Nq79, Kc79, Sc79, P79_0, P79_1, P79_2, P79_3, P79_4, P79_5⟩ := hQ79
 have S79 := S78.tr Sc79
 have Y79 := Nat.le_trans Y78 Kc79.1
 have g_bx15_0_79 : n0 ≤ bx15_0_79 := Nat.le_trans (Nat.le_trans Z0 Y78) P79_0
 have ne_a12_0_bx15_0_79 := onk f80.lt P79_0
 have ne_b3_bx15_0_79 := onk f87.lt P79_0
 have ne_b4_bx15_0_79 := onk f88.lt P79_0
 have ne_b6_bx15_0_79 := onk f89.lt P79_0
 have ne_b78_bx15_0_79 := onk A78.lt P79_0
 have f90 := (f80.keep Kc79)
 have f91 := (((((f57.other W68 (Or.inr (osl oOB oAL (wcC hw) (wb6 hw)))).other W71 (Or.inr (osl oOB oAL (wcC hw) (wb8 hw)))).other W74 (Or.inr (osl oOB oAL (wcC hw) (wca hw)))).ext E78).keep Kc79 (ninS ne_a12_0_b78 nin0))
 refine pF C X rfl (N.app Nq79) g0_1 f91 f90 (ty := (.object oB)) (wcB C.w) (wcC C.w) (waU C.w) (by decide) daX fun _ h92 _ X u N W92 F92 => ?_
 have S92 := S79.wr W92
 have Y92 := oyw Y79 W92
 refine sA C X daY ?_
 refine sC C X daZ ?_
 refine sI C X da0 ?_
 refine sM C X da1 ?_
 have f93 := ((f87.keep Kc79 (ninS ne_b3_b78 nin0)).other W92 ne_a12_0_b3.symm)
 have f94 := ((f88.keep Kc79 (ninS ne_b4_b78 nin0)).other W92 ne_a12_0_b4.symm)
 have f95 := ((f89.keep Kc79 (ninS ne_b6_b78 nin0)).other W92 ne_a12_0_b6.symm)
 have f96 := (P79_1.wr W92)
 have f97 := (P79_5.other W92 ne_a12_0_bx15_0_79.symm)
 refine nP C X u (n := 16) 16 [oZ, oZ, oZ, oZ, oZ, oZ, oZ, oZ, oZ, oZ, oZ, oZ, oZ, oZ, oZ, oZ] (wan C.w) da2 fun _ h98 k98 b98 g98 X u E98 V_b98 => ?_
 have ne_a12_0_b98 := onl Ea1.lt Y92 g98
 have ne_b3_b98 := onm f93.lt g98
 have ne_b4_b98 := onm f94.lt g98
 have ne_b6_b98 := onm f95.lt g98
 have ne_b78_b98 := onm f96.lt g98
 have ne_bx15_0_79_b98 := onm f97.lt g98
 have g_b98 : n0 ≤ b98 := Nat.le_trans (Nat.le_trans Z0 Y92) (Nat.le_of_eq g98.symm)
 have S98 := S92.ext E98
 have Y98 := Nat.le_trans Y92 E98.1
 have f99 := ((f90.wr W92).ext E98)
 have f100 := ((((((((((((((((Fspans1.ext E3).ext E4).ext E6).other W22 (Or.inl ne_a12_0_b3)).other W27 (Or.inl ne_a12_0_b4)).other W32 (Or.inl ne_a12_0_b6)).other W46 (Or.inl ne_a12_0_b3)).other W51 (Or.inl ne_a12_0_b4)).other W56 (Or.inl ne_a12_0_b6)).other W68 (Or.inr (osl oAL oAL (wcc hw) (wb6 hw)))).other W71 (Or.inr (osl oAL oAL (wcc hw) (wb8 hw)))).other W74 (Or.inr (osl oAL oAL (wcc hw) (wca hw)))).ext E78).keep Kc79 (ninS ne_a12_0_b78 nin0)).other W92 (Or.inr (osl oAL oOB (wcc hw) (wcC hw)))).ext E98)
 refine pF C X u N g0_1 f100 f99 (ty := (.array .long)) (wcb C.w) (wcc C.w) (waU C.w) (by decide) da3 fun _ h101 _ X u N W101 F101 => ?_
 have S101 := S98.wr W101
 have Y101 := oyw Y98 W101
 refine sG C X da4 189 ?_
 have f102 := ((F92.ext E98).other W101 (Or.inr (osl oOB oAL (wcC hw) (wcc hw))))
 refine gA C X u f102 (wcB C.w) da8 dba fun _ X u => ?_
 refine sC C X dbb ?_
 have f104 := (((((((((((((((((Fsize1.ext E3).ext E4).ext E6).other W22 (Or.inl ne_a12_0_b3)).other W27 (Or.inl ne_a12_0_b4)).other W32 (Or.inl ne_a12_0_b6)).other W46 (Or.inl ne_a12_0_b3)).other W51 (Or.inl ne_a12_0_b4)).other W56 (Or.inl ne_a12_0_b6)).other W68 (Or.inr (osl .int oAL (wcJ hw) (wb6 hw)))).other W71 (Or.inr (osl .int oAL (wcJ hw) (wb8 hw)))).other W74 (Or.inr (osl .int oAL (wcJ hw) (wca hw)))).ext E78).keep Kc79 (ninS ne_a12_0_b78 nin0)).other W92 (Or.inr (osl .int oOB (wcJ hw) (wcC hw)))).ext E98).other W101 (Or.inr (osl .int oAL (wcJ hw) (wcc hw))))
 refine gA C X u f104 (wcI C.w) dbc dbd fun _ X u => ?_
 have f106 := ((f97.ext E98).other W101 ne_a12_0_bx15_0_79.symm)
 have f107 := ((f96.ext E98).wr W101)
 have f108 := (((P79_2.other W92 (Or.inl ne_a12_0_b78.symm)).ext E98).other W101 (Or.inl ne_a12_0_b78.symm))
 have f109 := (((P79_3.other W92 (Or.inl ne_a12_0_b78.symm)).ext E98).other W101 (Or.inl ne_a12_0_b78.symm))
 have f110 := (((P79_4.other W92 (Or.inl ne_a12_0_b78.symm)).ext E98).other W101 (Or.inl ne_a12_0_b78.symm))
 refine cV C X u (rm16_2 l Z a0 C.w b78 bx15_0_79 kx15_0_79 (0 : Int64) h101 n0 (Nat.le_trans Z0 Y101) f107 f108 f109 f110 f106 g_b78 ne_b78_bx15_0_79.symm g_bx15_0_79 (S101 _ _ _ _ St1)) f107 (W := 0) (wdm C.w) (wdn C.w) (wdp C.w) (wdo C.w) (wdq C.w) (wcg C.w) (argsL := [(.int 0), (.int 2)]) (lenOf pac rfl) dbe fun _ T111 _ X hQ111 => ?_
 obtain ⟨rfl, Nq111, Kc111, Sc111, P111_0, P111_1, P111_2, P111_3, P111_4⟩ := hQ111
 have S111 := S101.tr Sc111
 rw [show ((0 : Int64) ||| (3 : Int64)) = (3 : Int64) from by decide+kernel] at P111_4
 refine sA C X dbh ?_
 refine sC C X dbi ?_
 have f112 := ((f99.wr W101).keep Kc111)
 have f113 := (((((((((((((((f9.other W22 (Or.inl ne_a12_0_b3)).other W27 (Or.inl ne_a12_0_b4)).other W32 (Or.inl ne_a12_0_b6)).other W46 (Or.inl ne_a12_0_b3)).other W51 (Or.inl ne_a12_0_b4)).other W56 (Or.inl ne_a12_0_b6)).other W68 (Or.inr (osl .int oAL (wc5 hw) (wb6 hw)))).other W71 (Or.inr (osl .int oAL (wc5 hw) (wb8 hw)))).other W74 (Or.inr (osl .int oAL (wc5 hw) (wca hw)))).ext E78).keep Kc79 (ninS ne_a12_0_b78 nin0)).other W92 (Or.inr (osl .int oOB (wc5 hw) (wcC hw)))).ext E98).other W101 (Or.inr (osl .int oAL (wc5 hw) (wcc hw)))).keep Kc111 (ninS ne_a12_0_b78 (ninS ne_a12_0_bx15_0_79 nin0)))
 refine pF C X rfl (N.app Nq111) g0_1 f113 f112 (ty := .int) (wc4 C.w) (wc5 C.w) (waU C.w) (by decide) dbj fun _ h114 _ X u N W114 F114 => ?_
 have S114 := S111.wr W114
 refine sA C X dbk ?_
 have f115 := ((f104.keep Kc111 (ninS ne_a12_0_b78 (ninS ne_a12_0_bx15_0_79 nin0))).other W114 (Or.inr (osl .int .int (wcJ hw) (wc5 hw))))
 refine gA C X u f115 (wcI C.w) dbl dbm fun _ X u => ?_
 have f117 := (f112.wr W114)
 have f118 := (((((((((((((((((((Fend1.ext E3).ext E4).ext E6).other W22 (Or.inl ne_a12_0_b3)).other W27 (Or.inl ne_a12_0_b4)).other W32 (Or.inl ne_a12_0_b6)).other W46 (Or.inl ne_a12_0_b3)).other W51 (Or.inl ne_a12_0_b4)).other W56 (Or.inl ne_a12_0_b6)).other W68 (Or.inr (osl .int oAL (wcM hw) (wb6 hw)))).other W71 (Or.inr (osl .int oAL (wcM hw) (wb8 hw)))).other W74 (Or.inr (osl .int oAL (wcM hw) (wca hw)))).ext E78).keep Kc79 (ninS ne_a12_0_b78 nin0)).other W92 (Or.inr (osl .int oOB (wcM hw) (wcC hw)))).ext E98).other W101 (Or.inr (osl .int oAL (wcM hw) (wcc hw)))).keep Kc111 (ninS ne_a12_0_b78 (ninS ne_a12_0_bx15_0_79 nin0))).other W114 (Or.inr (osl .int .int (wcM hw) (wc5 hw))))
 refine pF C X u N g0_1 f118 f117 (ty := .int) (wcL C.w) (wcM C.w) (waU C.w) (by decide) dbn fun _ h119 _ X u N W119 F119 => ?_
 have S119 := S114.wr W119
 have f120 := ((((V_b98.other W101 ne_a12_0_b98.symm).keep Kc111 (ninS ne_b78_b98.symm (ninS ne_bx15_0_79_b98.symm nin0))).other W114 ne_a12_0_b98.symm).other W119 ne_a12_0_b98.symm)
 have f121 := (f117.wr W119)
 have f122 := ((((((((((F68.other W71 (Or.inr (osl oAL oAL (wb6 hw) (wb8 hw)))).other W74 (Or.inr (osl oAL oAL (wb6 hw) (wca hw)))).ext E78).keep Kc79 (ninS ne_a12_0_b78 nin0)).other W92 (Or.inr (osl oAL oOB (wb6 hw) (wcC hw)))).ext E98).other W101 (Or.inr (osl oAL oAL (wb6 hw) (wcc hw)))).keep Kc111 (ninS ne_a12_0_b78 (ninS ne_a12_0_bx15_0_79 nin0))).other W114 (Or.inr (osl oAL .int (wb6 hw) (wc5 hw)))).other W119 (Or.inr (osl oAL .int (wb6 hw) (wcM hw))))
 have f123 := (((((((((F71.other W74 (Or.inr (osl oAL oAL (wb8 hw) (wca hw)))).ext E78).keep Kc79 (ninS ne_a12_0_b78 nin0)).other W92 (Or.inr (osl oAL oOB (wb8 hw) (wcC hw)))).ext E98).other W101 (Or.inr (osl oAL oAL (wb8 hw) (wcc hw)))).keep Kc111 (ninS ne_a12_0_b78 (ninS ne_a12_0_bx15_0_79 nin0))).other W114 (Or.inr (osl oAL .int (wb8 hw) (wc5 hw)))).other W119 (Or.inr (osl oAL .int (wb8 hw) (wcM hw))))
 have f124 := ((((((((F74.ext E78).keep Kc79 (ninS ne_a12_0_b78 nin0)).other W92 (Or.inr (osl oAL oOB (wca hw) (wcC hw)))).ext E98).other W101 (Or.inr (osl oAL oAL (wca hw) (wcc hw)))).keep Kc111 (ninS ne_a12_0_b78 (ninS ne_a12_0_bx15_0_79 nin0))).other W114 (Or.inr (osl oAL .int (wca hw) (wc5 hw)))).other W119 (Or.inr (osl oAL .int (wca hw) (wcM hw))))
 have f125 := (((F101.keep Kc111 (ninS ne_a12_0_b78 (ninS ne_a12_0_bx15_0_79 nin0))).other W114 (Or.inr (osl oAL .int (wcc hw) (wc5 hw)))).other W119 (Or.inr (osl oAL .int (wcc hw) (wcM hw))))
 have f126 := (((f102.keep Kc111 (ninS ne_a12_0_b78 (ninS ne_a12_0_bx15_0_79 nin0))).other W114 (Or.inr (osl oOB .int (wcC hw) (wc5 hw)))).other W119 (Or.inr (osl oOB .int (wcC hw) (wcM hw))))
 have f127 := (f115.other W119 (Or.inr (osl .int .int (wcJ hw) (wcM hw))))
 have f128 := (F114.other W119 (Or.inr (osl .int .int (wc5 hw) (wcM hw))))
 have f129 := ((((((((((((((((((((Fbase1.ext E3).ext E4).ext E6).other W22 (Or.inl ne_a12_0_b3)).other W27 (Or.inl ne_a12_0_b4)).other W32 (Or.inl ne_a12_0_b6)).other W46 (Or.inl ne_a12_0_b3)).other W51 (Or.inl ne_a12_0_b4)).other W56 (Or.inl ne_a12_0_b6)).other W68 (Or.inr (osl .long oAL (waq hw) (wb6 hw)))).other W71 (Or.inr (osl .long oAL (waq hw) (wb8 hw)))).other W74 (Or.inr (osl .long oAL (waq hw) (wca hw)))).ext E78).keep Kc79 (ninS ne_a12_0_b78 nin0)).other W92 (Or.inr (osl .long oOB (waq hw) (wcC hw)))).ext E98).other W101 (Or.inr (osl .long oAL (waq hw) (wcc hw)))).keep Kc111 (ninS ne_a12_0_b78 (ninS ne_a12_0_bx15_0_79 nin0))).other W114 (Or.inr (osl .long .int (waq hw) (wc5 hw)))).other W119 (Or.inr (osl .long .int (waq hw) (wcM hw))))
 have f130 := ((P111_0.wr W114).wr W119)
 have f131 := ((P111_1.other W114 (Or.inl ne_a12_0_b78.symm)).other W119 (Or.inl ne_a12_0_b78.symm))
 have f132 := ((P111_2.other W114 (Or.inl ne_a12_0_b78.symm)).other W119 (Or.inl ne_a12_0_b78.symm))
 have f133 := ((P111_3.other W114 (Or.inl ne_a12_0_b78.symm)).other W119 (Or.inl ne_a12_0_b78.symm))
 have f134 := (((((f93.ext E98).other W101 ne_a12_0_b3.symm).keep Kc111 (ninS ne_b3_b78 (ninS ne_b3_bx15_0_79 nin0))).other W114 ne_a12_0_b3.symm).other W119 ne_a12_0_b3.symm)
 have f135 := (((((f94.ext E98).other W101 ne_a12_0_b4.symm).keep Kc111 (ninS ne_b4_b78 (ninS ne_b4_bx15_0_79 nin0))).other W114 ne_a12_0_b4.symm).other W119 ne_a12_0_b4.symm)
 have f136 := (((((f95.ext E98).other W101 ne_a12_0_b6.symm).keep Kc111 (ninS ne_b6_b78 (ninS ne_b6_bx15_0_79 nin0))).other W114 ne_a12_0_b6.symm).other W119 ne_a12_0_b6.symm)
 have f137 := ((P111_4.other W114 ne_a12_0_bx15_0_79.symm).other W119 ne_a12_0_bx15_0_79.symm)
 have Op138 : own_Obj Z h119 n0 a12_0 b3 b4 b6 b98 b78 bx15_0_79 k3 k4 k6 kx15_0_79 (0 : Int32) (2 : Int32) (2 : Int32) bs (1 : Int32) (1 : Int32) (3 : Int64) (8 : Int32) [(.long tm0), (.long tm1), oZ, oZ, oZ, oZ, oZ, oZ] [(.long tm0), (.long tm1), oZ, oZ, oZ, oZ, oZ, oZ] [(.long to0), (.long to1), oZ, oZ, oZ, oZ, oZ, oZ] hB := ⟨f121, f122, f123, f124, f125, f126, f127, F119, f128, f129, f130, f131, f132, f133, f134, f135, f136, f137, (S119 _ _ _ _ St1), g0_1, g_b3, g_b4, g_b6, g_b98, g_b78, g_bx15_0_79, ne_a12_0_b3, ne_a12_0_b4, ne_a12_0_b6, ne_a12_0_b98, ne_a12_0_b78, ne_a12_0_bx15_0_79, ne_b3_b4, ne_b3_b6, ne_b3_b98, ne_b3_b78, ne_b3_bx15_0_79, ne_b4_b6, ne_b4_b98, ne_b4_b78, ne_b4_bx15_0_79, ne_b6_b98, ne_b6_b78, ne_b6_bx15_0_79, ne_b78_b98.symm, ne_bx15_0_79_b98.symm, ne_b78_bx15_0_79, ((((((((((((((((((((Lo1.ext E3).ext E4).ext E6).wr W22 g_b3).wr W27 g_b4).wr W32 g_b6).wr W46 g_b3).wr W51 g_b4).wr W56 g_b6).wr W68 g0_1).wr W71 g0_1).wr W74 g0_1).ext E78).keep Kc79 (allS (P := fun x => n0 ≤ x) g_b78 all0)).wr W92 g0_1).ext E98).wr W101 g0_1).keep Kc111 (allS (P := fun x => n0 ≤ x) g_b78 (allS (P := fun x => n0 ≤ x) g_bx15_0_79 all0))).wr W114 g0_1).wr W119 g0_1)⟩
 refine gA C X u Op138.Fspans (wcb C.w) dbo dbp fun _ X u => ?_
 refine sI C X dbq ?_
 refine sC C X dbr ?_
 refine sI C X dbt ?_
 refine sM C X dbu ?_
 refine kJ C X (waf C.w) dbv ?_
 refine cS C X u (rm18_2 l Z a0 C.w b98 k98 (0 : Int64) (0 : Int64) (0 : Int64) (0 : Int64) (0 : Int64) (0 : Int64) (0 : Int64) (0 : Int64) (0 : Int64) (0 : Int64) (0 : Int64) (0 : Int64) (0 : Int64) (0 : Int64) (0 : Int64) (0 : Int64) h119 n0 Op138.hsz f120 Op138.grS) (W := 0) (wag C.w) (wah C.w) (waj C.w) (wai C.w) (argsL := [(.ref b98), (.int 8), (.int 16), (.long oM)]) (lenOf pao rfl) dbw fun _ T140 _ X hQ140 => ?_
 obtain ⟨rfl, Nq140, Kc140, Sc140, P140_0⟩ := hQ140
 have O140 := Op138.sp Kc140 Sc140
 refine sC C X dbx ?_
 refine wi C X #[oR a12_0, oI 8, oI 1, oR b3, oR b4, oR b6, oI 2, oI 1] dby ?_
 refine si C X dbz ?_
 refine gA C X rfl O140.Fsize (wcI C.w) dbA dbB fun _ X u => ?_
 refine cN C X dbC (by decide) ?_
 refine gA C X u O140.Fspans (wcb C.w) dbD dbE fun _ X u => ?_
 refine sI C X dbF ?_
 refine si C X dbG ?_
 refine sP C X dbH ?_
 refine gA C X u O140.Ftimes (wb5 C.w) dbI dbJ fun _ X u => ?_
 refine si C X dbL ?_
 refine lA C X u O140.Vt dbM ?_
 refine gA C X u O140.Ffroms (wb7 C.w) dbN dbO fun _ X u => ?_
 refine si C X dbP ?_
 refine sC C X dbR ?_
 refine sS C X dbS ?_
 refine lA C X u O140.Vf dbT ?_
 refine tS C X dbU ?_
 refine sJ C X u (N.app Nq140) O140.grS P140_0 _ dbV fun _ h145 _ X u N W145 V145 => ?_
 have O145 := O140.wsp W145
 refine wc C X #[oR a12_0, oI 8, oI 1, oR b3, oR b4, oR b6, oI 2, oI 2] dbW ?_
 refine sG C X dbX 231 ?_
 refine si C X dbz ?_
 refine gA C X u O145.Fsize (wcI C.w) dbA dbB fun _ X u => ?_
 refine cY C X dbC 272 (by decide) ?_
 refine sI C X dbY ?_
 refine sC C X dbZ ?_
 refine sS C X db0 ?_
 refine wi C X #[oR a12_0, oI 8, oI 1, oR b3, oR b4, oR b6, oI 2, oI 7] db1 ?_
 refine si C X db2 ?_
 refine bN C X db3 (by decide) ?_
 refine gA C X u O145.Fspans (wcb C.w) db4 db5 fun _ X u => ?_
 refine si C X db6 ?_
 refine gA C X u O145.Fspans (wcb C.w) db7 db8 fun _ X u => ?_
 refine sC C X dca ?_
 refine si C X dcb ?_
 refine sM C X dcc ?_
 refine lA C X u V145 dcd ?_
 refine gA C X u O145.Fspans (wcb C.w) dce dcf fun _ X u => ?_
 refine sC C X dch ?_
 refine si C X dci ?_
 refine sM C X dcj ?_
 refine sC C X dck ?_
 refine sP C X dcl ?_
 refine lA C X u V145 dcm ?_
 refine cS C X u (fun ws => rm1 l Z a0 C.w ws oM oM h145 n0 O145.hsz ) (W := 2) (wao C.w) (wcd C.w) (wcz C.w) (wco C.w) (argsL := [(.long oM), (.long oM)]) (lenOf paj rfl) dcn fun _ T150 _ X hQ150 => ?_
 obtain ⟨rfl, Nq150, u⟩ := hQ150
 rw [show (own_m oM oM) = oM from by decide+kernel]
 refine sJ C X u (N.app Nq150) O145.grS V145 _ dcp fun _ h152 _ X u N W152 V152 => ?_
 have O152 := O145.wsp W152
 refine wc C X #[oR a12_0, oI 8, oI 1, oR b3, oR b4, oR b6, oI 2, oI 6] dcq ?_
 refine sG C X dcr 277 ?_
 refine si C X db2 ?_
 refine bN C X db3 (by decide) ?_
 refine gA C X u O152.Fspans (wcb C.w) db4 db5 fun _ X u => ?_
 refine si C X db6 ?_
 refine gA C X u O152.Fspans (wcb C.w) db7 db8 fun _ X u => ?_
 refine sC C X dca ?_
 refine si C X dcb ?_
 refine sM C X dcc ?_
 refine lA C X u V152 dcd ?_
 refine gA C X u O152.Fspans (wcb C.w) dce dcf fun _ X u => ?_
 refine sC C X dch ?_
 refine si C X dci ?_
 refine sM C X dcj ?_
 refine sC C X dck ?_
 refine sP C X dcl ?_
 refine lA C X u V152 dcm ?_
 refine cS C X u (fun ws => rm1 l Z a0 C.w ws oM oM h152 n0 O152.hsz ) (W := 2) (wao C.w) (wcd C.w) (wcz C.w) (wco C.w) (argsL := [(.long oM), (.long oM)]) (lenOf paj rfl) dcn fun _ T156 _ X hQ156 => ?_
 obtain ⟨rfl, Nq156, u⟩ := hQ156
 rw [show (own_m oM oM) = oM from by decide+kernel]
 refine sJ C X u (N.app Nq156) O152.grS V152 _ dcp fun _ h158 _ X u N W158 V158 => ?_
 have O158 := O152.wsp W158
 refine wc C X #[oR a12_0, oI 8, oI 1, oR b3, oR b4, oR b6, oI 2, oI 5] dcq ?_
 refine sG C X dcr 277 ?_
 refine si C X db2 ?_
 refine bN C X db3 (by decide) ?_
 refine gA C X u O158.Fspans (wcb C.w) db4 db5 fun _ X u => ?_
 refine si C X db6 ?_
 refine gA C X u O158.Fspans (wcb C.w) db7 db8 fun _ X u => ?_
 refine sC C X dca ?_
 refine si C X dcb ?_
 refine sM C X dcc ?_
 refine lA C X u V158 dcd ?_
 refine gA C X u O158.Fspans (wcb C.w) dce dcf fun _ X u => ?_
 refine sC C X dch ?_
 refine si C X dci ?_
 refine sM C X dcj ?_
 refine sC C X dck ?_
 refine sP C X dcl ?_
 refine lA C X u V158 dcm ?_
 refine cS C X u (fun ws => rm1 l Z a0 C.w ws oM oM h158 n0 O158.hsz ) (W := 2) (wao C.w) (wcd C.w) (wcz C.w) (wco C.w) (argsL := [(.long oM), (.long oM)]) (lenOf paj rfl) dcn fun _ T162 _ X hQ162 => ?_
 obtain ⟨rfl, Nq162, u⟩ := hQ162
 rw [show (own_m oM oM) = oM from by decide+kernel]
 refine sJ C X u (N.app Nq162) O158.grS V158 _ dcp fun _ h164 _ X u N W164 V164 => ?_
 have O164 := O158.wsp W164
 refine wc C X #[oR a12_0, oI 8, oI 1, oR b3, oR b4, oR b6, oI 2, oI 4] dcq ?_
 refine sG C X dcr 277 ?_
 refine si C X db2 ?_
 refine bN C X db3 (by decide) ?_
 refine gA C X u O164.Fspans (wcb C.w) db4 db5 fun _ X u => ?_
 refine si C X db6 ?_
 refine gA C X u O164.Fspans (wcb C.w) db7 db8 fun _ X u => ?_
 refine sC C X dca ?_
 refine si C X dcb ?_
 refine sM C X dcc ?_
 refine lA C X u V164 dcd ?_
 refine gA C X u O164.Fspans (wcb C.w) dce dcf fun _ X u => ?_
 refine sC C X dch ?_
 refine si C X dci ?_
 refine sM C X dcj ?_
 refine sC C X dck ?_
 refine sP C X dcl ?_
 refine lA C X u V164 dcm ?_
 refine cS C X u (fun ws => rm1 l Z a0 C.w ws oM (tm1 - tm0) h164 n0 O164.hsz ) (W := 2) (wao C.w) (wcd C.w) (wcz C.w) (wco C.w) (argsL := [(.long oM), (.long (tm1 - tm0))]) (lenOf paj rfl) dcn fun _ T168 _ X hQ168 => ?_
 obtain ⟨rfl, Nq168, u⟩ := hQ168
 refine sJ C X u (N.app Nq168) O164.grS V164 _ dcp fun _ h169 _ X u N W169 V169 => ?_
 have O169 := O164.wsp W169
 refine wc C X #[oR a12_0, oI 8, oI 1, oR b3, oR b4, oR b6, oI 2, oI 3] dcq ?_
 refine sG C X dcr 277 ?_
 refine si C X db2 ?_
 refine bN C X db3 (by decide) ?_
 refine gA C X u O169.Fspans (wcb C.w) db4 db5 fun _ X u => ?_
 refine si C X db6 ?_
 refine gA C X u O169.Fspans (wcb C.w) db7 db8 fun _ X u => ?_
 refine sC C X dca ?_
 refine si C X dcb ?_
 refine sM C X dcc ?_
 refine lA C X u V169 dcd ?_
 refine gA C X u O169.Fspans (wcb C.w) dce dcf fun _ X u => ?_
 refine sC C X dch ?_
 refine si C X dci ?_
 refine sM C X dcj ?_
 refine sC C X dck ?_
 refine sP C X dcl ?_
 refine lA C X u V169 dcm ?_
 refine cS C X u (fun ws => rm1 l Z a0 C.w ws oM oM h169 n0 O169.hsz ) (W := 2) (wao C.w) (wcd C.w) (wcz C.w) (wco C.w) (argsL := [(.long oM), (.long oM)]) (lenOf paj rfl) dcn fun _ T173 _ X hQ173 => ?_
 obtain ⟨rfl, Nq173, u⟩ := hQ173
 rw [show (own_m oM oM) = oM from by decide+kernel]
 refine sJ C X u (N.app Nq173) O169.grS V169 _ dcp fun _ h175 _ X u N W175 V175 => ?_
 have O175 := O169.wsp W175
 refine wc C X #[oR a12_0, oI 8, oI 1, oR b3, oR b4, oR b6, oI 2, oI 2] dcq ?_
 refine sG C X dcr 277 ?_
 refine si C X db2 ?_
 refine bN C X db3 (by decide) ?_
 refine gA C X u O175.Fspans (wcb C.w) db4 db5 fun _ X u => ?_
 refine si C X db6 ?_
 refine gA C X u O175.Fspans (wcb C.w) db7 db8 fun _ X u => ?_
 refine sC C X dca ?_
 refine si C X dcb ?_
 refine sM C X dcc ?_
 refine lA C X u V175 dcd ?_
 refine gA C X u O175.Fspans (wcb C.w) dce dcf fun _ X u => ?_
 refine sC C X dch ?_
 refine si C X dci ?_
 refine sM C X dcj ?_
 refine sC C X dck ?_
 refine sP C X dcl ?_
 refine lA C X u V175 dcm ?_
 refine cS C X u (fun ws => rm1 l Z a0 C.w ws (own_m oM (tm1 - tm0)) oM h175 n0 O175.hsz ) (W := 2) (wao C.w) (wcd C.w) (wcz C.w) (wco C.w) (argsL := [(.long (own_m oM (tm1 - tm0))), (.long oM)]) (lenOf paj rfl) dcn fun _ T179 _ X hQ179 => ?_
 obtain ⟨rfl, Nq179, u⟩ := hQ179
 refine sJ C X u (N.app Nq179) O175.grS V175 _ dcp fun _ h180 _ X u N W180 V180 => ?_
 have O180 := O175.wsp W180
 refine wc C X #[oR a12_0, oI 8, oI 1, oR b3, oR b4, oR b6, oI 2, oI 1] dcq ?_
 refine sG C X dcr 277 ?_
 refine si C X db2 ?_
 refine bN C X db3 (by decide) ?_
 refine gA C X u O180.Fspans (wcb C.w) db4 db5 fun _ X u => ?_
 refine si C X db6 ?_
 refine gA C X u O180.Fspans (wcb C.w) db7 db8 fun _ X u => ?_
 refine sC C X dca ?_
 refine si C X dcb ?_
 refine sM C X dcc ?_
 refine lA C X u V180 dcd ?_
 refine gA C X u O180.Fspans (wcb C.w) dce dcf fun _ X u => ?_
 refine sC C X dch ?_
 refine si C X dci ?_
 refine sM C X dcj ?_
 refine sC C X dck ?_
 refine sP C X dcl ?_
 refine lA C X u V180 dcm ?_
 refine cS C X u (fun ws => rm1 l Z a0 C.w ws (own_m (own_m oM (tm1 - tm0)) oM) oM h180 n0 O180.hsz ) (W := 2) (wao C.w) (wcd C.w) (wcz C.w) (wco C.w) (argsL := [(.long (own_m (own_m oM (tm1 - tm0)) oM)), (.long oM)]) (lenOf paj rfl) dcn fun _ T184 _ X hQ184 => ?_
 obtain ⟨rfl, Nq184, u⟩ := hQ184
 refine sJ C X u (N.app Nq184) O180.grS V180 _ dcp fun _ h185 _ X u N W185 V185 => ?_
 have O185 := O180.wsp W185
 refine wc C X #[oR a12_0, oI 8, oI 1, oR b3, oR b4, oR b6, oI 2, oI 0] dcq ?_
 refine sG C X dcr 277 ?_
 refine si C X db2 ?_
 refine bY C X db3 318 (by decide) ?_
 refine rV C X u hret dcs ?_
 exact ⟨rfl, N, b3, b4, b6, b98, b78, bx15_0_79, k3, k4, k6, kx15_0_79, O185, ⟨_, own_arv V185 (ocs rfl (ocs (congrArg Value.long (by simp only [own_mMM])) (ocs (congrArg Value.long (by simp only [own_mMM])) (ocs (congrArg Value.long (by simp only [own_mMM])) (ocs rfl (ocs (congrArg Value.long (by simp only [own_mMM])) (ocs (congrArg Value.long (by simp only [own_mMM])) (ocs (congrArg Value.long (by simp only [own_mMM])) (ocs rfl (ocs rfl (ocs rfl (ocs rfl (ocs rfl (ocs rfl (ocs rfl (ocs rfl rfl))))))))))))))))⟩⟩
theorem faO (m : MethodId) (y0 : Addr) (y2 : Int64) : entryFrame m #[(.ref y0), (.int 2), (.long y2)] 7 = mkF m 0 #[oR y0, oI 2, oJ y2, oD, oU, oU, oU] [] := by first | (simp [entryFrame, mkF, argsToLocals, Value.category]; done) | rfl
def Q_rm23_8_2 (Z : State) (a23_0 : Addr) (q23_2 : Int64) (wt : Addr) (kt : ClassId) (t0 t1 t2 t3 t4 t5 t6 t7 : Int64) (ws : Addr) (l0 l1 l2 l3 l4 l5 l6 l7 : Int64) (h0 : Heap) (n0 : Nat) (v : Option Value) (h : Heap) (L : List Loc) : Prop := v = none ∧ Fr n0 L ∧ Keep h0 h [ws] ∧ own_StK Z h0 h ∧ own_Sp8 Z h ws l0 l1 q23_2 l3 l4 l5 l6 l7
theorem rm23_8_2 (hw : own_T Z a0) (a23_0 : Addr) (q23_2 : Int64) (wt : Addr) (kt : ClassId) (t0 t1 t2 t3 t4 t5 t6 t7 : Int64) (ws : Addr) (l0 l1 l2 l3 l4 l5 l6 l7 : Int64) (h0 : Heap) (n0 : Nat) (Z0 : n0 ≤ h0.size) (F_times : Fld Z h0 a23_0 oL "times" "[J" (.ref wt)) (V_wt : Arv Z h0 wt kt .long (8 : Int32) [(.long t0), (.long t1), (.long t2), (.long t3), (.long t4), (.long t5), (.long t6), (.long t7)] oZ) (F_spans : Fld Z h0 a23_0 oL "spans" "[J" (.ref ws)) (T_ws : own_Sp8 Z h0 ws l0 l1 l2 l3 l4 l5 l6 l7) (g_ws : n0 ≤ ws) (ne_a23_0_ws : a23_0 ≠ ws) :
   own_Met l oy23 oc23 7 none (oRm 1 0 0 15) Z h0 #[(.ref a23_0), (.int 2), (.long q23_2)] (Q_rm23_8_2 Z a23_0 q23_2 wt kt t0 t1 t2 t3 t4 t5 t6 t7 ws l0 l1 l2 l3 l4 l5 l6 l7 h0 n0) := by
 refine own_go hw (plainFor_of_name pn_23) (fun m => faO m a23_0 q23_2) fun p e s m below meth c T0 C hret X u => ?_
 have N := Fr.nil n0
 refine gA C X u F_times (wb5 C.w) dgc dgd fun _ X u => ?_
 refine nA C X u V_wt dgw ?_
 refine sI C X dgE ?_
 refine sP C X dgK ?_
 refine wi C X #[oR a23_0, oI 2, oJ q23_2, oD, oI 10, oU, oU] dgQ ?_
 refine gA C X u F_spans (wcb C.w) dg1 dge fun _ X u => ?_
 refine si C X dgf ?_
 refine sL C X dgg ?_
 obtain ⟨kq3, VT3⟩ := id T_ws
 obtain ⟨m3_7, hm3_7⟩ : ∃ z : Int64, z = (own_m l6 l7) := ⟨_, rfl⟩
 rw [← hm3_7] at VT3
 obtain ⟨m3_6, hm3_6⟩ : ∃ z : Int64, z = (own_m l4 l5) := ⟨_, rfl⟩
 rw [← hm3_6] at VT3
 obtain ⟨m3_5, hm3_5⟩ : ∃ z : Int64, z = (own_m l2 l3) := ⟨_, rfl⟩
 rw [← hm3_5] at VT3
 obtain ⟨m3_4, hm3_4⟩ : ∃ z : Int64, z = (own_m l0 l1) := ⟨_, rfl⟩
 rw [← hm3_4] at VT3
 obtain ⟨m3_3, hm3_3⟩ : ∃ z : Int64, z = (own_m m3_6 m3_7) := ⟨_, rfl⟩
 rw [← hm3_3] at VT3
 obtain ⟨m3_2, hm3_2⟩ : ∃ z : Int64, z = (own_m m3_4 m3_5) := ⟨_, rfl⟩
 rw [← hm3_2] at VT3
 obtain ⟨m3_1, hm3_1⟩ : ∃ z : Int64, z = (own_m m3_2 m3_3) := ⟨_, rfl⟩
 rw [← hm3_1] at VT3
 refine sJ C X u N g_ws VT3 _ dgh fun _ h4 _ X u N W4 V4 => ?_
 have S4 := (own_StK.refl Z h0).wr W4
 have K4 : Keep h0 h4 [ws] := (Keep.refl h0 [ws]).wr W4 (Or.inl (List.mem_of_getElem? (i := 0) rfl))
 have Z4 : n0 ≤ h4.size := Nat.le_trans Z0 K4.1
 refine si C X dgi ?_
 refine sC C X dgj ?_
 refine own_Fin.st (g' := (mkF m 21 #[oR a23_0, oI 2, oJ q23_2, oD, oI 10, oU, oU] [(.int 5)])) ?_ (fun t k => XS.idiv X.here C.1 rfl (C.d dgk) rfl (by decide : ¬ ((2 : Int32) = (0 : Int32))) k)
 refine wi C X #[oR a23_0, oI 2, oJ q23_2, oD, oI 5, oU, oU] dgl ?_
 refine si C X dgm ?_
 refine bN C X dgn (by decide) ?_
 have f5 := (F_spans.other W4 (Or.inl ne_a23_0_ws))
 refine gA C X u f5 (wcb C.w) dgo dgp fun _ X u => ?_
 refine sC C X dgq ?_
 refine si C X dgr ?_
 refine sM C X dgs ?_
 refine lA C X u V4 dgt ?_
 refine gA C X u f5 (wcb C.w) dgu dgv fun _ X u => ?_
 refine sC C X dgx ?_
 refine si C X dgy ?_
 refine sM C X dgz ?_
 refine sC C X dgA ?_
 refine sP C X dgB ?_
 refine lA C X u V4 dgC ?_
 refine cS C X u (fun ws => rm1 l Z a0 C.w ws q23_2 l3 h4 n0 Z4 ) (W := 0) (wao C.w) (wcd C.w) (wcz C.w) (wco C.w) (argsL := [(.long q23_2), (.long l3)]) (lenOf paj rfl) dgD fun _ T8 _ X hQ8 => ?_
 obtain ⟨rfl, Nq8, u⟩ := hQ8
 obtain ⟨x9, hx9⟩ : ∃ z : Int64, z = (own_m q23_2 l3) := ⟨_, rfl⟩
 rw [← hx9]
 refine wl C X #[oR a23_0, oI 2, oJ q23_2, oD, oI 5, oJ x9, oD] dgF ?_
 refine gA C X u f5 (wcb C.w) dgG dgH fun _ X u => ?_
 refine si C X dgI ?_
 refine lA C X u V4 dgJ ?_
 refine sl C X dgL ?_
 refine tC C X dgM ?_
 by_cases h63_11 : m3_5 = x9
 · refine bN C X dgN ((if0 _ _).trans (teq ((lw_eq _ _).mpr h63_11)).2) ?_
   refine sG C X dgO 87 ?_
   refine rV C X u hret dg0 ?_
   subst hx9
   subst hm3_1
   subst hm3_2
   subst hm3_3
   subst hm3_4
   subst hm3_5
   subst hm3_6
   subst hm3_7
   exact ⟨rfl, (N.app Nq8), K4, S4, ⟨_, own_arv V4 (ocs rfl (ocs (congrArg Value.long (by rw [h63_11])) (ocs (congrArg Value.long (by rw [h63_11])) (ocs rfl (ocs rfl (ocs (congrArg Value.long h63_11.symm) (ocs rfl (ocs rfl (ocs rfl (ocs rfl (ocs rfl (ocs rfl (ocs rfl (ocs rfl (ocs rfl (ocs rfl rfl))))))))))))))))⟩⟩
 refine bY C X dgN 69 ((if0 _ _).trans (feq (fun q => h63_11 ((lw_eq _ _).mp q))).2) ?_
 refine gA C X u f5 (wcb C.w) dgP dgR fun _ X u => ?_
 refine si C X dgS ?_
 refine sl C X dgT ?_
 refine sJ C X u (N.app Nq8) g_ws V4 _ dgU fun _ h13 _ X u N W13 V13 => ?_
 have S13 := S4.wr W13
 have K13 : Keep h0 h13 [ws] := K4.wr W13 (Or.inl (List.mem_of_getElem? (i := 0) rfl))
 have Z13 : n0 ≤ h13.size := Nat.le_trans Z0 K13.1
 refine si C X dgV ?_
 refine sC C X dgW ?_
 refine own_Fin.st (g' := (mkF m 82 #[oR a23_0, oI 2, oJ q23_2, oD, oI 5, oJ x9, oD] [(.int 2)])) ?_ (fun t k => XS.idiv X.here C.1 rfl (C.d dgX) rfl (by decide : ¬ ((2 : Int32) = (0 : Int32))) k)
 refine wi C X #[oR a23_0, oI 2, oJ q23_2, oD, oI 2, oJ x9, oD] dgY ?_
 refine sG C X dgZ 23 ?_
 refine si C X dgm ?_
 refine bN C X dgn (by decide) ?_
 have f14 := (f5.other W13 (Or.inl ne_a23_0_ws))
 refine gA C X u f14 (wcb C.w) dgo dgp fun _ X u => ?_
 refine sC C X dgq ?_
 refine si C X dgr ?_
 refine sM C X dgs ?_
 refine lA C X u V13 dgt ?_
 refine gA C X u f14 (wcb C.w) dgu dgv fun _ X u => ?_
 refine sC C X dgx ?_
 refine si C X dgy ?_
 refine sM C X dgz ?_
 refine sC C X dgA ?_
 refine sP C X dgB ?_
 refine lA C X u V13 dgC ?_
 refine cS C X u (fun ws => rm1 l Z a0 C.w ws m3_4 x9 h13 n0 Z13 ) (W := 0) (wao C.w) (wcd C.w) (wcz C.w) (wco C.w) (argsL := [(.long m3_4), (.long x9)]) (lenOf paj rfl) dgD fun _ T17 _ X hQ17 => ?_
 obtain ⟨rfl, Nq17, u⟩ := hQ17
 obtain ⟨x18, hx18⟩ : ∃ z : Int64, z = (own_m m3_4 x9) := ⟨_, rfl⟩
 rw [← hx18]
 refine wl C X #[oR a23_0, oI 2, oJ q23_2, oD, oI 2, oJ x18, oD] dgF ?_
 refine gA C X u f14 (wcb C.w) dgG dgH fun _ X u => ?_
 refine si C X dgI ?_
 refine lA C X u V13 dgJ ?_
 refine sl C X dgL ?_
 refine tC C X dgM ?_
 by_cases h63_20 : m3_2 = x18
 · refine bN C X dgN ((if0 _ _).trans (teq ((lw_eq _ _).mpr h63_20)).2) ?_
   refine sG C X dgO 87 ?_
   refine rV C X u hret dg0 ?_
   subst hx18
   subst hx9
   subst hm3_1
   subst hm3_2
   subst hm3_3
   subst hm3_4
   subst hm3_5
   subst hm3_6
   subst hm3_7
   exact ⟨rfl, (N.app Nq17), K13, S13, ⟨_, own_arv V13 (ocs rfl (ocs (congrArg Value.long (by rw [h63_20])) (ocs (congrArg Value.long h63_20.symm) (ocs rfl (ocs rfl (ocs rfl (ocs rfl (ocs rfl (ocs rfl (ocs rfl (ocs rfl (ocs rfl (ocs rfl (ocs rfl (ocs rfl (ocs rfl rfl))))))))))))))))⟩⟩
 refine bY C X dgN 69 ((if0 _ _).trans (feq (fun q => h63_20 ((lw_eq _ _).mp q))).2) ?_
 refine gA C X u f14 (wcb C.w) dgP dgR fun _ X u => ?_
 refine si C X dgS ?_
 refine sl C X dgT ?_
 refine sJ C X u (N.app Nq17) g_ws V13 _ dgU fun _ h22 _ X u N W22 V22 => ?_
 have S22 := S13.wr W22
 have K22 : Keep h0 h22 [ws] := K13.wr W22 (Or.inl (List.mem_of_getElem? (i := 0) rfl))
 have Z22 : n0 ≤ h22.size := Nat.le_trans Z0 K22.1
 refine si C X dgV ?_
 refine sC C X dgW ?_
 refine own_Fin.st (g' := (mkF m 82 #[oR a23_0, oI 2, oJ q23_2, oD, oI 2, oJ x18, oD] [(.int 1)])) ?_ (fun t k => XS.idiv X.here C.1 rfl (C.d dgX) rfl (by decide : ¬ ((2 : Int32) = (0 : Int32))) k)
 refine wi C X #[oR a23_0, oI 2, oJ q23_2, oD, oI 1, oJ x18, oD] dgY ?_
 refine sG C X dgZ 23 ?_
 refine si C X dgm ?_
 refine bN C X dgn (by decide) ?_
 have f23 := (f14.other W22 (Or.inl ne_a23_0_ws))
 refine gA C X u f23 (wcb C.w) dgo dgp fun _ X u => ?_
 refine sC C X dgq ?_
 refine si C X dgr ?_
 refine sM C X dgs ?_
 refine lA C X u V22 dgt ?_
 refine gA C X u f23 (wcb C.w) dgu dgv fun _ X u => ?_
 refine sC C X dgx ?_
 refine si C X dgy ?_
 refine sM C X dgz ?_
 refine sC C X dgA ?_
 refine sP C X dgB ?_
 refine lA C X u V22 dgC ?_
 refine cS C X u (fun ws => rm1 l Z a0 C.w ws x18 m3_3 h22 n0 Z22 ) (W := 0) (wao C.w) (wcd C.w) (wcz C.w) (wco C.w) (argsL := [(.long x18), (.long m3_3)]) (lenOf paj rfl) dgD fun _ T26 _ X hQ26 => ?_
 obtain ⟨rfl, Nq26, u⟩ := hQ26
 obtain ⟨x27, hx27⟩ : ∃ z : Int64, z = (own_m x18 m3_3) := ⟨_, rfl⟩
 rw [← hx27]
 refine wl C X #[oR a23_0, oI 2, oJ q23_2, oD, oI 1, oJ x27, oD] dgF ?_
 refine gA C X u f23 (wcb C.w) dgG dgH fun _ X u => ?_
 refine si C X dgI ?_
 refine lA C X u V22 dgJ ?_
 refine sl C X dgL ?_
 refine tC C X dgM ?_
 by_cases h63_29 : m3_1 = x27
 · refine bN C X dgN ((if0 _ _).trans (teq ((lw_eq _ _).mpr h63_29)).2) ?_
   refine sG C X dgO 87 ?_
   refine rV C X u hret dg0 ?_
   subst hx27
   subst hx18
   subst hx9
   subst hm3_1
   subst hm3_2
   subst hm3_3
   subst hm3_4
   subst hm3_5
   subst hm3_6
   subst hm3_7
   exact ⟨rfl, (N.app Nq26), K22, S22, ⟨_, own_arv V22 (ocs rfl (ocs (congrArg Value.long h63_29.symm) (ocs rfl (ocs rfl (ocs rfl (ocs rfl (ocs rfl (ocs rfl (ocs rfl (ocs rfl (ocs rfl (ocs rfl (ocs rfl (ocs rfl (ocs rfl (ocs rfl rfl))))))))))))))))⟩⟩
 refine bY C X dgN 69 ((if0 _ _).trans (feq (fun q => h63_29 ((lw_eq _ _).mp q))).2) ?_
 refine gA C X u f23 (wcb C.w) dgP dgR fun _ X u => ?_
 refine si C X dgS ?_
 refine sl C X dgT ?_
 refine sJ C X u (N.app Nq26) g_ws V22 _ dgU fun _ h31 _ X u N W31 V31 => ?_
 have S31 := S22.wr W31
 have K31 : Keep h0 h31 [ws] := K22.wr W31 (Or.inl (List.mem_of_getElem? (i := 0) rfl))
 refine si C X dgV ?_
 refine sC C X dgW ?_
 refine own_Fin.st (g' := (mkF m 82 #[oR a23_0, oI 2, oJ q23_2, oD, oI 1, oJ x27, oD] [(.int 0)])) ?_ (fun t k => XS.idiv X.here C.1 rfl (C.d dgX) rfl (by decide : ¬ ((2 : Int32) = (0 : Int32))) k)
 refine wi C X #[oR a23_0, oI 2, oJ q23_2, oD, oI 0, oJ x27, oD] dgY ?_
 refine sG C X dgZ 23 ?_
 refine si C X dgm ?_
 refine bY C X dgn 87 (by decide) ?_
 refine rV C X u hret dg0 ?_
 subst hx27
 subst hx18
 subst hx9
 subst hm3_1
 subst hm3_2
 subst hm3_3
 subst hm3_4
 subst hm3_5
 subst hm3_6
 subst hm3_7
 exact ⟨rfl, N, K31, S31, ⟨_, own_arv V31 (ocs rfl (ocs rfl (ocs rfl (ocs rfl (ocs rfl (ocs rfl (ocs rfl (ocs rfl (ocs rfl (ocs rfl (ocs rfl (ocs rfl (ocs rfl (ocs rfl (ocs rfl (ocs rfl rfl))))))))))))))))⟩⟩
def own_G_8_0_3_7 (Z : State) (hB h : Heap) (n0 : Nat) (a : Addr) (bs : Int64) (tm0 : Int64) (tm1 : Int64) (tm2 : Int64) (to0 : Int64) (to1 : Int64) (to2 : Int64) : Prop := ∃ rT : Addr, ∃ rF : Addr, ∃ rO : Addr, ∃ rS : Addr, ∃ rE : Addr, ∃ rW : Addr, ∃ kT : ClassId, ∃ kF : ClassId, ∃ kO : ClassId, ∃ kW : ClassId, ∃ tm3 : Int64, ∃ tm4 : Int64, ∃ tm5 : Int64, ∃ tm6 : Int64, ∃ tm7 : Int64, ∃ fr3 : Int64, ∃ fr4 : Int64, ∃ fr5 : Int64, ∃ fr6 : Int64, ∃ fr7 : Int64, ∃ to3 : Int64, ∃ to4 : Int64, ∃ to5 : Int64, ∃ to6 : Int64, ∃ to7 : Int64, own_Obj Z h n0 a rT rF rO rS rE rW kT kF kO kW (0 : Int32) (3 : Int32) (3 : Int32) bs (1 : Int32) (1 : Int32) (7 : Int64) (8 : Int32) [(.long tm0), (.long tm1), (.long tm2), (.long tm3), (.long tm4), (.long tm5), (.long tm6), (.long tm7)] [(.long tm0), (.long tm1), (.long tm2), (.long fr3), (.long fr4), (.long fr5), (.long fr6), (.long fr7)] [(.long to0), (.long to1), (.long to2), (.long to3), (.long to4), (.long to5), (.long to6), (.long to7)] hB ∧ own_Sp8 Z h rS oM (tm1 - tm0) (tm2 - tm1) oM oM oM oM oM
def Q_rmA_2_0_2 (Z : State) (a8_0 : Addr) (q8_1 : Int64) (q8_2 : Int64) (rT : Addr) (rF : Addr) (rO : Addr) (rS : Addr) (rE : Addr) (rW : Addr) (kT : ClassId) (kF : ClassId) (kO : ClassId) (kW : ClassId) (bs : Int64) (tm0 : Int64) (tm1 : Int64) (to0 : Int64) (to1 : Int64) (hB : Heap) (h0 : Heap) (n0 : Nat) (v : Option Value) (h : Heap) (L : List Loc) : Prop := v = none ∧ Fr n0 L ∧ ((tm1 = q8_1 ∧ own_G_2_0_2_3 Z hB h n0 a8_0 bs tm0 tm1 to0 (to1 + q8_2)) ∨ (¬ (tm1 = q8_1) ∧ own_G_8_0_3_7 Z hB h n0 a8_0 bs tm0 tm1 q8_1 to0 to1 (to1 + q8_2)))
theorem rmA_2_0_2 (hw : own_T Z a0) (a8_0 : Addr) (q8_1 q8_2 : Int64) (rT rF rO rS rE rW : Addr) (kT kF kO kW : ClassId) (bs tm0 tm1 to0 to1 : Int64) (hB : Heap) (h0 : Heap) (n0 : Nat) (Z0 : n0 ≤ h0.size) (O : own_Obj Z h0 n0 a8_0 rT rF rO rS rE rW kT kF kO kW (0 : Int32) (2 : Int32) (2 : Int32) bs (1 : Int32) (1 : Int32) (3 : Int64) (2 : Int32) [(.long tm0), (.long tm1)] [(.long tm0), (.long tm1)] [(.long to0), (.long to1)] hB) (SP : own_Sp2 Z h0 rS oM (tm1 - tm0)) :
   own_Met l oy8 oc8 9 none (oRm 6 6 44 150) Z h0 #[(.ref a8_0), (.long q8_1), (.long q8_2), (.int 1000)] (Q_rmA_2_0_2 Z a8_0 q8_1 q8_2 rT rF rO rS rE rW kT kF kO kW bs tm0 tm1 to0 to1 hB h0 n0) := by
 refine own_go hw (plainFor_of_name pn_8) (fun m => fa4 m a8_0 q8_1 q8_2) fun p e s m below meth c T0 C hret X u => ?_
 have N := Fr.nil n0
 refine gA C X u O.Fsize (wcI C.w) doK doL fun _ X u => ?_
 refine bN C X dqR (by decide) ?_
 refine gA C X u O.Ftimes (wb5 C.w) dqW dqX fun _ X u => ?_
 refine gA C X u O.Fend (wcL C.w) doM doN fun _ X u => ?_
 refine sC C X doQ ?_
 refine sS C X doW ?_
 refine lA C X u O.Vt do1 ?_
 refine sL C X do8 ?_
 refine tC C X dpg ?_
 by_cases h20_4 : tm1 = q8_1
 · refine bN C X dpo ((if0 _ _).trans (teq ((lw_eq _ _).mpr h20_4)).2) ?_
   refine gA C X u O.Ftotals (wb9 C.w) dpE dpK fun _ X u => ?_
   refine gA C X u O.Fend (wcL C.w) dp4 dp9 fun T6 X u => ?_
   refine sC C X dqr ?_
   refine sS C X dqx ?_
   show own_Fin p e below _ T6 (mkF m 33 #[oR a8_0, oJ q8_1, oD, oJ q8_2, oD, oI 1000, oU, oU, oU] [(.int 1), (.ref rO)])
   refine own_Fin.st (g' := (mkF m 34 #[oR a8_0, oJ q8_1, oD, oJ q8_2, oD, oI 1000, oU, oU, oU] [(.int 1), (.ref rO), (.int 1), (.ref rO)])) ?_ (fun t k => by jvm_step X.here [X.here.top, C.1, C.d dqE, Value.category]; exact k)
   refine lA C X u O.Vo dqK ?_
   refine sL C X dqN ?_
   refine tP C X dqO ?_
   refine sJ C X u N O.grO O.Vo _ dqP fun _ h7 _ X u N W7 V7 => ?_
   have O7 := O.setO W7 V7
   refine sG C X dqQ 348 ?_
   have f43 := (SP.other W7 (Ne.symm O7.n_rO_rS))
   refine rV C X u hret dqM ?_
   exact ⟨rfl, N, Or.inl ⟨h20_4, ⟨rT, rF, rO, rS, rE, rW, kT, kF, kO, kW, O7, f43⟩⟩⟩
 refine bY C X dpo 41 ((if0 _ _).trans (feq (fun q => h20_4 ((lw_eq _ _).mp q))).2) ?_
 refine gA C X u O.Fsize (wcI C.w) dqS dqT fun _ X u => ?_
 refine si C X dqU ?_
 refine cY C X dqV 148 (by decide) ?_
 refine gA C X u O.Ftimes (wb5 C.w) doO doP fun _ X u => ?_
 refine nA C X u O.Vt doR ?_
 refine wi C X #[oR a8_0, oJ q8_1, oD, oJ q8_2, oD, oI 1000, oI 2, oU, oU] doS ?_
 refine gA C X u O.Fend (wcL C.w) doT doU fun _ X u => ?_
 refine si C X doV ?_
 refine cY C X doX 188 (by decide) ?_
 refine sA C X dpe ?_
 refine sC C X dpf ?_
 refine sC C X dph ?_
 refine gA C X u O.Fsize (wcI C.w) dpi dpj fun _ X u => ?_
 refine sM C X dpk ?_
 refine sC C X dpl ?_
 refine sP C X dpm ?_
 refine cB C X u (W := 2) (Jvm.Free.JP.Integer_highestOneBit_I.pays (5 : Int32) (own_tH C) (by decide) (by decide)) (wcN C.w) (wcO C.w) (wcQ C.w) (wcP C.w) (argsL := [(.int 5)]) (lenOf paf rfl) (fun _ => ⟨rfl, trivial⟩) dpn fun _ X u => ?_
 have cz13 : Jvm.Free.JP.Integer_highestOneBit_I.val (5 : Int32) = (4 : Int32):=by decide+kernel
 rw [cz13]
 refine sC C X dpp ?_
 refine sH C X dpq ?_
 refine cS C X u (fun ws => rm11 l Z a0 C.w ws (2 : Int32) (8 : Int32) h0 n0 O.hsz ) (W := 1) (wcX C.w) (wcY C.w) (wcZ C.w) (wco C.w) (argsL := [(.int 2), (.int 8)]) (lenOf pab rfl) dpr fun _ T14 _ X hQ14 => ?_
 obtain ⟨rfl, Nq14, u⟩ := hQ14
 rw [show (if (2 : Int32) < (8 : Int32) then (8 : Int32) else (2 : Int32)) = (8 : Int32) from by decide+kernel]
 refine cP C X u (rm12_2 l Z a0 C.w a8_0 rT rF rO rS rE rW kT kF kO kW bs tm0 tm1 to0 to1 hB h0 n0 O.hsz O SP) O.Ea (W := 0) (wc0 C.w) (wc1 C.w) (osp6 C) (wc2 C.w) (wc3 C.w) (wa5 C.w) (argsL := [(.int 8)]) (lenOf pah rfl) dps fun _ T16 _ X hQ16 => ?_
 obtain ⟨rfl, Nq16, rT_16, rF_16, rO_16, rS_16, rE_16, rW_16, kT_16, kF_16, kO_16, kW_16, O16, SP16⟩ := hQ16
 refine gA C X rfl O16.Fsize (wcI C.w) dpt dpu fun _ X u => ?_
 refine bN C X dpv (by decide) ?_
 refine gA C X u O16.Ftotals (wb9 C.w) dpw dpx fun _ X u => ?_
 refine gA C X u O16.Fend (wcL C.w) dpy dpz fun _ X u => ?_
 refine sC C X dpA ?_
 refine sS C X dpB ?_
 refine lA C X u O16.Vo dpC ?_
 refine sG C X dpD 234 ?_
 refine wl C X #[oR a8_0, oJ q8_1, oD, oJ q8_2, oD, oI 1000, oI 2, oJ to1, oD] dpH ?_
 refine gA C X u O16.Ftimes (wb5 C.w) dpI dpJ fun _ X u => ?_
 refine gA C X u O16.Fend (wcL C.w) dpL dpM fun _ X u => ?_
 refine sL C X dpN ?_
 refine sJ C X u ((N.app Nq14).app Nq16) O16.grT O16.Vt _ dpO fun _ h22 _ X u N W22 V22 => ?_
 have O22 := O16.setT W22 V22
 refine gA C X u O22.Ffroms (wb7 C.w) dpP dpQ fun _ X u => ?_
 refine gA C X u O22.Fend (wcL C.w) dpR dpS fun _ X u => ?_
 refine sL C X dpT ?_
 refine sJ C X u N O22.grF O22.Vf _ dpU fun _ h25 _ X u N W25 V25 => ?_
 have O25 := O22.setF W25 V25
 refine gA C X u O25.Ftotals (wb9 C.w) dpV dpW fun _ X u => ?_
 refine gA C X u O25.Fend (wcL C.w) dpX dpY fun _ X u => ?_
 refine sl C X dpZ ?_
 refine sL C X dp0 ?_
 refine tP C X dp1 ?_
 refine sJ C X u N O25.grO O25.Vo _ dp2 fun _ h28 _ X u N W28 V28 => ?_
 have O28 := O25.setO W28 V28
 refine gA C X u O28.Fentries (wcB C.w) dp3 dp5 fun _ X u => ?_
 refine gA C X u O28.Fend (wcL C.w) dp6 dp7 fun _ X u => ?_
 refine cV C X u (rm20_2 l Z a0 C.w rE_16 (2 : Int32) rW_16 kW_16 (3 : Int64) h28 n0 O28.hsz (by decide+kernel) (by decide+kernel) O28.Ee O28.BwordsInUse O28.BsizeIsSticky O28.Bwords O28.Vw O28.grW O28.St) O28.Ee (W := 0) (war C.w) (was C.w) (wau C.w) (wat C.w) (wav C.w) (wcg C.w) (argsL := [(.int 2)]) (lenOf pah rfl) dp8 fun _ T31 _ X hQ31 => ?_
 obtain ⟨rfl, Nq31, Kc31, Sc31, P31_0⟩ := hQ31
 rw [show ((3 : Int64) ||| ((1 : Int64) <<< ((2 : Int32) &&& 0x3f).toInt64)) = (7 : Int64) from by decide+kernel] at P31_0
 have O31 := O28.bit1 Kc31 Sc31 P31_0
 refine sA C X dqa ?_
 refine gA C X rfl O31.Fend (wcL C.w) dqb dqc fun _ X u => ?_
 refine gA C X u O31.Fsize (wcI C.w) dqd dqe fun _ X u => ?_
 refine bN C X dqf (by decide) ?_
 refine sL C X dqg ?_
 refine gA C X u O31.Ffroms (wb7 C.w) dqh dqi fun _ X u => ?_
 refine gA C X u O31.Fend (wcL C.w) dqj dqk fun _ X u => ?_
 refine sC C X dql ?_
 refine sS C X dqm ?_
 refine lA C X u O31.Vf dqn ?_
 refine tS C X dqo ?_
 refine sG C X dqp 311 ?_
 have f36 := ((((SP16.other W22 (Ne.symm O31.n_rT_rS)).other W25 (Ne.symm O31.n_rF_rS)).other W28 (Ne.symm O31.n_rO_rS)).keep Kc31 (ninS O31.n_rS_rW nin0))
 refine cP C X u (rm23_8_2 l Z a0 C.w a8_0 (q8_1 - tm1) rT_16 kT_16 tm0 tm1 q8_1 (0 : Int64) (0 : Int64) (0 : Int64) (0 : Int64) (0 : Int64) rS_16 oM (tm1 - tm0) oM oM oM oM oM oM T31.heap n0 O31.hsz O31.Ftimes O31.Vt O31.Fspans f36 O31.grS O31.n_a_rS) O31.Ea (W := 0) (waH C.w) (waI C.w) (osp1 C) (waK C.w) (waL C.w) (wa5 C.w) (argsL := [(.int 2), (.long (q8_1 - tm1))]) (lenOf pae rfl) dqs fun _ T37 _ X hQ37 => ?_
 obtain ⟨rfl, Nq37, Kc37, Sc37, P37_0⟩ := hQ37
 have O37 := O31.sp Kc37 Sc37
 refine sA C X dqt ?_
 refine sD C X dqu ?_
 refine gF C X rfl O37.Fend (wcL C.w) dqv fun _ X u => ?_
 refine sC C X dqw ?_
 refine sP C X dqy ?_
 refine pF C X u ((N.app Nq31).app Nq37) O37.ga O37.Fend O37.Ea (ty := .int) (wcL C.w) (wcM C.w) (waU C.w) (by decide) dqz fun _ h39 _ X u N W39 F39 => ?_
 have O39 := own_Obj.put_end hw O37 W39 F39
 refine sA C X dqA ?_
 refine sD C X dqB ?_
 refine gF C X u O39.Fsize (wcI C.w) dqC fun _ X u => ?_
 refine sC C X dqD ?_
 refine sP C X dqF ?_
 refine pF C X u N O39.ga O39.Fsize O39.Ea (ty := .int) (wcI C.w) (wcJ C.w) (waU C.w) (by decide) dqG fun _ h41 _ X u N W41 F41 => ?_
 have O41 := own_Obj.put_size hw O39 W41 F41
 refine gA C X u O41.Fsize (wcI C.w) dqH dqI fun _ X u => ?_
 refine si C X dqJ ?_
 refine cY C X dqL 348 (by decide) ?_
 have f44 := ((P37_0.other W39 (Ne.symm O41.n_a_rS)).other W41 (Ne.symm O41.n_a_rS))
 refine rV C X u hret dqM ?_
 exact ⟨rfl, N, Or.inr (⟨h20_4, ⟨rT_16, rF_16, rO_16, rS_16, rE_16, rW_16, kT_16, kF_16, kO_16, kW_16, (0 : Int64), (0 : Int64), (0 : Int64), (0 : Int64), (0 : Int64), (0 : Int64), (0 : Int64), (0 : Int64), (0 : Int64), (0 : Int64), (0 : Int64), (0 : Int64), (0 : Int64), (0 : Int64), (0 : Int64), O41, f44⟩⟩)⟩
def own_G_2_1_2_2 (Z : State) (hB h : Heap) (n0 : Nat) (a : Addr) (bs : Int64) (tm1 : Int64) (to1 : Int64) : Prop := ∃ rT : Addr, ∃ rF : Addr, ∃ rO : Addr, ∃ rS : Addr, ∃ rE : Addr, ∃ rW : Addr, ∃ kT : ClassId, ∃ kF : ClassId, ∃ kO : ClassId, ∃ kW : ClassId, ∃ tm0 : Int64, ∃ fr0 : Int64, ∃ to0 : Int64, own_Obj Z h n0 a rT rF rO rS rE rW kT kF kO kW (1 : Int32) (2 : Int32) (1 : Int32) bs (1 : Int32) (1 : Int32) (2 : Int64) (2 : Int32) [(.long tm0), (.long tm1)] [(.long fr0), (.long tm1)] [(.long to0), (.long to1)] hB ∧ own_Sp2 Z h rS oM oM
theorem fa2 (m : MethodId) (y0 : Addr) : entryFrame m #[(.ref y0), (.int 4)] 2 = mkF m 0 #[oR y0, oI 4] [] := by first | (simp [entryFrame, mkF, argsToLocals, Value.category]; done) | rfl
def Q_rm6_4 (Z : State) (a6_0 : Addr) (h0 : Heap) (n0 : Nat) (v : Option Value) (h : Heap) (L : List Loc) : Prop := ∃ bx6_0 : Addr, ∃ kx6_0 : ClassId, v = none ∧ Fr n0 L ∧ Keep h0 h [a6_0] ∧ own_StK Z h0 h ∧ h0.size ≤ bx6_0 ∧ Exa Z h a6_0 oB ∧ Fld Z h a6_0 oB "wordsInUse" "I" (.int 0) ∧ Fld Z h a6_0 oB "sizeIsSticky" "Z" (.int 0) ∧ Fld Z h a6_0 oB "words" "[J" (.ref bx6_0) ∧ Arv Z h bx6_0 kx6_0 .long (1 : Int32) [oZ] oZ
theorem rm6_4 (hw : own_T Z a0) (a6_0 : Addr) (h0 : Heap) (n0 : Nat) (Z0 : n0 ≤ h0.size) (E_a : Exa Z h0 a6_0 oB) (F_wordsInUse : Fld Z h0 a6_0 oB "wordsInUse" "I" (.int 0)) (F_sizeIsSticky : Fld Z h0 a6_0 oB "sizeIsSticky" "Z" (.int 0)) (F_words : Fld Z h0 a6_0 oB "words" "[J" .null) (g_a6_0 : n0 ≤ a6_0) :
   own_Met l oy6 oc6 2 none (oRm 1 1 1 13) Z h0 #[(.ref a6_0), (.int 4)] (Q_rm6_4 Z a6_0 h0 n0) := by
 refine own_go hw (plainFor_of_name pn_6) (fun m => fa2 m a6_0) fun p e s m below meth c T0 C hret X u => ?_
 have N := Fr.nil n0
 refine sA C X dow ?_
 refine sI C X dox ?_
 refine sC C X doA ?_
 refine sS C X doB ?_
 refine cS C X u (fun ws => rm7 l Z a0 C.w ws (3 : Int32) h0 n0 Z0 ) (W := 1) (wcv C.w) (wcw C.w) (wcx C.w) (wcg C.w) (argsL := [(.int 3)]) (lenOf paf rfl) doC fun _ T1 _ X hQ1 => ?_
 obtain ⟨rfl, Nq1, u⟩ := hQ1
 rw [show ((3 : Int32) >>> ((6 : Int32) &&& 31)) = (0 : Int32) from by decide+kernel]
 refine sC C X doD ?_
 refine sP C X doE ?_
 refine nP C X u (n := 1) 1 [oZ] (wan C.w) doF fun _ h3 k3 b3 g3 X u E3 V_b3 => ?_
 have ne_a6_0_b3 := onm E_a.lt g3
 have sz_b3 : h0.size ≤ b3 := Nat.le_trans (Nat.le_refl _) (Nat.le_of_eq g3.symm)
 have S3 := (own_StK.refl Z h0).ext E3
 have K3 : Keep h0 h3 [a6_0] := (Keep.refl h0 [a6_0]).ext E3
 have f4 := (E_a.ext E3)
 have f5 := (F_words.ext E3)
 refine pF C X u (N.app Nq1) g_a6_0 f5 f4 (ty := (.array .long)) (wcy C.w) (wcA C.w) (wcf C.w) (by decide) doy fun _ h6 _ X u N W6 F6 => ?_
 have S6 := S3.wr W6
 have K6 : Keep h0 h6 [a6_0] := K3.wr W6 (Or.inl (List.mem_of_getElem? (i := 0) rfl))
 have f7 := (f4.wr W6)
 have f8 := ((F_wordsInUse.ext E3).other W6 (Or.inr (osl .int oAL (wcm hw) (wcA hw))))
 have f9 := ((F_sizeIsSticky.ext E3).other W6 (Or.inr (osl .boolean oAL (wcp hw) (wcA hw))))
 have f10 := (V_b3.other W6 ne_a6_0_b3.symm)
 refine rV C X u hret doz ?_
 exact ⟨b3, k3, rfl, N, K6, S6, sz_b3, f7, f8, f9, F6, f10⟩
theorem faw (m : MethodId) (y0 : Addr) : entryFrame m #[(.ref y0), (.int 4)] 2 = mkF m 0 #[oR y0, oI 4] [] := by first | (simp [entryFrame, mkF, argsToLocals, Value.category]; done) | rfl
def Q_rm15_3 (Z : State) (a15_0 : Addr) (h0 : Heap) (n0 : Nat) (v : Option Value) (h : Heap) (L : List Loc) : Prop := ∃ bx15_0 : Addr, ∃ kx15_0 : ClassId, v = none ∧ Fr n0 L ∧ Keep h0 h [a15_0] ∧ own_StK Z h0 h ∧ h0.size ≤ bx15_0 ∧ Exa Z h a15_0 oB ∧ Fld Z h a15_0 oB "wordsInUse" "I" (.int 0) ∧ Fld Z h a15_0 oB "sizeIsSticky" "Z" (.int 1) ∧ Fld Z h a15_0 oB "words" "[J" (.ref bx15_0) ∧ Arv Z h bx15_0 kx15_0 .long (1 : Int32) [oZ] oZ
theorem rm15_3 (hw : own_T Z a0) (a15_0 : Addr) (h0 : Heap) (n0 : Nat) (Z0 : n0 ≤ h0.size) (E_a : Exa Z h0 a15_0 oB) (F_wordsInUse : Fld Z h0 a15_0 oB "wordsInUse" "I" (.int 0)) (F_sizeIsSticky : Fld Z h0 a15_0 oB "sizeIsSticky" "Z" (.int 0)) (F_words : Fld Z h0 a15_0 oB "words" "[J" .null) (g_a15_0 : n0 ≤ a15_0) :
   own_Met l oy15 oc15 2 none (oRm 2 1 1 26) Z h0 #[(.ref a15_0), (.int 4)] (Q_rm15_3 Z a15_0 h0 n0) := by
 refine own_go hw (plainFor_of_name pn_15) (fun m => faw m a15_0) fun p e s m below meth c T0 C hret X u => ?_
 have N := Fr.nil n0
 refine sA C X ddQ ?_
 refine iO C X u (W := 0) (wck C.w) (wbZ C.w) (wb4 C.w) ddR fun _ X u => ?_
 refine sA C X ddW ?_
 refine sC C X dd0 ?_
 refine pF C X u N g_a15_0 F_wordsInUse E_a (ty := .int) (wcl C.w) (wcm C.w) (wcf C.w) (by decide) dd5 fun _ h2 _ X u N W2 F2 => ?_
 have S2 := (own_StK.refl Z h0).wr W2
 have K2 : Keep h0 h2 [a15_0] := (Keep.refl h0 [a15_0]).wr W2 (Or.inl (List.mem_of_getElem? (i := 0) rfl))
 refine sA C X dd6 ?_
 refine sC C X ddS ?_
 have f3 := (E_a.wr W2)
 have f4 := (F_sizeIsSticky.other W2 (Or.inr (osl .boolean .int (wcp hw) (wcm hw))))
 refine pF C X u N g_a15_0 f4 f3 (ty := .boolean) (wcn C.w) (wcp C.w) (wcf C.w) (by decide) ddT fun _ h5 _ X u N W5 F5 => ?_
 have S5 := S2.wr W5
 have K5 : Keep h0 h5 [a15_0] := K2.wr W5 (Or.inl (List.mem_of_getElem? (i := 0) rfl))
 have Z5 : n0 ≤ h5.size := Nat.le_trans Z0 K5.1
 refine sI C X ddU ?_
 refine bY C X ddV 45 (by decide) ?_
 refine sA C X ddX ?_
 refine sI C X ddY ?_
 have f6 := (f3.wr W5)
 have f7 := (F2.other W5 (Or.inr (osl .int .boolean (wcm hw) (wcp hw))))
 have f8 := ((F_words.other W2 (Or.inr (osl oAL .int (wcA hw) (wcm hw)))).other W5 (Or.inr (osl oAL .boolean (wcA hw) (wcp hw))))
 refine cP C X u (rm6_4 l Z a0 C.w a15_0 h5 n0 Z5 f6 f7 F5 f8 g_a15_0) f6 (W := 0) (wcq C.w) (wcr C.w) (mvT C.z (wct C.w)) (wcs C.w) (wcu C.w) (wcg C.w) (argsL := [(.int 4)]) (lenOf pah rfl) ddZ fun _ T9 _ X hQ9 => ?_
 obtain ⟨bx6_0_9, kx6_0_9, rfl, Nq9, Kc9, Sc9, P9_0, P9_1, P9_2, P9_3, P9_4, P9_5⟩ := hQ9
 have S9 := S5.tr Sc9
 have K9 : Keep h0 T9.heap [a15_0] := Keep.trans K5 Kc9 (allS (P := fun x => x ∈ ([a15_0] : List Addr) ∨ h0.size ≤ x) (Or.inl (List.mem_of_getElem? (i := 0) rfl)) all0)
 have sz_bx6_0_9 : h0.size ≤ bx6_0_9 := Nat.le_trans K5.1 P9_0
 have ne_a15_0_bx6_0_9 := onk f6.lt P9_0
 refine sA C X dd1 ?_
 refine sC C X dd2 ?_
 refine pF C X rfl (N.app Nq9) g_a15_0 P9_3 P9_1 (ty := .boolean) (wcn C.w) (wcp C.w) (wcf C.w) (by decide) dd3 fun _ h10 _ X u N W10 F10 => ?_
 have S10 := S9.wr W10
 have K10 : Keep h0 h10 [a15_0] := K9.wr W10 (Or.inl (List.mem_of_getElem? (i := 0) rfl))
 have f11 := (P9_1.wr W10)
 have f12 := (P9_2.other W10 (Or.inr (osl .int .boolean (wcm hw) (wcp hw))))
 have f13 := (P9_4.other W10 (Or.inr (osl oAL .boolean (wcA hw) (wcp hw))))
 have f14 := (P9_5.other W10 ne_a15_0_bx6_0_9.symm)
 refine rV C X u hret dd4 ?_
 exact ⟨bx6_0_9, kx6_0_9, rfl, N, K10, S10, sz_bx6_0_9, f11, f12, F10, f13, f14⟩
theorem faC (m : MethodId)  : entryFrame m #[(.int 0), (.int 1)] 2 = mkF m 0 #[oI 0, oI 1] [] := by first | (simp [entryFrame, mkF, argsToLocals, Value.category]; done) | rfl
def Q_rm17_3 (Z : State)  (h0 : Heap) (n0 : Nat) (v : Option Value) (h : Heap) (L : List Loc) : Prop := v = none ∧ Fr n0 L ∧ h = h0
theorem rm17_3 (hw : own_T Z a0)  (h0 : Heap) (n0 : Nat) (Z0 : n0 ≤ h0.size) :
   own_Met l oy17 oc17 2 none (oRm 0 0 0 0) Z h0 #[(.int 0), (.int 1)] (Q_rm17_3 Z  h0 n0) := by
 refine own_go hw (plainFor_of_name pn_17) (fun m => faC m) fun p e s m below meth c T0 C hret X u => ?_
 have N := Fr.nil n0
 refine sI C X deQ ?_
 refine bY C X deR 31 (by decide) ?_
 refine sI C X deT ?_
 refine bY C X deU 62 (by decide) ?_
 refine sI C X deV ?_
 refine sI C X deW ?_
 refine cY C X deX 103 (by decide) ?_
 refine rV C X u hret deS ?_
 exact ⟨rfl, N, rfl⟩
theorem faz (m : MethodId) (y0 : Addr) : entryFrame m #[(.ref y0), (.int 0), (.int 1)] 10 = mkF m 0 #[oR y0, oI 0, oI 1, oU, oU, oU, oU, oU, oU, oU] [] := by first | (simp [entryFrame, mkF, argsToLocals, Value.category]; done) | rfl
def Q_rm16_3 (Z : State) (a16_0 ww : Addr) (kw : ClassId) (tw : Int64) (h0 : Heap) (n0 : Nat) (v : Option Value) (h : Heap) (L : List Loc) : Prop := v = none ∧ Fr n0 L ∧ Keep h0 h [a16_0, ww] ∧ own_StK Z h0 h ∧ Exa Z h a16_0 oB ∧ Fld Z h a16_0 oB "wordsInUse" "I" (.int 1) ∧ Fld Z h a16_0 oB "sizeIsSticky" "Z" (.int 1) ∧ Fld Z h a16_0 oB "words" "[J" (.ref ww) ∧ Arv Z h ww kw .long (1 : Int32) [(.long (tw ||| (1 : Int64)))] oZ
theorem rm16_3 (hw : own_T Z a0) (a16_0 ww : Addr) (kw : ClassId) (tw : Int64) (h0 : Heap) (n0 : Nat) (Z0 : n0 ≤ h0.size) (E_a : Exa Z h0 a16_0 oB) (F_wordsInUse : Fld Z h0 a16_0 oB "wordsInUse" "I" (.int 0)) (F_sizeIsSticky : Fld Z h0 a16_0 oB "sizeIsSticky" "Z" (.int 1)) (F_words : Fld Z h0 a16_0 oB "words" "[J" (.ref ww)) (V_ww : Arv Z h0 ww kw .long (1 : Int32) [(.long tw)] oZ) (g_a16_0 : n0 ≤ a16_0) (ne_ww_a16_0 : ww ≠ a16_0) (g_ww : n0 ≤ ww) (Sta1 : Sta Z h0 oB "$assertionsDisabled" "Z" (.int 1)) :
   own_Met l oy16 oc16 10 none (oRm 2 0 0 28) Z h0 #[(.ref a16_0), (.int 0), (.int 1)] (Q_rm16_3 Z a16_0 ww kw tw h0 n0) := by
 refine own_go hw (plainFor_of_name pn_16) (fun m => faz m a16_0) fun p e s m below meth c T0 C hret X u => ?_
 have N := Fr.nil n0
 refine sI C X dd7 ?_
 refine sI C X dd8 ?_
 refine cS C X u (rm17_3 l Z a0 C.w  h0 n0 Z0 ) (W := 0) (wdr C.w) (wad C.w) (wae C.w) (wcg C.w) (argsL := [(.int 0), (.int 1)]) (lenOf pac rfl) del fun _ T1 _ X hQ1 => ?_
 obtain ⟨rfl, Nq1, u⟩ := hQ1
 refine sI C X deC ?_
 refine sI C X deJ ?_
 refine cY C X deP 11 (by decide) ?_
 refine sI C X dea ?_
 refine cS C X u (fun ws => rm7 l Z a0 C.w ws (0 : Int32) h0 n0 Z0 ) (W := 0) (wcv C.w) (wcw C.w) (wcx C.w) (wcg C.w) (argsL := [(.int 0)]) (lenOf paf rfl) dec fun _ T2 _ X hQ2 => ?_
 obtain ⟨rfl, Nq2, u⟩ := hQ2
 rw [show ((0 : Int32) >>> ((6 : Int32) &&& 31)) = (0 : Int32) from by decide+kernel]
 refine wI C X #[oR a16_0, oI 0, oI 1, oI 0, oU, oU, oU, oU, oU, oU] deg ?_
 refine sI C X deh ?_
 refine sC C X dei ?_
 refine sS C X dej ?_
 refine cS C X u (fun ws => rm7 l Z a0 C.w ws (0 : Int32) h0 n0 Z0 ) (W := 0) (wcv C.w) (wcw C.w) (wcx C.w) (wcg C.w) (argsL := [(.int 0)]) (lenOf paf rfl) dek fun _ T4 _ X hQ4 => ?_
 obtain ⟨rfl, Nq4, u⟩ := hQ4
 rw [show ((0 : Int32) >>> ((6 : Int32) &&& 31)) = (0 : Int32) from by decide+kernel]
 refine wi C X #[oR a16_0, oI 0, oI 1, oI 0, oI 0, oU, oU, oU, oU, oU] dem ?_
 refine sA C X den ?_
 refine si C X deo ?_
 refine cP C X u (rm21_1 l Z a0 C.w a16_0 ww kw tw h0 n0 Z0 E_a F_wordsInUse F_sizeIsSticky F_words V_ww g_a16_0) E_a (W := 0) (waw C.w) (wax C.w) (mvT C.z (waA C.w)) (waz C.w) (waB C.w) (wcg C.w) (argsL := [(.int 0)]) (lenOf pah rfl) dep fun _ T6 _ X hQ6 => ?_
 obtain ⟨rfl, Nq6, Kc6, Sc6, P6_0, P6_1, P6_2, P6_3⟩ := hQ6
 have S6 := (own_StK.refl Z h0).tr Sc6
 have K6 : Keep h0 T6.heap [a16_0, ww] := Keep.trans (Keep.refl h0 [a16_0, ww]) Kc6 (allS (P := fun x => x ∈ ([a16_0, ww] : List Addr) ∨ h0.size ≤ x) (Or.inl (List.mem_of_getElem? (i := 0) rfl)) all0)
 refine kJ C X (wa8 C.w) deq ?_
 refine sI C X der ?_
 refine tH C X des ?_
 refine wl C X #[oR a16_0, oI 0, oI 1, oI 0, oI 0, oJ (-1), oD, oU, oU, oU] det ?_
 refine kJ C X (wa8 C.w) deu ?_
 refine sI C X dev ?_
 refine sE C X dew ?_
 refine tU C X dex ?_
 refine wl C X #[oR a16_0, oI 0, oI 1, oI 0, oI 0, oJ (-1), oD, oJ 1, oD, oU] dey ?_
 refine sI C X dez ?_
 refine si C X deA ?_
 refine cN C X deB (by decide) ?_
 refine gA C X rfl P6_3 (wcy C.w) deD deE fun T7 X u => ?_
 refine sI C X deF ?_
 show own_Fin p e below _ T7 (mkF m 56 #[oR a16_0, oI 0, oI 1, oI 0, oI 0, oJ (-1), oD, oJ 1, oD, oU] [(.int 0), (.ref ww)])
 refine own_Fin.st (g' := (mkF m 57 #[oR a16_0, oI 0, oI 1, oI 0, oI 0, oJ (-1), oD, oJ 1, oD, oU] [(.int 0), (.ref ww), (.int 0), (.ref ww)])) ?_ (fun t k => by jvm_step X.here [X.here.top, C.1, C.d deG, Value.category]; exact k)
 have f8 := (V_ww.keep Kc6 (ninS ne_ww_a16_0 nin0))
 refine lA C X u f8 deH ?_
 refine sl C X deI ?_
 refine sl C X deK ?_
 refine tA C X deL ?_
 refine tO C X deM ?_
 refine sJ C X u ((((N.app Nq1).app Nq2).app Nq4).app Nq6) g_ww f8 _ deN fun _ h9 _ X u N W9 V9 => ?_
 have S9 := S6.wr W9
 have K9 : Keep h0 h9 [a16_0, ww] := K6.wr W9 (Or.inl (List.mem_of_getElem? (i := 1) rfl))
 have Z9 : n0 ≤ h9.size := Nat.le_trans Z0 K9.1
 refine sG C X deO 119 ?_
 refine sA C X deb ?_
 have f11 := (P6_0.wr W9)
 refine cP C X u (fun ws => rm14 l Z a0 C.w ws a16_0 h9 n0 Z9 (S9 _ _ _ _ Sta1)) f11 (W := 0) (wdc C.w) (wdd C.w) (mvT C.z (wdf C.w)) (wde C.w) (wdg C.w) (wcg C.w) (argsL := []) (lenOf pas rfl) ded fun _ T10 _ X hQ10 => ?_
 obtain ⟨rfl, Nq10, u⟩ := hQ10
 have f12 := (P6_1.other W9 (Or.inl ne_ww_a16_0.symm))
 have f13 := (P6_2.other W9 (Or.inl ne_ww_a16_0.symm))
 have f14 := (P6_3.other W9 (Or.inl ne_ww_a16_0.symm))
 refine rV C X u hret dee ?_
 exact ⟨rfl, (N.app Nq10), K9, S9, f11, f12, f13, f14, V9⟩
theorem faI (m : MethodId)  : entryFrame m #[(.int 8), (.int 4), (.int 8)] 3 = mkF m 0 #[oI 8, oI 4, oI 8] [] := by first | (simp [entryFrame, mkF, argsToLocals, Value.category]; done) | rfl
def Q_rm19_3 (Z : State)  (h0 : Heap) (n0 : Nat) (v : Option Value) (h : Heap) (L : List Loc) : Prop := v = none ∧ Fr n0 L ∧ h = h0
theorem rm19_3 (hw : own_T Z a0)  (h0 : Heap) (n0 : Nat) (Z0 : n0 ≤ h0.size) :
   own_Met l oy19 oc19 3 none (oRm 0 0 0 0) Z h0 #[(.int 8), (.int 4), (.int 8)] (Q_rm19_3 Z  h0 n0) := by
 refine own_go hw (plainFor_of_name pn_19) (fun m => faI m) fun p e s m below meth c T0 C hret X u => ?_
 have N := Fr.nil n0
 refine sI C X dff ?_
 refine sI C X dfg ?_
 refine cY C X dfh 46 (by decide) ?_
 refine sI C X dfi ?_
 refine bY C X dfj 59 (by decide) ?_
 refine sI C X dfk ?_
 refine sI C X dfl ?_
 refine cY C X dfm 73 (by decide) ?_
 refine rV C X u hret dfn ?_
 exact ⟨rfl, N, rfl⟩
theorem faF (m : MethodId) (y0 : Addr) : entryFrame m #[(.ref y0), (.int 4), (.int 8), (.long oM)] 6 = mkF m 0 #[oR y0, oI 4, oI 8, oJ 9223372036854775807, oD, oU] [] := by first | (simp [entryFrame, mkF, argsToLocals, Value.category]; done) | rfl
def Q_rm18_3 (Z : State) (a18_0 : Addr) (kc_a18_0 : ClassId) (t_a18_0_0 t_a18_0_1 t_a18_0_2 t_a18_0_3 t_a18_0_4 t_a18_0_5 t_a18_0_6 t_a18_0_7 : Int64) (h0 : Heap) (n0 : Nat) (v : Option Value) (h : Heap) (L : List Loc) : Prop := v = none ∧ Fr n0 L ∧ Keep h0 h [a18_0] ∧ own_StK Z h0 h ∧ Arv Z h a18_0 kc_a18_0 .long (8 : Int32) [(.long t_a18_0_0), (.long t_a18_0_1), (.long t_a18_0_2), (.long t_a18_0_3), (.long oM), (.long oM), (.long oM), (.long oM)] oZ
theorem rm18_3 (hw : own_T Z a0) (a18_0 : Addr) (kc_a18_0 : ClassId) (t_a18_0_0 t_a18_0_1 t_a18_0_2 t_a18_0_3 t_a18_0_4 t_a18_0_5 t_a18_0_6 t_a18_0_7 : Int64) (h0 : Heap) (n0 : Nat) (Z0 : n0 ≤ h0.size) (V_a18_0 : Arv Z h0 a18_0 kc_a18_0 .long (8 : Int32) [(.long t_a18_0_0), (.long t_a18_0_1), (.long t_a18_0_2), (.long t_a18_0_3), (.long t_a18_0_4), (.long t_a18_0_5), (.long t_a18_0_6), (.long t_a18_0_7)] oZ) (g_a18_0 : n0 ≤ a18_0) :
   own_Met l oy18 oc18 6 none (oRm 1 0 0 14) Z h0 #[(.ref a18_0), (.int 4), (.int 8), (.long oM)] (Q_rm18_3 Z a18_0 kc_a18_0 t_a18_0_0 t_a18_0_1 t_a18_0_2 t_a18_0_3 t_a18_0_4 t_a18_0_5 t_a18_0_6 t_a18_0_7 h0 n0) := by
 refine own_go hw (plainFor_of_name pn_18) (fun m => faF m a18_0) fun p e s m below meth c T0 C hret X u => ?_
 have N := Fr.nil n0
 refine sA C X deY ?_
 refine nA C X u V_a18_0 deZ ?_
 refine sI C X de6 ?_
 refine sI C X dfb ?_
 refine cS C X u (rm19_3 l Z a0 C.w  h0 n0 Z0 ) (W := 0) (wak C.w) (wal C.w) (wam C.w) (wai C.w) (argsL := [(.int 8), (.int 4), (.int 8)]) (lenOf paa rfl) dfc fun _ T1 _ X hQ1 => ?_
 obtain ⟨rfl, Nq1, u⟩ := hQ1
 refine sI C X dfd ?_
 refine wi C X #[oR a18_0, oI 4, oI 8, oJ 9223372036854775807, oD, oI 4] dfe ?_
 refine si C X de0 ?_
 refine sI C X de1 ?_
 refine cN C X de2 (by decide) ?_
 refine sA C X de3 ?_
 refine si C X de4 ?_
 refine sL C X de5 ?_
 refine sJ C X u (N.app Nq1) g_a18_0 V_a18_0 _ de7 fun _ h2 _ X u N W2 V2 => ?_
 have S2 := (own_StK.refl Z h0).wr W2
 have K2 : Keep h0 h2 [a18_0] := (Keep.refl h0 [a18_0]).wr W2 (Or.inl (List.mem_of_getElem? (i := 0) rfl))
 refine wc C X #[oR a18_0, oI 4, oI 8, oJ 9223372036854775807, oD, oI 5] de8 ?_
 refine sG C X de9 10 ?_
 refine si C X de0 ?_
 refine sI C X de1 ?_
 refine cN C X de2 (by decide) ?_
 refine sA C X de3 ?_
 refine si C X de4 ?_
 refine sL C X de5 ?_
 refine sJ C X u N g_a18_0 V2 _ de7 fun _ h3 _ X u N W3 V3 => ?_
 have S3 := S2.wr W3
 have K3 : Keep h0 h3 [a18_0] := K2.wr W3 (Or.inl (List.mem_of_getElem? (i := 0) rfl))
 refine wc C X #[oR a18_0, oI 4, oI 8, oJ 9223372036854775807, oD, oI 6] de8 ?_
 refine sG C X de9 10 ?_
 refine si C X de0 ?_
 refine sI C X de1 ?_
 refine cN C X de2 (by decide) ?_
 refine sA C X de3 ?_
 refine si C X de4 ?_
 refine sL C X de5 ?_
 refine sJ C X u N g_a18_0 V3 _ de7 fun _ h4 _ X u N W4 V4 => ?_
 have S4 := S3.wr W4
 have K4 : Keep h0 h4 [a18_0] := K3.wr W4 (Or.inl (List.mem_of_getElem? (i := 0) rfl))
 refine wc C X #[oR a18_0, oI 4, oI 8, oJ 9223372036854775807, oD, oI 7] de8 ?_
 refine sG C X de9 10 ?_
 refine si C X de0 ?_
 refine sI C X de1 ?_
 refine cN C X de2 (by decide) ?_
 refine sA C X de3 ?_
 refine si C X de4 ?_
 refine sL C X de5 ?_
 refine sJ C X u N g_a18_0 V4 _ de7 fun _ h5 _ X u N W5 V5 => ?_
 have S5 := S4.wr W5
 have K5 : Keep h0 h5 [a18_0] := K4.wr W5 (Or.inl (List.mem_of_getElem? (i := 0) rfl))
 refine wc C X #[oR a18_0, oI 4, oI 8, oJ 9223372036854775807, oD, oI 8] de8 ?_
 refine sG C X de9 10 ?_
 refine si C X de0 ?_
 refine sI C X de1 ?_
 refine cY C X de2 27 (by decide) ?_
 refine rV C X u hret dfa ?_
 exact ⟨rfl, N, K5, S5, V5⟩
theorem fao (m : MethodId) (y0 : Addr) : entryFrame m #[(.ref y0), (.int 4)] 8 = mkF m 0 #[oR y0, oI 4, oU, oU, oU, oU, oU, oU] [] := by first | (simp [entryFrame, mkF, argsToLocals, Value.category]; done) | rfl
def Q_rm12_3 (Z : State) (a12_0 : Addr) (rT : Addr) (rF : Addr) (rO : Addr) (rS : Addr) (rE : Addr) (rW : Addr) (kT : ClassId) (kF : ClassId) (kO : ClassId) (kW : ClassId) (bs : Int64) (tm0 : Int64) (tm1 : Int64) (fr0 : Int64) (to0 : Int64) (to1 : Int64) (hB : Heap) (h0 : Heap) (n0 : Nat) (v : Option Value) (h : Heap) (L : List Loc) : Prop := v = none ∧ Fr n0 L ∧ ∃ rT' : Addr, ∃ rF' : Addr, ∃ rO' : Addr, ∃ rS' : Addr, ∃ rE' : Addr, ∃ rW' : Addr, ∃ kT' : ClassId, ∃ kF' : ClassId, ∃ kO' : ClassId, ∃ kW' : ClassId, own_Obj Z h n0 a12_0 rT' rF' rO' rS' rE' rW' kT' kF' kO' kW' (0 : Int32) (1 : Int32) (1 : Int32) bs (1 : Int32) (1 : Int32) (1 : Int64) (4 : Int32) [(.long tm1), oZ, oZ, oZ] [(.long tm1), oZ, oZ, oZ] [(.long to1), oZ, oZ, oZ] hB ∧ own_Sp4 Z h rS' oM oM oM oM
theorem rm12_3 (hw : own_T Z a0) (a12_0 rT rF rO rS rE rW : Addr) (kT kF kO kW : ClassId) (bs tm0 tm1 fr0 to0 to1 : Int64) (hB : Heap) (h0 : Heap) (n0 : Nat) (Z0 : n0 ≤ h0.size) (O : own_Obj Z h0 n0 a12_0 rT rF rO rS rE rW kT kF kO kW (1 : Int32) (2 : Int32) (1 : Int32) bs (1 : Int32) (1 : Int32) (2 : Int64) (2 : Int32) [(.long tm0), (.long tm1)] [(.long fr0), (.long tm1)] [(.long to0), (.long to1)] hB) (SP : own_Sp2 Z h0 rS oM oM) :
   own_Met l oy12 oc12 8 none (oRm 3 6 24 49) Z h0 #[(.ref a12_0), (.int 4)] (Q_rm12_3 Z a12_0 rT rF rO rS rE rW kT kF kO kW bs tm0 tm1 fr0 to0 to1 hB h0 n0) := by
 refine own_go hw (plainFor_of_name pn_12) (fun m => fao m a12_0) fun p e s m below meth c T0 C hret X u => ?_
 have N := Fr.nil n0
 obtain ⟨Ea1, Ftimes1, Ffroms1, Ftotals1, Fspans1, Fentries1, Fsize1, Fend1, Ffirst1, Fbase1, Ee1, BwordsInUse1, BsizeIsSticky1, Bwords1, Vt1, Vf1, Vo1, Vw1, St1, g0_1, g1_1, g2_1, g3_1, g4_1, g5_1, g6_1, n0_1, n1_1, n2_1, n3_1, n4_1, n5_1, n6_1, n7_1, n8_1, n9_1, n10_1, n11_1, n12_1, n13_1, n14_1, n15_1, n16_1, n17_1, n18_1, n19_1, n20_1, Lo1⟩ := O
 refine sI C X dah ?_
 refine gA C X u Ftimes1 (wb5 C.w) dai dbf fun _ X u => ?_
 refine nA C X u Vt1 dcB ?_
 refine cN C X dcH (by decide) ?_
 refine sC C X dcX ?_
 refine sG C X daj 14 ?_
 refine wI C X #[oR a12_0, oI 4, oI 1, oU, oU, oU, oU, oU] daH ?_
 refine sI C X daN ?_
 refine bN C X daT (by decide) ?_
 refine sI C X da9 ?_
 refine nP C X u (n := 4) 4 [oZ, oZ, oZ, oZ] (wan C.w) dbg fun _ h3 k3 b3 g3 X u E3 V_b3 => ?_
 have ne_a12_0_b3 := onl Ea1.lt (Nat.le_refl _) g3
 have ne_rE_b3 := onl Ee1.lt (Nat.le_refl _) g3
 have ne_rF_b3 := onl Vf1.lt (Nat.le_refl _) g3
 have ne_rO_b3 := onl Vo1.lt (Nat.le_refl _) g3
 have ne_rW_b3 := onl Vw1.lt (Nat.le_refl _) g3
 have g_b3 : n0 ≤ b3 := Nat.le_trans Z0 (Nat.le_of_eq g3.symm)
 have S3 := (own_StK.refl Z h0).ext E3
 have Y3 : h0.size ≤ h3.size := Nat.le_trans (Nat.le_refl _) E3.1
 refine sG C X dbs 29 ?_
 refine wA C X #[oR a12_0, oI 4, oI 1, oR b3, oU, oU, oU, oU] db9 ?_
 refine sI C X dcg ?_
 refine bN C X dco (by decide) ?_
 refine sI C X dct ?_
 refine nP C X u (n := 4) 4 [oZ, oZ, oZ, oZ] (wan C.w) dcu fun _ h4 k4 b4 g4 X u E4 V_b4 => ?_
 have ne_a12_0_b4 := onl Ea1.lt Y3 g4
 have ne_rE_b4 := onl Ee1.lt Y3 g4
 have ne_rO_b4 := onl Vo1.lt Y3 g4
 have ne_rW_b4 := onl Vw1.lt Y3 g4
 have ne_b3_b4 := onm V_b3.lt g4
 have g_b4 : n0 ≤ b4 := Nat.le_trans (Nat.le_trans Z0 Y3) (Nat.le_of_eq g4.symm)
 have S4 := S3.ext E4
 have Y4 := Nat.le_trans Y3 E4.1
 refine sG C X dcv 44 ?_
 refine wa C X #[oR a12_0, oI 4, oI 1, oR b3, oR b4, oU, oU, oU] dcy ?_
 refine sI C X dcz ?_
 refine bN C X dcA (by decide) ?_
 refine sI C X dcC ?_
 have f5 := (V_b3.ext E4)
 refine nP C X u (n := 4) 4 [oZ, oZ, oZ, oZ] (wan C.w) dcD fun _ h6 k6 b6 g6 X u E6 V_b6 => ?_
 have ne_a12_0_b6 := onl Ea1.lt Y4 g6
 have ne_rE_b6 := onl Ee1.lt Y4 g6
 have ne_rW_b6 := onl Vw1.lt Y4 g6
 have ne_b3_b6 := onm f5.lt g6
 have ne_b4_b6 := onm V_b4.lt g6
 have g_b6 : n0 ≤ b6 := Nat.le_trans (Nat.le_trans Z0 Y4) (Nat.le_of_eq g6.symm)
 have S6 := S4.ext E6
 have Y6 := Nat.le_trans Y4 E6.1
 refine sG C X dcE 60 ?_
 refine wa C X #[oR a12_0, oI 4, oI 1, oR b3, oR b4, oR b6, oU, oU] dcI ?_
 refine sC C X dcJ ?_
 refine wi C X #[oR a12_0, oI 4, oI 1, oR b3, oR b4, oR b6, oI 0, oU] dcK ?_
 have f7 := (((Fentries1.ext E3).ext E4).ext E6)
 refine gA C X u f7 (wcB C.w) dcL dcM fun _ X u => ?_
 have f9 := (((Ffirst1.ext E3).ext E4).ext E6)
 refine gA C X u f9 (wc4 C.w) dcN dcO fun _ X u => ?_
 have f11 := (((Vw1.ext E3).ext E4).ext E6)
 have f12 := (((Ee1.ext E3).ext E4).ext E6)
 have f13 := (((BwordsInUse1.ext E3).ext E4).ext E6)
 have f14 := (((BsizeIsSticky1.ext E3).ext E4).ext E6)
 have f15 := (((Bwords1.ext E3).ext E4).ext E6)
 refine cV C X u (rm13_2 l Z a0 C.w rE (1 : Int32) rW kW (2 : Int64) h6 n0 (Nat.le_trans Z0 Y6) (by decide+kernel) (by decide+kernel) f12 f13 f14 f15 f11 (S6 _ _ _ _ St1)) f12 (W := 0) (wc7 C.w) (wc8 C.w) (wda C.w) (wc9 C.w) (wdb C.w) (wcg C.w) (argsL := [(.int 1)]) (lenOf paf rfl) dcP fun _ T16 _ X hQ16 => ?_
 obtain ⟨rfl, Nq16, u⟩ := hQ16
 rw [show (own_nsb (1 : Int32) (2 : Int64)) = (1 : Int32) from by decide+kernel]
 refine wi C X #[oR a12_0, oI 4, oI 1, oR b3, oR b4, oR b6, oI 0, oI 1] dcQ ?_
 refine si C X dcR ?_
 refine bN C X dcS (by decide) ?_
 refine sA C X dcT ?_
 refine si C X dcU ?_
 have f18 := (((Ftimes1.ext E3).ext E4).ext E6)
 refine gA C X u f18 (wb5 C.w) dcV dcW fun _ X u => ?_
 refine si C X dcY ?_
 have f20 := (((Vt1.ext E3).ext E4).ext E6)
 refine lA C X u f20 dcZ ?_
 have f21 := (f5.ext E6)
 refine sJ C X u (N.app Nq16) g_b3 f21 _ dc0 fun _ h22 _ X u N W22 V22 => ?_
 have S22 := S6.wr W22
 have Y22 := oyw Y6 W22
 refine sa C X dc1 ?_
 refine si C X dc2 ?_
 have f23 := ((((Ffroms1.ext E3).ext E4).ext E6).other W22 (Or.inl ne_a12_0_b3))
 refine gA C X u f23 (wb7 C.w) dc3 dc4 fun _ X u => ?_
 refine si C X dak ?_
 have f25 := ((((Vf1.ext E3).ext E4).ext E6).other W22 ne_rF_b3)
 refine lA C X u f25 dal ?_
 have f26 := ((V_b4.ext E6).other W22 ne_b3_b4.symm)
 refine sJ C X u N g_b4 f26 _ dam fun _ h27 _ X u N W27 V27 => ?_
 have S27 := S22.wr W27
 have Y27 := oyw Y22 W27
 refine sa C X dan ?_
 refine si C X dao ?_
 have f28 := (((((Ftotals1.ext E3).ext E4).ext E6).other W22 (Or.inl ne_a12_0_b3)).other W27 (Or.inl ne_a12_0_b4))
 refine gA C X u f28 (wb9 C.w) dap daq fun _ X u => ?_
 refine si C X dar ?_
 have f30 := (((((Vo1.ext E3).ext E4).ext E6).other W22 ne_rO_b3).other W27 ne_rO_b4)
 refine lA C X u f30 das ?_
 have f31 := ((V_b6.other W22 ne_b3_b6.symm).other W27 ne_b4_b6.symm)
 refine sJ C X u N g_b6 f31 _ dat fun _ h32 _ X u N W32 V32 => ?_
 have S32 := S27.wr W32
 have Y32 := oyw Y27 W32
 refine wc C X #[oR a12_0, oI 4, oI 1, oR b3, oR b4, oR b6, oI 1, oI 1] dau ?_
 have f33 := (((f7.other W22 (Or.inl ne_a12_0_b3)).other W27 (Or.inl ne_a12_0_b4)).other W32 (Or.inl ne_a12_0_b6))
 refine gA C X u f33 (wcB C.w) dav daw fun _ X u => ?_
 refine si C X dax ?_
 refine sC C X day ?_
 refine sP C X daz ?_
 have f35 := (((f11.other W22 ne_rW_b3).other W27 ne_rW_b4).other W32 ne_rW_b6)
 have f36 := (((f12.wr W22).wr W27).wr W32)
 have f37 := (((f13.other W22 (Or.inl ne_rE_b3)).other W27 (Or.inl ne_rE_b4)).other W32 (Or.inl ne_rE_b6))
 have f38 := (((f14.other W22 (Or.inl ne_rE_b3)).other W27 (Or.inl ne_rE_b4)).other W32 (Or.inl ne_rE_b6))
 have f39 := (((f15.other W22 (Or.inl ne_rE_b3)).other W27 (Or.inl ne_rE_b4)).other W32 (Or.inl ne_rE_b6))
 refine cV C X u (rm13_2 l Z a0 C.w rE (2 : Int32) rW kW (2 : Int64) h32 n0 (Nat.le_trans Z0 Y32) (by decide+kernel) (by decide+kernel) f36 f37 f38 f39 f35 (S32 _ _ _ _ St1)) f36 (W := 0) (wc7 C.w) (wc8 C.w) (wda C.w) (wc9 C.w) (wdb C.w) (wcg C.w) (argsL := [(.int 2)]) (lenOf paf rfl) daA fun _ T40 _ X hQ40 => ?_
 obtain ⟨rfl, Nq40, u⟩ := hQ40
 rw [show (own_nsb (2 : Int32) (2 : Int64)) = (-1 : Int32) from by decide+kernel]
 refine wi C X #[oR a12_0, oI 4, oI 1, oR b3, oR b4, oR b6, oI 1, oI (-1)] daC ?_
 refine sG C X daD 78 ?_
 refine si C X dcR ?_
 refine bY C X dcS 137 (by decide) ?_
 refine sA C X daE ?_
 refine sA C X daF ?_
 have f42 := ((((((Ea1.ext E3).ext E4).ext E6).wr W22).wr W27).wr W32)
 have f43 := (((f18.other W22 (Or.inl ne_a12_0_b3)).other W27 (Or.inl ne_a12_0_b4)).other W32 (Or.inl ne_a12_0_b6))
 refine pF C X u (N.app Nq40) g0_1 f43 f42 (ty := (.array .long)) (wb5 C.w) (wb6 C.w) (waU C.w) (by decide) daG fun _ h44 _ X u N W44 F44 => ?_
 have S44 := S32.wr W44
 have Y44 := oyw Y32 W44
 refine sA C X daI ?_
 refine sa C X daJ ?_
 have f45 := (f42.wr W44)
 have f46 := (((f23.other W27 (Or.inl ne_a12_0_b4)).other W32 (Or.inl ne_a12_0_b6)).other W44 (Or.inr (osl oAL oAL (wb8 hw) (wb6 hw))))
 refine pF C X u N g0_1 f46 f45 (ty := (.array .long)) (wb7 C.w) (wb8 C.w) (waU C.w) (by decide) daK fun _ h47 _ X u N W47 F47 => ?_
 have S47 := S44.wr W47
 have Y47 := oyw Y44 W47
 refine sA C X daL ?_
 refine sa C X daM ?_
 have f48 := (f45.wr W47)
 have f49 := (((f28.other W32 (Or.inl ne_a12_0_b6)).other W44 (Or.inr (osl oAL oAL (wca hw) (wb6 hw)))).other W47 (Or.inr (osl oAL oAL (wca hw) (wb8 hw))))
 refine pF C X u N g0_1 f49 f48 (ty := (.array .long)) (wb9 C.w) (wca C.w) (waU C.w) (by decide) daO fun _ h50 _ X u N W50 F50 => ?_
 have S50 := S47.wr W50
 have Y50 := oyw Y47 W50
 refine sI C X daP ?_
 refine bN C X daQ (by decide) ?_
 refine sA C X daR ?_
 have f51 := (((((V22.other W27 ne_b3_b4).other W32 ne_b3_b6).other W44 ne_a12_0_b3.symm).other W47 ne_a12_0_b3.symm).other W50 ne_a12_0_b3.symm)
 have f52 := ((((V27.other W32 ne_b4_b6).other W44 ne_a12_0_b4.symm).other W47 ne_a12_0_b4.symm).other W50 ne_a12_0_b4.symm)
 have f53 := (((V32.other W44 ne_a12_0_b6.symm).other W47 ne_a12_0_b6.symm).other W50 ne_a12_0_b6.symm)
 refine nO C X u (wce C.w) (wcf C.w) (wcg C.w) daS fun _ h54 b54 g54 X u E54 A54 D54 => ?_
 have ne_a12_0_b54 := onl Ea1.lt Y50 g54
 have ne_b3_b54 := onm f51.lt g54
 have ne_b4_b54 := onm f52.lt g54
 have ne_b6_b54 := onm f53.lt g54
 have F_wordsInUse_b54 : Fld Z h54 b54 oB "wordsInUse" "I" (.int 0) := D54 (Or.inl (wcm hw)) (ty := .int) (by decide)
 have F_sizeIsSticky_b54 : Fld Z h54 b54 oB "sizeIsSticky" "Z" (.int 0) := D54 (Or.inl (wcp hw)) (ty := .boolean) (by decide)
 have F_words_b54 : Fld Z h54 b54 oB "words" "[J" .null := D54 (Or.inl (wcA hw)) (ty := (.array .long)) (by decide)
 have g_b54 : n0 ≤ b54 := Nat.le_trans (Nat.le_trans Z0 Y50) (Nat.le_of_eq g54.symm)
 have S54 := S50.ext E54
 have Y54 := Nat.le_trans Y50 E54.1
 refine sD C X daU ?_
 refine sI C X daV ?_
 have f56 := ((f48.wr W50).ext E54)
 have f63 := (f51.ext E54)
 have f64 := (f52.ext E54)
 have f65 := (f53.ext E54)
 refine cI C X u (rm15_3 l Z a0 C.w b54 h54 n0 (Nat.le_trans Z0 Y54) A54 F_wordsInUse_b54 F_sizeIsSticky_b54 F_words_b54 g_b54) (W := 2) (wdj C.w) (wdk C.w) (wdl C.w) (wcg C.w) (argsL := [(.int 4)]) (lenOf pah rfl) daW fun _ T55 _ X hQ55 => ?_
 obtain ⟨bx15_0_55, kx15_0_55, rfl, Nq55, Kc55, Sc55, P55_0, P55_1, P55_2, P55_3, P55_4, P55_5⟩ := hQ55
 have S55 := S54.tr Sc55
 have Y55 := Nat.le_trans Y54 Kc55.1
 have g_bx15_0_55 : n0 ≤ bx15_0_55 := Nat.le_trans (Nat.le_trans Z0 Y54) P55_0
 have ne_a12_0_bx15_0_55 := onk f56.lt P55_0
 have ne_b3_bx15_0_55 := onk f63.lt P55_0
 have ne_b4_bx15_0_55 := onk f64.lt P55_0
 have ne_b6_bx15_0_55 := onk f65.lt P55_0
 have ne_b54_bx15_0_55 := onk A54.lt P55_0
 have f66 := (f56.keep Kc55)
 have f67 := (((((f33.other W44 (Or.inr (osl oOB oAL (wcC hw) (wb6 hw)))).other W47 (Or.inr (osl oOB oAL (wcC hw) (wb8 hw)))).other W50 (Or.inr (osl oOB oAL (wcC hw) (wca hw)))).ext E54).keep Kc55 (ninS ne_a12_0_b54 nin0))
 refine pF C X rfl (N.app Nq55) g0_1 f67 f66 (ty := (.object oB)) (wcB C.w) (wcC C.w) (waU C.w) (by decide) daX fun _ h68 _ X u N W68 F68 => ?_
 have S68 := S55.wr W68
 have Y68 := oyw Y55 W68
 refine sA C X daY ?_
 refine sC C X daZ ?_
 refine sI C X da0 ?_
 refine sM C X da1 ?_
 have f69 := ((f63.keep Kc55 (ninS ne_b3_b54 nin0)).other W68 ne_a12_0_b3.symm)
 have f70 := ((f64.keep Kc55 (ninS ne_b4_b54 nin0)).other W68 ne_a12_0_b4.symm)
 have f71 := ((f65.keep Kc55 (ninS ne_b6_b54 nin0)).other W68 ne_a12_0_b6.symm)
 have f72 := (P55_1.wr W68)
 have f73 := (P55_5.other W68 ne_a12_0_bx15_0_55.symm)
 refine nP C X u (n := 8) 8 [oZ, oZ, oZ, oZ, oZ, oZ, oZ, oZ] (wan C.w) da2 fun _ h74 k74 b74 g74 X u E74 V_b74 => ?_
 have ne_a12_0_b74 := onl Ea1.lt Y68 g74
 have ne_b3_b74 := onm f69.lt g74
 have ne_b4_b74 := onm f70.lt g74
 have ne_b6_b74 := onm f71.lt g74
 have ne_b54_b74 := onm f72.lt g74
 have ne_bx15_0_55_b74 := onm f73.lt g74
 have g_b74 : n0 ≤ b74 := Nat.le_trans (Nat.le_trans Z0 Y68) (Nat.le_of_eq g74.symm)
 have S74 := S68.ext E74
 have Y74 := Nat.le_trans Y68 E74.1
 have f75 := ((f66.wr W68).ext E74)
 have f76 := (((((((((((((Fspans1.ext E3).ext E4).ext E6).other W22 (Or.inl ne_a12_0_b3)).other W27 (Or.inl ne_a12_0_b4)).other W32 (Or.inl ne_a12_0_b6)).other W44 (Or.inr (osl oAL oAL (wcc hw) (wb6 hw)))).other W47 (Or.inr (osl oAL oAL (wcc hw) (wb8 hw)))).other W50 (Or.inr (osl oAL oAL (wcc hw) (wca hw)))).ext E54).keep Kc55 (ninS ne_a12_0_b54 nin0)).other W68 (Or.inr (osl oAL oOB (wcc hw) (wcC hw)))).ext E74)
 refine pF C X u N g0_1 f76 f75 (ty := (.array .long)) (wcb C.w) (wcc C.w) (waU C.w) (by decide) da3 fun _ h77 _ X u N W77 F77 => ?_
 have S77 := S74.wr W77
 have Y77 := oyw Y74 W77
 refine sG C X da4 189 ?_
 have f78 := ((F68.ext E74).other W77 (Or.inr (osl oOB oAL (wcC hw) (wcc hw))))
 refine gA C X u f78 (wcB C.w) da8 dba fun _ X u => ?_
 refine sC C X dbb ?_
 have f80 := ((((((((((((((Fsize1.ext E3).ext E4).ext E6).other W22 (Or.inl ne_a12_0_b3)).other W27 (Or.inl ne_a12_0_b4)).other W32 (Or.inl ne_a12_0_b6)).other W44 (Or.inr (osl .int oAL (wcJ hw) (wb6 hw)))).other W47 (Or.inr (osl .int oAL (wcJ hw) (wb8 hw)))).other W50 (Or.inr (osl .int oAL (wcJ hw) (wca hw)))).ext E54).keep Kc55 (ninS ne_a12_0_b54 nin0)).other W68 (Or.inr (osl .int oOB (wcJ hw) (wcC hw)))).ext E74).other W77 (Or.inr (osl .int oAL (wcJ hw) (wcc hw))))
 refine gA C X u f80 (wcI C.w) dbc dbd fun _ X u => ?_
 have f82 := ((f73.ext E74).other W77 ne_a12_0_bx15_0_55.symm)
 have f83 := ((f72.ext E74).wr W77)
 have f84 := (((P55_2.other W68 (Or.inl ne_a12_0_b54.symm)).ext E74).other W77 (Or.inl ne_a12_0_b54.symm))
 have f85 := (((P55_3.other W68 (Or.inl ne_a12_0_b54.symm)).ext E74).other W77 (Or.inl ne_a12_0_b54.symm))
 have f86 := (((P55_4.other W68 (Or.inl ne_a12_0_b54.symm)).ext E74).other W77 (Or.inl ne_a12_0_b54.symm))
 refine cV C X u (rm16_3 l Z a0 C.w b54 bx15_0_55 kx15_0_55 (0 : Int64) h77 n0 (Nat.le_trans Z0 Y77) f83 f84 f85 f86 f82 g_b54 ne_b54_bx15_0_55.symm g_bx15_0_55 (S77 _ _ _ _ St1)) f83 (W := 0) (wdm C.w) (wdn C.w) (wdp C.w) (wdo C.w) (wdq C.w) (wcg C.w) (argsL := [(.int 0), (.int 1)]) (lenOf pac rfl) dbe fun _ T87 _ X hQ87 => ?_
 obtain ⟨rfl, Nq87, Kc87, Sc87, P87_0, P87_1, P87_2, P87_3, P87_4⟩ := hQ87
 have S87 := S77.tr Sc87
 rw [show ((0 : Int64) ||| (1 : Int64)) = (1 : Int64) from by decide+kernel] at P87_4
 refine sA C X dbh ?_
 refine sC C X dbi ?_
 have f88 := ((f75.wr W77).keep Kc87)
 have f89 := ((((((((((((f9.other W22 (Or.inl ne_a12_0_b3)).other W27 (Or.inl ne_a12_0_b4)).other W32 (Or.inl ne_a12_0_b6)).other W44 (Or.inr (osl .int oAL (wc5 hw) (wb6 hw)))).other W47 (Or.inr (osl .int oAL (wc5 hw) (wb8 hw)))).other W50 (Or.inr (osl .int oAL (wc5 hw) (wca hw)))).ext E54).keep Kc55 (ninS ne_a12_0_b54 nin0)).other W68 (Or.inr (osl .int oOB (wc5 hw) (wcC hw)))).ext E74).other W77 (Or.inr (osl .int oAL (wc5 hw) (wcc hw)))).keep Kc87 (ninS ne_a12_0_b54 (ninS ne_a12_0_bx15_0_55 nin0)))
 refine pF C X rfl (N.app Nq87) g0_1 f89 f88 (ty := .int) (wc4 C.w) (wc5 C.w) (waU C.w) (by decide) dbj fun _ h90 _ X u N W90 F90 => ?_
 have S90 := S87.wr W90
 refine sA C X dbk ?_
 have f91 := ((f80.keep Kc87 (ninS ne_a12_0_b54 (ninS ne_a12_0_bx15_0_55 nin0))).other W90 (Or.inr (osl .int .int (wcJ hw) (wc5 hw))))
 refine gA C X u f91 (wcI C.w) dbl dbm fun _ X u => ?_
 have f93 := (f88.wr W90)
 have f94 := ((((((((((((((((Fend1.ext E3).ext E4).ext E6).other W22 (Or.inl ne_a12_0_b3)).other W27 (Or.inl ne_a12_0_b4)).other W32 (Or.inl ne_a12_0_b6)).other W44 (Or.inr (osl .int oAL (wcM hw) (wb6 hw)))).other W47 (Or.inr (osl .int oAL (wcM hw) (wb8 hw)))).other W50 (Or.inr (osl .int oAL (wcM hw) (wca hw)))).ext E54).keep Kc55 (ninS ne_a12_0_b54 nin0)).other W68 (Or.inr (osl .int oOB (wcM hw) (wcC hw)))).ext E74).other W77 (Or.inr (osl .int oAL (wcM hw) (wcc hw)))).keep Kc87 (ninS ne_a12_0_b54 (ninS ne_a12_0_bx15_0_55 nin0))).other W90 (Or.inr (osl .int .int (wcM hw) (wc5 hw))))
 refine pF C X u N g0_1 f94 f93 (ty := .int) (wcL C.w) (wcM C.w) (waU C.w) (by decide) dbn fun _ h95 _ X u N W95 F95 => ?_
 have S95 := S90.wr W95
 have f96 := ((((V_b74.other W77 ne_a12_0_b74.symm).keep Kc87 (ninS ne_b54_b74.symm (ninS ne_bx15_0_55_b74.symm nin0))).other W90 ne_a12_0_b74.symm).other W95 ne_a12_0_b74.symm)
 have f97 := (f93.wr W95)
 have f98 := ((((((((((F44.other W47 (Or.inr (osl oAL oAL (wb6 hw) (wb8 hw)))).other W50 (Or.inr (osl oAL oAL (wb6 hw) (wca hw)))).ext E54).keep Kc55 (ninS ne_a12_0_b54 nin0)).other W68 (Or.inr (osl oAL oOB (wb6 hw) (wcC hw)))).ext E74).other W77 (Or.inr (osl oAL oAL (wb6 hw) (wcc hw)))).keep Kc87 (ninS ne_a12_0_b54 (ninS ne_a12_0_bx15_0_55 nin0))).other W90 (Or.inr (osl oAL .int (wb6 hw) (wc5 hw)))).other W95 (Or.inr (osl oAL .int (wb6 hw) (wcM hw))))
 have f99 := (((((((((F47.other W50 (Or.inr (osl oAL oAL (wb8 hw) (wca hw)))).ext E54).keep Kc55 (ninS ne_a12_0_b54 nin0)).other W68 (Or.inr (osl oAL oOB (wb8 hw) (wcC hw)))).ext E74).other W77 (Or.inr (osl oAL oAL (wb8 hw) (wcc hw)))).keep Kc87 (ninS ne_a12_0_b54 (ninS ne_a12_0_bx15_0_55 nin0))).other W90 (Or.inr (osl oAL .int (wb8 hw) (wc5 hw)))).other W95 (Or.inr (osl oAL .int (wb8 hw) (wcM hw))))
 have f100 := ((((((((F50.ext E54).keep Kc55 (ninS ne_a12_0_b54 nin0)).other W68 (Or.inr (osl oAL oOB (wca hw) (wcC hw)))).ext E74).other W77 (Or.inr (osl oAL oAL (wca hw) (wcc hw)))).keep Kc87 (ninS ne_a12_0_b54 (ninS ne_a12_0_bx15_0_55 nin0))).other W90 (Or.inr (osl oAL .int (wca hw) (wc5 hw)))).other W95 (Or.inr (osl oAL .int (wca hw) (wcM hw))))
 have f101 := (((F77.keep Kc87 (ninS ne_a12_0_b54 (ninS ne_a12_0_bx15_0_55 nin0))).other W90 (Or.inr (osl oAL .int (wcc hw) (wc5 hw)))).other W95 (Or.inr (osl oAL .int (wcc hw) (wcM hw))))
 have f102 := (((f78.keep Kc87 (ninS ne_a12_0_b54 (ninS ne_a12_0_bx15_0_55 nin0))).other W90 (Or.inr (osl oOB .int (wcC hw) (wc5 hw)))).other W95 (Or.inr (osl oOB .int (wcC hw) (wcM hw))))
 have f103 := (f91.other W95 (Or.inr (osl .int .int (wcJ hw) (wcM hw))))
 have f104 := (F90.other W95 (Or.inr (osl .int .int (wc5 hw) (wcM hw))))
 have f105 := (((((((((((((((((Fbase1.ext E3).ext E4).ext E6).other W22 (Or.inl ne_a12_0_b3)).other W27 (Or.inl ne_a12_0_b4)).other W32 (Or.inl ne_a12_0_b6)).other W44 (Or.inr (osl .long oAL (waq hw) (wb6 hw)))).other W47 (Or.inr (osl .long oAL (waq hw) (wb8 hw)))).other W50 (Or.inr (osl .long oAL (waq hw) (wca hw)))).ext E54).keep Kc55 (ninS ne_a12_0_b54 nin0)).other W68 (Or.inr (osl .long oOB (waq hw) (wcC hw)))).ext E74).other W77 (Or.inr (osl .long oAL (waq hw) (wcc hw)))).keep Kc87 (ninS ne_a12_0_b54 (ninS ne_a12_0_bx15_0_55 nin0))).other W90 (Or.inr (osl .long .int (waq hw) (wc5 hw)))).other W95 (Or.inr (osl .long .int (waq hw) (wcM hw))))
 have f106 := ((P87_0.wr W90).wr W95)
 have f107 := ((P87_1.other W90 (Or.inl ne_a12_0_b54.symm)).other W95 (Or.inl ne_a12_0_b54.symm))
 have f108 := ((P87_2.other W90 (Or.inl ne_a12_0_b54.symm)).other W95 (Or.inl ne_a12_0_b54.symm))
 have f109 := ((P87_3.other W90 (Or.inl ne_a12_0_b54.symm)).other W95 (Or.inl ne_a12_0_b54.symm))
 have f110 := (((((f69.ext E74).other W77 ne_a12_0_b3.symm).keep Kc87 (ninS ne_b3_b54 (ninS ne_b3_bx15_0_55 nin0))).other W90 ne_a12_0_b3.symm).other W95 ne_a12_0_b3.symm)
 have f111 := (((((f70.ext E74).other W77 ne_a12_0_b4.symm).keep Kc87 (ninS ne_b4_b54 (ninS ne_b4_bx15_0_55 nin0))).other W90 ne_a12_0_b4.symm).other W95 ne_a12_0_b4.symm)
 have f112 := (((((f71.ext E74).other W77 ne_a12_0_b6.symm).keep Kc87 (ninS ne_b6_b54 (ninS ne_b6_bx15_0_55 nin0))).other W90 ne_a12_0_b6.symm).other W95 ne_a12_0_b6.symm)
 have f113 := ((P87_4.other W90 ne_a12_0_bx15_0_55.symm).other W95 ne_a12_0_bx15_0_55.symm)
 have Op114 : own_Obj Z h95 n0 a12_0 b3 b4 b6 b74 b54 bx15_0_55 k3 k4 k6 kx15_0_55 (0 : Int32) (1 : Int32) (1 : Int32) bs (1 : Int32) (1 : Int32) (1 : Int64) (4 : Int32) [(.long tm1), oZ, oZ, oZ] [(.long tm1), oZ, oZ, oZ] [(.long to1), oZ, oZ, oZ] hB := ⟨f97, f98, f99, f100, f101, f102, f103, F95, f104, f105, f106, f107, f108, f109, f110, f111, f112, f113, (S95 _ _ _ _ St1), g0_1, g_b3, g_b4, g_b6, g_b74, g_b54, g_bx15_0_55, ne_a12_0_b3, ne_a12_0_b4, ne_a12_0_b6, ne_a12_0_b74, ne_a12_0_b54, ne_a12_0_bx15_0_55, ne_b3_b4, ne_b3_b6, ne_b3_b74, ne_b3_b54, ne_b3_bx15_0_55, ne_b4_b6, ne_b4_b74, ne_b4_b54, ne_b4_bx15_0_55, ne_b6_b74, ne_b6_b54, ne_b6_bx15_0_55, ne_b54_b74.symm, ne_bx15_0_55_b74.symm, ne_b54_bx15_0_55, (((((((((((((((((Lo1.ext E3).ext E4).ext E6).wr W22 g_b3).wr W27 g_b4).wr W32 g_b6).wr W44 g0_1).wr W47 g0_1).wr W50 g0_1).ext E54).keep Kc55 (allS (P := fun x => n0 ≤ x) g_b54 all0)).wr W68 g0_1).ext E74).wr W77 g0_1).keep Kc87 (allS (P := fun x => n0 ≤ x) g_b54 (allS (P := fun x => n0 ≤ x) g_bx15_0_55 all0))).wr W90 g0_1).wr W95 g0_1)⟩
 refine gA C X u Op114.Fspans (wcb C.w) dbo dbp fun _ X u => ?_
 refine sI C X dbq ?_
 refine sC C X dbr ?_
 refine sI C X dbt ?_
 refine sM C X dbu ?_
 refine kJ C X (waf C.w) dbv ?_
 refine cS C X u (rm18_3 l Z a0 C.w b74 k74 (0 : Int64) (0 : Int64) (0 : Int64) (0 : Int64) (0 : Int64) (0 : Int64) (0 : Int64) (0 : Int64) h95 n0 Op114.hsz f96 Op114.grS) (W := 0) (wag C.w) (wah C.w) (waj C.w) (wai C.w) (argsL := [(.ref b74), (.int 4), (.int 8), (.long oM)]) (lenOf pao rfl) dbw fun _ T116 _ X hQ116 => ?_
 obtain ⟨rfl, Nq116, Kc116, Sc116, P116_0⟩ := hQ116
 have O116 := Op114.sp Kc116 Sc116
 refine sC C X dbx ?_
 refine wi C X #[oR a12_0, oI 4, oI 1, oR b3, oR b4, oR b6, oI 1, oI 1] dby ?_
 refine si C X dbz ?_
 refine gA C X rfl O116.Fsize (wcI C.w) dbA dbB fun _ X u => ?_
 refine cY C X dbC 272 (by decide) ?_
 refine sI C X dbY ?_
 refine sC C X dbZ ?_
 refine sS C X db0 ?_
 refine wi C X #[oR a12_0, oI 4, oI 1, oR b3, oR b4, oR b6, oI 1, oI 3] db1 ?_
 refine si C X db2 ?_
 refine bN C X db3 (by decide) ?_
 refine gA C X u O116.Fspans (wcb C.w) db4 db5 fun _ X u => ?_
 refine si C X db6 ?_
 refine gA C X u O116.Fspans (wcb C.w) db7 db8 fun _ X u => ?_
 refine sC C X dca ?_
 refine si C X dcb ?_
 refine sM C X dcc ?_
 refine lA C X u P116_0 dcd ?_
 refine gA C X u O116.Fspans (wcb C.w) dce dcf fun _ X u => ?_
 refine sC C X dch ?_
 refine si C X dci ?_
 refine sM C X dcj ?_
 refine sC C X dck ?_
 refine sP C X dcl ?_
 refine lA C X u P116_0 dcm ?_
 refine cS C X u (fun ws => rm1 l Z a0 C.w ws oM oM T116.heap n0 O116.hsz ) (W := 2) (wao C.w) (wcd C.w) (wcz C.w) (wco C.w) (argsL := [(.long oM), (.long oM)]) (lenOf paj rfl) dcn fun _ T121 _ X hQ121 => ?_
 obtain ⟨rfl, Nq121, u⟩ := hQ121
 rw [show (own_m oM oM) = oM from by decide+kernel]
 refine sJ C X u ((N.app Nq116).app Nq121) O116.grS P116_0 _ dcp fun _ h123 _ X u N W123 V123 => ?_
 have O123 := O116.wsp W123
 refine wc C X #[oR a12_0, oI 4, oI 1, oR b3, oR b4, oR b6, oI 1, oI 2] dcq ?_
 refine sG C X dcr 277 ?_
 refine si C X db2 ?_
 refine bN C X db3 (by decide) ?_
 refine gA C X u O123.Fspans (wcb C.w) db4 db5 fun _ X u => ?_
 refine si C X db6 ?_
 refine gA C X u O123.Fspans (wcb C.w) db7 db8 fun _ X u => ?_
 refine sC C X dca ?_
 refine si C X dcb ?_
 refine sM C X dcc ?_
 refine lA C X u V123 dcd ?_
 refine gA C X u O123.Fspans (wcb C.w) dce dcf fun _ X u => ?_
 refine sC C X dch ?_
 refine si C X dci ?_
 refine sM C X dcj ?_
 refine sC C X dck ?_
 refine sP C X dcl ?_
 refine lA C X u V123 dcm ?_
 refine cS C X u (fun ws => rm1 l Z a0 C.w ws oM oM h123 n0 O123.hsz ) (W := 2) (wao C.w) (wcd C.w) (wcz C.w) (wco C.w) (argsL := [(.long oM), (.long oM)]) (lenOf paj rfl) dcn fun _ T127 _ X hQ127 => ?_
 obtain ⟨rfl, Nq127, u⟩ := hQ127
 rw [show (own_m oM oM) = oM from by decide+kernel]
 refine sJ C X u (N.app Nq127) O123.grS V123 _ dcp fun _ h129 _ X u N W129 V129 => ?_
 have O129 := O123.wsp W129
 refine wc C X #[oR a12_0, oI 4, oI 1, oR b3, oR b4, oR b6, oI 1, oI 1] dcq ?_
 refine sG C X dcr 277 ?_
 refine si C X db2 ?_
 refine bN C X db3 (by decide) ?_
 refine gA C X u O129.Fspans (wcb C.w) db4 db5 fun _ X u => ?_
 refine si C X db6 ?_
 refine gA C X u O129.Fspans (wcb C.w) db7 db8 fun _ X u => ?_
 refine sC C X dca ?_
 refine si C X dcb ?_
 refine sM C X dcc ?_
 refine lA C X u V129 dcd ?_
 refine gA C X u O129.Fspans (wcb C.w) dce dcf fun _ X u => ?_
 refine sC C X dch ?_
 refine si C X dci ?_
 refine sM C X dcj ?_
 refine sC C X dck ?_
 refine sP C X dcl ?_
 refine lA C X u V129 dcm ?_
 refine cS C X u (fun ws => rm1 l Z a0 C.w ws oM oM h129 n0 O129.hsz ) (W := 2) (wao C.w) (wcd C.w) (wcz C.w) (wco C.w) (argsL := [(.long oM), (.long oM)]) (lenOf paj rfl) dcn fun _ T133 _ X hQ133 => ?_
 obtain ⟨rfl, Nq133, u⟩ := hQ133
 rw [show (own_m oM oM) = oM from by decide+kernel]
 refine sJ C X u (N.app Nq133) O129.grS V129 _ dcp fun _ h135 _ X u N W135 V135 => ?_
 have O135 := O129.wsp W135
 refine wc C X #[oR a12_0, oI 4, oI 1, oR b3, oR b4, oR b6, oI 1, oI 0] dcq ?_
 refine sG C X dcr 277 ?_
 refine si C X db2 ?_
 refine bY C X db3 318 (by decide) ?_
 refine rV C X u hret dcs ?_
 exact ⟨rfl, N, b3, b4, b6, b74, b54, bx15_0_55, k3, k4, k6, kx15_0_55, O135, ⟨_, own_arv V135 (ocs rfl (ocs (congrArg Value.long (by simp only [own_mMM])) (ocs (congrArg Value.long (by simp only [own_mMM])) (ocs (congrArg Value.long (by simp only [own_mMM])) (ocs rfl (ocs rfl (ocs rfl (ocs rfl rfl))))))))⟩⟩
def Q_rm23_4_1 (Z : State) (a23_0 : Addr) (q23_2 : Int64) (wt : Addr) (kt : ClassId) (t0 t1 t2 t3 : Int64) (ws : Addr) (l0 l1 l2 l3 : Int64) (h0 : Heap) (n0 : Nat) (v : Option Value) (h : Heap) (L : List Loc) : Prop := v = none ∧ Fr n0 L ∧ Keep h0 h [ws] ∧ own_StK Z h0 h ∧ own_Sp4 Z h ws l0 q23_2 l2 l3
theorem rm23_4_1 (hw : own_T Z a0) (a23_0 : Addr) (q23_2 : Int64) (wt : Addr) (kt : ClassId) (t0 t1 t2 t3 : Int64) (ws : Addr) (l0 l1 l2 l3 : Int64) (h0 : Heap) (n0 : Nat) (Z0 : n0 ≤ h0.size) (F_times : Fld Z h0 a23_0 oL "times" "[J" (.ref wt)) (V_wt : Arv Z h0 wt kt .long (4 : Int32) [(.long t0), (.long t1), (.long t2), (.long t3)] oZ) (F_spans : Fld Z h0 a23_0 oL "spans" "[J" (.ref ws)) (T_ws : own_Sp4 Z h0 ws l0 l1 l2 l3) (g_ws : n0 ≤ ws) (ne_a23_0_ws : a23_0 ≠ ws) :
   own_Met l oy23 oc23 7 none (oRm 1 0 0 15) Z h0 #[(.ref a23_0), (.int 1), (.long q23_2)] (Q_rm23_4_1 Z a23_0 q23_2 wt kt t0 t1 t2 t3 ws l0 l1 l2 l3 h0 n0) := by
 refine own_go hw (plainFor_of_name pn_23) (fun m => faN m a23_0 q23_2) fun p e s m below meth c T0 C hret X u => ?_
 have N := Fr.nil n0
 refine gA C X u F_times (wb5 C.w) dgc dgd fun _ X u => ?_
 refine nA C X u V_wt dgw ?_
 refine sI C X dgE ?_
 refine sP C X dgK ?_
 refine wi C X #[oR a23_0, oI 1, oJ q23_2, oD, oI 5, oU, oU] dgQ ?_
 refine gA C X u F_spans (wcb C.w) dg1 dge fun _ X u => ?_
 refine si C X dgf ?_
 refine sL C X dgg ?_
 obtain ⟨kq3, VT3⟩ := id T_ws
 obtain ⟨m3_3, hm3_3⟩ : ∃ z : Int64, z = (own_m l2 l3) := ⟨_, rfl⟩
 rw [← hm3_3] at VT3
 obtain ⟨m3_2, hm3_2⟩ : ∃ z : Int64, z = (own_m l0 l1) := ⟨_, rfl⟩
 rw [← hm3_2] at VT3
 obtain ⟨m3_1, hm3_1⟩ : ∃ z : Int64, z = (own_m m3_2 m3_3) := ⟨_, rfl⟩
 rw [← hm3_1] at VT3
 refine sJ C X u N g_ws VT3 _ dgh fun _ h4 _ X u N W4 V4 => ?_
 have S4 := (own_StK.refl Z h0).wr W4
 have K4 : Keep h0 h4 [ws] := (Keep.refl h0 [ws]).wr W4 (Or.inl (List.mem_of_getElem? (i := 0) rfl))
 have Z4 : n0 ≤ h4.size := Nat.le_trans Z0 K4.1
 refine si C X dgi ?_
 refine sC C X dgj ?_
 refine own_Fin.st (g' := (mkF m 21 #[oR a23_0, oI 1, oJ q23_2, oD, oI 5, oU, oU] [(.int 2)])) ?_ (fun t k => XS.idiv X.here C.1 rfl (C.d dgk) rfl (by decide : ¬ ((2 : Int32) = (0 : Int32))) k)
 refine wi C X #[oR a23_0, oI 1, oJ q23_2, oD, oI 2, oU, oU] dgl ?_
 refine si C X dgm ?_
 refine bN C X dgn (by decide) ?_
 have f5 := (F_spans.other W4 (Or.inl ne_a23_0_ws))
 refine gA C X u f5 (wcb C.w) dgo dgp fun _ X u => ?_
 refine sC C X dgq ?_
 refine si C X dgr ?_
 refine sM C X dgs ?_
 refine lA C X u V4 dgt ?_
 refine gA C X u f5 (wcb C.w) dgu dgv fun _ X u => ?_
 refine sC C X dgx ?_
 refine si C X dgy ?_
 refine sM C X dgz ?_
 refine sC C X dgA ?_
 refine sP C X dgB ?_
 refine lA C X u V4 dgC ?_
 refine cS C X u (fun ws => rm1 l Z a0 C.w ws l0 q23_2 h4 n0 Z4 ) (W := 0) (wao C.w) (wcd C.w) (wcz C.w) (wco C.w) (argsL := [(.long l0), (.long q23_2)]) (lenOf paj rfl) dgD fun _ T8 _ X hQ8 => ?_
 obtain ⟨rfl, Nq8, u⟩ := hQ8
 obtain ⟨x9, hx9⟩ : ∃ z : Int64, z = (own_m l0 q23_2) := ⟨_, rfl⟩
 rw [← hx9]
 refine wl C X #[oR a23_0, oI 1, oJ q23_2, oD, oI 2, oJ x9, oD] dgF ?_
 refine gA C X u f5 (wcb C.w) dgG dgH fun _ X u => ?_
 refine si C X dgI ?_
 refine lA C X u V4 dgJ ?_
 refine sl C X dgL ?_
 refine tC C X dgM ?_
 by_cases h63_11 : m3_2 = x9
 · refine bN C X dgN ((if0 _ _).trans (teq ((lw_eq _ _).mpr h63_11)).2) ?_
   refine sG C X dgO 87 ?_
   refine rV C X u hret dg0 ?_
   subst hx9
   subst hm3_1
   subst hm3_2
   subst hm3_3
   exact ⟨rfl, (N.app Nq8), K4, S4, ⟨_, own_arv V4 (ocs rfl (ocs (congrArg Value.long (by rw [h63_11])) (ocs (congrArg Value.long h63_11.symm) (ocs rfl (ocs rfl (ocs rfl (ocs rfl (ocs rfl rfl))))))))⟩⟩
 refine bY C X dgN 69 ((if0 _ _).trans (feq (fun q => h63_11 ((lw_eq _ _).mp q))).2) ?_
 refine gA C X u f5 (wcb C.w) dgP dgR fun _ X u => ?_
 refine si C X dgS ?_
 refine sl C X dgT ?_
 refine sJ C X u (N.app Nq8) g_ws V4 _ dgU fun _ h13 _ X u N W13 V13 => ?_
 have S13 := S4.wr W13
 have K13 : Keep h0 h13 [ws] := K4.wr W13 (Or.inl (List.mem_of_getElem? (i := 0) rfl))
 have Z13 : n0 ≤ h13.size := Nat.le_trans Z0 K13.1
 refine si C X dgV ?_
 refine sC C X dgW ?_
 refine own_Fin.st (g' := (mkF m 82 #[oR a23_0, oI 1, oJ q23_2, oD, oI 2, oJ x9, oD] [(.int 1)])) ?_ (fun t k => XS.idiv X.here C.1 rfl (C.d dgX) rfl (by decide : ¬ ((2 : Int32) = (0 : Int32))) k)
 refine wi C X #[oR a23_0, oI 1, oJ q23_2, oD, oI 1, oJ x9, oD] dgY ?_
 refine sG C X dgZ 23 ?_
 refine si C X dgm ?_
 refine bN C X dgn (by decide) ?_
 have f14 := (f5.other W13 (Or.inl ne_a23_0_ws))
 refine gA C X u f14 (wcb C.w) dgo dgp fun _ X u => ?_
 refine sC C X dgq ?_
 refine si C X dgr ?_
 refine sM C X dgs ?_
 refine lA C X u V13 dgt ?_
 refine gA C X u f14 (wcb C.w) dgu dgv fun _ X u => ?_
 refine sC C X dgx ?_
 refine si C X dgy ?_
 refine sM C X dgz ?_
 refine sC C X dgA ?_
 refine sP C X dgB ?_
 refine lA C X u V13 dgC ?_
 refine cS C X u (fun ws => rm1 l Z a0 C.w ws x9 m3_3 h13 n0 Z13 ) (W := 0) (wao C.w) (wcd C.w) (wcz C.w) (wco C.w) (argsL := [(.long x9), (.long m3_3)]) (lenOf paj rfl) dgD fun _ T17 _ X hQ17 => ?_
 obtain ⟨rfl, Nq17, u⟩ := hQ17
 obtain ⟨x18, hx18⟩ : ∃ z : Int64, z = (own_m x9 m3_3) := ⟨_, rfl⟩
 rw [← hx18]
 refine wl C X #[oR a23_0, oI 1, oJ q23_2, oD, oI 1, oJ x18, oD] dgF ?_
 refine gA C X u f14 (wcb C.w) dgG dgH fun _ X u => ?_
 refine si C X dgI ?_
 refine lA C X u V13 dgJ ?_
 refine sl C X dgL ?_
 refine tC C X dgM ?_
 by_cases h63_20 : m3_1 = x18
 · refine bN C X dgN ((if0 _ _).trans (teq ((lw_eq _ _).mpr h63_20)).2) ?_
   refine sG C X dgO 87 ?_
   refine rV C X u hret dg0 ?_
   subst hx18
   subst hx9
   subst hm3_1
   subst hm3_2
   subst hm3_3
   exact ⟨rfl, (N.app Nq17), K13, S13, ⟨_, own_arv V13 (ocs rfl (ocs (congrArg Value.long h63_20.symm) (ocs rfl (ocs rfl (ocs rfl (ocs rfl (ocs rfl (ocs rfl rfl))))))))⟩⟩
 refine bY C X dgN 69 ((if0 _ _).trans (feq (fun q => h63_20 ((lw_eq _ _).mp q))).2) ?_
 refine gA C X u f14 (wcb C.w) dgP dgR fun _ X u => ?_
 refine si C X dgS ?_
 refine sl C X dgT ?_
 refine sJ C X u (N.app Nq17) g_ws V13 _ dgU fun _ h22 _ X u N W22 V22 => ?_
 have S22 := S13.wr W22
 have K22 : Keep h0 h22 [ws] := K13.wr W22 (Or.inl (List.mem_of_getElem? (i := 0) rfl))
 refine si C X dgV ?_
 refine sC C X dgW ?_
 refine own_Fin.st (g' := (mkF m 82 #[oR a23_0, oI 1, oJ q23_2, oD, oI 1, oJ x18, oD] [(.int 0)])) ?_ (fun t k => XS.idiv X.here C.1 rfl (C.d dgX) rfl (by decide : ¬ ((2 : Int32) = (0 : Int32))) k)
 refine wi C X #[oR a23_0, oI 1, oJ q23_2, oD, oI 0, oJ x18, oD] dgY ?_
 refine sG C X dgZ 23 ?_
 refine si C X dgm ?_
 refine bY C X dgn 87 (by decide) ?_
 refine rV C X u hret dg0 ?_
 subst hx18
 subst hx9
 subst hm3_1
 subst hm3_2
 subst hm3_3
 exact ⟨rfl, N, K22, S22, ⟨_, own_arv V22 (ocs rfl (ocs rfl (ocs rfl (ocs rfl (ocs rfl (ocs rfl (ocs rfl (ocs rfl rfl))))))))⟩⟩
def own_G_4_0_2_3 (Z : State) (hB h : Heap) (n0 : Nat) (a : Addr) (bs : Int64) (tm0 : Int64) (tm1 : Int64) (to0 : Int64) (to1 : Int64) : Prop := ∃ rT : Addr, ∃ rF : Addr, ∃ rO : Addr, ∃ rS : Addr, ∃ rE : Addr, ∃ rW : Addr, ∃ kT : ClassId, ∃ kF : ClassId, ∃ kO : ClassId, ∃ kW : ClassId, ∃ tm2 : Int64, ∃ tm3 : Int64, ∃ fr2 : Int64, ∃ fr3 : Int64, ∃ to2 : Int64, ∃ to3 : Int64, own_Obj Z h n0 a rT rF rO rS rE rW kT kF kO kW (0 : Int32) (2 : Int32) (2 : Int32) bs (1 : Int32) (1 : Int32) (3 : Int64) (4 : Int32) [(.long tm0), (.long tm1), (.long tm2), (.long tm3)] [(.long tm0), (.long tm1), (.long fr2), (.long fr3)] [(.long to0), (.long to1), (.long to2), (.long to3)] hB ∧ own_Sp4 Z h rS oM (tm1 - tm0) oM oM
def Q_rmA_2_1_2 (Z : State) (a8_0 : Addr) (q8_1 : Int64) (q8_2 : Int64) (rT : Addr) (rF : Addr) (rO : Addr) (rS : Addr) (rE : Addr) (rW : Addr) (kT : ClassId) (kF : ClassId) (kO : ClassId) (kW : ClassId) (bs : Int64) (tm0 : Int64) (tm1 : Int64) (fr0 : Int64) (to0 : Int64) (to1 : Int64) (hB : Heap) (h0 : Heap) (n0 : Nat) (v : Option Value) (h : Heap) (L : List Loc) : Prop := v = none ∧ Fr n0 L ∧ ((tm1 = q8_1 ∧ own_G_2_1_2_2 Z hB h n0 a8_0 bs tm1 (to1 + q8_2)) ∨ (¬ (tm1 = q8_1) ∧ own_G_4_0_2_3 Z hB h n0 a8_0 bs tm1 q8_1 to1 (to1 + q8_2)))
theorem rmA_2_1_2 (hw : own_T Z a0) (a8_0 : Addr) (q8_1 q8_2 : Int64) (rT rF rO rS rE rW : Addr) (kT kF kO kW : ClassId) (bs tm0 tm1 fr0 to0 to1 : Int64) (hB : Heap) (h0 : Heap) (n0 : Nat) (Z0 : n0 ≤ h0.size) (O : own_Obj Z h0 n0 a8_0 rT rF rO rS rE rW kT kF kO kW (1 : Int32) (2 : Int32) (1 : Int32) bs (1 : Int32) (1 : Int32) (2 : Int64) (2 : Int32) [(.long tm0), (.long tm1)] [(.long fr0), (.long tm1)] [(.long to0), (.long to1)] hB) (SP : own_Sp2 Z h0 rS oM oM) :
   own_Met l oy8 oc8 9 none (oRm 6 6 44 150) Z h0 #[(.ref a8_0), (.long q8_1), (.long q8_2), (.int 1000)] (Q_rmA_2_1_2 Z a8_0 q8_1 q8_2 rT rF rO rS rE rW kT kF kO kW bs tm0 tm1 fr0 to0 to1 hB h0 n0) := by
 refine own_go hw (plainFor_of_name pn_8) (fun m => fa4 m a8_0 q8_1 q8_2) fun p e s m below meth c T0 C hret X u => ?_
 have N := Fr.nil n0
 refine gA C X u O.Fsize (wcI C.w) doK doL fun _ X u => ?_
 refine bN C X dqR (by decide) ?_
 refine gA C X u O.Ftimes (wb5 C.w) dqW dqX fun _ X u => ?_
 refine gA C X u O.Fend (wcL C.w) doM doN fun _ X u => ?_
 refine sC C X doQ ?_
 refine sS C X doW ?_
 refine lA C X u O.Vt do1 ?_
 refine sL C X do8 ?_
 refine tC C X dpg ?_
 by_cases h20_4 : tm1 = q8_1
 · refine bN C X dpo ((if0 _ _).trans (teq ((lw_eq _ _).mpr h20_4)).2) ?_
   refine gA C X u O.Ftotals (wb9 C.w) dpE dpK fun _ X u => ?_
   refine gA C X u O.Fend (wcL C.w) dp4 dp9 fun T6 X u => ?_
   refine sC C X dqr ?_
   refine sS C X dqx ?_
   show own_Fin p e below _ T6 (mkF m 33 #[oR a8_0, oJ q8_1, oD, oJ q8_2, oD, oI 1000, oU, oU, oU] [(.int 1), (.ref rO)])
   refine own_Fin.st (g' := (mkF m 34 #[oR a8_0, oJ q8_1, oD, oJ q8_2, oD, oI 1000, oU, oU, oU] [(.int 1), (.ref rO), (.int 1), (.ref rO)])) ?_ (fun t k => by jvm_step X.here [X.here.top, C.1, C.d dqE, Value.category]; exact k)
   refine lA C X u O.Vo dqK ?_
   refine sL C X dqN ?_
   refine tP C X dqO ?_
   refine sJ C X u N O.grO O.Vo _ dqP fun _ h7 _ X u N W7 V7 => ?_
   have O7 := O.setO W7 V7
   refine sG C X dqQ 348 ?_
   have f43 := (SP.other W7 (Ne.symm O7.n_rO_rS))
   refine rV C X u hret dqM ?_
   exact ⟨rfl, N, Or.inl ⟨h20_4, ⟨rT, rF, rO, rS, rE, rW, kT, kF, kO, kW, tm0, fr0, to0, O7, f43⟩⟩⟩
 refine bY C X dpo 41 ((if0 _ _).trans (feq (fun q => h20_4 ((lw_eq _ _).mp q))).2) ?_
 refine gA C X u O.Fsize (wcI C.w) dqS dqT fun _ X u => ?_
 refine si C X dqU ?_
 refine cY C X dqV 148 (by decide) ?_
 refine gA C X u O.Ftimes (wb5 C.w) doO doP fun _ X u => ?_
 refine nA C X u O.Vt doR ?_
 refine wi C X #[oR a8_0, oJ q8_1, oD, oJ q8_2, oD, oI 1000, oI 2, oU, oU] doS ?_
 refine gA C X u O.Fend (wcL C.w) doT doU fun _ X u => ?_
 refine si C X doV ?_
 refine cY C X doX 188 (by decide) ?_
 refine sA C X dpe ?_
 refine sC C X dpf ?_
 refine sC C X dph ?_
 refine gA C X u O.Fsize (wcI C.w) dpi dpj fun _ X u => ?_
 refine sM C X dpk ?_
 refine sC C X dpl ?_
 refine sP C X dpm ?_
 refine cB C X u (W := 2) (Jvm.Free.JP.Integer_highestOneBit_I.pays (3 : Int32) (own_tH C) (by decide) (by decide)) (wcN C.w) (wcO C.w) (wcQ C.w) (wcP C.w) (argsL := [(.int 3)]) (lenOf paf rfl) (fun _ => ⟨rfl, trivial⟩) dpn fun _ X u => ?_
 have cz13 : Jvm.Free.JP.Integer_highestOneBit_I.val (3 : Int32) = (2 : Int32):=by decide+kernel
 rw [cz13]
 refine sC C X dpp ?_
 refine sH C X dpq ?_
 refine cS C X u (fun ws => rm11 l Z a0 C.w ws (2 : Int32) (4 : Int32) h0 n0 O.hsz ) (W := 1) (wcX C.w) (wcY C.w) (wcZ C.w) (wco C.w) (argsL := [(.int 2), (.int 4)]) (lenOf pab rfl) dpr fun _ T14 _ X hQ14 => ?_
 obtain ⟨rfl, Nq14, u⟩ := hQ14
 rw [show (if (2 : Int32) < (4 : Int32) then (4 : Int32) else (2 : Int32)) = (4 : Int32) from by decide+kernel]
 refine cP C X u (rm12_3 l Z a0 C.w a8_0 rT rF rO rS rE rW kT kF kO kW bs tm0 tm1 fr0 to0 to1 hB h0 n0 O.hsz O SP) O.Ea (W := 0) (wc0 C.w) (wc1 C.w) (osp6 C) (wc2 C.w) (wc3 C.w) (wa5 C.w) (argsL := [(.int 4)]) (lenOf pah rfl) dps fun _ T16 _ X hQ16 => ?_
 obtain ⟨rfl, Nq16, rT_16, rF_16, rO_16, rS_16, rE_16, rW_16, kT_16, kF_16, kO_16, kW_16, O16, SP16⟩ := hQ16
 refine gA C X rfl O16.Fsize (wcI C.w) dpt dpu fun _ X u => ?_
 refine bN C X dpv (by decide) ?_
 refine gA C X u O16.Ftotals (wb9 C.w) dpw dpx fun _ X u => ?_
 refine gA C X u O16.Fend (wcL C.w) dpy dpz fun _ X u => ?_
 refine sC C X dpA ?_
 refine sS C X dpB ?_
 refine lA C X u O16.Vo dpC ?_
 refine sG C X dpD 234 ?_
 refine wl C X #[oR a8_0, oJ q8_1, oD, oJ q8_2, oD, oI 1000, oI 2, oJ to1, oD] dpH ?_
 refine gA C X u O16.Ftimes (wb5 C.w) dpI dpJ fun _ X u => ?_
 refine gA C X u O16.Fend (wcL C.w) dpL dpM fun _ X u => ?_
 refine sL C X dpN ?_
 refine sJ C X u ((N.app Nq14).app Nq16) O16.grT O16.Vt _ dpO fun _ h22 _ X u N W22 V22 => ?_
 have O22 := O16.setT W22 V22
 refine gA C X u O22.Ffroms (wb7 C.w) dpP dpQ fun _ X u => ?_
 refine gA C X u O22.Fend (wcL C.w) dpR dpS fun _ X u => ?_
 refine sL C X dpT ?_
 refine sJ C X u N O22.grF O22.Vf _ dpU fun _ h25 _ X u N W25 V25 => ?_
 have O25 := O22.setF W25 V25
 refine gA C X u O25.Ftotals (wb9 C.w) dpV dpW fun _ X u => ?_
 refine gA C X u O25.Fend (wcL C.w) dpX dpY fun _ X u => ?_
 refine sl C X dpZ ?_
 refine sL C X dp0 ?_
 refine tP C X dp1 ?_
 refine sJ C X u N O25.grO O25.Vo _ dp2 fun _ h28 _ X u N W28 V28 => ?_
 have O28 := O25.setO W28 V28
 refine gA C X u O28.Fentries (wcB C.w) dp3 dp5 fun _ X u => ?_
 refine gA C X u O28.Fend (wcL C.w) dp6 dp7 fun _ X u => ?_
 refine cV C X u (rm20_2 l Z a0 C.w rE_16 (1 : Int32) rW_16 kW_16 (1 : Int64) h28 n0 O28.hsz (by decide+kernel) (by decide+kernel) O28.Ee O28.BwordsInUse O28.BsizeIsSticky O28.Bwords O28.Vw O28.grW O28.St) O28.Ee (W := 0) (war C.w) (was C.w) (wau C.w) (wat C.w) (wav C.w) (wcg C.w) (argsL := [(.int 1)]) (lenOf pah rfl) dp8 fun _ T31 _ X hQ31 => ?_
 obtain ⟨rfl, Nq31, Kc31, Sc31, P31_0⟩ := hQ31
 rw [show ((1 : Int64) ||| ((1 : Int64) <<< ((1 : Int32) &&& 0x3f).toInt64)) = (3 : Int64) from by decide+kernel] at P31_0
 have O31 := O28.bit1 Kc31 Sc31 P31_0
 refine sA C X dqa ?_
 refine gA C X rfl O31.Fend (wcL C.w) dqb dqc fun _ X u => ?_
 refine gA C X u O31.Fsize (wcI C.w) dqd dqe fun _ X u => ?_
 refine bN C X dqf (by decide) ?_
 refine sL C X dqg ?_
 refine gA C X u O31.Ffroms (wb7 C.w) dqh dqi fun _ X u => ?_
 refine gA C X u O31.Fend (wcL C.w) dqj dqk fun _ X u => ?_
 refine sC C X dql ?_
 refine sS C X dqm ?_
 refine lA C X u O31.Vf dqn ?_
 refine tS C X dqo ?_
 refine sG C X dqp 311 ?_
 have f36 := ((((SP16.other W22 (Ne.symm O31.n_rT_rS)).other W25 (Ne.symm O31.n_rF_rS)).other W28 (Ne.symm O31.n_rO_rS)).keep Kc31 (ninS O31.n_rS_rW nin0))
 refine cP C X u (rm23_4_1 l Z a0 C.w a8_0 (q8_1 - tm1) rT_16 kT_16 tm1 q8_1 (0 : Int64) (0 : Int64) rS_16 oM oM oM oM T31.heap n0 O31.hsz O31.Ftimes O31.Vt O31.Fspans f36 O31.grS O31.n_a_rS) O31.Ea (W := 0) (waH C.w) (waI C.w) (osp1 C) (waK C.w) (waL C.w) (wa5 C.w) (argsL := [(.int 1), (.long (q8_1 - tm1))]) (lenOf pae rfl) dqs fun _ T37 _ X hQ37 => ?_
 obtain ⟨rfl, Nq37, Kc37, Sc37, P37_0⟩ := hQ37
 have O37 := O31.sp Kc37 Sc37
 refine sA C X dqt ?_
 refine sD C X dqu ?_
 refine gF C X rfl O37.Fend (wcL C.w) dqv fun _ X u => ?_
 refine sC C X dqw ?_
 refine sP C X dqy ?_
 refine pF C X u ((N.app Nq31).app Nq37) O37.ga O37.Fend O37.Ea (ty := .int) (wcL C.w) (wcM C.w) (waU C.w) (by decide) dqz fun _ h39 _ X u N W39 F39 => ?_
 have O39 := own_Obj.put_end hw O37 W39 F39
 refine sA C X dqA ?_
 refine sD C X dqB ?_
 refine gF C X u O39.Fsize (wcI C.w) dqC fun _ X u => ?_
 refine sC C X dqD ?_
 refine sP C X dqF ?_
 refine pF C X u N O39.ga O39.Fsize O39.Ea (ty := .int) (wcI C.w) (wcJ C.w) (waU C.w) (by decide) dqG fun _ h41 _ X u N W41 F41 => ?_
 have O41 := own_Obj.put_size hw O39 W41 F41
 refine gA C X u O41.Fsize (wcI C.w) dqH dqI fun _ X u => ?_
 refine si C X dqJ ?_
 refine cY C X dqL 348 (by decide) ?_
 have f44 := ((P37_0.other W39 (Ne.symm O41.n_a_rS)).other W41 (Ne.symm O41.n_a_rS))
 refine rV C X u hret dqM ?_
 exact ⟨rfl, N, Or.inr (⟨h20_4, ⟨rT_16, rF_16, rO_16, rS_16, rE_16, rW_16, kT_16, kF_16, kO_16, kW_16, (0 : Int64), (0 : Int64), (0 : Int64), (0 : Int64), (0 : Int64), (0 : Int64), O41, f44⟩⟩)⟩
def own_G_2_1_1_0 (Z : State) (hB h : Heap) (n0 : Nat) (a : Addr) (bs : Int64) : Prop := ∃ rT : Addr, ∃ rF : Addr, ∃ rO : Addr, ∃ rS : Addr, ∃ rE : Addr, ∃ rW : Addr, ∃ kT : ClassId, ∃ kF : ClassId, ∃ kO : ClassId, ∃ kW : ClassId, ∃ tm0 : Int64, ∃ tm1 : Int64, ∃ fr0 : Int64, ∃ fr1 : Int64, ∃ to0 : Int64, ∃ to1 : Int64, own_Obj Z h n0 a rT rF rO rS rE rW kT kF kO kW (1 : Int32) (1 : Int32) (0 : Int32) bs (0 : Int32) (1 : Int32) (0 : Int64) (2 : Int32) [(.long tm0), (.long tm1)] [(.long fr0), (.long fr1)] [(.long to0), (.long to1)] hB ∧ own_Sp2 Z h rS oM oM
def Q_rmA_2_1_1 (Z : State) (a8_0 : Addr) (q8_1 : Int64) (q8_2 : Int64) (rT : Addr) (rF : Addr) (rO : Addr) (rS : Addr) (rE : Addr) (rW : Addr) (kT : ClassId) (kF : ClassId) (kO : ClassId) (kW : ClassId) (bs : Int64) (tm0 : Int64) (tm1 : Int64) (fr0 : Int64) (fr1 : Int64) (to0 : Int64) (to1 : Int64) (hB : Heap) (h0 : Heap) (n0 : Nat) (v : Option Value) (h : Heap) (L : List Loc) : Prop := v = none ∧ Fr n0 L ∧ ((own_G_2_1_2_2 Z hB h n0 a8_0 bs q8_1 (bs + q8_2)))
theorem rmA_2_1_1 (hw : own_T Z a0) (a8_0 : Addr) (q8_1 q8_2 : Int64) (rT rF rO rS rE rW : Addr) (kT kF kO kW : ClassId) (bs tm0 tm1 fr0 fr1 to0 to1 : Int64) (hB : Heap) (h0 : Heap) (n0 : Nat) (Z0 : n0 ≤ h0.size) (O : own_Obj Z h0 n0 a8_0 rT rF rO rS rE rW kT kF kO kW (1 : Int32) (1 : Int32) (0 : Int32) bs (0 : Int32) (1 : Int32) (0 : Int64) (2 : Int32) [(.long tm0), (.long tm1)] [(.long fr0), (.long fr1)] [(.long to0), (.long to1)] hB) (SP : own_Sp2 Z h0 rS oM oM) :
   own_Met l oy8 oc8 9 none (oRm 6 6 44 150) Z h0 #[(.ref a8_0), (.long q8_1), (.long q8_2), (.int 1000)] (Q_rmA_2_1_1 Z a8_0 q8_1 q8_2 rT rF rO rS rE rW kT kF kO kW bs tm0 tm1 fr0 fr1 to0 to1 hB h0 n0) := by
 refine own_go hw (plainFor_of_name pn_8) (fun m => fa4 m a8_0 q8_1 q8_2) fun p e s m below meth c T0 C hret X u => ?_
 have N := Fr.nil n0
 refine gA C X u O.Fsize (wcI C.w) doK doL fun _ X u => ?_
 refine bY C X dqR 41 (by decide) ?_
 refine gA C X u O.Fsize (wcI C.w) dqS dqT fun _ X u => ?_
 refine si C X dqU ?_
 refine cY C X dqV 148 (by decide) ?_
 refine gA C X u O.Ftimes (wb5 C.w) doO doP fun _ X u => ?_
 refine nA C X u O.Vt doR ?_
 refine wi C X #[oR a8_0, oJ q8_1, oD, oJ q8_2, oD, oI 1000, oI 2, oU, oU] doS ?_
 refine gA C X u O.Fend (wcL C.w) doT doU fun _ X u => ?_
 refine si C X doV ?_
 refine cN C X doX (by decide) ?_
 refine si C X doY ?_
 refine sC C X doZ ?_
 refine cY C X do0 209 (by decide) ?_
 refine gA C X u O.Fsize (wcI C.w) dpt dpu fun _ X u => ?_
 refine bY C X dpv 230 (by decide) ?_
 refine gA C X u O.Fbase (wap C.w) dpF dpG fun _ X u => ?_
 refine wl C X #[oR a8_0, oJ q8_1, oD, oJ q8_2, oD, oI 1000, oI 2, oJ bs, oD] dpH ?_
 refine gA C X u O.Ftimes (wb5 C.w) dpI dpJ fun _ X u => ?_
 refine gA C X u O.Fend (wcL C.w) dpL dpM fun _ X u => ?_
 refine sL C X dpN ?_
 refine sJ C X u N O.grT O.Vt _ dpO fun _ h9 _ X u N W9 V9 => ?_
 have O9 := O.setT W9 V9
 refine gA C X u O9.Ffroms (wb7 C.w) dpP dpQ fun _ X u => ?_
 refine gA C X u O9.Fend (wcL C.w) dpR dpS fun _ X u => ?_
 refine sL C X dpT ?_
 refine sJ C X u N O9.grF O9.Vf _ dpU fun _ h12 _ X u N W12 V12 => ?_
 have O12 := O9.setF W12 V12
 refine gA C X u O12.Ftotals (wb9 C.w) dpV dpW fun _ X u => ?_
 refine gA C X u O12.Fend (wcL C.w) dpX dpY fun _ X u => ?_
 refine sl C X dpZ ?_
 refine sL C X dp0 ?_
 refine tP C X dp1 ?_
 refine sJ C X u N O12.grO O12.Vo _ dp2 fun _ h15 _ X u N W15 V15 => ?_
 have O15 := O12.setO W15 V15
 refine gA C X u O15.Fentries (wcB C.w) dp3 dp5 fun _ X u => ?_
 refine gA C X u O15.Fend (wcL C.w) dp6 dp7 fun _ X u => ?_
 refine cV C X u (rm20_1 l Z a0 C.w rE (1 : Int32) rW kW (0 : Int64) h15 n0 O15.hsz (by decide+kernel) (by decide+kernel) O15.Ee O15.BwordsInUse O15.BsizeIsSticky O15.Bwords O15.Vw O15.grE (Ne.symm O15.n_rE_rW) O15.grW O15.St) O15.Ee (W := 0) (war C.w) (was C.w) (wau C.w) (wat C.w) (wav C.w) (wcg C.w) (argsL := [(.int 1)]) (lenOf pah rfl) dp8 fun _ T18 _ X hQ18 => ?_
 obtain ⟨rfl, Nq18, Kc18, Sc18, P18_0, P18_1, P18_2, P18_3, P18_4⟩ := hQ18
 rw [show ((0 : Int64) ||| ((1 : Int64) <<< ((1 : Int32) &&& 0x3f).toInt64)) = (2 : Int64) from by decide+kernel] at P18_4
 have O18 := O15.bits Kc18 Sc18 P18_0 P18_1 P18_2 P18_3 P18_4
 refine sA C X dqa ?_
 refine gA C X rfl O18.Fend (wcL C.w) dqb dqc fun _ X u => ?_
 refine gA C X u O18.Fsize (wcI C.w) dqd dqe fun _ X u => ?_
 refine bY C X dqf 308 (by decide) ?_
 refine kJ C X (waf C.w) dqq ?_
 have f21 := ((((SP.other W9 (Ne.symm O18.n_rT_rS)).other W12 (Ne.symm O18.n_rF_rS)).other W15 (Ne.symm O18.n_rO_rS)).keep Kc18 (ninS O18.n_rS_rE (ninS O18.n_rS_rW nin0)))
 refine cP C X u (rm23_2_1 l Z a0 C.w a8_0 oM rT kT tm0 q8_1 rS oM oM T18.heap n0 O18.hsz O18.Ftimes O18.Vt O18.Fspans f21 O18.grS O18.n_a_rS) O18.Ea (W := 0) (waH C.w) (waI C.w) (osp1 C) (waK C.w) (waL C.w) (wa5 C.w) (argsL := [(.int 1), (.long oM)]) (lenOf pae rfl) dqs fun _ T22 _ X hQ22 => ?_
 obtain ⟨rfl, Nq22, Kc22, Sc22, P22_0⟩ := hQ22
 have O22 := O18.sp Kc22 Sc22
 refine sA C X dqt ?_
 refine sD C X dqu ?_
 refine gF C X rfl O22.Fend (wcL C.w) dqv fun _ X u => ?_
 refine sC C X dqw ?_
 refine sP C X dqy ?_
 refine pF C X u ((N.app Nq18).app Nq22) O22.ga O22.Fend O22.Ea (ty := .int) (wcL C.w) (wcM C.w) (waU C.w) (by decide) dqz fun _ h24 _ X u N W24 F24 => ?_
 have O24 := own_Obj.put_end hw O22 W24 F24
 refine sA C X dqA ?_
 refine sD C X dqB ?_
 refine gF C X u O24.Fsize (wcI C.w) dqC fun _ X u => ?_
 refine sC C X dqD ?_
 refine sP C X dqF ?_
 refine pF C X u N O24.ga O24.Fsize O24.Ea (ty := .int) (wcI C.w) (wcJ C.w) (waU C.w) (by decide) dqG fun _ h26 _ X u N W26 F26 => ?_
 have O26 := own_Obj.put_size hw O24 W26 F26
 refine gA C X u O26.Fsize (wcI C.w) dqH dqI fun _ X u => ?_
 refine si C X dqJ ?_
 refine cY C X dqL 348 (by decide) ?_
 have f28 := ((P22_0.other W24 (Ne.symm O26.n_a_rS)).other W26 (Ne.symm O26.n_a_rS))
 refine rV C X u hret dqM ?_
 exact ⟨rfl, N, ⟨rT, rF, rO, rS, rE, rW, kT, kF, kO, kW, tm0, fr0, to0, O26, f28⟩⟩
def own_G_2_2_2_0 (Z : State) (hB h : Heap) (n0 : Nat) (a : Addr) (bs : Int64) : Prop := ∃ rT : Addr, ∃ rF : Addr, ∃ rO : Addr, ∃ rS : Addr, ∃ rE : Addr, ∃ rW : Addr, ∃ kT : ClassId, ∃ kF : ClassId, ∃ kO : ClassId, ∃ kW : ClassId, ∃ tm0 : Int64, ∃ tm1 : Int64, ∃ fr0 : Int64, ∃ fr1 : Int64, ∃ to0 : Int64, ∃ to1 : Int64, own_Obj Z h n0 a rT rF rO rS rE rW kT kF kO kW (2 : Int32) (2 : Int32) (0 : Int32) bs (0 : Int32) (1 : Int32) (0 : Int64) (2 : Int32) [(.long tm0), (.long tm1)] [(.long fr0), (.long fr1)] [(.long to0), (.long to1)] hB ∧ own_Sp2 Z h rS oM oM
theorem far (m : MethodId) (y0 : Addr) : entryFrame m #[(.ref y0), (.int 2)] 5 = mkF m 0 #[oR y0, oI 2, oU, oU, oU] [] := by first | (simp [entryFrame, mkF, argsToLocals, Value.category]; done) | rfl
def Q_rm13_3 (Z : State) (a13_0 ww : Addr) (kw : ClassId) (tw : Int64) (h0 : Heap) (n0 : Nat) (v : Option Value) (h : Heap) (L : List Loc) : Prop := v = some (.int (-1 : Int32)) ∧ Fr n0 L ∧ h = h0
theorem rm13_3 (hw : own_T Z a0) (a13_0 ww : Addr) (kw : ClassId) (tw : Int64) (h0 : Heap) (n0 : Nat) (Z0 : n0 ≤ h0.size) (E_a : Exa Z h0 a13_0 oB) (F_wordsInUse : Fld Z h0 a13_0 oB "wordsInUse" "I" (.int 0)) (F_sizeIsSticky : Fld Z h0 a13_0 oB "sizeIsSticky" "Z" (.int 1)) (F_words : Fld Z h0 a13_0 oB "words" "[J" (.ref ww)) (V_ww : Arv Z h0 ww kw .long (1 : Int32) [(.long tw)] oZ) (Sta1 : Sta Z h0 oB "$assertionsDisabled" "Z" (.int 1)) :
   own_Met l oy13 oc13 5 (some .int) (oRm 1 0 0 12) Z h0 #[(.ref a13_0), (.int 2)] (Q_rm13_3 Z a13_0 ww kw tw h0 n0) := by
 refine own_go hw (plainFor_of_name pn_13) (fun m => far m a13_0) fun p e s m below meth c T0 C hret X u => ?_
 have N := Fr.nil n0
 refine sI C X dc5 ?_
 refine bY C X dc6 31 (by decide) ?_
 refine sA C X dc7 ?_
 refine cP C X u (fun ws => rm14 l Z a0 C.w ws a13_0 h0 n0 Z0 Sta1) E_a (W := 0) (wdc C.w) (wdd C.w) (mvT C.z (wdf C.w)) (wde C.w) (wdg C.w) (wcg C.w) (argsL := []) (lenOf pas rfl) dc8 fun _ T1 _ X hQ1 => ?_
 obtain ⟨rfl, Nq1, u⟩ := hQ1
 refine sI C X dc9 ?_
 refine cS C X u (fun ws => rm7 l Z a0 C.w ws (2 : Int32) h0 n0 Z0 ) (W := 0) (wcv C.w) (wcw C.w) (wcx C.w) (wcg C.w) (argsL := [(.int 2)]) (lenOf paf rfl) dda fun _ T2 _ X hQ2 => ?_
 obtain ⟨rfl, Nq2, u⟩ := hQ2
 rw [show ((2 : Int32) >>> ((6 : Int32) &&& 31)) = (0 : Int32) from by decide+kernel]
 refine wI C X #[oR a13_0, oI 2, oI 0, oU, oU] ddb ?_
 refine sI C X ddc ?_
 refine gA C X u F_wordsInUse (wcl C.w) ddd dde fun _ X u => ?_
 refine cN C X ddf (by decide) ?_
 refine sC C X ddg ?_
 refine rI C X u hret ddh ?_
 exact ⟨rfl, ((N.app Nq1).app Nq2), rfl⟩
theorem dnP : oDe oc39 0 (.aload_n 0) 1:=by decide+kernel
theorem dnQ : oDe oc39 1 (.getfield 7) 3:=by decide+kernel
theorem dnS : oDe oc39 4 (.ifCond .le 23) 3:=by decide+kernel
theorem dnR : oDe oc39 27 (.return_) 1:=by decide+kernel
theorem pn_39 : plainName oB = true := by first | (simp [plainName, overriddenIn]; done) | decide +kernel
theorem faX (m : MethodId) (y0 : Addr) : entryFrame m #[(.ref y0)] 1 = mkF m 0 #[oR y0] [] := by first | (simp [entryFrame, mkF, argsToLocals, Value.category]; done) | rfl
def Q_rm39_1 (Z : State) (a39_0 ww : Addr) (kw : ClassId) (tw : Int64) (h0 : Heap) (n0 : Nat) (v : Option Value) (h : Heap) (L : List Loc) : Prop := v = none ∧ Fr n0 L ∧ h = h0
theorem rm39_1 (hw : own_T Z a0) (a39_0 ww : Addr) (kw : ClassId) (tw : Int64) (h0 : Heap) (n0 : Nat) (Z0 : n0 ≤ h0.size) (E_a : Exa Z h0 a39_0 oB) (F_wordsInUse : Fld Z h0 a39_0 oB "wordsInUse" "I" (.int 0)) (F_sizeIsSticky : Fld Z h0 a39_0 oB "sizeIsSticky" "Z" (.int 1)) (F_words : Fld Z h0 a39_0 oB "words" "[J" (.ref ww)) (V_ww : Arv Z h0 ww kw .long (1 : Int32) [(.long tw)] oZ) :
   own_Met l (⟨oB, "clear", "()V"⟩ : MethodName) oc39 1 none (oRm 0 0 0 0) Z h0 #[(.ref a39_0)] (Q_rm39_1 Z a39_0 ww kw tw h0 n0) := by
 refine own_go hw (plainFor_of_name pn_39) (fun m => faX m a39_0) fun p e s m below meth c T0 C hret X u => ?_
 have N := Fr.nil n0
 refine gA C X u F_wordsInUse (wcl C.w) dnP dnQ fun _ X u => ?_
 refine bY C X dnS 27 (by decide) ?_
 refine rV C X u hret dnR ?_
 exact ⟨rfl, N, rfl⟩
theorem daB : oDe oc12 13 (.iconst 0) 1:=by decide+kernel
theorem dbK : oDe oc12 25 (.aload_n 0) 1:=by decide+kernel
theorem dbQ : oDe oc12 26 (.getfield 9) 3:=by decide+kernel
theorem dcw : oDe oc12 40 (.aload_n 0) 1:=by decide+kernel
theorem dcx : oDe oc12 41 (.getfield 15) 3:=by decide+kernel
theorem dcF : oDe oc12 56 (.aload_n 0) 1:=by decide+kernel
theorem dcG : oDe oc12 57 (.getfield 18) 3:=by decide+kernel
theorem da5 : oDe oc12 182 (.aload_n 0) 1:=by decide+kernel
theorem da6 : oDe oc12 183 (.getfield 27) 3:=by decide+kernel
theorem da7 : oDe oc12 186 (.invokevirtual 107) 3:=by decide+kernel
def Q_rm12_4 (Z : State) (a12_0 : Addr) (rT : Addr) (rF : Addr) (rO : Addr) (rS : Addr) (rE : Addr) (rW : Addr) (kT : ClassId) (kF : ClassId) (kO : ClassId) (kW : ClassId) (bs : Int64) (tm0 : Int64) (tm1 : Int64) (fr0 : Int64) (fr1 : Int64) (to0 : Int64) (to1 : Int64) (hB : Heap) (h0 : Heap) (n0 : Nat) (v : Option Value) (h : Heap) (L : List Loc) : Prop := v = none ∧ Fr n0 L ∧ ∃ rT' : Addr, ∃ rF' : Addr, ∃ rO' : Addr, ∃ rS' : Addr, ∃ rE' : Addr, ∃ rW' : Addr, ∃ kT' : ClassId, ∃ kF' : ClassId, ∃ kO' : ClassId, ∃ kW' : ClassId, own_Obj Z h n0 a12_0 rT' rF' rO' rS' rE' rW' kT' kF' kO' kW' (0 : Int32) (0 : Int32) (0 : Int32) bs (0 : Int32) (1 : Int32) (0 : Int64) (2 : Int32) [(.long tm0), (.long tm1)] [(.long fr0), (.long fr1)] [(.long to0), (.long to1)] hB ∧ own_Sp2 Z h rS' oM oM
theorem rm12_4 (hw : own_T Z a0) (a12_0 rT rF rO rS rE rW : Addr) (kT kF kO kW : ClassId) (bs tm0 tm1 fr0 fr1 to0 to1 : Int64) (hB : Heap) (h0 : Heap) (n0 : Nat) (Z0 : n0 ≤ h0.size) (O : own_Obj Z h0 n0 a12_0 rT rF rO rS rE rW kT kF kO kW (2 : Int32) (2 : Int32) (0 : Int32) bs (0 : Int32) (1 : Int32) (0 : Int64) (2 : Int32) [(.long tm0), (.long tm1)] [(.long fr0), (.long fr1)] [(.long to0), (.long to1)] hB) (SP : own_Sp2 Z h0 rS oM oM) :
   own_Met l oy12 oc12 8 none (oRm 2 0 0 34) Z h0 #[(.ref a12_0), (.int 2)] (Q_rm12_4 Z a12_0 rT rF rO rS rE rW kT kF kO kW bs tm0 tm1 fr0 fr1 to0 to1 hB h0 n0) := by
 refine own_go hw (plainFor_of_name pn_12) (fun m => fam m a12_0) fun p e s m below meth c T0 C hret X u => ?_
 have N := Fr.nil n0
 obtain ⟨Ea1, Ftimes1, Ffroms1, Ftotals1, Fspans1, Fentries1, Fsize1, Fend1, Ffirst1, Fbase1, Ee1, BwordsInUse1, BsizeIsSticky1, Bwords1, Vt1, Vf1, Vo1, Vw1, St1, g0_1, g1_1, g2_1, g3_1, g4_1, g5_1, g6_1, n0_1, n1_1, n2_1, n3_1, n4_1, n5_1, n6_1, n7_1, n8_1, n9_1, n10_1, n11_1, n12_1, n13_1, n14_1, n15_1, n16_1, n17_1, n18_1, n19_1, n20_1, Lo1⟩ := O
 obtain ⟨kS, VS⟩ := SP
 refine sI C X dah ?_
 refine gA C X u Ftimes1 (wb5 C.w) dai dbf fun _ X u => ?_
 refine nA C X u Vt1 dcB ?_
 refine cY C X dcH 13 (by decide) ?_
 refine sC C X daB ?_
 refine wI C X #[oR a12_0, oI 2, oI 0, oU, oU, oU, oU, oU] daH ?_
 refine sI C X daN ?_
 refine bY C X daT 25 (by decide) ?_
 refine gA C X u Ftimes1 (wb5 C.w) dbK dbQ fun _ X u => ?_
 refine wA C X #[oR a12_0, oI 2, oI 0, oR rT, oU, oU, oU, oU] db9 ?_
 refine sI C X dcg ?_
 refine bY C X dco 40 (by decide) ?_
 refine gA C X u Ffroms1 (wb7 C.w) dcw dcx fun _ X u => ?_
 refine wa C X #[oR a12_0, oI 2, oI 0, oR rT, oR rF, oU, oU, oU] dcy ?_
 refine sI C X dcz ?_
 refine bY C X dcA 56 (by decide) ?_
 refine gA C X u Ftotals1 (wb9 C.w) dcF dcG fun _ X u => ?_
 refine wa C X #[oR a12_0, oI 2, oI 0, oR rT, oR rF, oR rO, oU, oU] dcI ?_
 refine sC C X dcJ ?_
 refine wi C X #[oR a12_0, oI 2, oI 0, oR rT, oR rF, oR rO, oI 0, oU] dcK ?_
 refine gA C X u Fentries1 (wcB C.w) dcL dcM fun _ X u => ?_
 refine gA C X u Ffirst1 (wc4 C.w) dcN dcO fun _ X u => ?_
 refine cV C X u (rm13_3 l Z a0 C.w rE rW kW (0 : Int64) h0 n0 Z0 Ee1 BwordsInUse1 BsizeIsSticky1 Bwords1 Vw1 St1) Ee1 (W := 0) (wc7 C.w) (wc8 C.w) (wda C.w) (wc9 C.w) (wdb C.w) (wcg C.w) (argsL := [(.int 2)]) (lenOf paf rfl) dcP fun _ T8 _ X hQ8 => ?_
 obtain ⟨rfl, Nq8, u⟩ := hQ8
 refine wi C X #[oR a12_0, oI 2, oI 0, oR rT, oR rF, oR rO, oI 0, oI (-1)] dcQ ?_
 refine si C X dcR ?_
 refine bY C X dcS 137 (by decide) ?_
 refine sA C X daE ?_
 refine sA C X daF ?_
 refine pF C X u (N.app Nq8) g0_1 Ftimes1 Ea1 (ty := (.array .long)) (wb5 C.w) (wb6 C.w) (waU C.w) (by decide) daG fun _ h9 _ X u N W9 F9 => ?_
 have S9 := (own_StK.refl Z h0).wr W9
 have Y9 : h0.size ≤ h9.size := Nat.le_trans (Nat.le_refl _) (Nat.le_of_eq W9.size.symm)
 refine sA C X daI ?_
 refine sa C X daJ ?_
 have f10 := (Ea1.wr W9)
 have f11 := (Ffroms1.other W9 (Or.inr (osl oAL oAL (wb8 hw) (wb6 hw))))
 refine pF C X u N g0_1 f11 f10 (ty := (.array .long)) (wb7 C.w) (wb8 C.w) (waU C.w) (by decide) daK fun _ h12 _ X u N W12 F12 => ?_
 have S12 := S9.wr W12
 have Y12 := oyw Y9 W12
 refine sA C X daL ?_
 refine sa C X daM ?_
 have f13 := (f10.wr W12)
 have f14 := ((Ftotals1.other W9 (Or.inr (osl oAL oAL (wca hw) (wb6 hw)))).other W12 (Or.inr (osl oAL oAL (wca hw) (wb8 hw))))
 refine pF C X u N g0_1 f14 f13 (ty := (.array .long)) (wb9 C.w) (wca C.w) (waU C.w) (by decide) daO fun _ h15 _ X u N W15 F15 => ?_
 have S15 := S12.wr W15
 have Y15 := oyw Y12 W15
 refine sI C X daP ?_
 refine bY C X daQ 182 (by decide) ?_
 have f16 := (((Fentries1.other W9 (Or.inr (osl oOB oAL (wcC hw) (wb6 hw)))).other W12 (Or.inr (osl oOB oAL (wcC hw) (wb8 hw)))).other W15 (Or.inr (osl oOB oAL (wcC hw) (wca hw))))
 refine gA C X u f16 (wcB C.w) da5 da6 fun _ X u => ?_
 have f18 := (((Vw1.other W9 n5_1.symm).other W12 n5_1.symm).other W15 n5_1.symm)
 have f19 := (((Ee1.wr W9).wr W12).wr W15)
 have f20 := (((BwordsInUse1.other W9 (Or.inl n4_1.symm)).other W12 (Or.inl n4_1.symm)).other W15 (Or.inl n4_1.symm))
 have f21 := (((BsizeIsSticky1.other W9 (Or.inl n4_1.symm)).other W12 (Or.inl n4_1.symm)).other W15 (Or.inl n4_1.symm))
 have f22 := (((Bwords1.other W9 (Or.inl n4_1.symm)).other W12 (Or.inl n4_1.symm)).other W15 (Or.inl n4_1.symm))
 refine cV C X u (rm39_1 l Z a0 C.w rE rW kW (0 : Int64) h15 n0 (Nat.le_trans Z0 Y15) f19 f20 f21 f22 f18) f19 (W := 0) (wbW C.w) (wbX C.w) (wb1 C.w) (wb0 C.w) (wb2 C.w) (wcg C.w) (argsL := []) (lenOf pas rfl) da7 fun _ T23 _ X hQ23 => ?_
 obtain ⟨rfl, Nq23, u⟩ := hQ23
 refine gA C X u f16 (wcB C.w) da8 dba fun _ X u => ?_
 refine sC C X dbb ?_
 have f25 := (((Fsize1.other W9 (Or.inr (osl .int oAL (wcJ hw) (wb6 hw)))).other W12 (Or.inr (osl .int oAL (wcJ hw) (wb8 hw)))).other W15 (Or.inr (osl .int oAL (wcJ hw) (wca hw))))
 refine gA C X u f25 (wcI C.w) dbc dbd fun _ X u => ?_
 refine cV C X u (rm16_1 l Z a0 C.w rE rW kW (0 : Int64) h15 n0 (Nat.le_trans Z0 Y15) f19 f20 f21 f22 f18) f19 (W := 0) (wdm C.w) (wdn C.w) (wdp C.w) (wdo C.w) (wdq C.w) (wcg C.w) (argsL := [(.int 0), (.int 0)]) (lenOf pac rfl) dbe fun _ T27 _ X hQ27 => ?_
 obtain ⟨rfl, Nq27, u⟩ := hQ27
 refine sA C X dbh ?_
 refine sC C X dbi ?_
 have f28 := (f13.wr W15)
 have f29 := (((Ffirst1.other W9 (Or.inr (osl .int oAL (wc5 hw) (wb6 hw)))).other W12 (Or.inr (osl .int oAL (wc5 hw) (wb8 hw)))).other W15 (Or.inr (osl .int oAL (wc5 hw) (wca hw))))
 refine pF C X u ((N.app Nq23).app Nq27) g0_1 f29 f28 (ty := .int) (wc4 C.w) (wc5 C.w) (waU C.w) (by decide) dbj fun _ h30 _ X u N W30 F30 => ?_
 have S30 := S15.wr W30
 refine sA C X dbk ?_
 have f31 := (f25.other W30 (Or.inr (osl .int .int (wcJ hw) (wc5 hw))))
 refine gA C X u f31 (wcI C.w) dbl dbm fun _ X u => ?_
 have f33 := (f28.wr W30)
 have f34 := ((((Fend1.other W9 (Or.inr (osl .int oAL (wcM hw) (wb6 hw)))).other W12 (Or.inr (osl .int oAL (wcM hw) (wb8 hw)))).other W15 (Or.inr (osl .int oAL (wcM hw) (wca hw)))).other W30 (Or.inr (osl .int .int (wcM hw) (wc5 hw))))
 refine pF C X u N g0_1 f34 f33 (ty := .int) (wcL C.w) (wcM C.w) (waU C.w) (by decide) dbn fun _ h35 _ X u N W35 F35 => ?_
 have S35 := S30.wr W35
 have f36 := (((((VS.other W9 n3_1.symm).other W12 n3_1.symm).other W15 n3_1.symm).other W30 n3_1.symm).other W35 n3_1.symm)
 have f37 := (f33.wr W35)
 have f38 := ((((F9.other W12 (Or.inr (osl oAL oAL (wb6 hw) (wb8 hw)))).other W15 (Or.inr (osl oAL oAL (wb6 hw) (wca hw)))).other W30 (Or.inr (osl oAL .int (wb6 hw) (wc5 hw)))).other W35 (Or.inr (osl oAL .int (wb6 hw) (wcM hw))))
 have f39 := (((F12.other W15 (Or.inr (osl oAL oAL (wb8 hw) (wca hw)))).other W30 (Or.inr (osl oAL .int (wb8 hw) (wc5 hw)))).other W35 (Or.inr (osl oAL .int (wb8 hw) (wcM hw))))
 have f40 := ((F15.other W30 (Or.inr (osl oAL .int (wca hw) (wc5 hw)))).other W35 (Or.inr (osl oAL .int (wca hw) (wcM hw))))
 have f41 := (((((Fspans1.other W9 (Or.inr (osl oAL oAL (wcc hw) (wb6 hw)))).other W12 (Or.inr (osl oAL oAL (wcc hw) (wb8 hw)))).other W15 (Or.inr (osl oAL oAL (wcc hw) (wca hw)))).other W30 (Or.inr (osl oAL .int (wcc hw) (wc5 hw)))).other W35 (Or.inr (osl oAL .int (wcc hw) (wcM hw))))
 have f42 := ((f16.other W30 (Or.inr (osl oOB .int (wcC hw) (wc5 hw)))).other W35 (Or.inr (osl oOB .int (wcC hw) (wcM hw))))
 have f43 := (f31.other W35 (Or.inr (osl .int .int (wcJ hw) (wcM hw))))
 have f44 := (F30.other W35 (Or.inr (osl .int .int (wc5 hw) (wcM hw))))
 have f45 := (((((Fbase1.other W9 (Or.inr (osl .long oAL (waq hw) (wb6 hw)))).other W12 (Or.inr (osl .long oAL (waq hw) (wb8 hw)))).other W15 (Or.inr (osl .long oAL (waq hw) (wca hw)))).other W30 (Or.inr (osl .long .int (waq hw) (wc5 hw)))).other W35 (Or.inr (osl .long .int (waq hw) (wcM hw))))
 have f46 := ((f19.wr W30).wr W35)
 have f47 := ((f20.other W30 (Or.inl n4_1.symm)).other W35 (Or.inl n4_1.symm))
 have f48 := ((f21.other W30 (Or.inl n4_1.symm)).other W35 (Or.inl n4_1.symm))
 have f49 := ((f22.other W30 (Or.inl n4_1.symm)).other W35 (Or.inl n4_1.symm))
 have f50 := (((((Vt1.other W9 n0_1.symm).other W12 n0_1.symm).other W15 n0_1.symm).other W30 n0_1.symm).other W35 n0_1.symm)
 have f51 := (((((Vf1.other W9 n1_1.symm).other W12 n1_1.symm).other W15 n1_1.symm).other W30 n1_1.symm).other W35 n1_1.symm)
 have f52 := (((((Vo1.other W9 n2_1.symm).other W12 n2_1.symm).other W15 n2_1.symm).other W30 n2_1.symm).other W35 n2_1.symm)
 have f53 := ((f18.other W30 n5_1.symm).other W35 n5_1.symm)
 have Op54 : own_Obj Z h35 n0 a12_0 rT rF rO rS rE rW kT kF kO kW (0 : Int32) (0 : Int32) (0 : Int32) bs (0 : Int32) (1 : Int32) (0 : Int64) (2 : Int32) [(.long tm0), (.long tm1)] [(.long fr0), (.long fr1)] [(.long to0), (.long to1)] hB := ⟨f37, f38, f39, f40, f41, f42, f43, F35, f44, f45, f46, f47, f48, f49, f50, f51, f52, f53, (S35 _ _ _ _ St1), g0_1, g1_1, g2_1, g3_1, g4_1, g5_1, g6_1, n0_1, n1_1, n2_1, n3_1, n4_1, n5_1, n6_1, n7_1, n8_1, n9_1, n10_1, n11_1, n12_1, n13_1, n14_1, n15_1, n16_1, n17_1, n18_1, n19_1, n20_1, (((((Lo1.wr W9 g0_1).wr W12 g0_1).wr W15 g0_1).wr W30 g0_1).wr W35 g0_1)⟩
 refine gA C X u Op54.Fspans (wcb C.w) dbo dbp fun _ X u => ?_
 refine sI C X dbq ?_
 refine sC C X dbr ?_
 refine sI C X dbt ?_
 refine sM C X dbu ?_
 refine kJ C X (waf C.w) dbv ?_
 refine cS C X u (rm18_1 l Z a0 C.w rS kS (0 : Int64) (own_m oM oM) oM oM h35 n0 Op54.hsz f36 Op54.grS) (W := 0) (wag C.w) (wah C.w) (waj C.w) (wai C.w) (argsL := [(.ref rS), (.int 2), (.int 4), (.long oM)]) (lenOf pao rfl) dbw fun _ T56 _ X hQ56 => ?_
 obtain ⟨rfl, Nq56, Kc56, Sc56, P56_0⟩ := hQ56
 rw [show (own_m oM oM) = oM from by decide+kernel] at P56_0
 have O56 := Op54.sp Kc56 Sc56
 refine sC C X dbx ?_
 refine wi C X #[oR a12_0, oI 2, oI 0, oR rT, oR rF, oR rO, oI 0, oI 1] dby ?_
 refine si C X dbz ?_
 refine gA C X rfl O56.Fsize (wcI C.w) dbA dbB fun _ X u => ?_
 refine cY C X dbC 272 (by decide) ?_
 refine sI C X dbY ?_
 refine sC C X dbZ ?_
 refine sS C X db0 ?_
 refine wi C X #[oR a12_0, oI 2, oI 0, oR rT, oR rF, oR rO, oI 0, oI 1] db1 ?_
 refine si C X db2 ?_
 refine bN C X db3 (by decide) ?_
 refine gA C X u O56.Fspans (wcb C.w) db4 db5 fun _ X u => ?_
 refine si C X db6 ?_
 refine gA C X u O56.Fspans (wcb C.w) db7 db8 fun _ X u => ?_
 refine sC C X dca ?_
 refine si C X dcb ?_
 refine sM C X dcc ?_
 refine lA C X u P56_0 dcd ?_
 refine gA C X u O56.Fspans (wcb C.w) dce dcf fun _ X u => ?_
 refine sC C X dch ?_
 refine si C X dci ?_
 refine sM C X dcj ?_
 refine sC C X dck ?_
 refine sP C X dcl ?_
 refine lA C X u P56_0 dcm ?_
 refine cS C X u (fun ws => rm1 l Z a0 C.w ws oM oM T56.heap n0 O56.hsz ) (W := 2) (wao C.w) (wcd C.w) (wcz C.w) (wco C.w) (argsL := [(.long oM), (.long oM)]) (lenOf paj rfl) dcn fun _ T61 _ X hQ61 => ?_
 obtain ⟨rfl, Nq61, u⟩ := hQ61
 rw [show (own_m oM oM) = oM from by decide+kernel]
 refine sJ C X u ((N.app Nq56).app Nq61) O56.grS P56_0 _ dcp fun _ h63 _ X u N W63 V63 => ?_
 have O63 := O56.wsp W63
 refine wc C X #[oR a12_0, oI 2, oI 0, oR rT, oR rF, oR rO, oI 0, oI 0] dcq ?_
 refine sG C X dcr 277 ?_
 refine si C X db2 ?_
 refine bY C X db3 318 (by decide) ?_
 refine rV C X u hret dcs ?_
 exact ⟨rfl, N, rT, rF, rO, rS, rE, rW, kT, kF, kO, kW, O63, ⟨_, own_arv V63 (ocs rfl (ocs (congrArg Value.long (by simp only [own_mMM])) (ocs rfl (ocs rfl rfl))))⟩⟩
def Q_rmA_2_2_2 (Z : State) (a8_0 : Addr) (q8_1 : Int64) (q8_2 : Int64) (rT : Addr) (rF : Addr) (rO : Addr) (rS : Addr) (rE : Addr) (rW : Addr) (kT : ClassId) (kF : ClassId) (kO : ClassId) (kW : ClassId) (bs : Int64) (tm0 : Int64) (tm1 : Int64) (fr0 : Int64) (fr1 : Int64) (to0 : Int64) (to1 : Int64) (hB : Heap) (h0 : Heap) (n0 : Nat) (v : Option Value) (h : Heap) (L : List Loc) : Prop := v = none ∧ Fr n0 L ∧ ((own_G_2_0_1_1 Z hB h n0 a8_0 bs q8_1 (bs + q8_2)))
theorem rmA_2_2_2 (hw : own_T Z a0) (a8_0 : Addr) (q8_1 q8_2 : Int64) (rT rF rO rS rE rW : Addr) (kT kF kO kW : ClassId) (bs tm0 tm1 fr0 fr1 to0 to1 : Int64) (hB : Heap) (h0 : Heap) (n0 : Nat) (Z0 : n0 ≤ h0.size) (O : own_Obj Z h0 n0 a8_0 rT rF rO rS rE rW kT kF kO kW (2 : Int32) (2 : Int32) (0 : Int32) bs (0 : Int32) (1 : Int32) (0 : Int64) (2 : Int32) [(.long tm0), (.long tm1)] [(.long fr0), (.long fr1)] [(.long to0), (.long to1)] hB) (SP : own_Sp2 Z h0 rS oM oM) :
   own_Met l oy8 oc8 9 none (oRm 6 6 44 150) Z h0 #[(.ref a8_0), (.long q8_1), (.long q8_2), (.int 1000)] (Q_rmA_2_2_2 Z a8_0 q8_1 q8_2 rT rF rO rS rE rW kT kF kO kW bs tm0 tm1 fr0 fr1 to0 to1 hB h0 n0) := by
 refine own_go hw (plainFor_of_name pn_8) (fun m => fa4 m a8_0 q8_1 q8_2) fun p e s m below meth c T0 C hret X u => ?_
 have N := Fr.nil n0
 refine gA C X u O.Fsize (wcI C.w) doK doL fun _ X u => ?_
 refine bY C X dqR 41 (by decide) ?_
 refine gA C X u O.Fsize (wcI C.w) dqS dqT fun _ X u => ?_
 refine si C X dqU ?_
 refine cY C X dqV 148 (by decide) ?_
 refine gA C X u O.Ftimes (wb5 C.w) doO doP fun _ X u => ?_
 refine nA C X u O.Vt doR ?_
 refine wi C X #[oR a8_0, oJ q8_1, oD, oJ q8_2, oD, oI 1000, oI 2, oU, oU] doS ?_
 refine gA C X u O.Fend (wcL C.w) doT doU fun _ X u => ?_
 refine si C X doV ?_
 refine cY C X doX 188 (by decide) ?_
 refine sA C X dpe ?_
 refine sC C X dpf ?_
 refine sC C X dph ?_
 refine gA C X u O.Fsize (wcI C.w) dpi dpj fun _ X u => ?_
 refine sM C X dpk ?_
 refine sC C X dpl ?_
 refine sP C X dpm ?_
 refine cB C X u (W := 2) (Jvm.Free.JP.Integer_highestOneBit_I.pays (1 : Int32) (own_tH C) (by decide) (by decide)) (wcN C.w) (wcO C.w) (wcQ C.w) (wcP C.w) (argsL := [(.int 1)]) (lenOf paf rfl) (fun _ => ⟨rfl, trivial⟩) dpn fun _ X u => ?_
 have cz7 : Jvm.Free.JP.Integer_highestOneBit_I.val (1 : Int32) = (1 : Int32):=by decide+kernel
 rw [cz7]
 refine sC C X dpp ?_
 refine sH C X dpq ?_
 refine cS C X u (fun ws => rm11 l Z a0 C.w ws (2 : Int32) (2 : Int32) h0 n0 O.hsz ) (W := 1) (wcX C.w) (wcY C.w) (wcZ C.w) (wco C.w) (argsL := [(.int 2), (.int 2)]) (lenOf pab rfl) dpr fun _ T8 _ X hQ8 => ?_
 obtain ⟨rfl, Nq8, u⟩ := hQ8
 rw [show (if (2 : Int32) < (2 : Int32) then (2 : Int32) else (2 : Int32)) = (2 : Int32) from by decide+kernel]
 refine cP C X u (rm12_4 l Z a0 C.w a8_0 rT rF rO rS rE rW kT kF kO kW bs tm0 tm1 fr0 fr1 to0 to1 hB h0 n0 O.hsz O SP) O.Ea (W := 0) (wc0 C.w) (wc1 C.w) (osp6 C) (wc2 C.w) (wc3 C.w) (wa5 C.w) (argsL := [(.int 2)]) (lenOf pah rfl) dps fun _ T10 _ X hQ10 => ?_
 obtain ⟨rfl, Nq10, rT_10, rF_10, rO_10, rS_10, rE_10, rW_10, kT_10, kF_10, kO_10, kW_10, O10, SP10⟩ := hQ10
 refine gA C X rfl O10.Fsize (wcI C.w) dpt dpu fun _ X u => ?_
 refine bY C X dpv 230 (by decide) ?_
 refine gA C X u O10.Fbase (wap C.w) dpF dpG fun _ X u => ?_
 refine wl C X #[oR a8_0, oJ q8_1, oD, oJ q8_2, oD, oI 1000, oI 2, oJ bs, oD] dpH ?_
 refine gA C X u O10.Ftimes (wb5 C.w) dpI dpJ fun _ X u => ?_
 refine gA C X u O10.Fend (wcL C.w) dpL dpM fun _ X u => ?_
 refine sL C X dpN ?_
 refine sJ C X u ((N.app Nq8).app Nq10) O10.grT O10.Vt _ dpO fun _ h15 _ X u N W15 V15 => ?_
 have O15 := O10.setT W15 V15
 refine gA C X u O15.Ffroms (wb7 C.w) dpP dpQ fun _ X u => ?_
 refine gA C X u O15.Fend (wcL C.w) dpR dpS fun _ X u => ?_
 refine sL C X dpT ?_
 refine sJ C X u N O15.grF O15.Vf _ dpU fun _ h18 _ X u N W18 V18 => ?_
 have O18 := O15.setF W18 V18
 refine gA C X u O18.Ftotals (wb9 C.w) dpV dpW fun _ X u => ?_
 refine gA C X u O18.Fend (wcL C.w) dpX dpY fun _ X u => ?_
 refine sl C X dpZ ?_
 refine sL C X dp0 ?_
 refine tP C X dp1 ?_
 refine sJ C X u N O18.grO O18.Vo _ dp2 fun _ h21 _ X u N W21 V21 => ?_
 have O21 := O18.setO W21 V21
 refine gA C X u O21.Fentries (wcB C.w) dp3 dp5 fun _ X u => ?_
 refine gA C X u O21.Fend (wcL C.w) dp6 dp7 fun _ X u => ?_
 refine cV C X u (rm20_1 l Z a0 C.w rE_10 (0 : Int32) rW_10 kW_10 (0 : Int64) h21 n0 O21.hsz (by decide+kernel) (by decide+kernel) O21.Ee O21.BwordsInUse O21.BsizeIsSticky O21.Bwords O21.Vw O21.grE (Ne.symm O21.n_rE_rW) O21.grW O21.St) O21.Ee (W := 0) (war C.w) (was C.w) (wau C.w) (wat C.w) (wav C.w) (wcg C.w) (argsL := [(.int 0)]) (lenOf pah rfl) dp8 fun _ T24 _ X hQ24 => ?_
 obtain ⟨rfl, Nq24, Kc24, Sc24, P24_0, P24_1, P24_2, P24_3, P24_4⟩ := hQ24
 rw [show ((0 : Int64) ||| ((1 : Int64) <<< ((0 : Int32) &&& 0x3f).toInt64)) = (1 : Int64) from by decide+kernel] at P24_4
 have O24 := O21.bits Kc24 Sc24 P24_0 P24_1 P24_2 P24_3 P24_4
 refine sA C X dqa ?_
 refine gA C X rfl O24.Fend (wcL C.w) dqb dqc fun _ X u => ?_
 refine gA C X u O24.Fsize (wcI C.w) dqd dqe fun _ X u => ?_
 refine bY C X dqf 308 (by decide) ?_
 refine kJ C X (waf C.w) dqq ?_
 have f27 := ((((SP10.other W15 (Ne.symm O24.n_rT_rS)).other W18 (Ne.symm O24.n_rF_rS)).other W21 (Ne.symm O24.n_rO_rS)).keep Kc24 (ninS O24.n_rS_rE (ninS O24.n_rS_rW nin0)))
 refine cP C X u (rm23_2_0 l Z a0 C.w a8_0 oM rT_10 kT_10 q8_1 tm1 rS_10 oM oM T24.heap n0 O24.hsz O24.Ftimes O24.Vt O24.Fspans f27 O24.grS O24.n_a_rS) O24.Ea (W := 0) (waH C.w) (waI C.w) (osp1 C) (waK C.w) (waL C.w) (wa5 C.w) (argsL := [(.int 0), (.long oM)]) (lenOf pae rfl) dqs fun _ T28 _ X hQ28 => ?_
 obtain ⟨rfl, Nq28, Kc28, Sc28, P28_0⟩ := hQ28
 have O28 := O24.sp Kc28 Sc28
 refine sA C X dqt ?_
 refine sD C X dqu ?_
 refine gF C X rfl O28.Fend (wcL C.w) dqv fun _ X u => ?_
 refine sC C X dqw ?_
 refine sP C X dqy ?_
 refine pF C X u ((N.app Nq24).app Nq28) O28.ga O28.Fend O28.Ea (ty := .int) (wcL C.w) (wcM C.w) (waU C.w) (by decide) dqz fun _ h30 _ X u N W30 F30 => ?_
 have O30 := own_Obj.put_end hw O28 W30 F30
 refine sA C X dqA ?_
 refine sD C X dqB ?_
 refine gF C X u O30.Fsize (wcI C.w) dqC fun _ X u => ?_
 refine sC C X dqD ?_
 refine sP C X dqF ?_
 refine pF C X u N O30.ga O30.Fsize O30.Ea (ty := .int) (wcI C.w) (wcJ C.w) (waU C.w) (by decide) dqG fun _ h32 _ X u N W32 F32 => ?_
 have O32 := own_Obj.put_size hw O30 W32 F32
 refine gA C X u O32.Fsize (wcI C.w) dqH dqI fun _ X u => ?_
 refine si C X dqJ ?_
 refine cY C X dqL 348 (by decide) ?_
 have f34 := ((P28_0.other W30 (Ne.symm O32.n_a_rS)).other W32 (Ne.symm O32.n_a_rS))
 refine rV C X u hret dqM ?_
 exact ⟨rfl, N, ⟨rT_10, rF_10, rO_10, rS_10, rE_10, rW_10, kT_10, kF_10, kO_10, kW_10, tm1, fr1, to1, O32, f34⟩⟩
theorem faP (m : MethodId) (y0 : Addr) (y2 : Int64) : entryFrame m #[(.ref y0), (.int 3), (.long y2)] 7 = mkF m 0 #[oR y0, oI 3, oJ y2, oD, oU, oU, oU] [] := by first | (simp [entryFrame, mkF, argsToLocals, Value.category]; done) | rfl
def Q_rm23_8_3 (Z : State) (a23_0 : Addr) (q23_2 : Int64) (wt : Addr) (kt : ClassId) (t0 t1 t2 t3 t4 t5 t6 t7 : Int64) (ws : Addr) (l0 l1 l2 l3 l4 l5 l6 l7 : Int64) (h0 : Heap) (n0 : Nat) (v : Option Value) (h : Heap) (L : List Loc) : Prop := v = none ∧ Fr n0 L ∧ Keep h0 h [ws] ∧ own_StK Z h0 h ∧ own_Sp8 Z h ws l0 l1 l2 q23_2 l4 l5 l6 l7
theorem rm23_8_3 (hw : own_T Z a0) (a23_0 : Addr) (q23_2 : Int64) (wt : Addr) (kt : ClassId) (t0 t1 t2 t3 t4 t5 t6 t7 : Int64) (ws : Addr) (l0 l1 l2 l3 l4 l5 l6 l7 : Int64) (h0 : Heap) (n0 : Nat) (Z0 : n0 ≤ h0.size) (F_times : Fld Z h0 a23_0 oL "times" "[J" (.ref wt)) (V_wt : Arv Z h0 wt kt .long (8 : Int32) [(.long t0), (.long t1), (.long t2), (.long t3), (.long t4), (.long t5), (.long t6), (.long t7)] oZ) (F_spans : Fld Z h0 a23_0 oL "spans" "[J" (.ref ws)) (T_ws : own_Sp8 Z h0 ws l0 l1 l2 l3 l4 l5 l6 l7) (g_ws : n0 ≤ ws) (ne_a23_0_ws : a23_0 ≠ ws) :
   own_Met l oy23 oc23 7 none (oRm 1 0 0 15) Z h0 #[(.ref a23_0), (.int 3), (.long q23_2)] (Q_rm23_8_3 Z a23_0 q23_2 wt kt t0 t1 t2 t3 t4 t5 t6 t7 ws l0 l1 l2 l3 l4 l5 l6 l7 h0 n0) := by
 refine own_go hw (plainFor_of_name pn_23) (fun m => faP m a23_0 q23_2) fun p e s m below meth c T0 C hret X u => ?_
 have N := Fr.nil n0
 refine gA C X u F_times (wb5 C.w) dgc dgd fun _ X u => ?_
 refine nA C X u V_wt dgw ?_
 refine sI C X dgE ?_
 refine sP C X dgK ?_
 refine wi C X #[oR a23_0, oI 3, oJ q23_2, oD, oI 11, oU, oU] dgQ ?_
 refine gA C X u F_spans (wcb C.w) dg1 dge fun _ X u => ?_
 refine si C X dgf ?_
 refine sL C X dgg ?_
 obtain ⟨kq3, VT3⟩ := id T_ws
 obtain ⟨m3_7, hm3_7⟩ : ∃ z : Int64, z = (own_m l6 l7) := ⟨_, rfl⟩
 rw [← hm3_7] at VT3
 obtain ⟨m3_6, hm3_6⟩ : ∃ z : Int64, z = (own_m l4 l5) := ⟨_, rfl⟩
 rw [← hm3_6] at VT3
 obtain ⟨m3_5, hm3_5⟩ : ∃ z : Int64, z = (own_m l2 l3) := ⟨_, rfl⟩
 rw [← hm3_5] at VT3
 obtain ⟨m3_4, hm3_4⟩ : ∃ z : Int64, z = (own_m l0 l1) := ⟨_, rfl⟩
 rw [← hm3_4] at VT3
 obtain ⟨m3_3, hm3_3⟩ : ∃ z : Int64, z = (own_m m3_6 m3_7) := ⟨_, rfl⟩
 rw [← hm3_3] at VT3
 obtain ⟨m3_2, hm3_2⟩ : ∃ z : Int64, z = (own_m m3_4 m3_5) := ⟨_, rfl⟩
 rw [← hm3_2] at VT3
 obtain ⟨m3_1, hm3_1⟩ : ∃ z : Int64, z = (own_m m3_2 m3_3) := ⟨_, rfl⟩
 rw [← hm3_1] at VT3
 refine sJ C X u N g_ws VT3 _ dgh fun _ h4 _ X u N W4 V4 => ?_
 have S4 := (own_StK.refl Z h0).wr W4
 have K4 : Keep h0 h4 [ws] := (Keep.refl h0 [ws]).wr W4 (Or.inl (List.mem_of_getElem? (i := 0) rfl))
 have Z4 : n0 ≤ h4.size := Nat.le_trans Z0 K4.1
 refine si C X dgi ?_
 refine sC C X dgj ?_
 refine own_Fin.st (g' := (mkF m 21 #[oR a23_0, oI 3, oJ q23_2, oD, oI 11, oU, oU] [(.int 5)])) ?_ (fun t k => XS.idiv X.here C.1 rfl (C.d dgk) rfl (by decide : ¬ ((2 : Int32) = (0 : Int32))) k)
 refine wi C X #[oR a23_0, oI 3, oJ q23_2, oD, oI 5, oU, oU] dgl ?_
 refine si C X dgm ?_
 refine bN C X dgn (by decide) ?_
 have f5 := (F_spans.other W4 (Or.inl ne_a23_0_ws))
 refine gA C X u f5 (wcb C.w) dgo dgp fun _ X u => ?_
 refine sC C X dgq ?_
 refine si C X dgr ?_
 refine sM C X dgs ?_
 refine lA C X u V4 dgt ?_
 refine gA C X u f5 (wcb C.w) dgu dgv fun _ X u => ?_
 refine sC C X dgx ?_
 refine si C X dgy ?_
 refine sM C X dgz ?_
 refine sC C X dgA ?_
 refine sP C X dgB ?_
 refine lA C X u V4 dgC ?_
 refine cS C X u (fun ws => rm1 l Z a0 C.w ws l2 q23_2 h4 n0 Z4 ) (W := 0) (wao C.w) (wcd C.w) (wcz C.w) (wco C.w) (argsL := [(.long l2), (.long q23_2)]) (lenOf paj rfl) dgD fun _ T8 _ X hQ8 => ?_
 obtain ⟨rfl, Nq8, u⟩ := hQ8
 obtain ⟨x9, hx9⟩ : ∃ z : Int64, z = (own_m l2 q23_2) := ⟨_, rfl⟩
 rw [← hx9]
 refine wl C X #[oR a23_0, oI 3, oJ q23_2, oD, oI 5, oJ x9, oD] dgF ?_
 refine gA C X u f5 (wcb C.w) dgG dgH fun _ X u => ?_
 refine si C X dgI ?_
 refine lA C X u V4 dgJ ?_
 refine sl C X dgL ?_
 refine tC C X dgM ?_
 by_cases h63_11 : m3_5 = x9
 · refine bN C X dgN ((if0 _ _).trans (teq ((lw_eq _ _).mpr h63_11)).2) ?_
   refine sG C X dgO 87 ?_
   refine rV C X u hret dg0 ?_
   subst hx9
   subst hm3_1
   subst hm3_2
   subst hm3_3
   subst hm3_4
   subst hm3_5
   subst hm3_6
   subst hm3_7
   exact ⟨rfl, (N.app Nq8), K4, S4, ⟨_, own_arv V4 (ocs rfl (ocs (congrArg Value.long (by rw [h63_11])) (ocs (congrArg Value.long (by rw [h63_11])) (ocs rfl (ocs rfl (ocs (congrArg Value.long h63_11.symm) (ocs rfl (ocs rfl (ocs rfl (ocs rfl (ocs rfl (ocs rfl (ocs rfl (ocs rfl (ocs rfl (ocs rfl rfl))))))))))))))))⟩⟩
 refine bY C X dgN 69 ((if0 _ _).trans (feq (fun q => h63_11 ((lw_eq _ _).mp q))).2) ?_
 refine gA C X u f5 (wcb C.w) dgP dgR fun _ X u => ?_
 refine si C X dgS ?_
 refine sl C X dgT ?_
 refine sJ C X u (N.app Nq8) g_ws V4 _ dgU fun _ h13 _ X u N W13 V13 => ?_
 have S13 := S4.wr W13
 have K13 : Keep h0 h13 [ws] := K4.wr W13 (Or.inl (List.mem_of_getElem? (i := 0) rfl))
 have Z13 : n0 ≤ h13.size := Nat.le_trans Z0 K13.1
 refine si C X dgV ?_
 refine sC C X dgW ?_
 refine own_Fin.st (g' := (mkF m 82 #[oR a23_0, oI 3, oJ q23_2, oD, oI 5, oJ x9, oD] [(.int 2)])) ?_ (fun t k => XS.idiv X.here C.1 rfl (C.d dgX) rfl (by decide : ¬ ((2 : Int32) = (0 : Int32))) k)
 refine wi C X #[oR a23_0, oI 3, oJ q23_2, oD, oI 2, oJ x9, oD] dgY ?_
 refine sG C X dgZ 23 ?_
 refine si C X dgm ?_
 refine bN C X dgn (by decide) ?_
 have f14 := (f5.other W13 (Or.inl ne_a23_0_ws))
 refine gA C X u f14 (wcb C.w) dgo dgp fun _ X u => ?_
 refine sC C X dgq ?_
 refine si C X dgr ?_
 refine sM C X dgs ?_
 refine lA C X u V13 dgt ?_
 refine gA C X u f14 (wcb C.w) dgu dgv fun _ X u => ?_
 refine sC C X dgx ?_
 refine si C X dgy ?_
 refine sM C X dgz ?_
 refine sC C X dgA ?_
 refine sP C X dgB ?_
 refine lA C X u V13 dgC ?_
 refine cS C X u (fun ws => rm1 l Z a0 C.w ws m3_4 x9 h13 n0 Z13 ) (W := 0) (wao C.w) (wcd C.w) (wcz C.w) (wco C.w) (argsL := [(.long m3_4), (.long x9)]) (lenOf paj rfl) dgD fun _ T17 _ X hQ17 => ?_
 obtain ⟨rfl, Nq17, u⟩ := hQ17
 obtain ⟨x18, hx18⟩ : ∃ z : Int64, z = (own_m m3_4 x9) := ⟨_, rfl⟩
 rw [← hx18]
 refine wl C X #[oR a23_0, oI 3, oJ q23_2, oD, oI 2, oJ x18, oD] dgF ?_
 refine gA C X u f14 (wcb C.w) dgG dgH fun _ X u => ?_
 refine si C X dgI ?_
 refine lA C X u V13 dgJ ?_
 refine sl C X dgL ?_
 refine tC C X dgM ?_
 by_cases h63_20 : m3_2 = x18
 · refine bN C X dgN ((if0 _ _).trans (teq ((lw_eq _ _).mpr h63_20)).2) ?_
   refine sG C X dgO 87 ?_
   refine rV C X u hret dg0 ?_
   subst hx18
   subst hx9
   subst hm3_1
   subst hm3_2
   subst hm3_3
   subst hm3_4
   subst hm3_5
   subst hm3_6
   subst hm3_7
   exact ⟨rfl, (N.app Nq17), K13, S13, ⟨_, own_arv V13 (ocs rfl (ocs (congrArg Value.long (by rw [h63_20])) (ocs (congrArg Value.long h63_20.symm) (ocs rfl (ocs rfl (ocs rfl (ocs rfl (ocs rfl (ocs rfl (ocs rfl (ocs rfl (ocs rfl (ocs rfl (ocs rfl (ocs rfl (ocs rfl rfl))))))))))))))))⟩⟩
 refine bY C X dgN 69 ((if0 _ _).trans (feq (fun q => h63_20 ((lw_eq _ _).mp q))).2) ?_
 refine gA C X u f14 (wcb C.w) dgP dgR fun _ X u => ?_
 refine si C X dgS ?_
 refine sl C X dgT ?_
 refine sJ C X u (N.app Nq17) g_ws V13 _ dgU fun _ h22 _ X u N W22 V22 => ?_
 have S22 := S13.wr W22
 have K22 : Keep h0 h22 [ws] := K13.wr W22 (Or.inl (List.mem_of_getElem? (i := 0) rfl))
 have Z22 : n0 ≤ h22.size := Nat.le_trans Z0 K22.1
 refine si C X dgV ?_
 refine sC C X dgW ?_
 refine own_Fin.st (g' := (mkF m 82 #[oR a23_0, oI 3, oJ q23_2, oD, oI 2, oJ x18, oD] [(.int 1)])) ?_ (fun t k => XS.idiv X.here C.1 rfl (C.d dgX) rfl (by decide : ¬ ((2 : Int32) = (0 : Int32))) k)
 refine wi C X #[oR a23_0, oI 3, oJ q23_2, oD, oI 1, oJ x18, oD] dgY ?_
 refine sG C X dgZ 23 ?_
 refine si C X dgm ?_
 refine bN C X dgn (by decide) ?_
 have f23 := (f14.other W22 (Or.inl ne_a23_0_ws))
 refine gA C X u f23 (wcb C.w) dgo dgp fun _ X u => ?_
 refine sC C X dgq ?_
 refine si C X dgr ?_
 refine sM C X dgs ?_
 refine lA C X u V22 dgt ?_
 refine gA C X u f23 (wcb C.w) dgu dgv fun _ X u => ?_
 refine sC C X dgx ?_
 refine si C X dgy ?_
 refine sM C X dgz ?_
 refine sC C X dgA ?_
 refine sP C X dgB ?_
 refine lA C X u V22 dgC ?_
 refine cS C X u (fun ws => rm1 l Z a0 C.w ws x18 m3_3 h22 n0 Z22 ) (W := 0) (wao C.w) (wcd C.w) (wcz C.w) (wco C.w) (argsL := [(.long x18), (.long m3_3)]) (lenOf paj rfl) dgD fun _ T26 _ X hQ26 => ?_
 obtain ⟨rfl, Nq26, u⟩ := hQ26
 obtain ⟨x27, hx27⟩ : ∃ z : Int64, z = (own_m x18 m3_3) := ⟨_, rfl⟩
 rw [← hx27]
 refine wl C X #[oR a23_0, oI 3, oJ q23_2, oD, oI 1, oJ x27, oD] dgF ?_
 refine gA C X u f23 (wcb C.w) dgG dgH fun _ X u => ?_
 refine si C X dgI ?_
 refine lA C X u V22 dgJ ?_
 refine sl C X dgL ?_
 refine tC C X dgM ?_
 by_cases h63_29 : m3_1 = x27
 · refine bN C X dgN ((if0 _ _).trans (teq ((lw_eq _ _).mpr h63_29)).2) ?_
   refine sG C X dgO 87 ?_
   refine rV C X u hret dg0 ?_
   subst hx27
   subst hx18
   subst hx9
   subst hm3_1
   subst hm3_2
   subst hm3_3
   subst hm3_4
   subst hm3_5
   subst hm3_6
   subst hm3_7
   exact ⟨rfl, (N.app Nq26), K22, S22, ⟨_, own_arv V22 (ocs rfl (ocs (congrArg Value.long h63_29.symm) (ocs rfl (ocs rfl (ocs rfl (ocs rfl (ocs rfl (ocs rfl (ocs rfl (ocs rfl (ocs rfl (ocs rfl (ocs rfl (ocs rfl (ocs rfl (ocs rfl rfl))))))))))))))))⟩⟩
 refine bY C X dgN 69 ((if0 _ _).trans (feq (fun q => h63_29 ((lw_eq _ _).mp q))).2) ?_
 refine gA C X u f23 (wcb C.w) dgP dgR fun _ X u => ?_
 refine si C X dgS ?_
 refine sl C X dgT ?_
 refine sJ C X u (N.app Nq26) g_ws V22 _ dgU fun _ h31 _ X u N W31 V31 => ?_
 have S31 := S22.wr W31
 have K31 : Keep h0 h31 [ws] := K22.wr W31 (Or.inl (List.mem_of_getElem? (i := 0) rfl))
 refine si C X dgV ?_
 refine sC C X dgW ?_
 refine own_Fin.st (g' := (mkF m 82 #[oR a23_0, oI 3, oJ q23_2, oD, oI 1, oJ x27, oD] [(.int 0)])) ?_ (fun t k => XS.idiv X.here C.1 rfl (C.d dgX) rfl (by decide : ¬ ((2 : Int32) = (0 : Int32))) k)
 refine wi C X #[oR a23_0, oI 3, oJ q23_2, oD, oI 0, oJ x27, oD] dgY ?_
 refine sG C X dgZ 23 ?_
 refine si C X dgm ?_
 refine bY C X dgn 87 (by decide) ?_
 refine rV C X u hret dg0 ?_
 subst hx27
 subst hx18
 subst hx9
 subst hm3_1
 subst hm3_2
 subst hm3_3
 subst hm3_4
 subst hm3_5
 subst hm3_6
 subst hm3_7
 exact ⟨rfl, N, K31, S31, ⟨_, own_arv V31 (ocs rfl (ocs rfl (ocs rfl (ocs rfl (ocs rfl (ocs rfl (ocs rfl (ocs rfl (ocs rfl (ocs rfl (ocs rfl (ocs rfl (ocs rfl (ocs rfl (ocs rfl (ocs rfl rfl))))))))))))))))⟩⟩
def own_G_8_0_4_15 (Z : State) (hB h : Heap) (n0 : Nat) (a : Addr) (bs : Int64) (tm0 : Int64) (tm1 : Int64) (tm2 : Int64) (tm3 : Int64) (to0 : Int64) (to1 : Int64) (to2 : Int64) (to3 : Int64) : Prop := ∃ rT : Addr, ∃ rF : Addr, ∃ rO : Addr, ∃ rS : Addr, ∃ rE : Addr, ∃ rW : Addr, ∃ kT : ClassId, ∃ kF : ClassId, ∃ kO : ClassId, ∃ kW : ClassId, ∃ tm4 : Int64, ∃ tm5 : Int64, ∃ tm6 : Int64, ∃ tm7 : Int64, ∃ fr4 : Int64, ∃ fr5 : Int64, ∃ fr6 : Int64, ∃ fr7 : Int64, ∃ to4 : Int64, ∃ to5 : Int64, ∃ to6 : Int64, ∃ to7 : Int64, own_Obj Z h n0 a rT rF rO rS rE rW kT kF kO kW (0 : Int32) (4 : Int32) (4 : Int32) bs (1 : Int32) (1 : Int32) (15 : Int64) (8 : Int32) [(.long tm0), (.long tm1), (.long tm2), (.long tm3), (.long tm4), (.long tm5), (.long tm6), (.long tm7)] [(.long tm0), (.long tm1), (.long tm2), (.long tm3), (.long fr4), (.long fr5), (.long fr6), (.long fr7)] [(.long to0), (.long to1), (.long to2), (.long to3), (.long to4), (.long to5), (.long to6), (.long to7)] hB ∧ own_Sp8 Z h rS oM (tm1 - tm0) (tm2 - tm1) (tm3 - tm2) oM oM oM oM
theorem do2 : oDe oc8 170 (.ldc2_w 74) 3:=by decide+kernel
theorem do3 : oDe oc8 173 (.aload_n 0) 1:=by decide+kernel
theorem do4 : oDe oc8 174 (.getfield 31) 3:=by decide+kernel
theorem do5 : oDe oc8 177 (.iconst 1) 1:=by decide+kernel
theorem do6 : oDe oc8 178 (.iadd) 1:=by decide+kernel
theorem do7 : oDe oc8 179 (.i2l) 1:=by decide+kernel
theorem do9 : oDe oc8 180 (.lmul) 1:=by decide+kernel
theorem dpa : oDe oc8 181 (.iload 6) 2:=by decide+kernel
theorem dpb : oDe oc8 183 (.i2l) 1:=by decide+kernel
theorem dpc : oDe oc8 184 (.lcmp) 1:=by decide+kernel
theorem dpd : oDe oc8 185 (.ifCond .gt 24) 3:=by decide+kernel
def Q_rmA_8_0_3 (Z : State) (a8_0 : Addr) (q8_1 : Int64) (q8_2 : Int64) (rT : Addr) (rF : Addr) (rO : Addr) (rS : Addr) (rE : Addr) (rW : Addr) (kT : ClassId) (kF : ClassId) (kO : ClassId) (kW : ClassId) (bs : Int64) (tm0 : Int64) (tm1 : Int64) (tm2 : Int64) (tm3 : Int64) (tm4 : Int64) (tm5 : Int64) (tm6 : Int64) (tm7 : Int64) (fr3 : Int64) (fr4 : Int64) (fr5 : Int64) (fr6 : Int64) (fr7 : Int64) (to0 : Int64) (to1 : Int64) (to2 : Int64) (to3 : Int64) (to4 : Int64) (to5 : Int64) (to6 : Int64) (to7 : Int64) (hB : Heap) (h0 : Heap) (n0 : Nat) (v : Option Value) (h : Heap) (L : List Loc) : Prop := v = none ∧ Fr n0 L ∧ ((tm2 = q8_1 ∧ own_G_8_0_3_7 Z hB h n0 a8_0 bs tm0 tm1 tm2 to0 to1 (to2 + q8_2)) ∨ (¬ (tm2 = q8_1) ∧ own_G_8_0_4_15 Z hB h n0 a8_0 bs tm0 tm1 tm2 q8_1 to0 to1 to2 (to2 + q8_2)))
theorem rmA_8_0_3 (hw : own_T Z a0) (a8_0 : Addr) (q8_1 q8_2 : Int64) (rT rF rO rS rE rW : Addr) (kT kF kO kW : ClassId) (bs tm0 tm1 tm2 tm3 tm4 tm5 tm6 tm7 fr3 fr4 fr5 fr6 fr7 to0 to1 to2 to3 to4 to5 to6 to7 : Int64) (hB : Heap) (h0 : Heap) (n0 : Nat) (Z0 : n0 ≤ h0.size) (O : own_Obj Z h0 n0 a8_0 rT rF rO rS rE rW kT kF kO kW (0 : Int32) (3 : Int32) (3 : Int32) bs (1 : Int32) (1 : Int32) (7 : Int64) (8 : Int32) [(.long tm0), (.long tm1), (.long tm2), (.long tm3), (.long tm4), (.long tm5), (.long tm6), (.long tm7)] [(.long tm0), (.long tm1), (.long tm2), (.long fr3), (.long fr4), (.long fr5), (.long fr6), (.long fr7)] [(.long to0), (.long to1), (.long to2), (.long to3), (.long to4), (.long to5), (.long to6), (.long to7)] hB) (SP : own_Sp8 Z h0 rS oM (tm1 - tm0) (tm2 - tm1) oM oM oM oM oM) :
   own_Met l oy8 oc8 9 none (oRm 6 6 44 150) Z h0 #[(.ref a8_0), (.long q8_1), (.long q8_2), (.int 1000)] (Q_rmA_8_0_3 Z a8_0 q8_1 q8_2 rT rF rO rS rE rW kT kF kO kW bs tm0 tm1 tm2 tm3 tm4 tm5 tm6 tm7 fr3 fr4 fr5 fr6 fr7 to0 to1 to2 to3 to4 to5 to6 to7 hB h0 n0) := by
 refine own_go hw (plainFor_of_name pn_8) (fun m => fa4 m a8_0 q8_1 q8_2) fun p e s m below meth c T0 C hret X u => ?_
 have N := Fr.nil n0
 refine gA C X u O.Fsize (wcI C.w) doK doL fun _ X u => ?_
 refine bN C X dqR (by decide) ?_
 refine gA C X u O.Ftimes (wb5 C.w) dqW dqX fun _ X u => ?_
 refine gA C X u O.Fend (wcL C.w) doM doN fun _ X u => ?_
 refine sC C X doQ ?_
 refine sS C X doW ?_
 refine lA C X u O.Vt do1 ?_
 refine sL C X do8 ?_
 refine tC C X dpg ?_
 by_cases h20_4 : tm2 = q8_1
 · refine bN C X dpo ((if0 _ _).trans (teq ((lw_eq _ _).mpr h20_4)).2) ?_
   refine gA C X u O.Ftotals (wb9 C.w) dpE dpK fun _ X u => ?_
   refine gA C X u O.Fend (wcL C.w) dp4 dp9 fun T6 X u => ?_
   refine sC C X dqr ?_
   refine sS C X dqx ?_
   show own_Fin p e below _ T6 (mkF m 33 #[oR a8_0, oJ q8_1, oD, oJ q8_2, oD, oI 1000, oU, oU, oU] [(.int 2), (.ref rO)])
   refine own_Fin.st (g' := (mkF m 34 #[oR a8_0, oJ q8_1, oD, oJ q8_2, oD, oI 1000, oU, oU, oU] [(.int 2), (.ref rO), (.int 2), (.ref rO)])) ?_ (fun t k => by jvm_step X.here [X.here.top, C.1, C.d dqE, Value.category]; exact k)
   refine lA C X u O.Vo dqK ?_
   refine sL C X dqN ?_
   refine tP C X dqO ?_
   refine sJ C X u N O.grO O.Vo _ dqP fun _ h7 _ X u N W7 V7 => ?_
   have O7 := O.setO W7 V7
   refine sG C X dqQ 348 ?_
   have f38 := (SP.other W7 (Ne.symm O7.n_rO_rS))
   refine rV C X u hret dqM ?_
   exact ⟨rfl, N, Or.inl ⟨h20_4, ⟨rT, rF, rO, rS, rE, rW, kT, kF, kO, kW, tm3, tm4, tm5, tm6, tm7, fr3, fr4, fr5, fr6, fr7, to3, to4, to5, to6, to7, O7, f38⟩⟩⟩
 refine bY C X dpo 41 ((if0 _ _).trans (feq (fun q => h20_4 ((lw_eq _ _).mp q))).2) ?_
 refine gA C X u O.Fsize (wcI C.w) dqS dqT fun _ X u => ?_
 refine si C X dqU ?_
 refine cY C X dqV 148 (by decide) ?_
 refine gA C X u O.Ftimes (wb5 C.w) doO doP fun _ X u => ?_
 refine nA C X u O.Vt doR ?_
 refine wi C X #[oR a8_0, oJ q8_1, oD, oJ q8_2, oD, oI 1000, oI 8, oU, oU] doS ?_
 refine gA C X u O.Fend (wcL C.w) doT doU fun _ X u => ?_
 refine si C X doV ?_
 refine cN C X doX (by decide) ?_
 refine si C X doY ?_
 refine sC C X doZ ?_
 refine cN C X do0 (by decide) ?_
 refine kJ C X (wb3 C.w) do2 ?_
 refine gA C X u O.Fsize (wcI C.w) do3 do4 fun _ X u => ?_
 refine sC C X do5 ?_
 refine sP C X do6 ?_
 refine tI C X do7 ?_
 refine own_Fin.st (g' := (mkF m 181 #[oR a8_0, oJ q8_1, oD, oJ q8_2, oD, oI 1000, oI 8, oU, oU] [(.long 32)])) ?_ (fun t k => XS.lmul X.here C.1 rfl (C.d do9) rfl k)
 refine si C X dpa ?_
 refine tI C X dpb ?_
 refine tC C X dpc ?_
 refine bY C X dpd 209 ((if0 _ _).trans (tlt ((lw_gt _ _).mpr (by decide : (8 : Int64) < (32 : Int64)))).2.2.1) ?_
 refine gA C X u O.Fsize (wcI C.w) dpt dpu fun _ X u => ?_
 refine bN C X dpv (by decide) ?_
 refine gA C X u O.Ftotals (wb9 C.w) dpw dpx fun _ X u => ?_
 refine gA C X u O.Fend (wcL C.w) dpy dpz fun _ X u => ?_
 refine sC C X dpA ?_
 refine sS C X dpB ?_
 refine lA C X u O.Vo dpC ?_
 refine sG C X dpD 234 ?_
 refine wl C X #[oR a8_0, oJ q8_1, oD, oJ q8_2, oD, oI 1000, oI 8, oJ to2, oD] dpH ?_
 refine gA C X u O.Ftimes (wb5 C.w) dpI dpJ fun _ X u => ?_
 refine gA C X u O.Fend (wcL C.w) dpL dpM fun _ X u => ?_
 refine sL C X dpN ?_
 refine sJ C X u N O.grT O.Vt _ dpO fun _ h17 _ X u N W17 V17 => ?_
 have O17 := O.setT W17 V17
 refine gA C X u O17.Ffroms (wb7 C.w) dpP dpQ fun _ X u => ?_
 refine gA C X u O17.Fend (wcL C.w) dpR dpS fun _ X u => ?_
 refine sL C X dpT ?_
 refine sJ C X u N O17.grF O17.Vf _ dpU fun _ h20 _ X u N W20 V20 => ?_
 have O20 := O17.setF W20 V20
 refine gA C X u O20.Ftotals (wb9 C.w) dpV dpW fun _ X u => ?_
 refine gA C X u O20.Fend (wcL C.w) dpX dpY fun _ X u => ?_
 refine sl C X dpZ ?_
 refine sL C X dp0 ?_
 refine tP C X dp1 ?_
 refine sJ C X u N O20.grO O20.Vo _ dp2 fun _ h23 _ X u N W23 V23 => ?_
 have O23 := O20.setO W23 V23
 refine gA C X u O23.Fentries (wcB C.w) dp3 dp5 fun _ X u => ?_
 refine gA C X u O23.Fend (wcL C.w) dp6 dp7 fun _ X u => ?_
 refine cV C X u (rm20_2 l Z a0 C.w rE (3 : Int32) rW kW (7 : Int64) h23 n0 O23.hsz (by decide+kernel) (by decide+kernel) O23.Ee O23.BwordsInUse O23.BsizeIsSticky O23.Bwords O23.Vw O23.grW O23.St) O23.Ee (W := 0) (war C.w) (was C.w) (wau C.w) (wat C.w) (wav C.w) (wcg C.w) (argsL := [(.int 3)]) (lenOf pah rfl) dp8 fun _ T26 _ X hQ26 => ?_
 obtain ⟨rfl, Nq26, Kc26, Sc26, P26_0⟩ := hQ26
 rw [show ((7 : Int64) ||| ((1 : Int64) <<< ((3 : Int32) &&& 0x3f).toInt64)) = (15 : Int64) from by decide+kernel] at P26_0
 have O26 := O23.bit1 Kc26 Sc26 P26_0
 refine sA C X dqa ?_
 refine gA C X rfl O26.Fend (wcL C.w) dqb dqc fun _ X u => ?_
 refine gA C X u O26.Fsize (wcI C.w) dqd dqe fun _ X u => ?_
 refine bN C X dqf (by decide) ?_
 refine sL C X dqg ?_
 refine gA C X u O26.Ffroms (wb7 C.w) dqh dqi fun _ X u => ?_
 refine gA C X u O26.Fend (wcL C.w) dqj dqk fun _ X u => ?_
 refine sC C X dql ?_
 refine sS C X dqm ?_
 refine lA C X u O26.Vf dqn ?_
 refine tS C X dqo ?_
 refine sG C X dqp 311 ?_
 have f31 := ((((SP.other W17 (Ne.symm O26.n_rT_rS)).other W20 (Ne.symm O26.n_rF_rS)).other W23 (Ne.symm O26.n_rO_rS)).keep Kc26 (ninS O26.n_rS_rW nin0))
 refine cP C X u (rm23_8_3 l Z a0 C.w a8_0 (q8_1 - tm2) rT kT tm0 tm1 tm2 q8_1 tm4 tm5 tm6 tm7 rS oM (tm1 - tm0) (tm2 - tm1) oM oM oM oM oM T26.heap n0 O26.hsz O26.Ftimes O26.Vt O26.Fspans f31 O26.grS O26.n_a_rS) O26.Ea (W := 0) (waH C.w) (waI C.w) (osp1 C) (waK C.w) (waL C.w) (wa5 C.w) (argsL := [(.int 3), (.long (q8_1 - tm2))]) (lenOf pae rfl) dqs fun _ T32 _ X hQ32 => ?_
 obtain ⟨rfl, Nq32, Kc32, Sc32, P32_0⟩ := hQ32
 have O32 := O26.sp Kc32 Sc32
 refine sA C X dqt ?_
 refine sD C X dqu ?_
 refine gF C X rfl O32.Fend (wcL C.w) dqv fun _ X u => ?_
 refine sC C X dqw ?_
 refine sP C X dqy ?_
 refine pF C X u ((N.app Nq26).app Nq32) O32.ga O32.Fend O32.Ea (ty := .int) (wcL C.w) (wcM C.w) (waU C.w) (by decide) dqz fun _ h34 _ X u N W34 F34 => ?_
 have O34 := own_Obj.put_end hw O32 W34 F34
 refine sA C X dqA ?_
 refine sD C X dqB ?_
 refine gF C X u O34.Fsize (wcI C.w) dqC fun _ X u => ?_
 refine sC C X dqD ?_
 refine sP C X dqF ?_
 refine pF C X u N O34.ga O34.Fsize O34.Ea (ty := .int) (wcI C.w) (wcJ C.w) (waU C.w) (by decide) dqG fun _ h36 _ X u N W36 F36 => ?_
 have O36 := own_Obj.put_size hw O34 W36 F36
 refine gA C X u O36.Fsize (wcI C.w) dqH dqI fun _ X u => ?_
 refine si C X dqJ ?_
 refine cY C X dqL 348 (by decide) ?_
 have f39 := ((P32_0.other W34 (Ne.symm O36.n_a_rS)).other W36 (Ne.symm O36.n_a_rS))
 refine rV C X u hret dqM ?_
 exact ⟨rfl, N, Or.inr (⟨h20_4, ⟨rT, rF, rO, rS, rE, rW, kT, kF, kO, kW, tm4, tm5, tm6, tm7, fr4, fr5, fr6, fr7, to4, to5, to6, to7, O36, f39⟩⟩)⟩
def Q_rm23_4_2 (Z : State) (a23_0 : Addr) (q23_2 : Int64) (wt : Addr) (kt : ClassId) (t0 t1 t2 t3 : Int64) (ws : Addr) (l0 l1 l2 l3 : Int64) (h0 : Heap) (n0 : Nat) (v : Option Value) (h : Heap) (L : List Loc) : Prop := v = none ∧ Fr n0 L ∧ Keep h0 h [ws] ∧ own_StK Z h0 h ∧ own_Sp4 Z h ws l0 l1 q23_2 l3
theorem rm23_4_2 (hw : own_T Z a0) (a23_0 : Addr) (q23_2 : Int64) (wt : Addr) (kt : ClassId) (t0 t1 t2 t3 : Int64) (ws : Addr) (l0 l1 l2 l3 : Int64) (h0 : Heap) (n0 : Nat) (Z0 : n0 ≤ h0.size) (F_times : Fld Z h0 a23_0 oL "times" "[J" (.ref wt)) (V_wt : Arv Z h0 wt kt .long (4 : Int32) [(.long t0), (.long t1), (.long t2), (.long t3)] oZ) (F_spans : Fld Z h0 a23_0 oL "spans" "[J" (.ref ws)) (T_ws : own_Sp4 Z h0 ws l0 l1 l2 l3) (g_ws : n0 ≤ ws) (ne_a23_0_ws : a23_0 ≠ ws) :
   own_Met l oy23 oc23 7 none (oRm 1 0 0 15) Z h0 #[(.ref a23_0), (.int 2), (.long q23_2)] (Q_rm23_4_2 Z a23_0 q23_2 wt kt t0 t1 t2 t3 ws l0 l1 l2 l3 h0 n0) := by
 refine own_go hw (plainFor_of_name pn_23) (fun m => faO m a23_0 q23_2) fun p e s m below meth c T0 C hret X u => ?_
 have N := Fr.nil n0
 refine gA C X u F_times (wb5 C.w) dgc dgd fun _ X u => ?_
 refine nA C X u V_wt dgw ?_
 refine sI C X dgE ?_
 refine sP C X dgK ?_
 refine wi C X #[oR a23_0, oI 2, oJ q23_2, oD, oI 6, oU, oU] dgQ ?_
 refine gA C X u F_spans (wcb C.w) dg1 dge fun _ X u => ?_
 refine si C X dgf ?_
 refine sL C X dgg ?_
 obtain ⟨kq3, VT3⟩ := id T_ws
 obtain ⟨m3_3, hm3_3⟩ : ∃ z : Int64, z = (own_m l2 l3) := ⟨_, rfl⟩
 rw [← hm3_3] at VT3
 obtain ⟨m3_2, hm3_2⟩ : ∃ z : Int64, z = (own_m l0 l1) := ⟨_, rfl⟩
 rw [← hm3_2] at VT3
 obtain ⟨m3_1, hm3_1⟩ : ∃ z : Int64, z = (own_m m3_2 m3_3) := ⟨_, rfl⟩
 rw [← hm3_1] at VT3
 refine sJ C X u N g_ws VT3 _ dgh fun _ h4 _ X u N W4 V4 => ?_
 have S4 := (own_StK.refl Z h0).wr W4
 have K4 : Keep h0 h4 [ws] := (Keep.refl h0 [ws]).wr W4 (Or.inl (List.mem_of_getElem? (i := 0) rfl))
 have Z4 : n0 ≤ h4.size := Nat.le_trans Z0 K4.1
 refine si C X dgi ?_
 refine sC C X dgj ?_
 refine own_Fin.st (g' := (mkF m 21 #[oR a23_0, oI 2, oJ q23_2, oD, oI 6, oU, oU] [(.int 3)])) ?_ (fun t k => XS.idiv X.here C.1 rfl (C.d dgk) rfl (by decide : ¬ ((2 : Int32) = (0 : Int32))) k)
 refine wi C X #[oR a23_0, oI 2, oJ q23_2, oD, oI 3, oU, oU] dgl ?_
 refine si C X dgm ?_
 refine bN C X dgn (by decide) ?_
 have f5 := (F_spans.other W4 (Or.inl ne_a23_0_ws))
 refine gA C X u f5 (wcb C.w) dgo dgp fun _ X u => ?_
 refine sC C X dgq ?_
 refine si C X dgr ?_
 refine sM C X dgs ?_
 refine lA C X u V4 dgt ?_
 refine gA C X u f5 (wcb C.w) dgu dgv fun _ X u => ?_
 refine sC C X dgx ?_
 refine si C X dgy ?_
 refine sM C X dgz ?_
 refine sC C X dgA ?_
 refine sP C X dgB ?_
 refine lA C X u V4 dgC ?_
 refine cS C X u (fun ws => rm1 l Z a0 C.w ws q23_2 l3 h4 n0 Z4 ) (W := 0) (wao C.w) (wcd C.w) (wcz C.w) (wco C.w) (argsL := [(.long q23_2), (.long l3)]) (lenOf paj rfl) dgD fun _ T8 _ X hQ8 => ?_
 obtain ⟨rfl, Nq8, u⟩ := hQ8
 obtain ⟨x9, hx9⟩ : ∃ z : Int64, z = (own_m q23_2 l3) := ⟨_, rfl⟩
 rw [← hx9]
 refine wl C X #[oR a23_0, oI 2, oJ q23_2, oD, oI 3, oJ x9, oD] dgF ?_
 refine gA C X u f5 (wcb C.w) dgG dgH fun _ X u => ?_
 refine si C X dgI ?_
 refine lA C X u V4 dgJ ?_
 refine sl C X dgL ?_
 refine tC C X dgM ?_
 by_cases h63_11 : m3_3 = x9
 · refine bN C X dgN ((if0 _ _).trans (teq ((lw_eq _ _).mpr h63_11)).2) ?_
   refine sG C X dgO 87 ?_
   refine rV C X u hret dg0 ?_
   subst hx9
   subst hm3_1
   subst hm3_2
   subst hm3_3
   exact ⟨rfl, (N.app Nq8), K4, S4, ⟨_, own_arv V4 (ocs rfl (ocs (congrArg Value.long (by rw [h63_11])) (ocs rfl (ocs (congrArg Value.long h63_11.symm) (ocs rfl (ocs rfl (ocs rfl (ocs rfl rfl))))))))⟩⟩
 refine bY C X dgN 69 ((if0 _ _).trans (feq (fun q => h63_11 ((lw_eq _ _).mp q))).2) ?_
 refine gA C X u f5 (wcb C.w) dgP dgR fun _ X u => ?_
 refine si C X dgS ?_
 refine sl C X dgT ?_
 refine sJ C X u (N.app Nq8) g_ws V4 _ dgU fun _ h13 _ X u N W13 V13 => ?_
 have S13 := S4.wr W13
 have K13 : Keep h0 h13 [ws] := K4.wr W13 (Or.inl (List.mem_of_getElem? (i := 0) rfl))
 have Z13 : n0 ≤ h13.size := Nat.le_trans Z0 K13.1
 refine si C X dgV ?_
 refine sC C X dgW ?_
 refine own_Fin.st (g' := (mkF m 82 #[oR a23_0, oI 2, oJ q23_2, oD, oI 3, oJ x9, oD] [(.int 1)])) ?_ (fun t k => XS.idiv X.here C.1 rfl (C.d dgX) rfl (by decide : ¬ ((2 : Int32) = (0 : Int32))) k)
 refine wi C X #[oR a23_0, oI 2, oJ q23_2, oD, oI 1, oJ x9, oD] dgY ?_
 refine sG C X dgZ 23 ?_
 refine si C X dgm ?_
 refine bN C X dgn (by decide) ?_
 have f14 := (f5.other W13 (Or.inl ne_a23_0_ws))
 refine gA C X u f14 (wcb C.w) dgo dgp fun _ X u => ?_
 refine sC C X dgq ?_
 refine si C X dgr ?_
 refine sM C X dgs ?_
 refine lA C X u V13 dgt ?_
 refine gA C X u f14 (wcb C.w) dgu dgv fun _ X u => ?_
 refine sC C X dgx ?_
 refine si C X dgy ?_
 refine sM C X dgz ?_
 refine sC C X dgA ?_
 refine sP C X dgB ?_
 refine lA C X u V13 dgC ?_
 refine cS C X u (fun ws => rm1 l Z a0 C.w ws m3_2 x9 h13 n0 Z13 ) (W := 0) (wao C.w) (wcd C.w) (wcz C.w) (wco C.w) (argsL := [(.long m3_2), (.long x9)]) (lenOf paj rfl) dgD fun _ T17 _ X hQ17 => ?_
 obtain ⟨rfl, Nq17, u⟩ := hQ17
 obtain ⟨x18, hx18⟩ : ∃ z : Int64, z = (own_m m3_2 x9) := ⟨_, rfl⟩
 rw [← hx18]
 refine wl C X #[oR a23_0, oI 2, oJ q23_2, oD, oI 1, oJ x18, oD] dgF ?_
 refine gA C X u f14 (wcb C.w) dgG dgH fun _ X u => ?_
 refine si C X dgI ?_
 refine lA C X u V13 dgJ ?_
 refine sl C X dgL ?_
 refine tC C X dgM ?_
 by_cases h63_20 : m3_1 = x18
 · refine bN C X dgN ((if0 _ _).trans (teq ((lw_eq _ _).mpr h63_20)).2) ?_
   refine sG C X dgO 87 ?_
   refine rV C X u hret dg0 ?_
   subst hx18
   subst hx9
   subst hm3_1
   subst hm3_2
   subst hm3_3
   exact ⟨rfl, (N.app Nq17), K13, S13, ⟨_, own_arv V13 (ocs rfl (ocs (congrArg Value.long h63_20.symm) (ocs rfl (ocs rfl (ocs rfl (ocs rfl (ocs rfl (ocs rfl rfl))))))))⟩⟩
 refine bY C X dgN 69 ((if0 _ _).trans (feq (fun q => h63_20 ((lw_eq _ _).mp q))).2) ?_
 refine gA C X u f14 (wcb C.w) dgP dgR fun _ X u => ?_
 refine si C X dgS ?_
 refine sl C X dgT ?_
 refine sJ C X u (N.app Nq17) g_ws V13 _ dgU fun _ h22 _ X u N W22 V22 => ?_
 have S22 := S13.wr W22
 have K22 : Keep h0 h22 [ws] := K13.wr W22 (Or.inl (List.mem_of_getElem? (i := 0) rfl))
 refine si C X dgV ?_
 refine sC C X dgW ?_
 refine own_Fin.st (g' := (mkF m 82 #[oR a23_0, oI 2, oJ q23_2, oD, oI 1, oJ x18, oD] [(.int 0)])) ?_ (fun t k => XS.idiv X.here C.1 rfl (C.d dgX) rfl (by decide : ¬ ((2 : Int32) = (0 : Int32))) k)
 refine wi C X #[oR a23_0, oI 2, oJ q23_2, oD, oI 0, oJ x18, oD] dgY ?_
 refine sG C X dgZ 23 ?_
 refine si C X dgm ?_
 refine bY C X dgn 87 (by decide) ?_
 refine rV C X u hret dg0 ?_
 subst hx18
 subst hx9
 subst hm3_1
 subst hm3_2
 subst hm3_3
 exact ⟨rfl, N, K22, S22, ⟨_, own_arv V22 (ocs rfl (ocs rfl (ocs rfl (ocs rfl (ocs rfl (ocs rfl (ocs rfl (ocs rfl rfl))))))))⟩⟩
def own_G_4_0_3_7 (Z : State) (hB h : Heap) (n0 : Nat) (a : Addr) (bs : Int64) (tm0 : Int64) (tm1 : Int64) (tm2 : Int64) (to0 : Int64) (to1 : Int64) (to2 : Int64) : Prop := ∃ rT : Addr, ∃ rF : Addr, ∃ rO : Addr, ∃ rS : Addr, ∃ rE : Addr, ∃ rW : Addr, ∃ kT : ClassId, ∃ kF : ClassId, ∃ kO : ClassId, ∃ kW : ClassId, ∃ tm3 : Int64, ∃ fr3 : Int64, ∃ to3 : Int64, own_Obj Z h n0 a rT rF rO rS rE rW kT kF kO kW (0 : Int32) (3 : Int32) (3 : Int32) bs (1 : Int32) (1 : Int32) (7 : Int64) (4 : Int32) [(.long tm0), (.long tm1), (.long tm2), (.long tm3)] [(.long tm0), (.long tm1), (.long tm2), (.long fr3)] [(.long to0), (.long to1), (.long to2), (.long to3)] hB ∧ own_Sp4 Z h rS oM (tm1 - tm0) (tm2 - tm1) oM
def Q_rmA_4_0_2 (Z : State) (a8_0 : Addr) (q8_1 : Int64) (q8_2 : Int64) (rT : Addr) (rF : Addr) (rO : Addr) (rS : Addr) (rE : Addr) (rW : Addr) (kT : ClassId) (kF : ClassId) (kO : ClassId) (kW : ClassId) (bs : Int64) (tm0 : Int64) (tm1 : Int64) (tm2 : Int64) (tm3 : Int64) (fr2 : Int64) (fr3 : Int64) (to0 : Int64) (to1 : Int64) (to2 : Int64) (to3 : Int64) (hB : Heap) (h0 : Heap) (n0 : Nat) (v : Option Value) (h : Heap) (L : List Loc) : Prop := v = none ∧ Fr n0 L ∧ ((tm1 = q8_1 ∧ own_G_4_0_2_3 Z hB h n0 a8_0 bs tm0 tm1 to0 (to1 + q8_2)) ∨ (¬ (tm1 = q8_1) ∧ own_G_4_0_3_7 Z hB h n0 a8_0 bs tm0 tm1 q8_1 to0 to1 (to1 + q8_2)))
theorem rmA_4_0_2 (hw : own_T Z a0) (a8_0 : Addr) (q8_1 q8_2 : Int64) (rT rF rO rS rE rW : Addr) (kT kF kO kW : ClassId) (bs tm0 tm1 tm2 tm3 fr2 fr3 to0 to1 to2 to3 : Int64) (hB : Heap) (h0 : Heap) (n0 : Nat) (Z0 : n0 ≤ h0.size) (O : own_Obj Z h0 n0 a8_0 rT rF rO rS rE rW kT kF kO kW (0 : Int32) (2 : Int32) (2 : Int32) bs (1 : Int32) (1 : Int32) (3 : Int64) (4 : Int32) [(.long tm0), (.long tm1), (.long tm2), (.long tm3)] [(.long tm0), (.long tm1), (.long fr2), (.long fr3)] [(.long to0), (.long to1), (.long to2), (.long to3)] hB) (SP : own_Sp4 Z h0 rS oM (tm1 - tm0) oM oM) :
   own_Met l oy8 oc8 9 none (oRm 6 6 44 150) Z h0 #[(.ref a8_0), (.long q8_1), (.long q8_2), (.int 1000)] (Q_rmA_4_0_2 Z a8_0 q8_1 q8_2 rT rF rO rS rE rW kT kF kO kW bs tm0 tm1 tm2 tm3 fr2 fr3 to0 to1 to2 to3 hB h0 n0) := by
 refine own_go hw (plainFor_of_name pn_8) (fun m => fa4 m a8_0 q8_1 q8_2) fun p e s m below meth c T0 C hret X u => ?_
 have N := Fr.nil n0
 refine gA C X u O.Fsize (wcI C.w) doK doL fun _ X u => ?_
 refine bN C X dqR (by decide) ?_
 refine gA C X u O.Ftimes (wb5 C.w) dqW dqX fun _ X u => ?_
 refine gA C X u O.Fend (wcL C.w) doM doN fun _ X u => ?_
 refine sC C X doQ ?_
 refine sS C X doW ?_
 refine lA C X u O.Vt do1 ?_
 refine sL C X do8 ?_
 refine tC C X dpg ?_
 by_cases h20_4 : tm1 = q8_1
 · refine bN C X dpo ((if0 _ _).trans (teq ((lw_eq _ _).mpr h20_4)).2) ?_
   refine gA C X u O.Ftotals (wb9 C.w) dpE dpK fun _ X u => ?_
   refine gA C X u O.Fend (wcL C.w) dp4 dp9 fun T6 X u => ?_
   refine sC C X dqr ?_
   refine sS C X dqx ?_
   show own_Fin p e below _ T6 (mkF m 33 #[oR a8_0, oJ q8_1, oD, oJ q8_2, oD, oI 1000, oU, oU, oU] [(.int 1), (.ref rO)])
   refine own_Fin.st (g' := (mkF m 34 #[oR a8_0, oJ q8_1, oD, oJ q8_2, oD, oI 1000, oU, oU, oU] [(.int 1), (.ref rO), (.int 1), (.ref rO)])) ?_ (fun t k => by jvm_step X.here [X.here.top, C.1, C.d dqE, Value.category]; exact k)
   refine lA C X u O.Vo dqK ?_
   refine sL C X dqN ?_
   refine tP C X dqO ?_
   refine sJ C X u N O.grO O.Vo _ dqP fun _ h7 _ X u N W7 V7 => ?_
   have O7 := O.setO W7 V7
   refine sG C X dqQ 348 ?_
   have f38 := (SP.other W7 (Ne.symm O7.n_rO_rS))
   refine rV C X u hret dqM ?_
   exact ⟨rfl, N, Or.inl ⟨h20_4, ⟨rT, rF, rO, rS, rE, rW, kT, kF, kO, kW, tm2, tm3, fr2, fr3, to2, to3, O7, f38⟩⟩⟩
 refine bY C X dpo 41 ((if0 _ _).trans (feq (fun q => h20_4 ((lw_eq _ _).mp q))).2) ?_
 refine gA C X u O.Fsize (wcI C.w) dqS dqT fun _ X u => ?_
 refine si C X dqU ?_
 refine cY C X dqV 148 (by decide) ?_
 refine gA C X u O.Ftimes (wb5 C.w) doO doP fun _ X u => ?_
 refine nA C X u O.Vt doR ?_
 refine wi C X #[oR a8_0, oJ q8_1, oD, oJ q8_2, oD, oI 1000, oI 4, oU, oU] doS ?_
 refine gA C X u O.Fend (wcL C.w) doT doU fun _ X u => ?_
 refine si C X doV ?_
 refine cN C X doX (by decide) ?_
 refine si C X doY ?_
 refine sC C X doZ ?_
 refine cN C X do0 (by decide) ?_
 refine kJ C X (wb3 C.w) do2 ?_
 refine gA C X u O.Fsize (wcI C.w) do3 do4 fun _ X u => ?_
 refine sC C X do5 ?_
 refine sP C X do6 ?_
 refine tI C X do7 ?_
 refine own_Fin.st (g' := (mkF m 181 #[oR a8_0, oJ q8_1, oD, oJ q8_2, oD, oI 1000, oI 4, oU, oU] [(.long 24)])) ?_ (fun t k => XS.lmul X.here C.1 rfl (C.d do9) rfl k)
 refine si C X dpa ?_
 refine tI C X dpb ?_
 refine tC C X dpc ?_
 refine bY C X dpd 209 ((if0 _ _).trans (tlt ((lw_gt _ _).mpr (by decide : (4 : Int64) < (24 : Int64)))).2.2.1) ?_
 refine gA C X u O.Fsize (wcI C.w) dpt dpu fun _ X u => ?_
 refine bN C X dpv (by decide) ?_
 refine gA C X u O.Ftotals (wb9 C.w) dpw dpx fun _ X u => ?_
 refine gA C X u O.Fend (wcL C.w) dpy dpz fun _ X u => ?_
 refine sC C X dpA ?_
 refine sS C X dpB ?_
 refine lA C X u O.Vo dpC ?_
 refine sG C X dpD 234 ?_
 refine wl C X #[oR a8_0, oJ q8_1, oD, oJ q8_2, oD, oI 1000, oI 4, oJ to1, oD] dpH ?_
 refine gA C X u O.Ftimes (wb5 C.w) dpI dpJ fun _ X u => ?_
 refine gA C X u O.Fend (wcL C.w) dpL dpM fun _ X u => ?_
 refine sL C X dpN ?_
 refine sJ C X u N O.grT O.Vt _ dpO fun _ h17 _ X u N W17 V17 => ?_
 have O17 := O.setT W17 V17
 refine gA C X u O17.Ffroms (wb7 C.w) dpP dpQ fun _ X u => ?_
 refine gA C X u O17.Fend (wcL C.w) dpR dpS fun _ X u => ?_
 refine sL C X dpT ?_
 refine sJ C X u N O17.grF O17.Vf _ dpU fun _ h20 _ X u N W20 V20 => ?_
 have O20 := O17.setF W20 V20
 refine gA C X u O20.Ftotals (wb9 C.w) dpV dpW fun _ X u => ?_
 refine gA C X u O20.Fend (wcL C.w) dpX dpY fun _ X u => ?_
 refine sl C X dpZ ?_
 refine sL C X dp0 ?_
 refine tP C X dp1 ?_
 refine sJ C X u N O20.grO O20.Vo _ dp2 fun _ h23 _ X u N W23 V23 => ?_
 have O23 := O20.setO W23 V23
 refine gA C X u O23.Fentries (wcB C.w) dp3 dp5 fun _ X u => ?_
 refine gA C X u O23.Fend (wcL C.w) dp6 dp7 fun _ X u => ?_
 refine cV C X u (rm20_2 l Z a0 C.w rE (2 : Int32) rW kW (3 : Int64) h23 n0 O23.hsz (by decide+kernel) (by decide+kernel) O23.Ee O23.BwordsInUse O23.BsizeIsSticky O23.Bwords O23.Vw O23.grW O23.St) O23.Ee (W := 0) (war C.w) (was C.w) (wau C.w) (wat C.w) (wav C.w) (wcg C.w) (argsL := [(.int 2)]) (lenOf pah rfl) dp8 fun _ T26 _ X hQ26 => ?_
 obtain ⟨rfl, Nq26, Kc26, Sc26, P26_0⟩ := hQ26
 rw [show ((3 : Int64) ||| ((1 : Int64) <<< ((2 : Int32) &&& 0x3f).toInt64)) = (7 : Int64) from by decide+kernel] at P26_0
 have O26 := O23.bit1 Kc26 Sc26 P26_0
 refine sA C X dqa ?_
 refine gA C X rfl O26.Fend (wcL C.w) dqb dqc fun _ X u => ?_
 refine gA C X u O26.Fsize (wcI C.w) dqd dqe fun _ X u => ?_
 refine bN C X dqf (by decide) ?_
 refine sL C X dqg ?_
 refine gA C X u O26.Ffroms (wb7 C.w) dqh dqi fun _ X u => ?_
 refine gA C X u O26.Fend (wcL C.w) dqj dqk fun _ X u => ?_
 refine sC C X dql ?_
 refine sS C X dqm ?_
 refine lA C X u O26.Vf dqn ?_
 refine tS C X dqo ?_
 refine sG C X dqp 311 ?_
 have f31 := ((((SP.other W17 (Ne.symm O26.n_rT_rS)).other W20 (Ne.symm O26.n_rF_rS)).other W23 (Ne.symm O26.n_rO_rS)).keep Kc26 (ninS O26.n_rS_rW nin0))
 refine cP C X u (rm23_4_2 l Z a0 C.w a8_0 (q8_1 - tm1) rT kT tm0 tm1 q8_1 tm3 rS oM (tm1 - tm0) oM oM T26.heap n0 O26.hsz O26.Ftimes O26.Vt O26.Fspans f31 O26.grS O26.n_a_rS) O26.Ea (W := 0) (waH C.w) (waI C.w) (osp1 C) (waK C.w) (waL C.w) (wa5 C.w) (argsL := [(.int 2), (.long (q8_1 - tm1))]) (lenOf pae rfl) dqs fun _ T32 _ X hQ32 => ?_
 obtain ⟨rfl, Nq32, Kc32, Sc32, P32_0⟩ := hQ32
 have O32 := O26.sp Kc32 Sc32
 refine sA C X dqt ?_
 refine sD C X dqu ?_
 refine gF C X rfl O32.Fend (wcL C.w) dqv fun _ X u => ?_
 refine sC C X dqw ?_
 refine sP C X dqy ?_
 refine pF C X u ((N.app Nq26).app Nq32) O32.ga O32.Fend O32.Ea (ty := .int) (wcL C.w) (wcM C.w) (waU C.w) (by decide) dqz fun _ h34 _ X u N W34 F34 => ?_
 have O34 := own_Obj.put_end hw O32 W34 F34
 refine sA C X dqA ?_
 refine sD C X dqB ?_
 refine gF C X u O34.Fsize (wcI C.w) dqC fun _ X u => ?_
 refine sC C X dqD ?_
 refine sP C X dqF ?_
 refine pF C X u N O34.ga O34.Fsize O34.Ea (ty := .int) (wcI C.w) (wcJ C.w) (waU C.w) (by decide) dqG fun _ h36 _ X u N W36 F36 => ?_
 have O36 := own_Obj.put_size hw O34 W36 F36
 refine gA C X u O36.Fsize (wcI C.w) dqH dqI fun _ X u => ?_
 refine si C X dqJ ?_
 refine cY C X dqL 348 (by decide) ?_
 have f39 := ((P32_0.other W34 (Ne.symm O36.n_a_rS)).other W36 (Ne.symm O36.n_a_rS))
 refine rV C X u hret dqM ?_
 exact ⟨rfl, N, Or.inr (⟨h20_4, ⟨rT, rF, rO, rS, rE, rW, kT, kF, kO, kW, tm3, fr3, to3, O36, f39⟩⟩)⟩
theorem dj6 : oDe oc33 0 (.aload_n 0) 1:=by decide+kernel
theorem dj7 : oDe oc33 1 (.getfield 27) 3:=by decide+kernel
theorem dkq : oDe oc33 4 (.aload_n 0) 1:=by decide+kernel
theorem dkw : oDe oc33 5 (.getfield 54) 3:=by decide+kernel
theorem dkO : oDe oc33 8 (.invokevirtual 50) 3:=by decide+kernel
theorem dj8 : oDe oc33 11 (.istore_n 3) 1:=by decide+kernel
theorem dj9 : oDe oc33 12 (.iload_n 3) 1:=by decide+kernel
theorem dka : oDe oc33 13 (.ifCond .lt 68) 3:=by decide+kernel
theorem dkP : oDe oc33 81 (.aload_n 0) 1:=by decide+kernel
theorem dkQ : oDe oc33 82 (.iload_n 3) 1:=by decide+kernel
theorem dkR : oDe oc33 83 (.ifCond .ge 10) 3:=by decide+kernel
theorem dkS : oDe oc33 86 (.aload_n 0) 1:=by decide+kernel
theorem dkT : oDe oc33 87 (.getfield 35) 3:=by decide+kernel
theorem dkU : oDe oc33 90 (.goto 4) 3:=by decide+kernel
theorem dkW : oDe oc33 94 (.putfield 54) 3:=by decide+kernel
theorem dkX : oDe oc33 97 (.return_) 1:=by decide+kernel
theorem pn_33 : plainName oL = true := by first | (simp [plainName, overriddenIn]; done) | decide +kernel
theorem fa5 (m : MethodId) (y0 : Addr) (y1 : Int64) : entryFrame m #[(.ref y0), (.long y1)] 4 = mkF m 0 #[oR y0, oJ y1, oD, oU] [] := by first | (simp [entryFrame, mkF, argsToLocals, Value.category]; done) | rfl
def Q_rmD_0_0_0 (Z : State) (a33_0 : Addr) (q33_1 : Int64) (rT : Addr) (rF : Addr) (rO : Addr) (rS : Addr) (rE : Addr) (rW : Addr) (kT : ClassId) (kF : ClassId) (kO : ClassId) (kW : ClassId) (bs : Int64) (hB : Heap) (h0 : Heap) (n0 : Nat) (v : Option Value) (h : Heap) (L : List Loc) : Prop := v = none ∧ Fr n0 L ∧ ((own_G_0_0_0_0 Z hB h n0 a33_0 bs))
theorem rmD_0_0_0 (hw : own_T Z a0) (a33_0 : Addr) (q33_1 : Int64) (rT rF rO rS rE rW : Addr) (kT kF kO kW : ClassId) (bs : Int64) (hB : Heap) (h0 : Heap) (n0 : Nat) (Z0 : n0 ≤ h0.size) (O : own_Obj Z h0 n0 a33_0 rT rF rO rS rE rW kT kF kO kW (0 : Int32) (0 : Int32) (0 : Int32) bs (0 : Int32) (0 : Int32) (0 : Int64) (0 : Int32) [] [] [] hB) (SP : own_Sp0 Z h0 rS) :
   own_Met l oy33 oc33 4 none (oRm 5 0 0 120) Z h0 #[(.ref a33_0), (.long q33_1)] (Q_rmD_0_0_0 Z a33_0 q33_1 rT rF rO rS rE rW kT kF kO kW bs hB h0 n0) := by
 refine own_go hw (plainFor_of_name pn_33) (fun m => fa5 m a33_0 q33_1) fun p e s m below meth c T0 C hret X u => ?_
 have N := Fr.nil n0
 refine gA C X u O.Fentries (wcB C.w) dj6 dj7 fun _ X u => ?_
 refine gA C X u O.Ffirst (wc4 C.w) dkq dkw fun _ X u => ?_
 refine cV C X u (rm13_1 l Z a0 C.w rE rW kW (0 : Int64) h0 n0 O.hsz O.Ee O.BwordsInUse O.BsizeIsSticky O.Bwords O.Vw O.St) O.Ee (W := 0) (wc7 C.w) (wc8 C.w) (wda C.w) (wc9 C.w) (wdb C.w) (wcg C.w) (argsL := [(.int 0)]) (lenOf paf rfl) dkO fun _ T3 _ X hQ3 => ?_
 obtain ⟨rfl, Nq3, u⟩ := hQ3
 refine wI C X #[oR a33_0, oJ q33_1, oD, oI (-1)] dj8 ?_
 refine sI C X dj9 ?_
 refine bY C X dka 81 (by decide) ?_
 refine sA C X dkP ?_
 refine sI C X dkQ ?_
 refine bN C X dkR (by decide) ?_
 refine gA C X u O.Fend (wcL C.w) dkS dkT fun _ X u => ?_
 refine sG C X dkU 94 ?_
 refine pF C X u (N.app Nq3) O.ga O.Ffirst O.Ea (ty := .int) (wc4 C.w) (wc5 C.w) (waU C.w) (by decide) dkW fun _ h5 _ X u N W5 F5 => ?_
 have O5 := own_Obj.put_first hw O W5 F5
 have f6 := (SP.other W5 (Ne.symm O5.n_a_rS))
 refine rV C X u hret dkX ?_
 exact ⟨rfl, N, ⟨rT, rF, rO, rS, rE, rW, kT, kF, kO, kW, O5, f6⟩⟩
theorem dns : oDe oc38 0 (.aload_n 0) 1:=by decide+kernel
theorem dnt : oDe oc38 1 (.getfield 7) 3:=by decide+kernel
theorem dnK : oDe oc38 4 (.iconst 1) 1:=by decide+kernel
theorem dnL : oDe oc38 5 (.isub) 1:=by decide+kernel
theorem dnM : oDe oc38 6 (.istore_n 1) 1:=by decide+kernel
theorem dnN : oDe oc38 7 (.iload_n 1) 1:=by decide+kernel
theorem dnO : oDe oc38 8 (.ifCond .lt 23) 3:=by decide+kernel
theorem dnu : oDe oc38 11 (.aload_n 0) 1:=by decide+kernel
theorem dnv : oDe oc38 12 (.getfield 11) 3:=by decide+kernel
theorem dnw : oDe oc38 15 (.iload_n 1) 1:=by decide+kernel
theorem dnx : oDe oc38 16 (.laload) 1:=by decide+kernel
theorem dny : oDe oc38 17 (.lconst 0) 1:=by decide+kernel
theorem dnz : oDe oc38 18 (.lcmp) 1:=by decide+kernel
theorem dnA : oDe oc38 19 (.ifCond .eq 6) 3:=by decide+kernel
theorem dnB : oDe oc38 22 (.goto 9) 3:=by decide+kernel
theorem dnC : oDe oc38 25 (.iinc 1 (-1)) 3:=by decide+kernel
theorem dnD : oDe oc38 28 (.goto (-21)) 3:=by decide+kernel
theorem dnE : oDe oc38 31 (.aload_n 0) 1:=by decide+kernel
theorem dnF : oDe oc38 32 (.iload_n 1) 1:=by decide+kernel
theorem dnG : oDe oc38 33 (.iconst 1) 1:=by decide+kernel
theorem dnH : oDe oc38 34 (.iadd) 1:=by decide+kernel
theorem dnI : oDe oc38 35 (.putfield 7) 3:=by decide+kernel
theorem dnJ : oDe oc38 38 (.return_) 1:=by decide+kernel
theorem pn_38 : plainName oB = true := by first | (simp [plainName, overriddenIn]; done) | decide +kernel
theorem faW (m : MethodId) (y0 : Addr) : entryFrame m #[(.ref y0)] 2 = mkF m 0 #[oR y0, oU] [] := by first | (simp [entryFrame, mkF, argsToLocals, Value.category]; done) | rfl
def Q_rm38_1 (Z : State) (a38_0 ww : Addr) (kw : ClassId) (tw : Int64) (h0 : Heap) (n0 : Nat) (v : Option Value) (h : Heap) (L : List Loc) : Prop := v = none ∧ Fr n0 L ∧ Keep h0 h [a38_0] ∧ own_StK Z h0 h ∧ Exa Z h a38_0 oB ∧ Fld Z h a38_0 oB "wordsInUse" "I" (.int (if tw = (0 : Int64) then (0 : Int32) else (1 : Int32))) ∧ Fld Z h a38_0 oB "sizeIsSticky" "Z" (.int 1) ∧ Fld Z h a38_0 oB "words" "[J" (.ref ww)
theorem rm38_1 (hw : own_T Z a0) (a38_0 ww : Addr) (kw : ClassId) (tw : Int64) (h0 : Heap) (n0 : Nat) (Z0 : n0 ≤ h0.size) (E_a : Exa Z h0 a38_0 oB) (F_wordsInUse : Fld Z h0 a38_0 oB "wordsInUse" "I" (.int 1)) (F_sizeIsSticky : Fld Z h0 a38_0 oB "sizeIsSticky" "Z" (.int 1)) (F_words : Fld Z h0 a38_0 oB "words" "[J" (.ref ww)) (V_ww : Arv Z h0 ww kw .long (1 : Int32) [(.long tw)] oZ) (g_a38_0 : n0 ≤ a38_0) :
   own_Met l (⟨oB, "recalculateWordsInUse", "()V"⟩ : MethodName) oc38 2 none (oRm 0 0 0 0) Z h0 #[(.ref a38_0)] (Q_rm38_1 Z a38_0 ww kw tw h0 n0) := by
 refine own_go hw (plainFor_of_name pn_38) (fun m => faW m a38_0) fun p e s m below meth c T0 C hret X u => ?_
 have N := Fr.nil n0
 refine gA C X u F_wordsInUse (wcl C.w) dns dnt fun _ X u => ?_
 refine sC C X dnK ?_
 refine sS C X dnL ?_
 refine wI C X #[oR a38_0, oI 0] dnM ?_
 refine sI C X dnN ?_
 refine bN C X dnO (by decide) ?_
 refine gA C X u F_words (wcy C.w) dnu dnv fun _ X u => ?_
 refine sI C X dnw ?_
 refine lA C X u V_ww dnx ?_
 refine tK C X dny ?_
 refine tC C X dnz ?_
 by_cases h19_3 : tw = (0 : Int64)
 · refine bY C X dnA 25 ((if0 _ _).trans (teq ((lw_eq _ _).mpr h19_3)).1) ?_
   refine wc C X #[oR a38_0, oI (-1)] dnC ?_
   refine sG C X dnD 7 ?_
   refine sI C X dnN ?_
   refine bY C X dnO 31 (by decide) ?_
   refine sA C X dnE ?_
   refine sI C X dnF ?_
   refine sC C X dnG ?_
   refine sP C X dnH ?_
   refine pF C X u N g_a38_0 F_wordsInUse E_a (ty := .int) (wcl C.w) (wcm C.w) (wcf C.w) (by decide) dnI fun _ h4 _ X u N W4 F4 => ?_
   have S4 := (own_StK.refl Z h0).wr W4
   have K4 : Keep h0 h4 [a38_0] := (Keep.refl h0 [a38_0]).wr W4 (Or.inl (List.mem_of_getElem? (i := 0) rfl))
   have f6 := (E_a.wr W4)
   have f7 := (F_sizeIsSticky.other W4 (Or.inr (osl .boolean .int (wcp hw) (wcm hw))))
   have f8 := (F_words.other W4 (Or.inr (osl oAL .int (wcA hw) (wcm hw))))
   refine rV C X u hret dnJ ?_
   exact ⟨rfl, N, K4, S4, f6, (own_fld F4 (congrArg Value.int (if_pos h19_3))), f7, f8⟩
 refine bN C X dnA ((if0 _ _).trans (feq (fun q => h19_3 ((lw_eq _ _).mp q))).1) ?_
 refine sG C X dnB 31 ?_
 refine sA C X dnE ?_
 refine sI C X dnF ?_
 refine sC C X dnG ?_
 refine sP C X dnH ?_
 refine pF C X u N g_a38_0 F_wordsInUse E_a (ty := .int) (wcl C.w) (wcm C.w) (wcf C.w) (by decide) dnI fun _ h5 _ X u N W5 F5 => ?_
 have S5 := (own_StK.refl Z h0).wr W5
 have K5 : Keep h0 h5 [a38_0] := (Keep.refl h0 [a38_0]).wr W5 (Or.inl (List.mem_of_getElem? (i := 0) rfl))
 have f9 := (E_a.wr W5)
 have f10 := (F_sizeIsSticky.other W5 (Or.inr (osl .boolean .int (wcp hw) (wcm hw))))
 have f11 := (F_words.other W5 (Or.inr (osl oAL .int (wcA hw) (wcm hw))))
 refine rV C X u hret dnJ ?_
 exact ⟨rfl, N, K5, S5, f9, (own_fld F5 (congrArg Value.int (if_neg h19_3))), f10, f11⟩
theorem dm2 : oDe oc37 0 (.iload_n 1) 1:=by decide+kernel
theorem dm3 : oDe oc37 1 (.ifCond .ge 30) 3:=by decide+kernel
theorem dm4 : oDe oc37 31 (.iload_n 1) 1:=by decide+kernel
theorem dm5 : oDe oc37 32 (.invokestatic 52) 3:=by decide+kernel
theorem dm6 : oDe oc37 35 (.istore_n 2) 1:=by decide+kernel
theorem dm7 : oDe oc37 36 (.iload_n 2) 1:=by decide+kernel
theorem dm8 : oDe oc37 37 (.aload_n 0) 1:=by decide+kernel
theorem dm9 : oDe oc37 38 (.getfield 7) 3:=by decide+kernel
theorem dna : oDe oc37 41 (.if_icmp .lt 4) 3:=by decide+kernel
theorem dnb : oDe oc37 45 (.aload_n 0) 1:=by decide+kernel
theorem dnc : oDe oc37 46 (.getfield 11) 3:=by decide+kernel
theorem dnd : oDe oc37 49 (.iload_n 2) 1:=by decide+kernel
theorem dne : oDe oc37 50 (.dup2) 1:=by decide+kernel
theorem dnf : oDe oc37 51 (.laload) 1:=by decide+kernel
theorem dng : oDe oc37 52 (.lconst 1) 1:=by decide+kernel
theorem dnh : oDe oc37 53 (.iload_n 1) 1:=by decide+kernel
theorem dni : oDe oc37 54 (.lshl) 1:=by decide+kernel
theorem dnj : oDe oc37 55 (.ldc2_w 165) 3:=by decide+kernel
theorem dnk : oDe oc37 58 (.lxor) 1:=by decide+kernel
theorem dnl : oDe oc37 59 (.land) 1:=by decide+kernel
theorem dnm : oDe oc37 60 (.lastore) 1:=by decide+kernel
theorem dnn : oDe oc37 61 (.aload_n 0) 1:=by decide+kernel
theorem dno : oDe oc37 62 (.invokevirtual 158) 3:=by decide+kernel
theorem dnp : oDe oc37 65 (.aload_n 0) 1:=by decide+kernel
theorem dnq : oDe oc37 66 (.invokevirtual 56) 3:=by decide+kernel
theorem dnr : oDe oc37 69 (.return_) 1:=by decide+kernel
theorem pn_37 : plainName oB = true := by first | (simp [plainName, overriddenIn]; done) | decide +kernel
theorem faV (m : MethodId) (y0 : Addr) (y1 : Int32) : entryFrame m #[(.ref y0), (.int y1)] 3 = mkF m 0 #[oR y0, oI y1, oU] [] := by first | (simp [entryFrame, mkF, argsToLocals, Value.category]; done) | rfl
def Q_rm37_1 (Z : State) (a37_0 : Addr) (p37_1 : Int32) (ww : Addr) (kw : ClassId) (tw : Int64) (h0 : Heap) (n0 : Nat) (v : Option Value) (h : Heap) (L : List Loc) : Prop := v = none ∧ Fr n0 L ∧ Keep h0 h [ww, a37_0] ∧ own_StK Z h0 h ∧ Arv Z h ww kw .long (1 : Int32) [(.long (tw &&& (((1 : Int64) <<< (p37_1 &&& 0x3f).toInt64) ^^^ (-1 : Int64))))] oZ ∧ Exa Z h a37_0 oB ∧ Fld Z h a37_0 oB "wordsInUse" "I" (.int (if (tw &&& (((1 : Int64) <<< (p37_1 &&& 0x3f).toInt64) ^^^ (-1 : Int64))) = (0 : Int64) then (0 : Int32) else (1 : Int32))) ∧ Fld Z h a37_0 oB "sizeIsSticky" "Z" (.int 1) ∧ Fld Z h a37_0 oB "words" "[J" (.ref ww)
theorem rm37_1 (hw : own_T Z a0) (a37_0 : Addr) (p37_1 : Int32) (ww : Addr) (kw : ClassId) (tw : Int64) (h0 : Heap) (n0 : Nat) (Z0 : n0 ≤ h0.size) (hn : ¬ (p37_1 < (0 : Int32))) (hu : (p37_1 >>> ((6 : Int32) &&& 31)) = (0 : Int32)) (E_a : Exa Z h0 a37_0 oB) (F_wordsInUse : Fld Z h0 a37_0 oB "wordsInUse" "I" (.int 1)) (F_sizeIsSticky : Fld Z h0 a37_0 oB "sizeIsSticky" "Z" (.int 1)) (F_words : Fld Z h0 a37_0 oB "words" "[J" (.ref ww)) (V_ww : Arv Z h0 ww kw .long (1 : Int32) [(.long tw)] oZ) (g_ww : n0 ≤ ww) (ne_a37_0_ww : a37_0 ≠ ww) (g_a37_0 : n0 ≤ a37_0) (Sta1 : Sta Z h0 oB "$assertionsDisabled" "Z" (.int 1)) :
   own_Met l (⟨oB, "clear", "(I)V"⟩ : MethodName) oc37 3 none (oRm 1 0 0 13) Z h0 #[(.ref a37_0), (.int p37_1)] (Q_rm37_1 Z a37_0 p37_1 ww kw tw h0 n0) := by
 refine own_go hw (plainFor_of_name pn_37) (fun m => faV m a37_0 p37_1) fun p e s m below meth c T0 C hret X u => ?_
 have N := Fr.nil n0
 refine sI C X dm2 ?_
 refine bY C X dm3 31 ((if0 _ _).trans (flt hn).2.1) ?_
 refine sI C X dm4 ?_
 refine cS C X u (fun ws => rm7 l Z a0 C.w ws p37_1 h0 n0 Z0 ) (W := 0) (wcv C.w) (wcw C.w) (wcx C.w) (wcg C.w) (argsL := [(.int p37_1)]) (lenOf paf rfl) dm5 fun _ T1 _ X hQ1 => ?_
 obtain ⟨rfl, Nq1, u⟩ := hQ1
 rw [hu]
 refine wI C X #[oR a37_0, oI p37_1, oI 0] dm6 ?_
 refine sI C X dm7 ?_
 refine gA C X u F_wordsInUse (wcl C.w) dm8 dm9 fun _ X u => ?_
 refine cY C X dna 45 (by decide) ?_
 refine gA C X u F_words (wcy C.w) dnb dnc fun T3 X u => ?_
 refine sI C X dnd ?_
 show own_Fin p e below _ T3 (mkF m 50 #[oR a37_0, oI p37_1, oI 0] [(.int 0), (.ref ww)])
 refine own_Fin.st (g' := (mkF m 51 #[oR a37_0, oI p37_1, oI 0] [(.int 0), (.ref ww), (.int 0), (.ref ww)])) ?_ (fun t k => by jvm_step X.here [X.here.top, C.1, C.d dne, Value.category]; exact k)
 refine lA C X u V_ww dnf ?_
 refine tK C X dng ?_
 refine sI C X dnh ?_
 refine tH C X dni ?_
 refine kJ C X (wa8 C.w) dnj ?_
 refine tX C X dnk ?_
 refine tA C X dnl ?_
 refine sJ C X u (N.app Nq1) g_ww V_ww _ dnm fun _ h4 _ X u N W4 V4 => ?_
 have S4 := (own_StK.refl Z h0).wr W4
 have K4 : Keep h0 h4 [ww, a37_0] := (Keep.refl h0 [ww, a37_0]).wr W4 (Or.inl (List.mem_of_getElem? (i := 0) rfl))
 have Z4 : n0 ≤ h4.size := Nat.le_trans Z0 K4.1
 refine sA C X dnn ?_
 have f5 := (E_a.wr W4)
 have f6 := (F_wordsInUse.other W4 (Or.inl ne_a37_0_ww))
 have f7 := (F_sizeIsSticky.other W4 (Or.inl ne_a37_0_ww))
 have f8 := (F_words.other W4 (Or.inl ne_a37_0_ww))
 refine cP C X u (rm38_1 l Z a0 C.w a37_0 ww kw (tw &&& (((1 : Int64) <<< (p37_1 &&& 0x3f).toInt64) ^^^ (-1 : Int64))) h4 n0 Z4 f5 f6 f7 f8 V4 g_a37_0) f5 (W := 0) (wbR C.w) (wbS C.w) (mvT C.z (wbU C.w)) (wbT C.w) (wbV C.w) (wcg C.w) (argsL := []) (lenOf pas rfl) dno fun _ T9 _ X hQ9 => ?_
 obtain ⟨rfl, Nq9, Kc9, Sc9, P9_0, P9_1, P9_2, P9_3⟩ := hQ9
 have S9 := S4.tr Sc9
 have K9 : Keep h0 T9.heap [ww, a37_0] := Keep.trans K4 Kc9 (allS (P := fun x => x ∈ ([ww, a37_0] : List Addr) ∨ h0.size ≤ x) (Or.inl (List.mem_of_getElem? (i := 1) rfl)) all0)
 have Z9 : n0 ≤ T9.heap.size := Nat.le_trans Z0 K9.1
 refine sA C X dnp ?_
 refine cP C X rfl (fun ws => rm14 l Z a0 C.w ws a37_0 T9.heap n0 Z9 (S9 _ _ _ _ Sta1)) P9_0 (W := 0) (wdc C.w) (wdd C.w) (mvT C.z (wdf C.w)) (wde C.w) (wdg C.w) (wcg C.w) (argsL := []) (lenOf pas rfl) dnq fun _ T10 _ X hQ10 => ?_
 obtain ⟨rfl, Nq10, u⟩ := hQ10
 have f11 := (V4.keep Kc9 (ninS ne_a37_0_ww.symm nin0))
 refine rV C X u hret dnr ?_
 exact ⟨rfl, ((N.app Nq9).app Nq10), K9, S9, f11, P9_0, P9_1, P9_2, P9_3⟩
theorem fas (m : MethodId) (y0 : Addr) : entryFrame m #[(.ref y0), (.int 1)] 5 = mkF m 0 #[oR y0, oI 1, oU, oU, oU] [] := by first | (simp [entryFrame, mkF, argsToLocals, Value.category]; done) | rfl
def Q_rm13_4 (Z : State) (a13_0 ww : Addr) (kw : ClassId) (tw : Int64) (h0 : Heap) (n0 : Nat) (v : Option Value) (h : Heap) (L : List Loc) : Prop := v = some (.int (-1 : Int32)) ∧ Fr n0 L ∧ h = h0
theorem rm13_4 (hw : own_T Z a0) (a13_0 ww : Addr) (kw : ClassId) (tw : Int64) (h0 : Heap) (n0 : Nat) (Z0 : n0 ≤ h0.size) (E_a : Exa Z h0 a13_0 oB) (F_wordsInUse : Fld Z h0 a13_0 oB "wordsInUse" "I" (.int 0)) (F_sizeIsSticky : Fld Z h0 a13_0 oB "sizeIsSticky" "Z" (.int 1)) (F_words : Fld Z h0 a13_0 oB "words" "[J" (.ref ww)) (V_ww : Arv Z h0 ww kw .long (1 : Int32) [(.long tw)] oZ) (Sta1 : Sta Z h0 oB "$assertionsDisabled" "Z" (.int 1)) :
   own_Met l oy13 oc13 5 (some .int) (oRm 1 0 0 12) Z h0 #[(.ref a13_0), (.int 1)] (Q_rm13_4 Z a13_0 ww kw tw h0 n0) := by
 refine own_go hw (plainFor_of_name pn_13) (fun m => fas m a13_0) fun p e s m below meth c T0 C hret X u => ?_
 have N := Fr.nil n0
 refine sI C X dc5 ?_
 refine bY C X dc6 31 (by decide) ?_
 refine sA C X dc7 ?_
 refine cP C X u (fun ws => rm14 l Z a0 C.w ws a13_0 h0 n0 Z0 Sta1) E_a (W := 0) (wdc C.w) (wdd C.w) (mvT C.z (wdf C.w)) (wde C.w) (wdg C.w) (wcg C.w) (argsL := []) (lenOf pas rfl) dc8 fun _ T1 _ X hQ1 => ?_
 obtain ⟨rfl, Nq1, u⟩ := hQ1
 refine sI C X dc9 ?_
 refine cS C X u (fun ws => rm7 l Z a0 C.w ws (1 : Int32) h0 n0 Z0 ) (W := 0) (wcv C.w) (wcw C.w) (wcx C.w) (wcg C.w) (argsL := [(.int 1)]) (lenOf paf rfl) dda fun _ T2 _ X hQ2 => ?_
 obtain ⟨rfl, Nq2, u⟩ := hQ2
 rw [show ((1 : Int32) >>> ((6 : Int32) &&& 31)) = (0 : Int32) from by decide+kernel]
 refine wI C X #[oR a13_0, oI 1, oI 0, oU, oU] ddb ?_
 refine sI C X ddc ?_
 refine gA C X u F_wordsInUse (wcl C.w) ddd dde fun _ X u => ?_
 refine cN C X ddf (by decide) ?_
 refine sC C X ddg ?_
 refine rI C X u hret ddh ?_
 exact ⟨rfl, ((N.app Nq1).app Nq2), rfl⟩
theorem dkb : oDe oc33 16 (.aload_n 0) 1:=by decide+kernel
theorem dkc : oDe oc33 17 (.getfield 9) 3:=by decide+kernel
theorem dkd : oDe oc33 20 (.iload_n 3) 1:=by decide+kernel
theorem dke : oDe oc33 21 (.laload) 1:=by decide+kernel
theorem dkf : oDe oc33 22 (.lload_n 1) 1:=by decide+kernel
theorem dkg : oDe oc33 23 (.lcmp) 1:=by decide+kernel
theorem dkh : oDe oc33 24 (.ifCond .gt 57) 3:=by decide+kernel
theorem dki : oDe oc33 27 (.aload_n 0) 1:=by decide+kernel
theorem dkj : oDe oc33 28 (.aload_n 0) 1:=by decide+kernel
theorem dkk : oDe oc33 29 (.getfield 18) 3:=by decide+kernel
theorem dkl : oDe oc33 32 (.iload_n 3) 1:=by decide+kernel
theorem dkm : oDe oc33 33 (.laload) 1:=by decide+kernel
theorem dkn : oDe oc33 34 (.putfield 57) 3:=by decide+kernel
theorem dko : oDe oc33 37 (.aload_n 0) 1:=by decide+kernel
theorem dkp : oDe oc33 38 (.getfield 27) 3:=by decide+kernel
theorem dkr : oDe oc33 41 (.iload_n 3) 1:=by decide+kernel
theorem dks : oDe oc33 42 (.invokevirtual 61) 3:=by decide+kernel
theorem dkt : oDe oc33 45 (.aload_n 0) 1:=by decide+kernel
theorem dku : oDe oc33 46 (.dup) 1:=by decide+kernel
theorem dkv : oDe oc33 47 (.getfield 31) 3:=by decide+kernel
theorem dkx : oDe oc33 50 (.iconst 1) 1:=by decide+kernel
theorem dky : oDe oc33 51 (.isub) 1:=by decide+kernel
theorem dkz : oDe oc33 52 (.putfield 31) 3:=by decide+kernel
theorem dkA : oDe oc33 55 (.aload_n 0) 1:=by decide+kernel
theorem dkB : oDe oc33 56 (.getfield 27) 3:=by decide+kernel
theorem dkC : oDe oc33 59 (.iload_n 3) 1:=by decide+kernel
theorem dkD : oDe oc33 60 (.iconst 1) 1:=by decide+kernel
theorem dkE : oDe oc33 61 (.iadd) 1:=by decide+kernel
theorem dkF : oDe oc33 62 (.invokevirtual 50) 3:=by decide+kernel
theorem dkG : oDe oc33 65 (.istore_n 3) 1:=by decide+kernel
theorem dkH : oDe oc33 66 (.iload_n 3) 1:=by decide+kernel
theorem dkI : oDe oc33 67 (.ifCond .lt (-55)) 3:=by decide+kernel
theorem dkV : oDe oc33 93 (.iload_n 3) 1:=by decide+kernel
def Q_rmD_2_0_1 (Z : State) (a33_0 : Addr) (q33_1 : Int64) (rT : Addr) (rF : Addr) (rO : Addr) (rS : Addr) (rE : Addr) (rW : Addr) (kT : ClassId) (kF : ClassId) (kO : ClassId) (kW : ClassId) (bs : Int64) (tm0 : Int64) (tm1 : Int64) (fr1 : Int64) (to0 : Int64) (to1 : Int64) (hB : Heap) (h0 : Heap) (n0 : Nat) (v : Option Value) (h : Heap) (L : List Loc) : Prop := v = none ∧ Fr n0 L ∧ ((q33_1 < tm0 ∧ own_G_2_0_1_1 Z hB h n0 a33_0 bs tm0 to0) ∨ (¬ (q33_1 < tm0) ∧ own_G_2_1_1_0 Z hB h n0 a33_0 to0))
theorem rmD_2_0_1 (hw : own_T Z a0) (a33_0 : Addr) (q33_1 : Int64) (rT rF rO rS rE rW : Addr) (kT kF kO kW : ClassId) (bs tm0 tm1 fr1 to0 to1 : Int64) (hB : Heap) (h0 : Heap) (n0 : Nat) (Z0 : n0 ≤ h0.size) (O : own_Obj Z h0 n0 a33_0 rT rF rO rS rE rW kT kF kO kW (0 : Int32) (1 : Int32) (1 : Int32) bs (1 : Int32) (1 : Int32) (1 : Int64) (2 : Int32) [(.long tm0), (.long tm1)] [(.long tm0), (.long fr1)] [(.long to0), (.long to1)] hB) (SP : own_Sp2 Z h0 rS oM oM) :
   own_Met l oy33 oc33 4 none (oRm 5 0 0 120) Z h0 #[(.ref a33_0), (.long q33_1)] (Q_rmD_2_0_1 Z a33_0 q33_1 rT rF rO rS rE rW kT kF kO kW bs tm0 tm1 fr1 to0 to1 hB h0 n0) := by
 refine own_go hw (plainFor_of_name pn_33) (fun m => fa5 m a33_0 q33_1) fun p e s m below meth c T0 C hret X u => ?_
 have N := Fr.nil n0
 refine gA C X u O.Fentries (wcB C.w) dj6 dj7 fun _ X u => ?_
 refine gA C X u O.Ffirst (wc4 C.w) dkq dkw fun _ X u => ?_
 refine cV C X u (rm13_2 l Z a0 C.w rE (0 : Int32) rW kW (1 : Int64) h0 n0 O.hsz (by decide+kernel) (by decide+kernel) O.Ee O.BwordsInUse O.BsizeIsSticky O.Bwords O.Vw O.St) O.Ee (W := 0) (wc7 C.w) (wc8 C.w) (wda C.w) (wc9 C.w) (wdb C.w) (wcg C.w) (argsL := [(.int 0)]) (lenOf paf rfl) dkO fun _ T3 _ X hQ3 => ?_
 obtain ⟨rfl, Nq3, u⟩ := hQ3
 rw [show (own_nsb (0 : Int32) (1 : Int64)) = (0 : Int32) from by decide+kernel]
 refine wI C X #[oR a33_0, oJ q33_1, oD, oI 0] dj8 ?_
 refine sI C X dj9 ?_
 refine bN C X dka (by decide) ?_
 refine gA C X u O.Ftimes (wb5 C.w) dkb dkc fun _ X u => ?_
 refine sI C X dkd ?_
 refine lA C X u O.Vt dke ?_
 refine sL C X dkf ?_
 refine tC C X dkg ?_
 by_cases h24_6 : q33_1 < tm0
 · refine bY C X dkh 81 ((if0 _ _).trans (tlt ((lw_gt _ _).mpr h24_6)).2.2.1) ?_
   refine sA C X dkP ?_
   refine sI C X dkQ ?_
   refine bY C X dkR 93 (by decide) ?_
   refine sI C X dkV ?_
   refine pF C X u (N.app Nq3) O.ga O.Ffirst O.Ea (ty := .int) (wc4 C.w) (wc5 C.w) (waU C.w) (by decide) dkW fun _ h7 _ X u N W7 F7 => ?_
   have O7 := own_Obj.put_first hw O W7 F7
   have f18 := (SP.other W7 (Ne.symm O7.n_a_rS))
   refine rV C X u hret dkX ?_
   exact ⟨rfl, N, Or.inl ⟨h24_6, ⟨rT, rF, rO, rS, rE, rW, kT, kF, kO, kW, tm1, fr1, to1, O7, f18⟩⟩⟩
 refine bN C X dkh ((if0 _ _).trans (flt (fun q => h24_6 ((lw_gt _ _).mp q))).2.2.1) ?_
 refine sA C X dki ?_
 refine gA C X u O.Ftotals (wb9 C.w) dkj dkk fun _ X u => ?_
 refine sI C X dkl ?_
 refine lA C X u O.Vo dkm ?_
 refine pF C X u (N.app Nq3) O.ga O.Fbase O.Ea (ty := .long) (wap C.w) (waq C.w) (waU C.w) (by decide) dkn fun _ h9 _ X u N W9 F9 => ?_
 have O9 := own_Obj.put_base hw O W9 F9
 refine gA C X u O9.Fentries (wcB C.w) dko dkp fun _ X u => ?_
 refine sI C X dkr ?_
 refine cV C X u (rm37_1 l Z a0 C.w rE (0 : Int32) rW kW (1 : Int64) h9 n0 O9.hsz (by decide+kernel) (by decide+kernel) O9.Ee O9.BwordsInUse O9.BsizeIsSticky O9.Bwords O9.Vw O9.grW O9.n_rE_rW O9.grE O9.St) O9.Ee (W := 0) (wbL C.w) (wbM C.w) (wbP C.w) (wbO C.w) (wbQ C.w) (wcg C.w) (argsL := [(.int 0)]) (lenOf pah rfl) dks fun _ T11 _ X hQ11 => ?_
 obtain ⟨rfl, Nq11, Kc11, Sc11, P11_0, P11_1, P11_2, P11_3, P11_4⟩ := hQ11
 rw [show ((1 : Int64) &&& (((1 : Int64) <<< ((0 : Int32) &&& 0x3f).toInt64) ^^^ (-1 : Int64))) = (0 : Int64) from by decide+kernel] at P11_0
 rw [show (if ((1 : Int64) &&& (((1 : Int64) <<< ((0 : Int32) &&& 0x3f).toInt64) ^^^ (-1 : Int64))) = (0 : Int64) then (0 : Int32) else (1 : Int32)) = (0 : Int32) from by decide+kernel] at P11_2
 have O11 := O9.bits2 Kc11 Sc11 P11_1 P11_2 P11_3 P11_4 P11_0
 refine sA C X dkt ?_
 refine sD C X dku ?_
 refine gF C X rfl O11.Fsize (wcI C.w) dkv fun _ X u => ?_
 refine sC C X dkx ?_
 refine sS C X dky ?_
 refine pF C X u (N.app Nq11) O11.ga O11.Fsize O11.Ea (ty := .int) (wcI C.w) (wcJ C.w) (waU C.w) (by decide) dkz fun _ h13 _ X u N W13 F13 => ?_
 have O13 := own_Obj.put_size hw O11 W13 F13
 refine gA C X u O13.Fentries (wcB C.w) dkA dkB fun _ X u => ?_
 refine sI C X dkC ?_
 refine sC C X dkD ?_
 refine sP C X dkE ?_
 refine cV C X u (rm13_4 l Z a0 C.w rE rW kW (0 : Int64) h13 n0 O13.hsz O13.Ee O13.BwordsInUse O13.BsizeIsSticky O13.Bwords O13.Vw O13.St) O13.Ee (W := 0) (wc7 C.w) (wc8 C.w) (wda C.w) (wc9 C.w) (wdb C.w) (wcg C.w) (argsL := [(.int 1)]) (lenOf paf rfl) dkF fun _ T15 _ X hQ15 => ?_
 obtain ⟨rfl, Nq15, u⟩ := hQ15
 refine wI C X #[oR a33_0, oJ q33_1, oD, oI (-1)] dkG ?_
 refine sI C X dkH ?_
 refine bY C X dkI 12 (by decide) ?_
 refine sI C X dj9 ?_
 refine bY C X dka 81 (by decide) ?_
 refine sA C X dkP ?_
 refine sI C X dkQ ?_
 refine bN C X dkR (by decide) ?_
 refine gA C X u O13.Fend (wcL C.w) dkS dkT fun _ X u => ?_
 refine sG C X dkU 94 ?_
 refine pF C X u (N.app Nq15) O13.ga O13.Ffirst O13.Ea (ty := .int) (wc4 C.w) (wc5 C.w) (waU C.w) (by decide) dkW fun _ h17 _ X u N W17 F17 => ?_
 have O17 := own_Obj.put_first hw O13 W17 F17
 have f19 := ((((SP.other W9 (Ne.symm O17.n_a_rS)).keep Kc11 (ninS O17.n_rS_rW (ninS O17.n_rS_rE nin0))).other W13 (Ne.symm O17.n_a_rS)).other W17 (Ne.symm O17.n_a_rS))
 refine rV C X u hret dkX ?_
 exact ⟨rfl, N, Or.inr (⟨h24_6, ⟨rT, rF, rO, rS, rE, rW, kT, kF, kO, kW, tm0, tm1, tm0, fr1, to0, to1, O17, f19⟩⟩)⟩
theorem dkJ : oDe oc33 70 (.aload_n 0) 1:=by decide+kernel
theorem dkK : oDe oc33 71 (.iload_n 3) 1:=by decide+kernel
theorem dkL : oDe oc33 72 (.ldc2_w 65) 3:=by decide+kernel
theorem dkM : oDe oc33 75 (.invokevirtual 67) 3:=by decide+kernel
theorem dkN : oDe oc33 78 (.goto (-66)) 3:=by decide+kernel
def Q_rmD_2_0_2 (Z : State) (a33_0 : Addr) (q33_1 : Int64) (rT : Addr) (rF : Addr) (rO : Addr) (rS : Addr) (rE : Addr) (rW : Addr) (kT : ClassId) (kF : ClassId) (kO : ClassId) (kW : ClassId) (bs : Int64) (tm0 : Int64) (tm1 : Int64) (to0 : Int64) (to1 : Int64) (hB : Heap) (h0 : Heap) (n0 : Nat) (v : Option Value) (h : Heap) (L : List Loc) : Prop := v = none ∧ Fr n0 L ∧ ((q33_1 < tm0 ∧ own_G_2_0_2_3 Z hB h n0 a33_0 bs tm0 tm1 to0 to1) ∨ (¬ (q33_1 < tm0) ∧ q33_1 < tm1 ∧ own_G_2_1_2_2 Z hB h n0 a33_0 to0 tm1 to1) ∨ (¬ (q33_1 < tm0) ∧ ¬ (q33_1 < tm1) ∧ own_G_2_2_2_0 Z hB h n0 a33_0 to1))
theorem rmD_2_0_2 (hw : own_T Z a0) (a33_0 : Addr) (q33_1 : Int64) (rT rF rO rS rE rW : Addr) (kT kF kO kW : ClassId) (bs tm0 tm1 to0 to1 : Int64) (hB : Heap) (h0 : Heap) (n0 : Nat) (Z0 : n0 ≤ h0.size) (O : own_Obj Z h0 n0 a33_0 rT rF rO rS rE rW kT kF kO kW (0 : Int32) (2 : Int32) (2 : Int32) bs (1 : Int32) (1 : Int32) (3 : Int64) (2 : Int32) [(.long tm0), (.long tm1)] [(.long tm0), (.long tm1)] [(.long to0), (.long to1)] hB) (SP : own_Sp2 Z h0 rS oM (tm1 - tm0)) :
   own_Met l oy33 oc33 4 none (oRm 5 0 0 120) Z h0 #[(.ref a33_0), (.long q33_1)] (Q_rmD_2_0_2 Z a33_0 q33_1 rT rF rO rS rE rW kT kF kO kW bs tm0 tm1 to0 to1 hB h0 n0) := by
 refine own_go hw (plainFor_of_name pn_33) (fun m => fa5 m a33_0 q33_1) fun p e s m below meth c T0 C hret X u => ?_
 have N := Fr.nil n0
 refine gA C X u O.Fentries (wcB C.w) dj6 dj7 fun _ X u => ?_
 refine gA C X u O.Ffirst (wc4 C.w) dkq dkw fun _ X u => ?_
 refine cV C X u (rm13_2 l Z a0 C.w rE (0 : Int32) rW kW (3 : Int64) h0 n0 O.hsz (by decide+kernel) (by decide+kernel) O.Ee O.BwordsInUse O.BsizeIsSticky O.Bwords O.Vw O.St) O.Ee (W := 0) (wc7 C.w) (wc8 C.w) (wda C.w) (wc9 C.w) (wdb C.w) (wcg C.w) (argsL := [(.int 0)]) (lenOf paf rfl) dkO fun _ T3 _ X hQ3 => ?_
 obtain ⟨rfl, Nq3, u⟩ := hQ3
 rw [show (own_nsb (0 : Int32) (3 : Int64)) = (0 : Int32) from by decide+kernel]
 refine wI C X #[oR a33_0, oJ q33_1, oD, oI 0] dj8 ?_
 refine sI C X dj9 ?_
 refine bN C X dka (by decide) ?_
 refine gA C X u O.Ftimes (wb5 C.w) dkb dkc fun _ X u => ?_
 refine sI C X dkd ?_
 refine lA C X u O.Vt dke ?_
 refine sL C X dkf ?_
 refine tC C X dkg ?_
 by_cases h24_6 : q33_1 < tm0
 · refine bY C X dkh 81 ((if0 _ _).trans (tlt ((lw_gt _ _).mpr h24_6)).2.2.1) ?_
   refine sA C X dkP ?_
   refine sI C X dkQ ?_
   refine bY C X dkR 93 (by decide) ?_
   refine sI C X dkV ?_
   refine pF C X u (N.app Nq3) O.ga O.Ffirst O.Ea (ty := .int) (wc4 C.w) (wc5 C.w) (waU C.w) (by decide) dkW fun _ h7 _ X u N W7 F7 => ?_
   have O7 := own_Obj.put_first hw O W7 F7
   have f32 := (SP.other W7 (Ne.symm O7.n_a_rS))
   refine rV C X u hret dkX ?_
   exact ⟨rfl, N, Or.inl ⟨h24_6, ⟨rT, rF, rO, rS, rE, rW, kT, kF, kO, kW, O7, f32⟩⟩⟩
 refine bN C X dkh ((if0 _ _).trans (flt (fun q => h24_6 ((lw_gt _ _).mp q))).2.2.1) ?_
 refine sA C X dki ?_
 refine gA C X u O.Ftotals (wb9 C.w) dkj dkk fun _ X u => ?_
 refine sI C X dkl ?_
 refine lA C X u O.Vo dkm ?_
 refine pF C X u (N.app Nq3) O.ga O.Fbase O.Ea (ty := .long) (wap C.w) (waq C.w) (waU C.w) (by decide) dkn fun _ h9 _ X u N W9 F9 => ?_
 have O9 := own_Obj.put_base hw O W9 F9
 refine gA C X u O9.Fentries (wcB C.w) dko dkp fun _ X u => ?_
 refine sI C X dkr ?_
 refine cV C X u (rm37_1 l Z a0 C.w rE (0 : Int32) rW kW (3 : Int64) h9 n0 O9.hsz (by decide+kernel) (by decide+kernel) O9.Ee O9.BwordsInUse O9.BsizeIsSticky O9.Bwords O9.Vw O9.grW O9.n_rE_rW O9.grE O9.St) O9.Ee (W := 0) (wbL C.w) (wbM C.w) (wbP C.w) (wbO C.w) (wbQ C.w) (wcg C.w) (argsL := [(.int 0)]) (lenOf pah rfl) dks fun _ T11 _ X hQ11 => ?_
 obtain ⟨rfl, Nq11, Kc11, Sc11, P11_0, P11_1, P11_2, P11_3, P11_4⟩ := hQ11
 rw [show ((3 : Int64) &&& (((1 : Int64) <<< ((0 : Int32) &&& 0x3f).toInt64) ^^^ (-1 : Int64))) = (2 : Int64) from by decide+kernel] at P11_0
 rw [show (if ((3 : Int64) &&& (((1 : Int64) <<< ((0 : Int32) &&& 0x3f).toInt64) ^^^ (-1 : Int64))) = (0 : Int64) then (0 : Int32) else (1 : Int32)) = (1 : Int32) from by decide+kernel] at P11_2
 have O11 := O9.bits2 Kc11 Sc11 P11_1 P11_2 P11_3 P11_4 P11_0
 refine sA C X dkt ?_
 refine sD C X dku ?_
 refine gF C X rfl O11.Fsize (wcI C.w) dkv fun _ X u => ?_
 refine sC C X dkx ?_
 refine sS C X dky ?_
 refine pF C X u (N.app Nq11) O11.ga O11.Fsize O11.Ea (ty := .int) (wcI C.w) (wcJ C.w) (waU C.w) (by decide) dkz fun _ h13 _ X u N W13 F13 => ?_
 have O13 := own_Obj.put_size hw O11 W13 F13
 refine gA C X u O13.Fentries (wcB C.w) dkA dkB fun _ X u => ?_
 refine sI C X dkC ?_
 refine sC C X dkD ?_
 refine sP C X dkE ?_
 refine cV C X u (rm13_2 l Z a0 C.w rE (1 : Int32) rW kW (2 : Int64) h13 n0 O13.hsz (by decide+kernel) (by decide+kernel) O13.Ee O13.BwordsInUse O13.BsizeIsSticky O13.Bwords O13.Vw O13.St) O13.Ee (W := 0) (wc7 C.w) (wc8 C.w) (wda C.w) (wc9 C.w) (wdb C.w) (wcg C.w) (argsL := [(.int 1)]) (lenOf paf rfl) dkF fun _ T15 _ X hQ15 => ?_
 obtain ⟨rfl, Nq15, u⟩ := hQ15
 rw [show (own_nsb (1 : Int32) (2 : Int64)) = (1 : Int32) from by decide+kernel]
 refine wI C X #[oR a33_0, oJ q33_1, oD, oI 1] dkG ?_
 refine sI C X dkH ?_
 refine bN C X dkI (by decide) ?_
 refine sA C X dkJ ?_
 refine sI C X dkK ?_
 refine kJ C X (waf C.w) dkL ?_
 have f17 := (((SP.other W9 (Ne.symm O13.n_a_rS)).keep Kc11 (ninS O13.n_rS_rW (ninS O13.n_rS_rE nin0))).other W13 (Ne.symm O13.n_a_rS))
 refine cP C X u (rm23_2_1 l Z a0 C.w a33_0 oM rT kT tm0 tm1 rS oM (tm1 - tm0) h13 n0 O13.hsz O13.Ftimes O13.Vt O13.Fspans f17 O13.grS O13.n_a_rS) O13.Ea (W := 0) (waH C.w) (waI C.w) (osp1 C) (waK C.w) (waL C.w) (wa5 C.w) (argsL := [(.int 1), (.long oM)]) (lenOf pae rfl) dkM fun _ T18 _ X hQ18 => ?_
 obtain ⟨rfl, Nq18, Kc18, Sc18, P18_0⟩ := hQ18
 have O18 := O13.sp Kc18 Sc18
 refine sG C X dkN 12 ?_
 refine sI C X dj9 ?_
 refine bN C X dka (by decide) ?_
 refine gA C X rfl O18.Ftimes (wb5 C.w) dkb dkc fun _ X u => ?_
 refine sI C X dkd ?_
 refine lA C X u O18.Vt dke ?_
 refine sL C X dkf ?_
 refine tC C X dkg ?_
 by_cases h24_20 : q33_1 < tm1
 · refine bY C X dkh 81 ((if0 _ _).trans (tlt ((lw_gt _ _).mpr h24_20)).2.2.1) ?_
   refine sA C X dkP ?_
   refine sI C X dkQ ?_
   refine bY C X dkR 93 (by decide) ?_
   refine sI C X dkV ?_
   refine pF C X u ((N.app Nq15).app Nq18) O18.ga O18.Ffirst O18.Ea (ty := .int) (wc4 C.w) (wc5 C.w) (waU C.w) (by decide) dkW fun _ h21 _ X u N W21 F21 => ?_
   have O21 := own_Obj.put_first hw O18 W21 F21
   have f33 := (P18_0.other W21 (Ne.symm O21.n_a_rS))
   refine rV C X u hret dkX ?_
   exact ⟨rfl, N, Or.inr (Or.inl ⟨h24_6, h24_20, ⟨rT, rF, rO, rS, rE, rW, kT, kF, kO, kW, tm0, tm0, to0, O21, f33⟩⟩)⟩
 refine bN C X dkh ((if0 _ _).trans (flt (fun q => h24_20 ((lw_gt _ _).mp q))).2.2.1) ?_
 refine sA C X dki ?_
 refine gA C X u O18.Ftotals (wb9 C.w) dkj dkk fun _ X u => ?_
 refine sI C X dkl ?_
 refine lA C X u O18.Vo dkm ?_
 refine pF C X u ((N.app Nq15).app Nq18) O18.ga O18.Fbase O18.Ea (ty := .long) (wap C.w) (waq C.w) (waU C.w) (by decide) dkn fun _ h23 _ X u N W23 F23 => ?_
 have O23 := own_Obj.put_base hw O18 W23 F23
 refine gA C X u O23.Fentries (wcB C.w) dko dkp fun _ X u => ?_
 refine sI C X dkr ?_
 refine cV C X u (rm37_1 l Z a0 C.w rE (1 : Int32) rW kW (2 : Int64) h23 n0 O23.hsz (by decide+kernel) (by decide+kernel) O23.Ee O23.BwordsInUse O23.BsizeIsSticky O23.Bwords O23.Vw O23.grW O23.n_rE_rW O23.grE O23.St) O23.Ee (W := 0) (wbL C.w) (wbM C.w) (wbP C.w) (wbO C.w) (wbQ C.w) (wcg C.w) (argsL := [(.int 1)]) (lenOf pah rfl) dks fun _ T25 _ X hQ25 => ?_
 obtain ⟨rfl, Nq25, Kc25, Sc25, P25_0, P25_1, P25_2, P25_3, P25_4⟩ := hQ25
 rw [show ((2 : Int64) &&& (((1 : Int64) <<< ((1 : Int32) &&& 0x3f).toInt64) ^^^ (-1 : Int64))) = (0 : Int64) from by decide+kernel] at P25_0
 rw [show (if ((2 : Int64) &&& (((1 : Int64) <<< ((1 : Int32) &&& 0x3f).toInt64) ^^^ (-1 : Int64))) = (0 : Int64) then (0 : Int32) else (1 : Int32)) = (0 : Int32) from by decide+kernel] at P25_2
 have O25 := O23.bits2 Kc25 Sc25 P25_1 P25_2 P25_3 P25_4 P25_0
 refine sA C X dkt ?_
 refine sD C X dku ?_
 refine gF C X rfl O25.Fsize (wcI C.w) dkv fun _ X u => ?_
 refine sC C X dkx ?_
 refine sS C X dky ?_
 refine pF C X u (N.app Nq25) O25.ga O25.Fsize O25.Ea (ty := .int) (wcI C.w) (wcJ C.w) (waU C.w) (by decide) dkz fun _ h27 _ X u N W27 F27 => ?_
 have O27 := own_Obj.put_size hw O25 W27 F27
 refine gA C X u O27.Fentries (wcB C.w) dkA dkB fun _ X u => ?_
 refine sI C X dkC ?_
 refine sC C X dkD ?_
 refine sP C X dkE ?_
 refine cV C X u (rm13_3 l Z a0 C.w rE rW kW (0 : Int64) h27 n0 O27.hsz O27.Ee O27.BwordsInUse O27.BsizeIsSticky O27.Bwords O27.Vw O27.St) O27.Ee (W := 0) (wc7 C.w) (wc8 C.w) (wda C.w) (wc9 C.w) (wdb C.w) (wcg C.w) (argsL := [(.int 2)]) (lenOf paf rfl) dkF fun _ T29 _ X hQ29 => ?_
 obtain ⟨rfl, Nq29, u⟩ := hQ29
 refine wI C X #[oR a33_0, oJ q33_1, oD, oI (-1)] dkG ?_
 refine sI C X dkH ?_
 refine bY C X dkI 12 (by decide) ?_
 refine sI C X dj9 ?_
 refine bY C X dka 81 (by decide) ?_
 refine sA C X dkP ?_
 refine sI C X dkQ ?_
 refine bN C X dkR (by decide) ?_
 refine gA C X u O27.Fend (wcL C.w) dkS dkT fun _ X u => ?_
 refine sG C X dkU 94 ?_
 refine pF C X u (N.app Nq29) O27.ga O27.Ffirst O27.Ea (ty := .int) (wc4 C.w) (wc5 C.w) (waU C.w) (by decide) dkW fun _ h31 _ X u N W31 F31 => ?_
 have O31 := own_Obj.put_first hw O27 W31 F31
 have f34 := ((((P18_0.other W23 (Ne.symm O31.n_a_rS)).keep Kc25 (ninS O31.n_rS_rW (ninS O31.n_rS_rE nin0))).other W27 (Ne.symm O31.n_a_rS)).other W31 (Ne.symm O31.n_a_rS))
 refine rV C X u hret dkX ?_
 exact ⟨rfl, N, Or.inr (Or.inr (⟨h24_6, h24_20, ⟨rT, rF, rO, rS, rE, rW, kT, kF, kO, kW, tm0, tm1, tm0, tm1, to0, to1, O31, f34⟩⟩))⟩
def own_sh2 (l0 : Int64) (l1 : Int64) : Int32 := (if l1 < l0 then (1 : Int32) else (0 : Int32))
theorem dmo : oDe oc35 0 (.aload_n 0) 1:=by decide+kernel
theorem dmp : oDe oc35 1 (.getfield 9) 3:=by decide+kernel
theorem dmL : oDe oc35 4 (.arraylength) 1:=by decide+kernel
theorem dmT : oDe oc35 5 (.istore_n 1) 1:=by decide+kernel
theorem dmY : oDe oc35 6 (.iconst 1) 1:=by decide+kernel
theorem dmZ : oDe oc35 7 (.istore_n 2) 1:=by decide+kernel
theorem dm0 : oDe oc35 8 (.iload_n 2) 1:=by decide+kernel
theorem dm1 : oDe oc35 9 (.iload_n 1) 1:=by decide+kernel
theorem dmq : oDe oc35 10 (.if_icmp .ge 40) 3:=by decide+kernel
theorem dmr : oDe oc35 13 (.aload_n 0) 1:=by decide+kernel
theorem dms : oDe oc35 14 (.getfield 21) 3:=by decide+kernel
theorem dmt : oDe oc35 17 (.iconst 2) 1:=by decide+kernel
theorem dmu : oDe oc35 18 (.iload_n 2) 1:=by decide+kernel
theorem dmv : oDe oc35 19 (.imul) 1:=by decide+kernel
theorem dmw : oDe oc35 20 (.laload) 1:=by decide+kernel
theorem dmx : oDe oc35 21 (.aload_n 0) 1:=by decide+kernel
theorem dmy : oDe oc35 22 (.getfield 21) 3:=by decide+kernel
theorem dmz : oDe oc35 25 (.iconst 2) 1:=by decide+kernel
theorem dmA : oDe oc35 26 (.iload_n 2) 1:=by decide+kernel
theorem dmB : oDe oc35 27 (.imul) 1:=by decide+kernel
theorem dmC : oDe oc35 28 (.iconst 1) 1:=by decide+kernel
theorem dmD : oDe oc35 29 (.iadd) 1:=by decide+kernel
theorem dmE : oDe oc35 30 (.laload) 1:=by decide+kernel
theorem dmF : oDe oc35 31 (.lcmp) 1:=by decide+kernel
theorem dmG : oDe oc35 32 (.ifCond .gt 9) 3:=by decide+kernel
theorem dmH : oDe oc35 35 (.iconst 2) 1:=by decide+kernel
theorem dmI : oDe oc35 36 (.iload_n 2) 1:=by decide+kernel
theorem dmJ : oDe oc35 37 (.imul) 1:=by decide+kernel
theorem dmK : oDe oc35 38 (.goto 8) 3:=by decide+kernel
theorem dmM : oDe oc35 41 (.iconst 2) 1:=by decide+kernel
theorem dmN : oDe oc35 42 (.iload_n 2) 1:=by decide+kernel
theorem dmO : oDe oc35 43 (.imul) 1:=by decide+kernel
theorem dmP : oDe oc35 44 (.iconst 1) 1:=by decide+kernel
theorem dmQ : oDe oc35 45 (.iadd) 1:=by decide+kernel
theorem dmR : oDe oc35 46 (.istore_n 2) 1:=by decide+kernel
theorem dmS : oDe oc35 47 (.goto (-39)) 3:=by decide+kernel
theorem dmU : oDe oc35 50 (.iload_n 2) 1:=by decide+kernel
theorem dmV : oDe oc35 51 (.iload_n 1) 1:=by decide+kernel
theorem dmW : oDe oc35 52 (.isub) 1:=by decide+kernel
theorem dmX : oDe oc35 53 (.ireturn) 1:=by decide+kernel
theorem pn_35 : plainName oL = true := by first | (simp [plainName, overriddenIn]; done) | decide +kernel
theorem faU (m : MethodId) (y0 : Addr) : entryFrame m #[(.ref y0)] 3 = mkF m 0 #[oR y0, oU, oU] [] := by first | (simp [entryFrame, mkF, argsToLocals, Value.category]; done) | rfl
def Q_rm35_2 (Z : State) (a35_0 wt : Addr) (kt : ClassId) (t0 t1 : Int64) (ws : Addr) (l0 l1 : Int64) (h0 : Heap) (n0 : Nat) (v : Option Value) (h : Heap) (L : List Loc) : Prop := v = some (.int (own_sh2 l0 l1)) ∧ Fr n0 L ∧ h = h0
theorem rm35_2 (hw : own_T Z a0) (a35_0 wt : Addr) (kt : ClassId) (t0 t1 : Int64) (ws : Addr) (l0 l1 : Int64) (h0 : Heap) (n0 : Nat) (Z0 : n0 ≤ h0.size) (F_times : Fld Z h0 a35_0 oL "times" "[J" (.ref wt)) (V_wt : Arv Z h0 wt kt .long (2 : Int32) [(.long t0), (.long t1)] oZ) (F_spans : Fld Z h0 a35_0 oL "spans" "[J" (.ref ws)) (T_ws : own_Sp2 Z h0 ws l0 l1) :
   own_Met l oy35 oc35 3 (some .int) (oRm 0 0 0 0) Z h0 #[(.ref a35_0)] (Q_rm35_2 Z a35_0 wt kt t0 t1 ws l0 l1 h0 n0) := by
 refine own_go hw (plainFor_of_name pn_35) (fun m => faU m a35_0) fun p e s m below meth c T0 C hret X u => ?_
 have N := Fr.nil n0
 refine gA C X u F_times (wb5 C.w) dmo dmp fun _ X u => ?_
 refine nA C X u V_wt dmL ?_
 refine wI C X #[oR a35_0, oI 2, oU] dmT ?_
 refine sC C X dmY ?_
 refine wI C X #[oR a35_0, oI 2, oI 1] dmZ ?_
 refine sI C X dm0 ?_
 refine sI C X dm1 ?_
 refine cN C X dmq (by decide) ?_
 refine gA C X u F_spans (wcb C.w) dmr dms fun _ X u => ?_
 refine sC C X dmt ?_
 refine sI C X dmu ?_
 refine sM C X dmv ?_
 obtain ⟨kq3, VT3⟩ := id T_ws
 obtain ⟨m3_1, hm3_1⟩ : ∃ z : Int64, z = (own_m l0 l1) := ⟨_, rfl⟩
 rw [← hm3_1] at VT3
 refine lA C X u VT3 dmw ?_
 refine gA C X u F_spans (wcb C.w) dmx dmy fun _ X u => ?_
 refine sC C X dmz ?_
 refine sI C X dmA ?_
 refine sM C X dmB ?_
 refine sC C X dmC ?_
 refine sP C X dmD ?_
 refine lA C X u VT3 dmE ?_
 refine tC C X dmF ?_
 by_cases h32_5 : l1 < l0
 · refine bY C X dmG 41 ((if0 _ _).trans (tlt ((lw_gt _ _).mpr h32_5)).2.2.1) ?_
   refine sC C X dmM ?_
   refine sI C X dmN ?_
   refine sM C X dmO ?_
   refine sC C X dmP ?_
   refine sP C X dmQ ?_
   refine wI C X #[oR a35_0, oI 2, oI 3] dmR ?_
   refine sG C X dmS 8 ?_
   refine sI C X dm0 ?_
   refine sI C X dm1 ?_
   refine cY C X dmq 50 (by decide) ?_
   refine sI C X dmU ?_
   refine sI C X dmV ?_
   refine sS C X dmW ?_
   refine rI C X u hret dmX ?_
   subst hm3_1
   exact ⟨(congrArg (fun z => some (Value.int z)) (if_pos h32_5).symm), N, rfl⟩
 refine bN C X dmG ((if0 _ _).trans (flt (fun q => h32_5 ((lw_gt _ _).mp q))).2.2.1) ?_
 refine sC C X dmH ?_
 refine sI C X dmI ?_
 refine sM C X dmJ ?_
 refine sG C X dmK 46 ?_
 refine wI C X #[oR a35_0, oI 2, oI 2] dmR ?_
 refine sG C X dmS 8 ?_
 refine sI C X dm0 ?_
 refine sI C X dm1 ?_
 refine cY C X dmq 50 (by decide) ?_
 refine sI C X dmU ?_
 refine sI C X dmV ?_
 refine sS C X dmW ?_
 refine rI C X u hret dmX ?_
 subst hm3_1
 exact ⟨(congrArg (fun z => some (Value.int z)) (if_neg h32_5).symm), N, rfl⟩
theorem pan : parseMethodDescriptor "()I" = some ⟨[], some .int⟩:=by decide+kernel
theorem own_shl_2_3 (x1 : Int64) (h1 : x1 < oM) : (own_sh2 oM x1) = (1 : Int32) := by
 unfold own_sh2
 rw [if_pos (own_ltM (R := x1) (L := oM) (by decide+kernel) h1)]
 first | done | decide
def own_psb (p32_1 : Int32) (tw : Int64) : Int32 := (if (tw &&& (((-1 : Int64).toUInt64 >>> ((-(p32_1 + (1 : Int32))) &&& 0x3f).toInt64.toUInt64).toInt64)) = (0 : Int64) then (-1 : Int32) else ((63 : Int32) - (own_lnlz (tw &&& (((-1 : Int64).toUInt64 >>> ((-(p32_1 + (1 : Int32))) &&& 0x3f).toInt64.toUInt64).toInt64)))))
theorem djk : oDe oc32 0 (.iload_n 1) 1:=by decide+kernel
theorem djl : oDe oc32 1 (.ifCond .ge 37) 3:=by decide+kernel
theorem djq : oDe oc32 38 (.aload_n 0) 1:=by decide+kernel
theorem djr : oDe oc32 39 (.invokevirtual 56) 3:=by decide+kernel
theorem djt : oDe oc32 42 (.iload_n 1) 1:=by decide+kernel
theorem dju : oDe oc32 43 (.invokestatic 52) 3:=by decide+kernel
theorem djv : oDe oc32 46 (.istore_n 2) 1:=by decide+kernel
theorem djw : oDe oc32 47 (.iload_n 2) 1:=by decide+kernel
theorem djx : oDe oc32 48 (.aload_n 0) 1:=by decide+kernel
theorem djy : oDe oc32 49 (.getfield 7) 3:=by decide+kernel
theorem djA : oDe oc32 52 (.if_icmp .lt 10) 3:=by decide+kernel
theorem djC : oDe oc32 62 (.aload_n 0) 1:=by decide+kernel
theorem djD : oDe oc32 63 (.getfield 11) 3:=by decide+kernel
theorem djE : oDe oc32 66 (.iload_n 2) 1:=by decide+kernel
theorem djF : oDe oc32 67 (.laload) 1:=by decide+kernel
theorem djG : oDe oc32 68 (.ldc2_w 165) 3:=by decide+kernel
theorem djH : oDe oc32 71 (.iload_n 1) 1:=by decide+kernel
theorem djI : oDe oc32 72 (.iconst 1) 1:=by decide+kernel
theorem djJ : oDe oc32 73 (.iadd) 1:=by decide+kernel
theorem djK : oDe oc32 74 (.ineg) 1:=by decide+kernel
theorem djL : oDe oc32 75 (.lushr) 1:=by decide+kernel
theorem djM : oDe oc32 76 (.land) 1:=by decide+kernel
theorem djN : oDe oc32 77 (.lstore_n 3) 1:=by decide+kernel
theorem djO : oDe oc32 78 (.lload_n 3) 1:=by decide+kernel
theorem djP : oDe oc32 79 (.lconst 0) 1:=by decide+kernel
theorem djQ : oDe oc32 80 (.lcmp) 1:=by decide+kernel
theorem djR : oDe oc32 81 (.ifCond .eq 17) 3:=by decide+kernel
theorem djS : oDe oc32 84 (.iload_n 2) 1:=by decide+kernel
theorem djT : oDe oc32 85 (.iconst 1) 1:=by decide+kernel
theorem djU : oDe oc32 86 (.iadd) 1:=by decide+kernel
theorem djV : oDe oc32 87 (.bipush 64) 2:=by decide+kernel
theorem djW : oDe oc32 89 (.imul) 1:=by decide+kernel
theorem djY : oDe oc32 90 (.iconst 1) 1:=by decide+kernel
theorem djZ : oDe oc32 91 (.isub) 1:=by decide+kernel
theorem dj0 : oDe oc32 92 (.lload_n 3) 1:=by decide+kernel
theorem dj1 : oDe oc32 93 (.invokestatic 190) 3:=by decide+kernel
theorem dj2 : oDe oc32 96 (.isub) 1:=by decide+kernel
theorem dj3 : oDe oc32 97 (.ireturn) 1:=by decide+kernel
theorem dj4 : oDe oc32 98 (.iload_n 2) 1:=by decide+kernel
theorem dj5 : oDe oc32 99 (.iinc 2 (-1)) 3:=by decide+kernel
theorem djn : oDe oc32 102 (.ifCond .ne 5) 3:=by decide+kernel
theorem djo : oDe oc32 105 (.iconst (-1)) 1:=by decide+kernel
theorem djp : oDe oc32 106 (.ireturn) 1:=by decide+kernel
theorem pn_32 : plainName oB = true := by first | (simp [plainName, overriddenIn]; done) | decide +kernel
theorem faR (m : MethodId) (y0 : Addr) (y1 : Int32) : entryFrame m #[(.ref y0), (.int y1)] 5 = mkF m 0 #[oR y0, oI y1, oU, oU, oU] [] := by first | (simp [entryFrame, mkF, argsToLocals, Value.category]; done) | rfl
def Q_rm32_1 (Z : State) (a32_0 : Addr) (p32_1 : Int32) (ww : Addr) (kw : ClassId) (tw : Int64) (h0 : Heap) (n0 : Nat) (v : Option Value) (h : Heap) (L : List Loc) : Prop := v = some (.int (own_psb p32_1 tw)) ∧ Fr n0 L ∧ h = h0
theorem rm32_1 (hw : own_T Z a0) (a32_0 : Addr) (p32_1 : Int32) (ww : Addr) (kw : ClassId) (tw : Int64) (h0 : Heap) (n0 : Nat) (Z0 : n0 ≤ h0.size) (hn : ¬ (p32_1 < (0 : Int32))) (hu : (p32_1 >>> ((6 : Int32) &&& 31)) = (0 : Int32)) (E_a : Exa Z h0 a32_0 oB) (F_wordsInUse : Fld Z h0 a32_0 oB "wordsInUse" "I" (.int 1)) (F_sizeIsSticky : Fld Z h0 a32_0 oB "sizeIsSticky" "Z" (.int 1)) (F_words : Fld Z h0 a32_0 oB "words" "[J" (.ref ww)) (V_ww : Arv Z h0 ww kw .long (1 : Int32) [(.long tw)] oZ) (Sta1 : Sta Z h0 oB "$assertionsDisabled" "Z" (.int 1)) :
   own_Met l (⟨oB, "previousSetBit", "(I)I"⟩ : MethodName) oc32 5 (some .int) (oRm 2 0 0 29) Z h0 #[(.ref a32_0), (.int p32_1)] (Q_rm32_1 Z a32_0 p32_1 ww kw tw h0 n0) := by
 refine own_go hw (plainFor_of_name pn_32) (fun m => faR m a32_0 p32_1) fun p e s m below meth c T0 C hret X u => ?_
 have N := Fr.nil n0
 refine sI C X djk ?_
 refine bY C X djl 38 ((if0 _ _).trans (flt hn).2.1) ?_
 refine sA C X djq ?_
 refine cP C X u (fun ws => rm14 l Z a0 C.w ws a32_0 h0 n0 Z0 Sta1) E_a (W := 0) (wdc C.w) (wdd C.w) (mvT C.z (wdf C.w)) (wde C.w) (wdg C.w) (wcg C.w) (argsL := []) (lenOf pas rfl) djr fun _ T1 _ X hQ1 => ?_
 obtain ⟨rfl, Nq1, u⟩ := hQ1
 refine sI C X djt ?_
 refine cS C X u (fun ws => rm7 l Z a0 C.w ws p32_1 h0 n0 Z0 ) (W := 0) (wcv C.w) (wcw C.w) (wcx C.w) (wcg C.w) (argsL := [(.int p32_1)]) (lenOf paf rfl) dju fun _ T2 _ X hQ2 => ?_
 obtain ⟨rfl, Nq2, u⟩ := hQ2
 rw [hu]
 refine wI C X #[oR a32_0, oI p32_1, oI 0, oU, oU] djv ?_
 refine sI C X djw ?_
 refine gA C X u F_wordsInUse (wcl C.w) djx djy fun _ X u => ?_
 refine cY C X djA 62 (by decide) ?_
 refine gA C X u F_words (wcy C.w) djC djD fun _ X u => ?_
 refine sI C X djE ?_
 refine lA C X u V_ww djF ?_
 refine kJ C X (wa8 C.w) djG ?_
 refine sI C X djH ?_
 refine sC C X djI ?_
 refine sP C X djJ ?_
 refine sE C X djK ?_
 refine tU C X djL ?_
 refine tA C X djM ?_
 refine wL C X #[oR a32_0, oI p32_1, oI 0, oJ (tw &&& (((-1 : Int64).toUInt64 >>> ((-(p32_1 + (1 : Int32))) &&& 0x3f).toInt64.toUInt64).toInt64)), oD] djN ?_
 refine sL C X djO ?_
 refine tK C X djP ?_
 refine tC C X djQ ?_
 by_cases h81_5 : (tw &&& (((-1 : Int64).toUInt64 >>> ((-(p32_1 + (1 : Int32))) &&& 0x3f).toInt64.toUInt64).toInt64)) = (0 : Int64)
 · refine bY C X djR 98 ((if0 _ _).trans (teq ((lw_eq _ _).mpr h81_5)).1) ?_
   refine sI C X dj4 ?_
   refine wc C X #[oR a32_0, oI p32_1, oI (-1), oJ (tw &&& (((-1 : Int64).toUInt64 >>> ((-(p32_1 + (1 : Int32))) &&& 0x3f).toInt64.toUInt64).toInt64)), oD] dj5 ?_
   refine bN C X djn (by decide) ?_
   refine sC C X djo ?_
   refine rI C X u hret djp ?_
   exact ⟨(congrArg (fun z => some (Value.int z)) (if_pos h81_5).symm), ((N.app Nq1).app Nq2), rfl⟩
 refine bN C X djR ((if0 _ _).trans (feq (fun q => h81_5 ((lw_eq _ _).mp q))).1) ?_
 refine sI C X djS ?_
 refine sC C X djT ?_
 refine sP C X djU ?_
 refine sB C X djV ?_
 refine sM C X djW ?_
 refine sC C X djY ?_
 refine sS C X djZ ?_
 refine sL C X dj0 ?_
 refine cB C X u (W := 1) (Jvm.Free.JP.Long_numberOfLeadingZeros_J.pays (tw &&& (((-1 : Int64).toUInt64 >>> ((-(p32_1 + (1 : Int32))) &&& 0x3f).toInt64.toUInt64).toInt64)) (own_tY C) (by decide) (by decide)) (wbH C.w) (wbI C.w) (wbJ C.w) (wbb C.w) (argsL := [(.long (tw &&& (((-1 : Int64).toUInt64 >>> ((-(p32_1 + (1 : Int32))) &&& 0x3f).toInt64.toUInt64).toInt64)))]) (lenOf pak rfl) (fun _ => ⟨rfl, trivial⟩) dj1 fun _ X u => ?_
 refine sS C X dj2 ?_
 refine rI C X u hret dj3 ?_
 exact ⟨(congrArg (fun z => some (Value.int z)) (if_neg h81_5).symm), ((N.app Nq1).app Nq2), rfl⟩
theorem djs : oDe oc32 4 (.iload_n 1) 1:=by decide+kernel
theorem djz : oDe oc32 5 (.iconst (-1)) 1:=by decide+kernel
theorem djB : oDe oc32 6 (.if_icmp .ne 5) 3:=by decide+kernel
theorem djX : oDe oc32 9 (.iconst (-1)) 1:=by decide+kernel
theorem djm : oDe oc32 10 (.ireturn) 1:=by decide+kernel
theorem faS (m : MethodId) (y0 : Addr) : entryFrame m #[(.ref y0), (.int (-1 : Int32))] 5 = mkF m 0 #[oR y0, oI (-1), oU, oU, oU] [] := by first | (simp [entryFrame, mkF, argsToLocals, Value.category]; done) | rfl
def Q_rm32_2 (Z : State) (a32_0 ww : Addr) (kw : ClassId) (tw : Int64) (h0 : Heap) (n0 : Nat) (v : Option Value) (h : Heap) (L : List Loc) : Prop := v = some (.int (-1 : Int32)) ∧ Fr n0 L ∧ h = h0
theorem rm32_2 (hw : own_T Z a0) (a32_0 ww : Addr) (kw : ClassId) (tw : Int64) (h0 : Heap) (n0 : Nat) (Z0 : n0 ≤ h0.size) (E_a : Exa Z h0 a32_0 oB) (F_wordsInUse : Fld Z h0 a32_0 oB "wordsInUse" "I" (.int 1)) (F_sizeIsSticky : Fld Z h0 a32_0 oB "sizeIsSticky" "Z" (.int 1)) (F_words : Fld Z h0 a32_0 oB "words" "[J" (.ref ww)) (V_ww : Arv Z h0 ww kw .long (1 : Int32) [(.long tw)] oZ) :
   own_Met l (⟨oB, "previousSetBit", "(I)I"⟩ : MethodName) oc32 5 (some .int) (oRm 0 0 0 0) Z h0 #[(.ref a32_0), (.int (-1 : Int32))] (Q_rm32_2 Z a32_0 ww kw tw h0 n0) := by
 refine own_go hw (plainFor_of_name pn_32) (fun m => faS m a32_0) fun p e s m below meth c T0 C hret X u => ?_
 have N := Fr.nil n0
 refine sI C X djk ?_
 refine bN C X djl (by decide) ?_
 refine sI C X djs ?_
 refine sC C X djz ?_
 refine cN C X djB (by decide) ?_
 refine sC C X djX ?_
 refine rI C X u hret djm ?_
 exact ⟨rfl, N, rfl⟩
theorem dkY : oDe oc34 0 (.aload_n 0) 1:=by decide+kernel
theorem dkZ : oDe oc34 1 (.getfield 31) 3:=by decide+kernel
theorem dlN : oDe oc34 4 (.iconst 1) 1:=by decide+kernel
theorem dlU : oDe oc34 5 (.if_icmp .le 7) 3:=by decide+kernel
theorem dmd : oDe oc34 8 (.iconst 1) 1:=by decide+kernel
theorem dmj : oDe oc34 9 (.goto 4) 3:=by decide+kernel
theorem dli : oDe oc34 13 (.istore_n 1) 1:=by decide+kernel
theorem dlo : oDe oc34 14 (.iload_n 1) 1:=by decide+kernel
theorem dlw : oDe oc34 15 (.ifCond .eq 136) 3:=by decide+kernel
theorem dlz : oDe oc34 18 (.aload_n 0) 1:=by decide+kernel
theorem dlA : oDe oc34 19 (.invokevirtual 97) 3:=by decide+kernel
theorem dlB : oDe oc34 22 (.istore_n 2) 1:=by decide+kernel
theorem dlC : oDe oc34 23 (.aload_n 0) 1:=by decide+kernel
theorem dlD : oDe oc34 24 (.getfield 27) 3:=by decide+kernel
theorem dlE : oDe oc34 27 (.iload_n 2) 1:=by decide+kernel
theorem dlF : oDe oc34 28 (.iconst 1) 1:=by decide+kernel
theorem dlG : oDe oc34 29 (.isub) 1:=by decide+kernel
theorem dlH : oDe oc34 30 (.invokevirtual 71) 3:=by decide+kernel
theorem dlI : oDe oc34 33 (.istore_n 3) 1:=by decide+kernel
theorem dlJ : oDe oc34 34 (.aload_n 0) 1:=by decide+kernel
theorem dlK : oDe oc34 35 (.getfield 27) 3:=by decide+kernel
theorem dlL : oDe oc34 38 (.iload_n 3) 1:=by decide+kernel
theorem dlM : oDe oc34 39 (.invokevirtual 61) 3:=by decide+kernel
theorem dlO : oDe oc34 42 (.aload_n 0) 1:=by decide+kernel
theorem dlP : oDe oc34 43 (.dup) 1:=by decide+kernel
theorem dlQ : oDe oc34 44 (.getfield 31) 3:=by decide+kernel
theorem dlR : oDe oc34 47 (.iconst 1) 1:=by decide+kernel
theorem dlS : oDe oc34 48 (.isub) 1:=by decide+kernel
theorem dlT : oDe oc34 49 (.putfield 31) 3:=by decide+kernel
theorem dlV : oDe oc34 52 (.aload_n 0) 1:=by decide+kernel
theorem dlW : oDe oc34 53 (.iload_n 3) 1:=by decide+kernel
theorem dlX : oDe oc34 54 (.ldc2_w 65) 3:=by decide+kernel
theorem dlY : oDe oc34 57 (.invokevirtual 67) 3:=by decide+kernel
theorem dlZ : oDe oc34 60 (.aload_n 0) 1:=by decide+kernel
theorem dl0 : oDe oc34 61 (.getfield 15) 3:=by decide+kernel
theorem dl1 : oDe oc34 64 (.iload_n 2) 1:=by decide+kernel
theorem dl2 : oDe oc34 65 (.aload_n 0) 1:=by decide+kernel
theorem dl3 : oDe oc34 66 (.getfield 15) 3:=by decide+kernel
theorem dl4 : oDe oc34 69 (.iload_n 3) 1:=by decide+kernel
theorem dl5 : oDe oc34 70 (.laload) 1:=by decide+kernel
theorem dl6 : oDe oc34 71 (.lastore) 1:=by decide+kernel
theorem dl7 : oDe oc34 72 (.aload_n 0) 1:=by decide+kernel
theorem dl8 : oDe oc34 73 (.getfield 27) 3:=by decide+kernel
theorem dl9 : oDe oc34 76 (.iload_n 3) 1:=by decide+kernel
theorem dma : oDe oc34 77 (.iconst 1) 1:=by decide+kernel
theorem dmb : oDe oc34 78 (.isub) 1:=by decide+kernel
theorem dmc : oDe oc34 79 (.invokevirtual 71) 3:=by decide+kernel
theorem dme : oDe oc34 82 (.istore 4) 2:=by decide+kernel
theorem dmf : oDe oc34 84 (.aload_n 0) 1:=by decide+kernel
theorem dmg : oDe oc34 85 (.iload_n 2) 1:=by decide+kernel
theorem dmh : oDe oc34 86 (.iload 4) 2:=by decide+kernel
theorem dmi : oDe oc34 88 (.ifCond .ge 9) 3:=by decide+kernel
theorem dmk : oDe oc34 91 (.ldc2_w 65) 3:=by decide+kernel
theorem dml : oDe oc34 94 (.goto 17) 3:=by decide+kernel
theorem dk7 : oDe oc34 111 (.invokevirtual 67) 3:=by decide+kernel
theorem dk8 : oDe oc34 114 (.aload_n 0) 1:=by decide+kernel
theorem dk9 : oDe oc34 115 (.getfield 27) 3:=by decide+kernel
theorem dla : oDe oc34 118 (.iload_n 2) 1:=by decide+kernel
theorem dlb : oDe oc34 119 (.iconst 1) 1:=by decide+kernel
theorem dld : oDe oc34 120 (.iadd) 1:=by decide+kernel
theorem dle : oDe oc34 121 (.invokevirtual 50) 3:=by decide+kernel
theorem dlf : oDe oc34 124 (.istore 5) 2:=by decide+kernel
theorem dlg : oDe oc34 126 (.iload 5) 2:=by decide+kernel
theorem dlh : oDe oc34 128 (.ifCond .lt 23) 3:=by decide+kernel
theorem dlx : oDe oc34 151 (.iload_n 1) 1:=by decide+kernel
theorem dly : oDe oc34 152 (.ireturn) 1:=by decide+kernel
theorem pn_34 : plainName oL = true := by first | (simp [plainName, overriddenIn]; done) | decide +kernel
theorem faT (m : MethodId) (y0 : Addr) : entryFrame m #[(.ref y0)] 6 = mkF m 0 #[oR y0, oU, oU, oU, oU, oU] [] := by first | (simp [entryFrame, mkF, argsToLocals, Value.category]; done) | rfl
def Q_rm34_2_3 (Z : State) (a34_0 : Addr) (rT : Addr) (rF : Addr) (rO : Addr) (rS : Addr) (rE : Addr) (rW : Addr) (kT : ClassId) (kF : ClassId) (kO : ClassId) (kW : ClassId) (fi : Int32) (en : Int32) (sz : Int32) (bs : Int64) (tm0 : Int64) (tm1 : Int64) (to0 : Int64) (to1 : Int64) (T : Int64) (hB : Heap) (h0 : Heap) (n0 : Nat) (v : Option Value) (h : Heap) (L : List Loc) : Prop := v = some (.int 1) ∧ Fr n0 L ∧ (((own_sh2 oM (tm1 - tm0)) = (1 : Int32) ∧ own_Obj Z h n0 a34_0 rT rF rO rS rE rW kT kF kO kW fi en (sz - (1 : Int32)) bs (1 : Int32) (1 : Int32) (2 : Int64) (2 : Int32) [(.long tm0), (.long tm1)] [(.long tm0), (.long tm0)] [(.long to0), (.long to1)] hB ∧ own_Sp2 Z h rS oM oM))
theorem rm34_2_3 (hw : own_T Z a0) (a34_0 rT rF rO rS rE rW : Addr) (kT kF kO kW : ClassId) (fi en sz : Int32) (bs tm0 tm1 to0 to1 T : Int64) (hB : Heap) (h0 : Heap) (n0 : Nat) (Z0 : n0 ≤ h0.size) (O : own_Obj Z h0 n0 a34_0 rT rF rO rS rE rW kT kF kO kW fi en sz bs (1 : Int32) (1 : Int32) (3 : Int64) (2 : Int32) [(.long tm0), (.long tm1)] [(.long tm0), (.long tm1)] [(.long to0), (.long to1)] hB) (SP : own_Sp2 Z h0 rS oM (tm1 - tm0)) (htm0 : own_near T tm0) (htm1 : own_near T tm1) (hsz : (1 : Int32) < sz) :
   own_Met l oy34 oc34 6 (some .boolean) (oRm 5 0 0 120) Z h0 #[(.ref a34_0)] (Q_rm34_2_3 Z a34_0 rT rF rO rS rE rW kT kF kO kW fi en sz bs tm0 tm1 to0 to1 T hB h0 n0) := by
 refine own_go hw (plainFor_of_name pn_34) (fun m => faT m a34_0) fun p e s m below meth c T0 C hret X u => ?_
 have N := Fr.nil n0
 refine gA C X u O.Fsize (wcI C.w) dkY dkZ fun _ X u => ?_
 refine sC C X dlN ?_
 refine cN C X dlU ((tlt hsz).2.2.2) ?_
 refine sC C X dmd ?_
 refine sG C X dmj 13 ?_
 refine wI C X #[oR a34_0, oI 1, oU, oU, oU, oU] dli ?_
 refine sI C X dlo ?_
 refine bN C X dlw (by decide) ?_
 refine sA C X dlz ?_
 refine cP C X u (rm35_2 l Z a0 C.w a34_0 rT kT tm0 tm1 rS oM (tm1 - tm0) h0 n0 O.hsz O.Ftimes O.Vt O.Fspans SP) O.Ea (W := 0) (wbD C.w) (wbE C.w) (osp5 C) (wbF C.w) (wbG C.w) (wa5 C.w) (argsL := []) (lenOf pan rfl) dlA fun _ T2 _ X hQ2 => ?_
 obtain ⟨rfl, Nq2, u⟩ := hQ2
 obtain ⟨x3, hx3⟩ : ∃ z : Int32, z = (own_sh2 oM (tm1 - tm0)) := ⟨_, rfl⟩
 rw [← hx3]
 have hdx3 : x3 = (1 : Int32) := by rw [hx3]; exact (own_shl_2_3 (tm1 - tm0) (own_nlt htm1 htm0))
 have hc4 := hdx3
 rw [hc4]
 refine wI C X #[oR a34_0, oI 1, oI 1, oU, oU, oU] dlB ?_
 refine gA C X u O.Fentries (wcB C.w) dlC dlD fun _ X u => ?_
 refine sI C X dlE ?_
 refine sC C X dlF ?_
 refine sS C X dlG ?_
 refine cV C X u (rm32_1 l Z a0 C.w rE (0 : Int32) rW kW (3 : Int64) h0 n0 O.hsz (by decide+kernel) (by decide+kernel) O.Ee O.BwordsInUse O.BsizeIsSticky O.Bwords O.Vw O.St) O.Ee (W := 0) (wbl C.w) (wbm C.w) (wbo C.w) (wbn C.w) (wbp C.w) (wcg C.w) (argsL := [(.int 0)]) (lenOf paf rfl) dlH fun _ T6 _ X hQ6 => ?_
 obtain ⟨rfl, Nq6, u⟩ := hQ6
 rw [show (own_psb (0 : Int32) (3 : Int64)) = (0 : Int32) from by decide+kernel]
 refine wI C X #[oR a34_0, oI 1, oI 1, oI 0, oU, oU] dlI ?_
 refine gA C X u O.Fentries (wcB C.w) dlJ dlK fun _ X u => ?_
 refine sI C X dlL ?_
 refine cV C X u (rm37_1 l Z a0 C.w rE (0 : Int32) rW kW (3 : Int64) h0 n0 O.hsz (by decide+kernel) (by decide+kernel) O.Ee O.BwordsInUse O.BsizeIsSticky O.Bwords O.Vw O.grW O.n_rE_rW O.grE O.St) O.Ee (W := 0) (wbL C.w) (wbM C.w) (wbP C.w) (wbO C.w) (wbQ C.w) (wcg C.w) (argsL := [(.int 0)]) (lenOf pah rfl) dlM fun _ T9 _ X hQ9 => ?_
 obtain ⟨rfl, Nq9, Kc9, Sc9, P9_0, P9_1, P9_2, P9_3, P9_4⟩ := hQ9
 rw [show ((3 : Int64) &&& (((1 : Int64) <<< ((0 : Int32) &&& 0x3f).toInt64) ^^^ (-1 : Int64))) = (2 : Int64) from by decide+kernel] at P9_0
 rw [show (if ((3 : Int64) &&& (((1 : Int64) <<< ((0 : Int32) &&& 0x3f).toInt64) ^^^ (-1 : Int64))) = (0 : Int64) then (0 : Int32) else (1 : Int32)) = (1 : Int32) from by decide+kernel] at P9_2
 have O9 := O.bits2 Kc9 Sc9 P9_1 P9_2 P9_3 P9_4 P9_0
 refine sA C X dlO ?_
 refine sD C X dlP ?_
 refine gF C X rfl O9.Fsize (wcI C.w) dlQ fun _ X u => ?_
 refine sC C X dlR ?_
 refine sS C X dlS ?_
 refine pF C X u (((N.app Nq2).app Nq6).app Nq9) O9.ga O9.Fsize O9.Ea (ty := .int) (wcI C.w) (wcJ C.w) (waU C.w) (by decide) dlT fun _ h11 _ X u N W11 F11 => ?_
 have O11 := own_Obj.put_size hw O9 W11 F11
 refine sA C X dlV ?_
 refine sI C X dlW ?_
 refine kJ C X (waf C.w) dlX ?_
 have f12 := ((SP.keep Kc9 (ninS O11.n_rS_rW (ninS O11.n_rS_rE nin0))).other W11 (Ne.symm O11.n_a_rS))
 refine cP C X u (rm23_2_0 l Z a0 C.w a34_0 oM rT kT tm0 tm1 rS oM (tm1 - tm0) h11 n0 O11.hsz O11.Ftimes O11.Vt O11.Fspans f12 O11.grS O11.n_a_rS) O11.Ea (W := 0) (waH C.w) (waI C.w) (osp1 C) (waK C.w) (waL C.w) (wa5 C.w) (argsL := [(.int 0), (.long oM)]) (lenOf pae rfl) dlY fun _ T13 _ X hQ13 => ?_
 obtain ⟨rfl, Nq13, Kc13, Sc13, P13_0⟩ := hQ13
 have O13 := O11.sp Kc13 Sc13
 refine gA C X rfl O13.Ffroms (wb7 C.w) dlZ dl0 fun _ X u => ?_
 refine sI C X dl1 ?_
 refine gA C X u O13.Ffroms (wb7 C.w) dl2 dl3 fun _ X u => ?_
 refine sI C X dl4 ?_
 refine lA C X u O13.Vf dl5 ?_
 refine sJ C X u (N.app Nq13) O13.grF O13.Vf _ dl6 fun _ h16 _ X u N W16 V16 => ?_
 have O16 := O13.setF W16 V16
 refine gA C X u O16.Fentries (wcB C.w) dl7 dl8 fun _ X u => ?_
 refine sI C X dl9 ?_
 refine sC C X dma ?_
 refine sS C X dmb ?_
 refine cV C X u (rm32_2 l Z a0 C.w rE rW kW (2 : Int64) h16 n0 O16.hsz O16.Ee O16.BwordsInUse O16.BsizeIsSticky O16.Bwords O16.Vw) O16.Ee (W := 0) (wbl C.w) (wbm C.w) (wbo C.w) (wbn C.w) (wbp C.w) (wcg C.w) (argsL := [(.int (-1 : Int32))]) (lenOf paf rfl) dmc fun _ T18 _ X hQ18 => ?_
 obtain ⟨rfl, Nq18, u⟩ := hQ18
 refine wi C X #[oR a34_0, oI 1, oI 1, oI 0, oI (-1), oU] dme ?_
 refine sA C X dmf ?_
 refine sI C X dmg ?_
 refine si C X dmh ?_
 refine bN C X dmi (by decide) ?_
 refine kJ C X (waf C.w) dmk ?_
 refine sG C X dml 111 ?_
 have f19 := (P13_0.other W16 (Ne.symm O16.n_rF_rS))
 refine cP C X u (rm23_2_1 l Z a0 C.w a34_0 oM rT kT tm0 tm1 rS oM (tm1 - tm0) h16 n0 O16.hsz O16.Ftimes O16.Vt O16.Fspans f19 O16.grS O16.n_a_rS) O16.Ea (W := 0) (waH C.w) (waI C.w) (osp1 C) (waK C.w) (waL C.w) (wa5 C.w) (argsL := [(.int 1), (.long oM)]) (lenOf pae rfl) dk7 fun _ T20 _ X hQ20 => ?_
 obtain ⟨rfl, Nq20, Kc20, Sc20, P20_0⟩ := hQ20
 have O20 := O16.sp Kc20 Sc20
 refine gA C X rfl O20.Fentries (wcB C.w) dk8 dk9 fun _ X u => ?_
 refine sI C X dla ?_
 refine sC C X dlb ?_
 refine sP C X dld ?_
 refine cV C X u (rm13_2 l Z a0 C.w rE (2 : Int32) rW kW (2 : Int64) T20.heap n0 O20.hsz (by decide+kernel) (by decide+kernel) O20.Ee O20.BwordsInUse O20.BsizeIsSticky O20.Bwords O20.Vw O20.St) O20.Ee (W := 0) (wc7 C.w) (wc8 C.w) (wda C.w) (wc9 C.w) (wdb C.w) (wcg C.w) (argsL := [(.int 2)]) (lenOf paf rfl) dle fun _ T22 _ X hQ22 => ?_
 obtain ⟨rfl, Nq22, u⟩ := hQ22
 rw [show (own_nsb (2 : Int32) (2 : Int64)) = (-1 : Int32) from by decide+kernel]
 refine wi C X #[oR a34_0, oI 1, oI 1, oI 0, oI (-1), oI (-1)] dlf ?_
 refine si C X dlg ?_
 refine bY C X dlh 151 (by decide) ?_
 refine sI C X dlx ?_
 refine rZ C X u hret dly ?_
 exact ⟨rfl, (((N.app Nq18).app Nq20).app Nq22), ⟨hx3 ▸ hc4, O20, P20_0⟩⟩
def own_sh4 (l0 : Int64) (l1 : Int64) (l2 : Int64) (l3 : Int64) : Int32 := (if (own_m l2 l3) < (own_m l0 l1) then (if l3 < l2 then (3 : Int32) else (2 : Int32)) else (if l1 < l0 then (1 : Int32) else (0 : Int32)))
def Q_rm35_4 (Z : State) (a35_0 wt : Addr) (kt : ClassId) (t0 t1 t2 t3 : Int64) (ws : Addr) (l0 l1 l2 l3 : Int64) (h0 : Heap) (n0 : Nat) (v : Option Value) (h : Heap) (L : List Loc) : Prop := v = some (.int (own_sh4 l0 l1 l2 l3)) ∧ Fr n0 L ∧ h = h0
theorem rm35_4 (hw : own_T Z a0) (a35_0 wt : Addr) (kt : ClassId) (t0 t1 t2 t3 : Int64) (ws : Addr) (l0 l1 l2 l3 : Int64) (h0 : Heap) (n0 : Nat) (Z0 : n0 ≤ h0.size) (F_times : Fld Z h0 a35_0 oL "times" "[J" (.ref wt)) (V_wt : Arv Z h0 wt kt .long (4 : Int32) [(.long t0), (.long t1), (.long t2), (.long t3)] oZ) (F_spans : Fld Z h0 a35_0 oL "spans" "[J" (.ref ws)) (T_ws : own_Sp4 Z h0 ws l0 l1 l2 l3) :
   own_Met l oy35 oc35 3 (some .int) (oRm 0 0 0 0) Z h0 #[(.ref a35_0)] (Q_rm35_4 Z a35_0 wt kt t0 t1 t2 t3 ws l0 l1 l2 l3 h0 n0) := by
 refine own_go hw (plainFor_of_name pn_35) (fun m => faU m a35_0) fun p e s m below meth c T0 C hret X u => ?_
 have N := Fr.nil n0
 refine gA C X u F_times (wb5 C.w) dmo dmp fun _ X u => ?_
 refine nA C X u V_wt dmL ?_
 refine wI C X #[oR a35_0, oI 4, oU] dmT ?_
 refine sC C X dmY ?_
 refine wI C X #[oR a35_0, oI 4, oI 1] dmZ ?_
 refine sI C X dm0 ?_
 refine sI C X dm1 ?_
 refine cN C X dmq (by decide) ?_
 refine gA C X u F_spans (wcb C.w) dmr dms fun _ X u => ?_
 refine sC C X dmt ?_
 refine sI C X dmu ?_
 refine sM C X dmv ?_
 obtain ⟨kq3, VT3⟩ := id T_ws
 obtain ⟨m3_3, hm3_3⟩ : ∃ z : Int64, z = (own_m l2 l3) := ⟨_, rfl⟩
 rw [← hm3_3] at VT3
 obtain ⟨m3_2, hm3_2⟩ : ∃ z : Int64, z = (own_m l0 l1) := ⟨_, rfl⟩
 rw [← hm3_2] at VT3
 obtain ⟨m3_1, hm3_1⟩ : ∃ z : Int64, z = (own_m m3_2 m3_3) := ⟨_, rfl⟩
 rw [← hm3_1] at VT3
 refine lA C X u VT3 dmw ?_
 refine gA C X u F_spans (wcb C.w) dmx dmy fun _ X u => ?_
 refine sC C X dmz ?_
 refine sI C X dmA ?_
 refine sM C X dmB ?_
 refine sC C X dmC ?_
 refine sP C X dmD ?_
 refine lA C X u VT3 dmE ?_
 refine tC C X dmF ?_
 by_cases h32_5 : m3_3 < m3_2
 · refine bY C X dmG 41 ((if0 _ _).trans (tlt ((lw_gt _ _).mpr h32_5)).2.2.1) ?_
   refine sC C X dmM ?_
   refine sI C X dmN ?_
   refine sM C X dmO ?_
   refine sC C X dmP ?_
   refine sP C X dmQ ?_
   refine wI C X #[oR a35_0, oI 4, oI 3] dmR ?_
   refine sG C X dmS 8 ?_
   refine sI C X dm0 ?_
   refine sI C X dm1 ?_
   refine cN C X dmq (by decide) ?_
   refine gA C X u F_spans (wcb C.w) dmr dms fun _ X u => ?_
   refine sC C X dmt ?_
   refine sI C X dmu ?_
   refine sM C X dmv ?_
   refine lA C X u VT3 dmw ?_
   refine gA C X u F_spans (wcb C.w) dmx dmy fun _ X u => ?_
   refine sC C X dmz ?_
   refine sI C X dmA ?_
   refine sM C X dmB ?_
   refine sC C X dmC ?_
   refine sP C X dmD ?_
   refine lA C X u VT3 dmE ?_
   refine tC C X dmF ?_
   by_cases h32_8 : l3 < l2
   · refine bY C X dmG 41 ((if0 _ _).trans (tlt ((lw_gt _ _).mpr h32_8)).2.2.1) ?_
     refine sC C X dmM ?_
     refine sI C X dmN ?_
     refine sM C X dmO ?_
     refine sC C X dmP ?_
     refine sP C X dmQ ?_
     refine wI C X #[oR a35_0, oI 4, oI 7] dmR ?_
     refine sG C X dmS 8 ?_
     refine sI C X dm0 ?_
     refine sI C X dm1 ?_
     refine cY C X dmq 50 (by decide) ?_
     refine sI C X dmU ?_
     refine sI C X dmV ?_
     refine sS C X dmW ?_
     refine rI C X u hret dmX ?_
     subst hm3_1
     subst hm3_2
     subst hm3_3
     exact ⟨(congrArg (fun z => some (Value.int z)) ((if_pos h32_5).trans (if_pos h32_8)).symm), N, rfl⟩
   refine bN C X dmG ((if0 _ _).trans (flt (fun q => h32_8 ((lw_gt _ _).mp q))).2.2.1) ?_
   refine sC C X dmH ?_
   refine sI C X dmI ?_
   refine sM C X dmJ ?_
   refine sG C X dmK 46 ?_
   refine wI C X #[oR a35_0, oI 4, oI 6] dmR ?_
   refine sG C X dmS 8 ?_
   refine sI C X dm0 ?_
   refine sI C X dm1 ?_
   refine cY C X dmq 50 (by decide) ?_
   refine sI C X dmU ?_
   refine sI C X dmV ?_
   refine sS C X dmW ?_
   refine rI C X u hret dmX ?_
   subst hm3_1
   subst hm3_2
   subst hm3_3
   exact ⟨(congrArg (fun z => some (Value.int z)) ((if_pos h32_5).trans (if_neg h32_8)).symm), N, rfl⟩
 refine bN C X dmG ((if0 _ _).trans (flt (fun q => h32_5 ((lw_gt _ _).mp q))).2.2.1) ?_
 refine sC C X dmH ?_
 refine sI C X dmI ?_
 refine sM C X dmJ ?_
 refine sG C X dmK 46 ?_
 refine wI C X #[oR a35_0, oI 4, oI 2] dmR ?_
 refine sG C X dmS 8 ?_
 refine sI C X dm0 ?_
 refine sI C X dm1 ?_
 refine cN C X dmq (by decide) ?_
 refine gA C X u F_spans (wcb C.w) dmr dms fun _ X u => ?_
 refine sC C X dmt ?_
 refine sI C X dmu ?_
 refine sM C X dmv ?_
 refine lA C X u VT3 dmw ?_
 refine gA C X u F_spans (wcb C.w) dmx dmy fun _ X u => ?_
 refine sC C X dmz ?_
 refine sI C X dmA ?_
 refine sM C X dmB ?_
 refine sC C X dmC ?_
 refine sP C X dmD ?_
 refine lA C X u VT3 dmE ?_
 refine tC C X dmF ?_
 by_cases h32_11 : l1 < l0
 · refine bY C X dmG 41 ((if0 _ _).trans (tlt ((lw_gt _ _).mpr h32_11)).2.2.1) ?_
   refine sC C X dmM ?_
   refine sI C X dmN ?_
   refine sM C X dmO ?_
   refine sC C X dmP ?_
   refine sP C X dmQ ?_
   refine wI C X #[oR a35_0, oI 4, oI 5] dmR ?_
   refine sG C X dmS 8 ?_
   refine sI C X dm0 ?_
   refine sI C X dm1 ?_
   refine cY C X dmq 50 (by decide) ?_
   refine sI C X dmU ?_
   refine sI C X dmV ?_
   refine sS C X dmW ?_
   refine rI C X u hret dmX ?_
   subst hm3_1
   subst hm3_2
   subst hm3_3
   exact ⟨(congrArg (fun z => some (Value.int z)) ((if_neg h32_5).trans (if_pos h32_11)).symm), N, rfl⟩
 refine bN C X dmG ((if0 _ _).trans (flt (fun q => h32_11 ((lw_gt _ _).mp q))).2.2.1) ?_
 refine sC C X dmH ?_
 refine sI C X dmI ?_
 refine sM C X dmJ ?_
 refine sG C X dmK 46 ?_
 refine wI C X #[oR a35_0, oI 4, oI 4] dmR ?_
 refine sG C X dmS 8 ?_
 refine sI C X dm0 ?_
 refine sI C X dm1 ?_
 refine cY C X dmq 50 (by decide) ?_
 refine sI C X dmU ?_
 refine sI C X dmV ?_
 refine sS C X dmW ?_
 refine rI C X u hret dmX ?_
 subst hm3_1
 subst hm3_2
 subst hm3_3
 exact ⟨(congrArg (fun z => some (Value.int z)) ((if_neg h32_5).trans (if_neg h32_11)).symm), N, rfl⟩
theorem own_shl_4_3 (x1 : Int64) (h1 : x1 < oM) : (own_sh4 oM x1 oM oM) = (1 : Int32) := by
 unfold own_sh4
 rw [if_neg (own_nM (R := (own_m oM oM)) (x := (own_m oM x1)) (by decide+kernel))]
 rw [if_pos (own_ltM (R := x1) (L := oM) (by decide+kernel) h1)]
 first | done | decide
def Q_rm23_4_0 (Z : State) (a23_0 : Addr) (q23_2 : Int64) (wt : Addr) (kt : ClassId) (t0 t1 t2 t3 : Int64) (ws : Addr) (l0 l1 l2 l3 : Int64) (h0 : Heap) (n0 : Nat) (v : Option Value) (h : Heap) (L : List Loc) : Prop := v = none ∧ Fr n0 L ∧ Keep h0 h [ws] ∧ own_StK Z h0 h ∧ own_Sp4 Z h ws q23_2 l1 l2 l3
theorem rm23_4_0 (hw : own_T Z a0) (a23_0 : Addr) (q23_2 : Int64) (wt : Addr) (kt : ClassId) (t0 t1 t2 t3 : Int64) (ws : Addr) (l0 l1 l2 l3 : Int64) (h0 : Heap) (n0 : Nat) (Z0 : n0 ≤ h0.size) (F_times : Fld Z h0 a23_0 oL "times" "[J" (.ref wt)) (V_wt : Arv Z h0 wt kt .long (4 : Int32) [(.long t0), (.long t1), (.long t2), (.long t3)] oZ) (F_spans : Fld Z h0 a23_0 oL "spans" "[J" (.ref ws)) (T_ws : own_Sp4 Z h0 ws l0 l1 l2 l3) (g_ws : n0 ≤ ws) (ne_a23_0_ws : a23_0 ≠ ws) :
   own_Met l oy23 oc23 7 none (oRm 1 0 0 15) Z h0 #[(.ref a23_0), (.int 0), (.long q23_2)] (Q_rm23_4_0 Z a23_0 q23_2 wt kt t0 t1 t2 t3 ws l0 l1 l2 l3 h0 n0) := by
 refine own_go hw (plainFor_of_name pn_23) (fun m => faM m a23_0 q23_2) fun p e s m below meth c T0 C hret X u => ?_
 have N := Fr.nil n0
 refine gA C X u F_times (wb5 C.w) dgc dgd fun _ X u => ?_
 refine nA C X u V_wt dgw ?_
 refine sI C X dgE ?_
 refine sP C X dgK ?_
 refine wi C X #[oR a23_0, oI 0, oJ q23_2, oD, oI 4, oU, oU] dgQ ?_
 refine gA C X u F_spans (wcb C.w) dg1 dge fun _ X u => ?_
 refine si C X dgf ?_
 refine sL C X dgg ?_
 obtain ⟨kq3, VT3⟩ := id T_ws
 obtain ⟨m3_3, hm3_3⟩ : ∃ z : Int64, z = (own_m l2 l3) := ⟨_, rfl⟩
 rw [← hm3_3] at VT3
 obtain ⟨m3_2, hm3_2⟩ : ∃ z : Int64, z = (own_m l0 l1) := ⟨_, rfl⟩
 rw [← hm3_2] at VT3
 obtain ⟨m3_1, hm3_1⟩ : ∃ z : Int64, z = (own_m m3_2 m3_3) := ⟨_, rfl⟩
 rw [← hm3_1] at VT3
 refine sJ C X u N g_ws VT3 _ dgh fun _ h4 _ X u N W4 V4 => ?_
 have S4 := (own_StK.refl Z h0).wr W4
 have K4 : Keep h0 h4 [ws] := (Keep.refl h0 [ws]).wr W4 (Or.inl (List.mem_of_getElem? (i := 0) rfl))
 have Z4 : n0 ≤ h4.size := Nat.le_trans Z0 K4.1
 refine si C X dgi ?_
 refine sC C X dgj ?_
 refine own_Fin.st (g' := (mkF m 21 #[oR a23_0, oI 0, oJ q23_2, oD, oI 4, oU, oU] [(.int 2)])) ?_ (fun t k => XS.idiv X.here C.1 rfl (C.d dgk) rfl (by decide : ¬ ((2 : Int32) = (0 : Int32))) k)
 refine wi C X #[oR a23_0, oI 0, oJ q23_2, oD, oI 2, oU, oU] dgl ?_
 refine si C X dgm ?_
 refine bN C X dgn (by decide) ?_
 have f5 := (F_spans.other W4 (Or.inl ne_a23_0_ws))
 refine gA C X u f5 (wcb C.w) dgo dgp fun _ X u => ?_
 refine sC C X dgq ?_
 refine si C X dgr ?_
 refine sM C X dgs ?_
 refine lA C X u V4 dgt ?_
 refine gA C X u f5 (wcb C.w) dgu dgv fun _ X u => ?_
 refine sC C X dgx ?_
 refine si C X dgy ?_
 refine sM C X dgz ?_
 refine sC C X dgA ?_
 refine sP C X dgB ?_
 refine lA C X u V4 dgC ?_
 refine cS C X u (fun ws => rm1 l Z a0 C.w ws q23_2 l1 h4 n0 Z4 ) (W := 0) (wao C.w) (wcd C.w) (wcz C.w) (wco C.w) (argsL := [(.long q23_2), (.long l1)]) (lenOf paj rfl) dgD fun _ T8 _ X hQ8 => ?_
 obtain ⟨rfl, Nq8, u⟩ := hQ8
 obtain ⟨x9, hx9⟩ : ∃ z : Int64, z = (own_m q23_2 l1) := ⟨_, rfl⟩
 rw [← hx9]
 refine wl C X #[oR a23_0, oI 0, oJ q23_2, oD, oI 2, oJ x9, oD] dgF ?_
 refine gA C X u f5 (wcb C.w) dgG dgH fun _ X u => ?_
 refine si C X dgI ?_
 refine lA C X u V4 dgJ ?_
 refine sl C X dgL ?_
 refine tC C X dgM ?_
 by_cases h63_11 : m3_2 = x9
 · refine bN C X dgN ((if0 _ _).trans (teq ((lw_eq _ _).mpr h63_11)).2) ?_
   refine sG C X dgO 87 ?_
   refine rV C X u hret dg0 ?_
   subst hx9
   subst hm3_1
   subst hm3_2
   subst hm3_3
   exact ⟨rfl, (N.app Nq8), K4, S4, ⟨_, own_arv V4 (ocs rfl (ocs (congrArg Value.long (by rw [h63_11])) (ocs (congrArg Value.long h63_11.symm) (ocs rfl (ocs rfl (ocs rfl (ocs rfl (ocs rfl rfl))))))))⟩⟩
 refine bY C X dgN 69 ((if0 _ _).trans (feq (fun q => h63_11 ((lw_eq _ _).mp q))).2) ?_
 refine gA C X u f5 (wcb C.w) dgP dgR fun _ X u => ?_
 refine si C X dgS ?_
 refine sl C X dgT ?_
 refine sJ C X u (N.app Nq8) g_ws V4 _ dgU fun _ h13 _ X u N W13 V13 => ?_
 have S13 := S4.wr W13
 have K13 : Keep h0 h13 [ws] := K4.wr W13 (Or.inl (List.mem_of_getElem? (i := 0) rfl))
 have Z13 : n0 ≤ h13.size := Nat.le_trans Z0 K13.1
 refine si C X dgV ?_
 refine sC C X dgW ?_
 refine own_Fin.st (g' := (mkF m 82 #[oR a23_0, oI 0, oJ q23_2, oD, oI 2, oJ x9, oD] [(.int 1)])) ?_ (fun t k => XS.idiv X.here C.1 rfl (C.d dgX) rfl (by decide : ¬ ((2 : Int32) = (0 : Int32))) k)
 refine wi C X #[oR a23_0, oI 0, oJ q23_2, oD, oI 1, oJ x9, oD] dgY ?_
 refine sG C X dgZ 23 ?_
 refine si C X dgm ?_
 refine bN C X dgn (by decide) ?_
 have f14 := (f5.other W13 (Or.inl ne_a23_0_ws))
 refine gA C X u f14 (wcb C.w) dgo dgp fun _ X u => ?_
 refine sC C X dgq ?_
 refine si C X dgr ?_
 refine sM C X dgs ?_
 refine lA C X u V13 dgt ?_
 refine gA C X u f14 (wcb C.w) dgu dgv fun _ X u => ?_
 refine sC C X dgx ?_
 refine si C X dgy ?_
 refine sM C X dgz ?_
 refine sC C X dgA ?_
 refine sP C X dgB ?_
 refine lA C X u V13 dgC ?_
 refine cS C X u (fun ws => rm1 l Z a0 C.w ws x9 m3_3 h13 n0 Z13 ) (W := 0) (wao C.w) (wcd C.w) (wcz C.w) (wco C.w) (argsL := [(.long x9), (.long m3_3)]) (lenOf paj rfl) dgD fun _ T17 _ X hQ17 => ?_
 obtain ⟨rfl, Nq17, u⟩ := hQ17
 obtain ⟨x18, hx18⟩ : ∃ z : Int64, z = (own_m x9 m3_3) := ⟨_, rfl⟩
 rw [← hx18]
 refine wl C X #[oR a23_0, oI 0, oJ q23_2, oD, oI 1, oJ x18, oD] dgF ?_
 refine gA C X u f14 (wcb C.w) dgG dgH fun _ X u => ?_
 refine si C X dgI ?_
 refine lA C X u V13 dgJ ?_
 refine sl C X dgL ?_
 refine tC C X dgM ?_
 by_cases h63_20 : m3_1 = x18
 · refine bN C X dgN ((if0 _ _).trans (teq ((lw_eq _ _).mpr h63_20)).2) ?_
   refine sG C X dgO 87 ?_
   refine rV C X u hret dg0 ?_
   subst hx18
   subst hx9
   subst hm3_1
   subst hm3_2
   subst hm3_3
   exact ⟨rfl, (N.app Nq17), K13, S13, ⟨_, own_arv V13 (ocs rfl (ocs (congrArg Value.long h63_20.symm) (ocs rfl (ocs rfl (ocs rfl (ocs rfl (ocs rfl (ocs rfl rfl))))))))⟩⟩
 refine bY C X dgN 69 ((if0 _ _).trans (feq (fun q => h63_20 ((lw_eq _ _).mp q))).2) ?_
 refine gA C X u f14 (wcb C.w) dgP dgR fun _ X u => ?_
 refine si C X dgS ?_
 refine sl C X dgT ?_
 refine sJ C X u (N.app Nq17) g_ws V13 _ dgU fun _ h22 _ X u N W22 V22 => ?_
 have S22 := S13.wr W22
 have K22 : Keep h0 h22 [ws] := K13.wr W22 (Or.inl (List.mem_of_getElem? (i := 0) rfl))
 refine si C X dgV ?_
 refine sC C X dgW ?_
 refine own_Fin.st (g' := (mkF m 82 #[oR a23_0, oI 0, oJ q23_2, oD, oI 1, oJ x18, oD] [(.int 0)])) ?_ (fun t k => XS.idiv X.here C.1 rfl (C.d dgX) rfl (by decide : ¬ ((2 : Int32) = (0 : Int32))) k)
 refine wi C X #[oR a23_0, oI 0, oJ q23_2, oD, oI 0, oJ x18, oD] dgY ?_
 refine sG C X dgZ 23 ?_
 refine si C X dgm ?_
 refine bY C X dgn 87 (by decide) ?_
 refine rV C X u hret dg0 ?_
 subst hx18
 subst hx9
 subst hm3_1
 subst hm3_2
 subst hm3_3
 exact ⟨rfl, N, K22, S22, ⟨_, own_arv V22 (ocs rfl (ocs rfl (ocs rfl (ocs rfl (ocs rfl (ocs rfl (ocs rfl (ocs rfl rfl))))))))⟩⟩
def Q_rm34_4_3 (Z : State) (a34_0 : Addr) (rT : Addr) (rF : Addr) (rO : Addr) (rS : Addr) (rE : Addr) (rW : Addr) (kT : ClassId) (kF : ClassId) (kO : ClassId) (kW : ClassId) (fi : Int32) (en : Int32) (sz : Int32) (bs : Int64) (tm0 : Int64) (tm1 : Int64) (tm2 : Int64) (tm3 : Int64) (fr2 : Int64) (fr3 : Int64) (to0 : Int64) (to1 : Int64) (to2 : Int64) (to3 : Int64) (T : Int64) (hB : Heap) (h0 : Heap) (n0 : Nat) (v : Option Value) (h : Heap) (L : List Loc) : Prop := v = some (.int 1) ∧ Fr n0 L ∧ (((own_sh4 oM (tm1 - tm0) oM oM) = (1 : Int32) ∧ own_Obj Z h n0 a34_0 rT rF rO rS rE rW kT kF kO kW fi en (sz - (1 : Int32)) bs (1 : Int32) (1 : Int32) (2 : Int64) (4 : Int32) [(.long tm0), (.long tm1), (.long tm2), (.long tm3)] [(.long tm0), (.long tm0), (.long fr2), (.long fr3)] [(.long to0), (.long to1), (.long to2), (.long to3)] hB ∧ own_Sp4 Z h rS oM oM oM oM))
theorem rm34_4_3 (hw : own_T Z a0) (a34_0 rT rF rO rS rE rW : Addr) (kT kF kO kW : ClassId) (fi en sz : Int32) (bs tm0 tm1 tm2 tm3 fr2 fr3 to0 to1 to2 to3 T : Int64) (hB : Heap) (h0 : Heap) (n0 : Nat) (Z0 : n0 ≤ h0.size) (O : own_Obj Z h0 n0 a34_0 rT rF rO rS rE rW kT kF kO kW fi en sz bs (1 : Int32) (1 : Int32) (3 : Int64) (4 : Int32) [(.long tm0), (.long tm1), (.long tm2), (.long tm3)] [(.long tm0), (.long tm1), (.long fr2), (.long fr3)] [(.long to0), (.long to1), (.long to2), (.long to3)] hB) (SP : own_Sp4 Z h0 rS oM (tm1 - tm0) oM oM) (htm0 : own_near T tm0) (htm1 : own_near T tm1) (hsz : (1 : Int32) < sz) :
   own_Met l oy34 oc34 6 (some .boolean) (oRm 5 0 0 120) Z h0 #[(.ref a34_0)] (Q_rm34_4_3 Z a34_0 rT rF rO rS rE rW kT kF kO kW fi en sz bs tm0 tm1 tm2 tm3 fr2 fr3 to0 to1 to2 to3 T hB h0 n0) := by
 refine own_go hw (plainFor_of_name pn_34) (fun m => faT m a34_0) fun p e s m below meth c T0 C hret X u => ?_
 have N := Fr.nil n0
 refine gA C X u O.Fsize (wcI C.w) dkY dkZ fun _ X u => ?_
 refine sC C X dlN ?_
 refine cN C X dlU ((tlt hsz).2.2.2) ?_
 refine sC C X dmd ?_
 refine sG C X dmj 13 ?_
 refine wI C X #[oR a34_0, oI 1, oU, oU, oU, oU] dli ?_
 refine sI C X dlo ?_
 refine bN C X dlw (by decide) ?_
 refine sA C X dlz ?_
 refine cP C X u (rm35_4 l Z a0 C.w a34_0 rT kT tm0 tm1 tm2 tm3 rS oM (tm1 - tm0) oM oM h0 n0 O.hsz O.Ftimes O.Vt O.Fspans SP) O.Ea (W := 0) (wbD C.w) (wbE C.w) (osp5 C) (wbF C.w) (wbG C.w) (wa5 C.w) (argsL := []) (lenOf pan rfl) dlA fun _ T2 _ X hQ2 => ?_
 obtain ⟨rfl, Nq2, u⟩ := hQ2
 obtain ⟨x3, hx3⟩ : ∃ z : Int32, z = (own_sh4 oM (tm1 - tm0) oM oM) := ⟨_, rfl⟩
 rw [← hx3]
 have hdx3 : x3 = (1 : Int32) := by rw [hx3]; exact (own_shl_4_3 (tm1 - tm0) (own_nlt htm1 htm0))
 have hc4 := hdx3
 rw [hc4]
 refine wI C X #[oR a34_0, oI 1, oI 1, oU, oU, oU] dlB ?_
 refine gA C X u O.Fentries (wcB C.w) dlC dlD fun _ X u => ?_
 refine sI C X dlE ?_
 refine sC C X dlF ?_
 refine sS C X dlG ?_
 refine cV C X u (rm32_1 l Z a0 C.w rE (0 : Int32) rW kW (3 : Int64) h0 n0 O.hsz (by decide+kernel) (by decide+kernel) O.Ee O.BwordsInUse O.BsizeIsSticky O.Bwords O.Vw O.St) O.Ee (W := 0) (wbl C.w) (wbm C.w) (wbo C.w) (wbn C.w) (wbp C.w) (wcg C.w) (argsL := [(.int 0)]) (lenOf paf rfl) dlH fun _ T6 _ X hQ6 => ?_
 obtain ⟨rfl, Nq6, u⟩ := hQ6
 rw [show (own_psb (0 : Int32) (3 : Int64)) = (0 : Int32) from by decide+kernel]
 refine wI C X #[oR a34_0, oI 1, oI 1, oI 0, oU, oU] dlI ?_
 refine gA C X u O.Fentries (wcB C.w) dlJ dlK fun _ X u => ?_
 refine sI C X dlL ?_
 refine cV C X u (rm37_1 l Z a0 C.w rE (0 : Int32) rW kW (3 : Int64) h0 n0 O.hsz (by decide+kernel) (by decide+kernel) O.Ee O.BwordsInUse O.BsizeIsSticky O.Bwords O.Vw O.grW O.n_rE_rW O.grE O.St) O.Ee (W := 0) (wbL C.w) (wbM C.w) (wbP C.w) (wbO C.w) (wbQ C.w) (wcg C.w) (argsL := [(.int 0)]) (lenOf pah rfl) dlM fun _ T9 _ X hQ9 => ?_
 obtain ⟨rfl, Nq9, Kc9, Sc9, P9_0, P9_1, P9_2, P9_3, P9_4⟩ := hQ9
 rw [show ((3 : Int64) &&& (((1 : Int64) <<< ((0 : Int32) &&& 0x3f).toInt64) ^^^ (-1 : Int64))) = (2 : Int64) from by decide+kernel] at P9_0
 rw [show (if ((3 : Int64) &&& (((1 : Int64) <<< ((0 : Int32) &&& 0x3f).toInt64) ^^^ (-1 : Int64))) = (0 : Int64) then (0 : Int32) else (1 : Int32)) = (1 : Int32) from by decide+kernel] at P9_2
 have O9 := O.bits2 Kc9 Sc9 P9_1 P9_2 P9_3 P9_4 P9_0
 refine sA C X dlO ?_
 refine sD C X dlP ?_
 refine gF C X rfl O9.Fsize (wcI C.w) dlQ fun _ X u => ?_
 refine sC C X dlR ?_
 refine sS C X dlS ?_
 refine pF C X u (((N.app Nq2).app Nq6).app Nq9) O9.ga O9.Fsize O9.Ea (ty := .int) (wcI C.w) (wcJ C.w) (waU C.w) (by decide) dlT fun _ h11 _ X u N W11 F11 => ?_
 have O11 := own_Obj.put_size hw O9 W11 F11
 refine sA C X dlV ?_
 refine sI C X dlW ?_
 refine kJ C X (waf C.w) dlX ?_
 have f12 := ((SP.keep Kc9 (ninS O11.n_rS_rW (ninS O11.n_rS_rE nin0))).other W11 (Ne.symm O11.n_a_rS))
 refine cP C X u (rm23_4_0 l Z a0 C.w a34_0 oM rT kT tm0 tm1 tm2 tm3 rS oM (tm1 - tm0) oM oM h11 n0 O11.hsz O11.Ftimes O11.Vt O11.Fspans f12 O11.grS O11.n_a_rS) O11.Ea (W := 0) (waH C.w) (waI C.w) (osp1 C) (waK C.w) (waL C.w) (wa5 C.w) (argsL := [(.int 0), (.long oM)]) (lenOf pae rfl) dlY fun _ T13 _ X hQ13 => ?_
 obtain ⟨rfl, Nq13, Kc13, Sc13, P13_0⟩ := hQ13
 have O13 := O11.sp Kc13 Sc13
 refine gA C X rfl O13.Ffroms (wb7 C.w) dlZ dl0 fun _ X u => ?_
 refine sI C X dl1 ?_
 refine gA C X u O13.Ffroms (wb7 C.w) dl2 dl3 fun _ X u => ?_
 refine sI C X dl4 ?_
 refine lA C X u O13.Vf dl5 ?_
 refine sJ C X u (N.app Nq13) O13.grF O13.Vf _ dl6 fun _ h16 _ X u N W16 V16 => ?_
 have O16 := O13.setF W16 V16
 refine gA C X u O16.Fentries (wcB C.w) dl7 dl8 fun _ X u => ?_
 refine sI C X dl9 ?_
 refine sC C X dma ?_
 refine sS C X dmb ?_
 refine cV C X u (rm32_2 l Z a0 C.w rE rW kW (2 : Int64) h16 n0 O16.hsz O16.Ee O16.BwordsInUse O16.BsizeIsSticky O16.Bwords O16.Vw) O16.Ee (W := 0) (wbl C.w) (wbm C.w) (wbo C.w) (wbn C.w) (wbp C.w) (wcg C.w) (argsL := [(.int (-1 : Int32))]) (lenOf paf rfl) dmc fun _ T18 _ X hQ18 => ?_
 obtain ⟨rfl, Nq18, u⟩ := hQ18
 refine wi C X #[oR a34_0, oI 1, oI 1, oI 0, oI (-1), oU] dme ?_
 refine sA C X dmf ?_
 refine sI C X dmg ?_
 refine si C X dmh ?_
 refine bN C X dmi (by decide) ?_
 refine kJ C X (waf C.w) dmk ?_
 refine sG C X dml 111 ?_
 have f19 := (P13_0.other W16 (Ne.symm O16.n_rF_rS))
 refine cP C X u (rm23_4_1 l Z a0 C.w a34_0 oM rT kT tm0 tm1 tm2 tm3 rS oM (tm1 - tm0) oM oM h16 n0 O16.hsz O16.Ftimes O16.Vt O16.Fspans f19 O16.grS O16.n_a_rS) O16.Ea (W := 0) (waH C.w) (waI C.w) (osp1 C) (waK C.w) (waL C.w) (wa5 C.w) (argsL := [(.int 1), (.long oM)]) (lenOf pae rfl) dk7 fun _ T20 _ X hQ20 => ?_
 obtain ⟨rfl, Nq20, Kc20, Sc20, P20_0⟩ := hQ20
 have O20 := O16.sp Kc20 Sc20
 refine gA C X rfl O20.Fentries (wcB C.w) dk8 dk9 fun _ X u => ?_
 refine sI C X dla ?_
 refine sC C X dlb ?_
 refine sP C X dld ?_
 refine cV C X u (rm13_2 l Z a0 C.w rE (2 : Int32) rW kW (2 : Int64) T20.heap n0 O20.hsz (by decide+kernel) (by decide+kernel) O20.Ee O20.BwordsInUse O20.BsizeIsSticky O20.Bwords O20.Vw O20.St) O20.Ee (W := 0) (wc7 C.w) (wc8 C.w) (wda C.w) (wc9 C.w) (wdb C.w) (wcg C.w) (argsL := [(.int 2)]) (lenOf paf rfl) dle fun _ T22 _ X hQ22 => ?_
 obtain ⟨rfl, Nq22, u⟩ := hQ22
 rw [show (own_nsb (2 : Int32) (2 : Int64)) = (-1 : Int32) from by decide+kernel]
 refine wi C X #[oR a34_0, oI 1, oI 1, oI 0, oI (-1), oI (-1)] dlf ?_
 refine si C X dlg ?_
 refine bY C X dlh 151 (by decide) ?_
 refine sI C X dlx ?_
 refine rZ C X u hret dly ?_
 exact ⟨rfl, (((N.app Nq18).app Nq20).app Nq22), ⟨hx3 ▸ hc4, O20, P20_0⟩⟩
def own_sh8 (l0 : Int64) (l1 : Int64) (l2 : Int64) (l3 : Int64) (l4 : Int64) (l5 : Int64) (l6 : Int64) (l7 : Int64) : Int32 := (if (own_m (own_m l4 l5) (own_m l6 l7)) < (own_m (own_m l0 l1) (own_m l2 l3)) then (if (own_m l6 l7) < (own_m l4 l5) then (if l7 < l6 then (7 : Int32) else (6 : Int32)) else (if l5 < l4 then (5 : Int32) else (4 : Int32))) else (if (own_m l2 l3) < (own_m l0 l1) then (if l3 < l2 then (3 : Int32) else (2 : Int32)) else (if l1 < l0 then (1 : Int32) else (0 : Int32))))
def Q_rm35_8 (Z : State) (a35_0 wt : Addr) (kt : ClassId) (t0 t1 t2 t3 t4 t5 t6 t7 : Int64) (ws : Addr) (l0 l1 l2 l3 l4 l5 l6 l7 : Int64) (h0 : Heap) (n0 : Nat) (v : Option Value) (h : Heap) (L : List Loc) : Prop := v = some (.int (own_sh8 l0 l1 l2 l3 l4 l5 l6 l7)) ∧ Fr n0 L ∧ h = h0
theorem rm35_8 (hw : own_T Z a0) (a35_0 wt : Addr) (kt : ClassId) (t0 t1 t2 t3 t4 t5 t6 t7 : Int64) (ws : Addr) (l0 l1 l2 l3 l4 l5 l6 l7 : Int64) (h0 : Heap) (n0 : Nat) (Z0 : n0 ≤ h0.size) (F_times : Fld Z h0 a35_0 oL "times" "[J" (.ref wt)) (V_wt : Arv Z h0 wt kt .long (8 : Int32) [(.long t0), (.long t1), (.long t2), (.long t3), (.long t4), (.long t5), (.long t6), (.long t7)] oZ) (F_spans : Fld Z h0 a35_0 oL "spans" "[J" (.ref ws)) (T_ws : own_Sp8 Z h0 ws l0 l1 l2 l3 l4 l5 l6 l7) :
   own_Met l oy35 oc35 3 (some .int) (oRm 0 0 0 0) Z h0 #[(.ref a35_0)] (Q_rm35_8 Z a35_0 wt kt t0 t1 t2 t3 t4 t5 t6 t7 ws l0 l1 l2 l3 l4 l5 l6 l7 h0 n0) := by
 refine own_go hw (plainFor_of_name pn_35) (fun m => faU m a35_0) fun p e s m below meth c T0 C hret X u => ?_
 have N := Fr.nil n0
 refine gA C X u F_times (wb5 C.w) dmo dmp fun _ X u => ?_
 refine nA C X u V_wt dmL ?_
 refine wI C X #[oR a35_0, oI 8, oU] dmT ?_
 refine sC C X dmY ?_
 refine wI C X #[oR a35_0, oI 8, oI 1] dmZ ?_
 refine sI C X dm0 ?_
 refine sI C X dm1 ?_
 refine cN C X dmq (by decide) ?_
 refine gA C X u F_spans (wcb C.w) dmr dms fun _ X u => ?_
 refine sC C X dmt ?_
 refine sI C X dmu ?_
 refine sM C X dmv ?_
 obtain ⟨kq3, VT3⟩ := id T_ws
 obtain ⟨m3_7, hm3_7⟩ : ∃ z : Int64, z = (own_m l6 l7) := ⟨_, rfl⟩
 rw [← hm3_7] at VT3
 obtain ⟨m3_6, hm3_6⟩ : ∃ z : Int64, z = (own_m l4 l5) := ⟨_, rfl⟩
 rw [← hm3_6] at VT3
 obtain ⟨m3_5, hm3_5⟩ : ∃ z : Int64, z = (own_m l2 l3) := ⟨_, rfl⟩
 rw [← hm3_5] at VT3
 obtain ⟨m3_4, hm3_4⟩ : ∃ z : Int64, z = (own_m l0 l1) := ⟨_, rfl⟩
 rw [← hm3_4] at VT3
 obtain ⟨m3_3, hm3_3⟩ : ∃ z : Int64, z = (own_m m3_6 m3_7) := ⟨_, rfl⟩
 rw [← hm3_3] at VT3
 obtain ⟨m3_2, hm3_2⟩ : ∃ z : Int64, z = (own_m m3_4 m3_5) := ⟨_, rfl⟩
 rw [← hm3_2] at VT3
 obtain ⟨m3_1, hm3_1⟩ : ∃ z : Int64, z = (own_m m3_2 m3_3) := ⟨_, rfl⟩
 rw [← hm3_1] at VT3
 refine lA C X u VT3 dmw ?_
 refine gA C X u F_spans (wcb C.w) dmx dmy fun _ X u => ?_
 refine sC C X dmz ?_
 refine sI C X dmA ?_
 refine sM C X dmB ?_
 refine sC C X dmC ?_
 refine sP C X dmD ?_
 refine lA C X u VT3 dmE ?_
 refine tC C X dmF ?_
 by_cases h32_5 : m3_3 < m3_2
 · refine bY C X dmG 41 ((if0 _ _).trans (tlt ((lw_gt _ _).mpr h32_5)).2.2.1) ?_
   refine sC C X dmM ?_
   refine sI C X dmN ?_
   refine sM C X dmO ?_
   refine sC C X dmP ?_
   refine sP C X dmQ ?_
   refine wI C X #[oR a35_0, oI 8, oI 3] dmR ?_
   refine sG C X dmS 8 ?_
   refine sI C X dm0 ?_
   refine sI C X dm1 ?_
   refine cN C X dmq (by decide) ?_
   refine gA C X u F_spans (wcb C.w) dmr dms fun _ X u => ?_
   refine sC C X dmt ?_
   refine sI C X dmu ?_
   refine sM C X dmv ?_
   refine lA C X u VT3 dmw ?_
   refine gA C X u F_spans (wcb C.w) dmx dmy fun _ X u => ?_
   refine sC C X dmz ?_
   refine sI C X dmA ?_
   refine sM C X dmB ?_
   refine sC C X dmC ?_
   refine sP C X dmD ?_
   refine lA C X u VT3 dmE ?_
   refine tC C X dmF ?_
   by_cases h32_8 : m3_7 < m3_6
   · refine bY C X dmG 41 ((if0 _ _).trans (tlt ((lw_gt _ _).mpr h32_8)).2.2.1) ?_
     refine sC C X dmM ?_
     refine sI C X dmN ?_
     refine sM C X dmO ?_
     refine sC C X dmP ?_
     refine sP C X dmQ ?_
     refine wI C X #[oR a35_0, oI 8, oI 7] dmR ?_
     refine sG C X dmS 8 ?_
     refine sI C X dm0 ?_
     refine sI C X dm1 ?_
     refine cN C X dmq (by decide) ?_
     refine gA C X u F_spans (wcb C.w) dmr dms fun _ X u => ?_
     refine sC C X dmt ?_
     refine sI C X dmu ?_
     refine sM C X dmv ?_
     refine lA C X u VT3 dmw ?_
     refine gA C X u F_spans (wcb C.w) dmx dmy fun _ X u => ?_
     refine sC C X dmz ?_
     refine sI C X dmA ?_
     refine sM C X dmB ?_
     refine sC C X dmC ?_
     refine sP C X dmD ?_
     refine lA C X u VT3 dmE ?_
     refine tC C X dmF ?_
     by_cases h32_11 : l7 < l6
     · refine bY C X dmG 41 ((if0 _ _).trans (tlt ((lw_gt _ _).mpr h32_11)).2.2.1) ?_
       refine sC C X dmM ?_
       refine sI C X dmN ?_
       refine sM C X dmO ?_
       refine sC C X dmP ?_
       refine sP C X dmQ ?_
       refine wI C X #[oR a35_0, oI 8, oI 15] dmR ?_
       refine sG C X dmS 8 ?_
       refine sI C X dm0 ?_
       refine sI C X dm1 ?_
       refine cY C X dmq 50 (by decide) ?_
       refine sI C X dmU ?_
       refine sI C X dmV ?_
       refine sS C X dmW ?_
       refine rI C X u hret dmX ?_
       subst hm3_1
       subst hm3_2
       subst hm3_3
       subst hm3_4
       subst hm3_5
       subst hm3_6
       subst hm3_7
       exact ⟨(congrArg (fun z => some (Value.int z)) ((if_pos h32_5).trans ((if_pos h32_8).trans (if_pos h32_11))).symm), N, rfl⟩
     refine bN C X dmG ((if0 _ _).trans (flt (fun q => h32_11 ((lw_gt _ _).mp q))).2.2.1) ?_
     refine sC C X dmH ?_
     refine sI C X dmI ?_
     refine sM C X dmJ ?_
     refine sG C X dmK 46 ?_
     refine wI C X #[oR a35_0, oI 8, oI 14] dmR ?_
     refine sG C X dmS 8 ?_
     refine sI C X dm0 ?_
     refine sI C X dm1 ?_
     refine cY C X dmq 50 (by decide) ?_
     refine sI C X dmU ?_
     refine sI C X dmV ?_
     refine sS C X dmW ?_
     refine rI C X u hret dmX ?_
     subst hm3_1
     subst hm3_2
     subst hm3_3
     subst hm3_4
     subst hm3_5
     subst hm3_6
     subst hm3_7
     exact ⟨(congrArg (fun z => some (Value.int z)) ((if_pos h32_5).trans ((if_pos h32_8).trans (if_neg h32_11))).symm), N, rfl⟩
   refine bN C X dmG ((if0 _ _).trans (flt (fun q => h32_8 ((lw_gt _ _).mp q))).2.2.1) ?_
   refine sC C X dmH ?_
   refine sI C X dmI ?_
   refine sM C X dmJ ?_
   refine sG C X dmK 46 ?_
   refine wI C X #[oR a35_0, oI 8, oI 6] dmR ?_
   refine sG C X dmS 8 ?_
   refine sI C X dm0 ?_
   refine sI C X dm1 ?_
   refine cN C X dmq (by decide) ?_
   refine gA C X u F_spans (wcb C.w) dmr dms fun _ X u => ?_
   refine sC C X dmt ?_
   refine sI C X dmu ?_
   refine sM C X dmv ?_
   refine lA C X u VT3 dmw ?_
   refine gA C X u F_spans (wcb C.w) dmx dmy fun _ X u => ?_
   refine sC C X dmz ?_
   refine sI C X dmA ?_
   refine sM C X dmB ?_
   refine sC C X dmC ?_
   refine sP C X dmD ?_
   refine lA C X u VT3 dmE ?_
   refine tC C X dmF ?_
   by_cases h32_14 : l5 < l4
   · refine bY C X dmG 41 ((if0 _ _).trans (tlt ((lw_gt _ _).mpr h32_14)).2.2.1) ?_
     refine sC C X dmM ?_
     refine sI C X dmN ?_
     refine sM C X dmO ?_
     refine sC C X dmP ?_
     refine sP C X dmQ ?_
     refine wI C X #[oR a35_0, oI 8, oI 13] dmR ?_
     refine sG C X dmS 8 ?_
     refine sI C X dm0 ?_
     refine sI C X dm1 ?_
     refine cY C X dmq 50 (by decide) ?_
     refine sI C X dmU ?_
     refine sI C X dmV ?_
     refine sS C X dmW ?_
     refine rI C X u hret dmX ?_
     subst hm3_1
     subst hm3_2
     subst hm3_3
     subst hm3_4
     subst hm3_5
     subst hm3_6
     subst hm3_7
     exact ⟨(congrArg (fun z => some (Value.int z)) ((if_pos h32_5).trans ((if_neg h32_8).trans (if_pos h32_14))).symm), N, rfl⟩
   refine bN C X dmG ((if0 _ _).trans (flt (fun q => h32_14 ((lw_gt _ _).mp q))).2.2.1) ?_
   refine sC C X dmH ?_
   refine sI C X dmI ?_
   refine sM C X dmJ ?_
   refine sG C X dmK 46 ?_
   refine wI C X #[oR a35_0, oI 8, oI 12] dmR ?_
   refine sG C X dmS 8 ?_
   refine sI C X dm0 ?_
   refine sI C X dm1 ?_
   refine cY C X dmq 50 (by decide) ?_
   refine sI C X dmU ?_
   refine sI C X dmV ?_
   refine sS C X dmW ?_
   refine rI C X u hret dmX ?_
   subst hm3_1
   subst hm3_2
   subst hm3_3
   subst hm3_4
   subst hm3_5
   subst hm3_6
   subst hm3_7
   exact ⟨(congrArg (fun z => some (Value.int z)) ((if_pos h32_5).trans ((if_neg h32_8).trans (if_neg h32_14))).symm), N, rfl⟩
 refine bN C X dmG ((if0 _ _).trans (flt (fun q => h32_5 ((lw_gt _ _).mp q))).2.2.1) ?_
 refine sC C X dmH ?_
 refine sI C X dmI ?_
 refine sM C X dmJ ?_
 refine sG C X dmK 46 ?_
 refine wI C X #[oR a35_0, oI 8, oI 2] dmR ?_
 refine sG C X dmS 8 ?_
 refine sI C X dm0 ?_
 refine sI C X dm1 ?_
 refine cN C X dmq (by decide) ?_
 refine gA C X u F_spans (wcb C.w) dmr dms fun _ X u => ?_
 refine sC C X dmt ?_
 refine sI C X dmu ?_
 refine sM C X dmv ?_
 refine lA C X u VT3 dmw ?_
 refine gA C X u F_spans (wcb C.w) dmx dmy fun _ X u => ?_
 refine sC C X dmz ?_
 refine sI C X dmA ?_
 refine sM C X dmB ?_
 refine sC C X dmC ?_
 refine sP C X dmD ?_
 refine lA C X u VT3 dmE ?_
 refine tC C X dmF ?_
 by_cases h32_17 : m3_5 < m3_4
 · refine bY C X dmG 41 ((if0 _ _).trans (tlt ((lw_gt _ _).mpr h32_17)).2.2.1) ?_
   refine sC C X dmM ?_
   refine sI C X dmN ?_
   refine sM C X dmO ?_
   refine sC C X dmP ?_
   refine sP C X dmQ ?_
   refine wI C X #[oR a35_0, oI 8, oI 5] dmR ?_
   refine sG C X dmS 8 ?_
   refine sI C X dm0 ?_
   refine sI C X dm1 ?_
   refine cN C X dmq (by decide) ?_
   refine gA C X u F_spans (wcb C.w) dmr dms fun _ X u => ?_
   refine sC C X dmt ?_
   refine sI C X dmu ?_
   refine sM C X dmv ?_
   refine lA C X u VT3 dmw ?_
   refine gA C X u F_spans (wcb C.w) dmx dmy fun _ X u => ?_
   refine sC C X dmz ?_
   refine sI C X dmA ?_
   refine sM C X dmB ?_
   refine sC C X dmC ?_
   refine sP C X dmD ?_
   refine lA C X u VT3 dmE ?_
   refine tC C X dmF ?_
   by_cases h32_20 : l3 < l2
   · refine bY C X dmG 41 ((if0 _ _).trans (tlt ((lw_gt _ _).mpr h32_20)).2.2.1) ?_
     refine sC C X dmM ?_
     refine sI C X dmN ?_
     refine sM C X dmO ?_
     refine sC C X dmP ?_
     refine sP C X dmQ ?_
     refine wI C X #[oR a35_0, oI 8, oI 11] dmR ?_
     refine sG C X dmS 8 ?_
     refine sI C X dm0 ?_
     refine sI C X dm1 ?_
     refine cY C X dmq 50 (by decide) ?_
     refine sI C X dmU ?_
     refine sI C X dmV ?_
     refine sS C X dmW ?_
     refine rI C X u hret dmX ?_
     subst hm3_1
     subst hm3_2
     subst hm3_3
     subst hm3_4
     subst hm3_5
     subst hm3_6
     subst hm3_7
     exact ⟨(congrArg (fun z => some (Value.int z)) ((if_neg h32_5).trans ((if_pos h32_17).trans (if_pos h32_20))).symm), N, rfl⟩
   refine bN C X dmG ((if0 _ _).trans (flt (fun q => h32_20 ((lw_gt _ _).mp q))).2.2.1) ?_
   refine sC C X dmH ?_
   refine sI C X dmI ?_
   refine sM C X dmJ ?_
   refine sG C X dmK 46 ?_
   refine wI C X #[oR a35_0, oI 8, oI 10] dmR ?_
   refine sG C X dmS 8 ?_
   refine sI C X dm0 ?_
   refine sI C X dm1 ?_
   refine cY C X dmq 50 (by decide) ?_
   refine sI C X dmU ?_
   refine sI C X dmV ?_
   refine sS C X dmW ?_
   refine rI C X u hret dmX ?_
   subst hm3_1
   subst hm3_2
   subst hm3_3
   subst hm3_4
   subst hm3_5
   subst hm3_6
   subst hm3_7
   exact ⟨(congrArg (fun z => some (Value.int z)) ((if_neg h32_5).trans ((if_pos h32_17).trans (if_neg h32_20))).symm), N, rfl⟩
 refine bN C X dmG ((if0 _ _).trans (flt (fun q => h32_17 ((lw_gt _ _).mp q))).2.2.1) ?_
 refine sC C X dmH ?_
 refine sI C X dmI ?_
 refine sM C X dmJ ?_
 refine sG C X dmK 46 ?_
 refine wI C X #[oR a35_0, oI 8, oI 4] dmR ?_
 refine sG C X dmS 8 ?_
 refine sI C X dm0 ?_
 refine sI C X dm1 ?_
 refine cN C X dmq (by decide) ?_
 refine gA C X u F_spans (wcb C.w) dmr dms fun _ X u => ?_
 refine sC C X dmt ?_
 refine sI C X dmu ?_
 refine sM C X dmv ?_
 refine lA C X u VT3 dmw ?_
 refine gA C X u F_spans (wcb C.w) dmx dmy fun _ X u => ?_
 refine sC C X dmz ?_
 refine sI C X dmA ?_
 refine sM C X dmB ?_
 refine sC C X dmC ?_
 refine sP C X dmD ?_
 refine lA C X u VT3 dmE ?_
 refine tC C X dmF ?_
 by_cases h32_23 : l1 < l0
 · refine bY C X dmG 41 ((if0 _ _).trans (tlt ((lw_gt _ _).mpr h32_23)).2.2.1) ?_
   refine sC C X dmM ?_
   refine sI C X dmN ?_
   refine sM C X dmO ?_
   refine sC C X dmP ?_
   refine sP C X dmQ ?_
   refine wI C X #[oR a35_0, oI 8, oI 9] dmR ?_
   refine sG C X dmS 8 ?_
   refine sI C X dm0 ?_
   refine sI C X dm1 ?_
   refine cY C X dmq 50 (by decide) ?_
   refine sI C X dmU ?_
   refine sI C X dmV ?_
   refine sS C X dmW ?_
   refine rI C X u hret dmX ?_
   subst hm3_1
   subst hm3_2
   subst hm3_3
   subst hm3_4
   subst hm3_5
   subst hm3_6
   subst hm3_7
   exact ⟨(congrArg (fun z => some (Value.int z)) ((if_neg h32_5).trans ((if_neg h32_17).trans (if_pos h32_23))).symm), N, rfl⟩
 refine bN C X dmG ((if0 _ _).trans (flt (fun q => h32_23 ((lw_gt _ _).mp q))).2.2.1) ?_
 refine sC C X dmH ?_
 refine sI C X dmI ?_
 refine sM C X dmJ ?_
 refine sG C X dmK 46 ?_
 refine wI C X #[oR a35_0, oI 8, oI 8] dmR ?_
 refine sG C X dmS 8 ?_
 refine sI C X dm0 ?_
 refine sI C X dm1 ?_
 refine cY C X dmq 50 (by decide) ?_
 refine sI C X dmU ?_
 refine sI C X dmV ?_
 refine sS C X dmW ?_
 refine rI C X u hret dmX ?_
 subst hm3_1
 subst hm3_2
 subst hm3_3
 subst hm3_4
 subst hm3_5
 subst hm3_6
 subst hm3_7
 exact ⟨(congrArg (fun z => some (Value.int z)) ((if_neg h32_5).trans ((if_neg h32_17).trans (if_neg h32_23))).symm), N, rfl⟩
theorem own_shl_8_7 (x1 : Int64) (x2 : Int64) (h1 : x1 < oM) (h2 : x2 < oM) : (own_sh8 oM x1 x2 oM oM oM oM oM) = (1 : Int32) ∨ (own_sh8 oM x1 x2 oM oM oM oM oM) = (2 : Int32) := by
 unfold own_sh8
 rw [if_neg (own_nM (R := (own_m (own_m oM oM) (own_m oM oM))) (x := (own_m (own_m oM x1) (own_m x2 oM))) (by decide+kernel))]
 by_cases p2 : (own_m x2 oM) < (own_m oM x1)
 · rw [if_pos p2]
   rw [if_neg (own_nM (R := oM) (x := x2) (by decide+kernel))]
   first | done | decide
 · rw [if_neg p2]
   rw [if_pos (own_ltM (R := x1) (L := oM) (by decide+kernel) h1)]
   first | done | decide
def Q_rm23_8_0 (Z : State) (a23_0 : Addr) (q23_2 : Int64) (wt : Addr) (kt : ClassId) (t0 t1 t2 t3 t4 t5 t6 t7 : Int64) (ws : Addr) (l0 l1 l2 l3 l4 l5 l6 l7 : Int64) (h0 : Heap) (n0 : Nat) (v : Option Value) (h : Heap) (L : List Loc) : Prop := v = none ∧ Fr n0 L ∧ Keep h0 h [ws] ∧ own_StK Z h0 h ∧ own_Sp8 Z h ws q23_2 l1 l2 l3 l4 l5 l6 l7
theorem rm23_8_0 (hw : own_T Z a0) (a23_0 : Addr) (q23_2 : Int64) (wt : Addr) (kt : ClassId) (t0 t1 t2 t3 t4 t5 t6 t7 : Int64) (ws : Addr) (l0 l1 l2 l3 l4 l5 l6 l7 : Int64) (h0 : Heap) (n0 : Nat) (Z0 : n0 ≤ h0.size) (F_times : Fld Z h0 a23_0 oL "times" "[J" (.ref wt)) (V_wt : Arv Z h0 wt kt .long (8 : Int32) [(.long t0), (.long t1), (.long t2), (.long t3), (.long t4), (.long t5), (.long t6), (.long t7)] oZ) (F_spans : Fld Z h0 a23_0 oL "spans" "[J" (.ref ws)) (T_ws : own_Sp8 Z h0 ws l0 l1 l2 l3 l4 l5 l6 l7) (g_ws : n0 ≤ ws) (ne_a23_0_ws : a23_0 ≠ ws) :
   own_Met l oy23 oc23 7 none (oRm 1 0 0 15) Z h0 #[(.ref a23_0), (.int 0), (.long q23_2)] (Q_rm23_8_0 Z a23_0 q23_2 wt kt t0 t1 t2 t3 t4 t5 t6 t7 ws l0 l1 l2 l3 l4 l5 l6 l7 h0 n0) := by
 refine own_go hw (plainFor_of_name pn_23) (fun m => faM m a23_0 q23_2) fun p e s m below meth c T0 C hret X u => ?_
 have N := Fr.nil n0
 refine gA C X u F_times (wb5 C.w) dgc dgd fun _ X u => ?_
 refine nA C X u V_wt dgw ?_
 refine sI C X dgE ?_
 refine sP C X dgK ?_
 refine wi C X #[oR a23_0, oI 0, oJ q23_2, oD, oI 8, oU, oU] dgQ ?_
 refine gA C X u F_spans (wcb C.w) dg1 dge fun _ X u => ?_
 refine si C X dgf ?_
 refine sL C X dgg ?_
 obtain ⟨kq3, VT3⟩ := id T_ws
 obtain ⟨m3_7, hm3_7⟩ : ∃ z : Int64, z = (own_m l6 l7) := ⟨_, rfl⟩
 rw [← hm3_7] at VT3
 obtain ⟨m3_6, hm3_6⟩ : ∃ z : Int64, z = (own_m l4 l5) := ⟨_, rfl⟩
 rw [← hm3_6] at VT3
 obtain ⟨m3_5, hm3_5⟩ : ∃ z : Int64, z = (own_m l2 l3) := ⟨_, rfl⟩
 rw [← hm3_5] at VT3
 obtain ⟨m3_4, hm3_4⟩ : ∃ z : Int64, z = (own_m l0 l1) := ⟨_, rfl⟩
 rw [← hm3_4] at VT3
 obtain ⟨m3_3, hm3_3⟩ : ∃ z : Int64, z = (own_m m3_6 m3_7) := ⟨_, rfl⟩
 rw [← hm3_3] at VT3
 obtain ⟨m3_2, hm3_2⟩ : ∃ z : Int64, z = (own_m m3_4 m3_5) := ⟨_, rfl⟩
 rw [← hm3_2] at VT3
 obtain ⟨m3_1, hm3_1⟩ : ∃ z : Int64, z = (own_m m3_2 m3_3) := ⟨_, rfl⟩
 rw [← hm3_1] at VT3
 refine sJ C X u N g_ws VT3 _ dgh fun _ h4 _ X u N W4 V4 => ?_
 have S4 := (own_StK.refl Z h0).wr W4
 have K4 : Keep h0 h4 [ws] := (Keep.refl h0 [ws]).wr W4 (Or.inl (List.mem_of_getElem? (i := 0) rfl))
 have Z4 : n0 ≤ h4.size := Nat.le_trans Z0 K4.1
 refine si C X dgi ?_
 refine sC C X dgj ?_
 refine own_Fin.st (g' := (mkF m 21 #[oR a23_0, oI 0, oJ q23_2, oD, oI 8, oU, oU] [(.int 4)])) ?_ (fun t k => XS.idiv X.here C.1 rfl (C.d dgk) rfl (by decide : ¬ ((2 : Int32) = (0 : Int32))) k)
 refine wi C X #[oR a23_0, oI 0, oJ q23_2, oD, oI 4, oU, oU] dgl ?_
 refine si C X dgm ?_
 refine bN C X dgn (by decide) ?_
 have f5 := (F_spans.other W4 (Or.inl ne_a23_0_ws))
 refine gA C X u f5 (wcb C.w) dgo dgp fun _ X u => ?_
 refine sC C X dgq ?_
 refine si C X dgr ?_
 refine sM C X dgs ?_
 refine lA C X u V4 dgt ?_
 refine gA C X u f5 (wcb C.w) dgu dgv fun _ X u => ?_
 refine sC C X dgx ?_
 refine si C X dgy ?_
 refine sM C X dgz ?_
 refine sC C X dgA ?_
 refine sP C X dgB ?_
 refine lA C X u V4 dgC ?_
 refine cS C X u (fun ws => rm1 l Z a0 C.w ws q23_2 l1 h4 n0 Z4 ) (W := 0) (wao C.w) (wcd C.w) (wcz C.w) (wco C.w) (argsL := [(.long q23_2), (.long l1)]) (lenOf paj rfl) dgD fun _ T8 _ X hQ8 => ?_
 obtain ⟨rfl, Nq8, u⟩ := hQ8
 obtain ⟨x9, hx9⟩ : ∃ z : Int64, z = (own_m q23_2 l1) := ⟨_, rfl⟩
 rw [← hx9]
 refine wl C X #[oR a23_0, oI 0, oJ q23_2, oD, oI 4, oJ x9, oD] dgF ?_
 refine gA C X u f5 (wcb C.w) dgG dgH fun _ X u => ?_
 refine si C X dgI ?_
 refine lA C X u V4 dgJ ?_
 refine sl C X dgL ?_
 refine tC C X dgM ?_
 by_cases h63_11 : m3_4 = x9
 · refine bN C X dgN ((if0 _ _).trans (teq ((lw_eq _ _).mpr h63_11)).2) ?_
   refine sG C X dgO 87 ?_
   refine rV C X u hret dg0 ?_
   subst hx9
   subst hm3_1
   subst hm3_2
   subst hm3_3
   subst hm3_4
   subst hm3_5
   subst hm3_6
   subst hm3_7
   exact ⟨rfl, (N.app Nq8), K4, S4, ⟨_, own_arv V4 (ocs rfl (ocs (congrArg Value.long (by rw [h63_11])) (ocs (congrArg Value.long (by rw [h63_11])) (ocs rfl (ocs (congrArg Value.long h63_11.symm) (ocs rfl (ocs rfl (ocs rfl (ocs rfl (ocs rfl (ocs rfl (ocs rfl (ocs rfl (ocs rfl (ocs rfl (ocs rfl rfl))))))))))))))))⟩⟩
 refine bY C X dgN 69 ((if0 _ _).trans (feq (fun q => h63_11 ((lw_eq _ _).mp q))).2) ?_
 refine gA C X u f5 (wcb C.w) dgP dgR fun _ X u => ?_
 refine si C X dgS ?_
 refine sl C X dgT ?_
 refine sJ C X u (N.app Nq8) g_ws V4 _ dgU fun _ h13 _ X u N W13 V13 => ?_
 have S13 := S4.wr W13
 have K13 : Keep h0 h13 [ws] := K4.wr W13 (Or.inl (List.mem_of_getElem? (i := 0) rfl))
 have Z13 : n0 ≤ h13.size := Nat.le_trans Z0 K13.1
 refine si C X dgV ?_
 refine sC C X dgW ?_
 refine own_Fin.st (g' := (mkF m 82 #[oR a23_0, oI 0, oJ q23_2, oD, oI 4, oJ x9, oD] [(.int 2)])) ?_ (fun t k => XS.idiv X.here C.1 rfl (C.d dgX) rfl (by decide : ¬ ((2 : Int32) = (0 : Int32))) k)
 refine wi C X #[oR a23_0, oI 0, oJ q23_2, oD, oI 2, oJ x9, oD] dgY ?_
 refine sG C X dgZ 23 ?_
 refine si C X dgm ?_
 refine bN C X dgn (by decide) ?_
 have f14 := (f5.other W13 (Or.inl ne_a23_0_ws))
 refine gA C X u f14 (wcb C.w) dgo dgp fun _ X u => ?_
 refine sC C X dgq ?_
 refine si C X dgr ?_
 refine sM C X dgs ?_
 refine lA C X u V13 dgt ?_
 refine gA C X u f14 (wcb C.w) dgu dgv fun _ X u => ?_
 refine sC C X dgx ?_
 refine si C X dgy ?_
 refine sM C X dgz ?_
 refine sC C X dgA ?_
 refine sP C X dgB ?_
 refine lA C X u V13 dgC ?_
 refine cS C X u (fun ws => rm1 l Z a0 C.w ws x9 m3_5 h13 n0 Z13 ) (W := 0) (wao C.w) (wcd C.w) (wcz C.w) (wco C.w) (argsL := [(.long x9), (.long m3_5)]) (lenOf paj rfl) dgD fun _ T17 _ X hQ17 => ?_
 obtain ⟨rfl, Nq17, u⟩ := hQ17
 obtain ⟨x18, hx18⟩ : ∃ z : Int64, z = (own_m x9 m3_5) := ⟨_, rfl⟩
 rw [← hx18]
 refine wl C X #[oR a23_0, oI 0, oJ q23_2, oD, oI 2, oJ x18, oD] dgF ?_
 refine gA C X u f14 (wcb C.w) dgG dgH fun _ X u => ?_
 refine si C X dgI ?_
 refine lA C X u V13 dgJ ?_
 refine sl C X dgL ?_
 refine tC C X dgM ?_
 by_cases h63_20 : m3_2 = x18
 · refine bN C X dgN ((if0 _ _).trans (teq ((lw_eq _ _).mpr h63_20)).2) ?_
   refine sG C X dgO 87 ?_
   refine rV C X u hret dg0 ?_
   subst hx18
   subst hx9
   subst hm3_1
   subst hm3_2
   subst hm3_3
   subst hm3_4
   subst hm3_5
   subst hm3_6
   subst hm3_7
   exact ⟨rfl, (N.app Nq17), K13, S13, ⟨_, own_arv V13 (ocs rfl (ocs (congrArg Value.long (by rw [h63_20])) (ocs (congrArg Value.long h63_20.symm) (ocs rfl (ocs rfl (ocs rfl (ocs rfl (ocs rfl (ocs rfl (ocs rfl (ocs rfl (ocs rfl (ocs rfl (ocs rfl (ocs rfl (ocs rfl rfl))))))))))))))))⟩⟩
 refine bY C X dgN 69 ((if0 _ _).trans (feq (fun q => h63_20 ((lw_eq _ _).mp q))).2) ?_
 refine gA C X u f14 (wcb C.w) dgP dgR fun _ X u => ?_
 refine si C X dgS ?_
 refine sl C X dgT ?_
 refine sJ C X u (N.app Nq17) g_ws V13 _ dgU fun _ h22 _ X u N W22 V22 => ?_
 have S22 := S13.wr W22
 have K22 : Keep h0 h22 [ws] := K13.wr W22 (Or.inl (List.mem_of_getElem? (i := 0) rfl))
 have Z22 : n0 ≤ h22.size := Nat.le_trans Z0 K22.1
 refine si C X dgV ?_
 refine sC C X dgW ?_
 refine own_Fin.st (g' := (mkF m 82 #[oR a23_0, oI 0, oJ q23_2, oD, oI 2, oJ x18, oD] [(.int 1)])) ?_ (fun t k => XS.idiv X.here C.1 rfl (C.d dgX) rfl (by decide : ¬ ((2 : Int32) = (0 : Int32))) k)
 refine wi C X #[oR a23_0, oI 0, oJ q23_2, oD, oI 1, oJ x18, oD] dgY ?_
 refine sG C X dgZ 23 ?_
 refine si C X dgm ?_
 refine bN C X dgn (by decide) ?_
 have f23 := (f14.other W22 (Or.inl ne_a23_0_ws))
 refine gA C X u f23 (wcb C.w) dgo dgp fun _ X u => ?_
 refine sC C X dgq ?_
 refine si C X dgr ?_
 refine sM C X dgs ?_
 refine lA C X u V22 dgt ?_
 refine gA C X u f23 (wcb C.w) dgu dgv fun _ X u => ?_
 refine sC C X dgx ?_
 refine si C X dgy ?_
 refine sM C X dgz ?_
 refine sC C X dgA ?_
 refine sP C X dgB ?_
 refine lA C X u V22 dgC ?_
 refine cS C X u (fun ws => rm1 l Z a0 C.w ws x18 m3_3 h22 n0 Z22 ) (W := 0) (wao C.w) (wcd C.w) (wcz C.w) (wco C.w) (argsL := [(.long x18), (.long m3_3)]) (lenOf paj rfl) dgD fun _ T26 _ X hQ26 => ?_
 obtain ⟨rfl, Nq26, u⟩ := hQ26
 obtain ⟨x27, hx27⟩ : ∃ z : Int64, z = (own_m x18 m3_3) := ⟨_, rfl⟩
 rw [← hx27]
 refine wl C X #[oR a23_0, oI 0, oJ q23_2, oD, oI 1, oJ x27, oD] dgF ?_
 refine gA C X u f23 (wcb C.w) dgG dgH fun _ X u => ?_
 refine si C X dgI ?_
 refine lA C X u V22 dgJ ?_
 refine sl C X dgL ?_
 refine tC C X dgM ?_
 by_cases h63_29 : m3_1 = x27
 · refine bN C X dgN ((if0 _ _).trans (teq ((lw_eq _ _).mpr h63_29)).2) ?_
   refine sG C X dgO 87 ?_
   refine rV C X u hret dg0 ?_
   subst hx27
   subst hx18
   subst hx9
   subst hm3_1
   subst hm3_2
   subst hm3_3
   subst hm3_4
   subst hm3_5
   subst hm3_6
   subst hm3_7
   exact ⟨rfl, (N.app Nq26), K22, S22, ⟨_, own_arv V22 (ocs rfl (ocs (congrArg Value.long h63_29.symm) (ocs rfl (ocs rfl (ocs rfl (ocs rfl (ocs rfl (ocs rfl (ocs rfl (ocs rfl (ocs rfl (ocs rfl (ocs rfl (ocs rfl (ocs rfl (ocs rfl rfl))))))))))))))))⟩⟩
 refine bY C X dgN 69 ((if0 _ _).trans (feq (fun q => h63_29 ((lw_eq _ _).mp q))).2) ?_
 refine gA C X u f23 (wcb C.w) dgP dgR fun _ X u => ?_
 refine si C X dgS ?_
 refine sl C X dgT ?_
 refine sJ C X u (N.app Nq26) g_ws V22 _ dgU fun _ h31 _ X u N W31 V31 => ?_
 have S31 := S22.wr W31
 have K31 : Keep h0 h31 [ws] := K22.wr W31 (Or.inl (List.mem_of_getElem? (i := 0) rfl))
 refine si C X dgV ?_
 refine sC C X dgW ?_
 refine own_Fin.st (g' := (mkF m 82 #[oR a23_0, oI 0, oJ q23_2, oD, oI 1, oJ x27, oD] [(.int 0)])) ?_ (fun t k => XS.idiv X.here C.1 rfl (C.d dgX) rfl (by decide : ¬ ((2 : Int32) = (0 : Int32))) k)
 refine wi C X #[oR a23_0, oI 0, oJ q23_2, oD, oI 0, oJ x27, oD] dgY ?_
 refine sG C X dgZ 23 ?_
 refine si C X dgm ?_
 refine bY C X dgn 87 (by decide) ?_
 refine rV C X u hret dg0 ?_
 subst hx27
 subst hx18
 subst hx9
 subst hm3_1
 subst hm3_2
 subst hm3_3
 subst hm3_4
 subst hm3_5
 subst hm3_6
 subst hm3_7
 exact ⟨rfl, N, K31, S31, ⟨_, own_arv V31 (ocs rfl (ocs rfl (ocs rfl (ocs rfl (ocs rfl (ocs rfl (ocs rfl (ocs rfl (ocs rfl (ocs rfl (ocs rfl (ocs rfl (ocs rfl (ocs rfl (ocs rfl (ocs rfl rfl))))))))))))))))⟩⟩
def Q_rm23_8_1 (Z : State) (a23_0 : Addr) (q23_2 : Int64) (wt : Addr) (kt : ClassId) (t0 t1 t2 t3 t4 t5 t6 t7 : Int64) (ws : Addr) (l0 l1 l2 l3 l4 l5 l6 l7 : Int64) (h0 : Heap) (n0 : Nat) (v : Option Value) (h : Heap) (L : List Loc) : Prop := v = none ∧ Fr n0 L ∧ Keep h0 h [ws] ∧ own_StK Z h0 h ∧ own_Sp8 Z h ws l0 q23_2 l2 l3 l4 l5 l6 l7
theorem rm23_8_1 (hw : own_T Z a0) (a23_0 : Addr) (q23_2 : Int64) (wt : Addr) (kt : ClassId) (t0 t1 t2 t3 t4 t5 t6 t7 : Int64) (ws : Addr) (l0 l1 l2 l3 l4 l5 l6 l7 : Int64) (h0 : Heap) (n0 : Nat) (Z0 : n0 ≤ h0.size) (F_times : Fld Z h0 a23_0 oL "times" "[J" (.ref wt)) (V_wt : Arv Z h0 wt kt .long (8 : Int32) [(.long t0), (.long t1), (.long t2), (.long t3), (.long t4), (.long t5), (.long t6), (.long t7)] oZ) (F_spans : Fld Z h0 a23_0 oL "spans" "[J" (.ref ws)) (T_ws : own_Sp8 Z h0 ws l0 l1 l2 l3 l4 l5 l6 l7) (g_ws : n0 ≤ ws) (ne_a23_0_ws : a23_0 ≠ ws) :
   own_Met l oy23 oc23 7 none (oRm 1 0 0 15) Z h0 #[(.ref a23_0), (.int 1), (.long q23_2)] (Q_rm23_8_1 Z a23_0 q23_2 wt kt t0 t1 t2 t3 t4 t5 t6 t7 ws l0 l1 l2 l3 l4 l5 l6 l7 h0 n0) := by
 refine own_go hw (plainFor_of_name pn_23) (fun m => faN m a23_0 q23_2) fun p e s m below meth c T0 C hret X u => ?_
 have N := Fr.nil n0
 refine gA C X u F_times (wb5 C.w) dgc dgd fun _ X u => ?_
 refine nA C X u V_wt dgw ?_
 refine sI C X dgE ?_
 refine sP C X dgK ?_
 refine wi C X #[oR a23_0, oI 1, oJ q23_2, oD, oI 9, oU, oU] dgQ ?_
 refine gA C X u F_spans (wcb C.w) dg1 dge fun _ X u => ?_
 refine si C X dgf ?_
 refine sL C X dgg ?_
 obtain ⟨kq3, VT3⟩ := id T_ws
 obtain ⟨m3_7, hm3_7⟩ : ∃ z : Int64, z = (own_m l6 l7) := ⟨_, rfl⟩
 rw [← hm3_7] at VT3
 obtain ⟨m3_6, hm3_6⟩ : ∃ z : Int64, z = (own_m l4 l5) := ⟨_, rfl⟩
 rw [← hm3_6] at VT3
 obtain ⟨m3_5, hm3_5⟩ : ∃ z : Int64, z = (own_m l2 l3) := ⟨_, rfl⟩
 rw [← hm3_5] at VT3
 obtain ⟨m3_4, hm3_4⟩ : ∃ z : Int64, z = (own_m l0 l1) := ⟨_, rfl⟩
 rw [← hm3_4] at VT3
 obtain ⟨m3_3, hm3_3⟩ : ∃ z : Int64, z = (own_m m3_6 m3_7) := ⟨_, rfl⟩
 rw [← hm3_3] at VT3
 obtain ⟨m3_2, hm3_2⟩ : ∃ z : Int64, z = (own_m m3_4 m3_5) := ⟨_, rfl⟩
 rw [← hm3_2] at VT3
 obtain ⟨m3_1, hm3_1⟩ : ∃ z : Int64, z = (own_m m3_2 m3_3) := ⟨_, rfl⟩
 rw [← hm3_1] at VT3
 refine sJ C X u N g_ws VT3 _ dgh fun _ h4 _ X u N W4 V4 => ?_
 have S4 := (own_StK.refl Z h0).wr W4
 have K4 : Keep h0 h4 [ws] := (Keep.refl h0 [ws]).wr W4 (Or.inl (List.mem_of_getElem? (i := 0) rfl))
 have Z4 : n0 ≤ h4.size := Nat.le_trans Z0 K4.1
 refine si C X dgi ?_
 refine sC C X dgj ?_
 refine own_Fin.st (g' := (mkF m 21 #[oR a23_0, oI 1, oJ q23_2, oD, oI 9, oU, oU] [(.int 4)])) ?_ (fun t k => XS.idiv X.here C.1 rfl (C.d dgk) rfl (by decide : ¬ ((2 : Int32) = (0 : Int32))) k)
 refine wi C X #[oR a23_0, oI 1, oJ q23_2, oD, oI 4, oU, oU] dgl ?_
 refine si C X dgm ?_
 refine bN C X dgn (by decide) ?_
 have f5 := (F_spans.other W4 (Or.inl ne_a23_0_ws))
 refine gA C X u f5 (wcb C.w) dgo dgp fun _ X u => ?_
 refine sC C X dgq ?_
 refine si C X dgr ?_
 refine sM C X dgs ?_
 refine lA C X u V4 dgt ?_
 refine gA C X u f5 (wcb C.w) dgu dgv fun _ X u => ?_
 refine sC C X dgx ?_
 refine si C X dgy ?_
 refine sM C X dgz ?_
 refine sC C X dgA ?_
 refine sP C X dgB ?_
 refine lA C X u V4 dgC ?_
 refine cS C X u (fun ws => rm1 l Z a0 C.w ws l0 q23_2 h4 n0 Z4 ) (W := 0) (wao C.w) (wcd C.w) (wcz C.w) (wco C.w) (argsL := [(.long l0), (.long q23_2)]) (lenOf paj rfl) dgD fun _ T8 _ X hQ8 => ?_
 obtain ⟨rfl, Nq8, u⟩ := hQ8
 obtain ⟨x9, hx9⟩ : ∃ z : Int64, z = (own_m l0 q23_2) := ⟨_, rfl⟩
 rw [← hx9]
 refine wl C X #[oR a23_0, oI 1, oJ q23_2, oD, oI 4, oJ x9, oD] dgF ?_
 refine gA C X u f5 (wcb C.w) dgG dgH fun _ X u => ?_
 refine si C X dgI ?_
 refine lA C X u V4 dgJ ?_
 refine sl C X dgL ?_
 refine tC C X dgM ?_
 by_cases h63_11 : m3_4 = x9
 · refine bN C X dgN ((if0 _ _).trans (teq ((lw_eq _ _).mpr h63_11)).2) ?_
   refine sG C X dgO 87 ?_
   refine rV C X u hret dg0 ?_
   subst hx9
   subst hm3_1
   subst hm3_2
   subst hm3_3
   subst hm3_4
   subst hm3_5
   subst hm3_6
   subst hm3_7
   exact ⟨rfl, (N.app Nq8), K4, S4, ⟨_, own_arv V4 (ocs rfl (ocs (congrArg Value.long (by rw [h63_11])) (ocs (congrArg Value.long (by rw [h63_11])) (ocs rfl (ocs (congrArg Value.long h63_11.symm) (ocs rfl (ocs rfl (ocs rfl (ocs rfl (ocs rfl (ocs rfl (ocs rfl (ocs rfl (ocs rfl (ocs rfl (ocs rfl rfl))))))))))))))))⟩⟩
 refine bY C X dgN 69 ((if0 _ _).trans (feq (fun q => h63_11 ((lw_eq _ _).mp q))).2) ?_
 refine gA C X u f5 (wcb C.w) dgP dgR fun _ X u => ?_
 refine si C X dgS ?_
 refine sl C X dgT ?_
 refine sJ C X u (N.app Nq8) g_ws V4 _ dgU fun _ h13 _ X u N W13 V13 => ?_
 have S13 := S4.wr W13
 have K13 : Keep h0 h13 [ws] := K4.wr W13 (Or.inl (List.mem_of_getElem? (i := 0) rfl))
 have Z13 : n0 ≤ h13.size := Nat.le_trans Z0 K13.1
 refine si C X dgV ?_
 refine sC C X dgW ?_
 refine own_Fin.st (g' := (mkF m 82 #[oR a23_0, oI 1, oJ q23_2, oD, oI 4, oJ x9, oD] [(.int 2)])) ?_ (fun t k => XS.idiv X.here C.1 rfl (C.d dgX) rfl (by decide : ¬ ((2 : Int32) = (0 : Int32))) k)
 refine wi C X #[oR a23_0, oI 1, oJ q23_2, oD, oI 2, oJ x9, oD] dgY ?_
 refine sG C X dgZ 23 ?_
 refine si C X dgm ?_
 refine bN C X dgn (by decide) ?_
 have f14 := (f5.other W13 (Or.inl ne_a23_0_ws))
 refine gA C X u f14 (wcb C.w) dgo dgp fun _ X u => ?_
 refine sC C X dgq ?_
 refine si C X dgr ?_
 refine sM C X dgs ?_
 refine lA C X u V13 dgt ?_
 refine gA C X u f14 (wcb C.w) dgu dgv fun _ X u => ?_
 refine sC C X dgx ?_
 refine si C X dgy ?_
 refine sM C X dgz ?_
 refine sC C X dgA ?_
 refine sP C X dgB ?_
 refine lA C X u V13 dgC ?_
 refine cS C X u (fun ws => rm1 l Z a0 C.w ws x9 m3_5 h13 n0 Z13 ) (W := 0) (wao C.w) (wcd C.w) (wcz C.w) (wco C.w) (argsL := [(.long x9), (.long m3_5)]) (lenOf paj rfl) dgD fun _ T17 _ X hQ17 => ?_
 obtain ⟨rfl, Nq17, u⟩ := hQ17
 obtain ⟨x18, hx18⟩ : ∃ z : Int64, z = (own_m x9 m3_5) := ⟨_, rfl⟩
 rw [← hx18]
 refine wl C X #[oR a23_0, oI 1, oJ q23_2, oD, oI 2, oJ x18, oD] dgF ?_
 refine gA C X u f14 (wcb C.w) dgG dgH fun _ X u => ?_
 refine si C X dgI ?_
 refine lA C X u V13 dgJ ?_
 refine sl C X dgL ?_
 refine tC C X dgM ?_
 by_cases h63_20 : m3_2 = x18
 · refine bN C X dgN ((if0 _ _).trans (teq ((lw_eq _ _).mpr h63_20)).2) ?_
   refine sG C X dgO 87 ?_
   refine rV C X u hret dg0 ?_
   subst hx18
   subst hx9
   subst hm3_1
   subst hm3_2
   subst hm3_3
   subst hm3_4
   subst hm3_5
   subst hm3_6
   subst hm3_7
   exact ⟨rfl, (N.app Nq17), K13, S13, ⟨_, own_arv V13 (ocs rfl (ocs (congrArg Value.long (by rw [h63_20])) (ocs (congrArg Value.long h63_20.symm) (ocs rfl (ocs rfl (ocs rfl (ocs rfl (ocs rfl (ocs rfl (ocs rfl (ocs rfl (ocs rfl (ocs rfl (ocs rfl (ocs rfl (ocs rfl rfl))))))))))))))))⟩⟩
 refine bY C X dgN 69 ((if0 _ _).trans (feq (fun q => h63_20 ((lw_eq _ _).mp q))).2) ?_
 refine gA C X u f14 (wcb C.w) dgP dgR fun _ X u => ?_
 refine si C X dgS ?_
 refine sl C X dgT ?_
 refine sJ C X u (N.app Nq17) g_ws V13 _ dgU fun _ h22 _ X u N W22 V22 => ?_
 have S22 := S13.wr W22
 have K22 : Keep h0 h22 [ws] := K13.wr W22 (Or.inl (List.mem_of_getElem? (i := 0) rfl))
 have Z22 : n0 ≤ h22.size := Nat.le_trans Z0 K22.1
 refine si C X dgV ?_
 refine sC C X dgW ?_
 refine own_Fin.st (g' := (mkF m 82 #[oR a23_0, oI 1, oJ q23_2, oD, oI 2, oJ x18, oD] [(.int 1)])) ?_ (fun t k => XS.idiv X.here C.1 rfl (C.d dgX) rfl (by decide : ¬ ((2 : Int32) = (0 : Int32))) k)
 refine wi C X #[oR a23_0, oI 1, oJ q23_2, oD, oI 1, oJ x18, oD] dgY ?_
 refine sG C X dgZ 23 ?_
 refine si C X dgm ?_
 refine bN C X dgn (by decide) ?_
 have f23 := (f14.other W22 (Or.inl ne_a23_0_ws))
 refine gA C X u f23 (wcb C.w) dgo dgp fun _ X u => ?_
 refine sC C X dgq ?_
 refine si C X dgr ?_
 refine sM C X dgs ?_
 refine lA C X u V22 dgt ?_
 refine gA C X u f23 (wcb C.w) dgu dgv fun _ X u => ?_
 refine sC C X dgx ?_
 refine si C X dgy ?_
 refine sM C X dgz ?_
 refine sC C X dgA ?_
 refine sP C X dgB ?_
 refine lA C X u V22 dgC ?_
 refine cS C X u (fun ws => rm1 l Z a0 C.w ws x18 m3_3 h22 n0 Z22 ) (W := 0) (wao C.w) (wcd C.w) (wcz C.w) (wco C.w) (argsL := [(.long x18), (.long m3_3)]) (lenOf paj rfl) dgD fun _ T26 _ X hQ26 => ?_
 obtain ⟨rfl, Nq26, u⟩ := hQ26
 obtain ⟨x27, hx27⟩ : ∃ z : Int64, z = (own_m x18 m3_3) := ⟨_, rfl⟩
 rw [← hx27]
 refine wl C X #[oR a23_0, oI 1, oJ q23_2, oD, oI 1, oJ x27, oD] dgF ?_
 refine gA C X u f23 (wcb C.w) dgG dgH fun _ X u => ?_
 refine si C X dgI ?_
 refine lA C X u V22 dgJ ?_
 refine sl C X dgL ?_
 refine tC C X dgM ?_
 by_cases h63_29 : m3_1 = x27
 · refine bN C X dgN ((if0 _ _).trans (teq ((lw_eq _ _).mpr h63_29)).2) ?_
   refine sG C X dgO 87 ?_
   refine rV C X u hret dg0 ?_
   subst hx27
   subst hx18
   subst hx9
   subst hm3_1
   subst hm3_2
   subst hm3_3
   subst hm3_4
   subst hm3_5
   subst hm3_6
   subst hm3_7
   exact ⟨rfl, (N.app Nq26), K22, S22, ⟨_, own_arv V22 (ocs rfl (ocs (congrArg Value.long h63_29.symm) (ocs rfl (ocs rfl (ocs rfl (ocs rfl (ocs rfl (ocs rfl (ocs rfl (ocs rfl (ocs rfl (ocs rfl (ocs rfl (ocs rfl (ocs rfl (ocs rfl rfl))))))))))))))))⟩⟩
 refine bY C X dgN 69 ((if0 _ _).trans (feq (fun q => h63_29 ((lw_eq _ _).mp q))).2) ?_
 refine gA C X u f23 (wcb C.w) dgP dgR fun _ X u => ?_
 refine si C X dgS ?_
 refine sl C X dgT ?_
 refine sJ C X u (N.app Nq26) g_ws V22 _ dgU fun _ h31 _ X u N W31 V31 => ?_
 have S31 := S22.wr W31
 have K31 : Keep h0 h31 [ws] := K22.wr W31 (Or.inl (List.mem_of_getElem? (i := 0) rfl))
 refine si C X dgV ?_
 refine sC C X dgW ?_
 refine own_Fin.st (g' := (mkF m 82 #[oR a23_0, oI 1, oJ q23_2, oD, oI 1, oJ x27, oD] [(.int 0)])) ?_ (fun t k => XS.idiv X.here C.1 rfl (C.d dgX) rfl (by decide : ¬ ((2 : Int32) = (0 : Int32))) k)
 refine wi C X #[oR a23_0, oI 1, oJ q23_2, oD, oI 0, oJ x27, oD] dgY ?_
 refine sG C X dgZ 23 ?_
 refine si C X dgm ?_
 refine bY C X dgn 87 (by decide) ?_
 refine rV C X u hret dg0 ?_
 subst hx27
 subst hx18
 subst hx9
 subst hm3_1
 subst hm3_2
 subst hm3_3
 subst hm3_4
 subst hm3_5
 subst hm3_6
 subst hm3_7
 exact ⟨rfl, N, K31, S31, ⟨_, own_arv V31 (ocs rfl (ocs rfl (ocs rfl (ocs rfl (ocs rfl (ocs rfl (ocs rfl (ocs rfl (ocs rfl (ocs rfl (ocs rfl (ocs rfl (ocs rfl (ocs rfl (ocs rfl (ocs rfl rfl))))))))))))))))⟩⟩
theorem dmm : oDe oc34 97 (.aload_n 0) 1:=by decide+kernel
theorem dmn : oDe oc34 98 (.getfield 9) 3:=by decide+kernel
theorem dk0 : oDe oc34 101 (.iload_n 2) 1:=by decide+kernel
theorem dk1 : oDe oc34 102 (.laload) 1:=by decide+kernel
theorem dk2 : oDe oc34 103 (.aload_n 0) 1:=by decide+kernel
theorem dk3 : oDe oc34 104 (.getfield 15) 3:=by decide+kernel
theorem dk4 : oDe oc34 107 (.iload 4) 2:=by decide+kernel
theorem dk5 : oDe oc34 109 (.laload) 1:=by decide+kernel
theorem dk6 : oDe oc34 110 (.lsub) 1:=by decide+kernel
theorem dlj : oDe oc34 131 (.aload_n 0) 1:=by decide+kernel
theorem dlk : oDe oc34 132 (.iload 5) 2:=by decide+kernel
theorem dll : oDe oc34 134 (.aload_n 0) 1:=by decide+kernel
theorem dlm : oDe oc34 135 (.getfield 9) 3:=by decide+kernel
theorem dln : oDe oc34 138 (.iload 5) 2:=by decide+kernel
theorem dlp : oDe oc34 140 (.laload) 1:=by decide+kernel
theorem dlq : oDe oc34 141 (.aload_n 0) 1:=by decide+kernel
theorem dlr : oDe oc34 142 (.getfield 15) 3:=by decide+kernel
theorem dls : oDe oc34 145 (.iload_n 2) 1:=by decide+kernel
theorem dlt : oDe oc34 146 (.laload) 1:=by decide+kernel
theorem dlu : oDe oc34 147 (.lsub) 1:=by decide+kernel
theorem dlv : oDe oc34 148 (.invokevirtual 67) 3:=by decide+kernel
def Q_rm34_8_7 (Z : State) (a34_0 : Addr) (rT : Addr) (rF : Addr) (rO : Addr) (rS : Addr) (rE : Addr) (rW : Addr) (kT : ClassId) (kF : ClassId) (kO : ClassId) (kW : ClassId) (fi : Int32) (en : Int32) (sz : Int32) (bs : Int64) (tm0 : Int64) (tm1 : Int64) (tm2 : Int64) (tm3 : Int64) (tm4 : Int64) (tm5 : Int64) (tm6 : Int64) (tm7 : Int64) (fr3 : Int64) (fr4 : Int64) (fr5 : Int64) (fr6 : Int64) (fr7 : Int64) (to0 : Int64) (to1 : Int64) (to2 : Int64) (to3 : Int64) (to4 : Int64) (to5 : Int64) (to6 : Int64) (to7 : Int64) (T : Int64) (hB : Heap) (h0 : Heap) (n0 : Nat) (v : Option Value) (h : Heap) (L : List Loc) : Prop := v = some (.int 1) ∧ Fr n0 L ∧ (((own_sh8 oM (tm1 - tm0) (tm2 - tm1) oM oM oM oM oM) = (1 : Int32) ∧ own_Obj Z h n0 a34_0 rT rF rO rS rE rW kT kF kO kW fi en (sz - (1 : Int32)) bs (1 : Int32) (1 : Int32) (6 : Int64) (8 : Int32) [(.long tm0), (.long tm1), (.long tm2), (.long tm3), (.long tm4), (.long tm5), (.long tm6), (.long tm7)] [(.long tm0), (.long tm0), (.long tm2), (.long fr3), (.long fr4), (.long fr5), (.long fr6), (.long fr7)] [(.long to0), (.long to1), (.long to2), (.long to3), (.long to4), (.long to5), (.long to6), (.long to7)] hB ∧ own_Sp8 Z h rS oM oM (tm2 - tm0) oM oM oM oM oM) ∨ ((own_sh8 oM (tm1 - tm0) (tm2 - tm1) oM oM oM oM oM) = (2 : Int32) ∧ own_Obj Z h n0 a34_0 rT rF rO rS rE rW kT kF kO kW fi en (sz - (1 : Int32)) bs (1 : Int32) (1 : Int32) (5 : Int64) (8 : Int32) [(.long tm0), (.long tm1), (.long tm2), (.long tm3), (.long tm4), (.long tm5), (.long tm6), (.long tm7)] [(.long tm0), (.long tm1), (.long tm1), (.long fr3), (.long fr4), (.long fr5), (.long fr6), (.long fr7)] [(.long to0), (.long to1), (.long to2), (.long to3), (.long to4), (.long to5), (.long to6), (.long to7)] hB ∧ own_Sp8 Z h rS oM oM (tm2 - tm0) oM oM oM oM oM))
theorem rm34_8_7 (hw : own_T Z a0) (a34_0 rT rF rO rS rE rW : Addr) (kT kF kO kW : ClassId) (fi en sz : Int32) (bs tm0 tm1 tm2 tm3 tm4 tm5 tm6 tm7 fr3 fr4 fr5 fr6 fr7 to0 to1 to2 to3 to4 to5 to6 to7 T : Int64) (hB : Heap) (h0 : Heap) (n0 : Nat) (Z0 : n0 ≤ h0.size) (O : own_Obj Z h0 n0 a34_0 rT rF rO rS rE rW kT kF kO kW fi en sz bs (1 : Int32) (1 : Int32) (7 : Int64) (8 : Int32) [(.long tm0), (.long tm1), (.long tm2), (.long tm3), (.long tm4), (.long tm5), (.long tm6), (.long tm7)] [(.long tm0), (.long tm1), (.long tm2), (.long fr3), (.long fr4), (.long fr5), (.long fr6), (.long fr7)] [(.long to0), (.long to1), (.long to2), (.long to3), (.long to4), (.long to5), (.long to6), (.long to7)] hB) (SP : own_Sp8 Z h0 rS oM (tm1 - tm0) (tm2 - tm1) oM oM oM oM oM) (htm0 : own_near T tm0) (htm1 : own_near T tm1) (htm2 : own_near T tm2) (hsz : (1 : Int32) < sz) :
   own_Met l oy34 oc34 6 (some .boolean) (oRm 5 0 0 120) Z h0 #[(.ref a34_0)] (Q_rm34_8_7 Z a34_0 rT rF rO rS rE rW kT kF kO kW fi en sz bs tm0 tm1 tm2 tm3 tm4 tm5 tm6 tm7 fr3 fr4 fr5 fr6 fr7 to0 to1 to2 to3 to4 to5 to6 to7 T hB h0 n0) := by
 refine own_go hw (plainFor_of_name pn_34) (fun m => faT m a34_0) fun p e s m below meth c T0 C hret X u => ?_
 have N := Fr.nil n0
 refine gA C X u O.Fsize (wcI C.w) dkY dkZ fun _ X u => ?_
 refine sC C X dlN ?_
 refine cN C X dlU ((tlt hsz).2.2.2) ?_
 refine sC C X dmd ?_
 refine sG C X dmj 13 ?_
 refine wI C X #[oR a34_0, oI 1, oU, oU, oU, oU] dli ?_
 refine sI C X dlo ?_
 refine bN C X dlw (by decide) ?_
 refine sA C X dlz ?_
 refine cP C X u (rm35_8 l Z a0 C.w a34_0 rT kT tm0 tm1 tm2 tm3 tm4 tm5 tm6 tm7 rS oM (tm1 - tm0) (tm2 - tm1) oM oM oM oM oM h0 n0 O.hsz O.Ftimes O.Vt O.Fspans SP) O.Ea (W := 0) (wbD C.w) (wbE C.w) (osp5 C) (wbF C.w) (wbG C.w) (wa5 C.w) (argsL := []) (lenOf pan rfl) dlA fun _ T2 _ X hQ2 => ?_
 obtain ⟨rfl, Nq2, u⟩ := hQ2
 obtain ⟨x3, hx3⟩ : ∃ z : Int32, z = (own_sh8 oM (tm1 - tm0) (tm2 - tm1) oM oM oM oM oM) := ⟨_, rfl⟩
 rw [← hx3]
 have hdx3 : x3 = (1 : Int32) ∨ x3 = (2 : Int32) := by rw [hx3]; exact (own_shl_8_7 (tm1 - tm0) (tm2 - tm1) (own_nlt htm1 htm0) (own_nlt htm2 htm1))
 rcases hdx3 with hc4 | hc5
 · rw [hc4]
   refine wI C X #[oR a34_0, oI 1, oI 1, oU, oU, oU] dlB ?_
   refine gA C X u O.Fentries (wcB C.w) dlC dlD fun _ X u => ?_
   refine sI C X dlE ?_
   refine sC C X dlF ?_
   refine sS C X dlG ?_
   refine cV C X u (rm32_1 l Z a0 C.w rE (0 : Int32) rW kW (7 : Int64) h0 n0 O.hsz (by decide+kernel) (by decide+kernel) O.Ee O.BwordsInUse O.BsizeIsSticky O.Bwords O.Vw O.St) O.Ee (W := 0) (wbl C.w) (wbm C.w) (wbo C.w) (wbn C.w) (wbp C.w) (wcg C.w) (argsL := [(.int 0)]) (lenOf paf rfl) dlH fun _ T7 _ X hQ7 => ?_
   obtain ⟨rfl, Nq7, u⟩ := hQ7
   rw [show (own_psb (0 : Int32) (7 : Int64)) = (0 : Int32) from by decide+kernel]
   refine wI C X #[oR a34_0, oI 1, oI 1, oI 0, oU, oU] dlI ?_
   refine gA C X u O.Fentries (wcB C.w) dlJ dlK fun _ X u => ?_
   refine sI C X dlL ?_
   refine cV C X u (rm37_1 l Z a0 C.w rE (0 : Int32) rW kW (7 : Int64) h0 n0 O.hsz (by decide+kernel) (by decide+kernel) O.Ee O.BwordsInUse O.BsizeIsSticky O.Bwords O.Vw O.grW O.n_rE_rW O.grE O.St) O.Ee (W := 0) (wbL C.w) (wbM C.w) (wbP C.w) (wbO C.w) (wbQ C.w) (wcg C.w) (argsL := [(.int 0)]) (lenOf pah rfl) dlM fun _ T10 _ X hQ10 => ?_
   obtain ⟨rfl, Nq10, Kc10, Sc10, P10_0, P10_1, P10_2, P10_3, P10_4⟩ := hQ10
   rw [show ((7 : Int64) &&& (((1 : Int64) <<< ((0 : Int32) &&& 0x3f).toInt64) ^^^ (-1 : Int64))) = (6 : Int64) from by decide+kernel] at P10_0
   rw [show (if ((7 : Int64) &&& (((1 : Int64) <<< ((0 : Int32) &&& 0x3f).toInt64) ^^^ (-1 : Int64))) = (0 : Int64) then (0 : Int32) else (1 : Int32)) = (1 : Int32) from by decide+kernel] at P10_2
   have O10 := O.bits2 Kc10 Sc10 P10_1 P10_2 P10_3 P10_4 P10_0
   refine sA C X dlO ?_
   refine sD C X dlP ?_
   refine gF C X rfl O10.Fsize (wcI C.w) dlQ fun _ X u => ?_
   refine sC C X dlR ?_
   refine sS C X dlS ?_
   refine pF C X u (((N.app Nq2).app Nq7).app Nq10) O10.ga O10.Fsize O10.Ea (ty := .int) (wcI C.w) (wcJ C.w) (waU C.w) (by decide) dlT fun _ h12 _ X u N W12 F12 => ?_
   have O12 := own_Obj.put_size hw O10 W12 F12
   refine sA C X dlV ?_
   refine sI C X dlW ?_
   refine kJ C X (waf C.w) dlX ?_
   have f13 := ((SP.keep Kc10 (ninS O12.n_rS_rW (ninS O12.n_rS_rE nin0))).other W12 (Ne.symm O12.n_a_rS))
   refine cP C X u (rm23_8_0 l Z a0 C.w a34_0 oM rT kT tm0 tm1 tm2 tm3 tm4 tm5 tm6 tm7 rS oM (tm1 - tm0) (tm2 - tm1) oM oM oM oM oM h12 n0 O12.hsz O12.Ftimes O12.Vt O12.Fspans f13 O12.grS O12.n_a_rS) O12.Ea (W := 0) (waH C.w) (waI C.w) (osp1 C) (waK C.w) (waL C.w) (wa5 C.w) (argsL := [(.int 0), (.long oM)]) (lenOf pae rfl) dlY fun _ T14 _ X hQ14 => ?_
   obtain ⟨rfl, Nq14, Kc14, Sc14, P14_0⟩ := hQ14
   have O14 := O12.sp Kc14 Sc14
   refine gA C X rfl O14.Ffroms (wb7 C.w) dlZ dl0 fun _ X u => ?_
   refine sI C X dl1 ?_
   refine gA C X u O14.Ffroms (wb7 C.w) dl2 dl3 fun _ X u => ?_
   refine sI C X dl4 ?_
   refine lA C X u O14.Vf dl5 ?_
   refine sJ C X u (N.app Nq14) O14.grF O14.Vf _ dl6 fun _ h17 _ X u N W17 V17 => ?_
   have O17 := O14.setF W17 V17
   refine gA C X u O17.Fentries (wcB C.w) dl7 dl8 fun _ X u => ?_
   refine sI C X dl9 ?_
   refine sC C X dma ?_
   refine sS C X dmb ?_
   refine cV C X u (rm32_2 l Z a0 C.w rE rW kW (6 : Int64) h17 n0 O17.hsz O17.Ee O17.BwordsInUse O17.BsizeIsSticky O17.Bwords O17.Vw) O17.Ee (W := 0) (wbl C.w) (wbm C.w) (wbo C.w) (wbn C.w) (wbp C.w) (wcg C.w) (argsL := [(.int (-1 : Int32))]) (lenOf paf rfl) dmc fun _ T19 _ X hQ19 => ?_
   obtain ⟨rfl, Nq19, u⟩ := hQ19
   refine wi C X #[oR a34_0, oI 1, oI 1, oI 0, oI (-1), oU] dme ?_
   refine sA C X dmf ?_
   refine sI C X dmg ?_
   refine si C X dmh ?_
   refine bN C X dmi (by decide) ?_
   refine kJ C X (waf C.w) dmk ?_
   refine sG C X dml 111 ?_
   have f20 := (P14_0.other W17 (Ne.symm O17.n_rF_rS))
   refine cP C X u (rm23_8_1 l Z a0 C.w a34_0 oM rT kT tm0 tm1 tm2 tm3 tm4 tm5 tm6 tm7 rS oM (tm1 - tm0) (tm2 - tm1) oM oM oM oM oM h17 n0 O17.hsz O17.Ftimes O17.Vt O17.Fspans f20 O17.grS O17.n_a_rS) O17.Ea (W := 0) (waH C.w) (waI C.w) (osp1 C) (waK C.w) (waL C.w) (wa5 C.w) (argsL := [(.int 1), (.long oM)]) (lenOf pae rfl) dk7 fun _ T21 _ X hQ21 => ?_
   obtain ⟨rfl, Nq21, Kc21, Sc21, P21_0⟩ := hQ21
   have O21 := O17.sp Kc21 Sc21
   refine gA C X rfl O21.Fentries (wcB C.w) dk8 dk9 fun _ X u => ?_
   refine sI C X dla ?_
   refine sC C X dlb ?_
   refine sP C X dld ?_
   refine cV C X u (rm13_2 l Z a0 C.w rE (2 : Int32) rW kW (6 : Int64) T21.heap n0 O21.hsz (by decide+kernel) (by decide+kernel) O21.Ee O21.BwordsInUse O21.BsizeIsSticky O21.Bwords O21.Vw O21.St) O21.Ee (W := 0) (wc7 C.w) (wc8 C.w) (wda C.w) (wc9 C.w) (wdb C.w) (wcg C.w) (argsL := [(.int 2)]) (lenOf paf rfl) dle fun _ T23 _ X hQ23 => ?_
   obtain ⟨rfl, Nq23, u⟩ := hQ23
   rw [show (own_nsb (2 : Int32) (6 : Int64)) = (2 : Int32) from by decide+kernel]
   refine wi C X #[oR a34_0, oI 1, oI 1, oI 0, oI (-1), oI 2] dlf ?_
   refine si C X dlg ?_
   refine bN C X dlh (by decide) ?_
   refine sA C X dlj ?_
   refine si C X dlk ?_
   refine gA C X u O21.Ftimes (wb5 C.w) dll dlm fun _ X u => ?_
   refine si C X dln ?_
   refine lA C X u O21.Vt dlp ?_
   refine gA C X u O21.Ffroms (wb7 C.w) dlq dlr fun _ X u => ?_
   refine sI C X dls ?_
   refine lA C X u O21.Vf dlt ?_
   refine tS C X dlu ?_
   refine cP C X u (rm23_8_2 l Z a0 C.w a34_0 (tm2 - tm0) rT kT tm0 tm1 tm2 tm3 tm4 tm5 tm6 tm7 rS oM oM (tm2 - tm1) oM oM oM oM oM T21.heap n0 O21.hsz O21.Ftimes O21.Vt O21.Fspans P21_0 O21.grS O21.n_a_rS) O21.Ea (W := 0) (waH C.w) (waI C.w) (osp1 C) (waK C.w) (waL C.w) (wa5 C.w) (argsL := [(.int 2), (.long (tm2 - tm0))]) (lenOf pae rfl) dlv fun _ T27 _ X hQ27 => ?_
   obtain ⟨rfl, Nq27, Kc27, Sc27, P27_0⟩ := hQ27
   have O27 := O21.sp Kc27 Sc27
   refine sI C X dlx ?_
   refine rZ C X rfl hret dly ?_
   exact ⟨rfl, ((((N.app Nq19).app Nq21).app Nq23).app Nq27), Or.inl ⟨hx3 ▸ hc4, O27, P27_0⟩⟩
 rw [hc5]
 refine wI C X #[oR a34_0, oI 1, oI 2, oU, oU, oU] dlB ?_
 refine gA C X u O.Fentries (wcB C.w) dlC dlD fun _ X u => ?_
 refine sI C X dlE ?_
 refine sC C X dlF ?_
 refine sS C X dlG ?_
 refine cV C X u (rm32_1 l Z a0 C.w rE (1 : Int32) rW kW (7 : Int64) h0 n0 O.hsz (by decide+kernel) (by decide+kernel) O.Ee O.BwordsInUse O.BsizeIsSticky O.Bwords O.Vw O.St) O.Ee (W := 0) (wbl C.w) (wbm C.w) (wbo C.w) (wbn C.w) (wbp C.w) (wcg C.w) (argsL := [(.int 1)]) (lenOf paf rfl) dlH fun _ T29 _ X hQ29 => ?_
 obtain ⟨rfl, Nq29, u⟩ := hQ29
 rw [show (own_psb (1 : Int32) (7 : Int64)) = (1 : Int32) from by decide+kernel]
 refine wI C X #[oR a34_0, oI 1, oI 2, oI 1, oU, oU] dlI ?_
 refine gA C X u O.Fentries (wcB C.w) dlJ dlK fun _ X u => ?_
 refine sI C X dlL ?_
 refine cV C X u (rm37_1 l Z a0 C.w rE (1 : Int32) rW kW (7 : Int64) h0 n0 O.hsz (by decide+kernel) (by decide+kernel) O.Ee O.BwordsInUse O.BsizeIsSticky O.Bwords O.Vw O.grW O.n_rE_rW O.grE O.St) O.Ee (W := 0) (wbL C.w) (wbM C.w) (wbP C.w) (wbO C.w) (wbQ C.w) (wcg C.w) (argsL := [(.int 1)]) (lenOf pah rfl) dlM fun _ T32 _ X hQ32 => ?_
 obtain ⟨rfl, Nq32, Kc32, Sc32, P32_0, P32_1, P32_2, P32_3, P32_4⟩ := hQ32
 rw [show ((7 : Int64) &&& (((1 : Int64) <<< ((1 : Int32) &&& 0x3f).toInt64) ^^^ (-1 : Int64))) = (5 : Int64) from by decide+kernel] at P32_0
 rw [show (if ((7 : Int64) &&& (((1 : Int64) <<< ((1 : Int32) &&& 0x3f).toInt64) ^^^ (-1 : Int64))) = (0 : Int64) then (0 : Int32) else (1 : Int32)) = (1 : Int32) from by decide+kernel] at P32_2
 have O32 := O.bits2 Kc32 Sc32 P32_1 P32_2 P32_3 P32_4 P32_0
 refine sA C X dlO ?_
 refine sD C X dlP ?_
 refine gF C X rfl O32.Fsize (wcI C.w) dlQ fun _ X u => ?_
 refine sC C X dlR ?_
 refine sS C X dlS ?_
 refine pF C X u (((N.app Nq2).app Nq29).app Nq32) O32.ga O32.Fsize O32.Ea (ty := .int) (wcI C.w) (wcJ C.w) (waU C.w) (by decide) dlT fun _ h34 _ X u N W34 F34 => ?_
 have O34 := own_Obj.put_size hw O32 W34 F34
 refine sA C X dlV ?_
 refine sI C X dlW ?_
 refine kJ C X (waf C.w) dlX ?_
 have f35 := ((SP.keep Kc32 (ninS O34.n_rS_rW (ninS O34.n_rS_rE nin0))).other W34 (Ne.symm O34.n_a_rS))
 refine cP C X u (rm23_8_1 l Z a0 C.w a34_0 oM rT kT tm0 tm1 tm2 tm3 tm4 tm5 tm6 tm7 rS oM (tm1 - tm0) (tm2 - tm1) oM oM oM oM oM h34 n0 O34.hsz O34.Ftimes O34.Vt O34.Fspans f35 O34.grS O34.n_a_rS) O34.Ea (W := 0) (waH C.w) (waI C.w) (osp1 C) (waK C.w) (waL C.w) (wa5 C.w) (argsL := [(.int 1), (.long oM)]) (lenOf pae rfl) dlY fun _ T36 _ X hQ36 => ?_
 obtain ⟨rfl, Nq36, Kc36, Sc36, P36_0⟩ := hQ36
 have O36 := O34.sp Kc36 Sc36
 refine gA C X rfl O36.Ffroms (wb7 C.w) dlZ dl0 fun _ X u => ?_
 refine sI C X dl1 ?_
 refine gA C X u O36.Ffroms (wb7 C.w) dl2 dl3 fun _ X u => ?_
 refine sI C X dl4 ?_
 refine lA C X u O36.Vf dl5 ?_
 refine sJ C X u (N.app Nq36) O36.grF O36.Vf _ dl6 fun _ h39 _ X u N W39 V39 => ?_
 have O39 := O36.setF W39 V39
 refine gA C X u O39.Fentries (wcB C.w) dl7 dl8 fun _ X u => ?_
 refine sI C X dl9 ?_
 refine sC C X dma ?_
 refine sS C X dmb ?_
 refine cV C X u (rm32_1 l Z a0 C.w rE (0 : Int32) rW kW (5 : Int64) h39 n0 O39.hsz (by decide+kernel) (by decide+kernel) O39.Ee O39.BwordsInUse O39.BsizeIsSticky O39.Bwords O39.Vw O39.St) O39.Ee (W := 0) (wbl C.w) (wbm C.w) (wbo C.w) (wbn C.w) (wbp C.w) (wcg C.w) (argsL := [(.int 0)]) (lenOf paf rfl) dmc fun _ T41 _ X hQ41 => ?_
 obtain ⟨rfl, Nq41, u⟩ := hQ41
 rw [show (own_psb (0 : Int32) (5 : Int64)) = (0 : Int32) from by decide+kernel]
 refine wi C X #[oR a34_0, oI 1, oI 2, oI 1, oI 0, oU] dme ?_
 refine sA C X dmf ?_
 refine sI C X dmg ?_
 refine si C X dmh ?_
 refine bY C X dmi 97 (by decide) ?_
 refine gA C X u O39.Ftimes (wb5 C.w) dmm dmn fun _ X u => ?_
 refine sI C X dk0 ?_
 refine lA C X u O39.Vt dk1 ?_
 refine gA C X u O39.Ffroms (wb7 C.w) dk2 dk3 fun _ X u => ?_
 refine si C X dk4 ?_
 refine lA C X u O39.Vf dk5 ?_
 refine tS C X dk6 ?_
 have f45 := (P36_0.other W39 (Ne.symm O39.n_rF_rS))
 refine cP C X u (rm23_8_2 l Z a0 C.w a34_0 (tm2 - tm0) rT kT tm0 tm1 tm2 tm3 tm4 tm5 tm6 tm7 rS oM oM (tm2 - tm1) oM oM oM oM oM h39 n0 O39.hsz O39.Ftimes O39.Vt O39.Fspans f45 O39.grS O39.n_a_rS) O39.Ea (W := 0) (waH C.w) (waI C.w) (osp1 C) (waK C.w) (waL C.w) (wa5 C.w) (argsL := [(.int 2), (.long (tm2 - tm0))]) (lenOf pae rfl) dk7 fun _ T46 _ X hQ46 => ?_
 obtain ⟨rfl, Nq46, Kc46, Sc46, P46_0⟩ := hQ46
 have O46 := O39.sp Kc46 Sc46
 refine gA C X rfl O46.Fentries (wcB C.w) dk8 dk9 fun _ X u => ?_
 refine sI C X dla ?_
 refine sC C X dlb ?_
 refine sP C X dld ?_
 refine cV C X u (rm13_2 l Z a0 C.w rE (3 : Int32) rW kW (5 : Int64) T46.heap n0 O46.hsz (by decide+kernel) (by decide+kernel) O46.Ee O46.BwordsInUse O46.BsizeIsSticky O46.Bwords O46.Vw O46.St) O46.Ee (W := 0) (wc7 C.w) (wc8 C.w) (wda C.w) (wc9 C.w) (wdb C.w) (wcg C.w) (argsL := [(.int 3)]) (lenOf paf rfl) dle fun _ T48 _ X hQ48 => ?_
 obtain ⟨rfl, Nq48, u⟩ := hQ48
 rw [show (own_nsb (3 : Int32) (5 : Int64)) = (-1 : Int32) from by decide+kernel]
 refine wi C X #[oR a34_0, oI 1, oI 2, oI 1, oI 0, oI (-1)] dlf ?_
 refine si C X dlg ?_
 refine bY C X dlh 151 (by decide) ?_
 refine sI C X dlx ?_
 refine rZ C X u hret dly ?_
 exact ⟨rfl, (((N.app Nq41).app Nq46).app Nq48), Or.inr (⟨hx3 ▸ hc5, O46, P46_0⟩)⟩
theorem own_shl_4_7 (x1 : Int64) (x2 : Int64) (h1 : x1 < oM) (h2 : x2 < oM) : (own_sh4 oM x1 x2 oM) = (1 : Int32) ∨ (own_sh4 oM x1 x2 oM) = (2 : Int32) := by
 unfold own_sh4
 by_cases p1 : (own_m x2 oM) < (own_m oM x1)
 · rw [if_pos p1]
   rw [if_neg (own_nM (R := oM) (x := x2) (by decide+kernel))]
   first | done | decide
 · rw [if_neg p1]
   rw [if_pos (own_ltM (R := x1) (L := oM) (by decide+kernel) h1)]
   first | done | decide
def Q_rm34_4_7 (Z : State) (a34_0 : Addr) (rT : Addr) (rF : Addr) (rO : Addr) (rS : Addr) (rE : Addr) (rW : Addr) (kT : ClassId) (kF : ClassId) (kO : ClassId) (kW : ClassId) (fi : Int32) (en : Int32) (sz : Int32) (bs : Int64) (tm0 : Int64) (tm1 : Int64) (tm2 : Int64) (tm3 : Int64) (fr3 : Int64) (to0 : Int64) (to1 : Int64) (to2 : Int64) (to3 : Int64) (T : Int64) (hB : Heap) (h0 : Heap) (n0 : Nat) (v : Option Value) (h : Heap) (L : List Loc) : Prop := v = some (.int 1) ∧ Fr n0 L ∧ (((own_sh4 oM (tm1 - tm0) (tm2 - tm1) oM) = (1 : Int32) ∧ own_Obj Z h n0 a34_0 rT rF rO rS rE rW kT kF kO kW fi en (sz - (1 : Int32)) bs (1 : Int32) (1 : Int32) (6 : Int64) (4 : Int32) [(.long tm0), (.long tm1), (.long tm2), (.long tm3)] [(.long tm0), (.long tm0), (.long tm2), (.long fr3)] [(.long to0), (.long to1), (.long to2), (.long to3)] hB ∧ own_Sp4 Z h rS oM oM (tm2 - tm0) oM) ∨ ((own_sh4 oM (tm1 - tm0) (tm2 - tm1) oM) = (2 : Int32) ∧ own_Obj Z h n0 a34_0 rT rF rO rS rE rW kT kF kO kW fi en (sz - (1 : Int32)) bs (1 : Int32) (1 : Int32) (5 : Int64) (4 : Int32) [(.long tm0), (.long tm1), (.long tm2), (.long tm3)] [(.long tm0), (.long tm1), (.long tm1), (.long fr3)] [(.long to0), (.long to1), (.long to2), (.long to3)] hB ∧ own_Sp4 Z h rS oM oM (tm2 - tm0) oM))
theorem rm34_4_7 (hw : own_T Z a0) (a34_0 rT rF rO rS rE rW : Addr) (kT kF kO kW : ClassId) (fi en sz : Int32) (bs tm0 tm1 tm2 tm3 fr3 to0 to1 to2 to3 T : Int64) (hB : Heap) (h0 : Heap) (n0 : Nat) (Z0 : n0 ≤ h0.size) (O : own_Obj Z h0 n0 a34_0 rT rF rO rS rE rW kT kF kO kW fi en sz bs (1 : Int32) (1 : Int32) (7 : Int64) (4 : Int32) [(.long tm0), (.long tm1), (.long tm2), (.long tm3)] [(.long tm0), (.long tm1), (.long tm2), (.long fr3)] [(.long to0), (.long to1), (.long to2), (.long to3)] hB) (SP : own_Sp4 Z h0 rS oM (tm1 - tm0) (tm2 - tm1) oM) (htm0 : own_near T tm0) (htm1 : own_near T tm1) (htm2 : own_near T tm2) (hsz : (1 : Int32) < sz) :
   own_Met l oy34 oc34 6 (some .boolean) (oRm 5 0 0 120) Z h0 #[(.ref a34_0)] (Q_rm34_4_7 Z a34_0 rT rF rO rS rE rW kT kF kO kW fi en sz bs tm0 tm1 tm2 tm3 fr3 to0 to1 to2 to3 T hB h0 n0) := by
 refine own_go hw (plainFor_of_name pn_34) (fun m => faT m a34_0) fun p e s m below meth c T0 C hret X u => ?_
 have N := Fr.nil n0
 refine gA C X u O.Fsize (wcI C.w) dkY dkZ fun _ X u => ?_
 refine sC C X dlN ?_
 refine cN C X dlU ((tlt hsz).2.2.2) ?_
 refine sC C X dmd ?_
 refine sG C X dmj 13 ?_
 refine wI C X #[oR a34_0, oI 1, oU, oU, oU, oU] dli ?_
 refine sI C X dlo ?_
 refine bN C X dlw (by decide) ?_
 refine sA C X dlz ?_
 refine cP C X u (rm35_4 l Z a0 C.w a34_0 rT kT tm0 tm1 tm2 tm3 rS oM (tm1 - tm0) (tm2 - tm1) oM h0 n0 O.hsz O.Ftimes O.Vt O.Fspans SP) O.Ea (W := 0) (wbD C.w) (wbE C.w) (osp5 C) (wbF C.w) (wbG C.w) (wa5 C.w) (argsL := []) (lenOf pan rfl) dlA fun _ T2 _ X hQ2 => ?_
 obtain ⟨rfl, Nq2, u⟩ := hQ2
 obtain ⟨x3, hx3⟩ : ∃ z : Int32, z = (own_sh4 oM (tm1 - tm0) (tm2 - tm1) oM) := ⟨_, rfl⟩
 rw [← hx3]
 have hdx3 : x3 = (1 : Int32) ∨ x3 = (2 : Int32) := by rw [hx3]; exact (own_shl_4_7 (tm1 - tm0) (tm2 - tm1) (own_nlt htm1 htm0) (own_nlt htm2 htm1))
 rcases hdx3 with hc4 | hc5
 · rw [hc4]
   refine wI C X #[oR a34_0, oI 1, oI 1, oU, oU, oU] dlB ?_
   refine gA C X u O.Fentries (wcB C.w) dlC dlD fun _ X u => ?_
   refine sI C X dlE ?_
   refine sC C X dlF ?_
   refine sS C X dlG ?_
   refine cV C X u (rm32_1 l Z a0 C.w rE (0 : Int32) rW kW (7 : Int64) h0 n0 O.hsz (by decide+kernel) (by decide+kernel) O.Ee O.BwordsInUse O.BsizeIsSticky O.Bwords O.Vw O.St) O.Ee (W := 0) (wbl C.w) (wbm C.w) (wbo C.w) (wbn C.w) (wbp C.w) (wcg C.w) (argsL := [(.int 0)]) (lenOf paf rfl) dlH fun _ T7 _ X hQ7 => ?_
   obtain ⟨rfl, Nq7, u⟩ := hQ7
   rw [show (own_psb (0 : Int32) (7 : Int64)) = (0 : Int32) from by decide+kernel]
   refine wI C X #[oR a34_0, oI 1, oI 1, oI 0, oU, oU] dlI ?_
   refine gA C X u O.Fentries (wcB C.w) dlJ dlK fun _ X u => ?_
   refine sI C X dlL ?_
   refine cV C X u (rm37_1 l Z a0 C.w rE (0 : Int32) rW kW (7 : Int64) h0 n0 O.hsz (by decide+kernel) (by decide+kernel) O.Ee O.BwordsInUse O.BsizeIsSticky O.Bwords O.Vw O.grW O.n_rE_rW O.grE O.St) O.Ee (W := 0) (wbL C.w) (wbM C.w) (wbP C.w) (wbO C.w) (wbQ C.w) (wcg C.w) (argsL := [(.int 0)]) (lenOf pah rfl) dlM fun _ T10 _ X hQ10 => ?_
   obtain ⟨rfl, Nq10, Kc10, Sc10, P10_0, P10_1, P10_2, P10_3, P10_4⟩ := hQ10
   rw [show ((7 : Int64) &&& (((1 : Int64) <<< ((0 : Int32) &&& 0x3f).toInt64) ^^^ (-1 : Int64))) = (6 : Int64) from by decide+kernel] at P10_0
   rw [show (if ((7 : Int64) &&& (((1 : Int64) <<< ((0 : Int32) &&& 0x3f).toInt64) ^^^ (-1 : Int64))) = (0 : Int64) then (0 : Int32) else (1 : Int32)) = (1 : Int32) from by decide+kernel] at P10_2
   have O10 := O.bits2 Kc10 Sc10 P10_1 P10_2 P10_3 P10_4 P10_0
   refine sA C X dlO ?_
   refine sD C X dlP ?_
   refine gF C X rfl O10.Fsize (wcI C.w) dlQ fun _ X u => ?_
   refine sC C X dlR ?_
   refine sS C X dlS ?_
   refine pF C X u (((N.app Nq2).app Nq7).app Nq10) O10.ga O10.Fsize O10.Ea (ty := .int) (wcI C.w) (wcJ C.w) (waU C.w) (by decide) dlT fun _ h12 _ X u N W12 F12 => ?_
   have O12 := own_Obj.put_size hw O10 W12 F12
   refine sA C X dlV ?_
   refine sI C X dlW ?_
   refine kJ C X (waf C.w) dlX ?_
   have f13 := ((SP.keep Kc10 (ninS O12.n_rS_rW (ninS O12.n_rS_rE nin0))).other W12 (Ne.symm O12.n_a_rS))
   refine cP C X u (rm23_4_0 l Z a0 C.w a34_0 oM rT kT tm0 tm1 tm2 tm3 rS oM (tm1 - tm0) (tm2 - tm1) oM h12 n0 O12.hsz O12.Ftimes O12.Vt O12.Fspans f13 O12.grS O12.n_a_rS) O12.Ea (W := 0) (waH C.w) (waI C.w) (osp1 C) (waK C.w) (waL C.w) (wa5 C.w) (argsL := [(.int 0), (.long oM)]) (lenOf pae rfl) dlY fun _ T14 _ X hQ14 => ?_
   obtain ⟨rfl, Nq14, Kc14, Sc14, P14_0⟩ := hQ14
   have O14 := O12.sp Kc14 Sc14
   refine gA C X rfl O14.Ffroms (wb7 C.w) dlZ dl0 fun _ X u => ?_
   refine sI C X dl1 ?_
   refine gA C X u O14.Ffroms (wb7 C.w) dl2 dl3 fun _ X u => ?_
   refine sI C X dl4 ?_
   refine lA C X u O14.Vf dl5 ?_
   refine sJ C X u (N.app Nq14) O14.grF O14.Vf _ dl6 fun _ h17 _ X u N W17 V17 => ?_
   have O17 := O14.setF W17 V17
   refine gA C X u O17.Fentries (wcB C.w) dl7 dl8 fun _ X u => ?_
   refine sI C X dl9 ?_
   refine sC C X dma ?_
   refine sS C X dmb ?_
   refine cV C X u (rm32_2 l Z a0 C.w rE rW kW (6 : Int64) h17 n0 O17.hsz O17.Ee O17.BwordsInUse O17.BsizeIsSticky O17.Bwords O17.Vw) O17.Ee (W := 0) (wbl C.w) (wbm C.w) (wbo C.w) (wbn C.w) (wbp C.w) (wcg C.w) (argsL := [(.int (-1 : Int32))]) (lenOf paf rfl) dmc fun _ T19 _ X hQ19 => ?_
   obtain ⟨rfl, Nq19, u⟩ := hQ19
   refine wi C X #[oR a34_0, oI 1, oI 1, oI 0, oI (-1), oU] dme ?_
   refine sA C X dmf ?_
   refine sI C X dmg ?_
   refine si C X dmh ?_
   refine bN C X dmi (by decide) ?_
   refine kJ C X (waf C.w) dmk ?_
   refine sG C X dml 111 ?_
   have f20 := (P14_0.other W17 (Ne.symm O17.n_rF_rS))
   refine cP C X u (rm23_4_1 l Z a0 C.w a34_0 oM rT kT tm0 tm1 tm2 tm3 rS oM (tm1 - tm0) (tm2 - tm1) oM h17 n0 O17.hsz O17.Ftimes O17.Vt O17.Fspans f20 O17.grS O17.n_a_rS) O17.Ea (W := 0) (waH C.w) (waI C.w) (osp1 C) (waK C.w) (waL C.w) (wa5 C.w) (argsL := [(.int 1), (.long oM)]) (lenOf pae rfl) dk7 fun _ T21 _ X hQ21 => ?_
   obtain ⟨rfl, Nq21, Kc21, Sc21, P21_0⟩ := hQ21
   have O21 := O17.sp Kc21 Sc21
   refine gA C X rfl O21.Fentries (wcB C.w) dk8 dk9 fun _ X u => ?_
   refine sI C X dla ?_
   refine sC C X dlb ?_
   refine sP C X dld ?_
   refine cV C X u (rm13_2 l Z a0 C.w rE (2 : Int32) rW kW (6 : Int64) T21.heap n0 O21.hsz (by decide+kernel) (by decide+kernel) O21.Ee O21.BwordsInUse O21.BsizeIsSticky O21.Bwords O21.Vw O21.St) O21.Ee (W := 0) (wc7 C.w) (wc8 C.w) (wda C.w) (wc9 C.w) (wdb C.w) (wcg C.w) (argsL := [(.int 2)]) (lenOf paf rfl) dle fun _ T23 _ X hQ23 => ?_
   obtain ⟨rfl, Nq23, u⟩ := hQ23
   rw [show (own_nsb (2 : Int32) (6 : Int64)) = (2 : Int32) from by decide+kernel]
   refine wi C X #[oR a34_0, oI 1, oI 1, oI 0, oI (-1), oI 2] dlf ?_
   refine si C X dlg ?_
   refine bN C X dlh (by decide) ?_
   refine sA C X dlj ?_
   refine si C X dlk ?_
   refine gA C X u O21.Ftimes (wb5 C.w) dll dlm fun _ X u => ?_
   refine si C X dln ?_
   refine lA C X u O21.Vt dlp ?_
   refine gA C X u O21.Ffroms (wb7 C.w) dlq dlr fun _ X u => ?_
   refine sI C X dls ?_
   refine lA C X u O21.Vf dlt ?_
   refine tS C X dlu ?_
   refine cP C X u (rm23_4_2 l Z a0 C.w a34_0 (tm2 - tm0) rT kT tm0 tm1 tm2 tm3 rS oM oM (tm2 - tm1) oM T21.heap n0 O21.hsz O21.Ftimes O21.Vt O21.Fspans P21_0 O21.grS O21.n_a_rS) O21.Ea (W := 0) (waH C.w) (waI C.w) (osp1 C) (waK C.w) (waL C.w) (wa5 C.w) (argsL := [(.int 2), (.long (tm2 - tm0))]) (lenOf pae rfl) dlv fun _ T27 _ X hQ27 => ?_
   obtain ⟨rfl, Nq27, Kc27, Sc27, P27_0⟩ := hQ27
   have O27 := O21.sp Kc27 Sc27
   refine sI C X dlx ?_
   refine rZ C X rfl hret dly ?_
   exact ⟨rfl, ((((N.app Nq19).app Nq21).app Nq23).app Nq27), Or.inl ⟨hx3 ▸ hc4, O27, P27_0⟩⟩
 rw [hc5]
 refine wI C X #[oR a34_0, oI 1, oI 2, oU, oU, oU] dlB ?_
 refine gA C X u O.Fentries (wcB C.w) dlC dlD fun _ X u => ?_
 refine sI C X dlE ?_
 refine sC C X dlF ?_
 refine sS C X dlG ?_
 refine cV C X u (rm32_1 l Z a0 C.w rE (1 : Int32) rW kW (7 : Int64) h0 n0 O.hsz (by decide+kernel) (by decide+kernel) O.Ee O.BwordsInUse O.BsizeIsSticky O.Bwords O.Vw O.St) O.Ee (W := 0) (wbl C.w) (wbm C.w) (wbo C.w) (wbn C.w) (wbp C.w) (wcg C.w) (argsL := [(.int 1)]) (lenOf paf rfl) dlH fun _ T29 _ X hQ29 => ?_
 obtain ⟨rfl, Nq29, u⟩ := hQ29
 rw [show (own_psb (1 : Int32) (7 : Int64)) = (1 : Int32) from by decide+kernel]
 refine wI C X #[oR a34_0, oI 1, oI 2, oI 1, oU, oU] dlI ?_
 refine gA C X u O.Fentries (wcB C.w) dlJ dlK fun _ X u => ?_
 refine sI C X dlL ?_
 refine cV C X u (rm37_1 l Z a0 C.w rE (1 : Int32) rW kW (7 : Int64) h0 n0 O.hsz (by decide+kernel) (by decide+kernel) O.Ee O.BwordsInUse O.BsizeIsSticky O.Bwords O.Vw O.grW O.n_rE_rW O.grE O.St) O.Ee (W := 0) (wbL C.w) (wbM C.w) (wbP C.w) (wbO C.w) (wbQ C.w) (wcg C.w) (argsL := [(.int 1)]) (lenOf pah rfl) dlM fun _ T32 _ X hQ32 => ?_
 obtain ⟨rfl, Nq32, Kc32, Sc32, P32_0, P32_1, P32_2, P32_3, P32_4⟩ := hQ32
 rw [show ((7 : Int64) &&& (((1 : Int64) <<< ((1 : Int32) &&& 0x3f).toInt64) ^^^ (-1 : Int64))) = (5 : Int64) from by decide+kernel] at P32_0
 rw [show (if ((7 : Int64) &&& (((1 : Int64) <<< ((1 : Int32) &&& 0x3f).toInt64) ^^^ (-1 : Int64))) = (0 : Int64) then (0 : Int32) else (1 : Int32)) = (1 : Int32) from by decide+kernel] at P32_2
 have O32 := O.bits2 Kc32 Sc32 P32_1 P32_2 P32_3 P32_4 P32_0
 refine sA C X dlO ?_
 refine sD C X dlP ?_
 refine gF C X rfl O32.Fsize (wcI C.w) dlQ fun _ X u => ?_
 refine sC C X dlR ?_
 refine sS C X dlS ?_
 refine pF C X u (((N.app Nq2).app Nq29).app Nq32) O32.ga O32.Fsize O32.Ea (ty := .int) (wcI C.w) (wcJ C.w) (waU C.w) (by decide) dlT fun _ h34 _ X u N W34 F34 => ?_
 have O34 := own_Obj.put_size hw O32 W34 F34
 refine sA C X dlV ?_
 refine sI C X dlW ?_
 refine kJ C X (waf C.w) dlX ?_
 have f35 := ((SP.keep Kc32 (ninS O34.n_rS_rW (ninS O34.n_rS_rE nin0))).other W34 (Ne.symm O34.n_a_rS))
 refine cP C X u (rm23_4_1 l Z a0 C.w a34_0 oM rT kT tm0 tm1 tm2 tm3 rS oM (tm1 - tm0) (tm2 - tm1) oM h34 n0 O34.hsz O34.Ftimes O34.Vt O34.Fspans f35 O34.grS O34.n_a_rS) O34.Ea (W := 0) (waH C.w) (waI C.w) (osp1 C) (waK C.w) (waL C.w) (wa5 C.w) (argsL := [(.int 1), (.long oM)]) (lenOf pae rfl) dlY fun _ T36 _ X hQ36 => ?_
 obtain ⟨rfl, Nq36, Kc36, Sc36, P36_0⟩ := hQ36
 have O36 := O34.sp Kc36 Sc36
 refine gA C X rfl O36.Ffroms (wb7 C.w) dlZ dl0 fun _ X u => ?_
 refine sI C X dl1 ?_
 refine gA C X u O36.Ffroms (wb7 C.w) dl2 dl3 fun _ X u => ?_
 refine sI C X dl4 ?_
 refine lA C X u O36.Vf dl5 ?_
 refine sJ C X u (N.app Nq36) O36.grF O36.Vf _ dl6 fun _ h39 _ X u N W39 V39 => ?_
 have O39 := O36.setF W39 V39
 refine gA C X u O39.Fentries (wcB C.w) dl7 dl8 fun _ X u => ?_
 refine sI C X dl9 ?_
 refine sC C X dma ?_
 refine sS C X dmb ?_
 refine cV C X u (rm32_1 l Z a0 C.w rE (0 : Int32) rW kW (5 : Int64) h39 n0 O39.hsz (by decide+kernel) (by decide+kernel) O39.Ee O39.BwordsInUse O39.BsizeIsSticky O39.Bwords O39.Vw O39.St) O39.Ee (W := 0) (wbl C.w) (wbm C.w) (wbo C.w) (wbn C.w) (wbp C.w) (wcg C.w) (argsL := [(.int 0)]) (lenOf paf rfl) dmc fun _ T41 _ X hQ41 => ?_
 obtain ⟨rfl, Nq41, u⟩ := hQ41
 rw [show (own_psb (0 : Int32) (5 : Int64)) = (0 : Int32) from by decide+kernel]
 refine wi C X #[oR a34_0, oI 1, oI 2, oI 1, oI 0, oU] dme ?_
 refine sA C X dmf ?_
 refine sI C X dmg ?_
 refine si C X dmh ?_
 refine bY C X dmi 97 (by decide) ?_
 refine gA C X u O39.Ftimes (wb5 C.w) dmm dmn fun _ X u => ?_
 refine sI C X dk0 ?_
 refine lA C X u O39.Vt dk1 ?_
 refine gA C X u O39.Ffroms (wb7 C.w) dk2 dk3 fun _ X u => ?_
 refine si C X dk4 ?_
 refine lA C X u O39.Vf dk5 ?_
 refine tS C X dk6 ?_
 have f45 := (P36_0.other W39 (Ne.symm O39.n_rF_rS))
 refine cP C X u (rm23_4_2 l Z a0 C.w a34_0 (tm2 - tm0) rT kT tm0 tm1 tm2 tm3 rS oM oM (tm2 - tm1) oM h39 n0 O39.hsz O39.Ftimes O39.Vt O39.Fspans f45 O39.grS O39.n_a_rS) O39.Ea (W := 0) (waH C.w) (waI C.w) (osp1 C) (waK C.w) (waL C.w) (wa5 C.w) (argsL := [(.int 2), (.long (tm2 - tm0))]) (lenOf pae rfl) dk7 fun _ T46 _ X hQ46 => ?_
 obtain ⟨rfl, Nq46, Kc46, Sc46, P46_0⟩ := hQ46
 have O46 := O39.sp Kc46 Sc46
 refine gA C X rfl O46.Fentries (wcB C.w) dk8 dk9 fun _ X u => ?_
 refine sI C X dla ?_
 refine sC C X dlb ?_
 refine sP C X dld ?_
 refine cV C X u (rm13_2 l Z a0 C.w rE (3 : Int32) rW kW (5 : Int64) T46.heap n0 O46.hsz (by decide+kernel) (by decide+kernel) O46.Ee O46.BwordsInUse O46.BsizeIsSticky O46.Bwords O46.Vw O46.St) O46.Ee (W := 0) (wc7 C.w) (wc8 C.w) (wda C.w) (wc9 C.w) (wdb C.w) (wcg C.w) (argsL := [(.int 3)]) (lenOf paf rfl) dle fun _ T48 _ X hQ48 => ?_
 obtain ⟨rfl, Nq48, u⟩ := hQ48
 rw [show (own_nsb (3 : Int32) (5 : Int64)) = (-1 : Int32) from by decide+kernel]
 refine wi C X #[oR a34_0, oI 1, oI 2, oI 1, oI 0, oI (-1)] dlf ?_
 refine si C X dlg ?_
 refine bY C X dlh 151 (by decide) ?_
 refine sI C X dlx ?_
 refine rZ C X u hret dly ?_
 exact ⟨rfl, (((N.app Nq41).app Nq46).app Nq48), Or.inr (⟨hx3 ▸ hc5, O46, P46_0⟩)⟩
theorem own_shl_8_15 (x1 : Int64) (x2 : Int64) (x3 : Int64) (h1 : x1 < oM) (h2 : x2 < oM) (h3 : x3 < oM) : (own_sh8 oM x1 x2 x3 oM oM oM oM) = (1 : Int32) ∨ (own_sh8 oM x1 x2 x3 oM oM oM oM) = (2 : Int32) ∨ (own_sh8 oM x1 x2 x3 oM oM oM oM) = (3 : Int32) := by
 unfold own_sh8
 rw [if_neg (own_nM (R := (own_m (own_m oM oM) (own_m oM oM))) (x := (own_m (own_m oM x1) (own_m x2 x3))) (by decide+kernel))]
 by_cases p2 : (own_m x2 x3) < (own_m oM x1)
 · rw [if_pos p2]
   by_cases p5 : x3 < x2
   · rw [if_pos p5]
     first | done | decide
   · rw [if_neg p5]
     first | done | decide
 · rw [if_neg p2]
   rw [if_pos (own_ltM (R := x1) (L := oM) (by decide+kernel) h1)]
   first | done | decide
def Q_rm34_8_15 (Z : State) (a34_0 : Addr) (rT : Addr) (rF : Addr) (rO : Addr) (rS : Addr) (rE : Addr) (rW : Addr) (kT : ClassId) (kF : ClassId) (kO : ClassId) (kW : ClassId) (fi : Int32) (en : Int32) (sz : Int32) (bs : Int64) (tm0 : Int64) (tm1 : Int64) (tm2 : Int64) (tm3 : Int64) (tm4 : Int64) (tm5 : Int64) (tm6 : Int64) (tm7 : Int64) (fr4 : Int64) (fr5 : Int64) (fr6 : Int64) (fr7 : Int64) (to0 : Int64) (to1 : Int64) (to2 : Int64) (to3 : Int64) (to4 : Int64) (to5 : Int64) (to6 : Int64) (to7 : Int64) (T : Int64) (hB : Heap) (h0 : Heap) (n0 : Nat) (v : Option Value) (h : Heap) (L : List Loc) : Prop := v = some (.int 1) ∧ Fr n0 L ∧ (((own_sh8 oM (tm1 - tm0) (tm2 - tm1) (tm3 - tm2) oM oM oM oM) = (1 : Int32) ∧ own_Obj Z h n0 a34_0 rT rF rO rS rE rW kT kF kO kW fi en (sz - (1 : Int32)) bs (1 : Int32) (1 : Int32) (14 : Int64) (8 : Int32) [(.long tm0), (.long tm1), (.long tm2), (.long tm3), (.long tm4), (.long tm5), (.long tm6), (.long tm7)] [(.long tm0), (.long tm0), (.long tm2), (.long tm3), (.long fr4), (.long fr5), (.long fr6), (.long fr7)] [(.long to0), (.long to1), (.long to2), (.long to3), (.long to4), (.long to5), (.long to6), (.long to7)] hB ∧ own_Sp8 Z h rS oM oM (tm2 - tm0) (tm3 - tm2) oM oM oM oM) ∨ ((own_sh8 oM (tm1 - tm0) (tm2 - tm1) (tm3 - tm2) oM oM oM oM) = (2 : Int32) ∧ own_Obj Z h n0 a34_0 rT rF rO rS rE rW kT kF kO kW fi en (sz - (1 : Int32)) bs (1 : Int32) (1 : Int32) (13 : Int64) (8 : Int32) [(.long tm0), (.long tm1), (.long tm2), (.long tm3), (.long tm4), (.long tm5), (.long tm6), (.long tm7)] [(.long tm0), (.long tm1), (.long tm1), (.long tm3), (.long fr4), (.long fr5), (.long fr6), (.long fr7)] [(.long to0), (.long to1), (.long to2), (.long to3), (.long to4), (.long to5), (.long to6), (.long to7)] hB ∧ own_Sp8 Z h rS oM oM (tm2 - tm0) (tm3 - tm1) oM oM oM oM) ∨ ((own_sh8 oM (tm1 - tm0) (tm2 - tm1) (tm3 - tm2) oM oM oM oM) = (3 : Int32) ∧ own_Obj Z h n0 a34_0 rT rF rO rS rE rW kT kF kO kW fi en (sz - (1 : Int32)) bs (1 : Int32) (1 : Int32) (11 : Int64) (8 : Int32) [(.long tm0), (.long tm1), (.long tm2), (.long tm3), (.long tm4), (.long tm5), (.long tm6), (.long tm7)] [(.long tm0), (.long tm1), (.long tm2), (.long tm2), (.long fr4), (.long fr5), (.long fr6), (.long fr7)] [(.long to0), (.long to1), (.long to2), (.long to3), (.long to4), (.long to5), (.long to6), (.long to7)] hB ∧ own_Sp8 Z h rS oM (tm1 - tm0) oM (tm3 - tm1) oM oM oM oM))
theorem rm34_8_15 (hw : own_T Z a0) (a34_0 rT rF rO rS rE rW : Addr) (kT kF kO kW : ClassId) (fi en sz : Int32) (bs tm0 tm1 tm2 tm3 tm4 tm5 tm6 tm7 fr4 fr5 fr6 fr7 to0 to1 to2 to3 to4 to5 to6 to7 T : Int64) (hB : Heap) (h0 : Heap) (n0 : Nat) (Z0 : n0 ≤ h0.size) (O : own_Obj Z h0 n0 a34_0 rT rF rO rS rE rW kT kF kO kW fi en sz bs (1 : Int32) (1 : Int32) (15 : Int64) (8 : Int32) [(.long tm0), (.long tm1), (.long tm2), (.long tm3), (.long tm4), (.long tm5), (.long tm6), (.long tm7)] [(.long tm0), (.long tm1), (.long tm2), (.long tm3), (.long fr4), (.long fr5), (.long fr6), (.long fr7)] [(.long to0), (.long to1), (.long to2), (.long to3), (.long to4), (.long to5), (.long to6), (.long to7)] hB) (SP : own_Sp8 Z h0 rS oM (tm1 - tm0) (tm2 - tm1) (tm3 - tm2) oM oM oM oM) (htm0 : own_near T tm0) (htm1 : own_near T tm1) (htm2 : own_near T tm2) (htm3 : own_near T tm3) (hsz : (1 : Int32) < sz) :
   own_Met l oy34 oc34 6 (some .boolean) (oRm 5 0 0 120) Z h0 #[(.ref a34_0)] (Q_rm34_8_15 Z a34_0 rT rF rO rS rE rW kT kF kO kW fi en sz bs tm0 tm1 tm2 tm3 tm4 tm5 tm6 tm7 fr4 fr5 fr6 fr7 to0 to1 to2 to3 to4 to5 to6 to7 T hB h0 n0) := by
 refine own_go hw (plainFor_of_name pn_34) (fun m => faT m a34_0) fun p e s m below meth c T0 C hret X u => ?_
 have N := Fr.nil n0
 refine gA C X u O.Fsize (wcI C.w) dkY dkZ fun _ X u => ?_
 refine sC C X dlN ?_
 refine cN C X dlU ((tlt hsz).2.2.2) ?_
 refine sC C X dmd ?_
 refine sG C X dmj 13 ?_
 refine wI C X #[oR a34_0, oI 1, oU, oU, oU, oU] dli ?_
 refine sI C X dlo ?_
 refine bN C X dlw (by decide) ?_
 refine sA C X dlz ?_
 refine cP C X u (rm35_8 l Z a0 C.w a34_0 rT kT tm0 tm1 tm2 tm3 tm4 tm5 tm6 tm7 rS oM (tm1 - tm0) (tm2 - tm1) (tm3 - tm2) oM oM oM oM h0 n0 O.hsz O.Ftimes O.Vt O.Fspans SP) O.Ea (W := 0) (wbD C.w) (wbE C.w) (osp5 C) (wbF C.w) (wbG C.w) (wa5 C.w) (argsL := []) (lenOf pan rfl) dlA fun _ T2 _ X hQ2 => ?_
 obtain ⟨rfl, Nq2, u⟩ := hQ2
 obtain ⟨x3, hx3⟩ : ∃ z : Int32, z = (own_sh8 oM (tm1 - tm0) (tm2 - tm1) (tm3 - tm2) oM oM oM oM) := ⟨_, rfl⟩
 rw [← hx3]
 have hdx3 : x3 = (1 : Int32) ∨ x3 = (2 : Int32) ∨ x3 = (3 : Int32) := by rw [hx3]; exact (own_shl_8_15 (tm1 - tm0) (tm2 - tm1) (tm3 - tm2) (own_nlt htm1 htm0) (own_nlt htm2 htm1) (own_nlt htm3 htm2))
 rcases hdx3 with hc4 | hc5 | hc6
 · rw [hc4]
   refine wI C X #[oR a34_0, oI 1, oI 1, oU, oU, oU] dlB ?_
   refine gA C X u O.Fentries (wcB C.w) dlC dlD fun _ X u => ?_
   refine sI C X dlE ?_
   refine sC C X dlF ?_
   refine sS C X dlG ?_
   refine cV C X u (rm32_1 l Z a0 C.w rE (0 : Int32) rW kW (15 : Int64) h0 n0 O.hsz (by decide+kernel) (by decide+kernel) O.Ee O.BwordsInUse O.BsizeIsSticky O.Bwords O.Vw O.St) O.Ee (W := 0) (wbl C.w) (wbm C.w) (wbo C.w) (wbn C.w) (wbp C.w) (wcg C.w) (argsL := [(.int 0)]) (lenOf paf rfl) dlH fun _ T8 _ X hQ8 => ?_
   obtain ⟨rfl, Nq8, u⟩ := hQ8
   rw [show (own_psb (0 : Int32) (15 : Int64)) = (0 : Int32) from by decide+kernel]
   refine wI C X #[oR a34_0, oI 1, oI 1, oI 0, oU, oU] dlI ?_
   refine gA C X u O.Fentries (wcB C.w) dlJ dlK fun _ X u => ?_
   refine sI C X dlL ?_
   refine cV C X u (rm37_1 l Z a0 C.w rE (0 : Int32) rW kW (15 : Int64) h0 n0 O.hsz (by decide+kernel) (by decide+kernel) O.Ee O.BwordsInUse O.BsizeIsSticky O.Bwords O.Vw O.grW O.n_rE_rW O.grE O.St) O.Ee (W := 0) (wbL C.w) (wbM C.w) (wbP C.w) (wbO C.w) (wbQ C.w) (wcg C.w) (argsL := [(.int 0)]) (lenOf pah rfl) dlM fun _ T11 _ X hQ11 => ?_
   obtain ⟨rfl, Nq11, Kc11, Sc11, P11_0, P11_1, P11_2, P11_3, P11_4⟩ := hQ11
   rw [show ((15 : Int64) &&& (((1 : Int64) <<< ((0 : Int32) &&& 0x3f).toInt64) ^^^ (-1 : Int64))) = (14 : Int64) from by decide+kernel] at P11_0
   rw [show (if ((15 : Int64) &&& (((1 : Int64) <<< ((0 : Int32) &&& 0x3f).toInt64) ^^^ (-1 : Int64))) = (0 : Int64) then (0 : Int32) else (1 : Int32)) = (1 : Int32) from by decide+kernel] at P11_2
   have O11 := O.bits2 Kc11 Sc11 P11_1 P11_2 P11_3 P11_4 P11_0
   refine sA C X dlO ?_
   refine sD C X dlP ?_
   refine gF C X rfl O11.Fsize (wcI C.w) dlQ fun _ X u => ?_
   refine sC C X dlR ?_
   refine sS C X dlS ?_
   refine pF C X u (((N.app Nq2).app Nq8).app Nq11) O11.ga O11.Fsize O11.Ea (ty := .int) (wcI C.w) (wcJ C.w) (waU C.w) (by decide) dlT fun _ h13 _ X u N W13 F13 => ?_
   have O13 := own_Obj.put_size hw O11 W13 F13
   refine sA C X dlV ?_
   refine sI C X dlW ?_
   refine kJ C X (waf C.w) dlX ?_
   have f14 := ((SP.keep Kc11 (ninS O13.n_rS_rW (ninS O13.n_rS_rE nin0))).other W13 (Ne.symm O13.n_a_rS))
   refine cP C X u (rm23_8_0 l Z a0 C.w a34_0 oM rT kT tm0 tm1 tm2 tm3 tm4 tm5 tm6 tm7 rS oM (tm1 - tm0) (tm2 - tm1) (tm3 - tm2) oM oM oM oM h13 n0 O13.hsz O13.Ftimes O13.Vt O13.Fspans f14 O13.grS O13.n_a_rS) O13.Ea (W := 0) (waH C.w) (waI C.w) (osp1 C) (waK C.w) (waL C.w) (wa5 C.w) (argsL := [(.int 0), (.long oM)]) (lenOf pae rfl) dlY fun _ T15 _ X hQ15 => ?_
   obtain ⟨rfl, Nq15, Kc15, Sc15, P15_0⟩ := hQ15
   have O15 := O13.sp Kc15 Sc15
   refine gA C X rfl O15.Ffroms (wb7 C.w) dlZ dl0 fun _ X u => ?_
   refine sI C X dl1 ?_
   refine gA C X u O15.Ffroms (wb7 C.w) dl2 dl3 fun _ X u => ?_
   refine sI C X dl4 ?_
   refine lA C X u O15.Vf dl5 ?_
   refine sJ C X u (N.app Nq15) O15.grF O15.Vf _ dl6 fun _ h18 _ X u N W18 V18 => ?_
   have O18 := O15.setF W18 V18
   refine gA C X u O18.Fentries (wcB C.w) dl7 dl8 fun _ X u => ?_
   refine sI C X dl9 ?_
   refine sC C X dma ?_
   refine sS C X dmb ?_
   refine cV C X u (rm32_2 l Z a0 C.w rE rW kW (14 : Int64) h18 n0 O18.hsz O18.Ee O18.BwordsInUse O18.BsizeIsSticky O18.Bwords O18.Vw) O18.Ee (W := 0) (wbl C.w) (wbm C.w) (wbo C.w) (wbn C.w) (wbp C.w) (wcg C.w) (argsL := [(.int (-1 : Int32))]) (lenOf paf rfl) dmc fun _ T20 _ X hQ20 => ?_
   obtain ⟨rfl, Nq20, u⟩ := hQ20
   refine wi C X #[oR a34_0, oI 1, oI 1, oI 0, oI (-1), oU] dme ?_
   refine sA C X dmf ?_
   refine sI C X dmg ?_
   refine si C X dmh ?_
   refine bN C X dmi (by decide) ?_
   refine kJ C X (waf C.w) dmk ?_
   refine sG C X dml 111 ?_
   have f21 := (P15_0.other W18 (Ne.symm O18.n_rF_rS))
   refine cP C X u (rm23_8_1 l Z a0 C.w a34_0 oM rT kT tm0 tm1 tm2 tm3 tm4 tm5 tm6 tm7 rS oM (tm1 - tm0) (tm2 - tm1) (tm3 - tm2) oM oM oM oM h18 n0 O18.hsz O18.Ftimes O18.Vt O18.Fspans f21 O18.grS O18.n_a_rS) O18.Ea (W := 0) (waH C.w) (waI C.w) (osp1 C) (waK C.w) (waL C.w) (wa5 C.w) (argsL := [(.int 1), (.long oM)]) (lenOf pae rfl) dk7 fun _ T22 _ X hQ22 => ?_
   obtain ⟨rfl, Nq22, Kc22, Sc22, P22_0⟩ := hQ22
   have O22 := O18.sp Kc22 Sc22
   refine gA C X rfl O22.Fentries (wcB C.w) dk8 dk9 fun _ X u => ?_
   refine sI C X dla ?_
   refine sC C X dlb ?_
   refine sP C X dld ?_
   refine cV C X u (rm13_2 l Z a0 C.w rE (2 : Int32) rW kW (14 : Int64) T22.heap n0 O22.hsz (by decide+kernel) (by decide+kernel) O22.Ee O22.BwordsInUse O22.BsizeIsSticky O22.Bwords O22.Vw O22.St) O22.Ee (W := 0) (wc7 C.w) (wc8 C.w) (wda C.w) (wc9 C.w) (wdb C.w) (wcg C.w) (argsL := [(.int 2)]) (lenOf paf rfl) dle fun _ T24 _ X hQ24 => ?_
   obtain ⟨rfl, Nq24, u⟩ := hQ24
   rw [show (own_nsb (2 : Int32) (14 : Int64)) = (2 : Int32) from by decide+kernel]
   refine wi C X #[oR a34_0, oI 1, oI 1, oI 0, oI (-1), oI 2] dlf ?_
   refine si C X dlg ?_
   refine bN C X dlh (by decide) ?_
   refine sA C X dlj ?_
   refine si C X dlk ?_
   refine gA C X u O22.Ftimes (wb5 C.w) dll dlm fun _ X u => ?_
   refine si C X dln ?_
   refine lA C X u O22.Vt dlp ?_
   refine gA C X u O22.Ffroms (wb7 C.w) dlq dlr fun _ X u => ?_
   refine sI C X dls ?_
   refine lA C X u O22.Vf dlt ?_
   refine tS C X dlu ?_
   refine cP C X u (rm23_8_2 l Z a0 C.w a34_0 (tm2 - tm0) rT kT tm0 tm1 tm2 tm3 tm4 tm5 tm6 tm7 rS oM oM (tm2 - tm1) (tm3 - tm2) oM oM oM oM T22.heap n0 O22.hsz O22.Ftimes O22.Vt O22.Fspans P22_0 O22.grS O22.n_a_rS) O22.Ea (W := 0) (waH C.w) (waI C.w) (osp1 C) (waK C.w) (waL C.w) (wa5 C.w) (argsL := [(.int 2), (.long (tm2 - tm0))]) (lenOf pae rfl) dlv fun _ T28 _ X hQ28 => ?_
   obtain ⟨rfl, Nq28, Kc28, Sc28, P28_0⟩ := hQ28
   have O28 := O22.sp Kc28 Sc28
   refine sI C X dlx ?_
   refine rZ C X rfl hret dly ?_
   exact ⟨rfl, ((((N.app Nq20).app Nq22).app Nq24).app Nq28), Or.inl ⟨hx3 ▸ hc4, O28, P28_0⟩⟩
 · rw [hc5]
   refine wI C X #[oR a34_0, oI 1, oI 2, oU, oU, oU] dlB ?_
   refine gA C X u O.Fentries (wcB C.w) dlC dlD fun _ X u => ?_
   refine sI C X dlE ?_
   refine sC C X dlF ?_
   refine sS C X dlG ?_
   refine cV C X u (rm32_1 l Z a0 C.w rE (1 : Int32) rW kW (15 : Int64) h0 n0 O.hsz (by decide+kernel) (by decide+kernel) O.Ee O.BwordsInUse O.BsizeIsSticky O.Bwords O.Vw O.St) O.Ee (W := 0) (wbl C.w) (wbm C.w) (wbo C.w) (wbn C.w) (wbp C.w) (wcg C.w) (argsL := [(.int 1)]) (lenOf paf rfl) dlH fun _ T30 _ X hQ30 => ?_
   obtain ⟨rfl, Nq30, u⟩ := hQ30
   rw [show (own_psb (1 : Int32) (15 : Int64)) = (1 : Int32) from by decide+kernel]
   refine wI C X #[oR a34_0, oI 1, oI 2, oI 1, oU, oU] dlI ?_
   refine gA C X u O.Fentries (wcB C.w) dlJ dlK fun _ X u => ?_
   refine sI C X dlL ?_
   refine cV C X u (rm37_1 l Z a0 C.w rE (1 : Int32) rW kW (15 : Int64) h0 n0 O.hsz (by decide+kernel) (by decide+kernel) O.Ee O.BwordsInUse O.BsizeIsSticky O.Bwords O.Vw O.grW O.n_rE_rW O.grE O.St) O.Ee (W := 0) (wbL C.w) (wbM C.w) (wbP C.w) (wbO C.w) (wbQ C.w) (wcg C.w) (argsL := [(.int 1)]) (lenOf pah rfl) dlM fun _ T33 _ X hQ33 => ?_
   obtain ⟨rfl, Nq33, Kc33, Sc33, P33_0, P33_1, P33_2, P33_3, P33_4⟩ := hQ33
   rw [show ((15 : Int64) &&& (((1 : Int64) <<< ((1 : Int32) &&& 0x3f).toInt64) ^^^ (-1 : Int64))) = (13 : Int64) from by decide+kernel] at P33_0
   rw [show (if ((15 : Int64) &&& (((1 : Int64) <<< ((1 : Int32) &&& 0x3f).toInt64) ^^^ (-1 : Int64))) = (0 : Int64) then (0 : Int32) else (1 : Int32)) = (1 : Int32) from by decide+kernel] at P33_2
   have O33 := O.bits2 Kc33 Sc33 P33_1 P33_2 P33_3 P33_4 P33_0
   refine sA C X dlO ?_
   refine sD C X dlP ?_
   refine gF C X rfl O33.Fsize (wcI C.w) dlQ fun _ X u => ?_
   refine sC C X dlR ?_
   refine sS C X dlS ?_
   refine pF C X u (((N.app Nq2).app Nq30).app Nq33) O33.ga O33.Fsize O33.Ea (ty := .int) (wcI C.w) (wcJ C.w) (waU C.w) (by decide) dlT fun _ h35 _ X u N W35 F35 => ?_
   have O35 := own_Obj.put_size hw O33 W35 F35
   refine sA C X dlV ?_
   refine sI C X dlW ?_
   refine kJ C X (waf C.w) dlX ?_
   have f36 := ((SP.keep Kc33 (ninS O35.n_rS_rW (ninS O35.n_rS_rE nin0))).other W35 (Ne.symm O35.n_a_rS))
   refine cP C X u (rm23_8_1 l Z a0 C.w a34_0 oM rT kT tm0 tm1 tm2 tm3 tm4 tm5 tm6 tm7 rS oM (tm1 - tm0) (tm2 - tm1) (tm3 - tm2) oM oM oM oM h35 n0 O35.hsz O35.Ftimes O35.Vt O35.Fspans f36 O35.grS O35.n_a_rS) O35.Ea (W := 0) (waH C.w) (waI C.w) (osp1 C) (waK C.w) (waL C.w) (wa5 C.w) (argsL := [(.int 1), (.long oM)]) (lenOf pae rfl) dlY fun _ T37 _ X hQ37 => ?_
   obtain ⟨rfl, Nq37, Kc37, Sc37, P37_0⟩ := hQ37
   have O37 := O35.sp Kc37 Sc37
   refine gA C X rfl O37.Ffroms (wb7 C.w) dlZ dl0 fun _ X u => ?_
   refine sI C X dl1 ?_
   refine gA C X u O37.Ffroms (wb7 C.w) dl2 dl3 fun _ X u => ?_
   refine sI C X dl4 ?_
   refine lA C X u O37.Vf dl5 ?_
   refine sJ C X u (N.app Nq37) O37.grF O37.Vf _ dl6 fun _ h40 _ X u N W40 V40 => ?_
   have O40 := O37.setF W40 V40
   refine gA C X u O40.Fentries (wcB C.w) dl7 dl8 fun _ X u => ?_
   refine sI C X dl9 ?_
   refine sC C X dma ?_
   refine sS C X dmb ?_
   refine cV C X u (rm32_1 l Z a0 C.w rE (0 : Int32) rW kW (13 : Int64) h40 n0 O40.hsz (by decide+kernel) (by decide+kernel) O40.Ee O40.BwordsInUse O40.BsizeIsSticky O40.Bwords O40.Vw O40.St) O40.Ee (W := 0) (wbl C.w) (wbm C.w) (wbo C.w) (wbn C.w) (wbp C.w) (wcg C.w) (argsL := [(.int 0)]) (lenOf paf rfl) dmc fun _ T42 _ X hQ42 => ?_
   obtain ⟨rfl, Nq42, u⟩ := hQ42
   rw [show (own_psb (0 : Int32) (13 : Int64)) = (0 : Int32) from by decide+kernel]
   refine wi C X #[oR a34_0, oI 1, oI 2, oI 1, oI 0, oU] dme ?_
   refine sA C X dmf ?_
   refine sI C X dmg ?_
   refine si C X dmh ?_
   refine bY C X dmi 97 (by decide) ?_
   refine gA C X u O40.Ftimes (wb5 C.w) dmm dmn fun _ X u => ?_
   refine sI C X dk0 ?_
   refine lA C X u O40.Vt dk1 ?_
   refine gA C X u O40.Ffroms (wb7 C.w) dk2 dk3 fun _ X u => ?_
   refine si C X dk4 ?_
   refine lA C X u O40.Vf dk5 ?_
   refine tS C X dk6 ?_
   have f46 := (P37_0.other W40 (Ne.symm O40.n_rF_rS))
   refine cP C X u (rm23_8_2 l Z a0 C.w a34_0 (tm2 - tm0) rT kT tm0 tm1 tm2 tm3 tm4 tm5 tm6 tm7 rS oM oM (tm2 - tm1) (tm3 - tm2) oM oM oM oM h40 n0 O40.hsz O40.Ftimes O40.Vt O40.Fspans f46 O40.grS O40.n_a_rS) O40.Ea (W := 0) (waH C.w) (waI C.w) (osp1 C) (waK C.w) (waL C.w) (wa5 C.w) (argsL := [(.int 2), (.long (tm2 - tm0))]) (lenOf pae rfl) dk7 fun _ T47 _ X hQ47 => ?_
   obtain ⟨rfl, Nq47, Kc47, Sc47, P47_0⟩ := hQ47
   have O47 := O40.sp Kc47 Sc47
   refine gA C X rfl O47.Fentries (wcB C.w) dk8 dk9 fun _ X u => ?_
   refine sI C X dla ?_
   refine sC C X dlb ?_
   refine sP C X dld ?_
   refine cV C X u (rm13_2 l Z a0 C.w rE (3 : Int32) rW kW (13 : Int64) T47.heap n0 O47.hsz (by decide+kernel) (by decide+kernel) O47.Ee O47.BwordsInUse O47.BsizeIsSticky O47.Bwords O47.Vw O47.St) O47.Ee (W := 0) (wc7 C.w) (wc8 C.w) (wda C.w) (wc9 C.w) (wdb C.w) (wcg C.w) (argsL := [(.int 3)]) (lenOf paf rfl) dle fun _ T49 _ X hQ49 => ?_
   obtain ⟨rfl, Nq49, u⟩ := hQ49
   rw [show (own_nsb (3 : Int32) (13 : Int64)) = (3 : Int32) from by decide+kernel]
   refine wi C X #[oR a34_0, oI 1, oI 2, oI 1, oI 0, oI 3] dlf ?_
   refine si C X dlg ?_
   refine bN C X dlh (by decide) ?_
   refine sA C X dlj ?_
   refine si C X dlk ?_
   refine gA C X u O47.Ftimes (wb5 C.w) dll dlm fun _ X u => ?_
   refine si C X dln ?_
   refine lA C X u O47.Vt dlp ?_
   refine gA C X u O47.Ffroms (wb7 C.w) dlq dlr fun _ X u => ?_
   refine sI C X dls ?_
   refine lA C X u O47.Vf dlt ?_
   refine tS C X dlu ?_
   refine cP C X u (rm23_8_3 l Z a0 C.w a34_0 (tm3 - tm1) rT kT tm0 tm1 tm2 tm3 tm4 tm5 tm6 tm7 rS oM oM (tm2 - tm0) (tm3 - tm2) oM oM oM oM T47.heap n0 O47.hsz O47.Ftimes O47.Vt O47.Fspans P47_0 O47.grS O47.n_a_rS) O47.Ea (W := 0) (waH C.w) (waI C.w) (osp1 C) (waK C.w) (waL C.w) (wa5 C.w) (argsL := [(.int 3), (.long (tm3 - tm1))]) (lenOf pae rfl) dlv fun _ T53 _ X hQ53 => ?_
   obtain ⟨rfl, Nq53, Kc53, Sc53, P53_0⟩ := hQ53
   have O53 := O47.sp Kc53 Sc53
   refine sI C X dlx ?_
   refine rZ C X rfl hret dly ?_
   exact ⟨rfl, ((((N.app Nq42).app Nq47).app Nq49).app Nq53), Or.inr (Or.inl ⟨hx3 ▸ hc5, O53, P53_0⟩)⟩
 rw [hc6]
 refine wI C X #[oR a34_0, oI 1, oI 3, oU, oU, oU] dlB ?_
 refine gA C X u O.Fentries (wcB C.w) dlC dlD fun _ X u => ?_
 refine sI C X dlE ?_
 refine sC C X dlF ?_
 refine sS C X dlG ?_
 refine cV C X u (rm32_1 l Z a0 C.w rE (2 : Int32) rW kW (15 : Int64) h0 n0 O.hsz (by decide+kernel) (by decide+kernel) O.Ee O.BwordsInUse O.BsizeIsSticky O.Bwords O.Vw O.St) O.Ee (W := 0) (wbl C.w) (wbm C.w) (wbo C.w) (wbn C.w) (wbp C.w) (wcg C.w) (argsL := [(.int 2)]) (lenOf paf rfl) dlH fun _ T55 _ X hQ55 => ?_
 obtain ⟨rfl, Nq55, u⟩ := hQ55
 rw [show (own_psb (2 : Int32) (15 : Int64)) = (2 : Int32) from by decide+kernel]
 refine wI C X #[oR a34_0, oI 1, oI 3, oI 2, oU, oU] dlI ?_
 refine gA C X u O.Fentries (wcB C.w) dlJ dlK fun _ X u => ?_
 refine sI C X dlL ?_
 refine cV C X u (rm37_1 l Z a0 C.w rE (2 : Int32) rW kW (15 : Int64) h0 n0 O.hsz (by decide+kernel) (by decide+kernel) O.Ee O.BwordsInUse O.BsizeIsSticky O.Bwords O.Vw O.grW O.n_rE_rW O.grE O.St) O.Ee (W := 0) (wbL C.w) (wbM C.w) (wbP C.w) (wbO C.w) (wbQ C.w) (wcg C.w) (argsL := [(.int 2)]) (lenOf pah rfl) dlM fun _ T58 _ X hQ58 => ?_
 obtain ⟨rfl, Nq58, Kc58, Sc58, P58_0, P58_1, P58_2, P58_3, P58_4⟩ := hQ58
 rw [show ((15 : Int64) &&& (((1 : Int64) <<< ((2 : Int32) &&& 0x3f).toInt64) ^^^ (-1 : Int64))) = (11 : Int64) from by decide+kernel] at P58_0
 rw [show (if ((15 : Int64) &&& (((1 : Int64) <<< ((2 : Int32) &&& 0x3f).toInt64) ^^^ (-1 : Int64))) = (0 : Int64) then (0 : Int32) else (1 : Int32)) = (1 : Int32) from by decide+kernel] at P58_2
 have O58 := O.bits2 Kc58 Sc58 P58_1 P58_2 P58_3 P58_4 P58_0
 refine sA C X dlO ?_
 refine sD C X dlP ?_
 refine gF C X rfl O58.Fsize (wcI C.w) dlQ fun _ X u => ?_
 refine sC C X dlR ?_
 refine sS C X dlS ?_
 refine pF C X u (((N.app Nq2).app Nq55).app Nq58) O58.ga O58.Fsize O58.Ea (ty := .int) (wcI C.w) (wcJ C.w) (waU C.w) (by decide) dlT fun _ h60 _ X u N W60 F60 => ?_
 have O60 := own_Obj.put_size hw O58 W60 F60
 refine sA C X dlV ?_
 refine sI C X dlW ?_
 refine kJ C X (waf C.w) dlX ?_
 have f61 := ((SP.keep Kc58 (ninS O60.n_rS_rW (ninS O60.n_rS_rE nin0))).other W60 (Ne.symm O60.n_a_rS))
 refine cP C X u (rm23_8_2 l Z a0 C.w a34_0 oM rT kT tm0 tm1 tm2 tm3 tm4 tm5 tm6 tm7 rS oM (tm1 - tm0) (tm2 - tm1) (tm3 - tm2) oM oM oM oM h60 n0 O60.hsz O60.Ftimes O60.Vt O60.Fspans f61 O60.grS O60.n_a_rS) O60.Ea (W := 0) (waH C.w) (waI C.w) (osp1 C) (waK C.w) (waL C.w) (wa5 C.w) (argsL := [(.int 2), (.long oM)]) (lenOf pae rfl) dlY fun _ T62 _ X hQ62 => ?_
 obtain ⟨rfl, Nq62, Kc62, Sc62, P62_0⟩ := hQ62
 have O62 := O60.sp Kc62 Sc62
 refine gA C X rfl O62.Ffroms (wb7 C.w) dlZ dl0 fun _ X u => ?_
 refine sI C X dl1 ?_
 refine gA C X u O62.Ffroms (wb7 C.w) dl2 dl3 fun _ X u => ?_
 refine sI C X dl4 ?_
 refine lA C X u O62.Vf dl5 ?_
 refine sJ C X u (N.app Nq62) O62.grF O62.Vf _ dl6 fun _ h65 _ X u N W65 V65 => ?_
 have O65 := O62.setF W65 V65
 refine gA C X u O65.Fentries (wcB C.w) dl7 dl8 fun _ X u => ?_
 refine sI C X dl9 ?_
 refine sC C X dma ?_
 refine sS C X dmb ?_
 refine cV C X u (rm32_1 l Z a0 C.w rE (1 : Int32) rW kW (11 : Int64) h65 n0 O65.hsz (by decide+kernel) (by decide+kernel) O65.Ee O65.BwordsInUse O65.BsizeIsSticky O65.Bwords O65.Vw O65.St) O65.Ee (W := 0) (wbl C.w) (wbm C.w) (wbo C.w) (wbn C.w) (wbp C.w) (wcg C.w) (argsL := [(.int 1)]) (lenOf paf rfl) dmc fun _ T67 _ X hQ67 => ?_
 obtain ⟨rfl, Nq67, u⟩ := hQ67
 rw [show (own_psb (1 : Int32) (11 : Int64)) = (1 : Int32) from by decide+kernel]
 refine wi C X #[oR a34_0, oI 1, oI 3, oI 2, oI 1, oU] dme ?_
 refine sA C X dmf ?_
 refine sI C X dmg ?_
 refine si C X dmh ?_
 refine bY C X dmi 97 (by decide) ?_
 refine gA C X u O65.Ftimes (wb5 C.w) dmm dmn fun _ X u => ?_
 refine sI C X dk0 ?_
 refine lA C X u O65.Vt dk1 ?_
 refine gA C X u O65.Ffroms (wb7 C.w) dk2 dk3 fun _ X u => ?_
 refine si C X dk4 ?_
 refine lA C X u O65.Vf dk5 ?_
 refine tS C X dk6 ?_
 have f71 := (P62_0.other W65 (Ne.symm O65.n_rF_rS))
 refine cP C X u (rm23_8_3 l Z a0 C.w a34_0 (tm3 - tm1) rT kT tm0 tm1 tm2 tm3 tm4 tm5 tm6 tm7 rS oM (tm1 - tm0) oM (tm3 - tm2) oM oM oM oM h65 n0 O65.hsz O65.Ftimes O65.Vt O65.Fspans f71 O65.grS O65.n_a_rS) O65.Ea (W := 0) (waH C.w) (waI C.w) (osp1 C) (waK C.w) (waL C.w) (wa5 C.w) (argsL := [(.int 3), (.long (tm3 - tm1))]) (lenOf pae rfl) dk7 fun _ T72 _ X hQ72 => ?_
 obtain ⟨rfl, Nq72, Kc72, Sc72, P72_0⟩ := hQ72
 have O72 := O65.sp Kc72 Sc72
 refine gA C X rfl O72.Fentries (wcB C.w) dk8 dk9 fun _ X u => ?_
 refine sI C X dla ?_
 refine sC C X dlb ?_
 refine sP C X dld ?_
 refine cV C X u (rm13_2 l Z a0 C.w rE (4 : Int32) rW kW (11 : Int64) T72.heap n0 O72.hsz (by decide+kernel) (by decide+kernel) O72.Ee O72.BwordsInUse O72.BsizeIsSticky O72.Bwords O72.Vw O72.St) O72.Ee (W := 0) (wc7 C.w) (wc8 C.w) (wda C.w) (wc9 C.w) (wdb C.w) (wcg C.w) (argsL := [(.int 4)]) (lenOf paf rfl) dle fun _ T74 _ X hQ74 => ?_
 obtain ⟨rfl, Nq74, u⟩ := hQ74
 rw [show (own_nsb (4 : Int32) (11 : Int64)) = (-1 : Int32) from by decide+kernel]
 refine wi C X #[oR a34_0, oI 1, oI 3, oI 2, oI 1, oI (-1)] dlf ?_
 refine si C X dlg ?_
 refine bY C X dlh 151 (by decide) ?_
 refine sI C X dlx ?_
 refine rZ C X u hret dly ?_
 exact ⟨rfl, (((N.app Nq67).app Nq72).app Nq74), Or.inr (Or.inr (⟨hx3 ▸ hc6, O72, P72_0⟩))⟩
def own_tot (b : Int64) : List (Int64 × Int64) → List (Int64 × Int64)
 | [] => []
 | (t, p) :: r => (t, b + p) :: own_tot (b + p) r
def own_addP (t p : Int64) : List (Int64 × Int64) → List (Int64 × Int64)
 | [] => [(t, p)]
 | [(u, w)] => if u = t then [(u, w + p)] else [(u, w), (t, p)]
 | x :: y :: r => x :: own_addP t p (y :: r)
def own_drP (q : Int64) : List (Int64 × Int64) → List (Int64 × Int64)
 | [] => []
 | (t, p) :: r => if q < t then (t, p) :: r else own_drP q r
def own_drB (q b : Int64) : List (Int64 × Int64) → Int64
 | [] => b
 | (t, p) :: r => if q < t then b else own_drB q (b + p) r
def own_pe (lv : Int32 → Int32) (lt lp : Int32 → Int64) : List (Int64 × Int64) :=
 (if lv 0 = 0 then [] else [(lt 0, lp 0)]) ++ (if lv 1 = 0 then [] else [(lt 1, lp 1)]) ++ (if lv 2 = 0 then [] else [(lt 2, lp 2)]) ++ (if lv 3 = 0 then [] else [(lt 3, lp 3)])
/-- the newest live index; nothing lives from i on -/
def own_nw (lv : Int32 → Int32) (nw i : Int32) : Prop :=
 (nw = -1 ∧ lv 0 = 0 ∧ lv 1 = 0 ∧ lv 2 = 0 ∧ lv 3 = 0) ∨ (nw = 0 ∧ 0 < i ∧ ¬ lv 0 = 0 ∧ lv 1 = 0 ∧ lv 2 = 0 ∧ lv 3 = 0) ∨ (nw = 1 ∧ 1 < i ∧ ¬ lv 1 = 0 ∧ lv 2 = 0 ∧ lv 3 = 0) ∨ (nw = 2 ∧ 2 < i ∧ ¬ lv 2 = 0 ∧ lv 3 = 0) ∨ (nw = 3 ∧ 3 < i ∧ ¬ lv 3 = 0)
def own_AR (lt lp : Int32 → Int64) (lv : Int32 → Int32) (nw i : Int32) (lp' : Int32 → Int64) (lv' : Int32 → Int32) (r : Int32) : Prop :=
 (¬ nw < 0 ∧ lt nw = lt i ∧ r = nw ∧ lv' = lv ∧ lp' = fun j => if j = nw then lp nw + lp i else lp j) ∨ ((nw < 0 ∨ ¬ lt nw = lt i) ∧ r = i ∧ lp' = lp ∧ lv' = fun j => if j = i then 1 else lv j)
theorem own_ar {lt lp lp' : Int32 → Int64} {lv lv' : Int32 → Int32} {nw i j r : Int32} (hi : (i = 0 ∧ j = 1) ∨ (i = 1 ∧ j = 2) ∨ (i = 2 ∧ j = 3) ∨ (i = 3 ∧ j = 4)) (h : own_nw lv nw i) (a : own_AR lt lp lv nw i lp' lv' r) :
   (own_pe lv' lt lp' = own_addP (lt i) (lp i) (own_pe lv lt lp) ∧ own_nw lv' r j) ∧ ∀ k : Int32, i < k → lp' k = lp k := by
 refine ⟨?_, ?_⟩
 rotate_left
 · intro k hk
   rcases a with ⟨-, -, -, -, e2⟩ | ⟨-, -, e2, -⟩
   · rw [e2]
     have hne : ¬ k = nw := fun e => by
       subst e
       rcases hi with ⟨rfl, rfl⟩ | ⟨rfl, rfl⟩ | ⟨rfl, rfl⟩ | ⟨rfl, rfl⟩ <;> rcases h with ⟨rfl, g⟩ | ⟨rfl, g0, g⟩ | ⟨rfl, g0, g⟩ | ⟨rfl, g0, g⟩ | ⟨rfl, g0, g⟩ <;> first | (revert hk; decide) | (revert g0; decide)
     exact if_neg hne
   · rw [e2]
 have z0 : lv 0 = 0 ∨ ¬ lv 0 = 0 := Decidable.em _
 have z1 : lv 1 = 0 ∨ ¬ lv 1 = 0 := Decidable.em _
 rcases hi with ⟨rfl, rfl⟩ | ⟨rfl, rfl⟩ | ⟨rfl, rfl⟩ | ⟨rfl, rfl⟩ <;>
 rcases h with ⟨rfl, g⟩ | ⟨rfl, g0, g⟩ | ⟨rfl, g0, g⟩ | ⟨rfl, g0, g⟩ | ⟨rfl, g0, g⟩ <;>
 first
 | (exfalso; revert g0; decide)
 | (rcases a with ⟨a1, a2, rfl, e1, e2⟩ | ⟨a1, rfl, e2, e1⟩
    · first
      | (exact absurd (by decide) a1)
      | (rw [e1, e2]; clear e1 e2; constructor
         · rcases z0 with z0 | z0 <;> rcases z1 with z1 | z1 <;> simp_all [own_pe, own_addP]
         · simp_all [own_nw])
    · rw [e1, e2]; clear e1 e2; constructor
      · rcases z0 with z0 | z0 <;> rcases z1 with z1 | z1 <;> simp_all [own_pe, own_addP]
      · simp_all [own_nw])
theorem own_nw.up {lv : Int32 → Int32} {nw i j : Int32} (hi : (i = 0 ∧ j = 1) ∨ (i = 1 ∧ j = 2) ∨ (i = 2 ∧ j = 3) ∨ (i = 3 ∧ j = 4)) (h : own_nw lv nw i) : own_nw lv nw j := by
 rcases hi with ⟨rfl, rfl⟩ | ⟨rfl, rfl⟩ | ⟨rfl, rfl⟩ | ⟨rfl, rfl⟩ <;>
 rcases h with ⟨rfl, g⟩ | ⟨rfl, g0, g⟩ | ⟨rfl, g0, g⟩ | ⟨rfl, g0, g⟩ | ⟨rfl, g0, g⟩ <;>
 first
 | (exfalso; revert g0; decide)
 | simp_all [own_nw]
def own_D (lt : Int32 → Int64) (q : Int64) (i : Int32) (lv lv' : Int32 → Int32) : Prop := (lv' = lv ∧ (lv i = 0 ∨ q < lt i)) ∨ (¬ lv i = 0 ∧ ¬ q < lt i ∧ lv' = fun j => if j = i then 0 else lv j)
def own_DN (lv : Int32 → Int32) (nw nw' : Int32) : Prop := ((nw < 0 ∨ ¬ lv nw = 0) ∧ nw' = nw) ∨ (¬ nw < 0 ∧ lv nw = 0 ∧ nw' = -1)
theorem own_dr {lt lp : Int32 → Int64} {q : Int64} {lv lv1 lv2 : Int32 → Int32} {nw nw' : Int32} (h : own_nw lv nw 2) (hs : lt 0 ≤ lt 1) (d0 : own_D lt q 0 lv lv1) (d1 : own_D lt q 1 lv1 lv2) (dn : own_DN lv2 nw nw') : own_pe lv2 lt lp = own_drP q (own_pe lv lt lp) ∧ own_nw lv2 nw' 2 := by
 have hq : q < lt 0 → q < lt 1 := fun g => Int64.lt_of_lt_of_le g hs
 have e2 : lv2 = fun j => if j = 1 ∧ ¬ lv 1 = 0 ∧ ¬ q < lt 1 then 0 else if j = 0 ∧ ¬ lv 0 = 0 ∧ ¬ q < lt 0 then 0 else lv j := by
   funext j
   rcases d0 with ⟨rfl, g⟩ | ⟨g1, g2, rfl⟩ <;> rcases d1 with ⟨rfl, k⟩ | ⟨k1, k2, rfl⟩
   · by_cases j1 : j = 1 <;> by_cases j0 : j = 0 <;> rcases g with g | g <;> rcases k with k | k <;> simp_all
   · by_cases j1 : j = 1 <;> by_cases j0 : j = 0 <;> rcases g with g | g <;> simp_all
   · by_cases j1 : j = 1 <;> by_cases j0 : j = 0 <;> rcases k with k | k <;> simp_all
   · by_cases j1 : j = 1 <;> by_cases j0 : j = 0 <;> simp_all
 clear d0 d1
 subst e2
 have z0 : lv 0 = 0 ∨ ¬ lv 0 = 0 := Decidable.em _
 have z1 : q < lt 0 ∨ ¬ q < lt 0 := Decidable.em _
 have z2 : q < lt 1 ∨ ¬ q < lt 1 := Decidable.em _
 rcases h with ⟨rfl, g⟩ | ⟨rfl, g0, g⟩ | ⟨rfl, g0, g⟩ | ⟨rfl, g0, g⟩ | ⟨rfl, g0, g⟩ <;>
 first
 | (exfalso; revert g0; decide)
 | (constructor
    · clear dn
      rcases z0 with z0 | z0 <;> rcases z1 with z1 | z1 <;> rcases z2 with z2 | z2 <;> simp_all [own_pe, own_drP] <;> (try rw [if_neg (Int64.not_lt.mpr ‹lt 0 ≤ q›), if_neg (Int64.not_lt.mpr ‹lt 1 ≤ q›)])
    · rcases dn with ⟨a, rfl⟩ | ⟨a, b, rfl⟩
      · rcases z0 with z0 | z0 <;> rcases z1 with z1 | z1 <;> rcases z2 with z2 | z2 <;> simp_all [own_nw]
      · rcases z0 with z0 | z0 <;> rcases z1 with z1 | z1 <;> rcases z2 with z2 | z2 <;> simp_all [own_nw])
theorem own_i1 (x y : Int64) : (x + y) - x = y := by rw [Int64.add_comm, Int64.add_sub_cancel]
theorem own_i2 (x y z : Int64) : (x + y + z) - x = y + z := by rw [Int64.add_assoc, own_i1]
theorem own_i3 (x y z w : Int64) : (x + y + z + w) - x = y + z + w := by rw [Int64.add_assoc x y z, Int64.add_assoc x (y + z) w, own_i1]
theorem own_i4 (x y z w v : Int64) : (x + y + z + w + v) - x = y + z + w + v := by rw [Int64.add_assoc x y z, Int64.add_assoc x (y + z) w, Int64.add_assoc x (y + z + w) v, own_i1]

def own_af (q t p : Int64) : Int64 := if q < t then p else 0
theorem own_afP {q t p : Int64} (h : q.toInt < t.toInt) : own_af q t p = p := if_pos (Int64.lt_iff_toInt_lt.mpr h)
theorem own_afN {q t p : Int64} (h : ¬ q.toInt < t.toInt) : own_af q t p = 0 := if_neg (fun z => h (Int64.lt_iff_toInt_lt.mp z))
def own_T_1_0 (q b t1 o1 v : Int64) : Prop := (¬ q < t1 ∧ v = 0) ∨ (q < t1 ∧ v = o1 - b)
theorem own_f_1_0 {q b t1 p1 v : Int64} (h : own_T_1_0 q b t1 (b + p1) v) : v = ((((own_af q t1 p1) + (0 : Int64)) + (0 : Int64)) + (0 : Int64)) := by
 rcases h with ⟨a, rfl⟩ | ⟨a, rfl⟩
 · simp only [Int64.lt_iff_toInt_lt] at a
   rw [own_afN (t := t1) (by omega)]
   rfl
 · simp only [Int64.lt_iff_toInt_lt] at a
   rw [own_afP (t := t1) (by omega)]
   rw [own_i1]
   try simp only [Int64.zero_add, Int64.add_zero]
   try ac_rfl
def own_T_2_0 (q b t1 t2 o1 o2 v : Int64) : Prop := (¬ q < t2 ∧ v = 0) ∨ (q < t1 ∧ v = o2 - b) ∨ (¬ q < t1 ∧ q < t2 ∧ v = o2 - o1)
theorem own_f_2_0 {q b t1 t2 p1 p2 v : Int64} (s1 : t1 ≤ t2) (h : own_T_2_0 q b t1 t2 (b + p1) ((b + p1) + p2) v) : v = ((((own_af q t1 p1) + (own_af q t2 p2)) + (0 : Int64)) + (0 : Int64)) := by
 simp only [Int64.le_iff_toInt_le] at s1
 rcases h with ⟨a, rfl⟩ | ⟨a, rfl⟩ | ⟨a, a', rfl⟩
 · simp only [Int64.lt_iff_toInt_lt] at a
   rw [own_afN (t := t1) (by omega), own_afN (t := t2) (by omega)]
   rfl
 · simp only [Int64.lt_iff_toInt_lt] at a
   rw [own_afP (t := t1) (by omega), own_afP (t := t2) (by omega)]
   rw [own_i2]
   try simp only [Int64.zero_add, Int64.add_zero]
   try ac_rfl
 · simp only [Int64.lt_iff_toInt_lt] at a a'
   rw [own_afN (t := t1) (by omega), own_afP (t := t2) (by omega)]
   rw [own_i1]
   try simp only [Int64.zero_add, Int64.add_zero]
   try ac_rfl
def own_T_2_1 (q b t1 t2 o1 o2 v : Int64) : Prop := (¬ q < t2 ∧ v = 0) ∨ (q < t1 ∧ v = o2 - b) ∨ (¬ q < t1 ∧ q < t2 ∧ v = o2 - b)
theorem own_f_2_1 {q b t1 t2 p1 p2 v : Int64} (s1 : t1 ≤ t2) (h : own_T_2_1 q b t1 t2 (b + p1) ((b + p1) + p2) v) : v = ((((own_af q t1 (0 : Int64)) + (own_af q t2 (p2 + p1))) + (0 : Int64)) + (0 : Int64)) := by
 simp only [Int64.le_iff_toInt_le] at s1
 rcases h with ⟨a, rfl⟩ | ⟨a, rfl⟩ | ⟨a, a', rfl⟩
 · simp only [Int64.lt_iff_toInt_lt] at a
   rw [own_afN (t := t1) (by omega), own_afN (t := t2) (by omega)]
   rfl
 · simp only [Int64.lt_iff_toInt_lt] at a
   rw [own_afP (t := t1) (by omega), own_afP (t := t2) (by omega)]
   rw [own_i2]
   try simp only [Int64.zero_add, Int64.add_zero]
   try ac_rfl
 · simp only [Int64.lt_iff_toInt_lt] at a a'
   rw [own_afN (t := t1) (by omega), own_afP (t := t2) (by omega)]
   rw [own_i2]
   try simp only [Int64.zero_add, Int64.add_zero]
   try ac_rfl
def own_T_3_0 (q b t1 t2 t3 o1 o2 o3 v : Int64) : Prop := (¬ q < t3 ∧ v = 0) ∨ (q < t1 ∧ v = o3 - b) ∨ (¬ q < t1 ∧ q < t2 ∧ v = o3 - o1) ∨ (¬ q < t2 ∧ q < t3 ∧ v = o3 - o2)
theorem own_f_3_0 {q b t1 t2 t3 p1 p2 p3 v : Int64} (s1 : t1 ≤ t2) (s2 : t2 ≤ t3) (h : own_T_3_0 q b t1 t2 t3 (b + p1) ((b + p1) + p2) (((b + p1) + p2) + p3) v) : v = ((((own_af q t1 p1) + (own_af q t2 p2)) + (own_af q t3 p3)) + (0 : Int64)) := by
 simp only [Int64.le_iff_toInt_le] at s1 s2
 rcases h with ⟨a, rfl⟩ | ⟨a, rfl⟩ | ⟨a, a', rfl⟩ | ⟨a, a', rfl⟩
 · simp only [Int64.lt_iff_toInt_lt] at a
   rw [own_afN (t := t1) (by omega), own_afN (t := t2) (by omega), own_afN (t := t3) (by omega)]
   rfl
 · simp only [Int64.lt_iff_toInt_lt] at a
   rw [own_afP (t := t1) (by omega), own_afP (t := t2) (by omega), own_afP (t := t3) (by omega)]
   rw [own_i3]
   try simp only [Int64.zero_add, Int64.add_zero]
   try ac_rfl
 · simp only [Int64.lt_iff_toInt_lt] at a a'
   rw [own_afN (t := t1) (by omega), own_afP (t := t2) (by omega), own_afP (t := t3) (by omega)]
   rw [own_i2]
   try simp only [Int64.zero_add, Int64.add_zero]
   try ac_rfl
 · simp only [Int64.lt_iff_toInt_lt] at a a'
   rw [own_afN (t := t1) (by omega), own_afN (t := t2) (by omega), own_afP (t := t3) (by omega)]
   rw [own_i1]
   try simp only [Int64.zero_add, Int64.add_zero]
   try ac_rfl
def own_T_3_1 (q b t1 t2 t3 o1 o2 o3 v : Int64) : Prop := (¬ q < t3 ∧ v = 0) ∨ (q < t1 ∧ v = o3 - b) ∨ (¬ q < t1 ∧ q < t2 ∧ v = o3 - b) ∨ (¬ q < t2 ∧ q < t3 ∧ v = o3 - o2)
theorem own_f_3_1 {q b t1 t2 t3 p1 p2 p3 v : Int64} (s1 : t1 ≤ t2) (s2 : t2 ≤ t3) (h : own_T_3_1 q b t1 t2 t3 (b + p1) ((b + p1) + p2) (((b + p1) + p2) + p3) v) : v = ((((own_af q t1 (0 : Int64)) + (own_af q t2 (p2 + p1))) + (own_af q t3 p3)) + (0 : Int64)) := by
 simp only [Int64.le_iff_toInt_le] at s1 s2
 rcases h with ⟨a, rfl⟩ | ⟨a, rfl⟩ | ⟨a, a', rfl⟩ | ⟨a, a', rfl⟩
 · simp only [Int64.lt_iff_toInt_lt] at a
   rw [own_afN (t := t1) (by omega), own_afN (t := t2) (by omega), own_afN (t := t3) (by omega)]
   rfl
 · simp only [Int64.lt_iff_toInt_lt] at a
   rw [own_afP (t := t1) (by omega), own_afP (t := t2) (by omega), own_afP (t := t3) (by omega)]
   rw [own_i3]
   try simp only [Int64.zero_add, Int64.add_zero]
   try ac_rfl
 · simp only [Int64.lt_iff_toInt_lt] at a a'
   rw [own_afN (t := t1) (by omega), own_afP (t := t2) (by omega), own_afP (t := t3) (by omega)]
   rw [own_i3]
   try simp only [Int64.zero_add, Int64.add_zero]
   try ac_rfl
 · simp only [Int64.lt_iff_toInt_lt] at a a'
   rw [own_afN (t := t1) (by omega), own_afN (t := t2) (by omega), own_afP (t := t3) (by omega)]
   rw [own_i1]
   try simp only [Int64.zero_add, Int64.add_zero]
   try ac_rfl
def own_T_3_2 (q b t1 t2 t3 o1 o2 o3 v : Int64) : Prop := (¬ q < t3 ∧ v = 0) ∨ (q < t1 ∧ v = o3 - b) ∨ (¬ q < t1 ∧ q < t2 ∧ v = o3 - o1) ∨ (¬ q < t2 ∧ q < t3 ∧ v = o3 - o1)
theorem own_f_3_2 {q b t1 t2 t3 p1 p2 p3 v : Int64} (s1 : t1 ≤ t2) (s2 : t2 ≤ t3) (h : own_T_3_2 q b t1 t2 t3 (b + p1) ((b + p1) + p2) (((b + p1) + p2) + p3) v) : v = ((((own_af q t1 p1) + (own_af q t2 (0 : Int64))) + (own_af q t3 (p3 + p2))) + (0 : Int64)) := by
 simp only [Int64.le_iff_toInt_le] at s1 s2
 rcases h with ⟨a, rfl⟩ | ⟨a, rfl⟩ | ⟨a, a', rfl⟩ | ⟨a, a', rfl⟩
 · simp only [Int64.lt_iff_toInt_lt] at a
   rw [own_afN (t := t1) (by omega), own_afN (t := t2) (by omega), own_afN (t := t3) (by omega)]
   rfl
 · simp only [Int64.lt_iff_toInt_lt] at a
   rw [own_afP (t := t1) (by omega), own_afP (t := t2) (by omega), own_afP (t := t3) (by omega)]
   rw [own_i3]
   try simp only [Int64.zero_add, Int64.add_zero]
   try ac_rfl
 · simp only [Int64.lt_iff_toInt_lt] at a a'
   rw [own_afN (t := t1) (by omega), own_afP (t := t2) (by omega), own_afP (t := t3) (by omega)]
   rw [own_i2]
   try simp only [Int64.zero_add, Int64.add_zero]
   try ac_rfl
 · simp only [Int64.lt_iff_toInt_lt] at a a'
   rw [own_afN (t := t1) (by omega), own_afN (t := t2) (by omega), own_afP (t := t3) (by omega)]
   rw [own_i2]
   try simp only [Int64.zero_add, Int64.add_zero]
   try ac_rfl
def own_T_4_0 (q b t1 t2 t3 t4 o1 o2 o3 o4 v : Int64) : Prop := (¬ q < t4 ∧ v = 0) ∨ (q < t1 ∧ v = o4 - b) ∨ (¬ q < t1 ∧ q < t2 ∧ v = o4 - o1) ∨ (¬ q < t2 ∧ q < t3 ∧ v = o4 - o2) ∨ (¬ q < t3 ∧ q < t4 ∧ v = o4 - o3)
theorem own_f_4_0 {q b t1 t2 t3 t4 p1 p2 p3 p4 v : Int64} (s1 : t1 ≤ t2) (s2 : t2 ≤ t3) (s3 : t3 ≤ t4) (h : own_T_4_0 q b t1 t2 t3 t4 (b + p1) ((b + p1) + p2) (((b + p1) + p2) + p3) ((((b + p1) + p2) + p3) + p4) v) : v = ((((own_af q t1 p1) + (own_af q t2 p2)) + (own_af q t3 p3)) + (own_af q t4 p4)) := by
 simp only [Int64.le_iff_toInt_le] at s1 s2 s3
 rcases h with ⟨a, rfl⟩ | ⟨a, rfl⟩ | ⟨a, a', rfl⟩ | ⟨a, a', rfl⟩ | ⟨a, a', rfl⟩
 · simp only [Int64.lt_iff_toInt_lt] at a
   rw [own_afN (t := t1) (by omega), own_afN (t := t2) (by omega), own_afN (t := t3) (by omega), own_afN (t := t4) (by omega)]
   rfl
 · simp only [Int64.lt_iff_toInt_lt] at a
   rw [own_afP (t := t1) (by omega), own_afP (t := t2) (by omega), own_afP (t := t3) (by omega), own_afP (t := t4) (by omega)]
   rw [own_i4]
   try simp only [Int64.zero_add, Int64.add_zero]
   try ac_rfl
 · simp only [Int64.lt_iff_toInt_lt] at a a'
   rw [own_afN (t := t1) (by omega), own_afP (t := t2) (by omega), own_afP (t := t3) (by omega), own_afP (t := t4) (by omega)]
   rw [own_i3]
   try simp only [Int64.zero_add, Int64.add_zero]
   try ac_rfl
 · simp only [Int64.lt_iff_toInt_lt] at a a'
   rw [own_afN (t := t1) (by omega), own_afN (t := t2) (by omega), own_afP (t := t3) (by omega), own_afP (t := t4) (by omega)]
   rw [own_i2]
   try simp only [Int64.zero_add, Int64.add_zero]
   try ac_rfl
 · simp only [Int64.lt_iff_toInt_lt] at a a'
   rw [own_afN (t := t1) (by omega), own_afN (t := t2) (by omega), own_afN (t := t3) (by omega), own_afP (t := t4) (by omega)]
   rw [own_i1]
   try simp only [Int64.zero_add, Int64.add_zero]
   try ac_rfl
def own_T_4_1 (q b t1 t2 t3 t4 o1 o2 o3 o4 v : Int64) : Prop := (¬ q < t4 ∧ v = 0) ∨ (q < t1 ∧ v = o4 - b) ∨ (¬ q < t1 ∧ q < t2 ∧ v = o4 - b) ∨ (¬ q < t2 ∧ q < t3 ∧ v = o4 - o2) ∨ (¬ q < t3 ∧ q < t4 ∧ v = o4 - o3)
theorem own_f_4_1 {q b t1 t2 t3 t4 p1 p2 p3 p4 v : Int64} (s1 : t1 ≤ t2) (s2 : t2 ≤ t3) (s3 : t3 ≤ t4) (h : own_T_4_1 q b t1 t2 t3 t4 (b + p1) ((b + p1) + p2) (((b + p1) + p2) + p3) ((((b + p1) + p2) + p3) + p4) v) : v = ((((own_af q t1 (0 : Int64)) + (own_af q t2 (p2 + p1))) + (own_af q t3 p3)) + (own_af q t4 p4)) := by
 simp only [Int64.le_iff_toInt_le] at s1 s2 s3
 rcases h with ⟨a, rfl⟩ | ⟨a, rfl⟩ | ⟨a, a', rfl⟩ | ⟨a, a', rfl⟩ | ⟨a, a', rfl⟩
 · simp only [Int64.lt_iff_toInt_lt] at a
   rw [own_afN (t := t1) (by omega), own_afN (t := t2) (by omega), own_afN (t := t3) (by omega), own_afN (t := t4) (by omega)]
   rfl
 · simp only [Int64.lt_iff_toInt_lt] at a
   rw [own_afP (t := t1) (by omega), own_afP (t := t2) (by omega), own_afP (t := t3) (by omega), own_afP (t := t4) (by omega)]
   rw [own_i4]
   try simp only [Int64.zero_add, Int64.add_zero]
   try ac_rfl
 · simp only [Int64.lt_iff_toInt_lt] at a a'
   rw [own_afN (t := t1) (by omega), own_afP (t := t2) (by omega), own_afP (t := t3) (by omega), own_afP (t := t4) (by omega)]
   rw [own_i4]
   try simp only [Int64.zero_add, Int64.add_zero]
   try ac_rfl
 · simp only [Int64.lt_iff_toInt_lt] at a a'
   rw [own_afN (t := t1) (by omega), own_afN (t := t2) (by omega), own_afP (t := t3) (by omega), own_afP (t := t4) (by omega)]
   rw [own_i2]
   try simp only [Int64.zero_add, Int64.add_zero]
   try ac_rfl
 · simp only [Int64.lt_iff_toInt_lt] at a a'
   rw [own_afN (t := t1) (by omega), own_afN (t := t2) (by omega), own_afN (t := t3) (by omega), own_afP (t := t4) (by omega)]
   rw [own_i1]
   try simp only [Int64.zero_add, Int64.add_zero]
   try ac_rfl
def own_T_4_2 (q b t1 t2 t3 t4 o1 o2 o3 o4 v : Int64) : Prop := (¬ q < t4 ∧ v = 0) ∨ (q < t1 ∧ v = o4 - b) ∨ (¬ q < t1 ∧ q < t2 ∧ v = o4 - o1) ∨ (¬ q < t2 ∧ q < t3 ∧ v = o4 - o1) ∨ (¬ q < t3 ∧ q < t4 ∧ v = o4 - o3)
theorem own_f_4_2 {q b t1 t2 t3 t4 p1 p2 p3 p4 v : Int64} (s1 : t1 ≤ t2) (s2 : t2 ≤ t3) (s3 : t3 ≤ t4) (h : own_T_4_2 q b t1 t2 t3 t4 (b + p1) ((b + p1) + p2) (((b + p1) + p2) + p3) ((((b + p1) + p2) + p3) + p4) v) : v = ((((own_af q t1 p1) + (own_af q t2 (0 : Int64))) + (own_af q t3 (p3 + p2))) + (own_af q t4 p4)) := by
 simp only [Int64.le_iff_toInt_le] at s1 s2 s3
 rcases h with ⟨a, rfl⟩ | ⟨a, rfl⟩ | ⟨a, a', rfl⟩ | ⟨a, a', rfl⟩ | ⟨a, a', rfl⟩
 · simp only [Int64.lt_iff_toInt_lt] at a
   rw [own_afN (t := t1) (by omega), own_afN (t := t2) (by omega), own_afN (t := t3) (by omega), own_afN (t := t4) (by omega)]
   rfl
 · simp only [Int64.lt_iff_toInt_lt] at a
   rw [own_afP (t := t1) (by omega), own_afP (t := t2) (by omega), own_afP (t := t3) (by omega), own_afP (t := t4) (by omega)]
   rw [own_i4]
   try simp only [Int64.zero_add, Int64.add_zero]
   try ac_rfl
 · simp only [Int64.lt_iff_toInt_lt] at a a'
   rw [own_afN (t := t1) (by omega), own_afP (t := t2) (by omega), own_afP (t := t3) (by omega), own_afP (t := t4) (by omega)]
   rw [own_i3]
   try simp only [Int64.zero_add, Int64.add_zero]
   try ac_rfl
 · simp only [Int64.lt_iff_toInt_lt] at a a'
   rw [own_afN (t := t1) (by omega), own_afN (t := t2) (by omega), own_afP (t := t3) (by omega), own_afP (t := t4) (by omega)]
   rw [own_i3]
   try simp only [Int64.zero_add, Int64.add_zero]
   try ac_rfl
 · simp only [Int64.lt_iff_toInt_lt] at a a'
   rw [own_afN (t := t1) (by omega), own_afN (t := t2) (by omega), own_afN (t := t3) (by omega), own_afP (t := t4) (by omega)]
   rw [own_i1]
   try simp only [Int64.zero_add, Int64.add_zero]
   try ac_rfl
def own_T_4_3 (q b t1 t2 t3 t4 o1 o2 o3 o4 v : Int64) : Prop := (¬ q < t4 ∧ v = 0) ∨ (q < t1 ∧ v = o4 - b) ∨ (¬ q < t1 ∧ q < t2 ∧ v = o4 - o1) ∨ (¬ q < t2 ∧ q < t3 ∧ v = o4 - o2) ∨ (¬ q < t3 ∧ q < t4 ∧ v = o4 - o2)
theorem own_f_4_3 {q b t1 t2 t3 t4 p1 p2 p3 p4 v : Int64} (s1 : t1 ≤ t2) (s2 : t2 ≤ t3) (s3 : t3 ≤ t4) (h : own_T_4_3 q b t1 t2 t3 t4 (b + p1) ((b + p1) + p2) (((b + p1) + p2) + p3) ((((b + p1) + p2) + p3) + p4) v) : v = ((((own_af q t1 p1) + (own_af q t2 p2)) + (own_af q t3 (0 : Int64))) + (own_af q t4 (p4 + p3))) := by
 simp only [Int64.le_iff_toInt_le] at s1 s2 s3
 rcases h with ⟨a, rfl⟩ | ⟨a, rfl⟩ | ⟨a, a', rfl⟩ | ⟨a, a', rfl⟩ | ⟨a, a', rfl⟩
 · simp only [Int64.lt_iff_toInt_lt] at a
   rw [own_afN (t := t1) (by omega), own_afN (t := t2) (by omega), own_afN (t := t3) (by omega), own_afN (t := t4) (by omega)]
   rfl
 · simp only [Int64.lt_iff_toInt_lt] at a
   rw [own_afP (t := t1) (by omega), own_afP (t := t2) (by omega), own_afP (t := t3) (by omega), own_afP (t := t4) (by omega)]
   rw [own_i4]
   try simp only [Int64.zero_add, Int64.add_zero]
   try ac_rfl
 · simp only [Int64.lt_iff_toInt_lt] at a a'
   rw [own_afN (t := t1) (by omega), own_afP (t := t2) (by omega), own_afP (t := t3) (by omega), own_afP (t := t4) (by omega)]
   rw [own_i3]
   try simp only [Int64.zero_add, Int64.add_zero]
   try ac_rfl
 · simp only [Int64.lt_iff_toInt_lt] at a a'
   rw [own_afN (t := t1) (by omega), own_afN (t := t2) (by omega), own_afP (t := t3) (by omega), own_afP (t := t4) (by omega)]
   rw [own_i2]
   try simp only [Int64.zero_add, Int64.add_zero]
   try ac_rfl
 · simp only [Int64.lt_iff_toInt_lt] at a a'
   rw [own_afN (t := t1) (by omega), own_afN (t := t2) (by omega), own_afN (t := t3) (by omega), own_afP (t := t4) (by omega)]
   rw [own_i2]
   try simp only [Int64.zero_add, Int64.add_zero]
   try ac_rfl
theorem own_max' : oM.toInt = 9223372036854775807 := by decide
theorem own_nMx (x : Int64) : ¬ oM < x := by
 rw [Int64.lt_iff_toInt_lt, own_max']
 have := x.toInt_lt
 omega
theorem own_mM {x : Int64} : own_m x oM = x := if_neg (own_nMx x)
theorem own_Mm {x : Int64} (h : x < oM) : own_m oM x = x := if_pos h
theorem own_b4_3 {s1 s2 : Int64} (h1 : s1 < oM) : (own_sh4 oM s1 s2 oM = 1 → ¬ s2 < s1) ∧ (own_sh4 oM s1 s2 oM = 2 → s2 < s1) := by
 unfold own_sh4
 rw [own_mM, own_Mm h1, if_neg (own_nMx s2), if_pos h1]
 by_cases p : s2 < s1
 · rw [if_pos p]; exact ⟨fun q => absurd q (by decide), fun _ => p⟩
 · rw [if_neg p]; exact ⟨fun _ => p, fun q => absurd q (by decide)⟩
theorem own_b8_3 {s1 s2 : Int64} (h1 : s1 < oM) : (own_sh8 oM s1 s2 oM oM oM oM oM = 1 → ¬ s2 < s1) ∧ (own_sh8 oM s1 s2 oM oM oM oM oM = 2 → s2 < s1) := by
 unfold own_sh8
 rw [own_mM, own_mM, own_mM, own_Mm h1, if_neg (own_nMx _), if_neg (own_nMx s2), if_pos h1]
 by_cases p : s2 < s1
 · rw [if_pos p]; exact ⟨fun q => absurd q (by decide), fun _ => p⟩
 · rw [if_neg p]; exact ⟨fun _ => p, fun q => absurd q (by decide)⟩
theorem own_b8_4 {s1 s2 s3 : Int64} (h1 : s1 < oM) : (own_sh8 oM s1 s2 s3 oM oM oM oM = 1 → ¬ s2 < s1 ∧ ¬ s3 < s1) ∧ (own_sh8 oM s1 s2 s3 oM oM oM oM = 2 → s2 < s1 ∧ ¬ s3 < s2) ∧ (own_sh8 oM s1 s2 s3 oM oM oM oM = 3 → (s2 < s1 ∧ s3 < s2) ∨ (¬ s2 < s1 ∧ s3 < s1)) := by
 unfold own_sh8
 rw [own_mM, own_mM, own_Mm h1, if_neg (own_nMx _), if_pos h1]
 by_cases r : s3 < s2
 · have e : own_m s2 s3 = s3 := if_pos r
   rw [e, if_pos r]
   by_cases p : s3 < s1
   · rw [if_pos p]
     refine ⟨fun q => absurd q (by decide), fun q => absurd q (by decide), fun _ => ?_⟩
     by_cases t : s2 < s1
     · exact Or.inl ⟨t, r⟩
     · exact Or.inr ⟨t, p⟩
   · rw [if_neg p]
     refine ⟨fun _ => ⟨fun t => p ?_, p⟩, fun q => absurd q (by decide), fun q => absurd q (by decide)⟩
     rw [Int64.lt_iff_toInt_lt] at *; omega
 · have e : own_m s2 s3 = s2 := if_neg r
   rw [e, if_neg r]
   by_cases p : s2 < s1
   · rw [if_pos p]; exact ⟨fun q => absurd q (by decide), fun _ => ⟨p, r⟩, fun q => absurd q (by decide)⟩
   · rw [if_neg p]
     refine ⟨fun _ => ⟨p, fun t => p ?_⟩, fun q => absurd q (by decide), fun q => absurd q (by decide)⟩
     rw [Int64.lt_iff_toInt_lt] at *; omega

section OwnFj
/-- an array of longs as a function of its places -/
def own_Fj (Z : State) (h : Heap) (a : Addr) (z : Int32) (f : Int32 → Int64) : Prop := ∃ c : Cell, Arr Z h a c .long ∧ c.slots.size = z.toNatClampNeg ∧ ¬ z < 0 ∧ ∀ j : Int32, ¬ j < 0 → j < z → c.slots[j.toNatClampNeg]? = some (.long (f j))
def own_Fa (Z : State) (h : Heap) (a : Addr) (ty : FieldType) (z : Int32) (f : Int32 → Int32) : Prop := ∃ c : Cell, Arr Z h a c ty ∧ c.slots.size = z.toNatClampNeg ∧ ¬ z < 0 ∧ ∀ j : Int32, ¬ j < 0 → j < z → c.slots[j.toNatClampNeg]? = some (.int (f j))
variable {Z : State} {h h' : Heap} {a b : Addr} {ty : FieldType} {z : Int32} {f : Int32 → Int64} {g : Int32 → Int32} {p : Program} {l : Launch} {e : Env} {R : Room} {s : State} {m : MethodId} {args : Array Value} {below : List Frame} {meth : Method} {c : Code} {T T' : State} {locs : List Loc} {cells slots : Nat} {a0 : Array Value} {code : ByteArray} {ml n0 : Nat} {own : String} {L : Array Slot} {S : List Value} {pc : Nat} {G : State → Prop}
theorem own_Fj.lt (F : own_Fj Z h a z f) : a < h.size := by obtain ⟨c, A, -⟩ := F; exact A.lt
theorem own_Fj.ext (F : own_Fj Z h a z f) (E : Ext h h') : own_Fj Z h' a z f := by obtain ⟨c, A, r⟩ := F; exact ⟨c, A.ext E, r⟩
theorem own_Fj.other {sl : Nat} {v : Value} (F : own_Fj Z h a z f) (W : Wr h h' b sl v) (q : a ≠ b) : own_Fj Z h' a z f := by obtain ⟨c, A, r⟩ := F; exact ⟨c, A.other W q, r⟩
theorem own_Fj.keep {ws : List Addr} (F : own_Fj Z h a z f) (K : Keep h h' ws) (q : a ∉ ws) : own_Fj Z h' a z f := by obtain ⟨c, A, r⟩ := F; exact ⟨c, ⟨K.2.1 a c A.1 q, A.2⟩, r⟩
theorem own_Fj.low (F : own_Fj Z h a z f) (L : own_Lo h n0 h') (q : a < n0) : own_Fj Z h' a z f := by obtain ⟨c, A, r⟩ := F; exact ⟨c, ⟨L a c q A.1, A.2⟩, r⟩
theorem own_Fa.lt (F : own_Fa Z h a ty z g) : a < h.size := by obtain ⟨c, A, -⟩ := F; exact A.lt
theorem own_Fa.ext (F : own_Fa Z h a ty z g) (E : Ext h h') : own_Fa Z h' a ty z g := by obtain ⟨c, A, r⟩ := F; exact ⟨c, A.ext E, r⟩
theorem own_Fa.other {sl : Nat} {v : Value} (F : own_Fa Z h a ty z g) (W : Wr h h' b sl v) (q : a ≠ b) : own_Fa Z h' a ty z g := by obtain ⟨c, A, r⟩ := F; exact ⟨c, A.other W q, r⟩
theorem own_Fa.keep {ws : List Addr} (F : own_Fa Z h a ty z g) (K : Keep h h' ws) (q : a ∉ ws) : own_Fa Z h' a ty z g := by obtain ⟨c, A, r⟩ := F; exact ⟨c, ⟨K.2.1 a c A.1 q, A.2⟩, r⟩
theorem own_Fa.low (F : own_Fa Z h a ty z g) (L : own_Lo h n0 h') (q : a < n0) : own_Fa Z h' a ty z g := by obtain ⟨c, A, r⟩ := F; exact ⟨c, ⟨L a c q A.1, A.2⟩, r⟩
theorem own_Fj.set {j : Int32} {v : Int64} {c : Cell} (A : Arr Z h a c .long) (S : c.slots.size = z.toNatClampNeg) (Nz : ¬ z < 0) (H : ∀ j : Int32, ¬ j < 0 → j < z → c.slots[j.toNatClampNeg]? = some (.long (f j))) (hj : ¬ j < 0 ∧ j < z) (W : Wr h h' a j.toNatClampNeg (.long v)) : own_Fj Z h' a z (fun i => if i = j then v else f i) := by
 refine ⟨_, A.same W, by rw [sz_set]; exact S, Nz, fun i h1 h2 => ?_⟩
 by_cases q : i = j
 · rw [get_hit (inb_of S hj) q]; simp [q]
 · rw [get_miss hj.1 h1 q, H i h1 h2]; simp [q]
theorem own_Fa.set {j v : Int32} {c : Cell} (A : Arr Z h a c ty) (S : c.slots.size = z.toNatClampNeg) (Nz : ¬ z < 0) (H : ∀ j : Int32, ¬ j < 0 → j < z → c.slots[j.toNatClampNeg]? = some (.int (g j))) (hj : ¬ j < 0 ∧ j < z) (W : Wr h h' a j.toNatClampNeg (.int v)) : own_Fa Z h' a ty z (fun i => if i = j then v else g i) := by
 refine ⟨_, A.same W, by rw [sz_set]; exact S, Nz, fun i h1 h2 => ?_⟩
 by_cases q : i = j
 · rw [get_hit (inb_of S hj) q]; simp [q]
 · rw [get_miss hj.1 h1 q, H i h1 h2]; simp [q]
theorem own_Fj.of_arv {k : ClassId} {vs : List Value} {es : List Int64} (F : Arv Z h a k .long z vs oZ) (e : vs = es.map Value.long) : own_Fj Z h a z (fun i => es.getD i.toNatClampNeg 0) := by
 obtain ⟨c, A, -, S, Nz, H, -⟩ := F
 refine ⟨c, A, S, Nz, fun j h1 h2 => ?_⟩
 refine H.at (inb_of S ⟨h1, h2⟩) ?_
 subst e
 simp only [List.getD_eq_getElem?_getD, List.getElem?_map]
 cases es[j.toNatClampNeg]? <;> rfl
theorem own_Fa.of_arv {k : ClassId} {vs : List Value} {es : List Int32} (F : Arv Z h a k ty z vs (.int 0)) (e : vs = es.map Value.int) : own_Fa Z h a ty z (fun i => es.getD i.toNatClampNeg 0) := by
 obtain ⟨c, A, -, S, Nz, H, -⟩ := F
 refine ⟨c, A, S, Nz, fun j h1 h2 => ?_⟩
 refine H.at (inb_of S ⟨h1, h2⟩) ?_
 subst e
 simp only [List.getD_eq_getElem?_getD, List.getElem?_map]
 cases es[j.toNatClampNeg]? <;> rfl
theorem fJ (C : own_C p c code ml s m own Z a0) (X : Stand p l e R s m args below meth c T locs cells slots) (eT : T.heap = h) (V : own_Fj Z h a z f) {j : Int32} (hj : ¬ j < 0 ∧ j < z) {pc' : Nat} (hd : decode code pc' = .ok (.laload, 1)) (F : own_Fin p e below G T (mkF m (pc' + 1) L (.long (f j) :: S))) (hp : pc = pc' := by rfl) : own_Fin p e below G T (mkF m pc L (.int j :: .ref a :: S)) := by
 subst hp
 obtain ⟨cl, Ar, Sz, Nz, Hh⟩ := V
 exact F.st fun t q => X.laload C.1 (by rw [eT]; exact Ar.1) (State.isArrayOf_alike C.z.alike Ar.2.1) Ar.2.2 (inb_of Sz hj) (Hh _ hj.1 hj.2) (g := mkF m pc L (.int j :: .ref a :: S)) rfl rfl (C.d hd) _ q
theorem fZ (C : own_C p c code ml s m own Z a0) (X : Stand p l e R s m args below meth c T locs cells slots) (eT : T.heap = h) (V : own_Fa Z h a .boolean z g) {j : Int32} (hj : ¬ j < 0 ∧ j < z) {pc' : Nat} (hd : decode code pc' = .ok (.baload, 1)) (F : own_Fin p e below G T (mkF m (pc' + 1) L (.int (g j) :: S))) (hp : pc = pc' := by rfl) : own_Fin p e below G T (mkF m pc L (.int j :: .ref a :: S)) := by
 subst hp
 obtain ⟨cl, Ar, Sz, Nz, Hh⟩ := V
 exact F.st fun t q => X.baloadBooleans C.1 (by rw [eT]; exact Ar.1) (State.isArrayOf_alike C.z.alike Ar.2.1) Ar.2.2 (inb_of Sz hj) (Hh _ hj.1 hj.2) (g := mkF m pc L (.int j :: .ref a :: S)) rfl rfl (C.d hd) _ q
theorem xJ (C : own_C p c code ml s m own Z a0) (X : Stand p l e R s m args below meth c T locs cells slots) (eT : T.heap = h) (N : Fr n0 locs) (ga : n0 ≤ a) (V : own_Fj Z h a z f) {j : Int32} {v : Int64} (hj : ¬ j < 0 ∧ j < z) {pc' : Nat} (hd : decode code pc' = .ok (.lastore, 1))
   (k : ∀ T' h' lo, Stand p l e R s m args below meth c T' lo cells slots → T'.heap = h' → Fr n0 lo → Wr h h' a j.toNatClampNeg (.long v) → own_Fj Z h' a z (fun i => if i = j then v else f i) → own_Fin p e below G T' (mkF m (pc' + 1) L S)) (hp : pc = pc' := by rfl) : own_Fin p e below G T (mkF m pc L (.long v :: .int j :: .ref a :: S)) := by
 subst hp
 obtain ⟨cl, Ar, Sz, Nz, Hh⟩ := V
 obtain ⟨T', h', X', e', W, st⟩ := stJ X C.1 C.z eT Ar (j := j) (inb_of Sz hj) (g := mkF m pc L (.long v :: .int j :: .ref a :: S)) rfl rfl (C.d hd)
 exact (k T' h' _ X' e' (Fr.snoc X' N ga) W (own_Fj.set Ar Sz Nz Hh hj W)).st st
theorem xZ (C : own_C p c code ml s m own Z a0) (X : Stand p l e R s m args below meth c T locs cells slots) (eT : T.heap = h) (N : Fr n0 locs) (ga : n0 ≤ a) (V : own_Fa Z h a .boolean z g) {j v : Int32} (hj : ¬ j < 0 ∧ j < z) {pc' : Nat} (hd : decode code pc' = .ok (.bastore, 1))
   (k : ∀ T' h' lo, Stand p l e R s m args below meth c T' lo cells slots → T'.heap = h' → Fr n0 lo → Wr h h' a j.toNatClampNeg (.int (nar .boolean v)) → own_Fa Z h' a .boolean z (fun i => if i = j then (nar .boolean v) else g i) → own_Fin p e below G T' (mkF m (pc' + 1) L S)) (hp : pc = pc' := by rfl) : own_Fin p e below G T (mkF m pc L (.int v :: .int j :: .ref a :: S)) := by
 subst hp
 obtain ⟨cl, Ar, Sz, Nz, Hh⟩ := V
 obtain ⟨T', h', X', e', W, st⟩ := stZ X C.1 C.z eT Ar (j := j) (inb_of Sz hj) (g := mkF m pc L (.int v :: .int j :: .ref a :: S)) rfl rfl (C.d hd)
 exact (k T' h' _ X' e' (Fr.snoc X' N ga) W (own_Fa.set Ar Sz Nz Hh hj W)).st st
theorem nZ (C : own_C p c code ml s m own Z a0) (X : Stand p l e R s m args below meth c T locs cells slots) (eT : T.heap = h) {n : Int32} (cap : Nat) (w : (Cond.arrayClass .boolean).before a0 Z = true) {pc' : Nat} (hd : decode code pc' = .ok (.newarray .boolean, 2))
   (k : ∀ T' h' cA b, b = h.size → Stand p l e R s m args below meth c T' locs (cells + 1) (slots + cap) → T'.heap = h' → Ext h h' → Arv Z h' b cA .boolean n (List.replicate cap (.int 0)) (.int 0) → own_Fa Z h' b .boolean n (fun _ => 0) → own_Fin p e below G T' (mkF m (pc' + 2) L (.ref b :: S))) (hp : pc = pc' := by rfl) (hn : ¬ n < 0 := by decide) (hcap : n.toNatClampNeg ≤ cap := by decide) (hb : cap * 8 ≤ 536870912 := by decide) (hc : cells + 1 ≤ R.cells := by decide) (hl : slots + cap ≤ R.slots := by decide) : own_Fin p e below G T (mkF m pc L (.int n :: S)) := by
 subst hp
 obtain ⟨T', h', cA, X', e', E, A, st⟩ := newP X C.1 C.z (aty := .boolean) w eT (g := mkF m pc L (.int n :: S)) rfl (C.d hd) rfl hn hcap hb hc hl
 have V0 : Arv Z h' h.size cA .boolean n [] (.int 0) := Arv.new A hn
 exact (k T' h' cA _ rfl X' e' E (V0.pad (pad_rep [] (.int 0) cap)) (own_Fa.of_arv (es := []) V0 rfl)).st st
theorem sW (C : own_C p c code ml s m own Z a0) (X : Stand p l e R s m args below meth c T locs cells slots) {x y : Value} {pc' : Nat} (hd : decode code pc' = .ok (.dup2, 1)) (F : own_Fin p e below G T (mkF m (pc' + 1) L (x :: y :: x :: y :: S))) (hp : pc = pc' := by rfl) (hx : x.category = 1 := by rfl) (hy : y.category = 1 := by rfl) : own_Fin p e below G T (mkF m pc L (x :: y :: S)) := by
 subst hp
 exact F.st fun t k => by jvm_step X.here [X.here.top, C.1, C.d hd, hx, hy]; exact k
/-- a flag: any of 0 and 1 -/
theorem own_bj (C : own_C p c code ml s m own Z a0) (X : Stand p l e R s m args below meth c T locs cells slots) {x : Int32} (pc' : Nat) (hd : decode code pc' = .ok (.ifCond .eq 7, 3)) (hd1 : decode code (pc' + 3) = .ok (.iconst 1, 1)) (hd2 : decode code (pc' + 4) = .ok (.goto 4, 3)) (hd3 : decode code (pc' + 7) = .ok (.iconst 0, 1)) (F : ∀ z : Int32, z = 0 ∨ z = 1 → own_Fin p e below G T (mkF m (pc' + 8) L (.int z :: S))) (hp : pc = pc' := by rfl) : own_Fin p e below G T (mkF m pc L (.int x :: S)) := by
 subst hp
 by_cases h : x = 0
 · exact bY C X hd (pc + 7) ((if0 _ _).trans (teq h).1) (sC C X hd3 (F 0 (Or.inl rfl))) rfl (by omega) (by omega)
 · exact bN C X hd ((if0 _ _).trans (feq h).1) (sC C X hd1 (sG C X hd2 (pc + 8) (F 1 (Or.inr rfl)) rfl (by omega) (by omega)))
end OwnFj
section OwnRN
variable {p : Program} {l : Launch} {e : Env} {R : Room} {s : State} {m : MethodId} {args : Array Value} {below : List Frame} {meth : Method} {c : Code} {T T' : State} {locs : List Loc} {cells slots : Nat} {Z : State} {a0 : Array Value} {h h' h0 : Heap} {code : ByteArray} {ml n0 : Nat} {own : String} {L : Array Slot} {S rest : List Value} {pc : Nat} {a b x : Addr} {Q : Option Value → Heap → List Loc → Prop} {G : State → Prop} {EL : List (String × Nat)} {vm vm1 : Vm} {k1 : Nat}
theorem rN (C : own_C p c code ml s m own Z a0) (X : Stand p l e R s m args below meth c T locs cells slots) (eT : T.heap = h) {z : Int32} {t : FieldType} (ht : t = .boolean ∨ t = .byte ∨ t = .char ∨ t = .short) (hret : meth.sig.returnType = some t ∧ meth.locks = false) {pc' : Nat} (hd : decode code pc' = .ok (.ireturn, 1)) (q : Q (some (.int (nar t z))) h locs) (hp : pc = pc' := by rfl) (h1 : cells ≤ R.cells := by decide) (h2 : slots ≤ R.slots := by decide) : own_Fin p e below (own_E R s below Q) T (mkF m pc L (.int z :: S)) := by
 obtain ⟨fs, hr, hrun, hended, hW, hsame⟩ := X.leave (v := (some (.int (nar t z)))) (fun u => by rw [hret.1] at u; cases u) hret.2
 exact ⟨T.setFrames fs, ⟨_, locs, hrun, hended, eT ▸ q, hW, hsame.mono h1 h2⟩, retN X C.1 (t := t) hret.1 ht (C.d (hp ▸ hd)) hr⟩
end OwnRN
def own_TP (Z : State) (h : Heap) (a : Addr) (rT : Addr) (rO : Addr) (rE : Addr) (rW : Addr) (kW : ClassId) (fi : Int32) (en : Int32) (sz : Int32) (bs : Int64) (w : Int64) (n : Int32) (tf : Int32 → Int64) (of : Int32 → Int64) : Prop := Exa Z h a oL ∧ Fld Z h a oL "times" "[J" (.ref rT) ∧ Fld Z h a oL "totals" "[J" (.ref rO) ∧ Fld Z h a oL "entries" "Ljava/util/BitSet;" (.ref rE) ∧ Fld Z h a oL "first" "I" (.int fi) ∧ Fld Z h a oL "end" "I" (.int en) ∧ Fld Z h a oL "size" "I" (.int sz) ∧ Fld Z h a oL "base" "J" (.long bs) ∧ Exa Z h rE oB ∧ Fld Z h rE oB "wordsInUse" "I" (.int 1) ∧ Fld Z h rE oB "sizeIsSticky" "Z" (.int 1) ∧ Fld Z h rE oB "words" "[J" (.ref rW) ∧ own_Fj Z h rT n tf ∧ own_Fj Z h rO n of ∧ Arv Z h rW kW .long (1 : Int32) [(.long w)] oZ ∧ Sta Z h oB "$assertionsDisabled" "Z" (.int 1) ∧ ((fi = 0 ∧ en = 1) ∨ (fi = 1 ∧ en = 2) ∨ (fi = 0 ∧ en = 2) ∨ (fi = 0 ∧ en = 3) ∨ (fi = 0 ∧ en = 4)) ∧ ¬ n < en
def own_J (fi en : Int32) (tf : Int32 → Int64) (q : Int64) (j : Int32) : Prop := ¬ j < 0 ∧ (j >>> ((6 : Int32) &&& 31)) = 0 ∧ ¬ j < fi ∧ j < en ∧ (j = fi ∨ ¬ q < tf (j - 1)) ∧ q < tf j
def own_tb (i : Int32) (w bs : Int64) (of : Int32 → Int64) : Int64 := if i = 0 then bs else if own_psb (i - 1) w < 0 then bs else of (own_psb (i - 1) w)
def own_okI (i n : Int32) (w : Int64) : Prop := i = 0 ∨ (¬ i = 0 ∧ ¬ (i - 1) < 0 ∧ ((i - 1) >>> ((6 : Int32) &&& 31)) = 0 ∧ (own_psb (i - 1) w < 0 ∨ (¬ own_psb (i - 1) w < 0 ∧ own_psb (i - 1) w < n)))
theorem own_x1 {fi en n : Int32} (h : (fi = 0 ∧ en = 1) ∨ (fi = 1 ∧ en = 2) ∨ (fi = 0 ∧ en = 2) ∨ (fi = 0 ∧ en = 3) ∨ (fi = 0 ∧ en = 4)) (q : ¬ n < en) : ¬ (en - 1) < 0 ∧ (en - 1) < n := by
 rw [Int32.lt_iff_toInt_lt] at q
 rcases h with ⟨-, rfl⟩ | ⟨-, rfl⟩ | ⟨-, rfl⟩ | ⟨-, rfl⟩ | ⟨-, rfl⟩ <;> refine ⟨by decide, ?_⟩ <;> rw [Int32.lt_iff_toInt_lt]
 · exact Int.lt_of_lt_of_le (by decide : ((1 : Int32) - 1).toInt < (1 : Int32).toInt) (Int.not_lt.mp q)
 · exact Int.lt_of_lt_of_le (by decide : ((2 : Int32) - 1).toInt < (2 : Int32).toInt) (Int.not_lt.mp q)
 · exact Int.lt_of_lt_of_le (by decide : ((2 : Int32) - 1).toInt < (2 : Int32).toInt) (Int.not_lt.mp q)
 · exact Int.lt_of_lt_of_le (by decide : ((3 : Int32) - 1).toInt < (3 : Int32).toInt) (Int.not_lt.mp q)
 · exact Int.lt_of_lt_of_le (by decide : ((4 : Int32) - 1).toInt < (4 : Int32).toInt) (Int.not_lt.mp q)
theorem own_x2 {i en n : Int32} (h0 : ¬ i < 0) (h : i < en) (q : ¬ n < en) : ¬ i < 0 ∧ i < n := ⟨h0, by rw [Int32.lt_iff_toInt_lt] at *; omega⟩
theorem dip : oDe oc28 0 (.iload 6) 2:=by decide+kernel
theorem div : oDe oc28 2 (.istore 7) 2:=by decide+kernel
theorem diJ : oDe oc28 4 (.aload_n 0) 1:=by decide+kernel
theorem diQ : oDe oc28 5 (.getfield 35) 3:=by decide+kernel
theorem diU : oDe oc28 8 (.istore 8) 2:=by decide+kernel
theorem diq : oDe oc28 10 (.iload 7) 2:=by decide+kernel
theorem dir : oDe oc28 12 (.iload 8) 2:=by decide+kernel
theorem dis : oDe oc28 14 (.if_icmp .ge 40) 3:=by decide+kernel
theorem dit : oDe oc28 17 (.iload 7) 2:=by decide+kernel
theorem diu : oDe oc28 19 (.iload 8) 2:=by decide+kernel
theorem diw : oDe oc28 21 (.iadd) 1:=by decide+kernel
theorem dix : oDe oc28 22 (.iconst 1) 1:=by decide+kernel
theorem diy : oDe oc28 23 (.iushr) 1:=by decide+kernel
theorem diz : oDe oc28 24 (.istore 9) 2:=by decide+kernel
theorem diA : oDe oc28 26 (.aload_n 1) 1:=by decide+kernel
theorem diB : oDe oc28 27 (.iload 9) 2:=by decide+kernel
theorem diC : oDe oc28 29 (.laload) 1:=by decide+kernel
theorem diD : oDe oc28 30 (.lload_n 2) 1:=by decide+kernel
theorem diE : oDe oc28 31 (.lsub) 1:=by decide+kernel
theorem diF : oDe oc28 32 (.lload 4) 2:=by decide+kernel
theorem diG : oDe oc28 34 (.lcmp) 1:=by decide+kernel
theorem diH : oDe oc28 35 (.ifCond .le 10) 3:=by decide+kernel
theorem diI : oDe oc28 38 (.iload 9) 2:=by decide+kernel
theorem diK : oDe oc28 40 (.istore 8) 2:=by decide+kernel
theorem diL : oDe oc28 42 (.goto 9) 3:=by decide+kernel
theorem diR : oDe oc28 51 (.goto (-41)) 3:=by decide+kernel
theorem diS : oDe oc28 54 (.iload 7) 2:=by decide+kernel
theorem diT : oDe oc28 56 (.ireturn) 1:=by decide+kernel
theorem pn_28 : plainName oL = true := by first | (simp [plainName, overriddenIn]; done) | decide +kernel
theorem fag (m : MethodId) (y0 : Addr) (y1 : Addr) (y2 : Int64) (y3 : Int64) (y4 : Int32) : entryFrame m #[(.ref y0), (.ref y1), (.long y2), (.long y3), (.int y4)] 10 = mkF m 0 #[.val (.ref y0), .val (.ref y1), .val (.long y2), .second, .val (.long y3), .second, .val (.int y4), .unset, .unset, .unset] [] := by first | (simp [entryFrame, mkF, argsToLocals, Value.category]; done) | rfl
theorem rmF_0_1 (hw : own_T Z a0) (a : Addr) (rT : Addr) (rO : Addr) (rE : Addr) (rW : Addr) (kW : ClassId) (sz : Int32) (bs : Int64) (w : Int64) (n : Int32) (tf : Int32 → Int64) (of : Int32 → Int64) (q : Int64) (h0 : Heap) (n0 : Nat) (Z0 : n0 ≤ h0.size) (TP : own_TP Z h0 a rT rO rE rW kW (0 : Int32) (1 : Int32) sz bs w n tf of) (hq : q < tf (0 : Int32)) :
   own_Met l oy28 oc28 10 (some .int) (oRm 0 0 0 0) Z h0 #[(.ref a), (.ref rT), oZ, (.long q), (.int 0)] (fun v h L => (∃ j, v = some (.int j) ∧ own_J (0 : Int32) (1 : Int32) tf q j) ∧ Fr n0 L ∧ h = h0) := by
 refine own_go hw (plainFor_of_name pn_28) (fun m => fag m a rT (0 : Int64) q (0 : Int32)) fun p e s m below meth c T0 C hret X u => ?_
 have N := Fr.nil n0
 obtain ⟨Ea, Ft, Fo, Fe, Ff, Fn, Fs, Fb, Ee, Fu, Fk, Fw, Bt, Bo, Vw, Sd, hp, hne⟩ := id TP
 refine si C X dip ?_
 refine wi C X #[.val (.ref a), .val (.ref rT), .val oZ, .second, .val (.long q), .second, .val (.int 0), .val (.int 0), .unset, .unset] div ?_
 refine sA C X diJ ?_
 refine gF C X u Fn (wcL C.w) diQ fun _ X u => ?_
 refine wi C X #[.val (.ref a), .val (.ref rT), .val oZ, .second, .val (.long q), .second, .val (.int 0), .val (.int 0), .val (.int 1), .unset] diU ?_
 refine si C X diq ?_
 refine si C X dir ?_
 refine cN C X dis (by decide) ?_
 refine si C X dit ?_
 refine si C X diu ?_
 refine sP C X diw ?_
 refine sC C X dix ?_
 refine sR C X diy ?_
 refine wi C X #[.val (.ref a), .val (.ref rT), .val oZ, .second, .val (.long q), .second, .val (.int 0), .val (.int 0), .val (.int 1), .val (.int 0)] diz ?_
 refine sA C X diA ?_
 refine si C X diB ?_
 refine fJ C X u Bt (own_x2 (by decide) (by decide : (0 : Int32) < (1 : Int32)) hne) diC ?_
 refine sL C X diD ?_
 refine tS C X diE ?_
 refine sl C X diF ?_
 refine tC C X diG ?_
 refine bN C X diH ((if0 _ _).trans (tlt ((lw_gt _ _).mpr (by rw [Int64.sub_zero]; exact hq))).2.2.2) ?_
 refine si C X diI ?_
 refine wi C X #[.val (.ref a), .val (.ref rT), .val oZ, .second, .val (.long q), .second, .val (.int 0), .val (.int 0), .val (.int 0), .val (.int 0)] diK ?_
 refine sG C X diL 51 ?_
 refine sG C X diR 10 ?_
 refine si C X diq ?_
 refine si C X dir ?_
 refine cY C X dis 54 (by decide) ?_
 refine si C X diS ?_
 exact rI C X u hret diT ⟨⟨_, rfl, by decide, by decide, by decide, by decide, (Or.inl rfl), hq⟩, N, rfl⟩
theorem rmF_1_2 (hw : own_T Z a0) (a : Addr) (rT : Addr) (rO : Addr) (rE : Addr) (rW : Addr) (kW : ClassId) (sz : Int32) (bs : Int64) (w : Int64) (n : Int32) (tf : Int32 → Int64) (of : Int32 → Int64) (q : Int64) (h0 : Heap) (n0 : Nat) (Z0 : n0 ≤ h0.size) (TP : own_TP Z h0 a rT rO rE rW kW (1 : Int32) (2 : Int32) sz bs w n tf of) (hq : q < tf (1 : Int32)) :
   own_Met l oy28 oc28 10 (some .int) (oRm 0 0 0 0) Z h0 #[(.ref a), (.ref rT), oZ, (.long q), (.int 1)] (fun v h L => (∃ j, v = some (.int j) ∧ own_J (1 : Int32) (2 : Int32) tf q j) ∧ Fr n0 L ∧ h = h0) := by
 refine own_go hw (plainFor_of_name pn_28) (fun m => fag m a rT (0 : Int64) q (1 : Int32)) fun p e s m below meth c T0 C hret X u => ?_
 have N := Fr.nil n0
 obtain ⟨Ea, Ft, Fo, Fe, Ff, Fn, Fs, Fb, Ee, Fu, Fk, Fw, Bt, Bo, Vw, Sd, hp, hne⟩ := id TP
 refine si C X dip ?_
 refine wi C X #[.val (.ref a), .val (.ref rT), .val oZ, .second, .val (.long q), .second, .val (.int 1), .val (.int 1), .unset, .unset] div ?_
 refine sA C X diJ ?_
 refine gF C X u Fn (wcL C.w) diQ fun _ X u => ?_
 refine wi C X #[.val (.ref a), .val (.ref rT), .val oZ, .second, .val (.long q), .second, .val (.int 1), .val (.int 1), .val (.int 2), .unset] diU ?_
 refine si C X diq ?_
 refine si C X dir ?_
 refine cN C X dis (by decide) ?_
 refine si C X dit ?_
 refine si C X diu ?_
 refine sP C X diw ?_
 refine sC C X dix ?_
 refine sR C X diy ?_
 refine wi C X #[.val (.ref a), .val (.ref rT), .val oZ, .second, .val (.long q), .second, .val (.int 1), .val (.int 1), .val (.int 2), .val (.int 1)] diz ?_
 refine sA C X diA ?_
 refine si C X diB ?_
 refine fJ C X u Bt (own_x2 (by decide) (by decide : (1 : Int32) < (2 : Int32)) hne) diC ?_
 refine sL C X diD ?_
 refine tS C X diE ?_
 refine sl C X diF ?_
 refine tC C X diG ?_
 refine bN C X diH ((if0 _ _).trans (tlt ((lw_gt _ _).mpr (by rw [Int64.sub_zero]; exact hq))).2.2.2) ?_
 refine si C X diI ?_
 refine wi C X #[.val (.ref a), .val (.ref rT), .val oZ, .second, .val (.long q), .second, .val (.int 1), .val (.int 1), .val (.int 1), .val (.int 1)] diK ?_
 refine sG C X diL 51 ?_
 refine sG C X diR 10 ?_
 refine si C X diq ?_
 refine si C X dir ?_
 refine cY C X dis 54 (by decide) ?_
 refine si C X diS ?_
 exact rI C X u hret diT ⟨⟨_, rfl, by decide, by decide, by decide, by decide, (Or.inl rfl), hq⟩, N, rfl⟩
theorem diM : oDe oc28 45 (.iload 9) 2:=by decide+kernel
theorem diN : oDe oc28 47 (.iconst 1) 1:=by decide+kernel
theorem diO : oDe oc28 48 (.iadd) 1:=by decide+kernel
theorem diP : oDe oc28 49 (.istore 7) 2:=by decide+kernel
theorem rmF_0_2 (hw : own_T Z a0) (a : Addr) (rT : Addr) (rO : Addr) (rE : Addr) (rW : Addr) (kW : ClassId) (sz : Int32) (bs : Int64) (w : Int64) (n : Int32) (tf : Int32 → Int64) (of : Int32 → Int64) (q : Int64) (h0 : Heap) (n0 : Nat) (Z0 : n0 ≤ h0.size) (TP : own_TP Z h0 a rT rO rE rW kW (0 : Int32) (2 : Int32) sz bs w n tf of) (hq : q < tf (1 : Int32)) :
   own_Met l oy28 oc28 10 (some .int) (oRm 0 0 0 0) Z h0 #[(.ref a), (.ref rT), oZ, (.long q), (.int 0)] (fun v h L => (∃ j, v = some (.int j) ∧ own_J (0 : Int32) (2 : Int32) tf q j) ∧ Fr n0 L ∧ h = h0) := by
 refine own_go hw (plainFor_of_name pn_28) (fun m => fag m a rT (0 : Int64) q (0 : Int32)) fun p e s m below meth c T0 C hret X u => ?_
 have N := Fr.nil n0
 obtain ⟨Ea, Ft, Fo, Fe, Ff, Fn, Fs, Fb, Ee, Fu, Fk, Fw, Bt, Bo, Vw, Sd, hp, hne⟩ := id TP
 refine si C X dip ?_
 refine wi C X #[.val (.ref a), .val (.ref rT), .val oZ, .second, .val (.long q), .second, .val (.int 0), .val (.int 0), .unset, .unset] div ?_
 refine sA C X diJ ?_
 refine gF C X u Fn (wcL C.w) diQ fun _ X u => ?_
 refine wi C X #[.val (.ref a), .val (.ref rT), .val oZ, .second, .val (.long q), .second, .val (.int 0), .val (.int 0), .val (.int 2), .unset] diU ?_
 refine si C X diq ?_
 refine si C X dir ?_
 refine cN C X dis (by decide) ?_
 refine si C X dit ?_
 refine si C X diu ?_
 refine sP C X diw ?_
 refine sC C X dix ?_
 refine sR C X diy ?_
 refine wi C X #[.val (.ref a), .val (.ref rT), .val oZ, .second, .val (.long q), .second, .val (.int 0), .val (.int 0), .val (.int 2), .val (.int 1)] diz ?_
 refine sA C X diA ?_
 refine si C X diB ?_
 refine fJ C X u Bt (own_x2 (by decide) (by decide : (1 : Int32) < (2 : Int32)) hne) diC ?_
 refine sL C X diD ?_
 refine tS C X diE ?_
 refine sl C X diF ?_
 refine tC C X diG ?_
 refine bN C X diH ((if0 _ _).trans (tlt ((lw_gt _ _).mpr (by rw [Int64.sub_zero]; exact hq))).2.2.2) ?_
 refine si C X diI ?_
 refine wi C X #[.val (.ref a), .val (.ref rT), .val oZ, .second, .val (.long q), .second, .val (.int 0), .val (.int 0), .val (.int 1), .val (.int 1)] diK ?_
 refine sG C X diL 51 ?_
 refine sG C X diR 10 ?_
 refine si C X diq ?_
 refine si C X dir ?_
 refine cN C X dis (by decide) ?_
 refine si C X dit ?_
 refine si C X diu ?_
 refine sP C X diw ?_
 refine sC C X dix ?_
 refine sR C X diy ?_
 refine wi C X #[.val (.ref a), .val (.ref rT), .val oZ, .second, .val (.long q), .second, .val (.int 0), .val (.int 0), .val (.int 1), .val (.int 0)] diz ?_
 refine sA C X diA ?_
 refine si C X diB ?_
 refine fJ C X u Bt (own_x2 (by decide) (by decide : (0 : Int32) < (2 : Int32)) hne) diC ?_
 refine sL C X diD ?_
 refine tS C X diE ?_
 refine sl C X diF ?_
 refine tC C X diG ?_
 by_cases hb35_2 : q < ((tf (0 : Int32)) - (0 : Int64))
 · refine bN C X diH ((if0 _ _).trans (tlt ((lw_gt _ _).mpr hb35_2)).2.2.2) ?_
   refine si C X diI ?_
   refine wi C X #[.val (.ref a), .val (.ref rT), .val oZ, .second, .val (.long q), .second, .val (.int 0), .val (.int 0), .val (.int 0), .val (.int 0)] diK ?_
   refine sG C X diL 51 ?_
   refine sG C X diR 10 ?_
   refine si C X diq ?_
   refine si C X dir ?_
   refine cY C X dis 54 (by decide) ?_
   refine si C X diS ?_
   exact rI C X u hret diT ⟨⟨_, rfl, by decide, by decide, by decide, by decide, (Or.inl rfl), (by have z := hb35_2; rw [Int64.sub_zero] at z; exact z)⟩, N, rfl⟩
 · refine bY C X diH 45 ((if0 _ _).trans (flt (fun q => hb35_2 ((lw_gt _ _).mp q))).2.2.2) ?_
   refine si C X diM ?_
   refine sC C X diN ?_
   refine sP C X diO ?_
   refine wi C X #[.val (.ref a), .val (.ref rT), .val oZ, .second, .val (.long q), .second, .val (.int 0), .val (.int 1), .val (.int 1), .val (.int 0)] diP ?_
   refine sG C X diR 10 ?_
   refine si C X diq ?_
   refine si C X dir ?_
   refine cY C X dis 54 (by decide) ?_
   refine si C X diS ?_
   exact rI C X u hret diT ⟨⟨_, rfl, by decide, by decide, by decide, by decide, (Or.inr (fun z => hb35_2 (by rw [Int64.sub_zero]; exact z))), hq⟩, N, rfl⟩
theorem rmF_0_3 (hw : own_T Z a0) (a : Addr) (rT : Addr) (rO : Addr) (rE : Addr) (rW : Addr) (kW : ClassId) (sz : Int32) (bs : Int64) (w : Int64) (n : Int32) (tf : Int32 → Int64) (of : Int32 → Int64) (q : Int64) (h0 : Heap) (n0 : Nat) (Z0 : n0 ≤ h0.size) (TP : own_TP Z h0 a rT rO rE rW kW (0 : Int32) (3 : Int32) sz bs w n tf of) (hq : q < tf (2 : Int32)) :
   own_Met l oy28 oc28 10 (some .int) (oRm 0 0 0 0) Z h0 #[(.ref a), (.ref rT), oZ, (.long q), (.int 0)] (fun v h L => (∃ j, v = some (.int j) ∧ own_J (0 : Int32) (3 : Int32) tf q j) ∧ Fr n0 L ∧ h = h0) := by
 refine own_go hw (plainFor_of_name pn_28) (fun m => fag m a rT (0 : Int64) q (0 : Int32)) fun p e s m below meth c T0 C hret X u => ?_
 have N := Fr.nil n0
 obtain ⟨Ea, Ft, Fo, Fe, Ff, Fn, Fs, Fb, Ee, Fu, Fk, Fw, Bt, Bo, Vw, Sd, hp, hne⟩ := id TP
 refine si C X dip ?_
 refine wi C X #[.val (.ref a), .val (.ref rT), .val oZ, .second, .val (.long q), .second, .val (.int 0), .val (.int 0), .unset, .unset] div ?_
 refine sA C X diJ ?_
 refine gF C X u Fn (wcL C.w) diQ fun _ X u => ?_
 refine wi C X #[.val (.ref a), .val (.ref rT), .val oZ, .second, .val (.long q), .second, .val (.int 0), .val (.int 0), .val (.int 3), .unset] diU ?_
 refine si C X diq ?_
 refine si C X dir ?_
 refine cN C X dis (by decide) ?_
 refine si C X dit ?_
 refine si C X diu ?_
 refine sP C X diw ?_
 refine sC C X dix ?_
 refine sR C X diy ?_
 refine wi C X #[.val (.ref a), .val (.ref rT), .val oZ, .second, .val (.long q), .second, .val (.int 0), .val (.int 0), .val (.int 3), .val (.int 1)] diz ?_
 refine sA C X diA ?_
 refine si C X diB ?_
 refine fJ C X u Bt (own_x2 (by decide) (by decide : (1 : Int32) < (3 : Int32)) hne) diC ?_
 refine sL C X diD ?_
 refine tS C X diE ?_
 refine sl C X diF ?_
 refine tC C X diG ?_
 by_cases hb35_2 : q < ((tf (1 : Int32)) - (0 : Int64))
 · refine bN C X diH ((if0 _ _).trans (tlt ((lw_gt _ _).mpr hb35_2)).2.2.2) ?_
   refine si C X diI ?_
   refine wi C X #[.val (.ref a), .val (.ref rT), .val oZ, .second, .val (.long q), .second, .val (.int 0), .val (.int 0), .val (.int 1), .val (.int 1)] diK ?_
   refine sG C X diL 51 ?_
   refine sG C X diR 10 ?_
   refine si C X diq ?_
   refine si C X dir ?_
   refine cN C X dis (by decide) ?_
   refine si C X dit ?_
   refine si C X diu ?_
   refine sP C X diw ?_
   refine sC C X dix ?_
   refine sR C X diy ?_
   refine wi C X #[.val (.ref a), .val (.ref rT), .val oZ, .second, .val (.long q), .second, .val (.int 0), .val (.int 0), .val (.int 1), .val (.int 0)] diz ?_
   refine sA C X diA ?_
   refine si C X diB ?_
   refine fJ C X u Bt (own_x2 (by decide) (by decide : (0 : Int32) < (3 : Int32)) hne) diC ?_
   refine sL C X diD ?_
   refine tS C X diE ?_
   refine sl C X diF ?_
   refine tC C X diG ?_
   by_cases hb35_3 : q < ((tf (0 : Int32)) - (0 : Int64))
   · refine bN C X diH ((if0 _ _).trans (tlt ((lw_gt _ _).mpr hb35_3)).2.2.2) ?_
     refine si C X diI ?_
     refine wi C X #[.val (.ref a), .val (.ref rT), .val oZ, .second, .val (.long q), .second, .val (.int 0), .val (.int 0), .val (.int 0), .val (.int 0)] diK ?_
     refine sG C X diL 51 ?_
     refine sG C X diR 10 ?_
     refine si C X diq ?_
     refine si C X dir ?_
     refine cY C X dis 54 (by decide) ?_
     refine si C X diS ?_
     exact rI C X u hret diT ⟨⟨_, rfl, by decide, by decide, by decide, by decide, (Or.inl rfl), (by have z := hb35_3; rw [Int64.sub_zero] at z; exact z)⟩, N, rfl⟩
   · refine bY C X diH 45 ((if0 _ _).trans (flt (fun q => hb35_3 ((lw_gt _ _).mp q))).2.2.2) ?_
     refine si C X diM ?_
     refine sC C X diN ?_
     refine sP C X diO ?_
     refine wi C X #[.val (.ref a), .val (.ref rT), .val oZ, .second, .val (.long q), .second, .val (.int 0), .val (.int 1), .val (.int 1), .val (.int 0)] diP ?_
     refine sG C X diR 10 ?_
     refine si C X diq ?_
     refine si C X dir ?_
     refine cY C X dis 54 (by decide) ?_
     refine si C X diS ?_
     exact rI C X u hret diT ⟨⟨_, rfl, by decide, by decide, by decide, by decide, (Or.inr (fun z => hb35_3 (by rw [Int64.sub_zero]; exact z))), (by have z := hb35_2; rw [Int64.sub_zero] at z; exact z)⟩, N, rfl⟩
 · refine bY C X diH 45 ((if0 _ _).trans (flt (fun q => hb35_2 ((lw_gt _ _).mp q))).2.2.2) ?_
   refine si C X diM ?_
   refine sC C X diN ?_
   refine sP C X diO ?_
   refine wi C X #[.val (.ref a), .val (.ref rT), .val oZ, .second, .val (.long q), .second, .val (.int 0), .val (.int 2), .val (.int 3), .val (.int 1)] diP ?_
   refine sG C X diR 10 ?_
   refine si C X diq ?_
   refine si C X dir ?_
   refine cN C X dis (by decide) ?_
   refine si C X dit ?_
   refine si C X diu ?_
   refine sP C X diw ?_
   refine sC C X dix ?_
   refine sR C X diy ?_
   refine wi C X #[.val (.ref a), .val (.ref rT), .val oZ, .second, .val (.long q), .second, .val (.int 0), .val (.int 2), .val (.int 3), .val (.int 2)] diz ?_
   refine sA C X diA ?_
   refine si C X diB ?_
   refine fJ C X u Bt (own_x2 (by decide) (by decide : (2 : Int32) < (3 : Int32)) hne) diC ?_
   refine sL C X diD ?_
   refine tS C X diE ?_
   refine sl C X diF ?_
   refine tC C X diG ?_
   refine bN C X diH ((if0 _ _).trans (tlt ((lw_gt _ _).mpr (by rw [Int64.sub_zero]; exact hq))).2.2.2) ?_
   refine si C X diI ?_
   refine wi C X #[.val (.ref a), .val (.ref rT), .val oZ, .second, .val (.long q), .second, .val (.int 0), .val (.int 2), .val (.int 2), .val (.int 2)] diK ?_
   refine sG C X diL 51 ?_
   refine sG C X diR 10 ?_
   refine si C X diq ?_
   refine si C X dir ?_
   refine cY C X dis 54 (by decide) ?_
   refine si C X diS ?_
   exact rI C X u hret diT ⟨⟨_, rfl, by decide, by decide, by decide, by decide, (Or.inr (fun z => hb35_2 (by rw [Int64.sub_zero]; exact z))), hq⟩, N, rfl⟩
theorem rmF_0_4 (hw : own_T Z a0) (a : Addr) (rT : Addr) (rO : Addr) (rE : Addr) (rW : Addr) (kW : ClassId) (sz : Int32) (bs : Int64) (w : Int64) (n : Int32) (tf : Int32 → Int64) (of : Int32 → Int64) (q : Int64) (h0 : Heap) (n0 : Nat) (Z0 : n0 ≤ h0.size) (TP : own_TP Z h0 a rT rO rE rW kW (0 : Int32) (4 : Int32) sz bs w n tf of) (hq : q < tf (3 : Int32)) :
   own_Met l oy28 oc28 10 (some .int) (oRm 0 0 0 0) Z h0 #[(.ref a), (.ref rT), oZ, (.long q), (.int 0)] (fun v h L => (∃ j, v = some (.int j) ∧ own_J (0 : Int32) (4 : Int32) tf q j) ∧ Fr n0 L ∧ h = h0) := by
 refine own_go hw (plainFor_of_name pn_28) (fun m => fag m a rT (0 : Int64) q (0 : Int32)) fun p e s m below meth c T0 C hret X u => ?_
 have N := Fr.nil n0
 obtain ⟨Ea, Ft, Fo, Fe, Ff, Fn, Fs, Fb, Ee, Fu, Fk, Fw, Bt, Bo, Vw, Sd, hp, hne⟩ := id TP
 refine si C X dip ?_
 refine wi C X #[.val (.ref a), .val (.ref rT), .val oZ, .second, .val (.long q), .second, .val (.int 0), .val (.int 0), .unset, .unset] div ?_
 refine sA C X diJ ?_
 refine gF C X u Fn (wcL C.w) diQ fun _ X u => ?_
 refine wi C X #[.val (.ref a), .val (.ref rT), .val oZ, .second, .val (.long q), .second, .val (.int 0), .val (.int 0), .val (.int 4), .unset] diU ?_
 refine si C X diq ?_
 refine si C X dir ?_
 refine cN C X dis (by decide) ?_
 refine si C X dit ?_
 refine si C X diu ?_
 refine sP C X diw ?_
 refine sC C X dix ?_
 refine sR C X diy ?_
 refine wi C X #[.val (.ref a), .val (.ref rT), .val oZ, .second, .val (.long q), .second, .val (.int 0), .val (.int 0), .val (.int 4), .val (.int 2)] diz ?_
 refine sA C X diA ?_
 refine si C X diB ?_
 refine fJ C X u Bt (own_x2 (by decide) (by decide : (2 : Int32) < (4 : Int32)) hne) diC ?_
 refine sL C X diD ?_
 refine tS C X diE ?_
 refine sl C X diF ?_
 refine tC C X diG ?_
 by_cases hb35_2 : q < ((tf (2 : Int32)) - (0 : Int64))
 · refine bN C X diH ((if0 _ _).trans (tlt ((lw_gt _ _).mpr hb35_2)).2.2.2) ?_
   refine si C X diI ?_
   refine wi C X #[.val (.ref a), .val (.ref rT), .val oZ, .second, .val (.long q), .second, .val (.int 0), .val (.int 0), .val (.int 2), .val (.int 2)] diK ?_
   refine sG C X diL 51 ?_
   refine sG C X diR 10 ?_
   refine si C X diq ?_
   refine si C X dir ?_
   refine cN C X dis (by decide) ?_
   refine si C X dit ?_
   refine si C X diu ?_
   refine sP C X diw ?_
   refine sC C X dix ?_
   refine sR C X diy ?_
   refine wi C X #[.val (.ref a), .val (.ref rT), .val oZ, .second, .val (.long q), .second, .val (.int 0), .val (.int 0), .val (.int 2), .val (.int 1)] diz ?_
   refine sA C X diA ?_
   refine si C X diB ?_
   refine fJ C X u Bt (own_x2 (by decide) (by decide : (1 : Int32) < (4 : Int32)) hne) diC ?_
   refine sL C X diD ?_
   refine tS C X diE ?_
   refine sl C X diF ?_
   refine tC C X diG ?_
   by_cases hb35_3 : q < ((tf (1 : Int32)) - (0 : Int64))
   · refine bN C X diH ((if0 _ _).trans (tlt ((lw_gt _ _).mpr hb35_3)).2.2.2) ?_
     refine si C X diI ?_
     refine wi C X #[.val (.ref a), .val (.ref rT), .val oZ, .second, .val (.long q), .second, .val (.int 0), .val (.int 0), .val (.int 1), .val (.int 1)] diK ?_
     refine sG C X diL 51 ?_
     refine sG C X diR 10 ?_
     refine si C X diq ?_
     refine si C X dir ?_
     refine cN C X dis (by decide) ?_
     refine si C X dit ?_
     refine si C X diu ?_
     refine sP C X diw ?_
     refine sC C X dix ?_
     refine sR C X diy ?_
     refine wi C X #[.val (.ref a), .val (.ref rT), .val oZ, .second, .val (.long q), .second, .val (.int 0), .val (.int 0), .val (.int 1), .val (.int 0)] diz ?_
     refine sA C X diA ?_
     refine si C X diB ?_
     refine fJ C X u Bt (own_x2 (by decide) (by decide : (0 : Int32) < (4 : Int32)) hne) diC ?_
     refine sL C X diD ?_
     refine tS C X diE ?_
     refine sl C X diF ?_
     refine tC C X diG ?_
     by_cases hb35_4 : q < ((tf (0 : Int32)) - (0 : Int64))
     · refine bN C X diH ((if0 _ _).trans (tlt ((lw_gt _ _).mpr hb35_4)).2.2.2) ?_
       refine si C X diI ?_
       refine wi C X #[.val (.ref a), .val (.ref rT), .val oZ, .second, .val (.long q), .second, .val (.int 0), .val (.int 0), .val (.int 0), .val (.int 0)] diK ?_
       refine sG C X diL 51 ?_
       refine sG C X diR 10 ?_
       refine si C X diq ?_
       refine si C X dir ?_
       refine cY C X dis 54 (by decide) ?_
       refine si C X diS ?_
       exact rI C X u hret diT ⟨⟨_, rfl, by decide, by decide, by decide, by decide, (Or.inl rfl), (by have z := hb35_4; rw [Int64.sub_zero] at z; exact z)⟩, N, rfl⟩
     · refine bY C X diH 45 ((if0 _ _).trans (flt (fun q => hb35_4 ((lw_gt _ _).mp q))).2.2.2) ?_
       refine si C X diM ?_
       refine sC C X diN ?_
       refine sP C X diO ?_
       refine wi C X #[.val (.ref a), .val (.ref rT), .val oZ, .second, .val (.long q), .second, .val (.int 0), .val (.int 1), .val (.int 1), .val (.int 0)] diP ?_
       refine sG C X diR 10 ?_
       refine si C X diq ?_
       refine si C X dir ?_
       refine cY C X dis 54 (by decide) ?_
       refine si C X diS ?_
       exact rI C X u hret diT ⟨⟨_, rfl, by decide, by decide, by decide, by decide, (Or.inr (fun z => hb35_4 (by rw [Int64.sub_zero]; exact z))), (by have z := hb35_3; rw [Int64.sub_zero] at z; exact z)⟩, N, rfl⟩
   · refine bY C X diH 45 ((if0 _ _).trans (flt (fun q => hb35_3 ((lw_gt _ _).mp q))).2.2.2) ?_
     refine si C X diM ?_
     refine sC C X diN ?_
     refine sP C X diO ?_
     refine wi C X #[.val (.ref a), .val (.ref rT), .val oZ, .second, .val (.long q), .second, .val (.int 0), .val (.int 2), .val (.int 2), .val (.int 1)] diP ?_
     refine sG C X diR 10 ?_
     refine si C X diq ?_
     refine si C X dir ?_
     refine cY C X dis 54 (by decide) ?_
     refine si C X diS ?_
     exact rI C X u hret diT ⟨⟨_, rfl, by decide, by decide, by decide, by decide, (Or.inr (fun z => hb35_3 (by rw [Int64.sub_zero]; exact z))), (by have z := hb35_2; rw [Int64.sub_zero] at z; exact z)⟩, N, rfl⟩
 · refine bY C X diH 45 ((if0 _ _).trans (flt (fun q => hb35_2 ((lw_gt _ _).mp q))).2.2.2) ?_
   refine si C X diM ?_
   refine sC C X diN ?_
   refine sP C X diO ?_
   refine wi C X #[.val (.ref a), .val (.ref rT), .val oZ, .second, .val (.long q), .second, .val (.int 0), .val (.int 3), .val (.int 4), .val (.int 2)] diP ?_
   refine sG C X diR 10 ?_
   refine si C X diq ?_
   refine si C X dir ?_
   refine cN C X dis (by decide) ?_
   refine si C X dit ?_
   refine si C X diu ?_
   refine sP C X diw ?_
   refine sC C X dix ?_
   refine sR C X diy ?_
   refine wi C X #[.val (.ref a), .val (.ref rT), .val oZ, .second, .val (.long q), .second, .val (.int 0), .val (.int 3), .val (.int 4), .val (.int 3)] diz ?_
   refine sA C X diA ?_
   refine si C X diB ?_
   refine fJ C X u Bt (own_x2 (by decide) (by decide : (3 : Int32) < (4 : Int32)) hne) diC ?_
   refine sL C X diD ?_
   refine tS C X diE ?_
   refine sl C X diF ?_
   refine tC C X diG ?_
   refine bN C X diH ((if0 _ _).trans (tlt ((lw_gt _ _).mpr (by rw [Int64.sub_zero]; exact hq))).2.2.2) ?_
   refine si C X diI ?_
   refine wi C X #[.val (.ref a), .val (.ref rT), .val oZ, .second, .val (.long q), .second, .val (.int 0), .val (.int 3), .val (.int 3), .val (.int 3)] diK ?_
   refine sG C X diL 51 ?_
   refine sG C X diR 10 ?_
   refine si C X diq ?_
   refine si C X dir ?_
   refine cY C X dis 54 (by decide) ?_
   refine si C X diS ?_
   exact rI C X u hret diT ⟨⟨_, rfl, by decide, by decide, by decide, by decide, (Or.inr (fun z => hb35_2 (by rw [Int64.sub_zero]; exact z))), hq⟩, N, rfl⟩
theorem own_fsp (hw : own_T Z a0) (a : Addr) (rT : Addr) (rO : Addr) (rE : Addr) (rW : Addr) (kW : ClassId) (fi : Int32) (en : Int32) (sz : Int32) (bs : Int64) (w : Int64) (n : Int32) (tf : Int32 → Int64) (of : Int32 → Int64) (q : Int64) (h0 : Heap) (n0 : Nat) (Z0 : n0 ≤ h0.size) (TP : own_TP Z h0 a rT rO rE rW kW fi en sz bs w n tf of) (hq : q < tf (en - 1)) : own_Met l oy28 oc28 10 (some .int) (oRm 0 0 0 0) Z h0 #[.ref a, .ref rT, .long (0 : Int64), .long q, .int fi] (fun v h L => (∃ j, v = some (.int j) ∧ own_J fi en tf q j) ∧ Fr n0 L ∧ h = h0) := by
 rcases TP.2.2.2.2.2.2.2.2.2.2.2.2.2.2.2.2.1 with ⟨rfl, rfl⟩ | ⟨rfl, rfl⟩ | ⟨rfl, rfl⟩ | ⟨rfl, rfl⟩ | ⟨rfl, rfl⟩
 · exact rmF_0_1 l Z a0 hw a rT rO rE rW kW sz bs w n tf of q h0 n0 Z0 TP hq
 · exact rmF_1_2 l Z a0 hw a rT rO rE rW kW sz bs w n tf of q h0 n0 Z0 TP hq
 · exact rmF_0_2 l Z a0 hw a rT rO rE rW kW sz bs w n tf of q h0 n0 Z0 TP hq
 · exact rmF_0_3 l Z a0 hw a rT rO rE rW kW sz bs w n tf of q h0 n0 Z0 TP hq
 · exact rmF_0_4 l Z a0 hw a rT rO rE rW kW sz bs w n tf of q h0 n0 Z0 TP hq
theorem did : oDe oc27 0 (.aload_n 0) 1:=by decide+kernel
theorem die : oDe oc27 1 (.getfield 27) 3:=by decide+kernel
theorem dil : oDe oc27 4 (.aload_n 0) 1:=by decide+kernel
theorem dim : oDe oc27 5 (.aload_n 0) 1:=by decide+kernel
theorem din : oDe oc27 6 (.getfield 9) 3:=by decide+kernel
theorem dio : oDe oc27 9 (.lconst 0) 1:=by decide+kernel
theorem dif : oDe oc27 10 (.lload_n 1) 1:=by decide+kernel
theorem dig : oDe oc27 11 (.aload_n 0) 1:=by decide+kernel
theorem dih : oDe oc27 12 (.getfield 54) 3:=by decide+kernel
theorem dii : oDe oc27 15 (.invokevirtual 46) 3:=by decide+kernel
theorem pap : parseMethodDescriptor "([JJJI)I" = some ⟨[(.array .long), .long, .long, .int], some .int⟩:=by decide+kernel
theorem dij : oDe oc27 18 (.invokevirtual 50) 3:=by decide+kernel
theorem dik : oDe oc27 21 (.ireturn) 1:=by decide+kernel
theorem pn_27 : plainName oL = true := by first | (simp [plainName, overriddenIn]; done) | decide +kernel
theorem faf (m : MethodId) (y0 : Addr) (y1 : Int64) : entryFrame m #[(.ref y0), (.long y1)] 3 = mkF m 0 #[.val (.ref y0), .val (.long y1), .second] [] := by first | (simp [entryFrame, mkF, argsToLocals, Value.category]; done) | rfl
theorem rmO_ (hw : own_T Z a0) (a : Addr) (rT : Addr) (rO : Addr) (rE : Addr) (rW : Addr) (kW : ClassId) (fi : Int32) (en : Int32) (sz : Int32) (bs : Int64) (w : Int64) (n : Int32) (tf : Int32 → Int64) (of : Int32 → Int64) (q : Int64) (h0 : Heap) (n0 : Nat) (Z0 : n0 ≤ h0.size) (TP : own_TP Z h0 a rT rO rE rW kW fi en sz bs w n tf of) (hq : q < tf (en - 1)) :
   own_Met l (⟨oL, "oldestAfter", "(J)I"⟩ : MethodName) oc27 3 (some .int) (oRm 3 0 0 45) Z h0 #[(.ref a), (.long q)] (fun v h L => (∃ j, v = some (.int (own_nsb j w)) ∧ own_J fi en tf q j) ∧ Fr n0 L ∧ h = h0) := by
 refine own_go hw (plainFor_of_name pn_27) (fun m => faf m a q) fun p e s m below meth c T0 C hret X u => ?_
 have N := Fr.nil n0
 obtain ⟨Ea, Ft, Fo, Fe, Ff, Fn, Fs, Fb, Ee, Fu, Fk, Fw, Bt, Bo, Vw, Sd, hp, hne⟩ := id TP
 refine sA C X did ?_
 refine gF C X u Fe (wcB C.w) die fun _ X u => ?_
 refine sA C X dil ?_
 refine sA C X dim ?_
 refine gF C X u Ft (wb5 C.w) din fun _ X u => ?_
 refine tK C X dio ?_
 refine sL C X dif ?_
 refine sA C X dig ?_
 refine gF C X u Ff (wc4 C.w) dih fun _ X u => ?_
 refine cP C X u (own_fsp l Z a0 hw a rT rO rE rW kW fi en sz bs w n tf of q  h0 n0 Z0 TP hq) Ea (W := 1) (wa3 C.w) (wa4 C.w) (osp3 C) (wa6 C.w) (wa7 C.w) (wa5 C.w) (argsL := [(.ref rT), oZ, (.long q), (.int fi)]) (lenOf pap rfl) dii fun _ T4 _ X hQ4 => ?_
 obtain ⟨⟨j, rfl, hJ⟩, Nq4, u⟩ := hQ4
 refine cV C X u (rm13_2 l Z a0 hw rE j rW kW w  h0 n0 Z0 hJ.1 hJ.2.1 Ee Fu Fk Fw Vw Sd) Ee (W := 0) (wc7 C.w) (wc8 C.w) (wda C.w) (wc9 C.w) (wdb C.w) (wcg C.w) (argsL := [(.int j)]) (lenOf paf rfl) dij fun _ T5 _ X hQ5 => ?_
 obtain ⟨rfl, Nq5, u⟩ := hQ5
 exact rI C X u hret dik ⟨⟨_, rfl, hJ⟩, ((N.app Nq4).app Nq5), rfl⟩
theorem di3 : oDe oc31 0 (.aload_n 0) 1:=by decide+kernel
theorem di4 : oDe oc31 1 (.getfield 27) 3:=by decide+kernel
theorem djg : oDe oc31 4 (.iload_n 1) 1:=by decide+kernel
theorem djh : oDe oc31 5 (.iconst 1) 1:=by decide+kernel
theorem dji : oDe oc31 6 (.isub) 1:=by decide+kernel
theorem djj : oDe oc31 7 (.invokevirtual 71) 3:=by decide+kernel
theorem di5 : oDe oc31 10 (.istore_n 2) 1:=by decide+kernel
theorem di6 : oDe oc31 11 (.iload_n 2) 1:=by decide+kernel
theorem di7 : oDe oc31 12 (.ifCond .ge 10) 3:=by decide+kernel
theorem di8 : oDe oc31 15 (.aload_n 0) 1:=by decide+kernel
theorem di9 : oDe oc31 16 (.getfield 57) 3:=by decide+kernel
theorem dja : oDe oc31 19 (.goto 9) 3:=by decide+kernel
theorem djf : oDe oc31 28 (.lreturn) 1:=by decide+kernel
theorem djb : oDe oc31 22 (.aload_n 0) 1:=by decide+kernel
theorem djc : oDe oc31 23 (.getfield 18) 3:=by decide+kernel
theorem djd : oDe oc31 26 (.iload_n 2) 1:=by decide+kernel
theorem dje : oDe oc31 27 (.laload) 1:=by decide+kernel
theorem pn_31 : plainName oL = true := by first | (simp [plainName, overriddenIn]; done) | decide +kernel
theorem fai (m : MethodId) (y0 : Addr) (y1 : Int32) : entryFrame m #[(.ref y0), (.int y1)] 3 = mkF m 0 #[.val (.ref y0), .val (.int y1), .unset] [] := by first | (simp [entryFrame, mkF, argsToLocals, Value.category]; done) | rfl
theorem rmB_ (hw : own_T Z a0) (a : Addr) (rT : Addr) (rO : Addr) (rE : Addr) (rW : Addr) (kW : ClassId) (fi : Int32) (en : Int32) (sz : Int32) (bs : Int64) (w : Int64) (n : Int32) (tf : Int32 → Int64) (of : Int32 → Int64) (i : Int32) (h0 : Heap) (n0 : Nat) (Z0 : n0 ≤ h0.size) (TP : own_TP Z h0 a rT rO rE rW kW fi en sz bs w n tf of) (hI : own_okI i n w) :
   own_Met l (⟨oL, "totalBefore", "(I)J"⟩ : MethodName) oc31 3 (some .long) (oRm 3 0 0 45) Z h0 #[(.ref a), (.int i)] (fun v h L => v = some (.long (own_tb i w bs of)) ∧ Fr n0 L ∧ h = h0) := by
 refine own_go hw (plainFor_of_name pn_31) (fun m => fai m a i) fun p e s m below meth c T0 C hret X u => ?_
 have N := Fr.nil n0
 obtain ⟨Ea, Ft, Fo, Fe, Ff, Fn, Fs, Fb, Ee, Fu, Fk, Fw, Bt, Bo, Vw, Sd, hp, hne⟩ := id TP
 rcases hI with rfl | ⟨hi0, hi1, hi2, hi3⟩
 · skip
   refine sA C X di3 ?_
   refine gF C X u Fe (wcB C.w) di4 fun _ X u => ?_
   refine sI C X djg ?_
   refine sC C X djh ?_
   refine sS C X dji ?_
   refine cV C X u (rm32_2 l Z a0 hw rE rW kW w  h0 n0 Z0 Ee Fu Fk Fw Vw) Ee (W := 0) (wbl C.w) (wbm C.w) (wbo C.w) (wbn C.w) (wbp C.w) (wcg C.w) (argsL := [(.int (-1 : Int32))]) (lenOf paf rfl) djj fun _ T2 _ X hQ2 => ?_
   obtain ⟨rfl, Nq2, u⟩ := hQ2
   refine wI C X #[.val (.ref a), .val (.int 0), .val (.int (-1 : Int32))] di5 ?_
   refine sI C X di6 ?_
   refine bN C X di7 (by decide) ?_
   refine sA C X di8 ?_
   refine gF C X u Fb (wap C.w) di9 fun _ X u => ?_
   refine sG C X dja 28 ?_
   exact rJ C X u hret djf ⟨rfl, (N.app Nq2), rfl⟩
 · skip
   refine sA C X di3 ?_
   refine gF C X u Fe (wcB C.w) di4 fun _ X u => ?_
   refine sI C X djg ?_
   refine sC C X djh ?_
   refine sS C X dji ?_
   refine cV C X u (rm32_1 l Z a0 hw rE (i - (1 : Int32)) rW kW w  h0 n0 Z0 hi1 hi2 Ee Fu Fk Fw Vw Sd) Ee (W := 0) (wbl C.w) (wbm C.w) (wbo C.w) (wbn C.w) (wbp C.w) (wcg C.w) (argsL := [(.int (i - (1 : Int32)))]) (lenOf paf rfl) djj fun _ T5 _ X hQ5 => ?_
   obtain ⟨rfl, Nq5, u⟩ := hQ5
   refine wI C X #[.val (.ref a), .val (.int i), .val (.int (own_psb (i - (1 : Int32)) w))] di5 ?_
   refine sI C X di6 ?_
   by_cases hb12_6 : (own_psb (i - (1 : Int32)) w) < (0 : Int32)
   · refine bN C X di7 ((if0 _ _).trans (tlt hb12_6).2.1) ?_
     refine sA C X di8 ?_
     refine gF C X u Fb (wap C.w) di9 fun _ X u => ?_
     refine sG C X dja 28 ?_
     exact rJ C X u hret djf ⟨congrArg (fun z => some (Value.long z)) (by rw [own_tb, if_neg hi0, if_pos hb12_6]), (N.app Nq5), rfl⟩
   · refine bY C X di7 22 ((if0 _ _).trans (flt hb12_6).2.1) ?_
     refine sA C X djb ?_
     refine gF C X u Fo (wb9 C.w) djc fun _ X u => ?_
     refine sI C X djd ?_
     refine fJ C X u Bo (hi3.resolve_left hb12_6) dje ?_
     exact rJ C X u hret djf ⟨congrArg (fun z => some (Value.long z)) (by rw [own_tb, if_neg hi0, if_neg hb12_6]), (N.app Nq5), rfl⟩
theorem dhI : oDe oc26 0 (.lconst 0) 1:=by decide+kernel
theorem dhJ : oDe oc26 1 (.lstore_n 3) 1:=by decide+kernel
theorem dhQ : oDe oc26 2 (.aload_n 0) 1:=by decide+kernel
theorem dhX : oDe oc26 3 (.getfield 31) 3:=by decide+kernel
theorem dib : oDe oc26 6 (.ifCond .le 41) 3:=by decide+kernel
theorem dic : oDe oc26 9 (.aload_n 0) 1:=by decide+kernel
theorem dhK : oDe oc26 10 (.getfield 9) 3:=by decide+kernel
theorem dhL : oDe oc26 13 (.aload_n 0) 1:=by decide+kernel
theorem dhM : oDe oc26 14 (.getfield 35) 3:=by decide+kernel
theorem dhN : oDe oc26 17 (.iconst 1) 1:=by decide+kernel
theorem dhO : oDe oc26 18 (.isub) 1:=by decide+kernel
theorem dhP : oDe oc26 19 (.laload) 1:=by decide+kernel
theorem dhR : oDe oc26 20 (.lload_n 1) 1:=by decide+kernel
theorem dhS : oDe oc26 21 (.lcmp) 1:=by decide+kernel
theorem dhT : oDe oc26 22 (.ifCond .le 25) 3:=by decide+kernel
theorem dhU : oDe oc26 25 (.aload_n 0) 1:=by decide+kernel
theorem dhV : oDe oc26 26 (.getfield 18) 3:=by decide+kernel
theorem dhW : oDe oc26 29 (.aload_n 0) 1:=by decide+kernel
theorem dhY : oDe oc26 30 (.getfield 35) 3:=by decide+kernel
theorem dhZ : oDe oc26 33 (.iconst 1) 1:=by decide+kernel
theorem dh0 : oDe oc26 34 (.isub) 1:=by decide+kernel
theorem dh1 : oDe oc26 35 (.laload) 1:=by decide+kernel
theorem dh2 : oDe oc26 36 (.aload_n 0) 1:=by decide+kernel
theorem dh3 : oDe oc26 37 (.aload_n 0) 1:=by decide+kernel
theorem dh4 : oDe oc26 38 (.lload_n 1) 1:=by decide+kernel
theorem dh5 : oDe oc26 39 (.invokevirtual 38) 3:=by decide+kernel
theorem dh6 : oDe oc26 42 (.invokevirtual 42) 3:=by decide+kernel
theorem pag : parseMethodDescriptor "(I)J" = some ⟨[.int], some .long⟩:=by decide+kernel
theorem dh7 : oDe oc26 45 (.lsub) 1:=by decide+kernel
theorem dh8 : oDe oc26 46 (.lstore_n 3) 1:=by decide+kernel
theorem dh9 : oDe oc26 47 (.lload_n 3) 1:=by decide+kernel
theorem dia : oDe oc26 48 (.lreturn) 1:=by decide+kernel
theorem pn_26 : plainName oL = true := by first | (simp [plainName, overriddenIn]; done) | decide +kernel
theorem fae (m : MethodId) (y0 : Addr) (y1 : Int64) : entryFrame m #[(.ref y0), (.long y1)] 5 = mkF m 0 #[.val (.ref y0), .val (.long y1), .second, .unset, .unset] [] := by first | (simp [entryFrame, mkF, argsToLocals, Value.category]; done) | rfl
theorem rmT_ (hw : own_T Z a0) (a : Addr) (rT : Addr) (rO : Addr) (rE : Addr) (rW : Addr) (kW : ClassId) (fi : Int32) (en : Int32) (sz : Int32) (bs : Int64) (w : Int64) (n : Int32) (tf : Int32 → Int64) (of : Int32 → Int64) (q : Int64) (h0 : Heap) (n0 : Nat) (Z0 : n0 ≤ h0.size) (TP : own_TP Z h0 a rT rO rE rW kW fi en sz bs w n tf of) (hz : (0 : Int32) < sz) (hB : ∀ j, ¬ j < 0 → ¬ j < fi → j < en → own_okI (own_nsb j w) n w) :
   own_Met l oy26 oc26 5 (some .long) (oRm 4 0 0 62) Z h0 #[(.ref a), (.long q)] (fun v h L => (∃ x, v = some (.long x) ∧ ((¬ q < tf (en - 1) ∧ x = 0) ∨ ∃ j, own_J fi en tf q j ∧ x = of (en - 1) - own_tb (own_nsb j w) w bs of)) ∧ Fr n0 L ∧ h = h0) := by
 refine own_go hw (plainFor_of_name pn_26) (fun m => fae m a q) fun p e s m below meth c T0 C hret X u => ?_
 have N := Fr.nil n0
 obtain ⟨Ea, Ft, Fo, Fe, Ff, Fn, Fs, Fb, Ee, Fu, Fk, Fw, Bt, Bo, Vw, Sd, hp, hne⟩ := id TP
 refine tK C X dhI ?_
 refine wL C X #[.val (.ref a), .val (.long q), .second, .val oZ, .second] dhJ ?_
 refine sA C X dhQ ?_
 refine gF C X u Fs (wcI C.w) dhX fun _ X u => ?_
 refine bN C X dib ((if0 _ _).trans (tlt hz).2.2.2) ?_
 refine sA C X dic ?_
 refine gF C X u Ft (wb5 C.w) dhK fun _ X u => ?_
 refine sA C X dhL ?_
 refine gF C X u Fn (wcL C.w) dhM fun _ X u => ?_
 refine sC C X dhN ?_
 refine sS C X dhO ?_
 refine fJ C X u Bt (own_x1 hp hne) dhP ?_
 refine sL C X dhR ?_
 refine tC C X dhS ?_
 by_cases hb22_4 : q < (tf (en - (1 : Int32)))
 · refine bN C X dhT ((if0 _ _).trans (tlt ((lw_gt _ _).mpr hb22_4)).2.2.2) ?_
   refine sA C X dhU ?_
   refine gF C X u Fo (wb9 C.w) dhV fun _ X u => ?_
   refine sA C X dhW ?_
   refine gF C X u Fn (wcL C.w) dhY fun _ X u => ?_
   refine sC C X dhZ ?_
   refine sS C X dh0 ?_
   refine fJ C X u Bo (own_x1 hp hne) dh1 ?_
   refine sA C X dh2 ?_
   refine sA C X dh3 ?_
   refine sL C X dh4 ?_
   refine cP C X u (rmO_ l Z a0 hw a rT rO rE rW kW fi en sz bs w n tf of q  h0 n0 Z0 TP hb22_4) Ea (W := 3) (waZ C.w) (wa0 C.w) (osp2 C) (wa1 C.w) (wa2 C.w) (wa5 C.w) (argsL := [(.long q)]) (lenOf pak rfl) dh5 fun _ T7 _ X hQ7 => ?_
   obtain ⟨⟨j, rfl, hJ⟩, Nq7, u⟩ := hQ7
   refine cP C X u (rmB_ l Z a0 hw a rT rO rE rW kW fi en sz bs w n tf of (own_nsb j w)  h0 n0 Z0 TP (hB j hJ.1 hJ.2.2.1 hJ.2.2.2.1)) Ea (W := 2) (wbh C.w) (wbi C.w) (osp4 C) (wbj C.w) (wbk C.w) (wa5 C.w) (argsL := [(.int (own_nsb j w))]) (lenOf pag rfl) dh6 fun _ T8 _ X hQ8 => ?_
   obtain ⟨rfl, Nq8, u⟩ := hQ8
   refine tS C X dh7 ?_
   refine wL C X #[.val (.ref a), .val (.long q), .second, .val (.long ((of (en - (1 : Int32))) - (own_tb (own_nsb j w) w bs of))), .second] dh8 ?_
   refine sL C X dh9 ?_
   exact rJ C X u hret dia ⟨⟨_, rfl, Or.inr ⟨j, hJ, rfl⟩⟩, ((N.app Nq7).app Nq8), rfl⟩
 · refine bY C X dhT 47 ((if0 _ _).trans (flt (fun q => hb22_4 ((lw_gt _ _).mp q))).2.2.2) ?_
   refine sL C X dh9 ?_
   exact rJ C X u hret dia ⟨⟨_, rfl, Or.inl ⟨hb22_4, rfl⟩⟩, N, rfl⟩
theorem rmT0 (hw : own_T Z a0) (a : Addr) (q : Int64) (h0 : Heap) (n0 : Nat) (Z0 : n0 ≤ h0.size) (Ea : Exa Z h0 a oL) (Fs : Fld Z h0 a oL "size" "I" (.int 0)) :
   own_Met l oy26 oc26 5 (some .long) (oRm 4 0 0 62) Z h0 #[(.ref a), (.long q)] (fun v h L => v = some oZ ∧ Fr n0 L ∧ h = h0) := by
 refine own_go hw (plainFor_of_name pn_26) (fun m => fae m a q) fun p e s m below meth c T0 C hret X u => ?_
 have N := Fr.nil n0
 refine tK C X dhI ?_
 refine wL C X #[.val (.ref a), .val (.long q), .second, .val oZ, .second] dhJ ?_
 refine sA C X dhQ ?_
 refine gF C X u Fs (wcI C.w) dhX fun _ X u => ?_
 refine bY C X dib 47 (by decide) ?_
 refine sL C X dh9 ?_
 exact rJ C X u hret dia ⟨rfl, N, rfl⟩
def own_L0 (Z : State) (hB h : Heap) (n0 : Nat) (a : Addr) (b : Int64) (PE : List (Int64 × Int64)) : Prop := (PE = [] ∧ own_G_0_0_0_0 Z hB h n0 a b) ∨ (∃ t1 p1 : Int64, PE = [(t1, p1)] ∧ own_G_2_0_1_1 Z hB h n0 a b t1 (b + p1)) ∨ (∃ t1 t2 p1 p2 : Int64, PE = [(t1, p1), (t2, p2)] ∧ own_G_2_0_2_3 Z hB h n0 a b t1 t2 (b + p1) ((b + p1) + p2))
def own_L1 (Z : State) (hB h : Heap) (n0 : Nat) (a : Addr) (b : Int64) (PE : List (Int64 × Int64)) : Prop := (PE = [] ∧ own_G_0_0_0_0 Z hB h n0 a b) ∨ (PE = [] ∧ own_G_2_1_1_0 Z hB h n0 a b) ∨ (PE = [] ∧ own_G_2_2_2_0 Z hB h n0 a b) ∨ (∃ t1 p1 : Int64, PE = [(t1, p1)] ∧ own_G_2_0_1_1 Z hB h n0 a b t1 (b + p1)) ∨ (∃ t1 p1 : Int64, PE = [(t1, p1)] ∧ own_G_2_1_2_2 Z hB h n0 a b t1 (b + p1)) ∨ (∃ t1 t2 p1 p2 : Int64, PE = [(t1, p1), (t2, p2)] ∧ own_G_2_0_2_3 Z hB h n0 a b t1 t2 (b + p1) ((b + p1) + p2))
def own_L2 (Z : State) (hB h : Heap) (n0 : Nat) (a : Addr) (b : Int64) (PE : List (Int64 × Int64)) : Prop := (PE = [] ∧ own_G_0_0_0_0 Z hB h n0 a b) ∨ (PE = [] ∧ own_G_2_1_1_0 Z hB h n0 a b) ∨ (PE = [] ∧ own_G_2_2_2_0 Z hB h n0 a b) ∨ (∃ t1 p1 : Int64, PE = [(t1, p1)] ∧ own_G_2_0_1_1 Z hB h n0 a b t1 (b + p1)) ∨ (∃ t1 p1 : Int64, PE = [(t1, p1)] ∧ own_G_2_1_2_2 Z hB h n0 a b t1 (b + p1)) ∨ (∃ t1 t2 p1 p2 : Int64, PE = [(t1, p1), (t2, p2)] ∧ own_G_2_0_2_3 Z hB h n0 a b t1 t2 (b + p1) ((b + p1) + p2)) ∨ (∃ t1 t2 p1 p2 : Int64, PE = [(t1, p1), (t2, p2)] ∧ own_G_4_0_2_3 Z hB h n0 a b t1 t2 (b + p1) ((b + p1) + p2)) ∨ (∃ t1 t2 t3 p1 p2 p3 : Int64, PE = [(t1, p1), (t2, p2), (t3, p3)] ∧ own_G_8_0_3_7 Z hB h n0 a b t1 t2 t3 (b + p1) ((b + p1) + p2) (((b + p1) + p2) + p3))
def own_L3 (Z : State) (hB h : Heap) (n0 : Nat) (a : Addr) (b : Int64) (PE : List (Int64 × Int64)) : Prop := (PE = [] ∧ own_G_0_0_0_0 Z hB h n0 a b) ∨ (PE = [] ∧ own_G_2_1_1_0 Z hB h n0 a b) ∨ (PE = [] ∧ own_G_2_2_2_0 Z hB h n0 a b) ∨ (∃ t1 p1 : Int64, PE = [(t1, p1)] ∧ own_G_2_0_1_1 Z hB h n0 a b t1 (b + p1)) ∨ (∃ t1 p1 : Int64, PE = [(t1, p1)] ∧ own_G_2_1_2_2 Z hB h n0 a b t1 (b + p1)) ∨ (∃ t1 t2 p1 p2 : Int64, PE = [(t1, p1), (t2, p2)] ∧ own_G_2_0_2_3 Z hB h n0 a b t1 t2 (b + p1) ((b + p1) + p2)) ∨ (∃ t1 t2 p1 p2 : Int64, PE = [(t1, p1), (t2, p2)] ∧ own_G_4_0_2_3 Z hB h n0 a b t1 t2 (b + p1) ((b + p1) + p2)) ∨ (∃ t1 t2 t3 p1 p2 p3 : Int64, PE = [(t1, p1), (t2, p2), (t3, p3)] ∧ own_G_8_0_3_7 Z hB h n0 a b t1 t2 t3 (b + p1) ((b + p1) + p2) (((b + p1) + p2) + p3)) ∨ (∃ t1 t2 t3 p1 p2 p3 : Int64, PE = [(t1, p1), (t2, p2), (t3, p3)] ∧ own_G_4_0_3_7 Z hB h n0 a b t1 t2 t3 (b + p1) ((b + p1) + p2) (((b + p1) + p2) + p3)) ∨ (∃ t1 t2 t3 t4 p1 p2 p3 p4 : Int64, PE = [(t1, p1), (t2, p2), (t3, p3), (t4, p4)] ∧ own_G_8_0_4_15 Z hB h n0 a b t1 t2 t3 t4 (b + p1) ((b + p1) + p2) (((b + p1) + p2) + p3) ((((b + p1) + p2) + p3) + p4))
theorem own_L0.up {Z : State} {hB h : Heap} {n0 : Nat} {a : Addr} {b : Int64} {PE : List (Int64 × Int64)} (I : own_L0 Z hB h n0 a b PE) : own_L1 Z hB h n0 a b PE := by
 rcases I with I | I | I
 · exact (Or.inl I)
 · exact (Or.inr (Or.inr (Or.inr (Or.inl I))))
 · exact (Or.inr (Or.inr (Or.inr (Or.inr (Or.inr I)))))
theorem own_L1.up {Z : State} {hB h : Heap} {n0 : Nat} {a : Addr} {b : Int64} {PE : List (Int64 × Int64)} (I : own_L1 Z hB h n0 a b PE) : own_L2 Z hB h n0 a b PE := by
 rcases I with I | I | I | I | I | I
 · exact (Or.inl I)
 · exact (Or.inr (Or.inl I))
 · exact (Or.inr (Or.inr (Or.inl I)))
 · exact (Or.inr (Or.inr (Or.inr (Or.inl I))))
 · exact (Or.inr (Or.inr (Or.inr (Or.inr (Or.inl I)))))
 · exact (Or.inr (Or.inr (Or.inr (Or.inr (Or.inr (Or.inl I))))))
theorem own_L2.up {Z : State} {hB h : Heap} {n0 : Nat} {a : Addr} {b : Int64} {PE : List (Int64 × Int64)} (I : own_L2 Z hB h n0 a b PE) : own_L3 Z hB h n0 a b PE := by
 rcases I with I | I | I | I | I | I | I | I
 · exact (Or.inl I)
 · exact (Or.inr (Or.inl I))
 · exact (Or.inr (Or.inr (Or.inl I)))
 · exact (Or.inr (Or.inr (Or.inr (Or.inl I))))
 · exact (Or.inr (Or.inr (Or.inr (Or.inr (Or.inl I)))))
 · exact (Or.inr (Or.inr (Or.inr (Or.inr (Or.inr (Or.inl I))))))
 · exact (Or.inr (Or.inr (Or.inr (Or.inr (Or.inr (Or.inr (Or.inl I)))))))
 · exact (Or.inr (Or.inr (Or.inr (Or.inr (Or.inr (Or.inr (Or.inr (Or.inl I))))))))

theorem own_weakM {l : Launch} {y : MethodName} {code : ByteArray} {ml : Nat} {ret : Option FieldType} {rm : Room} {Z : State} {h0 : Heap} {as : Array Value} {Q Q' : Option Value → Heap → List Loc → Prop} (h : own_Met l y code ml ret rm Z h0 as Q) (q : ∀ v h L, Q v h L → Q' v h L) : own_Met l y code ml ret rm Z h0 as Q' :=
 fun ws => own_weak (h ws) fun _ _ _ _ r => by
   obtain ⟨v, L, e, q1, f⟩ := r
   exact ⟨v, L, e, q _ _ _ q1, f⟩
theorem own_noA2 : True := trivial
theorem own_add1 (hw : own_T Z a0) (a : Addr) (time permits : Int64) (b : Int64) (PE : List (Int64 × Int64)) (hB : Heap) (h0 : Heap) (n0 : Nat) (Z0 : n0 ≤ h0.size) (I : own_L1 Z hB h0 n0 a b PE) : own_Met l oy8 oc8 9 none (oRm 6 6 44 150) Z h0 #[(.ref a), (.long time), (.long permits), (.int 1000)] (fun v h L => v = none ∧ Fr n0 L ∧ own_L2 Z hB h n0 a b (own_addP time permits PE)) := by
 rcases I with ⟨rfl, G⟩ | ⟨rfl, G⟩ | ⟨rfl, G⟩ | ⟨t1, p1, rfl, G⟩ | ⟨t1, p1, rfl, G⟩ | ⟨t1, t2, p1, p2, rfl, G⟩
 · obtain ⟨rT, rF, rO, rS, rE, rW, kT, kF, kO, kW, O, SP⟩ := G
   refine own_weakM (rmA_0_0_0 l Z a0 hw a time permits rT rF rO rS rE rW kT kF kO kW b hB h0 n0 Z0 O SP) fun v h L q => ⟨q.1, q.2.1, (Or.inr (Or.inr (Or.inr (Or.inl ⟨time, permits, rfl, q.2.2⟩))))⟩
 · obtain ⟨rT, rF, rO, rS, rE, rW, kT, kF, kO, kW, tm0, tm1, fr0, fr1, to0, to1, O, SP⟩ := G
   refine own_weakM (rmA_2_1_1 l Z a0 hw a time permits rT rF rO rS rE rW kT kF kO kW b tm0 tm1 fr0 fr1 to0 to1 hB h0 n0 Z0 O SP) fun v h L q => ⟨q.1, q.2.1, (Or.inr (Or.inr (Or.inr (Or.inr (Or.inl ⟨time, permits, rfl, q.2.2⟩)))))⟩
 · obtain ⟨rT, rF, rO, rS, rE, rW, kT, kF, kO, kW, tm0, tm1, fr0, fr1, to0, to1, O, SP⟩ := G
   refine own_weakM (rmA_2_2_2 l Z a0 hw a time permits rT rF rO rS rE rW kT kF kO kW b tm0 tm1 fr0 fr1 to0 to1 hB h0 n0 Z0 O SP) fun v h L q => ⟨q.1, q.2.1, (Or.inr (Or.inr (Or.inr (Or.inl ⟨time, permits, rfl, q.2.2⟩))))⟩
 · obtain ⟨rT, rF, rO, rS, rE, rW, kT, kF, kO, kW, tm1, fr1, to1, O, SP⟩ := G
   refine own_weakM (rmA_2_0_1 l Z a0 hw a time permits rT rF rO rS rE rW kT kF kO kW b t1 tm1 fr1 (b + p1) to1 hB h0 n0 Z0 O SP) fun v h L q => ⟨q.1, q.2.1, q.2.2.elim (fun r => ?_) (fun r => ?_)⟩
   · exact (Or.inr (Or.inr (Or.inr (Or.inl ⟨t1, (p1 + permits), by simp only [own_addP, if_pos r.1], by rw [← Int64.add_assoc]; exact r.2⟩))))
   · exact (Or.inr (Or.inr (Or.inr (Or.inr (Or.inr (Or.inl ⟨t1, time, p1, permits, by simp only [own_addP, if_neg r.1], r.2⟩))))))
 · obtain ⟨rT, rF, rO, rS, rE, rW, kT, kF, kO, kW, tm0, fr0, to0, O, SP⟩ := G
   refine own_weakM (rmA_2_1_2 l Z a0 hw a time permits rT rF rO rS rE rW kT kF kO kW b tm0 t1 fr0 to0 (b + p1) hB h0 n0 Z0 O SP) fun v h L q => ⟨q.1, q.2.1, q.2.2.elim (fun r => ?_) (fun r => ?_)⟩
   · exact (Or.inr (Or.inr (Or.inr (Or.inr (Or.inl ⟨t1, (p1 + permits), by simp only [own_addP, if_pos r.1], by rw [← Int64.add_assoc]; exact r.2⟩)))))
   · exact (Or.inr (Or.inr (Or.inr (Or.inr (Or.inr (Or.inr (Or.inl ⟨t1, time, p1, permits, by simp only [own_addP, if_neg r.1], r.2⟩)))))))
 · obtain ⟨rT, rF, rO, rS, rE, rW, kT, kF, kO, kW, O, SP⟩ := G
   refine own_weakM (rmA_2_0_2 l Z a0 hw a time permits rT rF rO rS rE rW kT kF kO kW b t1 t2 (b + p1) ((b + p1) + p2) hB h0 n0 Z0 O SP) fun v h L q => ⟨q.1, q.2.1, q.2.2.elim (fun r => ?_) (fun r => ?_)⟩
   · exact (Or.inr (Or.inr (Or.inr (Or.inr (Or.inr (Or.inl ⟨t1, t2, p1, (p2 + permits), by simp only [own_addP, if_pos r.1], by rw [← Int64.add_assoc]; exact r.2⟩))))))
   · exact (Or.inr (Or.inr (Or.inr (Or.inr (Or.inr (Or.inr (Or.inr ⟨t1, t2, time, p1, p2, permits, by simp only [own_addP, if_neg r.1], r.2⟩)))))))
theorem own_add2 (hw : own_T Z a0) (a : Addr) (time permits : Int64) (b : Int64) (PE : List (Int64 × Int64)) (hB : Heap) (h0 : Heap) (n0 : Nat) (Z0 : n0 ≤ h0.size) (I : own_L2 Z hB h0 n0 a b PE) : own_Met l oy8 oc8 9 none (oRm 6 6 44 150) Z h0 #[(.ref a), (.long time), (.long permits), (.int 1000)] (fun v h L => v = none ∧ Fr n0 L ∧ own_L3 Z hB h n0 a b (own_addP time permits PE)) := by
 rcases I with ⟨rfl, G⟩ | ⟨rfl, G⟩ | ⟨rfl, G⟩ | ⟨t1, p1, rfl, G⟩ | ⟨t1, p1, rfl, G⟩ | ⟨t1, t2, p1, p2, rfl, G⟩ | ⟨t1, t2, p1, p2, rfl, G⟩ | ⟨t1, t2, t3, p1, p2, p3, rfl, G⟩
 · obtain ⟨rT, rF, rO, rS, rE, rW, kT, kF, kO, kW, O, SP⟩ := G
   refine own_weakM (rmA_0_0_0 l Z a0 hw a time permits rT rF rO rS rE rW kT kF kO kW b hB h0 n0 Z0 O SP) fun v h L q => ⟨q.1, q.2.1, (Or.inr (Or.inr (Or.inr (Or.inl ⟨time, permits, rfl, q.2.2⟩))))⟩
 · obtain ⟨rT, rF, rO, rS, rE, rW, kT, kF, kO, kW, tm0, tm1, fr0, fr1, to0, to1, O, SP⟩ := G
   refine own_weakM (rmA_2_1_1 l Z a0 hw a time permits rT rF rO rS rE rW kT kF kO kW b tm0 tm1 fr0 fr1 to0 to1 hB h0 n0 Z0 O SP) fun v h L q => ⟨q.1, q.2.1, (Or.inr (Or.inr (Or.inr (Or.inr (Or.inl ⟨time, permits, rfl, q.2.2⟩)))))⟩
 · obtain ⟨rT, rF, rO, rS, rE, rW, kT, kF, kO, kW, tm0, tm1, fr0, fr1, to0, to1, O, SP⟩ := G
   refine own_weakM (rmA_2_2_2 l Z a0 hw a time permits rT rF rO rS rE rW kT kF kO kW b tm0 tm1 fr0 fr1 to0 to1 hB h0 n0 Z0 O SP) fun v h L q => ⟨q.1, q.2.1, (Or.inr (Or.inr (Or.inr (Or.inl ⟨time, permits, rfl, q.2.2⟩))))⟩
 · obtain ⟨rT, rF, rO, rS, rE, rW, kT, kF, kO, kW, tm1, fr1, to1, O, SP⟩ := G
   refine own_weakM (rmA_2_0_1 l Z a0 hw a time permits rT rF rO rS rE rW kT kF kO kW b t1 tm1 fr1 (b + p1) to1 hB h0 n0 Z0 O SP) fun v h L q => ⟨q.1, q.2.1, q.2.2.elim (fun r => ?_) (fun r => ?_)⟩
   · exact (Or.inr (Or.inr (Or.inr (Or.inl ⟨t1, (p1 + permits), by simp only [own_addP, if_pos r.1], by rw [← Int64.add_assoc]; exact r.2⟩))))
   · exact (Or.inr (Or.inr (Or.inr (Or.inr (Or.inr (Or.inl ⟨t1, time, p1, permits, by simp only [own_addP, if_neg r.1], r.2⟩))))))
 · obtain ⟨rT, rF, rO, rS, rE, rW, kT, kF, kO, kW, tm0, fr0, to0, O, SP⟩ := G
   refine own_weakM (rmA_2_1_2 l Z a0 hw a time permits rT rF rO rS rE rW kT kF kO kW b tm0 t1 fr0 to0 (b + p1) hB h0 n0 Z0 O SP) fun v h L q => ⟨q.1, q.2.1, q.2.2.elim (fun r => ?_) (fun r => ?_)⟩
   · exact (Or.inr (Or.inr (Or.inr (Or.inr (Or.inl ⟨t1, (p1 + permits), by simp only [own_addP, if_pos r.1], by rw [← Int64.add_assoc]; exact r.2⟩)))))
   · exact (Or.inr (Or.inr (Or.inr (Or.inr (Or.inr (Or.inr (Or.inl ⟨t1, time, p1, permits, by simp only [own_addP, if_neg r.1], r.2⟩)))))))
 · obtain ⟨rT, rF, rO, rS, rE, rW, kT, kF, kO, kW, O, SP⟩ := G
   refine own_weakM (rmA_2_0_2 l Z a0 hw a time permits rT rF rO rS rE rW kT kF kO kW b t1 t2 (b + p1) ((b + p1) + p2) hB h0 n0 Z0 O SP) fun v h L q => ⟨q.1, q.2.1, q.2.2.elim (fun r => ?_) (fun r => ?_)⟩
   · exact (Or.inr (Or.inr (Or.inr (Or.inr (Or.inr (Or.inl ⟨t1, t2, p1, (p2 + permits), by simp only [own_addP, if_pos r.1], by rw [← Int64.add_assoc]; exact r.2⟩))))))
   · exact (Or.inr (Or.inr (Or.inr (Or.inr (Or.inr (Or.inr (Or.inr (Or.inl ⟨t1, t2, time, p1, p2, permits, by simp only [own_addP, if_neg r.1], r.2⟩))))))))
 · obtain ⟨rT, rF, rO, rS, rE, rW, kT, kF, kO, kW, tm2, tm3, fr2, fr3, to2, to3, O, SP⟩ := G
   refine own_weakM (rmA_4_0_2 l Z a0 hw a time permits rT rF rO rS rE rW kT kF kO kW b t1 t2 tm2 tm3 fr2 fr3 (b + p1) ((b + p1) + p2) to2 to3 hB h0 n0 Z0 O SP) fun v h L q => ⟨q.1, q.2.1, q.2.2.elim (fun r => ?_) (fun r => ?_)⟩
   · exact (Or.inr (Or.inr (Or.inr (Or.inr (Or.inr (Or.inr (Or.inl ⟨t1, t2, p1, (p2 + permits), by simp only [own_addP, if_pos r.1], by rw [← Int64.add_assoc]; exact r.2⟩)))))))
   · exact (Or.inr (Or.inr (Or.inr (Or.inr (Or.inr (Or.inr (Or.inr (Or.inr (Or.inl ⟨t1, t2, time, p1, p2, permits, by simp only [own_addP, if_neg r.1], r.2⟩)))))))))
 · obtain ⟨rT, rF, rO, rS, rE, rW, kT, kF, kO, kW, tm3, tm4, tm5, tm6, tm7, fr3, fr4, fr5, fr6, fr7, to3, to4, to5, to6, to7, O, SP⟩ := G
   refine own_weakM (rmA_8_0_3 l Z a0 hw a time permits rT rF rO rS rE rW kT kF kO kW b t1 t2 t3 tm3 tm4 tm5 tm6 tm7 fr3 fr4 fr5 fr6 fr7 (b + p1) ((b + p1) + p2) (((b + p1) + p2) + p3) to3 to4 to5 to6 to7 hB h0 n0 Z0 O SP) fun v h L q => ⟨q.1, q.2.1, q.2.2.elim (fun r => ?_) (fun r => ?_)⟩
   · exact (Or.inr (Or.inr (Or.inr (Or.inr (Or.inr (Or.inr (Or.inr (Or.inl ⟨t1, t2, t3, p1, p2, (p3 + permits), by simp only [own_addP, if_pos r.1], by rw [← Int64.add_assoc]; exact r.2⟩))))))))
   · exact (Or.inr (Or.inr (Or.inr (Or.inr (Or.inr (Or.inr (Or.inr (Or.inr (Or.inr ⟨t1, t2, t3, time, p1, p2, p3, permits, by simp only [own_addP, if_neg r.1], r.2⟩)))))))))
def own_La (Z : State) (hB h : Heap) (n0 : Nat) (a : Addr) (b : Int64) (PE : List (Int64 × Int64)) : Prop := (PE = [] ∧ own_G_0_0_0_0 Z hB h n0 a b) ∨ (∃ t1 p1 : Int64, PE = [(t1, p1)] ∧ own_G_2_0_1_1 Z hB h n0 a b t1 (b + p1))
theorem own_adda (hw : own_T Z a0) (a : Addr) (time permits : Int64) (b : Int64) (PE : List (Int64 × Int64)) (hB : Heap) (h0 : Heap) (n0 : Nat) (Z0 : n0 ≤ h0.size) (I : own_La Z hB h0 n0 a b PE) : own_Met l oy8 oc8 9 none (oRm 6 6 44 150) Z h0 #[(.ref a), (.long time), (.long permits), (.int 1000)] (fun v h L => v = none ∧ Fr n0 L ∧ own_L0 Z hB h n0 a b (own_addP time permits PE)) := by
 rcases I with ⟨rfl, G⟩ | ⟨t1, p1, rfl, G⟩
 · obtain ⟨rT, rF, rO, rS, rE, rW, kT, kF, kO, kW, O, SP⟩ := G
   refine own_weakM (rmA_0_0_0 l Z a0 hw a time permits rT rF rO rS rE rW kT kF kO kW b hB h0 n0 Z0 O SP) fun v h L q => ⟨q.1, q.2.1, (Or.inr (Or.inl ⟨time, permits, rfl, q.2.2⟩))⟩
 · obtain ⟨rT, rF, rO, rS, rE, rW, kT, kF, kO, kW, tm1, fr1, to1, O, SP⟩ := G
   refine own_weakM (rmA_2_0_1 l Z a0 hw a time permits rT rF rO rS rE rW kT kF kO kW b t1 tm1 fr1 (b + p1) to1 hB h0 n0 Z0 O SP) fun v h L q => ⟨q.1, q.2.1, q.2.2.elim (fun r => ?_) (fun r => ?_)⟩
   · exact (Or.inr (Or.inl ⟨t1, (p1 + permits), by simp only [own_addP, if_pos r.1], by rw [← Int64.add_assoc]; exact r.2⟩))
   · exact (Or.inr (Or.inr ⟨t1, time, p1, permits, by simp only [own_addP, if_neg r.1], r.2⟩))
theorem own_adds (hw : own_T Z a0) (a : Addr) (time permits : Int64) (b : Int64) (hB : Heap) (h0 : Heap) (n0 : Nat) (Z0 : n0 ≤ h0.size) (G : own_G_0_0_0_0 Z hB h0 n0 a b) : own_Met l oy8 oc8 9 none (oRm 6 6 44 150) Z h0 #[(.ref a), (.long time), (.long permits), (.int 1000)] (fun v h L => v = none ∧ Fr n0 L ∧ own_La Z hB h n0 a b [(time, permits)]) := by
 obtain ⟨rT, rF, rO, rS, rE, rW, kT, kF, kO, kW, O, SP⟩ := G
 refine own_weakM (rmA_0_0_0 l Z a0 hw a time permits rT rF rO rS rE rW kT kF kO kW b hB h0 n0 Z0 O SP) fun v h L q => ⟨q.1, q.2.1, (Or.inr ⟨time, permits, rfl, q.2.2⟩)⟩
theorem own_La.up {Z : State} {hB h : Heap} {n0 : Nat} {a : Addr} {b : Int64} {PE : List (Int64 × Int64)} (I : own_La Z hB h n0 a b PE) : own_L0 Z hB h n0 a b PE := by
 rcases I with I | I
 · exact Or.inl I
 · exact Or.inr (Or.inl I)
theorem own_drp (hw : own_T Z a0) (a : Addr) (q : Int64) (b : Int64) (PE : List (Int64 × Int64)) (hB : Heap) (h0 : Heap) (n0 : Nat) (Z0 : n0 ≤ h0.size) (I : own_L0 Z hB h0 n0 a b PE) : own_Met l oy33 oc33 4 none (oRm 5 0 0 120) Z h0 #[(.ref a), (.long q)] (fun v h L => v = none ∧ Fr n0 L ∧ own_L1 Z hB h n0 a (own_drB q b PE) (own_drP q PE)) := by
 rcases I with ⟨rfl, G⟩ | ⟨t1, p1, rfl, G⟩ | ⟨t1, t2, p1, p2, rfl, G⟩
 · obtain ⟨rT, rF, rO, rS, rE, rW, kT, kF, kO, kW, O, SP⟩ := G
   exact own_weakM (rmD_0_0_0 l Z a0 hw a q rT rF rO rS rE rW kT kF kO kW b hB h0 n0 Z0 O SP) fun v h L r => ⟨r.1, r.2.1, (Or.inl ⟨rfl, r.2.2⟩)⟩
 · obtain ⟨rT, rF, rO, rS, rE, rW, kT, kF, kO, kW, tm1, fr1, to1, O, SP⟩ := G
   refine own_weakM (rmD_2_0_1 l Z a0 hw a q rT rF rO rS rE rW kT kF kO kW b t1 tm1 fr1 (b + p1) to1 hB h0 n0 Z0 O SP) fun v h L r => ⟨r.1, r.2.1, r.2.2.elim (fun z => ?_) (fun z => ?_)⟩
   · simp only [own_drP, own_drB, if_pos z.1]
     exact (Or.inr (Or.inr (Or.inr (Or.inl ⟨t1, p1, rfl, z.2⟩))))
   · simp only [own_drP, own_drB, if_neg z.1]
     exact (Or.inr (Or.inl ⟨rfl, z.2⟩))
 · obtain ⟨rT, rF, rO, rS, rE, rW, kT, kF, kO, kW, O, SP⟩ := G
   refine own_weakM (rmD_2_0_2 l Z a0 hw a q rT rF rO rS rE rW kT kF kO kW b t1 t2 (b + p1) ((b + p1) + p2) hB h0 n0 Z0 O SP) fun v h L r => ⟨r.1, r.2.1, r.2.2.elim (fun z => ?_) (fun y => y.elim (fun z => ?_) (fun z => ?_))⟩
   · simp only [own_drP, own_drB, if_pos z.1]
     exact (Or.inr (Or.inr (Or.inr (Or.inr (Or.inr ⟨t1, t2, p1, p2, rfl, z.2⟩)))))
   · simp only [own_drP, own_drB, if_neg z.1, if_pos z.2.1]
     exact (Or.inr (Or.inr (Or.inr (Or.inr (Or.inl ⟨t2, p2, rfl, z.2.2⟩)))))
   · simp only [own_drP, own_drB, if_neg z.1, if_neg z.2.1]
     exact (Or.inr (Or.inr (Or.inl ⟨rfl, z.2.2⟩)))
def own_Gq (n0 : Nat) (a rT rO rE rW : Addr) : Prop := n0 ≤ a ∧ n0 ≤ rT ∧ n0 ≤ rO ∧ n0 ≤ rE ∧ n0 ≤ rW
def own_LS (Z : State) (h : Heap) (n0 : Nat) (a : Addr) (b : Int64) (PE : List (Int64 × Int64)) (m : Int32) : Prop := (PE = [] ∧ m = (0 : Int32) ∧ n0 ≤ a ∧ Exa Z h a oL ∧ Fld Z h a oL "size" "I" (.int 0)) ∨ (∃ t1 p1 : Int64, PE = [(t1, p1)] ∧ m = (0 : Int32) ∧ ∃ (rT rO rE rW : Addr) (kW : ClassId) (n : Int32) (tf of : Int32 → Int64), own_TP Z h a rT rO rE rW kW (0 : Int32) (1 : Int32) (1 : Int32) b (1 : Int64) n tf of ∧ own_Gq n0 a rT rO rE rW ∧ tf (0 : Int32) = t1 ∧ of (0 : Int32) = (b + p1)) ∨ (∃ t1 p1 : Int64, PE = [(t1, p1)] ∧ m = (0 : Int32) ∧ ∃ (rT rO rE rW : Addr) (kW : ClassId) (n : Int32) (tf of : Int32 → Int64), own_TP Z h a rT rO rE rW kW (1 : Int32) (2 : Int32) (1 : Int32) b (2 : Int64) n tf of ∧ own_Gq n0 a rT rO rE rW ∧ tf (1 : Int32) = t1 ∧ of (1 : Int32) = (b + p1)) ∨ (∃ t1 t2 p1 p2 : Int64, PE = [(t1, p1), (t2, p2)] ∧ m = (0 : Int32) ∧ ∃ (rT rO rE rW : Addr) (kW : ClassId) (n : Int32) (tf of : Int32 → Int64), own_TP Z h a rT rO rE rW kW (0 : Int32) (2 : Int32) (2 : Int32) b (3 : Int64) n tf of ∧ own_Gq n0 a rT rO rE rW ∧ tf (0 : Int32) = t1 ∧ tf (1 : Int32) = t2 ∧ of (0 : Int32) = (b + p1) ∧ of (1 : Int32) = ((b + p1) + p2)) ∨ (∃ t1 t2 p1 p2 : Int64, PE = [(t1, p1), (t2, p2)] ∧ m = (1 : Int32) ∧ ∃ (rT rO rE rW : Addr) (kW : ClassId) (n : Int32) (tf of : Int32 → Int64), own_TP Z h a rT rO rE rW kW (0 : Int32) (2 : Int32) (1 : Int32) b (2 : Int64) n tf of ∧ own_Gq n0 a rT rO rE rW ∧ tf (0 : Int32) = t1 ∧ tf (1 : Int32) = t2 ∧ of (1 : Int32) = ((b + p1) + p2)) ∨ (∃ t1 t2 t3 p1 p2 p3 : Int64, PE = [(t1, p1), (t2, p2), (t3, p3)] ∧ m = (0 : Int32) ∧ ∃ (rT rO rE rW : Addr) (kW : ClassId) (n : Int32) (tf of : Int32 → Int64), own_TP Z h a rT rO rE rW kW (0 : Int32) (3 : Int32) (3 : Int32) b (7 : Int64) n tf of ∧ own_Gq n0 a rT rO rE rW ∧ tf (0 : Int32) = t1 ∧ tf (1 : Int32) = t2 ∧ tf (2 : Int32) = t3 ∧ of (0 : Int32) = (b + p1) ∧ of (1 : Int32) = ((b + p1) + p2) ∧ of (2 : Int32) = (((b + p1) + p2) + p3)) ∨ (∃ t1 t2 t3 p1 p2 p3 : Int64, PE = [(t1, p1), (t2, p2), (t3, p3)] ∧ m = (1 : Int32) ∧ ∃ (rT rO rE rW : Addr) (kW : ClassId) (n : Int32) (tf of : Int32 → Int64), own_TP Z h a rT rO rE rW kW (0 : Int32) (3 : Int32) (2 : Int32) b (6 : Int64) n tf of ∧ own_Gq n0 a rT rO rE rW ∧ tf (0 : Int32) = t1 ∧ tf (1 : Int32) = t2 ∧ tf (2 : Int32) = t3 ∧ of (1 : Int32) = ((b + p1) + p2) ∧ of (2 : Int32) = (((b + p1) + p2) + p3)) ∨ (∃ t1 t2 t3 p1 p2 p3 : Int64, PE = [(t1, p1), (t2, p2), (t3, p3)] ∧ m = (2 : Int32) ∧ ∃ (rT rO rE rW : Addr) (kW : ClassId) (n : Int32) (tf of : Int32 → Int64), own_TP Z h a rT rO rE rW kW (0 : Int32) (3 : Int32) (2 : Int32) b (5 : Int64) n tf of ∧ own_Gq n0 a rT rO rE rW ∧ tf (0 : Int32) = t1 ∧ tf (1 : Int32) = t2 ∧ tf (2 : Int32) = t3 ∧ of (0 : Int32) = (b + p1) ∧ of (2 : Int32) = (((b + p1) + p2) + p3)) ∨ (∃ t1 t2 t3 t4 p1 p2 p3 p4 : Int64, PE = [(t1, p1), (t2, p2), (t3, p3), (t4, p4)] ∧ m = (0 : Int32) ∧ ∃ (rT rO rE rW : Addr) (kW : ClassId) (n : Int32) (tf of : Int32 → Int64), own_TP Z h a rT rO rE rW kW (0 : Int32) (4 : Int32) (4 : Int32) b (15 : Int64) n tf of ∧ own_Gq n0 a rT rO rE rW ∧ tf (0 : Int32) = t1 ∧ tf (1 : Int32) = t2 ∧ tf (2 : Int32) = t3 ∧ tf (3 : Int32) = t4 ∧ of (0 : Int32) = (b + p1) ∧ of (1 : Int32) = ((b + p1) + p2) ∧ of (2 : Int32) = (((b + p1) + p2) + p3) ∧ of (3 : Int32) = ((((b + p1) + p2) + p3) + p4)) ∨ (∃ t1 t2 t3 t4 p1 p2 p3 p4 : Int64, PE = [(t1, p1), (t2, p2), (t3, p3), (t4, p4)] ∧ m = (1 : Int32) ∧ ∃ (rT rO rE rW : Addr) (kW : ClassId) (n : Int32) (tf of : Int32 → Int64), own_TP Z h a rT rO rE rW kW (0 : Int32) (4 : Int32) (3 : Int32) b (14 : Int64) n tf of ∧ own_Gq n0 a rT rO rE rW ∧ tf (0 : Int32) = t1 ∧ tf (1 : Int32) = t2 ∧ tf (2 : Int32) = t3 ∧ tf (3 : Int32) = t4 ∧ of (1 : Int32) = ((b + p1) + p2) ∧ of (2 : Int32) = (((b + p1) + p2) + p3) ∧ of (3 : Int32) = ((((b + p1) + p2) + p3) + p4)) ∨ (∃ t1 t2 t3 t4 p1 p2 p3 p4 : Int64, PE = [(t1, p1), (t2, p2), (t3, p3), (t4, p4)] ∧ m = (2 : Int32) ∧ ∃ (rT rO rE rW : Addr) (kW : ClassId) (n : Int32) (tf of : Int32 → Int64), own_TP Z h a rT rO rE rW kW (0 : Int32) (4 : Int32) (3 : Int32) b (13 : Int64) n tf of ∧ own_Gq n0 a rT rO rE rW ∧ tf (0 : Int32) = t1 ∧ tf (1 : Int32) = t2 ∧ tf (2 : Int32) = t3 ∧ tf (3 : Int32) = t4 ∧ of (0 : Int32) = (b + p1) ∧ of (2 : Int32) = (((b + p1) + p2) + p3) ∧ of (3 : Int32) = ((((b + p1) + p2) + p3) + p4)) ∨ (∃ t1 t2 t3 t4 p1 p2 p3 p4 : Int64, PE = [(t1, p1), (t2, p2), (t3, p3), (t4, p4)] ∧ m = (3 : Int32) ∧ ∃ (rT rO rE rW : Addr) (kW : ClassId) (n : Int32) (tf of : Int32 → Int64), own_TP Z h a rT rO rE rW kW (0 : Int32) (4 : Int32) (3 : Int32) b (11 : Int64) n tf of ∧ own_Gq n0 a rT rO rE rW ∧ tf (0 : Int32) = t1 ∧ tf (1 : Int32) = t2 ∧ tf (2 : Int32) = t3 ∧ tf (3 : Int32) = t4 ∧ of (0 : Int32) = (b + p1) ∧ of (1 : Int32) = ((b + p1) + p2) ∧ of (3 : Int32) = ((((b + p1) + p2) + p3) + p4))
theorem own_L3.ls {Z : State} {hB h : Heap} {n0 : Nat} {a : Addr} {b : Int64} {PE : List (Int64 × Int64)} (I : own_L3 Z hB h n0 a b PE) : own_LS Z h n0 a b PE 0 := by
 rcases I with ⟨rfl, G⟩ | ⟨rfl, G⟩ | ⟨rfl, G⟩ | ⟨t1, p1, rfl, G⟩ | ⟨t1, p1, rfl, G⟩ | ⟨t1, t2, p1, p2, rfl, G⟩ | ⟨t1, t2, p1, p2, rfl, G⟩ | ⟨t1, t2, t3, p1, p2, p3, rfl, G⟩ | ⟨t1, t2, t3, p1, p2, p3, rfl, G⟩ | ⟨t1, t2, t3, t4, p1, p2, p3, p4, rfl, G⟩
 · obtain ⟨rT, rF, rO, rS, rE, rW, kT, kF, kO, kW, O, SP⟩ := G
   exact (Or.inl ⟨rfl, rfl, O.ga, O.Ea, O.Fsize⟩)
 · obtain ⟨rT, rF, rO, rS, rE, rW, kT, kF, kO, kW, tm0, tm1, fr0, fr1, to0, to1, O, SP⟩ := G
   exact (Or.inl ⟨rfl, rfl, O.ga, O.Ea, O.Fsize⟩)
 · obtain ⟨rT, rF, rO, rS, rE, rW, kT, kF, kO, kW, tm0, tm1, fr0, fr1, to0, to1, O, SP⟩ := G
   exact (Or.inl ⟨rfl, rfl, O.ga, O.Ea, O.Fsize⟩)
 · obtain ⟨rT, rF, rO, rS, rE, rW, kT, kF, kO, kW, tm1, fr1, to1, O, SP⟩ := G
   exact (Or.inr (Or.inl ⟨t1, p1, rfl, rfl, _, _, _, _, _, _, _, _, ⟨O.Ea, O.Ftimes, O.Ftotals, O.Fentries, O.Ffirst, O.Fend, O.Fsize, O.Fbase, O.Ee, O.BwordsInUse, O.BsizeIsSticky, O.Bwords, own_Fj.of_arv (es := [t1, tm1]) O.Vt rfl, own_Fj.of_arv (es := [(b + p1), to1]) O.Vo rfl, O.Vw, O.St, (Or.inl ⟨rfl, rfl⟩), by decide⟩, ⟨O.ga, O.grT, O.grO, O.grE, O.grW⟩, rfl, rfl⟩))
 · obtain ⟨rT, rF, rO, rS, rE, rW, kT, kF, kO, kW, tm0, fr0, to0, O, SP⟩ := G
   exact (Or.inr (Or.inr (Or.inl ⟨t1, p1, rfl, rfl, _, _, _, _, _, _, _, _, ⟨O.Ea, O.Ftimes, O.Ftotals, O.Fentries, O.Ffirst, O.Fend, O.Fsize, O.Fbase, O.Ee, O.BwordsInUse, O.BsizeIsSticky, O.Bwords, own_Fj.of_arv (es := [tm0, t1]) O.Vt rfl, own_Fj.of_arv (es := [to0, (b + p1)]) O.Vo rfl, O.Vw, O.St, (Or.inr (Or.inl ⟨rfl, rfl⟩)), by decide⟩, ⟨O.ga, O.grT, O.grO, O.grE, O.grW⟩, rfl, rfl⟩)))
 · obtain ⟨rT, rF, rO, rS, rE, rW, kT, kF, kO, kW, O, SP⟩ := G
   exact (Or.inr (Or.inr (Or.inr (Or.inl ⟨t1, t2, p1, p2, rfl, rfl, _, _, _, _, _, _, _, _, ⟨O.Ea, O.Ftimes, O.Ftotals, O.Fentries, O.Ffirst, O.Fend, O.Fsize, O.Fbase, O.Ee, O.BwordsInUse, O.BsizeIsSticky, O.Bwords, own_Fj.of_arv (es := [t1, t2]) O.Vt rfl, own_Fj.of_arv (es := [(b + p1), ((b + p1) + p2)]) O.Vo rfl, O.Vw, O.St, (Or.inr (Or.inr (Or.inl ⟨rfl, rfl⟩))), by decide⟩, ⟨O.ga, O.grT, O.grO, O.grE, O.grW⟩, rfl, rfl, rfl, rfl⟩))))
 · obtain ⟨rT, rF, rO, rS, rE, rW, kT, kF, kO, kW, tm2, tm3, fr2, fr3, to2, to3, O, SP⟩ := G
   exact (Or.inr (Or.inr (Or.inr (Or.inl ⟨t1, t2, p1, p2, rfl, rfl, _, _, _, _, _, _, _, _, ⟨O.Ea, O.Ftimes, O.Ftotals, O.Fentries, O.Ffirst, O.Fend, O.Fsize, O.Fbase, O.Ee, O.BwordsInUse, O.BsizeIsSticky, O.Bwords, own_Fj.of_arv (es := [t1, t2, tm2, tm3]) O.Vt rfl, own_Fj.of_arv (es := [(b + p1), ((b + p1) + p2), to2, to3]) O.Vo rfl, O.Vw, O.St, (Or.inr (Or.inr (Or.inl ⟨rfl, rfl⟩))), by decide⟩, ⟨O.ga, O.grT, O.grO, O.grE, O.grW⟩, rfl, rfl, rfl, rfl⟩))))
 · obtain ⟨rT, rF, rO, rS, rE, rW, kT, kF, kO, kW, tm3, tm4, tm5, tm6, tm7, fr3, fr4, fr5, fr6, fr7, to3, to4, to5, to6, to7, O, SP⟩ := G
   exact (Or.inr (Or.inr (Or.inr (Or.inr (Or.inr (Or.inl ⟨t1, t2, t3, p1, p2, p3, rfl, rfl, _, _, _, _, _, _, _, _, ⟨O.Ea, O.Ftimes, O.Ftotals, O.Fentries, O.Ffirst, O.Fend, O.Fsize, O.Fbase, O.Ee, O.BwordsInUse, O.BsizeIsSticky, O.Bwords, own_Fj.of_arv (es := [t1, t2, t3, tm3, tm4, tm5, tm6, tm7]) O.Vt rfl, own_Fj.of_arv (es := [(b + p1), ((b + p1) + p2), (((b + p1) + p2) + p3), to3, to4, to5, to6, to7]) O.Vo rfl, O.Vw, O.St, (Or.inr (Or.inr (Or.inr (Or.inl ⟨rfl, rfl⟩)))), by decide⟩, ⟨O.ga, O.grT, O.grO, O.grE, O.grW⟩, rfl, rfl, rfl, rfl, rfl, rfl⟩))))))
 · obtain ⟨rT, rF, rO, rS, rE, rW, kT, kF, kO, kW, tm3, fr3, to3, O, SP⟩ := G
   exact (Or.inr (Or.inr (Or.inr (Or.inr (Or.inr (Or.inl ⟨t1, t2, t3, p1, p2, p3, rfl, rfl, _, _, _, _, _, _, _, _, ⟨O.Ea, O.Ftimes, O.Ftotals, O.Fentries, O.Ffirst, O.Fend, O.Fsize, O.Fbase, O.Ee, O.BwordsInUse, O.BsizeIsSticky, O.Bwords, own_Fj.of_arv (es := [t1, t2, t3, tm3]) O.Vt rfl, own_Fj.of_arv (es := [(b + p1), ((b + p1) + p2), (((b + p1) + p2) + p3), to3]) O.Vo rfl, O.Vw, O.St, (Or.inr (Or.inr (Or.inr (Or.inl ⟨rfl, rfl⟩)))), by decide⟩, ⟨O.ga, O.grT, O.grO, O.grE, O.grW⟩, rfl, rfl, rfl, rfl, rfl, rfl⟩))))))
 · obtain ⟨rT, rF, rO, rS, rE, rW, kT, kF, kO, kW, tm4, tm5, tm6, tm7, fr4, fr5, fr6, fr7, to4, to5, to6, to7, O, SP⟩ := G
   exact (Or.inr (Or.inr (Or.inr (Or.inr (Or.inr (Or.inr (Or.inr (Or.inr (Or.inl ⟨t1, t2, t3, t4, p1, p2, p3, p4, rfl, rfl, _, _, _, _, _, _, _, _, ⟨O.Ea, O.Ftimes, O.Ftotals, O.Fentries, O.Ffirst, O.Fend, O.Fsize, O.Fbase, O.Ee, O.BwordsInUse, O.BsizeIsSticky, O.Bwords, own_Fj.of_arv (es := [t1, t2, t3, t4, tm4, tm5, tm6, tm7]) O.Vt rfl, own_Fj.of_arv (es := [(b + p1), ((b + p1) + p2), (((b + p1) + p2) + p3), ((((b + p1) + p2) + p3) + p4), to4, to5, to6, to7]) O.Vo rfl, O.Vw, O.St, (Or.inr (Or.inr (Or.inr (Or.inr ⟨rfl, rfl⟩)))), by decide⟩, ⟨O.ga, O.grT, O.grO, O.grE, O.grW⟩, rfl, rfl, rfl, rfl, rfl, rfl, rfl, rfl⟩)))))))))
def own_Hi (Z : State) (n0 : Nat) (h h' : Heap) : Prop := (∀ (x : Addr) (c : Cell), n0 ≤ x → h[x]? = some c → h'[x]? = some c) ∧ own_StK Z h h'
section OwnHi
variable {Z : State} {n0 : Nat} {h h' h2 : Heap} {a : Addr}
theorem own_Hi.refl (Z : State) (n0 : Nat) (h : Heap) : own_Hi Z n0 h h := ⟨fun _ _ _ q => q, own_StK.refl Z h⟩
theorem own_Hi.keep {ws : List Addr} (H : own_Hi Z n0 h h') (K : Keep h' h2 ws) (S : own_StK Z h' h2) (g : ∀ x ∈ ws, x < n0) : own_Hi Z n0 h h2 := ⟨fun x c q r => K.2.1 x c (H.1 x c q r) fun m => absurd (g x m) (Nat.not_lt.mpr q), H.2.tr S⟩
theorem own_Hi.wr {sl : Nat} {v : Value} (H : own_Hi Z n0 h h') (W : Wr h' h2 a sl v) (g : a < n0) : own_Hi Z n0 h h2 := H.keep (Keep.of_wr W) ((own_StK.refl Z h').wr W) (allS (P := fun x => x < n0) g all0)
theorem own_Hi.exa {C : String} (H : own_Hi Z n0 h h') (F : Exa Z h a C) (g : n0 ≤ a) : Exa Z h' a C := by obtain ⟨c, k, h1, r⟩ := F; exact ⟨c, k, H.1 a c g h1, r⟩
theorem own_Hi.fld {C n d : String} {v : Value} (H : own_Hi Z n0 h h') (F : Fld Z h a C n d v) (g : n0 ≤ a) : Fld Z h' a C n d v := by obtain ⟨c, cf, k, i, f, h1, r⟩ := F; exact ⟨c, cf, k, i, f, H.1 a c g h1, r⟩
theorem own_Hi.arv {k : ClassId} {ty : FieldType} {z : Int32} {vs : List Value} {dv : Value} (H : own_Hi Z n0 h h') (F : Arv Z h a k ty z vs dv) (g : n0 ≤ a) : Arv Z h' a k ty z vs dv := by obtain ⟨c, A, r⟩ := F; exact ⟨c, ⟨H.1 a c g A.1, A.2⟩, r⟩
theorem own_Hi.fj {z : Int32} {f : Int32 → Int64} (H : own_Hi Z n0 h h') (F : own_Fj Z h a z f) (g : n0 ≤ a) : own_Fj Z h' a z f := by obtain ⟨c, A, r⟩ := F; exact ⟨c, ⟨H.1 a c g A.1, A.2⟩, r⟩
theorem own_Frm {n1 : Nat} {L : List Loc} (N : Fr n1 L) (q : n0 ≤ n1) : Fr n0 L := fun y m => Nat.le_trans q (N y m)
end OwnHi
section OwnO2
variable {Z : State} {h h' hB : Heap} {n0 : Nat} {a rT rF rO rS rE rW : Addr} {kT kF kO kW : ClassId} {fi en sz : Int32} {bs : Int64} {u sk : Int32} {w : Int64} {n : Int32} {ts fs os : List Value}
theorem own_Obj.hi (O : own_Obj Z h n0 a rT rF rO rS rE rW kT kF kO kW fi en sz bs u sk w n ts fs os hB) (H : own_Hi Z n0 h h') : own_Obj Z h' n0 a rT rF rO rS rE rW kT kF kO kW fi en sz bs u sk w n ts fs os h' := ⟨own_Hi.exa H O.Ea O.ga, own_Hi.fld H O.Ftimes O.ga, own_Hi.fld H O.Ffroms O.ga, own_Hi.fld H O.Ftotals O.ga, own_Hi.fld H O.Fspans O.ga, own_Hi.fld H O.Fentries O.ga, own_Hi.fld H O.Fsize O.ga, own_Hi.fld H O.Fend O.ga, own_Hi.fld H O.Ffirst O.ga, own_Hi.fld H O.Fbase O.ga, own_Hi.exa H O.Ee O.grE, own_Hi.fld H O.BwordsInUse O.grE, own_Hi.fld H O.BsizeIsSticky O.grE, own_Hi.fld H O.Bwords O.grE, own_Hi.arv H O.Vt O.grT, own_Hi.arv H O.Vf O.grF, own_Hi.arv H O.Vo O.grO, own_Hi.arv H O.Vw O.grW, H.2 _ _ _ _ O.St, O.ga, O.grT, O.grF, O.grO, O.grS, O.grE, O.grW, O.n_a_rT, O.n_a_rF, O.n_a_rO, O.n_a_rS, O.n_a_rE, O.n_a_rW, O.n_rT_rF, O.n_rT_rO, O.n_rT_rS, O.n_rT_rE, O.n_rT_rW, O.n_rF_rO, O.n_rF_rS, O.n_rF_rE, O.n_rF_rW, O.n_rO_rS, O.n_rO_rE, O.n_rO_rW, O.n_rS_rE, O.n_rS_rW, O.n_rE_rW, own_Lo.refl _ _⟩
end OwnO2
theorem own_Sp0.hi {Z : State} {n0 : Nat} {h h' : Heap} {a : Addr} (F : own_Sp0 Z h a) (H : own_Hi Z n0 h h') (g : n0 ≤ a) : own_Sp0 Z h' a := by obtain ⟨k, V⟩ := F; exact ⟨k, H.arv V g⟩
theorem own_Sp2.hi {Z : State} {n0 : Nat} {h h' : Heap} {a : Addr} {l0 : Int64} {l1 : Int64} (F : own_Sp2 Z h a l0 l1) (H : own_Hi Z n0 h h') (g : n0 ≤ a) : own_Sp2 Z h' a l0 l1 := by obtain ⟨k, V⟩ := F; exact ⟨k, H.arv V g⟩
theorem own_Sp4.hi {Z : State} {n0 : Nat} {h h' : Heap} {a : Addr} {l0 : Int64} {l1 : Int64} {l2 : Int64} {l3 : Int64} (F : own_Sp4 Z h a l0 l1 l2 l3) (H : own_Hi Z n0 h h') (g : n0 ≤ a) : own_Sp4 Z h' a l0 l1 l2 l3 := by obtain ⟨k, V⟩ := F; exact ⟨k, H.arv V g⟩
theorem own_Sp8.hi {Z : State} {n0 : Nat} {h h' : Heap} {a : Addr} {l0 : Int64} {l1 : Int64} {l2 : Int64} {l3 : Int64} {l4 : Int64} {l5 : Int64} {l6 : Int64} {l7 : Int64} (F : own_Sp8 Z h a l0 l1 l2 l3 l4 l5 l6 l7) (H : own_Hi Z n0 h h') (g : n0 ≤ a) : own_Sp8 Z h' a l0 l1 l2 l3 l4 l5 l6 l7 := by obtain ⟨k, V⟩ := F; exact ⟨k, H.arv V g⟩
theorem own_G_0_0_0_0.hi {Z : State} {hB h h' : Heap} {n0 : Nat} {a : Addr} {bs : Int64} (G : own_G_0_0_0_0 Z hB h n0 a bs) (H : own_Hi Z n0 h h') : own_G_0_0_0_0 Z h' h' n0 a bs := by obtain ⟨rT, rF, rO, rS, rE, rW, kT, kF, kO, kW, O, SP⟩ := G; exact ⟨rT, rF, rO, rS, rE, rW, kT, kF, kO, kW, O.hi H, SP.hi H O.grS⟩
theorem own_G_0_0_0_0.lo {Z : State} {hB h : Heap} {n0 : Nat} {a : Addr} {bs : Int64} (G : own_G_0_0_0_0 Z hB h n0 a bs) : own_Lo hB n0 h ∧ Exa Z h a oL := by obtain ⟨rT, rF, rO, rS, rE, rW, kT, kF, kO, kW, O, SP⟩ := G; exact ⟨O.Lo, O.Ea⟩
theorem own_G_2_1_1_0.hi {Z : State} {hB h h' : Heap} {n0 : Nat} {a : Addr} {bs : Int64} (G : own_G_2_1_1_0 Z hB h n0 a bs) (H : own_Hi Z n0 h h') : own_G_2_1_1_0 Z h' h' n0 a bs := by obtain ⟨rT, rF, rO, rS, rE, rW, kT, kF, kO, kW, tm0, tm1, fr0, fr1, to0, to1, O, SP⟩ := G; exact ⟨rT, rF, rO, rS, rE, rW, kT, kF, kO, kW, tm0, tm1, fr0, fr1, to0, to1, O.hi H, SP.hi H O.grS⟩
theorem own_G_2_1_1_0.lo {Z : State} {hB h : Heap} {n0 : Nat} {a : Addr} {bs : Int64} (G : own_G_2_1_1_0 Z hB h n0 a bs) : own_Lo hB n0 h ∧ Exa Z h a oL := by obtain ⟨rT, rF, rO, rS, rE, rW, kT, kF, kO, kW, tm0, tm1, fr0, fr1, to0, to1, O, SP⟩ := G; exact ⟨O.Lo, O.Ea⟩
theorem own_G_2_2_2_0.hi {Z : State} {hB h h' : Heap} {n0 : Nat} {a : Addr} {bs : Int64} (G : own_G_2_2_2_0 Z hB h n0 a bs) (H : own_Hi Z n0 h h') : own_G_2_2_2_0 Z h' h' n0 a bs := by obtain ⟨rT, rF, rO, rS, rE, rW, kT, kF, kO, kW, tm0, tm1, fr0, fr1, to0, to1, O, SP⟩ := G; exact ⟨rT, rF, rO, rS, rE, rW, kT, kF, kO, kW, tm0, tm1, fr0, fr1, to0, to1, O.hi H, SP.hi H O.grS⟩
theorem own_G_2_2_2_0.lo {Z : State} {hB h : Heap} {n0 : Nat} {a : Addr} {bs : Int64} (G : own_G_2_2_2_0 Z hB h n0 a bs) : own_Lo hB n0 h ∧ Exa Z h a oL := by obtain ⟨rT, rF, rO, rS, rE, rW, kT, kF, kO, kW, tm0, tm1, fr0, fr1, to0, to1, O, SP⟩ := G; exact ⟨O.Lo, O.Ea⟩
theorem own_G_2_0_1_1.hi {Z : State} {hB h h' : Heap} {n0 : Nat} {a : Addr} {bs tm0 to0 : Int64} (G : own_G_2_0_1_1 Z hB h n0 a bs tm0 to0) (H : own_Hi Z n0 h h') : own_G_2_0_1_1 Z h' h' n0 a bs tm0 to0 := by obtain ⟨rT, rF, rO, rS, rE, rW, kT, kF, kO, kW, tm1, fr1, to1, O, SP⟩ := G; exact ⟨rT, rF, rO, rS, rE, rW, kT, kF, kO, kW, tm1, fr1, to1, O.hi H, SP.hi H O.grS⟩
theorem own_G_2_0_1_1.lo {Z : State} {hB h : Heap} {n0 : Nat} {a : Addr} {bs tm0 to0 : Int64} (G : own_G_2_0_1_1 Z hB h n0 a bs tm0 to0) : own_Lo hB n0 h ∧ Exa Z h a oL := by obtain ⟨rT, rF, rO, rS, rE, rW, kT, kF, kO, kW, tm1, fr1, to1, O, SP⟩ := G; exact ⟨O.Lo, O.Ea⟩
theorem own_G_2_1_2_2.hi {Z : State} {hB h h' : Heap} {n0 : Nat} {a : Addr} {bs tm1 to1 : Int64} (G : own_G_2_1_2_2 Z hB h n0 a bs tm1 to1) (H : own_Hi Z n0 h h') : own_G_2_1_2_2 Z h' h' n0 a bs tm1 to1 := by obtain ⟨rT, rF, rO, rS, rE, rW, kT, kF, kO, kW, tm0, fr0, to0, O, SP⟩ := G; exact ⟨rT, rF, rO, rS, rE, rW, kT, kF, kO, kW, tm0, fr0, to0, O.hi H, SP.hi H O.grS⟩
theorem own_G_2_1_2_2.lo {Z : State} {hB h : Heap} {n0 : Nat} {a : Addr} {bs tm1 to1 : Int64} (G : own_G_2_1_2_2 Z hB h n0 a bs tm1 to1) : own_Lo hB n0 h ∧ Exa Z h a oL := by obtain ⟨rT, rF, rO, rS, rE, rW, kT, kF, kO, kW, tm0, fr0, to0, O, SP⟩ := G; exact ⟨O.Lo, O.Ea⟩
theorem own_G_2_0_2_3.hi {Z : State} {hB h h' : Heap} {n0 : Nat} {a : Addr} {bs tm0 tm1 to0 to1 : Int64} (G : own_G_2_0_2_3 Z hB h n0 a bs tm0 tm1 to0 to1) (H : own_Hi Z n0 h h') : own_G_2_0_2_3 Z h' h' n0 a bs tm0 tm1 to0 to1 := by obtain ⟨rT, rF, rO, rS, rE, rW, kT, kF, kO, kW, O, SP⟩ := G; exact ⟨rT, rF, rO, rS, rE, rW, kT, kF, kO, kW, O.hi H, SP.hi H O.grS⟩
theorem own_G_2_0_2_3.lo {Z : State} {hB h : Heap} {n0 : Nat} {a : Addr} {bs tm0 tm1 to0 to1 : Int64} (G : own_G_2_0_2_3 Z hB h n0 a bs tm0 tm1 to0 to1) : own_Lo hB n0 h ∧ Exa Z h a oL := by obtain ⟨rT, rF, rO, rS, rE, rW, kT, kF, kO, kW, O, SP⟩ := G; exact ⟨O.Lo, O.Ea⟩
theorem own_G_4_0_2_3.hi {Z : State} {hB h h' : Heap} {n0 : Nat} {a : Addr} {bs tm0 tm1 to0 to1 : Int64} (G : own_G_4_0_2_3 Z hB h n0 a bs tm0 tm1 to0 to1) (H : own_Hi Z n0 h h') : own_G_4_0_2_3 Z h' h' n0 a bs tm0 tm1 to0 to1 := by obtain ⟨rT, rF, rO, rS, rE, rW, kT, kF, kO, kW, tm2, tm3, fr2, fr3, to2, to3, O, SP⟩ := G; exact ⟨rT, rF, rO, rS, rE, rW, kT, kF, kO, kW, tm2, tm3, fr2, fr3, to2, to3, O.hi H, SP.hi H O.grS⟩
theorem own_G_4_0_2_3.lo {Z : State} {hB h : Heap} {n0 : Nat} {a : Addr} {bs tm0 tm1 to0 to1 : Int64} (G : own_G_4_0_2_3 Z hB h n0 a bs tm0 tm1 to0 to1) : own_Lo hB n0 h ∧ Exa Z h a oL := by obtain ⟨rT, rF, rO, rS, rE, rW, kT, kF, kO, kW, tm2, tm3, fr2, fr3, to2, to3, O, SP⟩ := G; exact ⟨O.Lo, O.Ea⟩
theorem own_G_8_0_3_7.hi {Z : State} {hB h h' : Heap} {n0 : Nat} {a : Addr} {bs tm0 tm1 tm2 to0 to1 to2 : Int64} (G : own_G_8_0_3_7 Z hB h n0 a bs tm0 tm1 tm2 to0 to1 to2) (H : own_Hi Z n0 h h') : own_G_8_0_3_7 Z h' h' n0 a bs tm0 tm1 tm2 to0 to1 to2 := by obtain ⟨rT, rF, rO, rS, rE, rW, kT, kF, kO, kW, tm3, tm4, tm5, tm6, tm7, fr3, fr4, fr5, fr6, fr7, to3, to4, to5, to6, to7, O, SP⟩ := G; exact ⟨rT, rF, rO, rS, rE, rW, kT, kF, kO, kW, tm3, tm4, tm5, tm6, tm7, fr3, fr4, fr5, fr6, fr7, to3, to4, to5, to6, to7, O.hi H, SP.hi H O.grS⟩
theorem own_G_8_0_3_7.lo {Z : State} {hB h : Heap} {n0 : Nat} {a : Addr} {bs tm0 tm1 tm2 to0 to1 to2 : Int64} (G : own_G_8_0_3_7 Z hB h n0 a bs tm0 tm1 tm2 to0 to1 to2) : own_Lo hB n0 h ∧ Exa Z h a oL := by obtain ⟨rT, rF, rO, rS, rE, rW, kT, kF, kO, kW, tm3, tm4, tm5, tm6, tm7, fr3, fr4, fr5, fr6, fr7, to3, to4, to5, to6, to7, O, SP⟩ := G; exact ⟨O.Lo, O.Ea⟩
theorem own_G_4_0_3_7.hi {Z : State} {hB h h' : Heap} {n0 : Nat} {a : Addr} {bs tm0 tm1 tm2 to0 to1 to2 : Int64} (G : own_G_4_0_3_7 Z hB h n0 a bs tm0 tm1 tm2 to0 to1 to2) (H : own_Hi Z n0 h h') : own_G_4_0_3_7 Z h' h' n0 a bs tm0 tm1 tm2 to0 to1 to2 := by obtain ⟨rT, rF, rO, rS, rE, rW, kT, kF, kO, kW, tm3, fr3, to3, O, SP⟩ := G; exact ⟨rT, rF, rO, rS, rE, rW, kT, kF, kO, kW, tm3, fr3, to3, O.hi H, SP.hi H O.grS⟩
theorem own_G_4_0_3_7.lo {Z : State} {hB h : Heap} {n0 : Nat} {a : Addr} {bs tm0 tm1 tm2 to0 to1 to2 : Int64} (G : own_G_4_0_3_7 Z hB h n0 a bs tm0 tm1 tm2 to0 to1 to2) : own_Lo hB n0 h ∧ Exa Z h a oL := by obtain ⟨rT, rF, rO, rS, rE, rW, kT, kF, kO, kW, tm3, fr3, to3, O, SP⟩ := G; exact ⟨O.Lo, O.Ea⟩
theorem own_G_8_0_4_15.hi {Z : State} {hB h h' : Heap} {n0 : Nat} {a : Addr} {bs tm0 tm1 tm2 tm3 to0 to1 to2 to3 : Int64} (G : own_G_8_0_4_15 Z hB h n0 a bs tm0 tm1 tm2 tm3 to0 to1 to2 to3) (H : own_Hi Z n0 h h') : own_G_8_0_4_15 Z h' h' n0 a bs tm0 tm1 tm2 tm3 to0 to1 to2 to3 := by obtain ⟨rT, rF, rO, rS, rE, rW, kT, kF, kO, kW, tm4, tm5, tm6, tm7, fr4, fr5, fr6, fr7, to4, to5, to6, to7, O, SP⟩ := G; exact ⟨rT, rF, rO, rS, rE, rW, kT, kF, kO, kW, tm4, tm5, tm6, tm7, fr4, fr5, fr6, fr7, to4, to5, to6, to7, O.hi H, SP.hi H O.grS⟩
theorem own_G_8_0_4_15.lo {Z : State} {hB h : Heap} {n0 : Nat} {a : Addr} {bs tm0 tm1 tm2 tm3 to0 to1 to2 to3 : Int64} (G : own_G_8_0_4_15 Z hB h n0 a bs tm0 tm1 tm2 tm3 to0 to1 to2 to3) : own_Lo hB n0 h ∧ Exa Z h a oL := by obtain ⟨rT, rF, rO, rS, rE, rW, kT, kF, kO, kW, tm4, tm5, tm6, tm7, fr4, fr5, fr6, fr7, to4, to5, to6, to7, O, SP⟩ := G; exact ⟨O.Lo, O.Ea⟩
theorem own_La.hi {Z : State} {hB h h' : Heap} {n0 : Nat} {a : Addr} {b : Int64} {PE : List (Int64 × Int64)} (I : own_La Z hB h n0 a b PE) (H : own_Hi Z n0 h h') : own_La Z h' h' n0 a b PE := by
 rcases I with ⟨rfl, G⟩ | ⟨t1, p1, rfl, G⟩
 · exact (Or.inl ⟨rfl, G.hi H⟩)
 · exact (Or.inr ⟨t1, p1, rfl, G.hi H⟩)
theorem own_La.lo {Z : State} {hB h : Heap} {n0 : Nat} {a : Addr} {b : Int64} {PE : List (Int64 × Int64)} (I : own_La Z hB h n0 a b PE) : own_Lo hB n0 h ∧ Exa Z h a oL := by
 rcases I with ⟨rfl, G⟩ | ⟨t1, p1, rfl, G⟩ <;> exact G.lo
theorem own_L0.hi {Z : State} {hB h h' : Heap} {n0 : Nat} {a : Addr} {b : Int64} {PE : List (Int64 × Int64)} (I : own_L0 Z hB h n0 a b PE) (H : own_Hi Z n0 h h') : own_L0 Z h' h' n0 a b PE := by
 rcases I with ⟨rfl, G⟩ | ⟨t1, p1, rfl, G⟩ | ⟨t1, t2, p1, p2, rfl, G⟩
 · exact (Or.inl ⟨rfl, G.hi H⟩)
 · exact (Or.inr (Or.inl ⟨t1, p1, rfl, G.hi H⟩))
 · exact (Or.inr (Or.inr ⟨t1, t2, p1, p2, rfl, G.hi H⟩))
theorem own_L0.lo {Z : State} {hB h : Heap} {n0 : Nat} {a : Addr} {b : Int64} {PE : List (Int64 × Int64)} (I : own_L0 Z hB h n0 a b PE) : own_Lo hB n0 h ∧ Exa Z h a oL := by
 rcases I with ⟨rfl, G⟩ | ⟨t1, p1, rfl, G⟩ | ⟨t1, t2, p1, p2, rfl, G⟩ <;> exact G.lo
theorem own_L1.hi {Z : State} {hB h h' : Heap} {n0 : Nat} {a : Addr} {b : Int64} {PE : List (Int64 × Int64)} (I : own_L1 Z hB h n0 a b PE) (H : own_Hi Z n0 h h') : own_L1 Z h' h' n0 a b PE := by
 rcases I with ⟨rfl, G⟩ | ⟨rfl, G⟩ | ⟨rfl, G⟩ | ⟨t1, p1, rfl, G⟩ | ⟨t1, p1, rfl, G⟩ | ⟨t1, t2, p1, p2, rfl, G⟩
 · exact (Or.inl ⟨rfl, G.hi H⟩)
 · exact (Or.inr (Or.inl ⟨rfl, G.hi H⟩))
 · exact (Or.inr (Or.inr (Or.inl ⟨rfl, G.hi H⟩)))
 · exact (Or.inr (Or.inr (Or.inr (Or.inl ⟨t1, p1, rfl, G.hi H⟩))))
 · exact (Or.inr (Or.inr (Or.inr (Or.inr (Or.inl ⟨t1, p1, rfl, G.hi H⟩)))))
 · exact (Or.inr (Or.inr (Or.inr (Or.inr (Or.inr ⟨t1, t2, p1, p2, rfl, G.hi H⟩)))))
theorem own_L1.lo {Z : State} {hB h : Heap} {n0 : Nat} {a : Addr} {b : Int64} {PE : List (Int64 × Int64)} (I : own_L1 Z hB h n0 a b PE) : own_Lo hB n0 h ∧ Exa Z h a oL := by
 rcases I with ⟨rfl, G⟩ | ⟨rfl, G⟩ | ⟨rfl, G⟩ | ⟨t1, p1, rfl, G⟩ | ⟨t1, p1, rfl, G⟩ | ⟨t1, t2, p1, p2, rfl, G⟩ <;> exact G.lo
theorem own_L2.hi {Z : State} {hB h h' : Heap} {n0 : Nat} {a : Addr} {b : Int64} {PE : List (Int64 × Int64)} (I : own_L2 Z hB h n0 a b PE) (H : own_Hi Z n0 h h') : own_L2 Z h' h' n0 a b PE := by
 rcases I with ⟨rfl, G⟩ | ⟨rfl, G⟩ | ⟨rfl, G⟩ | ⟨t1, p1, rfl, G⟩ | ⟨t1, p1, rfl, G⟩ | ⟨t1, t2, p1, p2, rfl, G⟩ | ⟨t1, t2, p1, p2, rfl, G⟩ | ⟨t1, t2, t3, p1, p2, p3, rfl, G⟩
 · exact (Or.inl ⟨rfl, G.hi H⟩)
 · exact (Or.inr (Or.inl ⟨rfl, G.hi H⟩))
 · exact (Or.inr (Or.inr (Or.inl ⟨rfl, G.hi H⟩)))
 · exact (Or.inr (Or.inr (Or.inr (Or.inl ⟨t1, p1, rfl, G.hi H⟩))))
 · exact (Or.inr (Or.inr (Or.inr (Or.inr (Or.inl ⟨t1, p1, rfl, G.hi H⟩)))))
 · exact (Or.inr (Or.inr (Or.inr (Or.inr (Or.inr (Or.inl ⟨t1, t2, p1, p2, rfl, G.hi H⟩))))))
 · exact (Or.inr (Or.inr (Or.inr (Or.inr (Or.inr (Or.inr (Or.inl ⟨t1, t2, p1, p2, rfl, G.hi H⟩)))))))
 · exact (Or.inr (Or.inr (Or.inr (Or.inr (Or.inr (Or.inr (Or.inr ⟨t1, t2, t3, p1, p2, p3, rfl, G.hi H⟩)))))))
theorem own_L2.lo {Z : State} {hB h : Heap} {n0 : Nat} {a : Addr} {b : Int64} {PE : List (Int64 × Int64)} (I : own_L2 Z hB h n0 a b PE) : own_Lo hB n0 h ∧ Exa Z h a oL := by
 rcases I with ⟨rfl, G⟩ | ⟨rfl, G⟩ | ⟨rfl, G⟩ | ⟨t1, p1, rfl, G⟩ | ⟨t1, p1, rfl, G⟩ | ⟨t1, t2, p1, p2, rfl, G⟩ | ⟨t1, t2, p1, p2, rfl, G⟩ | ⟨t1, t2, t3, p1, p2, p3, rfl, G⟩ <;> exact G.lo
theorem own_L3.hi {Z : State} {hB h h' : Heap} {n0 : Nat} {a : Addr} {b : Int64} {PE : List (Int64 × Int64)} (I : own_L3 Z hB h n0 a b PE) (H : own_Hi Z n0 h h') : own_L3 Z h' h' n0 a b PE := by
 rcases I with ⟨rfl, G⟩ | ⟨rfl, G⟩ | ⟨rfl, G⟩ | ⟨t1, p1, rfl, G⟩ | ⟨t1, p1, rfl, G⟩ | ⟨t1, t2, p1, p2, rfl, G⟩ | ⟨t1, t2, p1, p2, rfl, G⟩ | ⟨t1, t2, t3, p1, p2, p3, rfl, G⟩ | ⟨t1, t2, t3, p1, p2, p3, rfl, G⟩ | ⟨t1, t2, t3, t4, p1, p2, p3, p4, rfl, G⟩
 · exact (Or.inl ⟨rfl, G.hi H⟩)
 · exact (Or.inr (Or.inl ⟨rfl, G.hi H⟩))
 · exact (Or.inr (Or.inr (Or.inl ⟨rfl, G.hi H⟩)))
 · exact (Or.inr (Or.inr (Or.inr (Or.inl ⟨t1, p1, rfl, G.hi H⟩))))
 · exact (Or.inr (Or.inr (Or.inr (Or.inr (Or.inl ⟨t1, p1, rfl, G.hi H⟩)))))
 · exact (Or.inr (Or.inr (Or.inr (Or.inr (Or.inr (Or.inl ⟨t1, t2, p1, p2, rfl, G.hi H⟩))))))
 · exact (Or.inr (Or.inr (Or.inr (Or.inr (Or.inr (Or.inr (Or.inl ⟨t1, t2, p1, p2, rfl, G.hi H⟩)))))))
 · exact (Or.inr (Or.inr (Or.inr (Or.inr (Or.inr (Or.inr (Or.inr (Or.inl ⟨t1, t2, t3, p1, p2, p3, rfl, G.hi H⟩))))))))
 · exact (Or.inr (Or.inr (Or.inr (Or.inr (Or.inr (Or.inr (Or.inr (Or.inr (Or.inl ⟨t1, t2, t3, p1, p2, p3, rfl, G.hi H⟩)))))))))
 · exact (Or.inr (Or.inr (Or.inr (Or.inr (Or.inr (Or.inr (Or.inr (Or.inr (Or.inr ⟨t1, t2, t3, t4, p1, p2, p3, p4, rfl, G.hi H⟩)))))))))
theorem own_L3.lo {Z : State} {hB h : Heap} {n0 : Nat} {a : Addr} {b : Int64} {PE : List (Int64 × Int64)} (I : own_L3 Z hB h n0 a b PE) : own_Lo hB n0 h ∧ Exa Z h a oL := by
 rcases I with ⟨rfl, G⟩ | ⟨rfl, G⟩ | ⟨rfl, G⟩ | ⟨t1, p1, rfl, G⟩ | ⟨t1, p1, rfl, G⟩ | ⟨t1, t2, p1, p2, rfl, G⟩ | ⟨t1, t2, p1, p2, rfl, G⟩ | ⟨t1, t2, t3, p1, p2, p3, rfl, G⟩ | ⟨t1, t2, t3, p1, p2, p3, rfl, G⟩ | ⟨t1, t2, t3, t4, p1, p2, p3, p4, rfl, G⟩ <;> exact G.lo
theorem dlc : oDe oc34 12 (.iconst 0) 1:=by decide+kernel
theorem faj (m : MethodId) (y0 : Addr) : entryFrame m #[(.ref y0)] 6 = mkF m 0 #[.val (.ref y0), .unset, .unset, .unset, .unset, .unset] [] := by first | (simp [entryFrame, mkF, argsToLocals, Value.category]; done) | rfl
theorem rmS0 (hw : own_T Z a0) (a : Addr) (h0 : Heap) (n0 : Nat) (Z0 : n0 ≤ h0.size) (Ea : Exa Z h0 a oL) (Fs : Fld Z h0 a oL "size" "I" (.int 0)) :
   own_Met l oy34 oc34 6 (some .boolean) (oRm 5 0 0 120) Z h0 #[(.ref a)] (fun v h L => v = some (.int 0) ∧ Fr n0 L ∧ h = h0) := by
 refine own_go hw (plainFor_of_name pn_34) (fun m => faj m a) fun p e s m below meth c T0 C hret X u => ?_
 have N := Fr.nil n0
 refine sA C X dkY ?_
 refine gF C X u Fs (wcI C.w) dkZ fun _ X u => ?_
 refine sC C X dlN ?_
 refine cY C X dlU 12 (by decide) ?_
 refine sC C X dlc ?_
 refine wI C X #[.val (.ref a), .val (.int 0), .unset, .unset, .unset, .unset] dli ?_
 refine sI C X dlo ?_
 refine bY C X dlw 151 (by decide) ?_
 refine sI C X dlx ?_
 exact rN C X u (t := .boolean) (by simp) hret dly ⟨rfl, N, rfl⟩
theorem rmS1 (hw : own_T Z a0) (a : Addr) (h0 : Heap) (n0 : Nat) (Z0 : n0 ≤ h0.size) (Ea : Exa Z h0 a oL) (Fs : Fld Z h0 a oL "size" "I" (.int 1)) :
   own_Met l oy34 oc34 6 (some .boolean) (oRm 5 0 0 120) Z h0 #[(.ref a)] (fun v h L => v = some (.int 0) ∧ Fr n0 L ∧ h = h0) := by
 refine own_go hw (plainFor_of_name pn_34) (fun m => faj m a) fun p e s m below meth c T0 C hret X u => ?_
 have N := Fr.nil n0
 refine sA C X dkY ?_
 refine gF C X u Fs (wcI C.w) dkZ fun _ X u => ?_
 refine sC C X dlN ?_
 refine cY C X dlU 12 (by decide) ?_
 refine sC C X dlc ?_
 refine wI C X #[.val (.ref a), .val (.int 0), .unset, .unset, .unset, .unset] dli ?_
 refine sI C X dlo ?_
 refine bY C X dlw 151 (by decide) ?_
 refine sI C X dlx ?_
 exact rN C X u (t := .boolean) (by simp) hret dly ⟨rfl, N, rfl⟩
def own_bst (m : Int32) : List (Int64 × Int64) → Prop
 | [(_, _), (_, _)] => m = 1
 | [(t1, _), (t2, _), (t3, _)] => (m = 1 ∧ ¬ (t3 - t2) < (t2 - t1)) ∨ (m = 2 ∧ (t3 - t2) < (t2 - t1))
 | [(t1, _), (t2, _), (t3, _), (t4, _)] => (m = 1 ∧ ¬ (t3 - t2) < (t2 - t1) ∧ ¬ (t4 - t3) < (t2 - t1)) ∨ (m = 2 ∧ (t3 - t2) < (t2 - t1) ∧ ¬ (t4 - t3) < (t3 - t2)) ∨ (m = 3 ∧ (((t3 - t2) < (t2 - t1) ∧ (t4 - t3) < (t3 - t2)) ∨ (¬ (t3 - t2) < (t2 - t1) ∧ (t4 - t3) < (t2 - t1))))
 | _ => m = 0
theorem own_shr (hw : own_T Z a0) (a : Addr) (b T : Int64) (PE : List (Int64 × Int64)) (hB : Heap) (h0 : Heap) (n0 : Nat) (Z0 : n0 ≤ h0.size) (I : own_L3 Z hB h0 n0 a b PE) (hN : ∀ z ∈ PE, own_near T z.1) : own_Met l oy34 oc34 6 (some .boolean) (oRm 5 0 0 120) Z h0 #[(.ref a)] (fun v h L => (∃ z, v = some (.int z)) ∧ Fr n0 L ∧ own_Lo hB n0 h ∧ ∃ m, own_bst m PE ∧ own_LS Z h n0 a b PE m) := by
 rcases I with ⟨rfl, G⟩ | ⟨rfl, G⟩ | ⟨rfl, G⟩ | ⟨t1, p1, rfl, G⟩ | ⟨t1, p1, rfl, G⟩ | ⟨t1, t2, p1, p2, rfl, G⟩ | ⟨t1, t2, p1, p2, rfl, G⟩ | ⟨t1, t2, t3, p1, p2, p3, rfl, G⟩ | ⟨t1, t2, t3, p1, p2, p3, rfl, G⟩ | ⟨t1, t2, t3, t4, p1, p2, p3, p4, rfl, G⟩
 · obtain ⟨rT, rF, rO, rS, rE, rW, kT, kF, kO, kW, O, SP⟩ := G
   exact own_weakM (rmS0 l Z a0 hw a h0 n0 Z0 O.Ea O.Fsize) fun v h L q => ⟨⟨_, q.1⟩, q.2.1, by rw [q.2.2]; exact O.Lo, 0, rfl, by rw [q.2.2]; exact (Or.inl ⟨rfl, rfl, O.ga, O.Ea, O.Fsize⟩)⟩
 · obtain ⟨rT, rF, rO, rS, rE, rW, kT, kF, kO, kW, tm0, tm1, fr0, fr1, to0, to1, O, SP⟩ := G
   exact own_weakM (rmS0 l Z a0 hw a h0 n0 Z0 O.Ea O.Fsize) fun v h L q => ⟨⟨_, q.1⟩, q.2.1, by rw [q.2.2]; exact O.Lo, 0, rfl, by rw [q.2.2]; exact (Or.inl ⟨rfl, rfl, O.ga, O.Ea, O.Fsize⟩)⟩
 · obtain ⟨rT, rF, rO, rS, rE, rW, kT, kF, kO, kW, tm0, tm1, fr0, fr1, to0, to1, O, SP⟩ := G
   exact own_weakM (rmS0 l Z a0 hw a h0 n0 Z0 O.Ea O.Fsize) fun v h L q => ⟨⟨_, q.1⟩, q.2.1, by rw [q.2.2]; exact O.Lo, 0, rfl, by rw [q.2.2]; exact (Or.inl ⟨rfl, rfl, O.ga, O.Ea, O.Fsize⟩)⟩
 · obtain ⟨rT, rF, rO, rS, rE, rW, kT, kF, kO, kW, tm1, fr1, to1, O, SP⟩ := G
   exact own_weakM (rmS1 l Z a0 hw a h0 n0 Z0 O.Ea O.Fsize) fun v h L q => ⟨⟨_, q.1⟩, q.2.1, by rw [q.2.2]; exact O.Lo, 0, rfl, by rw [q.2.2]; exact (Or.inr (Or.inl ⟨t1, p1, rfl, rfl, _, _, _, _, _, _, _, _, ⟨O.Ea, O.Ftimes, O.Ftotals, O.Fentries, O.Ffirst, O.Fend, O.Fsize, O.Fbase, O.Ee, O.BwordsInUse, O.BsizeIsSticky, O.Bwords, own_Fj.of_arv (es := [t1, tm1]) O.Vt rfl, own_Fj.of_arv (es := [(b + p1), to1]) O.Vo rfl, O.Vw, O.St, (Or.inl ⟨rfl, rfl⟩), by decide⟩, ⟨O.ga, O.grT, O.grO, O.grE, O.grW⟩, rfl, rfl⟩))⟩
 · obtain ⟨rT, rF, rO, rS, rE, rW, kT, kF, kO, kW, tm0, fr0, to0, O, SP⟩ := G
   exact own_weakM (rmS1 l Z a0 hw a h0 n0 Z0 O.Ea O.Fsize) fun v h L q => ⟨⟨_, q.1⟩, q.2.1, by rw [q.2.2]; exact O.Lo, 0, rfl, by rw [q.2.2]; exact (Or.inr (Or.inr (Or.inl ⟨t1, p1, rfl, rfl, _, _, _, _, _, _, _, _, ⟨O.Ea, O.Ftimes, O.Ftotals, O.Fentries, O.Ffirst, O.Fend, O.Fsize, O.Fbase, O.Ee, O.BwordsInUse, O.BsizeIsSticky, O.Bwords, own_Fj.of_arv (es := [tm0, t1]) O.Vt rfl, own_Fj.of_arv (es := [to0, (b + p1)]) O.Vo rfl, O.Vw, O.St, (Or.inr (Or.inl ⟨rfl, rfl⟩)), by decide⟩, ⟨O.ga, O.grT, O.grO, O.grE, O.grW⟩, rfl, rfl⟩)))⟩
 · obtain ⟨rT, rF, rO, rS, rE, rW, kT, kF, kO, kW, O, SP⟩ := G
   have hn1 : own_near T t1 := hN (t1, p1) (by simp)
   have hn2 : own_near T t2 := hN (t2, p2) (by simp)
   refine own_weakM (rm34_2_3 l Z a0 hw a rT rF rO rS rE rW kT kF kO kW (0 : Int32) (2 : Int32) (2 : Int32) b t1 t2 (b + p1) ((b + p1) + p2) T hB h0 n0 Z0 O SP hn1 hn2 (by decide)) fun v h L q => ?_
   obtain ⟨q1, q2, q3⟩ := q
   refine ⟨⟨_, q1⟩, q2, ?_⟩
   obtain ⟨hs, O1, S1⟩ := q3
   rw [show ((2 : Int32) - (1 : Int32)) = (1 : Int32) from by decide] at O1
   exact ⟨O1.Lo, (1 : Int32), rfl, (Or.inr (Or.inr (Or.inr (Or.inr (Or.inl ⟨t1, t2, p1, p2, rfl, rfl, _, _, _, _, _, _, _, _, ⟨O1.Ea, O1.Ftimes, O1.Ftotals, O1.Fentries, O1.Ffirst, O1.Fend, O1.Fsize, O1.Fbase, O1.Ee, O1.BwordsInUse, O1.BsizeIsSticky, O1.Bwords, own_Fj.of_arv (es := [t1, t2]) O1.Vt rfl, own_Fj.of_arv (es := [(b + p1), ((b + p1) + p2)]) O1.Vo rfl, O1.Vw, O1.St, (Or.inr (Or.inr (Or.inl ⟨rfl, rfl⟩))), by decide⟩, ⟨O1.ga, O1.grT, O1.grO, O1.grE, O1.grW⟩, rfl, rfl, rfl⟩)))))⟩
 · obtain ⟨rT, rF, rO, rS, rE, rW, kT, kF, kO, kW, tm2, tm3, fr2, fr3, to2, to3, O, SP⟩ := G
   have hn1 : own_near T t1 := hN (t1, p1) (by simp)
   have hn2 : own_near T t2 := hN (t2, p2) (by simp)
   refine own_weakM (rm34_4_3 l Z a0 hw a rT rF rO rS rE rW kT kF kO kW (0 : Int32) (2 : Int32) (2 : Int32) b t1 t2 tm2 tm3 fr2 fr3 (b + p1) ((b + p1) + p2) to2 to3 T hB h0 n0 Z0 O SP hn1 hn2 (by decide)) fun v h L q => ?_
   obtain ⟨q1, q2, q3⟩ := q
   refine ⟨⟨_, q1⟩, q2, ?_⟩
   obtain ⟨hs, O1, S1⟩ := q3
   rw [show ((2 : Int32) - (1 : Int32)) = (1 : Int32) from by decide] at O1
   exact ⟨O1.Lo, (1 : Int32), rfl, (Or.inr (Or.inr (Or.inr (Or.inr (Or.inl ⟨t1, t2, p1, p2, rfl, rfl, _, _, _, _, _, _, _, _, ⟨O1.Ea, O1.Ftimes, O1.Ftotals, O1.Fentries, O1.Ffirst, O1.Fend, O1.Fsize, O1.Fbase, O1.Ee, O1.BwordsInUse, O1.BsizeIsSticky, O1.Bwords, own_Fj.of_arv (es := [t1, t2, tm2, tm3]) O1.Vt rfl, own_Fj.of_arv (es := [(b + p1), ((b + p1) + p2), to2, to3]) O1.Vo rfl, O1.Vw, O1.St, (Or.inr (Or.inr (Or.inl ⟨rfl, rfl⟩))), by decide⟩, ⟨O1.ga, O1.grT, O1.grO, O1.grE, O1.grW⟩, rfl, rfl, rfl⟩)))))⟩
 · obtain ⟨rT, rF, rO, rS, rE, rW, kT, kF, kO, kW, tm3, tm4, tm5, tm6, tm7, fr3, fr4, fr5, fr6, fr7, to3, to4, to5, to6, to7, O, SP⟩ := G
   have hn1 : own_near T t1 := hN (t1, p1) (by simp)
   have hn2 : own_near T t2 := hN (t2, p2) (by simp)
   have hn3 : own_near T t3 := hN (t3, p3) (by simp)
   refine own_weakM (rm34_8_7 l Z a0 hw a rT rF rO rS rE rW kT kF kO kW (0 : Int32) (3 : Int32) (3 : Int32) b t1 t2 t3 tm3 tm4 tm5 tm6 tm7 fr3 fr4 fr5 fr6 fr7 (b + p1) ((b + p1) + p2) (((b + p1) + p2) + p3) to3 to4 to5 to6 to7 T hB h0 n0 Z0 O SP hn1 hn2 hn3 (by decide)) fun v h L q => ?_
   obtain ⟨q1, q2, q3⟩ := q
   refine ⟨⟨_, q1⟩, q2, ?_⟩
   rcases q3 with ⟨hs, O1, S1⟩ | ⟨hs, O1, S1⟩
   · rw [show ((3 : Int32) - (1 : Int32)) = (2 : Int32) from by decide] at O1
     exact ⟨O1.Lo, (1 : Int32), Or.inl ⟨rfl, (own_b8_3 (own_nlt hn2 hn1)).1 hs⟩, (Or.inr (Or.inr (Or.inr (Or.inr (Or.inr (Or.inr (Or.inl ⟨t1, t2, t3, p1, p2, p3, rfl, rfl, _, _, _, _, _, _, _, _, ⟨O1.Ea, O1.Ftimes, O1.Ftotals, O1.Fentries, O1.Ffirst, O1.Fend, O1.Fsize, O1.Fbase, O1.Ee, O1.BwordsInUse, O1.BsizeIsSticky, O1.Bwords, own_Fj.of_arv (es := [t1, t2, t3, tm3, tm4, tm5, tm6, tm7]) O1.Vt rfl, own_Fj.of_arv (es := [(b + p1), ((b + p1) + p2), (((b + p1) + p2) + p3), to3, to4, to5, to6, to7]) O1.Vo rfl, O1.Vw, O1.St, (Or.inr (Or.inr (Or.inr (Or.inl ⟨rfl, rfl⟩)))), by decide⟩, ⟨O1.ga, O1.grT, O1.grO, O1.grE, O1.grW⟩, rfl, rfl, rfl, rfl, rfl⟩)))))))⟩
   · rw [show ((3 : Int32) - (1 : Int32)) = (2 : Int32) from by decide] at O1
     exact ⟨O1.Lo, (2 : Int32), Or.inr ⟨rfl, (own_b8_3 (own_nlt hn2 hn1)).2 hs⟩, (Or.inr (Or.inr (Or.inr (Or.inr (Or.inr (Or.inr (Or.inr (Or.inl ⟨t1, t2, t3, p1, p2, p3, rfl, rfl, _, _, _, _, _, _, _, _, ⟨O1.Ea, O1.Ftimes, O1.Ftotals, O1.Fentries, O1.Ffirst, O1.Fend, O1.Fsize, O1.Fbase, O1.Ee, O1.BwordsInUse, O1.BsizeIsSticky, O1.Bwords, own_Fj.of_arv (es := [t1, t2, t3, tm3, tm4, tm5, tm6, tm7]) O1.Vt rfl, own_Fj.of_arv (es := [(b + p1), ((b + p1) + p2), (((b + p1) + p2) + p3), to3, to4, to5, to6, to7]) O1.Vo rfl, O1.Vw, O1.St, (Or.inr (Or.inr (Or.inr (Or.inl ⟨rfl, rfl⟩)))), by decide⟩, ⟨O1.ga, O1.grT, O1.grO, O1.grE, O1.grW⟩, rfl, rfl, rfl, rfl, rfl⟩))))))))⟩
 · obtain ⟨rT, rF, rO, rS, rE, rW, kT, kF, kO, kW, tm3, fr3, to3, O, SP⟩ := G
   have hn1 : own_near T t1 := hN (t1, p1) (by simp)
   have hn2 : own_near T t2 := hN (t2, p2) (by simp)
   have hn3 : own_near T t3 := hN (t3, p3) (by simp)
   refine own_weakM (rm34_4_7 l Z a0 hw a rT rF rO rS rE rW kT kF kO kW (0 : Int32) (3 : Int32) (3 : Int32) b t1 t2 t3 tm3 fr3 (b + p1) ((b + p1) + p2) (((b + p1) + p2) + p3) to3 T hB h0 n0 Z0 O SP hn1 hn2 hn3 (by decide)) fun v h L q => ?_
   obtain ⟨q1, q2, q3⟩ := q
   refine ⟨⟨_, q1⟩, q2, ?_⟩
   rcases q3 with ⟨hs, O1, S1⟩ | ⟨hs, O1, S1⟩
   · rw [show ((3 : Int32) - (1 : Int32)) = (2 : Int32) from by decide] at O1
     exact ⟨O1.Lo, (1 : Int32), Or.inl ⟨rfl, (own_b4_3 (own_nlt hn2 hn1)).1 hs⟩, (Or.inr (Or.inr (Or.inr (Or.inr (Or.inr (Or.inr (Or.inl ⟨t1, t2, t3, p1, p2, p3, rfl, rfl, _, _, _, _, _, _, _, _, ⟨O1.Ea, O1.Ftimes, O1.Ftotals, O1.Fentries, O1.Ffirst, O1.Fend, O1.Fsize, O1.Fbase, O1.Ee, O1.BwordsInUse, O1.BsizeIsSticky, O1.Bwords, own_Fj.of_arv (es := [t1, t2, t3, tm3]) O1.Vt rfl, own_Fj.of_arv (es := [(b + p1), ((b + p1) + p2), (((b + p1) + p2) + p3), to3]) O1.Vo rfl, O1.Vw, O1.St, (Or.inr (Or.inr (Or.inr (Or.inl ⟨rfl, rfl⟩)))), by decide⟩, ⟨O1.ga, O1.grT, O1.grO, O1.grE, O1.grW⟩, rfl, rfl, rfl, rfl, rfl⟩)))))))⟩
   · rw [show ((3 : Int32) - (1 : Int32)) = (2 : Int32) from by decide] at O1
     exact ⟨O1.Lo, (2 : Int32), Or.inr ⟨rfl, (own_b4_3 (own_nlt hn2 hn1)).2 hs⟩, (Or.inr (Or.inr (Or.inr (Or.inr (Or.inr (Or.inr (Or.inr (Or.inl ⟨t1, t2, t3, p1, p2, p3, rfl, rfl, _, _, _, _, _, _, _, _, ⟨O1.Ea, O1.Ftimes, O1.Ftotals, O1.Fentries, O1.Ffirst, O1.Fend, O1.Fsize, O1.Fbase, O1.Ee, O1.BwordsInUse, O1.BsizeIsSticky, O1.Bwords, own_Fj.of_arv (es := [t1, t2, t3, tm3]) O1.Vt rfl, own_Fj.of_arv (es := [(b + p1), ((b + p1) + p2), (((b + p1) + p2) + p3), to3]) O1.Vo rfl, O1.Vw, O1.St, (Or.inr (Or.inr (Or.inr (Or.inl ⟨rfl, rfl⟩)))), by decide⟩, ⟨O1.ga, O1.grT, O1.grO, O1.grE, O1.grW⟩, rfl, rfl, rfl, rfl, rfl⟩))))))))⟩
 · obtain ⟨rT, rF, rO, rS, rE, rW, kT, kF, kO, kW, tm4, tm5, tm6, tm7, fr4, fr5, fr6, fr7, to4, to5, to6, to7, O, SP⟩ := G
   have hn1 : own_near T t1 := hN (t1, p1) (by simp)
   have hn2 : own_near T t2 := hN (t2, p2) (by simp)
   have hn3 : own_near T t3 := hN (t3, p3) (by simp)
   have hn4 : own_near T t4 := hN (t4, p4) (by simp)
   refine own_weakM (rm34_8_15 l Z a0 hw a rT rF rO rS rE rW kT kF kO kW (0 : Int32) (4 : Int32) (4 : Int32) b t1 t2 t3 t4 tm4 tm5 tm6 tm7 fr4 fr5 fr6 fr7 (b + p1) ((b + p1) + p2) (((b + p1) + p2) + p3) ((((b + p1) + p2) + p3) + p4) to4 to5 to6 to7 T hB h0 n0 Z0 O SP hn1 hn2 hn3 hn4 (by decide)) fun v h L q => ?_
   obtain ⟨q1, q2, q3⟩ := q
   refine ⟨⟨_, q1⟩, q2, ?_⟩
   rcases q3 with ⟨hs, O1, S1⟩ | ⟨hs, O1, S1⟩ | ⟨hs, O1, S1⟩
   · rw [show ((4 : Int32) - (1 : Int32)) = (3 : Int32) from by decide] at O1
     exact ⟨O1.Lo, (1 : Int32), Or.inl ⟨rfl, (own_b8_4 (own_nlt hn2 hn1)).1 hs⟩, (Or.inr (Or.inr (Or.inr (Or.inr (Or.inr (Or.inr (Or.inr (Or.inr (Or.inr (Or.inl ⟨t1, t2, t3, t4, p1, p2, p3, p4, rfl, rfl, _, _, _, _, _, _, _, _, ⟨O1.Ea, O1.Ftimes, O1.Ftotals, O1.Fentries, O1.Ffirst, O1.Fend, O1.Fsize, O1.Fbase, O1.Ee, O1.BwordsInUse, O1.BsizeIsSticky, O1.Bwords, own_Fj.of_arv (es := [t1, t2, t3, t4, tm4, tm5, tm6, tm7]) O1.Vt rfl, own_Fj.of_arv (es := [(b + p1), ((b + p1) + p2), (((b + p1) + p2) + p3), ((((b + p1) + p2) + p3) + p4), to4, to5, to6, to7]) O1.Vo rfl, O1.Vw, O1.St, (Or.inr (Or.inr (Or.inr (Or.inr ⟨rfl, rfl⟩)))), by decide⟩, ⟨O1.ga, O1.grT, O1.grO, O1.grE, O1.grW⟩, rfl, rfl, rfl, rfl, rfl, rfl, rfl⟩))))))))))⟩
   · rw [show ((4 : Int32) - (1 : Int32)) = (3 : Int32) from by decide] at O1
     exact ⟨O1.Lo, (2 : Int32), Or.inr (Or.inl ⟨rfl, (own_b8_4 (own_nlt hn2 hn1)).2.1 hs⟩), (Or.inr (Or.inr (Or.inr (Or.inr (Or.inr (Or.inr (Or.inr (Or.inr (Or.inr (Or.inr (Or.inl ⟨t1, t2, t3, t4, p1, p2, p3, p4, rfl, rfl, _, _, _, _, _, _, _, _, ⟨O1.Ea, O1.Ftimes, O1.Ftotals, O1.Fentries, O1.Ffirst, O1.Fend, O1.Fsize, O1.Fbase, O1.Ee, O1.BwordsInUse, O1.BsizeIsSticky, O1.Bwords, own_Fj.of_arv (es := [t1, t2, t3, t4, tm4, tm5, tm6, tm7]) O1.Vt rfl, own_Fj.of_arv (es := [(b + p1), ((b + p1) + p2), (((b + p1) + p2) + p3), ((((b + p1) + p2) + p3) + p4), to4, to5, to6, to7]) O1.Vo rfl, O1.Vw, O1.St, (Or.inr (Or.inr (Or.inr (Or.inr ⟨rfl, rfl⟩)))), by decide⟩, ⟨O1.ga, O1.grT, O1.grO, O1.grE, O1.grW⟩, rfl, rfl, rfl, rfl, rfl, rfl, rfl⟩)))))))))))⟩
   · rw [show ((4 : Int32) - (1 : Int32)) = (3 : Int32) from by decide] at O1
     exact ⟨O1.Lo, (3 : Int32), Or.inr (Or.inr ⟨rfl, (own_b8_4 (own_nlt hn2 hn1)).2.2 hs⟩), (Or.inr (Or.inr (Or.inr (Or.inr (Or.inr (Or.inr (Or.inr (Or.inr (Or.inr (Or.inr (Or.inr ⟨t1, t2, t3, t4, p1, p2, p3, p4, rfl, rfl, _, _, _, _, _, _, _, _, ⟨O1.Ea, O1.Ftimes, O1.Ftotals, O1.Fentries, O1.Ffirst, O1.Fend, O1.Fsize, O1.Fbase, O1.Ee, O1.BwordsInUse, O1.BsizeIsSticky, O1.Bwords, own_Fj.of_arv (es := [t1, t2, t3, t4, tm4, tm5, tm6, tm7]) O1.Vt rfl, own_Fj.of_arv (es := [(b + p1), ((b + p1) + p2), (((b + p1) + p2) + p3), ((((b + p1) + p2) + p3) + p4), to4, to5, to6, to7]) O1.Vo rfl, O1.Vw, O1.St, (Or.inr (Or.inr (Or.inr (Or.inr ⟨rfl, rfl⟩)))), by decide⟩, ⟨O1.ga, O1.grT, O1.grO, O1.grE, O1.grW⟩, rfl, rfl, rfl, rfl, rfl, rfl, rfl⟩)))))))))))⟩
def own_TL (q b x : Int64) (m : Int32) : List (Int64 × Int64) → Prop
 | [] => x = 0
 | [(t1, p1)] => (m = 0 ∧ own_T_1_0 q b t1 (b + p1) x)
 | [(t1, p1), (t2, p2)] => (m = 0 ∧ own_T_2_0 q b t1 t2 (b + p1) ((b + p1) + p2) x) ∨ (m = 1 ∧ own_T_2_1 q b t1 t2 (b + p1) ((b + p1) + p2) x)
 | [(t1, p1), (t2, p2), (t3, p3)] => (m = 0 ∧ own_T_3_0 q b t1 t2 t3 (b + p1) ((b + p1) + p2) (((b + p1) + p2) + p3) x) ∨ (m = 1 ∧ own_T_3_1 q b t1 t2 t3 (b + p1) ((b + p1) + p2) (((b + p1) + p2) + p3) x) ∨ (m = 2 ∧ own_T_3_2 q b t1 t2 t3 (b + p1) ((b + p1) + p2) (((b + p1) + p2) + p3) x)
 | [(t1, p1), (t2, p2), (t3, p3), (t4, p4)] => (m = 0 ∧ own_T_4_0 q b t1 t2 t3 t4 (b + p1) ((b + p1) + p2) (((b + p1) + p2) + p3) ((((b + p1) + p2) + p3) + p4) x) ∨ (m = 1 ∧ own_T_4_1 q b t1 t2 t3 t4 (b + p1) ((b + p1) + p2) (((b + p1) + p2) + p3) ((((b + p1) + p2) + p3) + p4) x) ∨ (m = 2 ∧ own_T_4_2 q b t1 t2 t3 t4 (b + p1) ((b + p1) + p2) (((b + p1) + p2) + p3) ((((b + p1) + p2) + p3) + p4) x) ∨ (m = 3 ∧ own_T_4_3 q b t1 t2 t3 t4 (b + p1) ((b + p1) + p2) (((b + p1) + p2) + p3) ((((b + p1) + p2) + p3) + p4) x)
 | _ => False
theorem own_okN {i n en : Int32} {w : Int64} (hne : ¬ n < en) (h : own_okI i en w) : own_okI i n w := by
 rcases h with h | ⟨h1, h2, h3, h4⟩
 · exact Or.inl h
 · refine Or.inr ⟨h1, h2, h3, ?_⟩
   rcases h4 with h4 | h4
   · exact Or.inl h4
   · exact Or.inr ⟨h4.1, (own_x2 h4.1 h4.2 hne).2⟩
theorem own_rg0_1 {j : Int32} (h0 : ¬ j < 0) (h1 : ¬ j < (0 : Int32)) (h2 : j < (1 : Int32)) : j = (0 : Int32) := by
 rw [Int32.lt_iff_toInt_lt] at h0 h1 h2
 simp only [show ((0 : Int32)).toInt = 0 from by decide, show ((1 : Int32)).toInt = 1 from by decide] at h0 h1 h2
 exact Int32.toInt_inj.mp (show j.toInt = 0 by omega)
theorem own_rg1_2 {j : Int32} (h0 : ¬ j < 0) (h1 : ¬ j < (1 : Int32)) (h2 : j < (2 : Int32)) : j = (1 : Int32) := by
 rw [Int32.lt_iff_toInt_lt] at h0 h1 h2
 simp only [show ((0 : Int32)).toInt = 0 from by decide, show ((1 : Int32)).toInt = 1 from by decide, show ((2 : Int32)).toInt = 2 from by decide] at h0 h1 h2
 exact Int32.toInt_inj.mp (show j.toInt = 1 by omega)
theorem own_rg0_2 {j : Int32} (h0 : ¬ j < 0) (h1 : ¬ j < (0 : Int32)) (h2 : j < (2 : Int32)) : j = (0 : Int32) ∨ j = (1 : Int32) := by
 rw [Int32.lt_iff_toInt_lt] at h0 h1 h2
 simp only [show ((0 : Int32)).toInt = 0 from by decide, show ((2 : Int32)).toInt = 2 from by decide] at h0 h1 h2
 have h : j.toInt = 0 ∨ j.toInt = 1 := by omega
 rcases h with h | h
 · exact Or.inl (Int32.toInt_inj.mp h)
 · exact Or.inr (Int32.toInt_inj.mp h)
theorem own_rg0_3 {j : Int32} (h0 : ¬ j < 0) (h1 : ¬ j < (0 : Int32)) (h2 : j < (3 : Int32)) : j = (0 : Int32) ∨ j = (1 : Int32) ∨ j = (2 : Int32) := by
 rw [Int32.lt_iff_toInt_lt] at h0 h1 h2
 simp only [show ((0 : Int32)).toInt = 0 from by decide, show ((3 : Int32)).toInt = 3 from by decide] at h0 h1 h2
 have h : j.toInt = 0 ∨ j.toInt = 1 ∨ j.toInt = 2 := by omega
 rcases h with h | h | h
 · exact Or.inl (Int32.toInt_inj.mp h)
 · exact Or.inr (Or.inl (Int32.toInt_inj.mp h))
 · exact Or.inr (Or.inr (Int32.toInt_inj.mp h))
theorem own_rg0_4 {j : Int32} (h0 : ¬ j < 0) (h1 : ¬ j < (0 : Int32)) (h2 : j < (4 : Int32)) : j = (0 : Int32) ∨ j = (1 : Int32) ∨ j = (2 : Int32) ∨ j = (3 : Int32) := by
 rw [Int32.lt_iff_toInt_lt] at h0 h1 h2
 simp only [show ((0 : Int32)).toInt = 0 from by decide, show ((4 : Int32)).toInt = 4 from by decide] at h0 h1 h2
 have h : j.toInt = 0 ∨ j.toInt = 1 ∨ j.toInt = 2 ∨ j.toInt = 3 := by omega
 rcases h with h | h | h | h
 · exact Or.inl (Int32.toInt_inj.mp h)
 · exact Or.inr (Or.inl (Int32.toInt_inj.mp h))
 · exact Or.inr (Or.inr (Or.inl (Int32.toInt_inj.mp h)))
 · exact Or.inr (Or.inr (Or.inr (Int32.toInt_inj.mp h)))
theorem own_J2 {fi en j : Int32} {tf : Int32 → Int64} {q t : Int64} (h : own_J fi en tf q j) (e : tf j = t) : q < t := e ▸ h.2.2.2.2.2
theorem own_J1 {fi en j : Int32} {tf : Int32 → Int64} {q t : Int64} (h : own_J fi en tf q j) (i : Int32) (e : tf i = t) (hn : ¬ j = fi := by decide) (hi : j - 1 = i := by decide) : ¬ q < t := by subst hi; exact e ▸ h.2.2.2.2.1.resolve_left hn
theorem own_tb0 {j : Int32} {w bs : Int64} {of : Int32 → Int64} (h : own_nsb j w = 0 ∨ own_psb (own_nsb j w - 1) w < 0) : own_tb (own_nsb j w) w bs of = bs := by
 unfold own_tb
 rcases h with h | h
 · rw [if_pos h]
 · rw [if_pos h]; split <;> rfl
theorem own_tb1 {j : Int32} {w bs x : Int64} {of : Int32 → Int64} (r : Int32) (h : ¬ own_nsb j w = 0 ∧ own_psb (own_nsb j w - 1) w = r ∧ ¬ r < 0) (e : of r = x) : own_tb (own_nsb j w) w bs of = x := by
 obtain ⟨h1, rfl, h3⟩ := h
 rw [own_tb, if_neg h1, if_neg h3]; exact e
theorem own_tk (hw : own_T Z a0) (a : Addr) (q b : Int64) (PE : List (Int64 × Int64)) (m : Int32) (h0 : Heap) (n0 : Nat) (Z0 : n0 ≤ h0.size) (I : own_LS Z h0 n0 a b PE m) : own_Met l oy26 oc26 5 (some .long) (oRm 4 0 0 62) Z h0 #[(.ref a), (.long q)] (fun v h L => (∃ x, v = some (.long x) ∧ own_TL q b x m PE) ∧ Fr n0 L ∧ h = h0) := by
 rcases I with ⟨rfl, rfl, ga, Ea, Fs⟩ | ⟨t1, p1, rfl, rfl, rT, rO, rE, rW, kW, n, tf, of, TP, gq, et1, eo1⟩ | ⟨t1, p1, rfl, rfl, rT, rO, rE, rW, kW, n, tf, of, TP, gq, et1, eo1⟩ | ⟨t1, t2, p1, p2, rfl, rfl, rT, rO, rE, rW, kW, n, tf, of, TP, gq, et1, et2, eo1, eo2⟩ | ⟨t1, t2, p1, p2, rfl, rfl, rT, rO, rE, rW, kW, n, tf, of, TP, gq, et1, et2, eo2⟩ | ⟨t1, t2, t3, p1, p2, p3, rfl, rfl, rT, rO, rE, rW, kW, n, tf, of, TP, gq, et1, et2, et3, eo1, eo2, eo3⟩ | ⟨t1, t2, t3, p1, p2, p3, rfl, rfl, rT, rO, rE, rW, kW, n, tf, of, TP, gq, et1, et2, et3, eo2, eo3⟩ | ⟨t1, t2, t3, p1, p2, p3, rfl, rfl, rT, rO, rE, rW, kW, n, tf, of, TP, gq, et1, et2, et3, eo1, eo3⟩ | ⟨t1, t2, t3, t4, p1, p2, p3, p4, rfl, rfl, rT, rO, rE, rW, kW, n, tf, of, TP, gq, et1, et2, et3, et4, eo1, eo2, eo3, eo4⟩ | ⟨t1, t2, t3, t4, p1, p2, p3, p4, rfl, rfl, rT, rO, rE, rW, kW, n, tf, of, TP, gq, et1, et2, et3, et4, eo2, eo3, eo4⟩ | ⟨t1, t2, t3, t4, p1, p2, p3, p4, rfl, rfl, rT, rO, rE, rW, kW, n, tf, of, TP, gq, et1, et2, et3, et4, eo1, eo3, eo4⟩ | ⟨t1, t2, t3, t4, p1, p2, p3, p4, rfl, rfl, rT, rO, rE, rW, kW, n, tf, of, TP, gq, et1, et2, et3, et4, eo1, eo2, eo4⟩
 · exact own_weakM (rmT0 l Z a0 hw a q h0 n0 Z0 Ea Fs) fun v h L r => ⟨⟨_, r.1, rfl⟩, r.2.1, r.2.2⟩
 · refine own_weakM (rmT_ l Z a0 hw a rT rO rE rW kW (0 : Int32) (1 : Int32) (1 : Int32) b (1 : Int64) n tf of q h0 n0 Z0 TP (by decide) (fun j h1 h2 h3 => own_okN TP.2.2.2.2.2.2.2.2.2.2.2.2.2.2.2.2.2 (by rcases own_rg0_1 h1 h2 h3 with rfl <;> (unfold own_okI; decide +kernel)))) fun v h L r => ?_
   obtain ⟨⟨x, r1, r2⟩, r3, r4⟩ := r
   refine ⟨⟨x, r1, ?_⟩, r3, r4⟩
   rw [show (1 : Int32) - 1 = (0 : Int32) from by decide, et1, eo1] at r2
   rcases r2 with r2 | ⟨j, hJ, rfl⟩
   · exact ⟨rfl, (Or.inl r2)⟩
   · rcases own_rg0_1 hJ.1 hJ.2.2.1 hJ.2.2.2.1 with rfl
     exact ⟨rfl, (Or.inr ⟨own_J2 hJ et1, by rw [own_tb0 (by decide+kernel)]⟩)⟩
 · refine own_weakM (rmT_ l Z a0 hw a rT rO rE rW kW (1 : Int32) (2 : Int32) (1 : Int32) b (2 : Int64) n tf of q h0 n0 Z0 TP (by decide) (fun j h1 h2 h3 => own_okN TP.2.2.2.2.2.2.2.2.2.2.2.2.2.2.2.2.2 (by rcases own_rg1_2 h1 h2 h3 with rfl <;> (unfold own_okI; decide +kernel)))) fun v h L r => ?_
   obtain ⟨⟨x, r1, r2⟩, r3, r4⟩ := r
   refine ⟨⟨x, r1, ?_⟩, r3, r4⟩
   rw [show (2 : Int32) - 1 = (1 : Int32) from by decide, et1, eo1] at r2
   rcases r2 with r2 | ⟨j, hJ, rfl⟩
   · exact ⟨rfl, (Or.inl r2)⟩
   · rcases own_rg1_2 hJ.1 hJ.2.2.1 hJ.2.2.2.1 with rfl
     exact ⟨rfl, (Or.inr ⟨own_J2 hJ et1, by rw [own_tb0 (by decide+kernel)]⟩)⟩
 · refine own_weakM (rmT_ l Z a0 hw a rT rO rE rW kW (0 : Int32) (2 : Int32) (2 : Int32) b (3 : Int64) n tf of q h0 n0 Z0 TP (by decide) (fun j h1 h2 h3 => own_okN TP.2.2.2.2.2.2.2.2.2.2.2.2.2.2.2.2.2 (by rcases own_rg0_2 h1 h2 h3 with rfl | rfl <;> (unfold own_okI; decide +kernel)))) fun v h L r => ?_
   obtain ⟨⟨x, r1, r2⟩, r3, r4⟩ := r
   refine ⟨⟨x, r1, ?_⟩, r3, r4⟩
   rw [show (2 : Int32) - 1 = (1 : Int32) from by decide, et2, eo2] at r2
   rcases r2 with r2 | ⟨j, hJ, rfl⟩
   · exact Or.inl ⟨rfl, (Or.inl r2)⟩
   · rcases own_rg0_2 hJ.1 hJ.2.2.1 hJ.2.2.2.1 with rfl | rfl
     · exact Or.inl ⟨rfl, (Or.inr (Or.inl ⟨own_J2 hJ et1, by rw [own_tb0 (by decide+kernel)]⟩))⟩
     · exact Or.inl ⟨rfl, (Or.inr (Or.inr ⟨own_J1 hJ (0 : Int32) et1, own_J2 hJ et2, by rw [own_tb1 (0 : Int32) (by decide+kernel) eo1]⟩))⟩
 · refine own_weakM (rmT_ l Z a0 hw a rT rO rE rW kW (0 : Int32) (2 : Int32) (1 : Int32) b (2 : Int64) n tf of q h0 n0 Z0 TP (by decide) (fun j h1 h2 h3 => own_okN TP.2.2.2.2.2.2.2.2.2.2.2.2.2.2.2.2.2 (by rcases own_rg0_2 h1 h2 h3 with rfl | rfl <;> (unfold own_okI; decide +kernel)))) fun v h L r => ?_
   obtain ⟨⟨x, r1, r2⟩, r3, r4⟩ := r
   refine ⟨⟨x, r1, ?_⟩, r3, r4⟩
   rw [show (2 : Int32) - 1 = (1 : Int32) from by decide, et2, eo2] at r2
   rcases r2 with r2 | ⟨j, hJ, rfl⟩
   · exact Or.inr (⟨rfl, (Or.inl r2)⟩)
   · rcases own_rg0_2 hJ.1 hJ.2.2.1 hJ.2.2.2.1 with rfl | rfl
     · exact Or.inr (⟨rfl, (Or.inr (Or.inl ⟨own_J2 hJ et1, by rw [own_tb0 (by decide+kernel)]⟩))⟩)
     · exact Or.inr (⟨rfl, (Or.inr (Or.inr ⟨own_J1 hJ (0 : Int32) et1, own_J2 hJ et2, by rw [own_tb0 (by decide+kernel)]⟩))⟩)
 · refine own_weakM (rmT_ l Z a0 hw a rT rO rE rW kW (0 : Int32) (3 : Int32) (3 : Int32) b (7 : Int64) n tf of q h0 n0 Z0 TP (by decide) (fun j h1 h2 h3 => own_okN TP.2.2.2.2.2.2.2.2.2.2.2.2.2.2.2.2.2 (by rcases own_rg0_3 h1 h2 h3 with rfl | rfl | rfl <;> (unfold own_okI; decide +kernel)))) fun v h L r => ?_
   obtain ⟨⟨x, r1, r2⟩, r3, r4⟩ := r
   refine ⟨⟨x, r1, ?_⟩, r3, r4⟩
   rw [show (3 : Int32) - 1 = (2 : Int32) from by decide, et3, eo3] at r2
   rcases r2 with r2 | ⟨j, hJ, rfl⟩
   · exact Or.inl ⟨rfl, (Or.inl r2)⟩
   · rcases own_rg0_3 hJ.1 hJ.2.2.1 hJ.2.2.2.1 with rfl | rfl | rfl
     · exact Or.inl ⟨rfl, (Or.inr (Or.inl ⟨own_J2 hJ et1, by rw [own_tb0 (by decide+kernel)]⟩))⟩
     · exact Or.inl ⟨rfl, (Or.inr (Or.inr (Or.inl ⟨own_J1 hJ (0 : Int32) et1, own_J2 hJ et2, by rw [own_tb1 (0 : Int32) (by decide+kernel) eo1]⟩)))⟩
     · exact Or.inl ⟨rfl, (Or.inr (Or.inr (Or.inr ⟨own_J1 hJ (1 : Int32) et2, own_J2 hJ et3, by rw [own_tb1 (1 : Int32) (by decide+kernel) eo2]⟩)))⟩
 · refine own_weakM (rmT_ l Z a0 hw a rT rO rE rW kW (0 : Int32) (3 : Int32) (2 : Int32) b (6 : Int64) n tf of q h0 n0 Z0 TP (by decide) (fun j h1 h2 h3 => own_okN TP.2.2.2.2.2.2.2.2.2.2.2.2.2.2.2.2.2 (by rcases own_rg0_3 h1 h2 h3 with rfl | rfl | rfl <;> (unfold own_okI; decide +kernel)))) fun v h L r => ?_
   obtain ⟨⟨x, r1, r2⟩, r3, r4⟩ := r
   refine ⟨⟨x, r1, ?_⟩, r3, r4⟩
   rw [show (3 : Int32) - 1 = (2 : Int32) from by decide, et3, eo3] at r2
   rcases r2 with r2 | ⟨j, hJ, rfl⟩
   · exact Or.inr (Or.inl ⟨rfl, (Or.inl r2)⟩)
   · rcases own_rg0_3 hJ.1 hJ.2.2.1 hJ.2.2.2.1 with rfl | rfl | rfl
     · exact Or.inr (Or.inl ⟨rfl, (Or.inr (Or.inl ⟨own_J2 hJ et1, by rw [own_tb0 (by decide+kernel)]⟩))⟩)
     · exact Or.inr (Or.inl ⟨rfl, (Or.inr (Or.inr (Or.inl ⟨own_J1 hJ (0 : Int32) et1, own_J2 hJ et2, by rw [own_tb0 (by decide+kernel)]⟩)))⟩)
     · exact Or.inr (Or.inl ⟨rfl, (Or.inr (Or.inr (Or.inr ⟨own_J1 hJ (1 : Int32) et2, own_J2 hJ et3, by rw [own_tb1 (1 : Int32) (by decide+kernel) eo2]⟩)))⟩)
 · refine own_weakM (rmT_ l Z a0 hw a rT rO rE rW kW (0 : Int32) (3 : Int32) (2 : Int32) b (5 : Int64) n tf of q h0 n0 Z0 TP (by decide) (fun j h1 h2 h3 => own_okN TP.2.2.2.2.2.2.2.2.2.2.2.2.2.2.2.2.2 (by rcases own_rg0_3 h1 h2 h3 with rfl | rfl | rfl <;> (unfold own_okI; decide +kernel)))) fun v h L r => ?_
   obtain ⟨⟨x, r1, r2⟩, r3, r4⟩ := r
   refine ⟨⟨x, r1, ?_⟩, r3, r4⟩
   rw [show (3 : Int32) - 1 = (2 : Int32) from by decide, et3, eo3] at r2
   rcases r2 with r2 | ⟨j, hJ, rfl⟩
   · exact Or.inr (Or.inr (⟨rfl, (Or.inl r2)⟩))
   · rcases own_rg0_3 hJ.1 hJ.2.2.1 hJ.2.2.2.1 with rfl | rfl | rfl
     · exact Or.inr (Or.inr (⟨rfl, (Or.inr (Or.inl ⟨own_J2 hJ et1, by rw [own_tb0 (by decide+kernel)]⟩))⟩))
     · exact Or.inr (Or.inr (⟨rfl, (Or.inr (Or.inr (Or.inl ⟨own_J1 hJ (0 : Int32) et1, own_J2 hJ et2, by rw [own_tb1 (0 : Int32) (by decide+kernel) eo1]⟩)))⟩))
     · exact Or.inr (Or.inr (⟨rfl, (Or.inr (Or.inr (Or.inr ⟨own_J1 hJ (1 : Int32) et2, own_J2 hJ et3, by rw [own_tb1 (0 : Int32) (by decide+kernel) eo1]⟩)))⟩))
 · refine own_weakM (rmT_ l Z a0 hw a rT rO rE rW kW (0 : Int32) (4 : Int32) (4 : Int32) b (15 : Int64) n tf of q h0 n0 Z0 TP (by decide) (fun j h1 h2 h3 => own_okN TP.2.2.2.2.2.2.2.2.2.2.2.2.2.2.2.2.2 (by rcases own_rg0_4 h1 h2 h3 with rfl | rfl | rfl | rfl <;> (unfold own_okI; decide +kernel)))) fun v h L r => ?_
   obtain ⟨⟨x, r1, r2⟩, r3, r4⟩ := r
   refine ⟨⟨x, r1, ?_⟩, r3, r4⟩
   rw [show (4 : Int32) - 1 = (3 : Int32) from by decide, et4, eo4] at r2
   rcases r2 with r2 | ⟨j, hJ, rfl⟩
   · exact Or.inl ⟨rfl, (Or.inl r2)⟩
   · rcases own_rg0_4 hJ.1 hJ.2.2.1 hJ.2.2.2.1 with rfl | rfl | rfl | rfl
     · exact Or.inl ⟨rfl, (Or.inr (Or.inl ⟨own_J2 hJ et1, by rw [own_tb0 (by decide+kernel)]⟩))⟩
     · exact Or.inl ⟨rfl, (Or.inr (Or.inr (Or.inl ⟨own_J1 hJ (0 : Int32) et1, own_J2 hJ et2, by rw [own_tb1 (0 : Int32) (by decide+kernel) eo1]⟩)))⟩
     · exact Or.inl ⟨rfl, (Or.inr (Or.inr (Or.inr (Or.inl ⟨own_J1 hJ (1 : Int32) et2, own_J2 hJ et3, by rw [own_tb1 (1 : Int32) (by decide+kernel) eo2]⟩))))⟩
     · exact Or.inl ⟨rfl, (Or.inr (Or.inr (Or.inr (Or.inr ⟨own_J1 hJ (2 : Int32) et3, own_J2 hJ et4, by rw [own_tb1 (2 : Int32) (by decide+kernel) eo3]⟩))))⟩
 · refine own_weakM (rmT_ l Z a0 hw a rT rO rE rW kW (0 : Int32) (4 : Int32) (3 : Int32) b (14 : Int64) n tf of q h0 n0 Z0 TP (by decide) (fun j h1 h2 h3 => own_okN TP.2.2.2.2.2.2.2.2.2.2.2.2.2.2.2.2.2 (by rcases own_rg0_4 h1 h2 h3 with rfl | rfl | rfl | rfl <;> (unfold own_okI; decide +kernel)))) fun v h L r => ?_
   obtain ⟨⟨x, r1, r2⟩, r3, r4⟩ := r
   refine ⟨⟨x, r1, ?_⟩, r3, r4⟩
   rw [show (4 : Int32) - 1 = (3 : Int32) from by decide, et4, eo4] at r2
   rcases r2 with r2 | ⟨j, hJ, rfl⟩
   · exact Or.inr (Or.inl ⟨rfl, (Or.inl r2)⟩)
   · rcases own_rg0_4 hJ.1 hJ.2.2.1 hJ.2.2.2.1 with rfl | rfl | rfl | rfl
     · exact Or.inr (Or.inl ⟨rfl, (Or.inr (Or.inl ⟨own_J2 hJ et1, by rw [own_tb0 (by decide+kernel)]⟩))⟩)
     · exact Or.inr (Or.inl ⟨rfl, (Or.inr (Or.inr (Or.inl ⟨own_J1 hJ (0 : Int32) et1, own_J2 hJ et2, by rw [own_tb0 (by decide+kernel)]⟩)))⟩)
     · exact Or.inr (Or.inl ⟨rfl, (Or.inr (Or.inr (Or.inr (Or.inl ⟨own_J1 hJ (1 : Int32) et2, own_J2 hJ et3, by rw [own_tb1 (1 : Int32) (by decide+kernel) eo2]⟩))))⟩)
     · exact Or.inr (Or.inl ⟨rfl, (Or.inr (Or.inr (Or.inr (Or.inr ⟨own_J1 hJ (2 : Int32) et3, own_J2 hJ et4, by rw [own_tb1 (2 : Int32) (by decide+kernel) eo3]⟩))))⟩)
 · refine own_weakM (rmT_ l Z a0 hw a rT rO rE rW kW (0 : Int32) (4 : Int32) (3 : Int32) b (13 : Int64) n tf of q h0 n0 Z0 TP (by decide) (fun j h1 h2 h3 => own_okN TP.2.2.2.2.2.2.2.2.2.2.2.2.2.2.2.2.2 (by rcases own_rg0_4 h1 h2 h3 with rfl | rfl | rfl | rfl <;> (unfold own_okI; decide +kernel)))) fun v h L r => ?_
   obtain ⟨⟨x, r1, r2⟩, r3, r4⟩ := r
   refine ⟨⟨x, r1, ?_⟩, r3, r4⟩
   rw [show (4 : Int32) - 1 = (3 : Int32) from by decide, et4, eo4] at r2
   rcases r2 with r2 | ⟨j, hJ, rfl⟩
   · exact Or.inr (Or.inr (Or.inl ⟨rfl, (Or.inl r2)⟩))
   · rcases own_rg0_4 hJ.1 hJ.2.2.1 hJ.2.2.2.1 with rfl | rfl | rfl | rfl
     · exact Or.inr (Or.inr (Or.inl ⟨rfl, (Or.inr (Or.inl ⟨own_J2 hJ et1, by rw [own_tb0 (by decide+kernel)]⟩))⟩))
     · exact Or.inr (Or.inr (Or.inl ⟨rfl, (Or.inr (Or.inr (Or.inl ⟨own_J1 hJ (0 : Int32) et1, own_J2 hJ et2, by rw [own_tb1 (0 : Int32) (by decide+kernel) eo1]⟩)))⟩))
     · exact Or.inr (Or.inr (Or.inl ⟨rfl, (Or.inr (Or.inr (Or.inr (Or.inl ⟨own_J1 hJ (1 : Int32) et2, own_J2 hJ et3, by rw [own_tb1 (0 : Int32) (by decide+kernel) eo1]⟩))))⟩))
     · exact Or.inr (Or.inr (Or.inl ⟨rfl, (Or.inr (Or.inr (Or.inr (Or.inr ⟨own_J1 hJ (2 : Int32) et3, own_J2 hJ et4, by rw [own_tb1 (2 : Int32) (by decide+kernel) eo3]⟩))))⟩))
 · refine own_weakM (rmT_ l Z a0 hw a rT rO rE rW kW (0 : Int32) (4 : Int32) (3 : Int32) b (11 : Int64) n tf of q h0 n0 Z0 TP (by decide) (fun j h1 h2 h3 => own_okN TP.2.2.2.2.2.2.2.2.2.2.2.2.2.2.2.2.2 (by rcases own_rg0_4 h1 h2 h3 with rfl | rfl | rfl | rfl <;> (unfold own_okI; decide +kernel)))) fun v h L r => ?_
   obtain ⟨⟨x, r1, r2⟩, r3, r4⟩ := r
   refine ⟨⟨x, r1, ?_⟩, r3, r4⟩
   rw [show (4 : Int32) - 1 = (3 : Int32) from by decide, et4, eo4] at r2
   rcases r2 with r2 | ⟨j, hJ, rfl⟩
   · exact Or.inr (Or.inr (Or.inr (⟨rfl, (Or.inl r2)⟩)))
   · rcases own_rg0_4 hJ.1 hJ.2.2.1 hJ.2.2.2.1 with rfl | rfl | rfl | rfl
     · exact Or.inr (Or.inr (Or.inr (⟨rfl, (Or.inr (Or.inl ⟨own_J2 hJ et1, by rw [own_tb0 (by decide+kernel)]⟩))⟩)))
     · exact Or.inr (Or.inr (Or.inr (⟨rfl, (Or.inr (Or.inr (Or.inl ⟨own_J1 hJ (0 : Int32) et1, own_J2 hJ et2, by rw [own_tb1 (0 : Int32) (by decide+kernel) eo1]⟩)))⟩)))
     · exact Or.inr (Or.inr (Or.inr (⟨rfl, (Or.inr (Or.inr (Or.inr (Or.inl ⟨own_J1 hJ (1 : Int32) et2, own_J2 hJ et3, by rw [own_tb1 (1 : Int32) (by decide+kernel) eo2]⟩))))⟩)))
     · exact Or.inr (Or.inr (Or.inr (⟨rfl, (Or.inr (Or.inr (Or.inr (Or.inr ⟨own_J1 hJ (2 : Int32) et3, own_J2 hJ et4, by rw [own_tb1 (1 : Int32) (by decide+kernel) eo2]⟩))))⟩)))
theorem own_LS.ex {Z : State} {h : Heap} {n0 : Nat} {a : Addr} {b : Int64} {PE : List (Int64 × Int64)} {m : Int32} (I : own_LS Z h n0 a b PE m) : Exa Z h a oL := by
 rcases I with ⟨rfl, rfl, ga, Ea, Fs⟩ | ⟨t1, p1, rfl, rfl, rT, rO, rE, rW, kW, n, tf, of, TP, gq, et1, eo1⟩ | ⟨t1, p1, rfl, rfl, rT, rO, rE, rW, kW, n, tf, of, TP, gq, et1, eo1⟩ | ⟨t1, t2, p1, p2, rfl, rfl, rT, rO, rE, rW, kW, n, tf, of, TP, gq, et1, et2, eo1, eo2⟩ | ⟨t1, t2, p1, p2, rfl, rfl, rT, rO, rE, rW, kW, n, tf, of, TP, gq, et1, et2, eo2⟩ | ⟨t1, t2, t3, p1, p2, p3, rfl, rfl, rT, rO, rE, rW, kW, n, tf, of, TP, gq, et1, et2, et3, eo1, eo2, eo3⟩ | ⟨t1, t2, t3, p1, p2, p3, rfl, rfl, rT, rO, rE, rW, kW, n, tf, of, TP, gq, et1, et2, et3, eo2, eo3⟩ | ⟨t1, t2, t3, p1, p2, p3, rfl, rfl, rT, rO, rE, rW, kW, n, tf, of, TP, gq, et1, et2, et3, eo1, eo3⟩ | ⟨t1, t2, t3, t4, p1, p2, p3, p4, rfl, rfl, rT, rO, rE, rW, kW, n, tf, of, TP, gq, et1, et2, et3, et4, eo1, eo2, eo3, eo4⟩ | ⟨t1, t2, t3, t4, p1, p2, p3, p4, rfl, rfl, rT, rO, rE, rW, kW, n, tf, of, TP, gq, et1, et2, et3, et4, eo2, eo3, eo4⟩ | ⟨t1, t2, t3, t4, p1, p2, p3, p4, rfl, rfl, rT, rO, rE, rW, kW, n, tf, of, TP, gq, et1, et2, et3, et4, eo1, eo3, eo4⟩ | ⟨t1, t2, t3, t4, p1, p2, p3, p4, rfl, rfl, rT, rO, rE, rW, kW, n, tf, of, TP, gq, et1, et2, et3, et4, eo1, eo2, eo4⟩
 · exact Ea
 · exact TP.1
 · exact TP.1
 · exact TP.1
 · exact TP.1
 · exact TP.1
 · exact TP.1
 · exact TP.1
 · exact TP.1
 · exact TP.1
 · exact TP.1
 · exact TP.1
theorem own_TP.hi {Z : State} {h h' : Heap} {n0 : Nat} {a rT rO rE rW : Addr} {kW : ClassId} {fi en sz : Int32} {bs w : Int64} {n : Int32} {tf of : Int32 → Int64} (P : own_TP Z h a rT rO rE rW kW fi en sz bs w n tf of) (g : own_Gq n0 a rT rO rE rW) (H : own_Hi Z n0 h h') : own_TP Z h' a rT rO rE rW kW fi en sz bs w n tf of := by
 obtain ⟨Ea, Ft, Fo, Fe, Ff, Fn, Fs, Fb, Ee, Fu, Fk, Fw, Bt, Bo, Vw, Sd, hp, hne⟩ := P
 obtain ⟨g1, g2, g3, g4, g5⟩ := g
 exact ⟨H.exa Ea g1, H.fld Ft g1, H.fld Fo g1, H.fld Fe g1, H.fld Ff g1, H.fld Fn g1, H.fld Fs g1, H.fld Fb g1, H.exa Ee g4, H.fld Fu g4, H.fld Fk g4, H.fld Fw g4, H.fj Bt g2, H.fj Bo g3, H.arv Vw g5, H.2 _ _ _ _ Sd, hp, hne⟩
theorem own_LS.hi {Z : State} {h h' : Heap} {n0 : Nat} {a : Addr} {b : Int64} {PE : List (Int64 × Int64)} {m : Int32} (I : own_LS Z h n0 a b PE m) (H : own_Hi Z n0 h h') : own_LS Z h' n0 a b PE m := by
 rcases I with ⟨rfl, rfl, ga, Ea, Fs⟩ | ⟨t1, p1, rfl, rfl, rT, rO, rE, rW, kW, n, tf, of, TP, gq, et1, eo1⟩ | ⟨t1, p1, rfl, rfl, rT, rO, rE, rW, kW, n, tf, of, TP, gq, et1, eo1⟩ | ⟨t1, t2, p1, p2, rfl, rfl, rT, rO, rE, rW, kW, n, tf, of, TP, gq, et1, et2, eo1, eo2⟩ | ⟨t1, t2, p1, p2, rfl, rfl, rT, rO, rE, rW, kW, n, tf, of, TP, gq, et1, et2, eo2⟩ | ⟨t1, t2, t3, p1, p2, p3, rfl, rfl, rT, rO, rE, rW, kW, n, tf, of, TP, gq, et1, et2, et3, eo1, eo2, eo3⟩ | ⟨t1, t2, t3, p1, p2, p3, rfl, rfl, rT, rO, rE, rW, kW, n, tf, of, TP, gq, et1, et2, et3, eo2, eo3⟩ | ⟨t1, t2, t3, p1, p2, p3, rfl, rfl, rT, rO, rE, rW, kW, n, tf, of, TP, gq, et1, et2, et3, eo1, eo3⟩ | ⟨t1, t2, t3, t4, p1, p2, p3, p4, rfl, rfl, rT, rO, rE, rW, kW, n, tf, of, TP, gq, et1, et2, et3, et4, eo1, eo2, eo3, eo4⟩ | ⟨t1, t2, t3, t4, p1, p2, p3, p4, rfl, rfl, rT, rO, rE, rW, kW, n, tf, of, TP, gq, et1, et2, et3, et4, eo2, eo3, eo4⟩ | ⟨t1, t2, t3, t4, p1, p2, p3, p4, rfl, rfl, rT, rO, rE, rW, kW, n, tf, of, TP, gq, et1, et2, et3, et4, eo1, eo3, eo4⟩ | ⟨t1, t2, t3, t4, p1, p2, p3, p4, rfl, rfl, rT, rO, rE, rW, kW, n, tf, of, TP, gq, et1, et2, et3, et4, eo1, eo2, eo4⟩
 · exact Or.inl ⟨rfl, rfl, ga, H.exa Ea ga, H.fld Fs ga⟩
 · exact (Or.inr (Or.inl ⟨t1, p1, rfl, rfl, rT, rO, rE, rW, kW, n, tf, of, TP.hi gq H, gq, et1, eo1⟩))
 · exact (Or.inr (Or.inr (Or.inl ⟨t1, p1, rfl, rfl, rT, rO, rE, rW, kW, n, tf, of, TP.hi gq H, gq, et1, eo1⟩)))
 · exact (Or.inr (Or.inr (Or.inr (Or.inl ⟨t1, t2, p1, p2, rfl, rfl, rT, rO, rE, rW, kW, n, tf, of, TP.hi gq H, gq, et1, et2, eo1, eo2⟩))))
 · exact (Or.inr (Or.inr (Or.inr (Or.inr (Or.inl ⟨t1, t2, p1, p2, rfl, rfl, rT, rO, rE, rW, kW, n, tf, of, TP.hi gq H, gq, et1, et2, eo2⟩)))))
 · exact (Or.inr (Or.inr (Or.inr (Or.inr (Or.inr (Or.inl ⟨t1, t2, t3, p1, p2, p3, rfl, rfl, rT, rO, rE, rW, kW, n, tf, of, TP.hi gq H, gq, et1, et2, et3, eo1, eo2, eo3⟩))))))
 · exact (Or.inr (Or.inr (Or.inr (Or.inr (Or.inr (Or.inr (Or.inl ⟨t1, t2, t3, p1, p2, p3, rfl, rfl, rT, rO, rE, rW, kW, n, tf, of, TP.hi gq H, gq, et1, et2, et3, eo2, eo3⟩)))))))
 · exact (Or.inr (Or.inr (Or.inr (Or.inr (Or.inr (Or.inr (Or.inr (Or.inl ⟨t1, t2, t3, p1, p2, p3, rfl, rfl, rT, rO, rE, rW, kW, n, tf, of, TP.hi gq H, gq, et1, et2, et3, eo1, eo3⟩))))))))
 · exact (Or.inr (Or.inr (Or.inr (Or.inr (Or.inr (Or.inr (Or.inr (Or.inr (Or.inl ⟨t1, t2, t3, t4, p1, p2, p3, p4, rfl, rfl, rT, rO, rE, rW, kW, n, tf, of, TP.hi gq H, gq, et1, et2, et3, et4, eo1, eo2, eo3, eo4⟩)))))))))
 · exact (Or.inr (Or.inr (Or.inr (Or.inr (Or.inr (Or.inr (Or.inr (Or.inr (Or.inr (Or.inl ⟨t1, t2, t3, t4, p1, p2, p3, p4, rfl, rfl, rT, rO, rE, rW, kW, n, tf, of, TP.hi gq H, gq, et1, et2, et3, et4, eo2, eo3, eo4⟩))))))))))
 · exact (Or.inr (Or.inr (Or.inr (Or.inr (Or.inr (Or.inr (Or.inr (Or.inr (Or.inr (Or.inr (Or.inl ⟨t1, t2, t3, t4, p1, p2, p3, p4, rfl, rfl, rT, rO, rE, rW, kW, n, tf, of, TP.hi gq H, gq, et1, et2, et3, et4, eo1, eo3, eo4⟩)))))))))))
 · exact (Or.inr (Or.inr (Or.inr (Or.inr (Or.inr (Or.inr (Or.inr (Or.inr (Or.inr (Or.inr (Or.inr ⟨t1, t2, t3, t4, p1, p2, p3, p4, rfl, rfl, rT, rO, rE, rW, kW, n, tf, of, TP.hi gq H, gq, et1, et2, et3, et4, eo1, eo2, eo4⟩)))))))))))
def own_ag (k j : Int32) (q t p : Int64) : Int64 := if j < k then own_af q t p else 0
theorem dg2 : oDe oc24 0 (.iload_n 3) 1:=by decide+kernel
theorem dg3 : oDe oc24 1 (.ifCond .lt 26) 3:=by decide+kernel
theorem dhi : oDe oc24 27 (.aload_n 2) 1:=by decide+kernel
theorem dhj : oDe oc24 28 (.iload 4) 2:=by decide+kernel
theorem dhk : oDe oc24 30 (.iconst 1) 1:=by decide+kernel
theorem dhl : oDe oc24 31 (.bastore) 1:=by decide+kernel
theorem dhm : oDe oc24 32 (.iload 4) 2:=by decide+kernel
theorem dhn : oDe oc24 34 (.ireturn) 1:=by decide+kernel
theorem dho : oDe oc24 4 (.aload_n 0) 1:=by decide+kernel
theorem dhp : oDe oc24 5 (.iload_n 3) 1:=by decide+kernel
theorem dhq : oDe oc24 6 (.laload) 1:=by decide+kernel
theorem dhr : oDe oc24 7 (.aload_n 0) 1:=by decide+kernel
theorem dhs : oDe oc24 8 (.iload 4) 2:=by decide+kernel
theorem dg4 : oDe oc24 10 (.laload) 1:=by decide+kernel
theorem dg5 : oDe oc24 11 (.lcmp) 1:=by decide+kernel
theorem dg6 : oDe oc24 12 (.ifCond .ne 15) 3:=by decide+kernel
theorem dg7 : oDe oc24 15 (.aload_n 1) 1:=by decide+kernel
theorem dg8 : oDe oc24 16 (.iload_n 3) 1:=by decide+kernel
theorem dg9 : oDe oc24 17 (.dup2) 1:=by decide+kernel
theorem dha : oDe oc24 18 (.laload) 1:=by decide+kernel
theorem dhb : oDe oc24 19 (.aload_n 1) 1:=by decide+kernel
theorem dhc : oDe oc24 20 (.iload 4) 2:=by decide+kernel
theorem dhd : oDe oc24 22 (.laload) 1:=by decide+kernel
theorem dhe : oDe oc24 23 (.ladd) 1:=by decide+kernel
theorem dhf : oDe oc24 24 (.lastore) 1:=by decide+kernel
theorem dhg : oDe oc24 25 (.iload_n 3) 1:=by decide+kernel
theorem dhh : oDe oc24 26 (.ireturn) 1:=by decide+kernel
theorem pn_24 : plainName "com/example/throttlua/throttlua/slidinglog/SubjectLogTakenAfterPinLaw" = true := by first | (simp [plainName, overriddenIn]; done) | decide +kernel
theorem fac (m : MethodId) (y0 : Addr) (y1 : Addr) (y2 : Addr) (y3 : Int32) (y4 : Int32) : entryFrame m #[(.ref y0), (.ref y1), (.ref y2), (.int y3), (.int y4)] 5 = mkF m 0 #[oR y0, oR y1, oR y2, oI y3, oI y4] [] := by first | (simp [entryFrame, mkF, argsToLocals, Value.category]; done) | rfl
theorem rm_ar (hw : own_T Z a0) (ta : Addr) (pa : Addr) (va : Addr) (nw : Int32) (i : Int32) (lt : Int32 → Int64) (lp : Int32 → Int64) (lv : Int32 → Int32) (h0 : Heap) (n0 : Nat) (Z0 : n0 ≤ h0.size) (BT : own_Fj Z h0 ta (4 : Int32) lt) (BP : own_Fj Z h0 pa (4 : Int32) lp) (BV : own_Fa Z h0 va .boolean (4 : Int32) lv) (gp : n0 ≤ pa) (gv : n0 ≤ va) (n_ta_pa : ta ≠ pa) (n_ta_va : ta ≠ va) (n_pa_va : pa ≠ va) (hnw : nw < (4 : Int32)) (hi : ¬ i < 0 ∧ i < (4 : Int32)) :
   own_Met l (⟨"com/example/throttlua/throttlua/slidinglog/SubjectLogTakenAfterPinLaw", "addRef", "([J[J[ZII)I"⟩ : MethodName) oc24 5 (some .int) (oRm 0 0 0 0) Z h0 #[(.ref ta), (.ref pa), (.ref va), (.int nw), (.int i)] (fun v h L => (∃ r lp' lv', v = some (.int r) ∧ own_Fj Z h pa (4 : Int32) lp' ∧ own_Fa Z h va .boolean (4 : Int32) lv' ∧ own_AR lt lp lv nw i lp' lv' r) ∧ Fr n0 L ∧ Keep h0 h [pa, va] ∧ own_StK Z h0 h) := by
 refine own_go hw (plainFor_of_name pn_24) (fun m => fac m ta pa va nw i) fun p e s m below meth c T0 C hret X u => ?_
 have N := Fr.nil n0
 refine sI C X dg2 ?_
 by_cases hb1_1 : nw < (0 : Int32)
 · refine bY C X dg3 27 ((if0 _ _).trans (tlt hb1_1).1) ?_
   refine sA C X dhi ?_
   refine si C X dhj ?_
   refine sC C X dhk ?_
   refine xZ C X u N gv BV hi dhl fun _ h2 _ X u N W2 V2 => ?_
   have KC2 : Keep h0 h2 [pa, va] := (Keep.refl h0 [pa, va]).wr W2 (Or.inl (List.mem_of_getElem? (i := 1) rfl))
   have SK2 := (own_StK.refl Z h0).wr W2
   refine si C X dhm ?_
   have f3 := (BP.other W2 n_pa_va)
   exact rI C X u hret dhn ⟨⟨_, lp, (fun y_ => if y_ = i then (1 : Int32) else lv y_), rfl, f3, V2, Or.inr ⟨Or.inl hb1_1, rfl, rfl, rfl⟩⟩, N, KC2, SK2⟩
 · refine bN C X dg3 ((if0 _ _).trans (flt hb1_1).1) ?_
   refine sA C X dho ?_
   refine sI C X dhp ?_
   refine fJ C X u BT ⟨hb1_1, hnw⟩ dhq ?_
   refine sA C X dhr ?_
   refine si C X dhs ?_
   refine fJ C X u BT hi dg4 ?_
   refine tC C X dg5 ?_
   by_cases hb12_4 : (lt nw) = (lt i)
   · refine bN C X dg6 ((if0 _ _).trans (teq ((lw_eq _ _).mpr hb12_4)).2) ?_
     refine sA C X dg7 ?_
     refine sI C X dg8 ?_
     refine sW C X dg9 ?_
     refine fJ C X u BP ⟨hb1_1, hnw⟩ dha ?_
     refine sA C X dhb ?_
     refine si C X dhc ?_
     refine fJ C X u BP hi dhd ?_
     refine tP C X dhe ?_
     refine xJ C X u N gp BP ⟨hb1_1, hnw⟩ dhf fun _ h5 _ X u N W5 V5 => ?_
     have KC5 : Keep h0 h5 [pa, va] := (Keep.refl h0 [pa, va]).wr W5 (Or.inl (List.mem_of_getElem? (i := 0) rfl))
     have SK5 := (own_StK.refl Z h0).wr W5
     refine sI C X dhg ?_
     have f6 := (BV.other W5 n_pa_va.symm)
     exact rI C X u hret dhh ⟨⟨_, (fun y_ => if y_ = nw then ((lp nw) + (lp i)) else lp y_), lv, rfl, V5, f6, Or.inl ⟨hb1_1, hb12_4, rfl, rfl, rfl⟩⟩, N, KC5, SK5⟩
   · refine bY C X dg6 27 ((if0 _ _).trans (feq (fun q => hb12_4 ((lw_eq _ _).mp q))).2) ?_
     refine sA C X dhi ?_
     refine si C X dhj ?_
     refine sC C X dhk ?_
     refine xZ C X u N gv BV hi dhl fun _ h7 _ X u N W7 V7 => ?_
     have KC7 : Keep h0 h7 [pa, va] := (Keep.refl h0 [pa, va]).wr W7 (Or.inl (List.mem_of_getElem? (i := 1) rfl))
     have SK7 := (own_StK.refl Z h0).wr W7
     refine si C X dhm ?_
     have f8 := (BP.other W7 n_pa_va)
     exact rI C X u hret dhn ⟨⟨_, lp, (fun y_ => if y_ = i then (1 : Int32) else lv y_), rfl, f8, V7, Or.inr ⟨Or.inr hb12_4, rfl, rfl, rfl⟩⟩, N, KC7, SK7⟩
theorem dht : oDe oc25 0 (.iload_n 3) 1:=by decide+kernel
theorem dhu : oDe oc25 1 (.iload_n 2) 1:=by decide+kernel
theorem dhD : oDe oc25 2 (.if_icmp .ge 16) 3:=by decide+kernel
theorem dhE : oDe oc25 5 (.aload_n 0) 1:=by decide+kernel
theorem dhF : oDe oc25 6 (.iload_n 3) 1:=by decide+kernel
theorem dhG : oDe oc25 7 (.laload) 1:=by decide+kernel
theorem dhH : oDe oc25 8 (.lload 4) 2:=by decide+kernel
theorem dhv : oDe oc25 10 (.lcmp) 1:=by decide+kernel
theorem dhw : oDe oc25 11 (.ifCond .le 7) 3:=by decide+kernel
theorem dhx : oDe oc25 14 (.aload_n 1) 1:=by decide+kernel
theorem dhy : oDe oc25 15 (.iload_n 3) 1:=by decide+kernel
theorem dhz : oDe oc25 16 (.laload) 1:=by decide+kernel
theorem dhA : oDe oc25 17 (.lreturn) 1:=by decide+kernel
theorem dhB : oDe oc25 18 (.lconst 0) 1:=by decide+kernel
theorem dhC : oDe oc25 19 (.lreturn) 1:=by decide+kernel
theorem pn_25 : plainName "com/example/throttlua/throttlua/slidinglog/SubjectLogTakenAfterPinLaw" = true := by first | (simp [plainName, overriddenIn]; done) | decide +kernel
theorem fad (m : MethodId) (y0 : Addr) (y1 : Addr) (y2 : Int32) (y3 : Int32) (y4 : Int64) : entryFrame m #[(.ref y0), (.ref y1), (.int y2), (.int y3), (.long y4)] 6 = mkF m 0 #[oR y0, oR y1, oI y2, oI y3, oJ y4, oD] [] := by first | (simp [entryFrame, mkF, argsToLocals, Value.category]; done) | rfl
theorem rm_af (hw : own_T Z a0) (ca : Addr) (da : Addr) (k1 : ClassId) (k2 : ClassId) (cs : List Value) (ds : List Value) (k : Int32) (j : Int32) (q : Int64) (tx : Int64) (px : Int64) (h0 : Heap) (n0 : Nat) (Z0 : n0 ≤ h0.size) (Vc : Arv Z h0 ca k1 .long (4 : Int32) cs oZ) (Vd : Arv Z h0 da k2 .long (4 : Int32) ds oZ) (hj : ¬ j < 0 ∧ j < (4 : Int32)) (hc : cs.getD j.toNatClampNeg oZ = .long tx) (hd : ds.getD j.toNatClampNeg oZ = .long px) :
   own_Met l (⟨"com/example/throttlua/throttlua/slidinglog/SubjectLogTakenAfterPinLaw", "after", "([J[JIIJ)J"⟩ : MethodName) oc25 6 (some .long) (oRm 0 0 0 0) Z h0 #[(.ref ca), (.ref da), (.int k), (.int j), (.long q)] (fun v h L => v = some (.long (own_ag k j q tx px)) ∧ Fr n0 L ∧ h = h0) := by
 refine own_go hw (plainFor_of_name pn_25) (fun m => fad m ca da k j q) fun p e s m below meth c T0 C hret X u => ?_
 have N := Fr.nil n0
 refine sI C X dht ?_
 refine sI C X dhu ?_
 by_cases hb2_1 : j < k
 · refine cN C X dhD ((tlt hb2_1).2.1) ?_
   refine sA C X dhE ?_
   refine sI C X dhF ?_
   refine lA C X u Vc (v := (.long tx)) dhG ?_ (hj := hj) (hv := hc)
   refine sl C X dhH ?_
   refine tC C X dhv ?_
   by_cases hb11_2 : q < tx
   · refine bN C X dhw ((if0 _ _).trans (tlt ((lw_gt _ _).mpr hb11_2)).2.2.2) ?_
     refine sA C X dhx ?_
     refine sI C X dhy ?_
     refine lA C X u Vd (v := (.long px)) dhz ?_ (hj := hj) (hv := hd)
     exact rJ C X u hret dhA ⟨congrArg (fun z => some (Value.long z)) (show px = own_ag k j q tx px by rw [own_ag, if_pos hb2_1, own_af, if_pos hb11_2]), N, rfl⟩
   · refine bY C X dhw 18 ((if0 _ _).trans (flt (fun q => hb11_2 ((lw_gt _ _).mp q))).2.2.2) ?_
     refine tK C X dhB ?_
     exact rJ C X u hret dhC ⟨congrArg (fun z => some (Value.long z)) (show (0 : Int64) = own_ag k j q tx px by rw [own_ag, if_pos hb2_1, own_af, if_neg hb11_2]), N, rfl⟩
 · refine cY C X dhD 18 ((flt hb2_1).2.1) ?_
   refine tK C X dhB ?_
   exact rJ C X u hret dhC ⟨congrArg (fun z => some (Value.long z)) (show (0 : Int64) = own_ag k j q tx px by rw [own_ag, if_neg hb2_1]), N, rfl⟩
def own_mx (x y : Int64) : Int64 := if x < y then y else x
theorem own_nw.lt {lv : Int32 → Int32} {nw i : Int32} (h : own_nw lv nw i) : nw < 4 := by rcases h with ⟨rfl, -⟩ | ⟨rfl, -⟩ | ⟨rfl, -⟩ | ⟨rfl, -⟩ | ⟨rfl, -⟩ <;> decide
theorem own_agP {k j : Int32} {q t p : Int64} (h : j < k) : own_ag k j q t p = own_af q t p := if_pos h
theorem own_agN {k j : Int32} {q t p : Int64} (h : ¬ j < k) : own_ag k j q t p = 0 := if_neg h
theorem own_peN {T : Int64} {lv : Int32 → Int32} {lt lp : Int32 → Int64} (h0 : own_near T (lt 0)) (h1 : own_near T (lt 1)) (h2 : own_near T (lt 2)) (h3 : own_near T (lt 3)) : ∀ z ∈ own_pe lv lt lp, own_near T z.1 := by
 intro z hz
 simp only [own_pe, List.mem_append] at hz
 rcases hz with ((hz | hz) | hz) | hz <;> split at hz <;> simp at hz <;> subst hz <;> assumption
theorem own_cl (x : Int64) : -9223372036854775800 ≤ (own_mx (-9223372036854775800 : Int64) (own_m (9223372036854775743 : Int64) x)).toInt ∧ (own_mx (-9223372036854775800 : Int64) (own_m (9223372036854775743 : Int64) x)).toInt ≤ 9223372036854775743 := by
 have e1 : (-9223372036854775800 : Int64).toInt = -9223372036854775800 := by decide
 have e2 : (9223372036854775743 : Int64).toInt = 9223372036854775743 := by decide
 unfold own_mx own_m
 by_cases g : x < (9223372036854775743 : Int64)
 · rw [if_pos g]
   by_cases h : (-9223372036854775800 : Int64) < x
   · rw [if_pos h]; rw [Int64.lt_iff_toInt_lt] at h g; omega
   · rw [if_neg h]; omega
 · rw [if_neg g, if_pos (by decide)]; omega
theorem own_stp (u : Int64) (x : Int32) (hu : u.toInt ≤ 9223372036854775780) : u.toInt ≤ (u + (x &&& (7 : Int32)).toInt64).toInt ∧ (u + (x &&& (7 : Int32)).toInt64).toInt ≤ u.toInt + 7 := by
 have m := c_mask x (7 : Int32) 3 (by decide) (by decide)
 rw [show ((2 ^ 3 : Nat) : Int) = 8 from rfl] at m
 have a := c_ladd u (x &&& (7 : Int32)).toInt64
 have e : ((x &&& (7 : Int32)).toInt64).toInt = (x &&& (7 : Int32)).toInt := Int32.toInt_toInt64 _
 have r := rng64 (u + (x &&& (7 : Int32)).toInt64)
 have r' := rng64 u
 omega
theorem own_TL1_0 {q b x t1 p1 : Int64} (h : own_TL q b x 0 [(t1, p1)]) : own_T_1_0 q b t1 (b + p1) x := by
 exact h.2
theorem own_TL2_0 {q b x t1 t2 p1 p2 : Int64} (h : own_TL q b x 0 [(t1, p1), (t2, p2)]) : own_T_2_0 q b t1 t2 (b + p1) ((b + p1) + p2) x := by
 rcases h with ⟨g, h⟩ | ⟨g, h⟩
 · exact h
 · exact absurd g (by decide)
theorem own_TL2_1 {q b x t1 t2 p1 p2 : Int64} (h : own_TL q b x 1 [(t1, p1), (t2, p2)]) : own_T_2_1 q b t1 t2 (b + p1) ((b + p1) + p2) x := by
 rcases h with ⟨g, h⟩ | ⟨g, h⟩
 · exact absurd g (by decide)
 · exact h
theorem own_TL3_0 {q b x t1 t2 t3 p1 p2 p3 : Int64} (h : own_TL q b x 0 [(t1, p1), (t2, p2), (t3, p3)]) : own_T_3_0 q b t1 t2 t3 (b + p1) ((b + p1) + p2) (((b + p1) + p2) + p3) x := by
 rcases h with ⟨g, h⟩ | ⟨g, h⟩ | ⟨g, h⟩
 · exact h
 · exact absurd g (by decide)
 · exact absurd g (by decide)
theorem own_TL3_1 {q b x t1 t2 t3 p1 p2 p3 : Int64} (h : own_TL q b x 1 [(t1, p1), (t2, p2), (t3, p3)]) : own_T_3_1 q b t1 t2 t3 (b + p1) ((b + p1) + p2) (((b + p1) + p2) + p3) x := by
 rcases h with ⟨g, h⟩ | ⟨g, h⟩ | ⟨g, h⟩
 · exact absurd g (by decide)
 · exact h
 · exact absurd g (by decide)
theorem own_TL3_2 {q b x t1 t2 t3 p1 p2 p3 : Int64} (h : own_TL q b x 2 [(t1, p1), (t2, p2), (t3, p3)]) : own_T_3_2 q b t1 t2 t3 (b + p1) ((b + p1) + p2) (((b + p1) + p2) + p3) x := by
 rcases h with ⟨g, h⟩ | ⟨g, h⟩ | ⟨g, h⟩
 · exact absurd g (by decide)
 · exact absurd g (by decide)
 · exact h
theorem own_TL4_0 {q b x t1 t2 t3 t4 p1 p2 p3 p4 : Int64} (h : own_TL q b x 0 [(t1, p1), (t2, p2), (t3, p3), (t4, p4)]) : own_T_4_0 q b t1 t2 t3 t4 (b + p1) ((b + p1) + p2) (((b + p1) + p2) + p3) ((((b + p1) + p2) + p3) + p4) x := by
 rcases h with ⟨g, h⟩ | ⟨g, h⟩ | ⟨g, h⟩ | ⟨g, h⟩
 · exact h
 · exact absurd g (by decide)
 · exact absurd g (by decide)
 · exact absurd g (by decide)
theorem own_TL4_1 {q b x t1 t2 t3 t4 p1 p2 p3 p4 : Int64} (h : own_TL q b x 1 [(t1, p1), (t2, p2), (t3, p3), (t4, p4)]) : own_T_4_1 q b t1 t2 t3 t4 (b + p1) ((b + p1) + p2) (((b + p1) + p2) + p3) ((((b + p1) + p2) + p3) + p4) x := by
 rcases h with ⟨g, h⟩ | ⟨g, h⟩ | ⟨g, h⟩ | ⟨g, h⟩
 · exact absurd g (by decide)
 · exact h
 · exact absurd g (by decide)
 · exact absurd g (by decide)
theorem own_TL4_2 {q b x t1 t2 t3 t4 p1 p2 p3 p4 : Int64} (h : own_TL q b x 2 [(t1, p1), (t2, p2), (t3, p3), (t4, p4)]) : own_T_4_2 q b t1 t2 t3 t4 (b + p1) ((b + p1) + p2) (((b + p1) + p2) + p3) ((((b + p1) + p2) + p3) + p4) x := by
 rcases h with ⟨g, h⟩ | ⟨g, h⟩ | ⟨g, h⟩ | ⟨g, h⟩
 · exact absurd g (by decide)
 · exact absurd g (by decide)
 · exact h
 · exact absurd g (by decide)
theorem own_TL4_3 {q b x t1 t2 t3 t4 p1 p2 p3 p4 : Int64} (h : own_TL q b x 3 [(t1, p1), (t2, p2), (t3, p3), (t4, p4)]) : own_T_4_3 q b t1 t2 t3 t4 (b + p1) ((b + p1) + p2) (((b + p1) + p2) + p3) ((((b + p1) + p2) + p3) + p4) x := by
 rcases h with ⟨g, h⟩ | ⟨g, h⟩ | ⟨g, h⟩ | ⟨g, h⟩
 · exact absurd g (by decide)
 · exact absurd g (by decide)
 · exact absurd g (by decide)
 · exact h
theorem diV : oDe oc2 0 (.lload_n 0) 1:=by decide+kernel
theorem diW : oDe oc2 1 (.lload_n 2) 1:=by decide+kernel
theorem diZ : oDe oc2 2 (.lcmp) 1:=by decide+kernel
theorem di0 : oDe oc2 3 (.ifCond .lt 7) 3:=by decide+kernel
theorem diX : oDe oc2 10 (.lload_n 2) 1:=by decide+kernel
theorem diY : oDe oc2 11 (.lreturn) 1:=by decide+kernel
theorem di1 : oDe oc2 6 (.lload_n 0) 1:=by decide+kernel
theorem di2 : oDe oc2 7 (.goto 4) 3:=by decide+kernel
theorem fah (m : MethodId) (y0 : Int64) (y1 : Int64) : entryFrame m #[(.long y0), (.long y1)] 4 = mkF m 0 #[oJ y0, oD, oJ y1, oD] [] := by first | (simp [entryFrame, mkF, argsToLocals, Value.category]; done) | rfl
theorem rm_mx (hw : own_T Z a0) (x : Int64) (y : Int64) (h0 : Heap) (n0 : Nat) (Z0 : n0 ≤ h0.size) :
   own_Met l (⟨"java/lang/Math", "max", "(JJ)J"⟩ : MethodName) oc2 4 (some .long) (oRm 0 0 0 0) Z h0 #[(.long x), (.long y)] (fun v h L => v = some (.long (own_mx x y)) ∧ Fr n0 L ∧ h = h0) := by
 refine own_go hw (Jvm.Free.JP.mathPlain rfl (by decide+kernel)) (fun m => fah m x y) fun p e s m below meth c T0 C hret X u => ?_
 have N := Fr.nil n0
 refine sL C X diV ?_
 refine sL C X diW ?_
 refine tC C X diZ ?_
 by_cases hb3_1 : x < y
 · refine bY C X di0 10 ((if0 _ _).trans (tlt ((lw_lt _ _).mpr hb3_1)).1) ?_
   refine sL C X diX ?_
   exact rJ C X u hret diY ⟨congrArg (fun z => some (Value.long z)) (by rw [own_mx, if_pos hb3_1]), N, rfl⟩
 · refine bN C X di0 ((if0 _ _).trans (flt (fun q => hb3_1 ((lw_lt _ _).mp q))).1) ?_
   refine sL C X di1 ?_
   refine sG C X di2 11 ?_
   exact rJ C X u hret diY ⟨congrArg (fun z => some (Value.long z)) (by rw [own_mx, if_neg hb3_1]), N, rfl⟩
def own_m2 (x y : Int64) : Int64 := own_m x y
theorem fab (m : MethodId) (y0 : Int64) (y1 : Int64) : entryFrame m #[(.long y0), (.long y1)] 4 = mkF m 0 #[oJ y0, oD, oJ y1, oD] [] := by first | (simp [entryFrame, mkF, argsToLocals, Value.category]; done) | rfl
theorem rm_mn (hw : own_T Z a0) (x : Int64) (y : Int64) (h0 : Heap) (n0 : Nat) (Z0 : n0 ≤ h0.size) :
   own_Met l oy1 oc1 4 (some .long) (oRm 0 0 0 0) Z h0 #[(.long x), (.long y)] (fun v h L => v = some (.long (own_m x y)) ∧ Fr n0 L ∧ h = h0) := by
 refine own_go hw (Jvm.Free.JP.mathPlain rfl (by decide+kernel)) (fun m => fab m x y) fun p e s m below meth c T0 C hret X u => ?_
 have N := Fr.nil n0
 refine sL C X dfo ?_
 refine sL C X dfp ?_
 refine tC C X dfs ?_
 by_cases hb3_1 : y < x
 · refine bY C X dft 10 ((if0 _ _).trans (tlt ((lw_gt _ _).mpr hb3_1)).2.2.1) ?_
   refine sL C X dfq ?_
   exact rJ C X u hret dfr ⟨congrArg (fun z => some (Value.long z)) (by rw [own_m, if_pos hb3_1]), N, rfl⟩
 · refine bN C X dft ((if0 _ _).trans (flt (fun q => hb3_1 ((lw_gt _ _).mp q))).2.2.1) ?_
   refine sL C X dfu ?_
   refine sG C X dfv 11 ?_
   exact rJ C X u hret dfr ⟨congrArg (fun z => some (Value.long z)) (by rw [own_m, if_neg hb3_1]), N, rfl⟩
abbrev oF (q0 : Int64) (q1 : Int64) (i2 : Int32) (i3 : Int32) (q4 : Int64) (i5 : Int32) (u1 : Int64) (u2 : Int64) (u3 : Int64) (u4 : Int64) (v1 : Int64) (v2 : Int64) (v3 : Int64) (v4 : Int64) (z1 : Int32) (z2 : Int32) (z3 : Int32) (z4 : Int32) (z5 : Int32) (z6 : Int32) (z7 : Int32) (dt : Int64) (qq : Int64) (a1 : Addr) (a2 : Addr) (a3 : Addr) (a4 : Addr) (a5 : Addr) (a6 : Addr) (nw : Int32) (x : Slot) (y : Slot) (z : Slot) : Array Slot := #[oJ q0, oD, oJ q1, oD, oI i2, oI i3, oJ q4, oD, oI i5, oJ u1, oD, oJ u2, oD, oJ u3, oD, oJ u4, oD, oJ v1, oD, oJ v2, oD, oJ v3, oD, oJ v4, oD, oI z1, oI z2, oI z3, oI z4, oI z5, oI z6, oI z7, oJ dt, oD, oJ qq, oD, oR a1, oR a2, oR a3, oR a4, oR a5, oR a6, oI nw, x, y, z]
theorem paq : parseMethodDescriptor "([J[JIIJ)J" = some ⟨[(.array .long), (.array .long), .int, .int, .long], some .long⟩:=by decide+kernel
theorem pal : parseMethodDescriptor "(J)J" = some ⟨[.long], some .long⟩:=by decide+kernel
theorem pat : parseMethodDescriptor "()Z" = some ⟨[], some .boolean⟩:=by decide+kernel
theorem pai : parseMethodDescriptor "(JJI)V" = some ⟨[.long, .long, .int], none⟩:=by decide+kernel
theorem par : parseMethodDescriptor "([J[J[ZII)I" = some ⟨[(.array .long), (.array .long), (.array .boolean), .int, .int], some .int⟩:=by decide+kernel
theorem pam : parseMethodDescriptor "(J)V" = some ⟨[.long], none⟩:=by decide+kernel
theorem pn_0 : plainName "com/example/throttlua/throttlua/slidinglog/SubjectLogTakenAfterPinLaw" = true := by first | (simp [plainName, overriddenIn]; done) | decide +kernel
theorem faa (m : MethodId) (y0 : Int64) (y1 : Int64) (y2 : Int32) (y3 : Int32) (y4 : Int64) (y5 : Int32) : entryFrame m #[(.long y0), (.long y1), (.int y2), (.int y3), (.long y4), (.int y5)] maxLocals = mkF m 0 #[oJ y0, oD, oJ y1, oD, oI y2, oI y3, oJ y4, oD, oI y5, .unset, .unset, .unset, .unset, .unset, .unset, .unset, .unset, .unset, .unset, .unset, .unset, .unset, .unset, .unset, .unset, .unset, .unset, .unset, .unset, .unset, .unset, .unset, .unset, .unset, .unset, .unset, .unset, .unset, .unset, .unset, .unset, .unset, .unset, .unset, .unset, .unset] [] := by first | (simp [entryFrame, mkF, argsToLocals, Value.category, maxLocals]; done) | rfl
theorem rm0 (hw : own_T Z a0) (q0 : Int64) (q1 : Int64) (i2 : Int32) (i3 : Int32) (q4 : Int64) (i5 : Int32) (h0 : Heap) (n0 : Nat) (Z0 : n0 ≤ h0.size) (Sta0 : Sta Z h0 oB "$assertionsDisabled" "Z" (.int 1)) :
   own_Met l x code maxLocals ret room_1 Z h0 #[(.long q0), (.long q1), (.int i2), (.int i3), (.long q4), (.int i5)] (fun v h L => v = some (.int 1) ∧ Fr n0 L) := by
 refine own_go hw (plainFor_of_name pn_0) (fun m => faa m q0 q1 i2 i3 q4 i5) fun p e s m below meth c T0 C hret X u => ?_
 have N := Fr.nil n0
 refine kJ C X (waa C.w) at_0 ?_
 refine kJ C X (wab C.w) at_3 ?_
 refine sL C X at_6 ?_
 refine cS C X u (rm_mn l Z a0 hw (9223372036854775743 : Int64) q0  h0 n0 Z0) (W := 2) (wbY C.w) (wcd C.w) (wcz C.w) (wco C.w) (argsL := [(.long 9223372036854775743), (.long q0)]) (lenOf paj rfl) at_7 fun v1 T1 _ X hQ1 => ?_
 obtain ⟨rfl, Nq1, u⟩ := hQ1
 refine cS C X u (rm_mx l Z a0 hw (-9223372036854775800 : Int64) (own_m (9223372036854775743 : Int64) q0)  h0 n0 Z0) (W := 0) (wcK C.w) (wcV C.w) (wc6 C.w) (wco C.w) (argsL := [(.long (-9223372036854775800 : Int64)), (.long (own_m (9223372036854775743 : Int64) q0))]) (lenOf paj rfl) at_10 fun v2 T2 _ X hQ2 => ?_
 obtain ⟨rfl, Nq2, u⟩ := hQ2
 refine wl C X #[oJ q0, oD, oJ q1, oD, oI i2, oI i3, oJ q4, oD, oI i5, oJ (own_mx (-9223372036854775800 : Int64) (own_m (9223372036854775743 : Int64) q0)), oD, oU, oU, oU, oU, oU, oU, oU, oU, oU, oU, oU, oU, oU, oU, oU, oU, oU, oU, oU, oU, oU, oU, oU, oU, oU, oU, oU, oU, oU, oU, oU, oU, oU, oU, oU] at_13 ?_
 obtain ⟨u1, hu1⟩ : ∃ z : Int64, z = (own_mx (-9223372036854775800 : Int64) (own_m (9223372036854775743 : Int64) q0)) := ⟨_, rfl⟩
 rw [← hu1]
 have cl := own_cl q0
 rw [← hu1] at cl
 refine sl C X at_15 ?_
 refine si C X at_17 ?_
 refine sB C X at_19 ?_
 refine sN C X at_21 ?_
 refine tI C X at_22 ?_
 refine tP C X at_23 ?_
 refine wl C X #[oJ q0, oD, oJ q1, oD, oI i2, oI i3, oJ q4, oD, oI i5, oJ u1, oD, oJ (u1 + ((i2 &&& (7 : Int32)).toInt64)), oD, oU, oU, oU, oU, oU, oU, oU, oU, oU, oU, oU, oU, oU, oU, oU, oU, oU, oU, oU, oU, oU, oU, oU, oU, oU, oU, oU, oU, oU, oU, oU, oU, oU] at_24 ?_
 obtain ⟨u2, hu2⟩ : ∃ z : Int64, z = (u1 + ((i2 &&& (7 : Int32)).toInt64)) := ⟨_, rfl⟩
 rw [← hu2]
 have s1 := own_stp u1 i2 (by omega)
 rw [← hu2] at s1
 refine sl C X at_26 ?_
 refine si C X at_28 ?_
 refine sC C X at_30 ?_
 refine sR C X at_31 ?_
 refine sB C X at_32 ?_
 refine sN C X at_34 ?_
 refine tI C X at_35 ?_
 refine tP C X at_36 ?_
 refine wl C X #[oJ q0, oD, oJ q1, oD, oI i2, oI i3, oJ q4, oD, oI i5, oJ u1, oD, oJ u2, oD, oJ (u2 + ((((i2.toUInt32 >>> ((3 : Int32) &&& 31).toUInt32).toInt32) &&& (7 : Int32)).toInt64)), oD, oU, oU, oU, oU, oU, oU, oU, oU, oU, oU, oU, oU, oU, oU, oU, oU, oU, oU, oU, oU, oU, oU, oU, oU, oU, oU, oU, oU, oU, oU, oU] at_37 ?_
 obtain ⟨u3, hu3⟩ : ∃ z : Int64, z = (u2 + ((((i2.toUInt32 >>> ((3 : Int32) &&& 31).toUInt32).toInt32) &&& (7 : Int32)).toInt64)) := ⟨_, rfl⟩
 rw [← hu3]
 have s2 := own_stp u2 ((i2.toUInt32 >>> ((3 : Int32) &&& 31).toUInt32).toInt32) (by omega)
 rw [← hu3] at s2
 refine sl C X at_39 ?_
 refine si C X at_41 ?_
 refine sB C X at_43 ?_
 refine sR C X at_45 ?_
 refine sB C X at_46 ?_
 refine sN C X at_48 ?_
 refine tI C X at_49 ?_
 refine tP C X at_50 ?_
 refine wl C X #[oJ q0, oD, oJ q1, oD, oI i2, oI i3, oJ q4, oD, oI i5, oJ u1, oD, oJ u2, oD, oJ u3, oD, oJ (u3 + ((((i2.toUInt32 >>> ((6 : Int32) &&& 31).toUInt32).toInt32) &&& (7 : Int32)).toInt64)), oD, oU, oU, oU, oU, oU, oU, oU, oU, oU, oU, oU, oU, oU, oU, oU, oU, oU, oU, oU, oU, oU, oU, oU, oU, oU, oU, oU, oU, oU] at_51 ?_
 obtain ⟨u4, hu4⟩ : ∃ z : Int64, z = (u3 + ((((i2.toUInt32 >>> ((6 : Int32) &&& 31).toUInt32).toInt32) &&& (7 : Int32)).toInt64)) := ⟨_, rfl⟩
 rw [← hu4]
 have s3 := own_stp u3 ((i2.toUInt32 >>> ((6 : Int32) &&& 31).toUInt32).toInt32) (by omega)
 rw [← hu4] at s3
 refine sL C X at_53 ?_
 refine kJ C X (wdh C.w) at_54 ?_
 refine tA C X at_57 ?_
 refine tK C X at_58 ?_
 refine tP C X at_59 ?_
 refine wl C X #[oJ q0, oD, oJ q1, oD, oI i2, oI i3, oJ q4, oD, oI i5, oJ u1, oD, oJ u2, oD, oJ u3, oD, oJ u4, oD, oJ ((q1 &&& (1125899906842623 : Int64)) + (1 : Int64)), oD, oU, oU, oU, oU, oU, oU, oU, oU, oU, oU, oU, oU, oU, oU, oU, oU, oU, oU, oU, oU, oU, oU, oU, oU, oU, oU, oU] at_60 ?_
 obtain ⟨v1, hv1⟩ : ∃ z : Int64, z = ((q1 &&& (1125899906842623 : Int64)) + (1 : Int64)) := ⟨_, rfl⟩
 rw [← hv1]
 refine si C X at_62 ?_
 refine sU C X at_64 ?_
 refine sN C X at_67 ?_
 refine sC C X at_68 ?_
 refine sP C X at_69 ?_
 refine tI C X at_70 ?_
 refine wl C X #[oJ q0, oD, oJ q1, oD, oI i2, oI i3, oJ q4, oD, oI i5, oJ u1, oD, oJ u2, oD, oJ u3, oD, oJ u4, oD, oJ v1, oD, oJ (((i3 &&& (1023 : Int32)) + (1 : Int32)).toInt64), oD, oU, oU, oU, oU, oU, oU, oU, oU, oU, oU, oU, oU, oU, oU, oU, oU, oU, oU, oU, oU, oU, oU, oU, oU, oU] at_71 ?_
 obtain ⟨v2, hv2⟩ : ∃ z : Int64, z = (((i3 &&& (1023 : Int32)) + (1 : Int32)).toInt64) := ⟨_, rfl⟩
 rw [← hv2]
 refine si C X at_73 ?_
 refine sB C X at_75 ?_
 refine sR C X at_77 ?_
 refine sU C X at_78 ?_
 refine sN C X at_81 ?_
 refine sC C X at_82 ?_
 refine sP C X at_83 ?_
 refine tI C X at_84 ?_
 refine wl C X #[oJ q0, oD, oJ q1, oD, oI i2, oI i3, oJ q4, oD, oI i5, oJ u1, oD, oJ u2, oD, oJ u3, oD, oJ u4, oD, oJ v1, oD, oJ v2, oD, oJ (((((i3.toUInt32 >>> ((10 : Int32) &&& 31).toUInt32).toInt32) &&& (1023 : Int32)) + (1 : Int32)).toInt64), oD, oU, oU, oU, oU, oU, oU, oU, oU, oU, oU, oU, oU, oU, oU, oU, oU, oU, oU, oU, oU, oU, oU, oU] at_85 ?_
 obtain ⟨v3, hv3⟩ : ∃ z : Int64, z = (((((i3.toUInt32 >>> ((10 : Int32) &&& 31).toUInt32).toInt32) &&& (1023 : Int32)) + (1 : Int32)).toInt64) := ⟨_, rfl⟩
 rw [← hv3]
 refine si C X at_87 ?_
 refine sB C X at_89 ?_
 refine sR C X at_91 ?_
 refine sU C X at_92 ?_
 refine sN C X at_95 ?_
 refine sC C X at_96 ?_
 refine sP C X at_97 ?_
 refine tI C X at_98 ?_
 refine wl C X #[oJ q0, oD, oJ q1, oD, oI i2, oI i3, oJ q4, oD, oI i5, oJ u1, oD, oJ u2, oD, oJ u3, oD, oJ u4, oD, oJ v1, oD, oJ v2, oD, oJ v3, oD, oJ (((((i3.toUInt32 >>> ((20 : Int32) &&& 31).toUInt32).toInt32) &&& (1023 : Int32)) + (1 : Int32)).toInt64), oD, oU, oU, oU, oU, oU, oU, oU, oU, oU, oU, oU, oU, oU, oU, oU, oU, oU, oU, oU, oU, oU] at_99 ?_
 obtain ⟨v4, hv4⟩ : ∃ z : Int64, z = (((((i3.toUInt32 >>> ((20 : Int32) &&& 31).toUInt32).toInt32) &&& (1023 : Int32)) + (1 : Int32)).toInt64) := ⟨_, rfl⟩
 rw [← hv4]
 refine si C X at_101 ?_
 refine sC C X at_103 ?_
 refine sN C X at_104 ?_
 refine own_bj C X 105 at_105 at_108 at_109 at_112 fun z1 hz1 => ?_
 refine wi C X #[oJ q0, oD, oJ q1, oD, oI i2, oI i3, oJ q4, oD, oI i5, oJ u1, oD, oJ u2, oD, oJ u3, oD, oJ u4, oD, oJ v1, oD, oJ v2, oD, oJ v3, oD, oJ v4, oD, oI z1, oU, oU, oU, oU, oU, oU, oU, oU, oU, oU, oU, oU, oU, oU, oU, oU, oU, oU, oU, oU] at_113 ?_
 refine si C X at_115 ?_
 refine sC C X at_117 ?_
 refine sN C X at_118 ?_
 refine own_bj C X 119 at_119 at_122 at_123 at_126 fun z2 hz2 => ?_
 refine wi C X #[oJ q0, oD, oJ q1, oD, oI i2, oI i3, oJ q4, oD, oI i5, oJ u1, oD, oJ u2, oD, oJ u3, oD, oJ u4, oD, oJ v1, oD, oJ v2, oD, oJ v3, oD, oJ v4, oD, oI z1, oI z2, oU, oU, oU, oU, oU, oU, oU, oU, oU, oU, oU, oU, oU, oU, oU, oU, oU, oU, oU] at_127 ?_
 refine si C X at_129 ?_
 refine sC C X at_131 ?_
 refine sN C X at_132 ?_
 refine own_bj C X 133 at_133 at_136 at_137 at_140 fun z3 hz3 => ?_
 refine wi C X #[oJ q0, oD, oJ q1, oD, oI i2, oI i3, oJ q4, oD, oI i5, oJ u1, oD, oJ u2, oD, oJ u3, oD, oJ u4, oD, oJ v1, oD, oJ v2, oD, oJ v3, oD, oJ v4, oD, oI z1, oI z2, oI z3, oU, oU, oU, oU, oU, oU, oU, oU, oU, oU, oU, oU, oU, oU, oU, oU, oU, oU] at_141 ?_
 refine si C X at_143 ?_
 refine sB C X at_145 ?_
 refine sN C X at_147 ?_
 refine own_bj C X 148 at_148 at_151 at_152 at_155 fun z4 hz4 => ?_
 refine wi C X #[oJ q0, oD, oJ q1, oD, oI i2, oI i3, oJ q4, oD, oI i5, oJ u1, oD, oJ u2, oD, oJ u3, oD, oJ u4, oD, oJ v1, oD, oJ v2, oD, oJ v3, oD, oJ v4, oD, oI z1, oI z2, oI z3, oI z4, oU, oU, oU, oU, oU, oU, oU, oU, oU, oU, oU, oU, oU, oU, oU, oU, oU] at_156 ?_
 refine si C X at_158 ?_
 refine sB C X at_160 ?_
 refine sN C X at_162 ?_
 refine own_bj C X 163 at_163 at_166 at_167 at_170 fun z5 hz5 => ?_
 refine wi C X #[oJ q0, oD, oJ q1, oD, oI i2, oI i3, oJ q4, oD, oI i5, oJ u1, oD, oJ u2, oD, oJ u3, oD, oJ u4, oD, oJ v1, oD, oJ v2, oD, oJ v3, oD, oJ v4, oD, oI z1, oI z2, oI z3, oI z4, oI z5, oU, oU, oU, oU, oU, oU, oU, oU, oU, oU, oU, oU, oU, oU, oU, oU] at_171 ?_
 refine si C X at_173 ?_
 refine sB C X at_175 ?_
 refine sN C X at_177 ?_
 refine own_bj C X 178 at_178 at_181 at_182 at_185 fun z6 hz6 => ?_
 refine wi C X #[oJ q0, oD, oJ q1, oD, oI i2, oI i3, oJ q4, oD, oI i5, oJ u1, oD, oJ u2, oD, oJ u3, oD, oJ u4, oD, oJ v1, oD, oJ v2, oD, oJ v3, oD, oJ v4, oD, oI z1, oI z2, oI z3, oI z4, oI z5, oI z6, oU, oU, oU, oU, oU, oU, oU, oU, oU, oU, oU, oU, oU, oU, oU] at_186 ?_
 refine si C X at_188 ?_
 refine sB C X at_190 ?_
 refine sN C X at_192 ?_
 refine own_bj C X 193 at_193 at_196 at_197 at_200 fun z7 hz7 => ?_
 refine wi C X #[oJ q0, oD, oJ q1, oD, oI i2, oI i3, oJ q4, oD, oI i5, oJ u1, oD, oJ u2, oD, oJ u3, oD, oJ u4, oD, oJ v1, oD, oJ v2, oD, oJ v3, oD, oJ v4, oD, oI z1, oI z2, oI z3, oI z4, oI z5, oI z6, oI z7, oU, oU, oU, oU, oU, oU, oU, oU, oU, oU, oU, oU, oU, oU] at_201 ?_
 refine sl C X at_203 ?_
 refine si C X at_205 ?_
 refine sB C X at_207 ?_
 refine sR C X at_209 ?_
 refine sB C X at_210 ?_
 refine sN C X at_212 ?_
 refine tI C X at_213 ?_
 refine tP C X at_214 ?_
 refine kJ C X (wac C.w) at_215 ?_
 refine tS C X at_218 ?_
 refine wl C X #[oJ q0, oD, oJ q1, oD, oI i2, oI i3, oJ q4, oD, oI i5, oJ u1, oD, oJ u2, oD, oJ u3, oD, oJ u4, oD, oJ v1, oD, oJ v2, oD, oJ v3, oD, oJ v4, oD, oI z1, oI z2, oI z3, oI z4, oI z5, oI z6, oI z7, oJ ((u1 + ((((i5.toUInt32 >>> ((7 : Int32) &&& 31).toUInt32).toInt32) &&& (31 : Int32)).toInt64)) - (4 : Int64)), oD, oU, oU, oU, oU, oU, oU, oU, oU, oU, oU, oU, oU] at_219 ?_
 obtain ⟨dt, hdt⟩ : ∃ z : Int64, z = ((u1 + ((((i5.toUInt32 >>> ((7 : Int32) &&& 31).toUInt32).toInt32) &&& (31 : Int32)).toInt64)) - (4 : Int64)) := ⟨_, rfl⟩
 rw [← hdt]
 have B244 : ∀ qq : Int64, own_Fin p e below (own_E room_1 s below (fun v h L => v = some (.int 1) ∧ Fr n0 L)) T2 (mkF m 244 #[oJ q0, oD, oJ q1, oD, oI i2, oI i3, oJ q4, oD, oI i5, oJ u1, oD, oJ u2, oD, oJ u3, oD, oJ u4, oD, oJ v1, oD, oJ v2, oD, oJ v3, oD, oJ v4, oD, oI z1, oI z2, oI z3, oI z4, oI z5, oI z6, oI z7, oJ dt, oD, oU, oU, oU, oU, oU, oU, oU, oU, oU, oU, oU, oU] [(.long qq)]) := by
   intro qq
   refine wl C X #[oJ q0, oD, oJ q1, oD, oI i2, oI i3, oJ q4, oD, oI i5, oJ u1, oD, oJ u2, oD, oJ u3, oD, oJ u4, oD, oJ v1, oD, oJ v2, oD, oJ v3, oD, oJ v4, oD, oI z1, oI z2, oI z3, oI z4, oI z5, oI z6, oI z7, oJ dt, oD, oJ qq, oD, oU, oU, oU, oU, oU, oU, oU, oU, oU, oU] at_244 ?_
   refine sC C X at_246 ?_
   refine nP C X u (n := 4) 4 [oZ, oZ, oZ, oZ] (wan C.w) at_247 fun _ h3 k3 b3 g3 X u E3 V3 => ?_
   have KC3 : Keep h0 h3 [] := (Keep.refl h0 []).ext E3
   have SK3 := (own_StK.refl Z h0).ext E3
   have bo_b3 : h0.size ≤ b3 := by rw [g3]; exact Nat.le_refl _
   have ge_b3 : n0 ≤ b3 := by rw [g3]; exact Z0
   refine sD C X at_249 ?_
   refine sC C X at_250 ?_
   refine sl C X at_251 ?_
   refine sJ C X u ((N.app Nq1).app Nq2) ge_b3 V3 _ at_253 fun _ h4 _ X u N W4 V4 => ?_
   have KC4 : Keep h0 h4 [] := KC3.wr W4 (Or.inr bo_b3)
   have SK4 := SK3.wr W4
   refine sD C X at_254 ?_
   refine sC C X at_255 ?_
   refine sl C X at_256 ?_
   refine sJ C X u N ge_b3 V4 _ at_258 fun _ h5 _ X u N W5 V5 => ?_
   have KC5 : Keep h0 h5 [] := KC4.wr W5 (Or.inr bo_b3)
   have SK5 := SK4.wr W5
   refine sD C X at_259 ?_
   refine sC C X at_260 ?_
   refine sl C X at_261 ?_
   refine sJ C X u N ge_b3 V5 _ at_263 fun _ h6 _ X u N W6 V6 => ?_
   have KC6 : Keep h0 h6 [] := KC5.wr W6 (Or.inr bo_b3)
   have SK6 := SK5.wr W6
   refine sD C X at_264 ?_
   refine sC C X at_265 ?_
   refine sl C X at_266 ?_
   refine sJ C X u N ge_b3 V6 _ at_268 fun _ h7 _ X u N W7 V7 => ?_
   have KC7 : Keep h0 h7 [] := KC6.wr W7 (Or.inr bo_b3)
   have SK7 := SK6.wr W7
   refine wa C X #[oJ q0, oD, oJ q1, oD, oI i2, oI i3, oJ q4, oD, oI i5, oJ u1, oD, oJ u2, oD, oJ u3, oD, oJ u4, oD, oJ v1, oD, oJ v2, oD, oJ v3, oD, oJ v4, oD, oI z1, oI z2, oI z3, oI z4, oI z5, oI z6, oI z7, oJ dt, oD, oJ qq, oD, oR b3, oU, oU, oU, oU, oU, oU, oU, oU, oU] at_269 ?_
   refine sC C X at_271 ?_
   refine nP C X u (n := 4) 4 [oZ, oZ, oZ, oZ] (wan C.w) at_272 fun _ h8 k8 b8 g8 X u E8 V8 => ?_
   have KC8 : Keep h0 h8 [] := KC7.ext E8
   have SK8 := SK7.ext E8
   have bo_b8 : h0.size ≤ b8 := by rw [g8]; exact KC7.1
   have ge_b8 : n0 ≤ b8 := by rw [g8]; exact (Nat.le_trans Z0 KC7.1)
   have ne_b3_b8 : b3 ≠ b8 := Nat.ne_of_lt (by rw [g8]; exact V7.lt)
   refine sD C X at_274 ?_
   refine sC C X at_275 ?_
   refine sl C X at_276 ?_
   refine sJ C X u N ge_b8 V8 _ at_278 fun _ h9 _ X u N W9 V9 => ?_
   have KC9 : Keep h0 h9 [] := KC8.wr W9 (Or.inr bo_b8)
   have SK9 := SK8.wr W9
   refine sD C X at_279 ?_
   refine sC C X at_280 ?_
   refine sl C X at_281 ?_
   refine sJ C X u N ge_b8 V9 _ at_283 fun _ h10 _ X u N W10 V10 => ?_
   have KC10 : Keep h0 h10 [] := KC9.wr W10 (Or.inr bo_b8)
   have SK10 := SK9.wr W10
   refine sD C X at_284 ?_
   refine sC C X at_285 ?_
   refine sl C X at_286 ?_
   refine sJ C X u N ge_b8 V10 _ at_288 fun _ h11 _ X u N W11 V11 => ?_
   have KC11 : Keep h0 h11 [] := KC10.wr W11 (Or.inr bo_b8)
   have SK11 := SK10.wr W11
   refine sD C X at_289 ?_
   refine sC C X at_290 ?_
   refine sl C X at_291 ?_
   refine sJ C X u N ge_b8 V11 _ at_293 fun _ h12 _ X u N W12 V12 => ?_
   have KC12 : Keep h0 h12 [] := KC11.wr W12 (Or.inr bo_b8)
   have SK12 := SK11.wr W12
   refine wa C X #[oJ q0, oD, oJ q1, oD, oI i2, oI i3, oJ q4, oD, oI i5, oJ u1, oD, oJ u2, oD, oJ u3, oD, oJ u4, oD, oJ v1, oD, oJ v2, oD, oJ v3, oD, oJ v4, oD, oI z1, oI z2, oI z3, oI z4, oI z5, oI z6, oI z7, oJ dt, oD, oJ qq, oD, oR b3, oR b8, oU, oU, oU, oU, oU, oU, oU, oU] at_294 ?_
   refine sC C X at_296 ?_
   have f13 := (((((V7.ext E8).other W9 ne_b3_b8).other W10 ne_b3_b8).other W11 ne_b3_b8).other W12 ne_b3_b8)
   refine nZ C X u (n := 4) 4 (way C.w) at_297 fun _ h14 k14 b14 g14 X u E14 V14 B14 => ?_
   have KC14 : Keep h0 h14 [] := KC12.ext E14
   have SK14 := SK12.ext E14
   have bo_b14 : h0.size ≤ b14 := by rw [g14]; exact KC12.1
   have ge_b14 : n0 ≤ b14 := by rw [g14]; exact (Nat.le_trans Z0 KC12.1)
   have ne_b3_b14 : b3 ≠ b14 := Nat.ne_of_lt (by rw [g14]; exact f13.lt)
   have ne_b8_b14 : b8 ≠ b14 := Nat.ne_of_lt (by rw [g14]; exact V12.lt)
   refine wa C X #[oJ q0, oD, oJ q1, oD, oI i2, oI i3, oJ q4, oD, oI i5, oJ u1, oD, oJ u2, oD, oJ u3, oD, oJ u4, oD, oJ v1, oD, oJ v2, oD, oJ v3, oD, oJ v4, oD, oI z1, oI z2, oI z3, oI z4, oI z5, oI z6, oI z7, oJ dt, oD, oJ qq, oD, oR b3, oR b8, oR b14, oU, oU, oU, oU, oU, oU, oU] at_299 ?_
   refine sC C X at_301 ?_
   have f15 := (f13.ext E14)
   have f16 := (V12.ext E14)
   refine nP C X u (n := 4) 4 [oZ, oZ, oZ, oZ] (wan C.w) at_302 fun _ h17 k17 b17 g17 X u E17 V17 => ?_
   have KC17 : Keep h0 h17 [] := KC14.ext E17
   have SK17 := SK14.ext E17
   have bo_b17 : h0.size ≤ b17 := by rw [g17]; exact KC14.1
   have ge_b17 : n0 ≤ b17 := by rw [g17]; exact (Nat.le_trans Z0 KC14.1)
   have ne_b3_b17 : b3 ≠ b17 := Nat.ne_of_lt (by rw [g17]; exact f15.lt)
   have ne_b8_b17 : b8 ≠ b17 := Nat.ne_of_lt (by rw [g17]; exact f16.lt)
   have ne_b14_b17 : b14 ≠ b17 := Nat.ne_of_lt (by rw [g17]; exact V14.lt)
   refine wa C X #[oJ q0, oD, oJ q1, oD, oI i2, oI i3, oJ q4, oD, oI i5, oJ u1, oD, oJ u2, oD, oJ u3, oD, oJ u4, oD, oJ v1, oD, oJ v2, oD, oJ v3, oD, oJ v4, oD, oI z1, oI z2, oI z3, oI z4, oI z5, oI z6, oI z7, oJ dt, oD, oJ qq, oD, oR b3, oR b8, oR b14, oR b17, oU, oU, oU, oU, oU, oU] at_304 ?_
   refine sC C X at_306 ?_
   have f18 := (f15.ext E17)
   have f19 := (f16.ext E17)
   have f20 := (V14.ext E17)
   refine nP C X u (n := 4) 4 [oZ, oZ, oZ, oZ] (wan C.w) at_307 fun _ h21 k21 b21 g21 X u E21 V21 => ?_
   have KC21 : Keep h0 h21 [] := KC17.ext E21
   have SK21 := SK17.ext E21
   have bo_b21 : h0.size ≤ b21 := by rw [g21]; exact KC17.1
   have ge_b21 : n0 ≤ b21 := by rw [g21]; exact (Nat.le_trans Z0 KC17.1)
   have ne_b3_b21 : b3 ≠ b21 := Nat.ne_of_lt (by rw [g21]; exact f18.lt)
   have ne_b8_b21 : b8 ≠ b21 := Nat.ne_of_lt (by rw [g21]; exact f19.lt)
   have ne_b14_b21 : b14 ≠ b21 := Nat.ne_of_lt (by rw [g21]; exact f20.lt)
   have ne_b17_b21 : b17 ≠ b21 := Nat.ne_of_lt (by rw [g21]; exact V17.lt)
   refine wa C X #[oJ q0, oD, oJ q1, oD, oI i2, oI i3, oJ q4, oD, oI i5, oJ u1, oD, oJ u2, oD, oJ u3, oD, oJ u4, oD, oJ v1, oD, oJ v2, oD, oJ v3, oD, oJ v4, oD, oI z1, oI z2, oI z3, oI z4, oI z5, oI z6, oI z7, oJ dt, oD, oJ qq, oD, oR b3, oR b8, oR b14, oR b17, oR b21, oU, oU, oU, oU, oU] at_309 ?_
   obtain ⟨n1, hn1⟩ : ∃ n, n = h21.size := ⟨_, rfl⟩
   have hn01 : n0 ≤ n1 := by rw [hn1]; exact (Nat.le_trans Z0 KC21.1)
   have f22 := (f18.ext E21)
   have lt_b3 : b3 < n1 := by rw [hn1]; exact f22.lt
   have f23 := (f19.ext E21)
   have lt_b8 : b8 < n1 := by rw [hn1]; exact f23.lt
   have f24 := (f20.ext E21)
   have lt_b14 : b14 < n1 := by rw [hn1]; exact f24.lt
   have f25 := (V17.ext E21)
   have lt_b17 : b17 < n1 := by rw [hn1]; exact f25.lt
   have lt_b21 : b21 < n1 := by rw [hn1]; exact V21.lt
   obtain ⟨lt, hlt_0, hlt_1, hlt_2, hlt_3, BJ26⟩ : ∃ f : Int32 → Int64, f 0 = u1 ∧ f 1 = u2 ∧ f 2 = u3 ∧ f 3 = u4 ∧ own_Fj Z h21 b3 (4 : Int32) f := ⟨_, rfl, rfl, rfl, rfl, own_Fj.of_arv (es := [u1, u2, u3, u4]) f22 rfl⟩
   obtain ⟨lp0, hlp0_0, hlp0_1, hlp0_2, hlp0_3, BJ27⟩ : ∃ f : Int32 → Int64, f 0 = v1 ∧ f 1 = v2 ∧ f 2 = v3 ∧ f 3 = v4 ∧ own_Fj Z h21 b8 (4 : Int32) f := ⟨_, rfl, rfl, rfl, rfl, own_Fj.of_arv (es := [v1, v2, v3, v4]) f23 rfl⟩
   have BB28 := B14
   have f29 := ((BB28.ext E17).ext E21)
   refine nO C X u (waJ C.w) (waU C.w) (wa5 C.w) at_311 fun _ h30 b30 g30 X u E30 A30 D30 => ?_
   have KC30 : Keep h0 h30 [] := KC21.ext E30
   have SK30 := SK21.ext E30
   have bo_b30 : h0.size ≤ b30 := by rw [g30]; exact KC21.1
   have ge_b30 : n0 ≤ b30 := by rw [g30]; exact (Nat.le_trans Z0 KC21.1)
   have ne_b17_b30 : b17 ≠ b30 := Nat.ne_of_lt (by rw [g30]; exact f25.lt)
   have ne_b21_b30 : b21 ≠ b30 := Nat.ne_of_lt (by rw [g30]; exact V21.lt)
   have ne_b3_b30 : b3 ≠ b30 := Nat.ne_of_lt (by rw [g30]; exact BJ26.lt)
   have ne_b8_b30 : b8 ≠ b30 := Nat.ne_of_lt (by rw [g30]; exact BJ27.lt)
   have ne_b14_b30 : b14 ≠ b30 := Nat.ne_of_lt (by rw [g30]; exact f29.lt)
   have F_times_b30 : Fld Z h30 b30 oL "times" "[J" .null := D30 (Or.inl (wb6 C.w)) (ty := (.array .long)) (by decide)
   have F_froms_b30 : Fld Z h30 b30 oL "froms" "[J" .null := D30 (Or.inl (wb8 C.w)) (ty := (.array .long)) (by decide)
   have F_totals_b30 : Fld Z h30 b30 oL "totals" "[J" .null := D30 (Or.inl (wca C.w)) (ty := (.array .long)) (by decide)
   have F_spans_b30 : Fld Z h30 b30 oL "spans" "[J" .null := D30 (Or.inl (wcc C.w)) (ty := (.array .long)) (by decide)
   have F_entries_b30 : Fld Z h30 b30 oL "entries" "Ljava/util/BitSet;" .null := D30 (Or.inl (wcC C.w)) (ty := (.object oB)) (by decide)
   have F_size_b30 : Fld Z h30 b30 oL "size" "I" (.int 0) := D30 (Or.inl (wcJ C.w)) (ty := .int) (by decide)
   have F_end_b30 : Fld Z h30 b30 oL "end" "I" (.int 0) := D30 (Or.inl (wcM C.w)) (ty := .int) (by decide)
   have F_first_b30 : Fld Z h30 b30 oL "first" "I" (.int 0) := D30 (Or.inl (wc5 C.w)) (ty := .int) (by decide)
   have F_base_b30 : Fld Z h30 b30 oL "base" "J" oZ := D30 (Or.inl (waq C.w)) (ty := .long) (by decide)
   have g1o : n1 ≤ b30 := Nat.le_of_eq (hn1.trans g30.symm)
   refine sD C X at_314 ?_
   refine cI C X u (rm3 l Z a0 hw b30 h30  h30 n1 (Nat.le_trans g1o (Nat.le_of_lt A30.lt)) A30 F_times_b30 F_froms_b30 F_totals_b30 F_spans_b30 F_entries_b30 F_size_b30 F_end_b30 F_first_b30 F_base_b30 (own_Lo.refl _ _) g1o (SK30 _ _ _ _ Sta0)) (W := 1) (wbg C.w) (wbr C.w) (wbC C.w) (wa5 C.w) (argsL := []) (lenOf pas rfl) at_315 fun _ T31 _ X hQ31 => ?_
   obtain ⟨h31, u⟩ : ∃ h', T31.heap = h' := ⟨_, rfl⟩
   rw [u] at hQ31
   obtain ⟨rfl, Nq31, G31⟩ := hQ31
   have Lo31 := G31.lo.1
   refine wa C X #[oJ q0, oD, oJ q1, oD, oI i2, oI i3, oJ q4, oD, oI i5, oJ u1, oD, oJ u2, oD, oJ u3, oD, oJ u4, oD, oJ v1, oD, oJ v2, oD, oJ v3, oD, oJ v4, oD, oI z1, oI z2, oI z3, oI z4, oI z5, oI z6, oI z7, oJ dt, oD, oJ qq, oD, oR b3, oR b8, oR b14, oR b17, oR b21, oR b30, oU, oU, oU, oU] at_318 ?_
   refine sC C X at_320 ?_
   refine wi C X (oF q0 q1 i2 i3 q4 i5 u1 u2 u3 u4 v1 v2 v3 v4 z1 z2 z3 z4 z5 z6 z7 dt qq b3 b8 b14 b17 b21 b30 (-1 : Int32) oU oU oU) at_321 ?_
   have hP0 : ([] : List (Int64 × Int64)) = own_pe (fun _ => (0 : Int32)) lt lp0 := by simp [own_pe]
   have hw0 : own_nw (fun _ => (0 : Int32)) (-1) 0 := Or.inl ⟨rfl, rfl, rfl, rfl, rfl⟩
   have s01 : lt (0 : Int32) ≤ lt (1 : Int32) := by rw [hlt_0, hlt_1, Int64.le_iff_toInt_le]; omega
   have s12 : lt (1 : Int32) ≤ lt (2 : Int32) := by rw [hlt_1, hlt_2, Int64.le_iff_toInt_le]; omega
   have s23 : lt (2 : Int32) ≤ lt (3 : Int32) := by rw [hlt_2, hlt_3, Int64.le_iff_toInt_le]; omega
   have s02 := Int64.le_trans s01 s12
   have s13 := Int64.le_trans s12 s23
   have s03 := Int64.le_trans s02 s23
   have hn0 : own_near u1 (lt (0 : Int32)) := by rw [hlt_0]; exact ⟨by omega, by omega, by omega⟩
   have hn1 : own_near u1 (lt (1 : Int32)) := by rw [hlt_1]; exact ⟨by omega, by omega, by omega⟩
   have hn2 : own_near u1 (lt (2 : Int32)) := by rw [hlt_2]; exact ⟨by omega, by omega, by omega⟩
   have hn3 : own_near u1 (lt (3 : Int32)) := by rw [hlt_3]; exact ⟨by omega, by omega, by omega⟩
   have B752 : ∀ (T : State) (h : Heap) (lo : List Loc) (nw k : Int32) (b : Int64) (mm : Int32) (PE : List (Int64 × Int64)) (c1 c2 c3 c4 d1 d2 d3 d4 : Int64) (s44 : Slot), Stand p l e room_1 s m #[(.long q0), (.long q1), (.int i2), (.int i3), (.long q4), (.int i5)] below meth c T lo 36 209 → T.heap = h → Fr n0 lo → Arv Z h b17 k17 .long (4 : Int32) [(.long c1), (.long c2), (.long c3), (.long c4)] oZ → Arv Z h b21 k21 .long (4 : Int32) [(.long d1), (.long d2), (.long d3), (.long d4)] oZ → own_LS Z h n1 b30 b PE mm → (s44 = oU ∨ ∃ i, s44 = oI i) → (∀ x, own_TL qq b x mm PE → x = ((((own_ag k (0 : Int32) qq c1 d1) + (own_ag k (1 : Int32) qq c2 d2)) + (own_ag k (2 : Int32) qq c3 d3)) + (own_ag k (3 : Int32) qq c4 d4))) → own_Fin p e below (own_E room_1 s below (fun v h L => v = some (.int 1) ∧ Fr n0 L)) T (mkF m 752 (oF q0 q1 i2 i3 q4 i5 u1 u2 u3 u4 v1 v2 v3 v4 z1 z2 z3 z4 z5 z6 z7 dt qq b3 b8 b14 b17 b21 b30 nw (oI k) s44 oU) []) := by
     intro T h lo nw k b mm PE c1 c2 c3 c4 d1 d2 d3 d4 s44 X u N VC VD I hs44 hF
     refine sa C X at_752 ?_
     refine sa C X at_754 ?_
     refine si C X at_756 ?_
     refine sC C X at_758 ?_
     refine sl C X at_759 ?_
     refine cS C X u (rm_af l Z a0 hw b17 b21 k17 k21 [(.long c1), (.long c2), (.long c3), (.long c4)] [(.long d1), (.long d2), (.long d3), (.long d4)] k (0 : Int32) qq c1 d1  h n0 (Nat.le_trans hn01 (Nat.le_trans g1o (Nat.le_of_lt I.ex.lt))) VC VD (by decide) rfl rfl) (W := 0) (waQ C.w) (waR C.w) (waS C.w) (waO C.w) (argsL := [(.ref b17), (.ref b21), (.int k), (.int 0), (.long qq)]) (lenOf paq rfl) at_761 fun _ T32 _ X hQ32 => ?_
     obtain ⟨rfl, Nq32, u⟩ := hQ32
     refine sa C X at_764 ?_
     refine sa C X at_766 ?_
     refine si C X at_768 ?_
     refine sC C X at_770 ?_
     refine sl C X at_771 ?_
     refine cS C X u (rm_af l Z a0 hw b17 b21 k17 k21 [(.long c1), (.long c2), (.long c3), (.long c4)] [(.long d1), (.long d2), (.long d3), (.long d4)] k (1 : Int32) qq c2 d2  h n0 (Nat.le_trans hn01 (Nat.le_trans g1o (Nat.le_of_lt I.ex.lt))) VC VD (by decide) rfl rfl) (W := 2) (waQ C.w) (waR C.w) (waS C.w) (waO C.w) (argsL := [(.ref b17), (.ref b21), (.int k), (.int 1), (.long qq)]) (lenOf paq rfl) at_773 fun _ T33 _ X hQ33 => ?_
     obtain ⟨rfl, Nq33, u⟩ := hQ33
     refine tP C X at_776 ?_
     refine sa C X at_777 ?_
     refine sa C X at_779 ?_
     refine si C X at_781 ?_
     refine sC C X at_783 ?_
     refine sl C X at_784 ?_
     refine cS C X u (rm_af l Z a0 hw b17 b21 k17 k21 [(.long c1), (.long c2), (.long c3), (.long c4)] [(.long d1), (.long d2), (.long d3), (.long d4)] k (2 : Int32) qq c3 d3  h n0 (Nat.le_trans hn01 (Nat.le_trans g1o (Nat.le_of_lt I.ex.lt))) VC VD (by decide) rfl rfl) (W := 2) (waQ C.w) (waR C.w) (waS C.w) (waO C.w) (argsL := [(.ref b17), (.ref b21), (.int k), (.int 2), (.long qq)]) (lenOf paq rfl) at_786 fun _ T34 _ X hQ34 => ?_
     obtain ⟨rfl, Nq34, u⟩ := hQ34
     refine tP C X at_789 ?_
     refine sa C X at_790 ?_
     refine sa C X at_792 ?_
     refine si C X at_794 ?_
     refine sC C X at_796 ?_
     refine sl C X at_797 ?_
     refine cS C X u (rm_af l Z a0 hw b17 b21 k17 k21 [(.long c1), (.long c2), (.long c3), (.long c4)] [(.long d1), (.long d2), (.long d3), (.long d4)] k (3 : Int32) qq c4 d4  h n0 (Nat.le_trans hn01 (Nat.le_trans g1o (Nat.le_of_lt I.ex.lt))) VC VD (by decide) rfl rfl) (W := 2) (waQ C.w) (waR C.w) (waS C.w) (waO C.w) (argsL := [(.ref b17), (.ref b21), (.int k), (.int 3), (.long qq)]) (lenOf paq rfl) at_799 fun _ T35 _ X hQ35 => ?_
     obtain ⟨rfl, Nq35, u⟩ := hQ35
     refine tP C X at_802 ?_
     refine wl C X (oF q0 q1 i2 i3 q4 i5 u1 u2 u3 u4 v1 v2 v3 v4 z1 z2 z3 z4 z5 z6 z7 dt qq b3 b8 b14 b17 b21 b30 nw (oI k) (oJ ((((own_ag k (0 : Int32) qq c1 d1) + (own_ag k (1 : Int32) qq c2 d2)) + (own_ag k (2 : Int32) qq c3 d3)) + (own_ag k (3 : Int32) qq c4 d4))) oD) at_803 ?_ (hl := by rcases hs44 with rfl | ⟨i, rfl⟩ <;> rfl)
     refine sa C X at_805 ?_
     refine sl C X at_807 ?_
     refine cV C X u (own_tk l Z a0 hw b30 qq b PE mm  h n1 (Nat.le_trans g1o (Nat.le_of_lt I.ex.lt)) I) I.ex (W := 0) (waT C.w) (waV C.w) (waX C.w) (waW C.w) (waY C.w) (wa5 C.w) (argsL := [(.long qq)]) (lenOf pal rfl) at_809 fun _ T36 _ X hQ36 => ?_
     obtain ⟨⟨x, rfl, hT⟩, Nq36, u⟩ := hQ36
     refine sl C X at_812 ?_
     refine tC C X at_814 ?_
     refine bN C X at_815 ((if0 _ _).trans (teq ((lw_eq _ _).mpr (hF x hT))).2) ?_
     refine sC C X at_818 ?_
     refine sG C X at_819 823 ?_
     exact rN C X u (t := .boolean) (by simp) hret at_823 ⟨rfl, (((((N.app Nq32).app Nq33).app Nq34).app Nq35).app (own_Frm Nq36 hn01))⟩
   have B645_0 : ∀ (T : State) (h : Heap) (lo : List Loc) (nw : Int32) (b : Int64) (mm : Int32), Stand p l e room_1 s m #[(.long q0), (.long q1), (.int i2), (.int i3), (.long q4), (.int i5)] below meth c T lo 36 209 → T.heap = h → Fr n0 lo → Arv Z h b17 k17 .long (4 : Int32) [oZ, oZ, oZ, oZ] oZ → Arv Z h b21 k21 .long (4 : Int32) [oZ, oZ, oZ, oZ] oZ → own_LS Z h n1 b30 b [] mm → ((z7 = 0 ∧ mm = 0) ∨ (¬ z7 = 0 ∧ own_bst mm [])) → own_Fin p e below (own_E room_1 s below (fun v h L => v = some (.int 1) ∧ Fr n0 L)) T (mkF m 645 (oF q0 q1 i2 i3 q4 i5 u1 u2 u3 u4 v1 v2 v3 v4 z1 z2 z3 z4 z5 z6 z7 dt qq b3 b8 b14 b17 b21 b30 nw (oI (0 : Int32)) oU oU) []) := by
     intro T h lo nw b mm  X u N VC VD I hm
     rcases hm with ⟨hz, rfl⟩ | ⟨hz, rfl⟩
     · skip
       refine si C X at_645 ?_
       refine bY C X at_647 752 ((if0 _ _).trans (teq hz).1) ?_
       exact B752 _ _ _ _ _ _ _ _ _ _ _ _ _ _ _ _ (oU) X u N VC VD I (Or.inl rfl) (fun x hx => by rw [own_agN (k := (0 : Int32)) (j := (0 : Int32)) (by decide), own_agN (k := (0 : Int32)) (j := (1 : Int32)) (by decide), own_agN (k := (0 : Int32)) (j := (2 : Int32)) (by decide), own_agN (k := (0 : Int32)) (j := (3 : Int32)) (by decide)]; exact (show x = 0 from hx).trans (by decide))
     · skip
       refine si C X at_645 ?_
       refine bN C X at_647 ((if0 _ _).trans (feq hz).1) ?_
       refine si C X at_650 ?_
       refine sC C X at_652 ?_
       refine cY C X at_653 752 (by decide) ?_
       exact B752 _ _ _ _ _ _ _ _ _ _ _ _ _ _ _ _ (oU) X u N VC VD I (Or.inl rfl) (fun x hx => by rw [own_agN (k := (0 : Int32)) (j := (0 : Int32)) (by decide), own_agN (k := (0 : Int32)) (j := (1 : Int32)) (by decide), own_agN (k := (0 : Int32)) (j := (2 : Int32)) (by decide), own_agN (k := (0 : Int32)) (j := (3 : Int32)) (by decide)]; exact (show x = 0 from hx).trans (by decide))
   have B645_1 : ∀ (T : State) (h : Heap) (lo : List Loc) (nw : Int32) (b : Int64) (mm : Int32) (t1 p1 : Int64), Stand p l e room_1 s m #[(.long q0), (.long q1), (.int i2), (.int i3), (.long q4), (.int i5)] below meth c T lo 36 209 → T.heap = h → Fr n0 lo → Arv Z h b17 k17 .long (4 : Int32) [(.long t1), oZ, oZ, oZ] oZ → Arv Z h b21 k21 .long (4 : Int32) [(.long p1), oZ, oZ, oZ] oZ → own_LS Z h n1 b30 b [(t1, p1)] mm → ((z7 = 0 ∧ mm = 0) ∨ (¬ z7 = 0 ∧ own_bst mm [(t1, p1)])) → own_Fin p e below (own_E room_1 s below (fun v h L => v = some (.int 1) ∧ Fr n0 L)) T (mkF m 645 (oF q0 q1 i2 i3 q4 i5 u1 u2 u3 u4 v1 v2 v3 v4 z1 z2 z3 z4 z5 z6 z7 dt qq b3 b8 b14 b17 b21 b30 nw (oI (1 : Int32)) oU oU) []) := by
     intro T h lo nw b mm t1 p1 X u N VC VD I hm
     rcases hm with ⟨hz, rfl⟩ | ⟨hz, rfl⟩
     · skip
       refine si C X at_645 ?_
       refine bY C X at_647 752 ((if0 _ _).trans (teq hz).1) ?_
       exact B752 _ _ _ _ _ _ _ _ _ _ _ _ _ _ _ _ (oU) X u N VC VD I (Or.inl rfl) (fun x hx => by rw [own_agP (k := (1 : Int32)) (j := (0 : Int32)) (by decide), own_agN (k := (1 : Int32)) (j := (1 : Int32)) (by decide), own_agN (k := (1 : Int32)) (j := (2 : Int32)) (by decide), own_agN (k := (1 : Int32)) (j := (3 : Int32)) (by decide)]; exact own_f_1_0 (own_TL1_0 hx))
     · skip
       refine si C X at_645 ?_
       refine bN C X at_647 ((if0 _ _).trans (feq hz).1) ?_
       refine si C X at_650 ?_
       refine sC C X at_652 ?_
       refine cY C X at_653 752 (by decide) ?_
       exact B752 _ _ _ _ _ _ _ _ _ _ _ _ _ _ _ _ (oU) X u N VC VD I (Or.inl rfl) (fun x hx => by rw [own_agP (k := (1 : Int32)) (j := (0 : Int32)) (by decide), own_agN (k := (1 : Int32)) (j := (1 : Int32)) (by decide), own_agN (k := (1 : Int32)) (j := (2 : Int32)) (by decide), own_agN (k := (1 : Int32)) (j := (3 : Int32)) (by decide)]; exact own_f_1_0 (own_TL1_0 hx))
   have B645_2 : ∀ (T : State) (h : Heap) (lo : List Loc) (nw : Int32) (b : Int64) (mm : Int32) (t1 t2 p1 p2 : Int64), Stand p l e room_1 s m #[(.long q0), (.long q1), (.int i2), (.int i3), (.long q4), (.int i5)] below meth c T lo 36 209 → T.heap = h → Fr n0 lo → Arv Z h b17 k17 .long (4 : Int32) [(.long t1), (.long t2), oZ, oZ] oZ → Arv Z h b21 k21 .long (4 : Int32) [(.long p1), (.long p2), oZ, oZ] oZ → own_LS Z h n1 b30 b [(t1, p1), (t2, p2)] mm → ((z7 = 0 ∧ mm = 0) ∨ (¬ z7 = 0 ∧ own_bst mm [(t1, p1), (t2, p2)])) → t1 ≤ t2 → own_Fin p e below (own_E room_1 s below (fun v h L => v = some (.int 1) ∧ Fr n0 L)) T (mkF m 645 (oF q0 q1 i2 i3 q4 i5 u1 u2 u3 u4 v1 v2 v3 v4 z1 z2 z3 z4 z5 z6 z7 dt qq b3 b8 b14 b17 b21 b30 nw (oI (2 : Int32)) oU oU) []) := by
     intro T h lo nw b mm t1 t2 p1 p2 X u N VC VD I hm sq1
     rcases hm with ⟨hz, rfl⟩ | ⟨hz, rfl⟩
     · skip
       refine si C X at_645 ?_
       refine bY C X at_647 752 ((if0 _ _).trans (teq hz).1) ?_
       exact B752 _ _ _ _ _ _ _ _ _ _ _ _ _ _ _ _ (oU) X u N VC VD I (Or.inl rfl) (fun x hx => by rw [own_agP (k := (2 : Int32)) (j := (0 : Int32)) (by decide), own_agP (k := (2 : Int32)) (j := (1 : Int32)) (by decide), own_agN (k := (2 : Int32)) (j := (2 : Int32)) (by decide), own_agN (k := (2 : Int32)) (j := (3 : Int32)) (by decide)]; exact own_f_2_0 sq1 (own_TL2_0 hx))
     · skip
       refine si C X at_645 ?_
       refine bN C X at_647 ((if0 _ _).trans (feq hz).1) ?_
       refine si C X at_650 ?_
       refine sC C X at_652 ?_
       refine cN C X at_653 (by decide) ?_
       refine sC C X at_656 ?_
       refine wi C X (oF q0 q1 i2 i3 q4 i5 u1 u2 u3 u4 v1 v2 v3 v4 z1 z2 z3 z4 z5 z6 z7 dt qq b3 b8 b14 b17 b21 b30 nw (oI (2 : Int32)) (oI (1 : Int32)) oU) at_657 ?_
       refine si C X at_659 ?_
       refine sC C X at_661 ?_
       refine cY C X at_662 694 (by decide) ?_
       refine si C X at_694 ?_
       refine sC C X at_696 ?_
       refine cY C X at_697 729 (by decide) ?_
       refine sa C X at_729 ?_
       refine si C X at_731 ?_
       refine sW C X at_733 ?_
       refine lA C X u VD (v := (.long p2)) at_734 ?_
       refine sa C X at_735 ?_
       refine si C X at_737 ?_
       refine sC C X at_739 ?_
       refine sS C X at_740 ?_
       refine lA C X u VD (v := (.long p1)) at_741 ?_
       refine tP C X at_742 ?_
       refine sJ C X u N ge_b21 VD _ at_743 fun _ h37 _ X u N W37 V37 => ?_
       refine sa C X at_744 ?_
       refine si C X at_746 ?_
       refine sC C X at_748 ?_
       refine sS C X at_749 ?_
       refine tK C X at_750 ?_
       refine sJ C X u N ge_b21 V37 _ at_751 fun _ h38 _ X u N W38 V38 => ?_
       have f39 := ((VC.other W37 ne_b17_b21).other W38 ne_b17_b21)
       have I40 := I.hi (((own_Hi.refl Z n1 h).wr W37 lt_b21).wr W38 lt_b21)
       exact B752 _ _ _ _ _ _ _ _ _ _ _ _ _ _ _ _ (oI (1 : Int32)) X u N f39 V38 I40 (Or.inr ⟨_, rfl⟩) (fun x hx => by rw [own_agP (k := (2 : Int32)) (j := (0 : Int32)) (by decide), own_agP (k := (2 : Int32)) (j := (1 : Int32)) (by decide), own_agN (k := (2 : Int32)) (j := (2 : Int32)) (by decide), own_agN (k := (2 : Int32)) (j := (3 : Int32)) (by decide)]; exact own_f_2_1 sq1 (own_TL2_1 hx))
   have B645_3 : ∀ (T : State) (h : Heap) (lo : List Loc) (nw : Int32) (b : Int64) (mm : Int32) (t1 t2 t3 p1 p2 p3 : Int64), Stand p l e room_1 s m #[(.long q0), (.long q1), (.int i2), (.int i3), (.long q4), (.int i5)] below meth c T lo 36 209 → T.heap = h → Fr n0 lo → Arv Z h b17 k17 .long (4 : Int32) [(.long t1), (.long t2), (.long t3), oZ] oZ → Arv Z h b21 k21 .long (4 : Int32) [(.long p1), (.long p2), (.long p3), oZ] oZ → own_LS Z h n1 b30 b [(t1, p1), (t2, p2), (t3, p3)] mm → ((z7 = 0 ∧ mm = 0) ∨ (¬ z7 = 0 ∧ own_bst mm [(t1, p1), (t2, p2), (t3, p3)])) → t1 ≤ t2 → t2 ≤ t3 → own_Fin p e below (own_E room_1 s below (fun v h L => v = some (.int 1) ∧ Fr n0 L)) T (mkF m 645 (oF q0 q1 i2 i3 q4 i5 u1 u2 u3 u4 v1 v2 v3 v4 z1 z2 z3 z4 z5 z6 z7 dt qq b3 b8 b14 b17 b21 b30 nw (oI (3 : Int32)) oU oU) []) := by
     intro T h lo nw b mm t1 t2 t3 p1 p2 p3 X u N VC VD I hm sq1 sq2
     rcases hm with ⟨hz, rfl⟩ | ⟨hz, ⟨rfl, g1⟩ | ⟨rfl, g1⟩⟩
     · skip
       refine si C X at_645 ?_
       refine bY C X at_647 752 ((if0 _ _).trans (teq hz).1) ?_
       exact B752 _ _ _ _ _ _ _ _ _ _ _ _ _ _ _ _ (oU) X u N VC VD I (Or.inl rfl) (fun x hx => by rw [own_agP (k := (3 : Int32)) (j := (0 : Int32)) (by decide), own_agP (k := (3 : Int32)) (j := (1 : Int32)) (by decide), own_agP (k := (3 : Int32)) (j := (2 : Int32)) (by decide), own_agN (k := (3 : Int32)) (j := (3 : Int32)) (by decide)]; exact own_f_3_0 sq1 sq2 (own_TL3_0 hx))
     · skip
       refine si C X at_645 ?_
       refine bN C X at_647 ((if0 _ _).trans (feq hz).1) ?_
       refine si C X at_650 ?_
       refine sC C X at_652 ?_
       refine cN C X at_653 (by decide) ?_
       refine sC C X at_656 ?_
       refine wi C X (oF q0 q1 i2 i3 q4 i5 u1 u2 u3 u4 v1 v2 v3 v4 z1 z2 z3 z4 z5 z6 z7 dt qq b3 b8 b14 b17 b21 b30 nw (oI (3 : Int32)) (oI (1 : Int32)) oU) at_657 ?_
       refine si C X at_659 ?_
       refine sC C X at_661 ?_
       refine cN C X at_662 (by decide) ?_
       refine sa C X at_665 ?_
       refine sC C X at_667 ?_
       refine lA C X u VC (v := (.long t3)) at_668 ?_
       refine sa C X at_669 ?_
       refine sC C X at_671 ?_
       refine lA C X u VC (v := (.long t2)) at_672 ?_
       refine tS C X at_673 ?_
       refine sa C X at_674 ?_
       refine si C X at_676 ?_
       refine lA C X u VC (v := (.long t2)) at_678 ?_
       refine sa C X at_679 ?_
       refine si C X at_681 ?_
       refine sC C X at_683 ?_
       refine sS C X at_684 ?_
       refine lA C X u VC (v := (.long t1)) at_685 ?_
       refine tS C X at_686 ?_
       refine tC C X at_687 ?_
       refine bY C X at_688 694 ((if0 _ _).trans (flt (fun q => g1 ((lw_lt _ _).mp q))).2.1) ?_
       refine si C X at_694 ?_
       refine sC C X at_696 ?_
       refine cY C X at_697 729 (by decide) ?_
       refine sa C X at_729 ?_
       refine si C X at_731 ?_
       refine sW C X at_733 ?_
       refine lA C X u VD (v := (.long p2)) at_734 ?_
       refine sa C X at_735 ?_
       refine si C X at_737 ?_
       refine sC C X at_739 ?_
       refine sS C X at_740 ?_
       refine lA C X u VD (v := (.long p1)) at_741 ?_
       refine tP C X at_742 ?_
       refine sJ C X u N ge_b21 VD _ at_743 fun _ h41 _ X u N W41 V41 => ?_
       refine sa C X at_744 ?_
       refine si C X at_746 ?_
       refine sC C X at_748 ?_
       refine sS C X at_749 ?_
       refine tK C X at_750 ?_
       refine sJ C X u N ge_b21 V41 _ at_751 fun _ h42 _ X u N W42 V42 => ?_
       have f43 := ((VC.other W41 ne_b17_b21).other W42 ne_b17_b21)
       have I44 := I.hi (((own_Hi.refl Z n1 h).wr W41 lt_b21).wr W42 lt_b21)
       exact B752 _ _ _ _ _ _ _ _ _ _ _ _ _ _ _ _ (oI (1 : Int32)) X u N f43 V42 I44 (Or.inr ⟨_, rfl⟩) (fun x hx => by rw [own_agP (k := (3 : Int32)) (j := (0 : Int32)) (by decide), own_agP (k := (3 : Int32)) (j := (1 : Int32)) (by decide), own_agP (k := (3 : Int32)) (j := (2 : Int32)) (by decide), own_agN (k := (3 : Int32)) (j := (3 : Int32)) (by decide)]; exact own_f_3_1 sq1 sq2 (own_TL3_1 hx))
     · skip
       refine si C X at_645 ?_
       refine bN C X at_647 ((if0 _ _).trans (feq hz).1) ?_
       refine si C X at_650 ?_
       refine sC C X at_652 ?_
       refine cN C X at_653 (by decide) ?_
       refine sC C X at_656 ?_
       refine wi C X (oF q0 q1 i2 i3 q4 i5 u1 u2 u3 u4 v1 v2 v3 v4 z1 z2 z3 z4 z5 z6 z7 dt qq b3 b8 b14 b17 b21 b30 nw (oI (3 : Int32)) (oI (1 : Int32)) oU) at_657 ?_
       refine si C X at_659 ?_
       refine sC C X at_661 ?_
       refine cN C X at_662 (by decide) ?_
       refine sa C X at_665 ?_
       refine sC C X at_667 ?_
       refine lA C X u VC (v := (.long t3)) at_668 ?_
       refine sa C X at_669 ?_
       refine sC C X at_671 ?_
       refine lA C X u VC (v := (.long t2)) at_672 ?_
       refine tS C X at_673 ?_
       refine sa C X at_674 ?_
       refine si C X at_676 ?_
       refine lA C X u VC (v := (.long t2)) at_678 ?_
       refine sa C X at_679 ?_
       refine si C X at_681 ?_
       refine sC C X at_683 ?_
       refine sS C X at_684 ?_
       refine lA C X u VC (v := (.long t1)) at_685 ?_
       refine tS C X at_686 ?_
       refine tC C X at_687 ?_
       refine bN C X at_688 ((if0 _ _).trans (tlt ((lw_lt _ _).mpr g1)).2.1) ?_
       refine sC C X at_691 ?_
       refine wi C X (oF q0 q1 i2 i3 q4 i5 u1 u2 u3 u4 v1 v2 v3 v4 z1 z2 z3 z4 z5 z6 z7 dt qq b3 b8 b14 b17 b21 b30 nw (oI (3 : Int32)) (oI (2 : Int32)) oU) at_692 ?_
       refine si C X at_694 ?_
       refine sC C X at_696 ?_
       refine cY C X at_697 729 (by decide) ?_
       refine sa C X at_729 ?_
       refine si C X at_731 ?_
       refine sW C X at_733 ?_
       refine lA C X u VD (v := (.long p3)) at_734 ?_
       refine sa C X at_735 ?_
       refine si C X at_737 ?_
       refine sC C X at_739 ?_
       refine sS C X at_740 ?_
       refine lA C X u VD (v := (.long p2)) at_741 ?_
       refine tP C X at_742 ?_
       refine sJ C X u N ge_b21 VD _ at_743 fun _ h45 _ X u N W45 V45 => ?_
       refine sa C X at_744 ?_
       refine si C X at_746 ?_
       refine sC C X at_748 ?_
       refine sS C X at_749 ?_
       refine tK C X at_750 ?_
       refine sJ C X u N ge_b21 V45 _ at_751 fun _ h46 _ X u N W46 V46 => ?_
       have f47 := ((VC.other W45 ne_b17_b21).other W46 ne_b17_b21)
       have I48 := I.hi (((own_Hi.refl Z n1 h).wr W45 lt_b21).wr W46 lt_b21)
       exact B752 _ _ _ _ _ _ _ _ _ _ _ _ _ _ _ _ (oI (2 : Int32)) X u N f47 V46 I48 (Or.inr ⟨_, rfl⟩) (fun x hx => by rw [own_agP (k := (3 : Int32)) (j := (0 : Int32)) (by decide), own_agP (k := (3 : Int32)) (j := (1 : Int32)) (by decide), own_agP (k := (3 : Int32)) (j := (2 : Int32)) (by decide), own_agN (k := (3 : Int32)) (j := (3 : Int32)) (by decide)]; exact own_f_3_2 sq1 sq2 (own_TL3_2 hx))
   have B645_4 : ∀ (T : State) (h : Heap) (lo : List Loc) (nw : Int32) (b : Int64) (mm : Int32) (t1 t2 t3 t4 p1 p2 p3 p4 : Int64), Stand p l e room_1 s m #[(.long q0), (.long q1), (.int i2), (.int i3), (.long q4), (.int i5)] below meth c T lo 36 209 → T.heap = h → Fr n0 lo → Arv Z h b17 k17 .long (4 : Int32) [(.long t1), (.long t2), (.long t3), (.long t4)] oZ → Arv Z h b21 k21 .long (4 : Int32) [(.long p1), (.long p2), (.long p3), (.long p4)] oZ → own_LS Z h n1 b30 b [(t1, p1), (t2, p2), (t3, p3), (t4, p4)] mm → ((z7 = 0 ∧ mm = 0) ∨ (¬ z7 = 0 ∧ own_bst mm [(t1, p1), (t2, p2), (t3, p3), (t4, p4)])) → t1 ≤ t2 → t2 ≤ t3 → t3 ≤ t4 → own_Fin p e below (own_E room_1 s below (fun v h L => v = some (.int 1) ∧ Fr n0 L)) T (mkF m 645 (oF q0 q1 i2 i3 q4 i5 u1 u2 u3 u4 v1 v2 v3 v4 z1 z2 z3 z4 z5 z6 z7 dt qq b3 b8 b14 b17 b21 b30 nw (oI (4 : Int32)) oU oU) []) := by
     intro T h lo nw b mm t1 t2 t3 t4 p1 p2 p3 p4 X u N VC VD I hm sq1 sq2 sq3
     rcases hm with ⟨hz, rfl⟩ | ⟨hz, ⟨rfl, g1, g2⟩ | ⟨rfl, g1, g2⟩ | ⟨rfl, ⟨g1, g2⟩ | ⟨g1, g2⟩⟩⟩
     · skip
       refine si C X at_645 ?_
       refine bY C X at_647 752 ((if0 _ _).trans (teq hz).1) ?_
       exact B752 _ _ _ _ _ _ _ _ _ _ _ _ _ _ _ _ (oU) X u N VC VD I (Or.inl rfl) (fun x hx => by rw [own_agP (k := (4 : Int32)) (j := (0 : Int32)) (by decide), own_agP (k := (4 : Int32)) (j := (1 : Int32)) (by decide), own_agP (k := (4 : Int32)) (j := (2 : Int32)) (by decide), own_agP (k := (4 : Int32)) (j := (3 : Int32)) (by decide)]; exact own_f_4_0 sq1 sq2 sq3 (own_TL4_0 hx))
     · skip
       refine si C X at_645 ?_
       refine bN C X at_647 ((if0 _ _).trans (feq hz).1) ?_
       refine si C X at_650 ?_
       refine sC C X at_652 ?_
       refine cN C X at_653 (by decide) ?_
       refine sC C X at_656 ?_
       refine wi C X (oF q0 q1 i2 i3 q4 i5 u1 u2 u3 u4 v1 v2 v3 v4 z1 z2 z3 z4 z5 z6 z7 dt qq b3 b8 b14 b17 b21 b30 nw (oI (4 : Int32)) (oI (1 : Int32)) oU) at_657 ?_
       refine si C X at_659 ?_
       refine sC C X at_661 ?_
       refine cN C X at_662 (by decide) ?_
       refine sa C X at_665 ?_
       refine sC C X at_667 ?_
       refine lA C X u VC (v := (.long t3)) at_668 ?_
       refine sa C X at_669 ?_
       refine sC C X at_671 ?_
       refine lA C X u VC (v := (.long t2)) at_672 ?_
       refine tS C X at_673 ?_
       refine sa C X at_674 ?_
       refine si C X at_676 ?_
       refine lA C X u VC (v := (.long t2)) at_678 ?_
       refine sa C X at_679 ?_
       refine si C X at_681 ?_
       refine sC C X at_683 ?_
       refine sS C X at_684 ?_
       refine lA C X u VC (v := (.long t1)) at_685 ?_
       refine tS C X at_686 ?_
       refine tC C X at_687 ?_
       refine bY C X at_688 694 ((if0 _ _).trans (flt (fun q => g1 ((lw_lt _ _).mp q))).2.1) ?_
       refine si C X at_694 ?_
       refine sC C X at_696 ?_
       refine cN C X at_697 (by decide) ?_
       refine sa C X at_700 ?_
       refine sC C X at_702 ?_
       refine lA C X u VC (v := (.long t4)) at_703 ?_
       refine sa C X at_704 ?_
       refine sC C X at_706 ?_
       refine lA C X u VC (v := (.long t3)) at_707 ?_
       refine tS C X at_708 ?_
       refine sa C X at_709 ?_
       refine si C X at_711 ?_
       refine lA C X u VC (v := (.long t2)) at_713 ?_
       refine sa C X at_714 ?_
       refine si C X at_716 ?_
       refine sC C X at_718 ?_
       refine sS C X at_719 ?_
       refine lA C X u VC (v := (.long t1)) at_720 ?_
       refine tS C X at_721 ?_
       refine tC C X at_722 ?_
       refine bY C X at_723 729 ((if0 _ _).trans (flt (fun q => g2 ((lw_lt _ _).mp q))).2.1) ?_
       refine sa C X at_729 ?_
       refine si C X at_731 ?_
       refine sW C X at_733 ?_
       refine lA C X u VD (v := (.long p2)) at_734 ?_
       refine sa C X at_735 ?_
       refine si C X at_737 ?_
       refine sC C X at_739 ?_
       refine sS C X at_740 ?_
       refine lA C X u VD (v := (.long p1)) at_741 ?_
       refine tP C X at_742 ?_
       refine sJ C X u N ge_b21 VD _ at_743 fun _ h49 _ X u N W49 V49 => ?_
       refine sa C X at_744 ?_
       refine si C X at_746 ?_
       refine sC C X at_748 ?_
       refine sS C X at_749 ?_
       refine tK C X at_750 ?_
       refine sJ C X u N ge_b21 V49 _ at_751 fun _ h50 _ X u N W50 V50 => ?_
       have f51 := ((VC.other W49 ne_b17_b21).other W50 ne_b17_b21)
       have I52 := I.hi (((own_Hi.refl Z n1 h).wr W49 lt_b21).wr W50 lt_b21)
       exact B752 _ _ _ _ _ _ _ _ _ _ _ _ _ _ _ _ (oI (1 : Int32)) X u N f51 V50 I52 (Or.inr ⟨_, rfl⟩) (fun x hx => by rw [own_agP (k := (4 : Int32)) (j := (0 : Int32)) (by decide), own_agP (k := (4 : Int32)) (j := (1 : Int32)) (by decide), own_agP (k := (4 : Int32)) (j := (2 : Int32)) (by decide), own_agP (k := (4 : Int32)) (j := (3 : Int32)) (by decide)]; exact own_f_4_1 sq1 sq2 sq3 (own_TL4_1 hx))
     · skip
       refine si C X at_645 ?_
       refine bN C X at_647 ((if0 _ _).trans (feq hz).1) ?_
       refine si C X at_650 ?_
       refine sC C X at_652 ?_
       refine cN C X at_653 (by decide) ?_
       refine sC C X at_656 ?_
       refine wi C X (oF q0 q1 i2 i3 q4 i5 u1 u2 u3 u4 v1 v2 v3 v4 z1 z2 z3 z4 z5 z6 z7 dt qq b3 b8 b14 b17 b21 b30 nw (oI (4 : Int32)) (oI (1 : Int32)) oU) at_657 ?_
       refine si C X at_659 ?_
       refine sC C X at_661 ?_
       refine cN C X at_662 (by decide) ?_
       refine sa C X at_665 ?_
       refine sC C X at_667 ?_
       refine lA C X u VC (v := (.long t3)) at_668 ?_
       refine sa C X at_669 ?_
       refine sC C X at_671 ?_
       refine lA C X u VC (v := (.long t2)) at_672 ?_
       refine tS C X at_673 ?_
       refine sa C X at_674 ?_
       refine si C X at_676 ?_
       refine lA C X u VC (v := (.long t2)) at_678 ?_
       refine sa C X at_679 ?_
       refine si C X at_681 ?_
       refine sC C X at_683 ?_
       refine sS C X at_684 ?_
       refine lA C X u VC (v := (.long t1)) at_685 ?_
       refine tS C X at_686 ?_
       refine tC C X at_687 ?_
       refine bN C X at_688 ((if0 _ _).trans (tlt ((lw_lt _ _).mpr g1)).2.1) ?_
       refine sC C X at_691 ?_
       refine wi C X (oF q0 q1 i2 i3 q4 i5 u1 u2 u3 u4 v1 v2 v3 v4 z1 z2 z3 z4 z5 z6 z7 dt qq b3 b8 b14 b17 b21 b30 nw (oI (4 : Int32)) (oI (2 : Int32)) oU) at_692 ?_
       refine si C X at_694 ?_
       refine sC C X at_696 ?_
       refine cN C X at_697 (by decide) ?_
       refine sa C X at_700 ?_
       refine sC C X at_702 ?_
       refine lA C X u VC (v := (.long t4)) at_703 ?_
       refine sa C X at_704 ?_
       refine sC C X at_706 ?_
       refine lA C X u VC (v := (.long t3)) at_707 ?_
       refine tS C X at_708 ?_
       refine sa C X at_709 ?_
       refine si C X at_711 ?_
       refine lA C X u VC (v := (.long t3)) at_713 ?_
       refine sa C X at_714 ?_
       refine si C X at_716 ?_
       refine sC C X at_718 ?_
       refine sS C X at_719 ?_
       refine lA C X u VC (v := (.long t2)) at_720 ?_
       refine tS C X at_721 ?_
       refine tC C X at_722 ?_
       refine bY C X at_723 729 ((if0 _ _).trans (flt (fun q => g2 ((lw_lt _ _).mp q))).2.1) ?_
       refine sa C X at_729 ?_
       refine si C X at_731 ?_
       refine sW C X at_733 ?_
       refine lA C X u VD (v := (.long p3)) at_734 ?_
       refine sa C X at_735 ?_
       refine si C X at_737 ?_
       refine sC C X at_739 ?_
       refine sS C X at_740 ?_
       refine lA C X u VD (v := (.long p2)) at_741 ?_
       refine tP C X at_742 ?_
       refine sJ C X u N ge_b21 VD _ at_743 fun _ h53 _ X u N W53 V53 => ?_
       refine sa C X at_744 ?_
       refine si C X at_746 ?_
       refine sC C X at_748 ?_
       refine sS C X at_749 ?_
       refine tK C X at_750 ?_
       refine sJ C X u N ge_b21 V53 _ at_751 fun _ h54 _ X u N W54 V54 => ?_
       have f55 := ((VC.other W53 ne_b17_b21).other W54 ne_b17_b21)
       have I56 := I.hi (((own_Hi.refl Z n1 h).wr W53 lt_b21).wr W54 lt_b21)
       exact B752 _ _ _ _ _ _ _ _ _ _ _ _ _ _ _ _ (oI (2 : Int32)) X u N f55 V54 I56 (Or.inr ⟨_, rfl⟩) (fun x hx => by rw [own_agP (k := (4 : Int32)) (j := (0 : Int32)) (by decide), own_agP (k := (4 : Int32)) (j := (1 : Int32)) (by decide), own_agP (k := (4 : Int32)) (j := (2 : Int32)) (by decide), own_agP (k := (4 : Int32)) (j := (3 : Int32)) (by decide)]; exact own_f_4_2 sq1 sq2 sq3 (own_TL4_2 hx))
     · skip
       refine si C X at_645 ?_
       refine bN C X at_647 ((if0 _ _).trans (feq hz).1) ?_
       refine si C X at_650 ?_
       refine sC C X at_652 ?_
       refine cN C X at_653 (by decide) ?_
       refine sC C X at_656 ?_
       refine wi C X (oF q0 q1 i2 i3 q4 i5 u1 u2 u3 u4 v1 v2 v3 v4 z1 z2 z3 z4 z5 z6 z7 dt qq b3 b8 b14 b17 b21 b30 nw (oI (4 : Int32)) (oI (1 : Int32)) oU) at_657 ?_
       refine si C X at_659 ?_
       refine sC C X at_661 ?_
       refine cN C X at_662 (by decide) ?_
       refine sa C X at_665 ?_
       refine sC C X at_667 ?_
       refine lA C X u VC (v := (.long t3)) at_668 ?_
       refine sa C X at_669 ?_
       refine sC C X at_671 ?_
       refine lA C X u VC (v := (.long t2)) at_672 ?_
       refine tS C X at_673 ?_
       refine sa C X at_674 ?_
       refine si C X at_676 ?_
       refine lA C X u VC (v := (.long t2)) at_678 ?_
       refine sa C X at_679 ?_
       refine si C X at_681 ?_
       refine sC C X at_683 ?_
       refine sS C X at_684 ?_
       refine lA C X u VC (v := (.long t1)) at_685 ?_
       refine tS C X at_686 ?_
       refine tC C X at_687 ?_
       refine bN C X at_688 ((if0 _ _).trans (tlt ((lw_lt _ _).mpr g1)).2.1) ?_
       refine sC C X at_691 ?_
       refine wi C X (oF q0 q1 i2 i3 q4 i5 u1 u2 u3 u4 v1 v2 v3 v4 z1 z2 z3 z4 z5 z6 z7 dt qq b3 b8 b14 b17 b21 b30 nw (oI (4 : Int32)) (oI (2 : Int32)) oU) at_692 ?_
       refine si C X at_694 ?_
       refine sC C X at_696 ?_
       refine cN C X at_697 (by decide) ?_
       refine sa C X at_700 ?_
       refine sC C X at_702 ?_
       refine lA C X u VC (v := (.long t4)) at_703 ?_
       refine sa C X at_704 ?_
       refine sC C X at_706 ?_
       refine lA C X u VC (v := (.long t3)) at_707 ?_
       refine tS C X at_708 ?_
       refine sa C X at_709 ?_
       refine si C X at_711 ?_
       refine lA C X u VC (v := (.long t3)) at_713 ?_
       refine sa C X at_714 ?_
       refine si C X at_716 ?_
       refine sC C X at_718 ?_
       refine sS C X at_719 ?_
       refine lA C X u VC (v := (.long t2)) at_720 ?_
       refine tS C X at_721 ?_
       refine tC C X at_722 ?_
       refine bN C X at_723 ((if0 _ _).trans (tlt ((lw_lt _ _).mpr g2)).2.1) ?_
       refine sC C X at_726 ?_
       refine wi C X (oF q0 q1 i2 i3 q4 i5 u1 u2 u3 u4 v1 v2 v3 v4 z1 z2 z3 z4 z5 z6 z7 dt qq b3 b8 b14 b17 b21 b30 nw (oI (4 : Int32)) (oI (3 : Int32)) oU) at_727 ?_
       refine sa C X at_729 ?_
       refine si C X at_731 ?_
       refine sW C X at_733 ?_
       refine lA C X u VD (v := (.long p4)) at_734 ?_
       refine sa C X at_735 ?_
       refine si C X at_737 ?_
       refine sC C X at_739 ?_
       refine sS C X at_740 ?_
       refine lA C X u VD (v := (.long p3)) at_741 ?_
       refine tP C X at_742 ?_
       refine sJ C X u N ge_b21 VD _ at_743 fun _ h57 _ X u N W57 V57 => ?_
       refine sa C X at_744 ?_
       refine si C X at_746 ?_
       refine sC C X at_748 ?_
       refine sS C X at_749 ?_
       refine tK C X at_750 ?_
       refine sJ C X u N ge_b21 V57 _ at_751 fun _ h58 _ X u N W58 V58 => ?_
       have f59 := ((VC.other W57 ne_b17_b21).other W58 ne_b17_b21)
       have I60 := I.hi (((own_Hi.refl Z n1 h).wr W57 lt_b21).wr W58 lt_b21)
       exact B752 _ _ _ _ _ _ _ _ _ _ _ _ _ _ _ _ (oI (3 : Int32)) X u N f59 V58 I60 (Or.inr ⟨_, rfl⟩) (fun x hx => by rw [own_agP (k := (4 : Int32)) (j := (0 : Int32)) (by decide), own_agP (k := (4 : Int32)) (j := (1 : Int32)) (by decide), own_agP (k := (4 : Int32)) (j := (2 : Int32)) (by decide), own_agP (k := (4 : Int32)) (j := (3 : Int32)) (by decide)]; exact own_f_4_3 sq1 sq2 sq3 (own_TL4_3 hx))
     · skip
       refine si C X at_645 ?_
       refine bN C X at_647 ((if0 _ _).trans (feq hz).1) ?_
       refine si C X at_650 ?_
       refine sC C X at_652 ?_
       refine cN C X at_653 (by decide) ?_
       refine sC C X at_656 ?_
       refine wi C X (oF q0 q1 i2 i3 q4 i5 u1 u2 u3 u4 v1 v2 v3 v4 z1 z2 z3 z4 z5 z6 z7 dt qq b3 b8 b14 b17 b21 b30 nw (oI (4 : Int32)) (oI (1 : Int32)) oU) at_657 ?_
       refine si C X at_659 ?_
       refine sC C X at_661 ?_
       refine cN C X at_662 (by decide) ?_
       refine sa C X at_665 ?_
       refine sC C X at_667 ?_
       refine lA C X u VC (v := (.long t3)) at_668 ?_
       refine sa C X at_669 ?_
       refine sC C X at_671 ?_
       refine lA C X u VC (v := (.long t2)) at_672 ?_
       refine tS C X at_673 ?_
       refine sa C X at_674 ?_
       refine si C X at_676 ?_
       refine lA C X u VC (v := (.long t2)) at_678 ?_
       refine sa C X at_679 ?_
       refine si C X at_681 ?_
       refine sC C X at_683 ?_
       refine sS C X at_684 ?_
       refine lA C X u VC (v := (.long t1)) at_685 ?_
       refine tS C X at_686 ?_
       refine tC C X at_687 ?_
       refine bY C X at_688 694 ((if0 _ _).trans (flt (fun q => g1 ((lw_lt _ _).mp q))).2.1) ?_
       refine si C X at_694 ?_
       refine sC C X at_696 ?_
       refine cN C X at_697 (by decide) ?_
       refine sa C X at_700 ?_
       refine sC C X at_702 ?_
       refine lA C X u VC (v := (.long t4)) at_703 ?_
       refine sa C X at_704 ?_
       refine sC C X at_706 ?_
       refine lA C X u VC (v := (.long t3)) at_707 ?_
       refine tS C X at_708 ?_
       refine sa C X at_709 ?_
       refine si C X at_711 ?_
       refine lA C X u VC (v := (.long t2)) at_713 ?_
       refine sa C X at_714 ?_
       refine si C X at_716 ?_
       refine sC C X at_718 ?_
       refine sS C X at_719 ?_
       refine lA C X u VC (v := (.long t1)) at_720 ?_
       refine tS C X at_721 ?_
       refine tC C X at_722 ?_
       refine bN C X at_723 ((if0 _ _).trans (tlt ((lw_lt _ _).mpr g2)).2.1) ?_
       refine sC C X at_726 ?_
       refine wi C X (oF q0 q1 i2 i3 q4 i5 u1 u2 u3 u4 v1 v2 v3 v4 z1 z2 z3 z4 z5 z6 z7 dt qq b3 b8 b14 b17 b21 b30 nw (oI (4 : Int32)) (oI (3 : Int32)) oU) at_727 ?_
       refine sa C X at_729 ?_
       refine si C X at_731 ?_
       refine sW C X at_733 ?_
       refine lA C X u VD (v := (.long p4)) at_734 ?_
       refine sa C X at_735 ?_
       refine si C X at_737 ?_
       refine sC C X at_739 ?_
       refine sS C X at_740 ?_
       refine lA C X u VD (v := (.long p3)) at_741 ?_
       refine tP C X at_742 ?_
       refine sJ C X u N ge_b21 VD _ at_743 fun _ h61 _ X u N W61 V61 => ?_
       refine sa C X at_744 ?_
       refine si C X at_746 ?_
       refine sC C X at_748 ?_
       refine sS C X at_749 ?_
       refine tK C X at_750 ?_
       refine sJ C X u N ge_b21 V61 _ at_751 fun _ h62 _ X u N W62 V62 => ?_
       have f63 := ((VC.other W61 ne_b17_b21).other W62 ne_b17_b21)
       have I64 := I.hi (((own_Hi.refl Z n1 h).wr W61 lt_b21).wr W62 lt_b21)
       exact B752 _ _ _ _ _ _ _ _ _ _ _ _ _ _ _ _ (oI (3 : Int32)) X u N f63 V62 I64 (Or.inr ⟨_, rfl⟩) (fun x hx => by rw [own_agP (k := (4 : Int32)) (j := (0 : Int32)) (by decide), own_agP (k := (4 : Int32)) (j := (1 : Int32)) (by decide), own_agP (k := (4 : Int32)) (j := (2 : Int32)) (by decide), own_agP (k := (4 : Int32)) (j := (3 : Int32)) (by decide)]; exact own_f_4_3 sq1 sq2 sq3 (own_TL4_3 hx))
   have B530 : ∀ (T : State) (h hB : Heap) (lo : List Loc) (nw : Int32) (lv : Int32 → Int32) (lp : Int32 → Int64) (b : Int64) (PE : List (Int64 × Int64)) (mm : Int32), Stand p l e room_1 s m #[(.long q0), (.long q1), (.int i2), (.int i3), (.long q4), (.int i5)] below meth c T lo 36 209 → T.heap = h → Fr n0 lo → own_Fj Z h b3 (4 : Int32) lt → own_Fj Z h b8 (4 : Int32) lp → own_Fa Z h b14 .boolean (4 : Int32) lv → Arv Z h b17 k17 .long (4 : Int32) [oZ, oZ, oZ, oZ] oZ → Arv Z h b21 k21 .long (4 : Int32) [oZ, oZ, oZ, oZ] oZ → own_LS Z h n1 b30 b PE mm → PE = own_pe lv lt lp → ((z7 = 0 ∧ mm = 0) ∨ (¬ z7 = 0 ∧ own_bst mm PE)) → own_Fin p e below (own_E room_1 s below (fun v h L => v = some (.int 1) ∧ Fr n0 L)) T (mkF m 530 (oF q0 q1 i2 i3 q4 i5 u1 u2 u3 u4 v1 v2 v3 v4 z1 z2 z3 z4 z5 z6 z7 dt qq b3 b8 b14 b17 b21 b30 nw oU oU oU) []) := by
     intro T h hB lo nw lv lp b PE mm X u N BT BP BV VC VD I hP hl
     refine sC C X at_530 ?_
     refine wi C X (oF q0 q1 i2 i3 q4 i5 u1 u2 u3 u4 v1 v2 v3 v4 z1 z2 z3 z4 z5 z6 z7 dt qq b3 b8 b14 b17 b21 b30 nw (oI (0 : Int32)) oU oU) at_531 ?_
     refine sa C X at_533 ?_
     refine sC C X at_535 ?_
     refine fZ C X u BV ⟨by decide, by decide⟩ at_536 ?_
     by_cases hb537_65 : (lv (0 : Int32)) = (0 : Int32)
     · refine bY C X at_537 561 ((if0 _ _).trans (teq hb537_65).1) ?_
       refine sa C X at_561 ?_
       refine sC C X at_563 ?_
       refine fZ C X u BV ⟨by decide, by decide⟩ at_564 ?_
       by_cases hb565_66 : (lv (1 : Int32)) = (0 : Int32)
       · refine bY C X at_565 589 ((if0 _ _).trans (teq hb565_66).1) ?_
         refine sa C X at_589 ?_
         refine sC C X at_591 ?_
         refine fZ C X u BV ⟨by decide, by decide⟩ at_592 ?_
         by_cases hb593_67 : (lv (2 : Int32)) = (0 : Int32)
         · refine bY C X at_593 617 ((if0 _ _).trans (teq hb593_67).1) ?_
           refine sa C X at_617 ?_
           refine sC C X at_619 ?_
           refine fZ C X u BV ⟨by decide, by decide⟩ at_620 ?_
           by_cases hb621_68 : (lv (3 : Int32)) = (0 : Int32)
           · refine bY C X at_621 645 ((if0 _ _).trans (teq hb621_68).1) ?_
             have hE : PE = [] := hP.trans (by unfold own_pe; rw [if_pos hb537_65, if_pos hb565_66, if_pos hb593_67, if_pos hb621_68]; first | done | rfl)
             rw [hE] at I hl
             exact B645_0 _ _ _ _ _ _ X u N VC VD I hl
           · refine bN C X at_621 ((if0 _ _).trans (feq hb621_68).1) ?_
             refine sa C X at_624 ?_
             refine si C X at_626 ?_
             refine sa C X at_628 ?_
             refine sC C X at_630 ?_
             refine fJ C X u BT ⟨by decide, by decide⟩ at_631 ?_
             refine sJ C X u N ge_b17 VC _ at_632 fun _ h69 _ X u N W69 V69 => ?_
             refine sa C X at_633 ?_
             refine si C X at_635 ?_
             refine sa C X at_637 ?_
             refine sC C X at_639 ?_
             have f70 := (BP.other W69 ne_b8_b17)
             refine fJ C X u f70 ⟨by decide, by decide⟩ at_640 ?_
             have f71 := (VD.other W69 ne_b17_b21.symm)
             refine sJ C X u N ge_b21 f71 _ at_641 fun _ h72 _ X u N W72 V72 => ?_
             refine wc C X (oF q0 q1 i2 i3 q4 i5 u1 u2 u3 u4 v1 v2 v3 v4 z1 z2 z3 z4 z5 z6 z7 dt qq b3 b8 b14 b17 b21 b30 nw (oI (1 : Int32)) oU oU) at_642 ?_
             have hE : PE = [(lt (3 : Int32), lp (3 : Int32))] := hP.trans (by unfold own_pe; rw [if_pos hb537_65, if_pos hb565_66, if_pos hb593_67, if_neg hb621_68]; first | done | rfl)
             have f73 := (V69.other W72 ne_b17_b21)
             have I74 := I.hi (((own_Hi.refl Z n1 h).wr W69 lt_b17).wr W72 lt_b21)
             rw [hE] at I74 hl
             exact B645_1 _ _ _ _ _ _ _ _ X u N f73 V72 I74 hl
         · refine bN C X at_593 ((if0 _ _).trans (feq hb593_67).1) ?_
           refine sa C X at_596 ?_
           refine si C X at_598 ?_
           refine sa C X at_600 ?_
           refine sC C X at_602 ?_
           refine fJ C X u BT ⟨by decide, by decide⟩ at_603 ?_
           refine sJ C X u N ge_b17 VC _ at_604 fun _ h75 _ X u N W75 V75 => ?_
           refine sa C X at_605 ?_
           refine si C X at_607 ?_
           refine sa C X at_609 ?_
           refine sC C X at_611 ?_
           have f76 := (BP.other W75 ne_b8_b17)
           refine fJ C X u f76 ⟨by decide, by decide⟩ at_612 ?_
           have f77 := (VD.other W75 ne_b17_b21.symm)
           refine sJ C X u N ge_b21 f77 _ at_613 fun _ h78 _ X u N W78 V78 => ?_
           refine wc C X (oF q0 q1 i2 i3 q4 i5 u1 u2 u3 u4 v1 v2 v3 v4 z1 z2 z3 z4 z5 z6 z7 dt qq b3 b8 b14 b17 b21 b30 nw (oI (1 : Int32)) oU oU) at_614 ?_
           refine sa C X at_617 ?_
           refine sC C X at_619 ?_
           have f79 := ((BV.other W75 ne_b14_b17).other W78 ne_b14_b21)
           refine fZ C X u f79 ⟨by decide, by decide⟩ at_620 ?_
           by_cases hb621_80 : (lv (3 : Int32)) = (0 : Int32)
           · refine bY C X at_621 645 ((if0 _ _).trans (teq hb621_80).1) ?_
             have hE : PE = [(lt (2 : Int32), lp (2 : Int32))] := hP.trans (by unfold own_pe; rw [if_pos hb537_65, if_pos hb565_66, if_neg hb593_67, if_pos hb621_80]; first | done | rfl)
             have f81 := (V75.other W78 ne_b17_b21)
             have I82 := I.hi (((own_Hi.refl Z n1 h).wr W75 lt_b17).wr W78 lt_b21)
             rw [hE] at I82 hl
             exact B645_1 _ _ _ _ _ _ _ _ X u N f81 V78 I82 hl
           · refine bN C X at_621 ((if0 _ _).trans (feq hb621_80).1) ?_
             refine sa C X at_624 ?_
             refine si C X at_626 ?_
             refine sa C X at_628 ?_
             refine sC C X at_630 ?_
             have f83 := ((BT.other W75 ne_b3_b17).other W78 ne_b3_b21)
             refine fJ C X u f83 ⟨by decide, by decide⟩ at_631 ?_
             have f84 := (V75.other W78 ne_b17_b21)
             refine sJ C X u N ge_b17 f84 _ at_632 fun _ h85 _ X u N W85 V85 => ?_
             refine sa C X at_633 ?_
             refine si C X at_635 ?_
             refine sa C X at_637 ?_
             refine sC C X at_639 ?_
             have f86 := ((f76.other W78 ne_b8_b21).other W85 ne_b8_b17)
             refine fJ C X u f86 ⟨by decide, by decide⟩ at_640 ?_
             have f87 := (V78.other W85 ne_b17_b21.symm)
             refine sJ C X u N ge_b21 f87 _ at_641 fun _ h88 _ X u N W88 V88 => ?_
             refine wc C X (oF q0 q1 i2 i3 q4 i5 u1 u2 u3 u4 v1 v2 v3 v4 z1 z2 z3 z4 z5 z6 z7 dt qq b3 b8 b14 b17 b21 b30 nw (oI (2 : Int32)) oU oU) at_642 ?_
             have hE : PE = [(lt (2 : Int32), lp (2 : Int32)), (lt (3 : Int32), lp (3 : Int32))] := hP.trans (by unfold own_pe; rw [if_pos hb537_65, if_pos hb565_66, if_neg hb593_67, if_neg hb621_80]; first | done | rfl)
             have f89 := (V85.other W88 ne_b17_b21)
             have I90 := I.hi (((((own_Hi.refl Z n1 h).wr W75 lt_b17).wr W78 lt_b21).wr W85 lt_b17).wr W88 lt_b21)
             rw [hE] at I90 hl
             exact B645_2 _ _ _ _ _ _ _ _ _ _ X u N f89 V88 I90 hl s23
       · refine bN C X at_565 ((if0 _ _).trans (feq hb565_66).1) ?_
         refine sa C X at_568 ?_
         refine si C X at_570 ?_
         refine sa C X at_572 ?_
         refine sC C X at_574 ?_
         refine fJ C X u BT ⟨by decide, by decide⟩ at_575 ?_
         refine sJ C X u N ge_b17 VC _ at_576 fun _ h91 _ X u N W91 V91 => ?_
         refine sa C X at_577 ?_
         refine si C X at_579 ?_
         refine sa C X at_581 ?_
         refine sC C X at_583 ?_
         have f92 := (BP.other W91 ne_b8_b17)
         refine fJ C X u f92 ⟨by decide, by decide⟩ at_584 ?_
         have f93 := (VD.other W91 ne_b17_b21.symm)
         refine sJ C X u N ge_b21 f93 _ at_585 fun _ h94 _ X u N W94 V94 => ?_
         refine wc C X (oF q0 q1 i2 i3 q4 i5 u1 u2 u3 u4 v1 v2 v3 v4 z1 z2 z3 z4 z5 z6 z7 dt qq b3 b8 b14 b17 b21 b30 nw (oI (1 : Int32)) oU oU) at_586 ?_
         refine sa C X at_589 ?_
         refine sC C X at_591 ?_
         have f95 := ((BV.other W91 ne_b14_b17).other W94 ne_b14_b21)
         refine fZ C X u f95 ⟨by decide, by decide⟩ at_592 ?_
         by_cases hb593_96 : (lv (2 : Int32)) = (0 : Int32)
         · refine bY C X at_593 617 ((if0 _ _).trans (teq hb593_96).1) ?_
           refine sa C X at_617 ?_
           refine sC C X at_619 ?_
           refine fZ C X u f95 ⟨by decide, by decide⟩ at_620 ?_
           by_cases hb621_97 : (lv (3 : Int32)) = (0 : Int32)
           · refine bY C X at_621 645 ((if0 _ _).trans (teq hb621_97).1) ?_
             have hE : PE = [(lt (1 : Int32), lp (1 : Int32))] := hP.trans (by unfold own_pe; rw [if_pos hb537_65, if_neg hb565_66, if_pos hb593_96, if_pos hb621_97]; first | done | rfl)
             have f98 := (V91.other W94 ne_b17_b21)
             have I99 := I.hi (((own_Hi.refl Z n1 h).wr W91 lt_b17).wr W94 lt_b21)
             rw [hE] at I99 hl
             exact B645_1 _ _ _ _ _ _ _ _ X u N f98 V94 I99 hl
           · refine bN C X at_621 ((if0 _ _).trans (feq hb621_97).1) ?_
             refine sa C X at_624 ?_
             refine si C X at_626 ?_
             refine sa C X at_628 ?_
             refine sC C X at_630 ?_
             have f100 := ((BT.other W91 ne_b3_b17).other W94 ne_b3_b21)
             refine fJ C X u f100 ⟨by decide, by decide⟩ at_631 ?_
             have f101 := (V91.other W94 ne_b17_b21)
             refine sJ C X u N ge_b17 f101 _ at_632 fun _ h102 _ X u N W102 V102 => ?_
             refine sa C X at_633 ?_
             refine si C X at_635 ?_
             refine sa C X at_637 ?_
             refine sC C X at_639 ?_
             have f103 := ((f92.other W94 ne_b8_b21).other W102 ne_b8_b17)
             refine fJ C X u f103 ⟨by decide, by decide⟩ at_640 ?_
             have f104 := (V94.other W102 ne_b17_b21.symm)
             refine sJ C X u N ge_b21 f104 _ at_641 fun _ h105 _ X u N W105 V105 => ?_
             refine wc C X (oF q0 q1 i2 i3 q4 i5 u1 u2 u3 u4 v1 v2 v3 v4 z1 z2 z3 z4 z5 z6 z7 dt qq b3 b8 b14 b17 b21 b30 nw (oI (2 : Int32)) oU oU) at_642 ?_
             have hE : PE = [(lt (1 : Int32), lp (1 : Int32)), (lt (3 : Int32), lp (3 : Int32))] := hP.trans (by unfold own_pe; rw [if_pos hb537_65, if_neg hb565_66, if_pos hb593_96, if_neg hb621_97]; first | done | rfl)
             have f106 := (V102.other W105 ne_b17_b21)
             have I107 := I.hi (((((own_Hi.refl Z n1 h).wr W91 lt_b17).wr W94 lt_b21).wr W102 lt_b17).wr W105 lt_b21)
             rw [hE] at I107 hl
             exact B645_2 _ _ _ _ _ _ _ _ _ _ X u N f106 V105 I107 hl s13
         · refine bN C X at_593 ((if0 _ _).trans (feq hb593_96).1) ?_
           refine sa C X at_596 ?_
           refine si C X at_598 ?_
           refine sa C X at_600 ?_
           refine sC C X at_602 ?_
           have f108 := ((BT.other W91 ne_b3_b17).other W94 ne_b3_b21)
           refine fJ C X u f108 ⟨by decide, by decide⟩ at_603 ?_
           have f109 := (V91.other W94 ne_b17_b21)
           refine sJ C X u N ge_b17 f109 _ at_604 fun _ h110 _ X u N W110 V110 => ?_
           refine sa C X at_605 ?_
           refine si C X at_607 ?_
           refine sa C X at_609 ?_
           refine sC C X at_611 ?_
           have f111 := ((f92.other W94 ne_b8_b21).other W110 ne_b8_b17)
           refine fJ C X u f111 ⟨by decide, by decide⟩ at_612 ?_
           have f112 := (V94.other W110 ne_b17_b21.symm)
           refine sJ C X u N ge_b21 f112 _ at_613 fun _ h113 _ X u N W113 V113 => ?_
           refine wc C X (oF q0 q1 i2 i3 q4 i5 u1 u2 u3 u4 v1 v2 v3 v4 z1 z2 z3 z4 z5 z6 z7 dt qq b3 b8 b14 b17 b21 b30 nw (oI (2 : Int32)) oU oU) at_614 ?_
           refine sa C X at_617 ?_
           refine sC C X at_619 ?_
           have f114 := ((f95.other W110 ne_b14_b17).other W113 ne_b14_b21)
           refine fZ C X u f114 ⟨by decide, by decide⟩ at_620 ?_
           by_cases hb621_115 : (lv (3 : Int32)) = (0 : Int32)
           · refine bY C X at_621 645 ((if0 _ _).trans (teq hb621_115).1) ?_
             have hE : PE = [(lt (1 : Int32), lp (1 : Int32)), (lt (2 : Int32), lp (2 : Int32))] := hP.trans (by unfold own_pe; rw [if_pos hb537_65, if_neg hb565_66, if_neg hb593_96, if_pos hb621_115]; first | done | rfl)
             have f116 := (V110.other W113 ne_b17_b21)
             have I117 := I.hi (((((own_Hi.refl Z n1 h).wr W91 lt_b17).wr W94 lt_b21).wr W110 lt_b17).wr W113 lt_b21)
             rw [hE] at I117 hl
             exact B645_2 _ _ _ _ _ _ _ _ _ _ X u N f116 V113 I117 hl s12
           · refine bN C X at_621 ((if0 _ _).trans (feq hb621_115).1) ?_
             refine sa C X at_624 ?_
             refine si C X at_626 ?_
             refine sa C X at_628 ?_
             refine sC C X at_630 ?_
             have f118 := ((f108.other W110 ne_b3_b17).other W113 ne_b3_b21)
             refine fJ C X u f118 ⟨by decide, by decide⟩ at_631 ?_
             have f119 := (V110.other W113 ne_b17_b21)
             refine sJ C X u N ge_b17 f119 _ at_632 fun _ h120 _ X u N W120 V120 => ?_
             refine sa C X at_633 ?_
             refine si C X at_635 ?_
             refine sa C X at_637 ?_
             refine sC C X at_639 ?_
             have f121 := ((f111.other W113 ne_b8_b21).other W120 ne_b8_b17)
             refine fJ C X u f121 ⟨by decide, by decide⟩ at_640 ?_
             have f122 := (V113.other W120 ne_b17_b21.symm)
             refine sJ C X u N ge_b21 f122 _ at_641 fun _ h123 _ X u N W123 V123 => ?_
             refine wc C X (oF q0 q1 i2 i3 q4 i5 u1 u2 u3 u4 v1 v2 v3 v4 z1 z2 z3 z4 z5 z6 z7 dt qq b3 b8 b14 b17 b21 b30 nw (oI (3 : Int32)) oU oU) at_642 ?_
             have hE : PE = [(lt (1 : Int32), lp (1 : Int32)), (lt (2 : Int32), lp (2 : Int32)), (lt (3 : Int32), lp (3 : Int32))] := hP.trans (by unfold own_pe; rw [if_pos hb537_65, if_neg hb565_66, if_neg hb593_96, if_neg hb621_115]; first | done | rfl)
             have f124 := (V120.other W123 ne_b17_b21)
             have I125 := I.hi (((((((own_Hi.refl Z n1 h).wr W91 lt_b17).wr W94 lt_b21).wr W110 lt_b17).wr W113 lt_b21).wr W120 lt_b17).wr W123 lt_b21)
             rw [hE] at I125 hl
             exact B645_3 _ _ _ _ _ _ _ _ _ _ _ _ X u N f124 V123 I125 hl s12 s23
     · refine bN C X at_537 ((if0 _ _).trans (feq hb537_65).1) ?_
       refine sa C X at_540 ?_
       refine si C X at_542 ?_
       refine sa C X at_544 ?_
       refine sC C X at_546 ?_
       refine fJ C X u BT ⟨by decide, by decide⟩ at_547 ?_
       refine sJ C X u N ge_b17 VC _ at_548 fun _ h126 _ X u N W126 V126 => ?_
       refine sa C X at_549 ?_
       refine si C X at_551 ?_
       refine sa C X at_553 ?_
       refine sC C X at_555 ?_
       have f127 := (BP.other W126 ne_b8_b17)
       refine fJ C X u f127 ⟨by decide, by decide⟩ at_556 ?_
       have f128 := (VD.other W126 ne_b17_b21.symm)
       refine sJ C X u N ge_b21 f128 _ at_557 fun _ h129 _ X u N W129 V129 => ?_
       refine wc C X (oF q0 q1 i2 i3 q4 i5 u1 u2 u3 u4 v1 v2 v3 v4 z1 z2 z3 z4 z5 z6 z7 dt qq b3 b8 b14 b17 b21 b30 nw (oI (1 : Int32)) oU oU) at_558 ?_
       refine sa C X at_561 ?_
       refine sC C X at_563 ?_
       have f130 := ((BV.other W126 ne_b14_b17).other W129 ne_b14_b21)
       refine fZ C X u f130 ⟨by decide, by decide⟩ at_564 ?_
       by_cases hb565_131 : (lv (1 : Int32)) = (0 : Int32)
       · refine bY C X at_565 589 ((if0 _ _).trans (teq hb565_131).1) ?_
         refine sa C X at_589 ?_
         refine sC C X at_591 ?_
         refine fZ C X u f130 ⟨by decide, by decide⟩ at_592 ?_
         by_cases hb593_132 : (lv (2 : Int32)) = (0 : Int32)
         · refine bY C X at_593 617 ((if0 _ _).trans (teq hb593_132).1) ?_
           refine sa C X at_617 ?_
           refine sC C X at_619 ?_
           refine fZ C X u f130 ⟨by decide, by decide⟩ at_620 ?_
           by_cases hb621_133 : (lv (3 : Int32)) = (0 : Int32)
           · refine bY C X at_621 645 ((if0 _ _).trans (teq hb621_133).1) ?_
             have hE : PE = [(lt (0 : Int32), lp (0 : Int32))] := hP.trans (by unfold own_pe; rw [if_neg hb537_65, if_pos hb565_131, if_pos hb593_132, if_pos hb621_133]; first | done | rfl)
             have f134 := (V126.other W129 ne_b17_b21)
             have I135 := I.hi (((own_Hi.refl Z n1 h).wr W126 lt_b17).wr W129 lt_b21)
             rw [hE] at I135 hl
             exact B645_1 _ _ _ _ _ _ _ _ X u N f134 V129 I135 hl
           · refine bN C X at_621 ((if0 _ _).trans (feq hb621_133).1) ?_
             refine sa C X at_624 ?_
             refine si C X at_626 ?_
             refine sa C X at_628 ?_
             refine sC C X at_630 ?_
             have f136 := ((BT.other W126 ne_b3_b17).other W129 ne_b3_b21)
             refine fJ C X u f136 ⟨by decide, by decide⟩ at_631 ?_
             have f137 := (V126.other W129 ne_b17_b21)
             refine sJ C X u N ge_b17 f137 _ at_632 fun _ h138 _ X u N W138 V138 => ?_
             refine sa C X at_633 ?_
             refine si C X at_635 ?_
             refine sa C X at_637 ?_
             refine sC C X at_639 ?_
             have f139 := ((f127.other W129 ne_b8_b21).other W138 ne_b8_b17)
             refine fJ C X u f139 ⟨by decide, by decide⟩ at_640 ?_
             have f140 := (V129.other W138 ne_b17_b21.symm)
             refine sJ C X u N ge_b21 f140 _ at_641 fun _ h141 _ X u N W141 V141 => ?_
             refine wc C X (oF q0 q1 i2 i3 q4 i5 u1 u2 u3 u4 v1 v2 v3 v4 z1 z2 z3 z4 z5 z6 z7 dt qq b3 b8 b14 b17 b21 b30 nw (oI (2 : Int32)) oU oU) at_642 ?_
             have hE : PE = [(lt (0 : Int32), lp (0 : Int32)), (lt (3 : Int32), lp (3 : Int32))] := hP.trans (by unfold own_pe; rw [if_neg hb537_65, if_pos hb565_131, if_pos hb593_132, if_neg hb621_133]; first | done | rfl)
             have f142 := (V138.other W141 ne_b17_b21)
             have I143 := I.hi (((((own_Hi.refl Z n1 h).wr W126 lt_b17).wr W129 lt_b21).wr W138 lt_b17).wr W141 lt_b21)
             rw [hE] at I143 hl
             exact B645_2 _ _ _ _ _ _ _ _ _ _ X u N f142 V141 I143 hl s03
         · refine bN C X at_593 ((if0 _ _).trans (feq hb593_132).1) ?_
           refine sa C X at_596 ?_
           refine si C X at_598 ?_
           refine sa C X at_600 ?_
           refine sC C X at_602 ?_
           have f144 := ((BT.other W126 ne_b3_b17).other W129 ne_b3_b21)
           refine fJ C X u f144 ⟨by decide, by decide⟩ at_603 ?_
           have f145 := (V126.other W129 ne_b17_b21)
           refine sJ C X u N ge_b17 f145 _ at_604 fun _ h146 _ X u N W146 V146 => ?_
           refine sa C X at_605 ?_
           refine si C X at_607 ?_
           refine sa C X at_609 ?_
           refine sC C X at_611 ?_
           have f147 := ((f127.other W129 ne_b8_b21).other W146 ne_b8_b17)
           refine fJ C X u f147 ⟨by decide, by decide⟩ at_612 ?_
           have f148 := (V129.other W146 ne_b17_b21.symm)
           refine sJ C X u N ge_b21 f148 _ at_613 fun _ h149 _ X u N W149 V149 => ?_
           refine wc C X (oF q0 q1 i2 i3 q4 i5 u1 u2 u3 u4 v1 v2 v3 v4 z1 z2 z3 z4 z5 z6 z7 dt qq b3 b8 b14 b17 b21 b30 nw (oI (2 : Int32)) oU oU) at_614 ?_
           refine sa C X at_617 ?_
           refine sC C X at_619 ?_
           have f150 := ((f130.other W146 ne_b14_b17).other W149 ne_b14_b21)
           refine fZ C X u f150 ⟨by decide, by decide⟩ at_620 ?_
           by_cases hb621_151 : (lv (3 : Int32)) = (0 : Int32)
           · refine bY C X at_621 645 ((if0 _ _).trans (teq hb621_151).1) ?_
             have hE : PE = [(lt (0 : Int32), lp (0 : Int32)), (lt (2 : Int32), lp (2 : Int32))] := hP.trans (by unfold own_pe; rw [if_neg hb537_65, if_pos hb565_131, if_neg hb593_132, if_pos hb621_151]; first | done | rfl)
             have f152 := (V146.other W149 ne_b17_b21)
             have I153 := I.hi (((((own_Hi.refl Z n1 h).wr W126 lt_b17).wr W129 lt_b21).wr W146 lt_b17).wr W149 lt_b21)
             rw [hE] at I153 hl
             exact B645_2 _ _ _ _ _ _ _ _ _ _ X u N f152 V149 I153 hl s02
           · refine bN C X at_621 ((if0 _ _).trans (feq hb621_151).1) ?_
             refine sa C X at_624 ?_
             refine si C X at_626 ?_
             refine sa C X at_628 ?_
             refine sC C X at_630 ?_
             have f154 := ((f144.other W146 ne_b3_b17).other W149 ne_b3_b21)
             refine fJ C X u f154 ⟨by decide, by decide⟩ at_631 ?_
             have f155 := (V146.other W149 ne_b17_b21)
             refine sJ C X u N ge_b17 f155 _ at_632 fun _ h156 _ X u N W156 V156 => ?_
             refine sa C X at_633 ?_
             refine si C X at_635 ?_
             refine sa C X at_637 ?_
             refine sC C X at_639 ?_
             have f157 := ((f147.other W149 ne_b8_b21).other W156 ne_b8_b17)
             refine fJ C X u f157 ⟨by decide, by decide⟩ at_640 ?_
             have f158 := (V149.other W156 ne_b17_b21.symm)
             refine sJ C X u N ge_b21 f158 _ at_641 fun _ h159 _ X u N W159 V159 => ?_
             refine wc C X (oF q0 q1 i2 i3 q4 i5 u1 u2 u3 u4 v1 v2 v3 v4 z1 z2 z3 z4 z5 z6 z7 dt qq b3 b8 b14 b17 b21 b30 nw (oI (3 : Int32)) oU oU) at_642 ?_
             have hE : PE = [(lt (0 : Int32), lp (0 : Int32)), (lt (2 : Int32), lp (2 : Int32)), (lt (3 : Int32), lp (3 : Int32))] := hP.trans (by unfold own_pe; rw [if_neg hb537_65, if_pos hb565_131, if_neg hb593_132, if_neg hb621_151]; first | done | rfl)
             have f160 := (V156.other W159 ne_b17_b21)
             have I161 := I.hi (((((((own_Hi.refl Z n1 h).wr W126 lt_b17).wr W129 lt_b21).wr W146 lt_b17).wr W149 lt_b21).wr W156 lt_b17).wr W159 lt_b21)
             rw [hE] at I161 hl
             exact B645_3 _ _ _ _ _ _ _ _ _ _ _ _ X u N f160 V159 I161 hl s02 s23
       · refine bN C X at_565 ((if0 _ _).trans (feq hb565_131).1) ?_
         refine sa C X at_568 ?_
         refine si C X at_570 ?_
         refine sa C X at_572 ?_
         refine sC C X at_574 ?_
         have f162 := ((BT.other W126 ne_b3_b17).other W129 ne_b3_b21)
         refine fJ C X u f162 ⟨by decide, by decide⟩ at_575 ?_
         have f163 := (V126.other W129 ne_b17_b21)
         refine sJ C X u N ge_b17 f163 _ at_576 fun _ h164 _ X u N W164 V164 => ?_
         refine sa C X at_577 ?_
         refine si C X at_579 ?_
         refine sa C X at_581 ?_
         refine sC C X at_583 ?_
         have f165 := ((f127.other W129 ne_b8_b21).other W164 ne_b8_b17)
         refine fJ C X u f165 ⟨by decide, by decide⟩ at_584 ?_
         have f166 := (V129.other W164 ne_b17_b21.symm)
         refine sJ C X u N ge_b21 f166 _ at_585 fun _ h167 _ X u N W167 V167 => ?_
         refine wc C X (oF q0 q1 i2 i3 q4 i5 u1 u2 u3 u4 v1 v2 v3 v4 z1 z2 z3 z4 z5 z6 z7 dt qq b3 b8 b14 b17 b21 b30 nw (oI (2 : Int32)) oU oU) at_586 ?_
         refine sa C X at_589 ?_
         refine sC C X at_591 ?_
         have f168 := ((f130.other W164 ne_b14_b17).other W167 ne_b14_b21)
         refine fZ C X u f168 ⟨by decide, by decide⟩ at_592 ?_
         by_cases hb593_169 : (lv (2 : Int32)) = (0 : Int32)
         · refine bY C X at_593 617 ((if0 _ _).trans (teq hb593_169).1) ?_
           refine sa C X at_617 ?_
           refine sC C X at_619 ?_
           refine fZ C X u f168 ⟨by decide, by decide⟩ at_620 ?_
           by_cases hb621_170 : (lv (3 : Int32)) = (0 : Int32)
           · refine bY C X at_621 645 ((if0 _ _).trans (teq hb621_170).1) ?_
             have hE : PE = [(lt (0 : Int32), lp (0 : Int32)), (lt (1 : Int32), lp (1 : Int32))] := hP.trans (by unfold own_pe; rw [if_neg hb537_65, if_neg hb565_131, if_pos hb593_169, if_pos hb621_170]; first | done | rfl)
             have f171 := (V164.other W167 ne_b17_b21)
             have I172 := I.hi (((((own_Hi.refl Z n1 h).wr W126 lt_b17).wr W129 lt_b21).wr W164 lt_b17).wr W167 lt_b21)
             rw [hE] at I172 hl
             exact B645_2 _ _ _ _ _ _ _ _ _ _ X u N f171 V167 I172 hl s01
           · refine bN C X at_621 ((if0 _ _).trans (feq hb621_170).1) ?_
             refine sa C X at_624 ?_
             refine si C X at_626 ?_
             refine sa C X at_628 ?_
             refine sC C X at_630 ?_
             have f173 := ((f162.other W164 ne_b3_b17).other W167 ne_b3_b21)
             refine fJ C X u f173 ⟨by decide, by decide⟩ at_631 ?_
             have f174 := (V164.other W167 ne_b17_b21)
             refine sJ C X u N ge_b17 f174 _ at_632 fun _ h175 _ X u N W175 V175 => ?_
             refine sa C X at_633 ?_
             refine si C X at_635 ?_
             refine sa C X at_637 ?_
             refine sC C X at_639 ?_
             have f176 := ((f165.other W167 ne_b8_b21).other W175 ne_b8_b17)
             refine fJ C X u f176 ⟨by decide, by decide⟩ at_640 ?_
             have f177 := (V167.other W175 ne_b17_b21.symm)
             refine sJ C X u N ge_b21 f177 _ at_641 fun _ h178 _ X u N W178 V178 => ?_
             refine wc C X (oF q0 q1 i2 i3 q4 i5 u1 u2 u3 u4 v1 v2 v3 v4 z1 z2 z3 z4 z5 z6 z7 dt qq b3 b8 b14 b17 b21 b30 nw (oI (3 : Int32)) oU oU) at_642 ?_
             have hE : PE = [(lt (0 : Int32), lp (0 : Int32)), (lt (1 : Int32), lp (1 : Int32)), (lt (3 : Int32), lp (3 : Int32))] := hP.trans (by unfold own_pe; rw [if_neg hb537_65, if_neg hb565_131, if_pos hb593_169, if_neg hb621_170]; first | done | rfl)
             have f179 := (V175.other W178 ne_b17_b21)
             have I180 := I.hi (((((((own_Hi.refl Z n1 h).wr W126 lt_b17).wr W129 lt_b21).wr W164 lt_b17).wr W167 lt_b21).wr W175 lt_b17).wr W178 lt_b21)
             rw [hE] at I180 hl
             exact B645_3 _ _ _ _ _ _ _ _ _ _ _ _ X u N f179 V178 I180 hl s01 s13
         · refine bN C X at_593 ((if0 _ _).trans (feq hb593_169).1) ?_
           refine sa C X at_596 ?_
           refine si C X at_598 ?_
           refine sa C X at_600 ?_
           refine sC C X at_602 ?_
           have f181 := ((f162.other W164 ne_b3_b17).other W167 ne_b3_b21)
           refine fJ C X u f181 ⟨by decide, by decide⟩ at_603 ?_
           have f182 := (V164.other W167 ne_b17_b21)
           refine sJ C X u N ge_b17 f182 _ at_604 fun _ h183 _ X u N W183 V183 => ?_
           refine sa C X at_605 ?_
           refine si C X at_607 ?_
           refine sa C X at_609 ?_
           refine sC C X at_611 ?_
           have f184 := ((f165.other W167 ne_b8_b21).other W183 ne_b8_b17)
           refine fJ C X u f184 ⟨by decide, by decide⟩ at_612 ?_
           have f185 := (V167.other W183 ne_b17_b21.symm)
           refine sJ C X u N ge_b21 f185 _ at_613 fun _ h186 _ X u N W186 V186 => ?_
           refine wc C X (oF q0 q1 i2 i3 q4 i5 u1 u2 u3 u4 v1 v2 v3 v4 z1 z2 z3 z4 z5 z6 z7 dt qq b3 b8 b14 b17 b21 b30 nw (oI (3 : Int32)) oU oU) at_614 ?_
           refine sa C X at_617 ?_
           refine sC C X at_619 ?_
           have f187 := ((f168.other W183 ne_b14_b17).other W186 ne_b14_b21)
           refine fZ C X u f187 ⟨by decide, by decide⟩ at_620 ?_
           by_cases hb621_188 : (lv (3 : Int32)) = (0 : Int32)
           · refine bY C X at_621 645 ((if0 _ _).trans (teq hb621_188).1) ?_
             have hE : PE = [(lt (0 : Int32), lp (0 : Int32)), (lt (1 : Int32), lp (1 : Int32)), (lt (2 : Int32), lp (2 : Int32))] := hP.trans (by unfold own_pe; rw [if_neg hb537_65, if_neg hb565_131, if_neg hb593_169, if_pos hb621_188]; first | done | rfl)
             have f189 := (V183.other W186 ne_b17_b21)
             have I190 := I.hi (((((((own_Hi.refl Z n1 h).wr W126 lt_b17).wr W129 lt_b21).wr W164 lt_b17).wr W167 lt_b21).wr W183 lt_b17).wr W186 lt_b21)
             rw [hE] at I190 hl
             exact B645_3 _ _ _ _ _ _ _ _ _ _ _ _ X u N f189 V186 I190 hl s01 s12
           · refine bN C X at_621 ((if0 _ _).trans (feq hb621_188).1) ?_
             refine sa C X at_624 ?_
             refine si C X at_626 ?_
             refine sa C X at_628 ?_
             refine sC C X at_630 ?_
             have f191 := ((f181.other W183 ne_b3_b17).other W186 ne_b3_b21)
             refine fJ C X u f191 ⟨by decide, by decide⟩ at_631 ?_
             have f192 := (V183.other W186 ne_b17_b21)
             refine sJ C X u N ge_b17 f192 _ at_632 fun _ h193 _ X u N W193 V193 => ?_
             refine sa C X at_633 ?_
             refine si C X at_635 ?_
             refine sa C X at_637 ?_
             refine sC C X at_639 ?_
             have f194 := ((f184.other W186 ne_b8_b21).other W193 ne_b8_b17)
             refine fJ C X u f194 ⟨by decide, by decide⟩ at_640 ?_
             have f195 := (V186.other W193 ne_b17_b21.symm)
             refine sJ C X u N ge_b21 f195 _ at_641 fun _ h196 _ X u N W196 V196 => ?_
             refine wc C X (oF q0 q1 i2 i3 q4 i5 u1 u2 u3 u4 v1 v2 v3 v4 z1 z2 z3 z4 z5 z6 z7 dt qq b3 b8 b14 b17 b21 b30 nw (oI (4 : Int32)) oU oU) at_642 ?_
             have hE : PE = [(lt (0 : Int32), lp (0 : Int32)), (lt (1 : Int32), lp (1 : Int32)), (lt (2 : Int32), lp (2 : Int32)), (lt (3 : Int32), lp (3 : Int32))] := hP.trans (by unfold own_pe; rw [if_neg hb537_65, if_neg hb565_131, if_neg hb593_169, if_neg hb621_188]; first | done | rfl)
             have f197 := (V193.other W196 ne_b17_b21)
             have I198 := I.hi (((((((((own_Hi.refl Z n1 h).wr W126 lt_b17).wr W129 lt_b21).wr W164 lt_b17).wr W167 lt_b21).wr W183 lt_b17).wr W186 lt_b21).wr W193 lt_b17).wr W196 lt_b21)
             rw [hE] at I198 hl
             exact B645_4 _ _ _ _ _ _ _ _ _ _ _ _ _ _ X u N f197 V196 I198 hl s01 s12 s23
   have B519 : ∀ (T : State) (h hB : Heap) (lo : List Loc) (nw : Int32) (lv : Int32 → Int32) (lp : Int32 → Int64) (b : Int64) (PE : List (Int64 × Int64)), Stand p l e room_1 s m #[(.long q0), (.long q1), (.int i2), (.int i3), (.long q4), (.int i5)] below meth c T lo 36 209 → T.heap = h → Fr n0 lo → own_Fj Z h b3 (4 : Int32) lt → own_Fj Z h b8 (4 : Int32) lp → own_Fa Z h b14 .boolean (4 : Int32) lv → Arv Z h b17 k17 .long (4 : Int32) [oZ, oZ, oZ, oZ] oZ → Arv Z h b21 k21 .long (4 : Int32) [oZ, oZ, oZ, oZ] oZ → own_L3 Z hB h n1 b30 b PE → own_nw lv nw (4 : Int32) → PE = own_pe lv lt lp → True → own_Fin p e below (own_E room_1 s below (fun v h L => v = some (.int 1) ∧ Fr n0 L)) T (mkF m 519 (oF q0 q1 i2 i3 q4 i5 u1 u2 u3 u4 v1 v2 v3 v4 z1 z2 z3 z4 z5 z6 z7 dt qq b3 b8 b14 b17 b21 b30 nw oU oU oU) []) := by
     intro T h hB lo nw lv lp b PE X u N BT BP BV VC VD I hw_ hP hl
     refine si C X at_519 ?_
     by_cases hb521_199 : z7 = (0 : Int32)
     · refine bY C X at_521 530 ((if0 _ _).trans (teq hb521_199).1) ?_
       exact B530 _ _ h0 _ _ _ _ _ _ _ X u N BT BP BV VC VD I.ls hP (Or.inl ⟨hb521_199, rfl⟩)
     · refine bN C X at_521 ((if0 _ _).trans (feq hb521_199).1) ?_
       refine sa C X at_524 ?_
       have I200 := I.hi (own_Hi.refl Z n1 h)
       refine cV C X u (own_shr l Z a0 hw b30 b u1 PE h  h n1 (Nat.le_trans g1o (Nat.le_of_lt I200.lo.2.lt)) I200 (by rw [hP]; exact own_peN hn0 hn1 hn2 hn3)) I200.lo.2 (W := 0) (wbx C.w) (wby C.w) (wbA C.w) (wbz C.w) (wbB C.w) (wa5 C.w) (argsL := []) (lenOf pat rfl) at_526 fun _ T201 _ X hQ201 => ?_
       obtain ⟨h201, u⟩ : ∃ h', T201.heap = h' := ⟨_, rfl⟩
       rw [u] at hQ201
       obtain ⟨⟨zz201, rfl⟩, Nq201, Lp201, mm201, hb201, I201⟩ := hQ201
       have Lo201 := Lp201
       refine sO C X at_529 ?_
       have f202 := (BT.low Lo201 lt_b3)
       have f203 := (BP.low Lo201 lt_b8)
       have f204 := (BV.low Lo201 lt_b14)
       have f205 := (own_Lo.arv Lo201 VC lt_b17)
       have f206 := (own_Lo.arv Lo201 VD lt_b21)
       exact B530 _ _ h0 _ _ _ _ _ _ _ X u (N.app (own_Frm Nq201 hn01)) f202 f203 f204 f205 f206 I201 hP (Or.inr ⟨hb521_199, hb201⟩)
   have B488 : ∀ (T : State) (h hB : Heap) (lo : List Loc) (nw : Int32) (lv : Int32 → Int32) (lp : Int32 → Int64) (b : Int64) (PE : List (Int64 × Int64)), Stand p l e room_1 s m #[(.long q0), (.long q1), (.int i2), (.int i3), (.long q4), (.int i5)] below meth c T lo 30 165 → T.heap = h → Fr n0 lo → own_Fj Z h b3 (4 : Int32) lt → own_Fj Z h b8 (4 : Int32) lp → own_Fa Z h b14 .boolean (4 : Int32) lv → Arv Z h b17 k17 .long (4 : Int32) [oZ, oZ, oZ, oZ] oZ → Arv Z h b21 k21 .long (4 : Int32) [oZ, oZ, oZ, oZ] oZ → own_L2 Z hB h n1 b30 b PE → own_nw lv nw (3 : Int32) → PE = own_pe lv lt lp → lp (3 : Int32) = v4 → own_Fin p e below (own_E room_1 s below (fun v h L => v = some (.int 1) ∧ Fr n0 L)) T (mkF m 488 (oF q0 q1 i2 i3 q4 i5 u1 u2 u3 u4 v1 v2 v3 v4 z1 z2 z3 z4 z5 z6 z7 dt qq b3 b8 b14 b17 b21 b30 nw oU oU oU) []) := by
     intro T h hB lo nw lv lp b PE X u N BT BP BV VC VD I hw_ hP hl
     refine si C X at_488 ?_
     by_cases hb490_207 : z5 = (0 : Int32)
     · refine bY C X at_490 519 ((if0 _ _).trans (teq hb490_207).1) ?_
       exact B519 _ _ _ _ _ _ _ _ PE (X.mono (by decide) (by decide)) u N BT BP BV VC VD I.up (own_nw.up (Or.inr (Or.inr (Or.inr ⟨rfl, rfl⟩))) hw_) hP trivial
     · refine bN C X at_490 ((if0 _ _).trans (feq hb490_207).1) ?_
       refine sa C X at_493 ?_
       refine sl C X at_495 ?_
       refine sl C X at_497 ?_
       refine sU C X at_499 ?_
       have I208 := I.hi (own_Hi.refl Z n1 h)
       refine cV C X u (own_add2 l Z a0 hw b30 u4 v4 b PE h  h n1 (Nat.le_trans g1o (Nat.le_of_lt I208.lo.2.lt)) I208) I208.lo.2 (W := 0) (wcD C.w) (wcE C.w) (wcG C.w) (wcF C.w) (wcH C.w) (wa5 C.w) (argsL := [(.long u4), (.long v4), (.int 1000)]) (lenOf pai rfl) at_502 fun _ T209 _ X hQ209 => ?_
       obtain ⟨h209, u⟩ : ∃ h', T209.heap = h' := ⟨_, rfl⟩
       rw [u] at hQ209
       obtain ⟨rfl, Nq209, I209⟩ := hQ209
       have Lo209 := I209.lo.1
       refine sa C X at_505 ?_
       refine sa C X at_507 ?_
       refine sa C X at_509 ?_
       refine si C X at_511 ?_
       refine sC C X at_513 ?_
       have f210 := (BT.low Lo209 lt_b3)
       have f211 := (BP.low Lo209 lt_b8)
       have f212 := (BV.low Lo209 lt_b14)
       refine cS C X u (rm_ar l Z a0 hw b3 b8 b14 nw (3 : Int32) lt lp lv  h209 n0 (Nat.le_trans hn01 (Nat.le_trans g1o (Nat.le_of_lt I209.lo.2.lt))) f210 f211 f212 ge_b8 ge_b14 ne_b3_b8 ne_b3_b14 ne_b8_b14 hw_.lt (by decide)) (W := 0) (waM C.w) (waN C.w) (waP C.w) (waO C.w) (argsL := [(.ref b3), (.ref b8), (.ref b14), (.int nw), (.int 3)]) (lenOf par rfl) at_514 fun _ T213 _ X hQ213 => ?_
       obtain ⟨h213, u⟩ : ∃ h', T213.heap = h' := ⟨_, rfl⟩
       rw [u] at hQ213
       obtain ⟨⟨r213, lp213, lv213, rfl, J213, B213, A213⟩, Nq213, Kc213, Sc213⟩ := hQ213
       refine wi C X (oF q0 q1 i2 i3 q4 i5 u1 u2 u3 u4 v1 v2 v3 v4 z1 z2 z3 z4 z5 z6 z7 dt qq b3 b8 b14 b17 b21 b30 r213 oU oU oU) at_517 ?_
       have f214 := (f210.keep Kc213 (ninS ne_b3_b8 (ninS ne_b3_b14 nin0)))
       have f215 := ((own_Lo.arv Lo209 VC lt_b17).keep Kc213 (ninS ne_b8_b17.symm (ninS ne_b14_b17.symm nin0)))
       have f216 := ((own_Lo.arv Lo209 VD lt_b21).keep Kc213 (ninS ne_b8_b21.symm (ninS ne_b14_b21.symm nin0)))
       have I217 := I209.hi ((own_Hi.refl Z n1 h209).keep Kc213 Sc213 (allS (P := fun x => x < n1) lt_b8 (allS (P := fun x => x < n1) lt_b14 all0)))
       have Q218 := own_ar (Or.inr (Or.inr (Or.inr ⟨rfl, rfl⟩))) hw_ A213
       exact B519 _ _ _ _ _ _ _ _ (own_addP u4 v4 PE) X u ((N.app (own_Frm Nq209 hn01)).app Nq213) f214 J213 B213 f215 f216 I217 Q218.1.2 (by rw [Q218.1.1, hlt_3, hl, ← hP]) trivial
   have B457 : ∀ (T : State) (h hB : Heap) (lo : List Loc) (nw : Int32) (lv : Int32 → Int32) (lp : Int32 → Int64) (b : Int64) (PE : List (Int64 × Int64)), Stand p l e room_1 s m #[(.long q0), (.long q1), (.int i2), (.int i3), (.long q4), (.int i5)] below meth c T lo 24 121 → T.heap = h → Fr n0 lo → own_Fj Z h b3 (4 : Int32) lt → own_Fj Z h b8 (4 : Int32) lp → own_Fa Z h b14 .boolean (4 : Int32) lv → Arv Z h b17 k17 .long (4 : Int32) [oZ, oZ, oZ, oZ] oZ → Arv Z h b21 k21 .long (4 : Int32) [oZ, oZ, oZ, oZ] oZ → own_L1 Z hB h n1 b30 b PE → own_nw lv nw (2 : Int32) → PE = own_pe lv lt lp → lp (2 : Int32) = v3 ∧ lp (3 : Int32) = v4 → own_Fin p e below (own_E room_1 s below (fun v h L => v = some (.int 1) ∧ Fr n0 L)) T (mkF m 457 (oF q0 q1 i2 i3 q4 i5 u1 u2 u3 u4 v1 v2 v3 v4 z1 z2 z3 z4 z5 z6 z7 dt qq b3 b8 b14 b17 b21 b30 nw oU oU oU) []) := by
     intro T h hB lo nw lv lp b PE X u N BT BP BV VC VD I hw_ hP hl
     refine si C X at_457 ?_
     by_cases hb459_219 : z4 = (0 : Int32)
     · refine bY C X at_459 488 ((if0 _ _).trans (teq hb459_219).1) ?_
       exact B488 _ _ _ _ _ _ _ _ PE (X.mono (by decide) (by decide)) u N BT BP BV VC VD I.up (own_nw.up (Or.inr (Or.inr (Or.inl ⟨rfl, rfl⟩))) hw_) hP hl.2
     · refine bN C X at_459 ((if0 _ _).trans (feq hb459_219).1) ?_
       refine sa C X at_462 ?_
       refine sl C X at_464 ?_
       refine sl C X at_466 ?_
       refine sU C X at_468 ?_
       have I220 := I.hi (own_Hi.refl Z n1 h)
       refine cV C X u (own_add1 l Z a0 hw b30 u3 v3 b PE h  h n1 (Nat.le_trans g1o (Nat.le_of_lt I220.lo.2.lt)) I220) I220.lo.2 (W := 0) (wcD C.w) (wcE C.w) (wcG C.w) (wcF C.w) (wcH C.w) (wa5 C.w) (argsL := [(.long u3), (.long v3), (.int 1000)]) (lenOf pai rfl) at_471 fun _ T221 _ X hQ221 => ?_
       obtain ⟨h221, u⟩ : ∃ h', T221.heap = h' := ⟨_, rfl⟩
       rw [u] at hQ221
       obtain ⟨rfl, Nq221, I221⟩ := hQ221
       have Lo221 := I221.lo.1
       refine sa C X at_474 ?_
       refine sa C X at_476 ?_
       refine sa C X at_478 ?_
       refine si C X at_480 ?_
       refine sC C X at_482 ?_
       have f222 := (BT.low Lo221 lt_b3)
       have f223 := (BP.low Lo221 lt_b8)
       have f224 := (BV.low Lo221 lt_b14)
       refine cS C X u (rm_ar l Z a0 hw b3 b8 b14 nw (2 : Int32) lt lp lv  h221 n0 (Nat.le_trans hn01 (Nat.le_trans g1o (Nat.le_of_lt I221.lo.2.lt))) f222 f223 f224 ge_b8 ge_b14 ne_b3_b8 ne_b3_b14 ne_b8_b14 hw_.lt (by decide)) (W := 0) (waM C.w) (waN C.w) (waP C.w) (waO C.w) (argsL := [(.ref b3), (.ref b8), (.ref b14), (.int nw), (.int 2)]) (lenOf par rfl) at_483 fun _ T225 _ X hQ225 => ?_
       obtain ⟨h225, u⟩ : ∃ h', T225.heap = h' := ⟨_, rfl⟩
       rw [u] at hQ225
       obtain ⟨⟨r225, lp225, lv225, rfl, J225, B225, A225⟩, Nq225, Kc225, Sc225⟩ := hQ225
       refine wi C X (oF q0 q1 i2 i3 q4 i5 u1 u2 u3 u4 v1 v2 v3 v4 z1 z2 z3 z4 z5 z6 z7 dt qq b3 b8 b14 b17 b21 b30 r225 oU oU oU) at_486 ?_
       have f226 := (f222.keep Kc225 (ninS ne_b3_b8 (ninS ne_b3_b14 nin0)))
       have f227 := ((own_Lo.arv Lo221 VC lt_b17).keep Kc225 (ninS ne_b8_b17.symm (ninS ne_b14_b17.symm nin0)))
       have f228 := ((own_Lo.arv Lo221 VD lt_b21).keep Kc225 (ninS ne_b8_b21.symm (ninS ne_b14_b21.symm nin0)))
       have I229 := I221.hi ((own_Hi.refl Z n1 h221).keep Kc225 Sc225 (allS (P := fun x => x < n1) lt_b8 (allS (P := fun x => x < n1) lt_b14 all0)))
       have Q230 := own_ar (Or.inr (Or.inr (Or.inl ⟨rfl, rfl⟩))) hw_ A225
       exact B488 _ _ _ _ _ _ _ _ (own_addP u3 v3 PE) X u ((N.app (own_Frm Nq221 hn01)).app Nq225) f226 J225 B225 f227 f228 I229 Q230.1.2 (by rw [Q230.1.1, hlt_2, hl.1, ← hP]) ((Q230.2 (3 : Int32) (by decide)).trans hl.2)
   have B385 : ∀ (T : State) (h hB : Heap) (lo : List Loc) (nw : Int32) (lv : Int32 → Int32) (lp : Int32 → Int64) (b : Int64) (PE : List (Int64 × Int64)), Stand p l e room_1 s m #[(.long q0), (.long q1), (.int i2), (.int i3), (.long q4), (.int i5)] below meth c T lo 24 121 → T.heap = h → Fr n0 lo → own_Fj Z h b3 (4 : Int32) lt → own_Fj Z h b8 (4 : Int32) lp → own_Fa Z h b14 .boolean (4 : Int32) lv → Arv Z h b17 k17 .long (4 : Int32) [oZ, oZ, oZ, oZ] oZ → Arv Z h b21 k21 .long (4 : Int32) [oZ, oZ, oZ, oZ] oZ → own_L0 Z hB h n1 b30 b PE → own_nw lv nw (2 : Int32) → PE = own_pe lv lt lp → lp (2 : Int32) = v3 ∧ lp (3 : Int32) = v4 → own_Fin p e below (own_E room_1 s below (fun v h L => v = some (.int 1) ∧ Fr n0 L)) T (mkF m 385 (oF q0 q1 i2 i3 q4 i5 u1 u2 u3 u4 v1 v2 v3 v4 z1 z2 z3 z4 z5 z6 z7 dt qq b3 b8 b14 b17 b21 b30 nw oU oU oU) []) := by
     intro T h hB lo nw lv lp b PE X u N BT BP BV VC VD I hw_ hP hl
     refine si C X at_385 ?_
     by_cases hb387_231 : z6 = (0 : Int32)
     · refine bY C X at_387 457 ((if0 _ _).trans (teq hb387_231).1) ?_
       exact B457 _ _ _ _ _ _ _ _ PE X u N BT BP BV VC VD I.up hw_ hP ⟨hl.1, hl.2⟩
     · refine bN C X at_387 ((if0 _ _).trans (feq hb387_231).1) ?_
       refine sa C X at_390 ?_
       refine sl C X at_392 ?_
       have I232 := I.hi (own_Hi.refl Z n1 h)
       refine cV C X u (own_drp l Z a0 hw b30 dt b PE h  h n1 (Nat.le_trans g1o (Nat.le_of_lt I232.lo.2.lt)) I232) I232.lo.2 (W := 0) (wbs C.w) (wbt C.w) (wbv C.w) (wbu C.w) (wbw C.w) (wa5 C.w) (argsL := [(.long dt)]) (lenOf pam rfl) at_394 fun _ T233 _ X hQ233 => ?_
       obtain ⟨h233, u⟩ : ∃ h', T233.heap = h' := ⟨_, rfl⟩
       rw [u] at hQ233
       obtain ⟨rfl, Nq233, I233⟩ := hQ233
       have Lo233 := I233.lo.1
       have B441 : ∀ (T : State) (h hB : Heap) (lo : List Loc) (lv1 lv2 : Int32 → Int32), Stand p l e room_1 s m #[(.long q0), (.long q1), (.int i2), (.int i3), (.long q4), (.int i5)] below meth c T lo 24 121 → T.heap = h → Fr n0 lo → own_Fj Z h b3 (4 : Int32) lt → own_Fj Z h b8 (4 : Int32) lp → own_Fa Z h b14 .boolean (4 : Int32) lv2 → Arv Z h b17 k17 .long (4 : Int32) [oZ, oZ, oZ, oZ] oZ → Arv Z h b21 k21 .long (4 : Int32) [oZ, oZ, oZ, oZ] oZ → own_L1 Z hB h n1 b30 (own_drB dt b PE) (own_drP dt PE) → own_D lt dt 0 lv lv1 → own_D lt dt 1 lv1 lv2 → own_Fin p e below (own_E room_1 s below (fun v h L => v = some (.int 1) ∧ Fr n0 L)) T (mkF m 441 (oF q0 q1 i2 i3 q4 i5 u1 u2 u3 u4 v1 v2 v3 v4 z1 z2 z3 z4 z5 z6 z7 dt qq b3 b8 b14 b17 b21 b30 nw oU oU oU) []) := by
         intro T h hB lo lv1 lv2 X u N BT BP BV VC VD I D0 D1
         refine si C X at_441 ?_
         by_cases hb443_234 : nw < (0 : Int32)
         · refine bY C X at_443 457 ((if0 _ _).trans (tlt hb443_234).1) ?_
           have Q235 := own_dr (lp := lp) hw_ s01 D0 D1 (Or.inl ⟨Or.inl hb443_234, rfl⟩)
           exact B457 _ _ _ _ _ _ _ _ (own_drP dt PE) X u N BT BP BV VC VD I Q235.2 (by rw [Q235.1, ← hP]) ⟨hl.1, hl.2⟩
         · refine bN C X at_443 ((if0 _ _).trans (flt hb443_234).1) ?_
           refine sa C X at_446 ?_
           refine si C X at_448 ?_
           refine fZ C X u BV ⟨hb443_234, hw_.lt⟩ at_450 ?_
           by_cases hb451_236 : (lv2 nw) = (0 : Int32)
           · refine bN C X at_451 ((if0 _ _).trans (teq hb451_236).2) ?_
             refine sC C X at_454 ?_
             refine wi C X (oF q0 q1 i2 i3 q4 i5 u1 u2 u3 u4 v1 v2 v3 v4 z1 z2 z3 z4 z5 z6 z7 dt qq b3 b8 b14 b17 b21 b30 (-1 : Int32) oU oU oU) at_455 ?_
             have Q237 := own_dr (lp := lp) hw_ s01 D0 D1 (Or.inr ⟨hb443_234, hb451_236, rfl⟩)
             exact B457 _ _ _ _ _ _ _ _ (own_drP dt PE) X u N BT BP BV VC VD I Q237.2 (by rw [Q237.1, ← hP]) ⟨hl.1, hl.2⟩
           · refine bY C X at_451 457 ((if0 _ _).trans (feq hb451_236).2) ?_
             have Q238 := own_dr (lp := lp) hw_ s01 D0 D1 (Or.inl ⟨Or.inr hb451_236, rfl⟩)
             exact B457 _ _ _ _ _ _ _ _ (own_drP dt PE) X u N BT BP BV VC VD I Q238.2 (by rw [Q238.1, ← hP]) ⟨hl.1, hl.2⟩
       have B419 : ∀ (T : State) (h hB : Heap) (lo : List Loc) (lv1 : Int32 → Int32), Stand p l e room_1 s m #[(.long q0), (.long q1), (.int i2), (.int i3), (.long q4), (.int i5)] below meth c T lo 24 121 → T.heap = h → Fr n0 lo → own_Fj Z h b3 (4 : Int32) lt → own_Fj Z h b8 (4 : Int32) lp → own_Fa Z h b14 .boolean (4 : Int32) lv1 → Arv Z h b17 k17 .long (4 : Int32) [oZ, oZ, oZ, oZ] oZ → Arv Z h b21 k21 .long (4 : Int32) [oZ, oZ, oZ, oZ] oZ → own_L1 Z hB h n1 b30 (own_drB dt b PE) (own_drP dt PE) → own_D lt dt 0 lv lv1 → own_Fin p e below (own_E room_1 s below (fun v h L => v = some (.int 1) ∧ Fr n0 L)) T (mkF m 419 (oF q0 q1 i2 i3 q4 i5 u1 u2 u3 u4 v1 v2 v3 v4 z1 z2 z3 z4 z5 z6 z7 dt qq b3 b8 b14 b17 b21 b30 nw oU oU oU) []) := by
         intro T h hB lo lv1 X u N BT BP BV VC VD I D0
         refine sa C X at_419 ?_
         refine sC C X at_421 ?_
         refine fZ C X u BV ⟨by decide, by decide⟩ at_422 ?_
         by_cases hb423_239 : (lv1 (1 : Int32)) = (0 : Int32)
         · refine bY C X at_423 441 ((if0 _ _).trans (teq hb423_239).1) ?_
           exact B441 _ _ _ _ _ _ X u N BT BP BV VC VD I D0 (Or.inl ⟨rfl, Or.inl hb423_239⟩)
         · refine bN C X at_423 ((if0 _ _).trans (feq hb423_239).1) ?_
           refine sa C X at_426 ?_
           refine sC C X at_428 ?_
           refine fJ C X u BT ⟨by decide, by decide⟩ at_429 ?_
           refine sl C X at_430 ?_
           refine tC C X at_432 ?_
           by_cases hb433_240 : dt < (lt (1 : Int32))
           · refine bY C X at_433 441 ((if0 _ _).trans (tlt ((lw_gt _ _).mpr hb433_240)).2.2.1) ?_
             exact B441 _ _ _ _ _ _ X u N BT BP BV VC VD I D0 (Or.inl ⟨rfl, Or.inr hb433_240⟩)
           · refine bN C X at_433 ((if0 _ _).trans (flt (fun q => hb433_240 ((lw_gt _ _).mp q))).2.2.1) ?_
             refine sa C X at_436 ?_
             refine sC C X at_438 ?_
             refine sC C X at_439 ?_
             refine xZ C X u N ge_b14 BV ⟨by decide, by decide⟩ at_440 fun _ h241 _ X u N W241 V241 => ?_
             have f242 := (BT.other W241 ne_b3_b14)
             have f243 := (BP.other W241 ne_b8_b14)
             have f244 := (VC.other W241 ne_b14_b17.symm)
             have f245 := (VD.other W241 ne_b14_b21.symm)
             have I246 := I.hi ((own_Hi.refl Z n1 h).wr W241 lt_b14)
             exact B441 _ _ _ _ _ _ X u N f242 f243 V241 f244 f245 I246 D0 (Or.inr ⟨hb423_239, hb433_240, rfl⟩)
       refine sa C X at_397 ?_
       refine sC C X at_399 ?_
       have f247 := (BV.low Lo233 lt_b14)
       refine fZ C X u f247 ⟨by decide, by decide⟩ at_400 ?_
       by_cases hb401_248 : (lv (0 : Int32)) = (0 : Int32)
       · refine bY C X at_401 419 ((if0 _ _).trans (teq hb401_248).1) ?_
         have f249 := (BT.low Lo233 lt_b3)
         have f250 := (BP.low Lo233 lt_b8)
         have f251 := (own_Lo.arv Lo233 VC lt_b17)
         have f252 := (own_Lo.arv Lo233 VD lt_b21)
         exact B419 _ _ _ _ _ X u (N.app (own_Frm Nq233 hn01)) f249 f250 f247 f251 f252 I233 (Or.inl ⟨rfl, Or.inl hb401_248⟩)
       · refine bN C X at_401 ((if0 _ _).trans (feq hb401_248).1) ?_
         refine sa C X at_404 ?_
         refine sC C X at_406 ?_
         have f253 := (BT.low Lo233 lt_b3)
         refine fJ C X u f253 ⟨by decide, by decide⟩ at_407 ?_
         refine sl C X at_408 ?_
         refine tC C X at_410 ?_
         by_cases hb411_254 : dt < (lt (0 : Int32))
         · refine bY C X at_411 419 ((if0 _ _).trans (tlt ((lw_gt _ _).mpr hb411_254)).2.2.1) ?_
           have f255 := (BP.low Lo233 lt_b8)
           have f256 := (own_Lo.arv Lo233 VC lt_b17)
           have f257 := (own_Lo.arv Lo233 VD lt_b21)
           exact B419 _ _ _ _ _ X u (N.app (own_Frm Nq233 hn01)) f253 f255 f247 f256 f257 I233 (Or.inl ⟨rfl, Or.inr hb411_254⟩)
         · refine bN C X at_411 ((if0 _ _).trans (flt (fun q => hb411_254 ((lw_gt _ _).mp q))).2.2.1) ?_
           refine sa C X at_414 ?_
           refine sC C X at_416 ?_
           refine sC C X at_417 ?_
           refine xZ C X u (N.app (own_Frm Nq233 hn01)) ge_b14 f247 ⟨by decide, by decide⟩ at_418 fun _ h258 _ X u N W258 V258 => ?_
           have f259 := (f253.other W258 ne_b3_b14)
           have f260 := ((BP.low Lo233 lt_b8).other W258 ne_b8_b14)
           have f261 := ((own_Lo.arv Lo233 VC lt_b17).other W258 ne_b14_b17.symm)
           have f262 := ((own_Lo.arv Lo233 VD lt_b21).other W258 ne_b14_b21.symm)
           have I263 := I233.hi ((own_Hi.refl Z n1 h233).wr W258 lt_b14)
           exact B419 _ _ _ _ _ X u N f259 f260 V258 f261 f262 I263 (Or.inr ⟨hb401_248, hb411_254, rfl⟩)
   have B354 : ∀ (T : State) (h hB : Heap) (lo : List Loc) (nw : Int32) (lv : Int32 → Int32) (lp : Int32 → Int64) (b : Int64) (PE : List (Int64 × Int64)), Stand p l e room_1 s m #[(.long q0), (.long q1), (.int i2), (.int i3), (.long q4), (.int i5)] below meth c T lo 18 77 → T.heap = h → Fr n0 lo → own_Fj Z h b3 (4 : Int32) lt → own_Fj Z h b8 (4 : Int32) lp → own_Fa Z h b14 .boolean (4 : Int32) lv → Arv Z h b17 k17 .long (4 : Int32) [oZ, oZ, oZ, oZ] oZ → Arv Z h b21 k21 .long (4 : Int32) [oZ, oZ, oZ, oZ] oZ → own_La Z hB h n1 b30 b PE → own_nw lv nw (1 : Int32) → PE = own_pe lv lt lp → lp (1 : Int32) = v2 ∧ lp (2 : Int32) = v3 ∧ lp (3 : Int32) = v4 → own_Fin p e below (own_E room_1 s below (fun v h L => v = some (.int 1) ∧ Fr n0 L)) T (mkF m 354 (oF q0 q1 i2 i3 q4 i5 u1 u2 u3 u4 v1 v2 v3 v4 z1 z2 z3 z4 z5 z6 z7 dt qq b3 b8 b14 b17 b21 b30 nw oU oU oU) []) := by
     intro T h hB lo nw lv lp b PE X u N BT BP BV VC VD I hw_ hP hl
     refine si C X at_354 ?_
     by_cases hb356_264 : z3 = (0 : Int32)
     · refine bY C X at_356 385 ((if0 _ _).trans (teq hb356_264).1) ?_
       exact B385 _ _ _ _ _ _ _ _ PE (X.mono (by decide) (by decide)) u N BT BP BV VC VD I.up (own_nw.up (Or.inr (Or.inl ⟨rfl, rfl⟩)) hw_) hP ⟨hl.2.1, hl.2.2⟩
     · refine bN C X at_356 ((if0 _ _).trans (feq hb356_264).1) ?_
       refine sa C X at_359 ?_
       refine sl C X at_361 ?_
       refine sl C X at_363 ?_
       refine sU C X at_365 ?_
       have I265 := I.hi (own_Hi.refl Z n1 h)
       refine cV C X u (own_adda l Z a0 hw b30 u2 v2 b PE h  h n1 (Nat.le_trans g1o (Nat.le_of_lt I265.lo.2.lt)) I265) I265.lo.2 (W := 0) (wcD C.w) (wcE C.w) (wcG C.w) (wcF C.w) (wcH C.w) (wa5 C.w) (argsL := [(.long u2), (.long v2), (.int 1000)]) (lenOf pai rfl) at_368 fun _ T266 _ X hQ266 => ?_
       obtain ⟨h266, u⟩ : ∃ h', T266.heap = h' := ⟨_, rfl⟩
       rw [u] at hQ266
       obtain ⟨rfl, Nq266, I266⟩ := hQ266
       have Lo266 := I266.lo.1
       refine sa C X at_371 ?_
       refine sa C X at_373 ?_
       refine sa C X at_375 ?_
       refine si C X at_377 ?_
       refine sC C X at_379 ?_
       have f267 := (BT.low Lo266 lt_b3)
       have f268 := (BP.low Lo266 lt_b8)
       have f269 := (BV.low Lo266 lt_b14)
       refine cS C X u (rm_ar l Z a0 hw b3 b8 b14 nw (1 : Int32) lt lp lv  h266 n0 (Nat.le_trans hn01 (Nat.le_trans g1o (Nat.le_of_lt I266.lo.2.lt))) f267 f268 f269 ge_b8 ge_b14 ne_b3_b8 ne_b3_b14 ne_b8_b14 hw_.lt (by decide)) (W := 0) (waM C.w) (waN C.w) (waP C.w) (waO C.w) (argsL := [(.ref b3), (.ref b8), (.ref b14), (.int nw), (.int 1)]) (lenOf par rfl) at_380 fun _ T270 _ X hQ270 => ?_
       obtain ⟨h270, u⟩ : ∃ h', T270.heap = h' := ⟨_, rfl⟩
       rw [u] at hQ270
       obtain ⟨⟨r270, lp270, lv270, rfl, J270, B270, A270⟩, Nq270, Kc270, Sc270⟩ := hQ270
       refine wi C X (oF q0 q1 i2 i3 q4 i5 u1 u2 u3 u4 v1 v2 v3 v4 z1 z2 z3 z4 z5 z6 z7 dt qq b3 b8 b14 b17 b21 b30 r270 oU oU oU) at_383 ?_
       have f271 := (f267.keep Kc270 (ninS ne_b3_b8 (ninS ne_b3_b14 nin0)))
       have f272 := ((own_Lo.arv Lo266 VC lt_b17).keep Kc270 (ninS ne_b8_b17.symm (ninS ne_b14_b17.symm nin0)))
       have f273 := ((own_Lo.arv Lo266 VD lt_b21).keep Kc270 (ninS ne_b8_b21.symm (ninS ne_b14_b21.symm nin0)))
       have I274 := I266.hi ((own_Hi.refl Z n1 h266).keep Kc270 Sc270 (allS (P := fun x => x < n1) lt_b8 (allS (P := fun x => x < n1) lt_b14 all0)))
       have Q275 := own_ar (Or.inr (Or.inl ⟨rfl, rfl⟩)) hw_ A270
       exact B385 _ _ _ _ _ _ _ _ (own_addP u2 v2 PE) X u ((N.app (own_Frm Nq266 hn01)).app Nq270) f271 J270 B270 f272 f273 I274 Q275.1.2 (by rw [Q275.1.1, hlt_1, hl.1, ← hP]) ⟨(Q275.2 (2 : Int32) (by decide)).trans hl.2.1, (Q275.2 (3 : Int32) (by decide)).trans hl.2.2⟩
   have hP := hP0
   refine si C X at_323 ?_
   by_cases hb325_276 : z2 = (0 : Int32)
   · refine bY C X at_325 354 ((if0 _ _).trans (teq hb325_276).1) ?_
     have f277 := ((BJ26.ext E30).low Lo31 lt_b3)
     have f278 := ((BJ27.ext E30).low Lo31 lt_b8)
     have f279 := ((f29.ext E30).low Lo31 lt_b14)
     have f280 := (own_Lo.arv Lo31 (f25.ext E30) lt_b17)
     have f281 := (own_Lo.arv Lo31 (V21.ext E30) lt_b21)
     exact B354 _ _ _ _ _ _ _ _ [] (X.mono (by decide) (by decide)) u (N.app (own_Frm Nq31 hn01)) f277 f278 f279 f280 f281 (Or.inl ⟨rfl, G31⟩) (own_nw.up (Or.inl ⟨rfl, rfl⟩) hw0) hP0 ⟨hlp0_1, hlp0_2, hlp0_3⟩
   · refine bN C X at_325 ((if0 _ _).trans (feq hb325_276).1) ?_
     refine sa C X at_328 ?_
     refine sl C X at_330 ?_
     refine sl C X at_332 ?_
     refine sU C X at_334 ?_
     have I282 := G31.hi (own_Hi.refl Z n1 h31)
     refine cV C X u (own_adds l Z a0 hw b30 u1 v1 (0 : Int64) h31  h31 n1 (Nat.le_trans g1o (Nat.le_of_lt I282.lo.2.lt)) I282) I282.lo.2 (W := 0) (wcD C.w) (wcE C.w) (wcG C.w) (wcF C.w) (wcH C.w) (wa5 C.w) (argsL := [(.long u1), (.long v1), (.int 1000)]) (lenOf pai rfl) at_337 fun _ T283 _ X hQ283 => ?_
     obtain ⟨h283, u⟩ : ∃ h', T283.heap = h' := ⟨_, rfl⟩
     rw [u] at hQ283
     obtain ⟨rfl, Nq283, I283⟩ := hQ283
     have Lo283 := I283.lo.1
     refine sa C X at_340 ?_
     refine sa C X at_342 ?_
     refine sa C X at_344 ?_
     refine si C X at_346 ?_
     refine sC C X at_348 ?_
     have f284 := (((BJ26.ext E30).low Lo31 lt_b3).low Lo283 lt_b3)
     have f285 := (((BJ27.ext E30).low Lo31 lt_b8).low Lo283 lt_b8)
     have f286 := (((f29.ext E30).low Lo31 lt_b14).low Lo283 lt_b14)
     refine cS C X u (rm_ar l Z a0 hw b3 b8 b14 (-1 : Int32) (0 : Int32) lt lp0 (fun _ => (0 : Int32))  h283 n0 (Nat.le_trans hn01 (Nat.le_trans g1o (Nat.le_of_lt I283.lo.2.lt))) f284 f285 f286 ge_b8 ge_b14 ne_b3_b8 ne_b3_b14 ne_b8_b14 hw0.lt (by decide)) (W := 0) (waM C.w) (waN C.w) (waP C.w) (waO C.w) (argsL := [(.ref b3), (.ref b8), (.ref b14), (.int (-1 : Int32)), (.int 0)]) (lenOf par rfl) at_349 fun _ T287 _ X hQ287 => ?_
     obtain ⟨h287, u⟩ : ∃ h', T287.heap = h' := ⟨_, rfl⟩
     rw [u] at hQ287
     obtain ⟨⟨r287, lp287, lv287, rfl, J287, B287, A287⟩, Nq287, Kc287, Sc287⟩ := hQ287
     refine wi C X (oF q0 q1 i2 i3 q4 i5 u1 u2 u3 u4 v1 v2 v3 v4 z1 z2 z3 z4 z5 z6 z7 dt qq b3 b8 b14 b17 b21 b30 r287 oU oU oU) at_352 ?_
     have f288 := (f284.keep Kc287 (ninS ne_b3_b8 (ninS ne_b3_b14 nin0)))
     have f289 := ((own_Lo.arv Lo283 (own_Lo.arv Lo31 (f25.ext E30) lt_b17) lt_b17).keep Kc287 (ninS ne_b8_b17.symm (ninS ne_b14_b17.symm nin0)))
     have f290 := ((own_Lo.arv Lo283 (own_Lo.arv Lo31 (V21.ext E30) lt_b21) lt_b21).keep Kc287 (ninS ne_b8_b21.symm (ninS ne_b14_b21.symm nin0)))
     have I291 := I283.hi ((own_Hi.refl Z n1 h283).keep Kc287 Sc287 (allS (P := fun x => x < n1) lt_b8 (allS (P := fun x => x < n1) lt_b14 all0)))
     have Q292 := own_ar (Or.inl ⟨rfl, rfl⟩) hw0 A287
     exact B354 _ _ _ _ _ _ _ _ (own_addP u1 v1 []) X u (((N.app (own_Frm Nq31 hn01)).app (own_Frm Nq283 hn01)).app Nq287) f288 J287 B287 f289 f290 I291 Q292.1.2 (by rw [Q292.1.1, hlt_0, hlp0_0, ← hP]) ⟨(Q292.2 (1 : Int32) (by decide)).trans hlp0_1, (Q292.2 (2 : Int32) (by decide)).trans hlp0_2, (Q292.2 (3 : Int32) (by decide)).trans hlp0_3⟩
 refine si C X at_221 ?_
 by_cases hb223_293 : z1 = (0 : Int32)
 · refine bY C X at_223 231 ((if0 _ _).trans (teq hb223_293).1) ?_
   refine sl C X at_231 ?_
   refine sl C X at_233 ?_
   refine kJ C X (wbq C.w) at_235 ?_
   refine tA C X at_238 ?_
   refine tP C X at_239 ?_
   refine kJ C X (wac C.w) at_240 ?_
   refine tS C X at_243 ?_
   exact B244 _
 · refine bN C X at_223 ((if0 _ _).trans (feq hb223_293).1) ?_
   refine sl C X at_226 ?_
   refine sG C X at_228 244 ?_
   exact B244 _
theorem own_sta1 {args : Array Value} {s : State} {C n d : String} {k : Int32} (h1 : (Jvm.Cond.initializedFor C n d).before args s = true) (h2 : (Jvm.Cond.eq (Jvm.Term.static C n d) (Jvm.Term.int k)).before args s = true) : Sta s s.heap C n d (.int k) := by
 have h := Cond.before_iff.mp h2
 obtain ⟨x, y, e1, e2, -, hk⟩ := cmp_v (Or.inl h)
 have h2' : y = .int k := by simpa [Term.eval] using e2.symm
 subst h2'
 obtain ⟨z, rfl⟩ := hk
 have h4 : z = k := by simpa [Cond.value, e1, e2] using h
 subst h4
 exact Sta.start e1 (Or.inl h1)
theorem comes_1 {Post : Tables → Env → Array Value → State → Outcome → State → Prop} (hpost : ∀ tb e args s v u, (limb_1_1.after args s (.returned v) u = true ∧ limb_1_2.after args s (.returned v) u = true ∧ True) → FrameEnd s (.returned v) u (Jvm.fieldLocs frame_1_writes args s ++ Jvm.arrayLocs frame_1_arrays args s ++ Jvm.staticLocs frame_1_statics s) 56 256 → Post tb e args s (.returned v) u) :
   ArmFor flags0 classFile x code maxLocals ret World_1 tables_1 room_1 Calls_1 rest_1 Pre_1 Post := by
 intro l hfl _ _ p e ha hc hk s m args below hf hA hF happ hP
 obtain ⟨hcalls, hrest, hpre⟩ := hP
 obtain ⟨-, -, -, hnamed, -, -, -, hat⟩ := (Spec.applies_iff hf).mp happ
 obtain ⟨hg, hn⟩ := and_e (Cond.before_iff.mp (show (Jvm.Cond.and given_1 narrow_1).before args s = true from hpre))
 obtain ⟨g0, r0⟩ := and_e hg
 obtain ⟨g1, r1⟩ := and_e r0
 obtain ⟨g2, r2⟩ := and_e r1
 obtain ⟨g3, r3⟩ := and_e r2
 obtain ⟨g4, r4⟩ := and_e r3
 obtain ⟨g5, r5⟩ := and_e r4
 obtain ⟨w0, w1, w2, w3, w4, w5, rfl⟩ : ∃ w0 w1 w2 w3 w4 w5 : Value, args = #[w0, w1, w2, w3, w4, w5] := by
   have hs : args.size = 6 := by simpa [Cond.value, given_1] using g0
   obtain ⟨L⟩ := args
   match L, hs with
   | [w0, w1, w2, w3, w4, w5], _ => exact ⟨w0, w1, w2, w3, w4, w5, rfl⟩
 have hw := fun d (hd : d ∈ tables_1) => atoms_spec (ws := Jvm.Cond.code x code maxLocals ret :: tables_1) hat d (List.mem_cons_of_mem _ hd)
 obtain ⟨hsets, hown0⟩ := atoms_of _ (rest_1_c_eq ▸ (show rest_1_c.before _ s = true from hrest))
 obtain ⟨i0, ei0⟩ := isL_v g1
 obtain rfl : w0 = (.long i0) := Option.some.inj ei0
 obtain ⟨i1, ei1⟩ := isL_v g2
 obtain rfl : w1 = (.long i1) := Option.some.inj ei1
 obtain ⟨i2, ei2⟩ := is_v g3
 obtain rfl : w2 = (.int i2) := Option.some.inj ei2
 obtain ⟨i3, ei3⟩ := is_v g4
 obtain rfl : w3 = (.int i3) := Option.some.inj ei3
 obtain ⟨i4, ei4⟩ := isL_v g5
 obtain rfl : w4 = (.long i4) := Option.some.inj ei4
 obtain ⟨i5, ei5⟩ := is_v r5
 obtain rfl : w5 = (.int i5) := Option.some.inj ei5
 have Sta0 : Sta s s.heap oB "$assertionsDisabled" "Z" (.int 1) := own_sta1 (hsets _ (List.mem_of_getElem? (i := 1) rfl)) (hsets _ (List.mem_of_getElem? (i := 2) rfl))
 obtain ⟨n, o, h1, h2, h3, _, L, rfl, ⟨rfl, N⟩, hq⟩ := rm0 l s _ hw i0 i1 i2 i3 i4 i5 s.heap s.heap.size (Nat.le_refl _) Sta0 tables_1 p e ha hc hk s m _ below hf ((Spec.applies_iff_loose hf).mp happ).1 ⟨rfl, State.Warmed39.refl s, rfl⟩ trivial
 refine ⟨n, _, h1, h2, h3, hpost _ _ _ _ _ _ ⟨Cond.after_iff.mpr rfl, Cond.after_iff.mpr (eq_i res_at (Term.int_eval (1)) rfl), trivial⟩ ⟨hq.1, hq.2.1, (hq.2.2.sift fun y hy => Or.inr (N y hy)).mono (by decide) (by decide)⟩⟩
theorem main_1_1 : Claimed_1_1 := comes_1 fun _ _ _ _ _ _ h hF => ⟨h.1, hF⟩
theorem main_1_2 : Claimed_1_2 := comes_1 fun _ _ _ _ _ _ h hF => ⟨h.2.1, hF⟩
end Jvm.Pilot.@@N@@
namespace Jvm.Pilot.@@N@@
open Jvm Jvm.ClassFile Sem Op Lib Jvm.Free Jvm.Stand Jvm.Pilot.@@N@@.Jvm.D
/-! MADE BY PROGRAM (witnessworld.py) out of the Statement's table words and the real class files: 23 classes; the members and pool entries that the words name. The judged class is class 1, her method 3. -/
namespace start1
open Jvm.ClassFile
def u (s : String) : CpInfo := .utf8 (stringToUtf16 s)
/-- a pool by its gaps: so many unusable entries, then the entry; so many at the end -/
def gap : Nat → List CpInfo → List CpInfo
  | 0, r => r
  | n + 1, r => .unusable :: gap n r
def poolList (es : List (Nat × CpInfo)) (last : Nat) : List CpInfo := es.foldr (fun e r => gap e.1 (e.2 :: r)) (gap last [])
def pool (es : List (Nat × CpInfo)) (last : Nat) : Array CpInfo := ⟨poolList es last⟩
def fileOf (pool : Array CpInfo) (this : Nat) (attrs : Array Attribute := #[]) (ms : Array MethodInfo := #[]) (fl : Nat := 33) (sup : Nat := 0) (ifs : Array Nat := #[]) (fds : Array FieldInfo := #[]) : ClassFile where
  minorVersion := 0
  majorVersion := 65
  constantPool := pool
  accessFlags := fl
  thisClass := this
  superClass := sup
  interfaces := ifs
  fields := fds
  methods := ms
  attributes := attrs
def plain (name : String) (sup : Option ClassId) : Class where
  name := name
  kind := .ordinary
  loader := none
  accessFlags := 33
  super := sup
  interfaces := #[]
  cf := none
  fields := #[]
  methods := #[]
  instanceTypes := #[]
  staticTypes := #[]
  resolved := #[]
  callSites := []
  init := .initialized
  statics := none
  mirror := none

def pool0 : Array CpInfo := pool [(5, u "<init>"), (0, u "()V"), (1, .class_ 10), (1, u "java/lang/Object")] 113

def k0c0 : Code := { maxStack := 0, maxLocals := 1, code := object_method_1_code, exceptionTable := #[], attributes := #[] }
def k0m0 : Method := { name := "<init>", desc := "()V", sig := { parameters := [], returnType := none }, accessFlags := 1, code := some k0c0 }
/-- java/lang/Object -/
def k0 : Class := { plain "java/lang/Object" none with
  accessFlags := 33
  interfaces := #[]
  cf := some (fileOf pool0 8 #[] #[{ accessFlags := 1, nameIndex := 5, descriptorIndex := 6, attributes := #[] }] 33 0 #[] #[])
  fields := #[]
  methods := #[k0m0]
  instanceTypes := #[]
  staticTypes := #[]
  resolved := Array.replicate 124 none
  statics := none }

def pool1 : Array CpInfo := pool [(2, .class_ 4), (0, .nameAndType 5 6), (0, u "java/lang/Object"), (0, u "<init>"), (0, u "()V"), (2, .long 9223372036854775816), (1, .long 9223372036854775743), (1, .methodref 14 15), (0, .class_ 16), (0, .nameAndType 17 18), (0, u "java/lang/Math"), (0, u "min"), (0, u "(JJ)J"), (0, .methodref 14 20), (0, .nameAndType 21 18), (0, u "max"), (0, .long 1125899906842623), (1, .long 4), (1, .long 31), (1, .class_ 29), (0, u "com/example/throttlua/throttlua/slidinglog/SubjectLog"), (0, .methodref 28 3), (0, .methodref 28 32), (0, .nameAndType 33 34), (0, u "add"), (0, u "(JJI)V"), (0, .methodref 36 37), (0, .class_ 38), (0, .nameAndType 39 40), (0, u "com/example/throttlua/throttlua/slidinglog/SubjectLogTakenAfterPinLaw"), (0, u "addRef"), (0, u "([J[J[ZII)I"), (0, .methodref 28 42), (0, .nameAndType 43 44), (0, u "dropUpTo"), (0, u "(J)V"), (0, .methodref 28 46), (0, .nameAndType 47 48), (0, u "shrink"), (0, u "()Z"), (0, .methodref 36 50), (0, .nameAndType 51 52), (0, u "after"), (0, u "([J[JIIJ)J"), (0, .methodref 28 54), (0, .nameAndType 55 56), (0, u "takenAfter"), (0, u "(J)J"), (3, u "law"), (0, u "(JJIIJI)Z")] 6

def k1m0 : Method := { name := "<init>", desc := "()V", sig := { parameters := [], returnType := none }, accessFlags := 1, code := none }
def k1c1 : Code := { maxStack := 6, maxLocals := 5, code := method_2_code, exceptionTable := #[], attributes := #[] }
def k1m1 : Method := { name := "addRef", desc := "([J[J[ZII)I", sig := { parameters := [(.array .long), (.array .long), (.array .boolean), .int, .int], returnType := some .int }, accessFlags := 10, code := some k1c1 }
def k1c2 : Code := { maxStack := 4, maxLocals := 6, code := method_3_code, exceptionTable := #[], attributes := #[] }
def k1m2 : Method := { name := "after", desc := "([J[JIIJ)J", sig := { parameters := [(.array .long), (.array .long), .int, .int, .long], returnType := some .long }, accessFlags := 10, code := some k1c2 }
def k1c3 : Code := { maxStack := 8, maxLocals := 46, code := code, exceptionTable := #[], attributes := #[] }
def k1m3 : Method := { name := "law", desc := "(JJIIJI)Z", sig := { parameters := [.long, .long, .int, .int, .long, .int], returnType := some .boolean }, accessFlags := 9, code := some k1c3 }
/-- com/example/throttlua/throttlua/slidinglog/SubjectLogTakenAfterPinLaw -/
def k1 : Class := { plain "com/example/throttlua/throttlua/slidinglog/SubjectLogTakenAfterPinLaw" (some 0) with
  accessFlags := 49
  interfaces := #[]
  cf := some (fileOf pool1 36 #[] #[{ accessFlags := 1, nameIndex := 5, descriptorIndex := 6, attributes := #[] }, { accessFlags := 10, nameIndex := 39, descriptorIndex := 40, attributes := #[] }, { accessFlags := 10, nameIndex := 51, descriptorIndex := 52, attributes := #[] }, { accessFlags := 9, nameIndex := 60, descriptorIndex := 61, attributes := #[] }] 49 2 #[] #[])
  fields := #[]
  methods := #[k1m0, k1m1, k1m2, k1m3]
  instanceTypes := #[]
  staticTypes := #[]
  resolved := Array.replicate 68 none
  statics := none }

def pool2 : Array CpInfo := pool [(1, .class_ 2), (0, u "java/lang/Math"), (1, .class_ 6), (1, u "java/lang/Object"), (0, u "<init>"), (0, u "()V"), (89, .class_ 100), (1, u "java/lang/Math$RandomNumberGeneratorHolder"), (20, u "(JJ)J"), (50, u "negativeZeroFloatBits"), (0, u "J"), (2, u "negativeZeroDoubleBits"), (21, u "max"), (2, u "min"), (43, u "$assertionsDisabled"), (0, u "Z"), (88, u "(II)I"), (2, u "twoToTheDoubleScaleDown"), (0, u "D"), (4, u "twoToTheDoubleScaleUp"), (9, u "E"), (3, u "PI"), (2, u "TAU"), (2, u "DEGREES_TO_RADIANS"), (0, u "RADIANS_TO_DEGREES")] 94

def k2m0 : Method := { name := "<init>", desc := "()V", sig := { parameters := [], returnType := none }, accessFlags := 2, code := none }
def k2c1 : Code := { maxStack := 2, maxLocals := 2, code := jdk_29_method_65_code, exceptionTable := #[], attributes := #[] }
def k2m1 : Method := { name := "max", desc := "(II)I", sig := { parameters := [.int, .int], returnType := some .int }, accessFlags := 9, code := some k2c1 }
def k2c2 : Code := { maxStack := 4, maxLocals := 4, code := jdk_29_method_66_code, exceptionTable := #[], attributes := #[] }
def k2m2 : Method := { name := "max", desc := "(JJ)J", sig := { parameters := [.long, .long], returnType := some .long }, accessFlags := 9, code := some k2c2 }
def k2c3 : Code := { maxStack := 4, maxLocals := 4, code := jdk_29_method_70_code, exceptionTable := #[], attributes := #[] }
def k2m3 : Method := { name := "min", desc := "(JJ)J", sig := { parameters := [.long, .long], returnType := some .long }, accessFlags := 9, code := some k2c3 }
/-- java/lang/Math -/
def k2 : Class := { plain "java/lang/Math" (some 0) with
  accessFlags := 49
  interfaces := #[]
  cf := some (fileOf pool2 1 #[.nestMembers #[98]] #[{ accessFlags := 2, nameIndex := 7, descriptorIndex := 8, attributes := #[] }, { accessFlags := 9, nameIndex := 198, descriptorIndex := 335, attributes := #[] }, { accessFlags := 9, nameIndex := 198, descriptorIndex := 121, attributes := #[] }, { accessFlags := 9, nameIndex := 201, descriptorIndex := 121, attributes := #[] }] 49 4 #[] #[{ accessFlags := 25, nameIndex := 354, descriptorIndex := 339, attributes := #[] }, { accessFlags := 25, nameIndex := 358, descriptorIndex := 339, attributes := #[] }, { accessFlags := 25, nameIndex := 361, descriptorIndex := 339, attributes := #[] }, { accessFlags := 26, nameIndex := 364, descriptorIndex := 339, attributes := #[] }, { accessFlags := 26, nameIndex := 365, descriptorIndex := 339, attributes := #[] }, { accessFlags := 26, nameIndex := 172, descriptorIndex := 173, attributes := #[] }, { accessFlags := 26, nameIndex := 176, descriptorIndex := 173, attributes := #[] }, { accessFlags := 8, nameIndex := 344, descriptorIndex := 339, attributes := #[] }, { accessFlags := 8, nameIndex := 338, descriptorIndex := 339, attributes := #[] }, { accessFlags := 4120, nameIndex := 245, descriptorIndex := 246, attributes := #[] }])
  fields := #[{ name := "E", type := .double, accessFlags := 25, slot := 0, constantValue := 0 }, { name := "PI", type := .double, accessFlags := 25, slot := 1, constantValue := 0 }, { name := "TAU", type := .double, accessFlags := 25, slot := 2, constantValue := 0 }, { name := "DEGREES_TO_RADIANS", type := .double, accessFlags := 26, slot := 3, constantValue := 0 }, { name := "RADIANS_TO_DEGREES", type := .double, accessFlags := 26, slot := 4, constantValue := 0 }, { name := "negativeZeroFloatBits", type := .long, accessFlags := 26, slot := 5, constantValue := 0 }, { name := "negativeZeroDoubleBits", type := .long, accessFlags := 26, slot := 6, constantValue := 0 }, { name := "twoToTheDoubleScaleUp", type := .double, accessFlags := 8, slot := 7, constantValue := 0 }, { name := "twoToTheDoubleScaleDown", type := .double, accessFlags := 8, slot := 8, constantValue := 0 }, { name := "$assertionsDisabled", type := .boolean, accessFlags := 4120, slot := 9, constantValue := 0 }]
  methods := #[k2m0, k2m1, k2m2, k2m3]
  instanceTypes := #[]
  staticTypes := #[.double, .double, .double, .double, .double, .long, .long, .double, .double, .boolean]
  resolved := Array.replicate 460 none
  statics := none }

def pool3 : Array CpInfo := pool [(1, .class_ 2), (0, u "com/example/throttlua/throttlua/failure/LocalState"), (0, .class_ 4), (0, u "java/lang/Object")] 8

/-- com/example/throttlua/throttlua/failure/LocalState -/
def k3 : Class := { plain "com/example/throttlua/throttlua/failure/LocalState" (some 0) with
  accessFlags := 1537
  interfaces := #[]
  cf := some (fileOf pool3 1 #[] #[] 1537 3 #[] #[])
  fields := #[]
  methods := #[]
  instanceTypes := #[]
  staticTypes := #[]
  resolved := Array.replicate 13 none
  statics := none }

def pool4 : Array CpInfo := pool [(3, .methodref 4 5), (0, .class_ 6), (0, .nameAndType 7 8), (0, u "java/lang/Object"), (0, u "<init>"), (0, u "()V"), (0, .fieldref 10 11), (0, .class_ 12), (0, .nameAndType 13 14), (0, u "com/example/throttlua/throttlua/slidinglog/SubjectLog"), (0, u "times"), (0, u "[J"), (0, .fieldref 10 16), (0, .nameAndType 17 14), (0, u "froms"), (0, .fieldref 10 19), (0, .nameAndType 20 14), (0, u "totals"), (0, .fieldref 10 22), (0, .nameAndType 23 14), (0, u "spans"), (0, .class_ 25), (0, u "java/util/BitSet"), (0, .methodref 24 5), (0, .fieldref 10 28), (0, .nameAndType 29 30), (0, u "entries"), (0, u "Ljava/util/BitSet;"), (0, .fieldref 10 32), (0, .nameAndType 33 34), (0, u "size"), (0, u "I"), (0, .fieldref 10 36), (0, .nameAndType 37 34), (0, u "end"), (0, .methodref 10 39), (0, .nameAndType 40 41), (0, u "oldestAfter"), (0, u "(J)I"), (0, .methodref 10 43), (0, .nameAndType 44 45), (0, u "totalBefore"), (0, u "(I)J"), (0, .methodref 10 47), (0, .nameAndType 48 49), (0, u "firstSlotPast"), (0, u "([JJJI)I"), (0, .methodref 24 51), (0, .nameAndType 52 53), (0, u "nextSetBit"), (0, u "(I)I"), (0, .fieldref 10 55), (0, .nameAndType 56 34), (0, u "first"), (0, .fieldref 10 58), (0, .nameAndType 59 60), (0, u "base"), (0, u "J"), (0, .methodref 24 62), (0, .nameAndType 63 64), (0, u "clear"), (0, u "(I)V"), (0, .long 9223372036854775807), (1, .methodref 10 68), (0, .nameAndType 69 70), (0, u "setSpan"), (0, u "(IJ)V"), (0, .methodref 24 72), (0, .nameAndType 73 53), (0, u "previousSetBit"), (0, .long 8), (1, .methodref 77 78), (0, .class_ 79), (0, .nameAndType 80 53), (0, u "java/lang/Integer"), (0, u "highestOneBit"), (0, .methodref 82 83), (0, .class_ 84), (0, .nameAndType 85 86), (0, u "java/lang/Math"), (0, u "max"), (0, u "(II)I"), (0, .methodref 10 88), (0, .nameAndType 89 64), (0, u "moveTo"), (0, .methodref 24 91), (0, .nameAndType 92 64), (0, u "set"), (0, .methodref 10 94), (0, .nameAndType 95 96), (0, u "shrink"), (0, u "()Z"), (0, .methodref 10 98), (0, .nameAndType 99 100), (0, u "shortest"), (0, u "()I"), (0, .methodref 82 102), (0, .nameAndType 103 104), (0, u "min"), (0, u "(JJ)J"), (0, .methodref 24 106), (0, .nameAndType 7 64), (0, .methodref 24 108), (0, .nameAndType 63 8), (0, .methodref 24 110), (0, .nameAndType 92 111), (0, u "(II)V"), (0, .methodref 113 114), (0, .class_ 115), (0, .nameAndType 116 117), (0, u "java/util/Arrays"), (0, u "fill"), (0, u "([JIIJ)V"), (0, .class_ 119), (0, u "com/example/throttlua/throttlua/failure/LocalState"), (0, u "FEWEST_SLOTS"), (2, u "NO_SPAN"), (4, u "takenAfter"), (0, u "(J)J"), (2, u "dropUpTo"), (0, u "(J)V"), (0, u "add"), (0, u "(JJI)V")] 4

def k4c0 : Code := { maxStack := 3, maxLocals := 1, code := prog_30_method_1_code, exceptionTable := #[], attributes := #[] }
def k4m0 : Method := { name := "<init>", desc := "()V", sig := { parameters := [], returnType := none }, accessFlags := 0, code := some k4c0 }
def k4c1 : Code := { maxStack := 6, maxLocals := 5, code := prog_30_method_4_code, exceptionTable := #[], attributes := #[] }
def k4m1 : Method := { name := "takenAfter", desc := "(J)J", sig := { parameters := [.long], returnType := some .long }, accessFlags := 0, code := some k4c1 }
def k4c2 : Code := { maxStack := 4, maxLocals := 4, code := prog_30_method_6_code, exceptionTable := #[], attributes := #[] }
def k4m2 : Method := { name := "dropUpTo", desc := "(J)V", sig := { parameters := [.long], returnType := none }, accessFlags := 0, code := some k4c2 }
def k4c3 : Code := { maxStack := 7, maxLocals := 9, code := prog_30_method_7_code, exceptionTable := #[], attributes := #[] }
def k4m3 : Method := { name := "add", desc := "(JJI)V", sig := { parameters := [.long, .long, .int], returnType := none }, accessFlags := 0, code := some k4c3 }
def k4c4 : Code := { maxStack := 6, maxLocals := 6, code := prog_30_method_9_code, exceptionTable := #[], attributes := #[] }
def k4m4 : Method := { name := "shrink", desc := "()Z", sig := { parameters := [], returnType := some .boolean }, accessFlags := 1, code := some k4c4 }
def k4c5 : Code := { maxStack := 8, maxLocals := 3, code := prog_30_method_10_code, exceptionTable := #[], attributes := #[] }
def k4m5 : Method := { name := "oldestAfter", desc := "(J)I", sig := { parameters := [.long], returnType := some .int }, accessFlags := 2, code := some k4c5 }
def k4c6 : Code := { maxStack := 3, maxLocals := 3, code := prog_30_method_11_code, exceptionTable := #[], attributes := #[] }
def k4m6 : Method := { name := "totalBefore", desc := "(I)J", sig := { parameters := [.int], returnType := some .long }, accessFlags := 2, code := some k4c6 }
def k4c7 : Code := { maxStack := 4, maxLocals := 10, code := prog_30_method_12_code, exceptionTable := #[], attributes := #[] }
def k4m7 : Method := { name := "firstSlotPast", desc := "([JJJI)I", sig := { parameters := [(.array .long), .long, .long, .int], returnType := some .int }, accessFlags := 2, code := some k4c7 }
def k4c8 : Code := { maxStack := 5, maxLocals := 3, code := prog_30_method_13_code, exceptionTable := #[], attributes := #[] }
def k4m8 : Method := { name := "shortest", desc := "()I", sig := { parameters := [], returnType := some .int }, accessFlags := 2, code := some k4c8 }
def k4c9 : Code := { maxStack := 5, maxLocals := 7, code := prog_30_method_14_code, exceptionTable := #[], attributes := #[] }
def k4m9 : Method := { name := "setSpan", desc := "(IJ)V", sig := { parameters := [.int, .long], returnType := none }, accessFlags := 2, code := some k4c9 }
def k4c10 : Code := { maxStack := 7, maxLocals := 8, code := prog_30_method_15_code, exceptionTable := #[], attributes := #[] }
def k4m10 : Method := { name := "moveTo", desc := "(I)V", sig := { parameters := [.int], returnType := none }, accessFlags := 2, code := some k4c10 }
/-- com/example/throttlua/throttlua/slidinglog/SubjectLog -/
def k4 : Class := { plain "com/example/throttlua/throttlua/slidinglog/SubjectLog" (some 0) with
  accessFlags := 48
  interfaces := #[3]
  cf := some (fileOf pool4 10 #[] #[{ accessFlags := 0, nameIndex := 7, descriptorIndex := 8, attributes := #[] }, { accessFlags := 0, nameIndex := 128, descriptorIndex := 129, attributes := #[] }, { accessFlags := 0, nameIndex := 132, descriptorIndex := 133, attributes := #[] }, { accessFlags := 0, nameIndex := 134, descriptorIndex := 135, attributes := #[] }, { accessFlags := 1, nameIndex := 95, descriptorIndex := 96, attributes := #[] }, { accessFlags := 2, nameIndex := 40, descriptorIndex := 41, attributes := #[] }, { accessFlags := 2, nameIndex := 44, descriptorIndex := 45, attributes := #[] }, { accessFlags := 2, nameIndex := 48, descriptorIndex := 49, attributes := #[] }, { accessFlags := 2, nameIndex := 99, descriptorIndex := 100, attributes := #[] }, { accessFlags := 2, nameIndex := 69, descriptorIndex := 70, attributes := #[] }, { accessFlags := 2, nameIndex := 89, descriptorIndex := 64, attributes := #[] }] 48 4 #[118] #[{ accessFlags := 26, nameIndex := 120, descriptorIndex := 34, attributes := #[] }, { accessFlags := 26, nameIndex := 123, descriptorIndex := 60, attributes := #[] }, { accessFlags := 2, nameIndex := 13, descriptorIndex := 14, attributes := #[] }, { accessFlags := 2, nameIndex := 17, descriptorIndex := 14, attributes := #[] }, { accessFlags := 2, nameIndex := 20, descriptorIndex := 14, attributes := #[] }, { accessFlags := 2, nameIndex := 23, descriptorIndex := 14, attributes := #[] }, { accessFlags := 2, nameIndex := 29, descriptorIndex := 30, attributes := #[] }, { accessFlags := 2, nameIndex := 56, descriptorIndex := 34, attributes := #[] }, { accessFlags := 2, nameIndex := 37, descriptorIndex := 34, attributes := #[] }, { accessFlags := 2, nameIndex := 33, descriptorIndex := 34, attributes := #[] }, { accessFlags := 2, nameIndex := 59, descriptorIndex := 60, attributes := #[] }])
  fields := #[{ name := "FEWEST_SLOTS", type := .int, accessFlags := 26, slot := 0, constantValue := 0 }, { name := "NO_SPAN", type := .long, accessFlags := 26, slot := 1, constantValue := 0 }, { name := "times", type := (.array .long), accessFlags := 2, slot := 0, constantValue := 0 }, { name := "froms", type := (.array .long), accessFlags := 2, slot := 1, constantValue := 0 }, { name := "totals", type := (.array .long), accessFlags := 2, slot := 2, constantValue := 0 }, { name := "spans", type := (.array .long), accessFlags := 2, slot := 3, constantValue := 0 }, { name := "entries", type := (.object "java/util/BitSet"), accessFlags := 2, slot := 4, constantValue := 0 }, { name := "first", type := .int, accessFlags := 2, slot := 5, constantValue := 0 }, { name := "end", type := .int, accessFlags := 2, slot := 6, constantValue := 0 }, { name := "size", type := .int, accessFlags := 2, slot := 7, constantValue := 0 }, { name := "base", type := .long, accessFlags := 2, slot := 8, constantValue := 0 }]
  methods := #[k4m0, k4m1, k4m2, k4m3, k4m4, k4m5, k4m6, k4m7, k4m8, k4m9, k4m10]
  instanceTypes := #[(.array .long), (.array .long), (.array .long), (.array .long), (.object "java/util/BitSet"), .int, .int, .int, .long]
  staticTypes := #[.int, .long]
  resolved := Array.replicate 140 none
  statics := none }

def pool5 : Array CpInfo := pool [(1, .class_ 2), (0, u "java/lang/Cloneable"), (0, .class_ 4), (0, u "java/lang/Object")] 2

/-- java/lang/Cloneable -/
def k5 : Class := { plain "java/lang/Cloneable" (some 0) with
  accessFlags := 1537
  interfaces := #[]
  cf := some (fileOf pool5 1 #[] #[] 1537 3 #[] #[])
  fields := #[]
  methods := #[]
  instanceTypes := #[]
  staticTypes := #[]
  resolved := Array.replicate 7 none
  statics := none }

def pool6 : Array CpInfo := pool [(1, .class_ 2), (0, u "java/io/Serializable"), (0, .class_ 4), (0, u "java/lang/Object")] 2

/-- java/io/Serializable -/
def k6 : Class := { plain "java/io/Serializable" (some 0) with
  accessFlags := 1537
  interfaces := #[]
  cf := some (fileOf pool6 1 #[] #[] 1537 3 #[] #[])
  fields := #[]
  methods := #[]
  instanceTypes := #[]
  staticTypes := #[]
  resolved := Array.replicate 7 none
  statics := none }

def pool7 : Array CpInfo := pool [(1, .class_ 2), (0, u "java/util/BitSet"), (0, .fieldref 1 4), (0, .nameAndType 5 6), (0, u "$assertionsDisabled"), (0, u "Z"), (0, .fieldref 1 8), (0, .nameAndType 9 10), (0, u "wordsInUse"), (0, u "I"), (0, .fieldref 1 12), (0, .nameAndType 13 14), (0, u "words"), (0, u "[J"), (3, .nameAndType 19 20), (0, u "<init>"), (0, u "()V"), (0, .methodref 22 18), (0, .class_ 23), (0, u "java/lang/Object"), (0, .fieldref 1 25), (0, .nameAndType 26 6), (0, u "sizeIsSticky"), (0, .methodref 1 28), (0, .nameAndType 29 30), (0, u "initWords"), (0, u "(I)V"), (21, .methodref 1 53), (0, .nameAndType 54 55), (0, u "wordIndex"), (0, u "(I)I"), (0, .methodref 1 57), (0, .nameAndType 58 20), (0, u "checkInvariants"), (80, .methodref 1 140), (0, .nameAndType 141 30), (0, u "ensureCapacity"), (13, .methodref 1 156), (0, .nameAndType 157 30), (0, u "expandTo"), (0, .methodref 1 159), (0, .nameAndType 160 20), (0, u "recalculateWordsInUse"), (0, .methodref 1 162), (0, .nameAndType 163 164), (0, u "checkRange"), (0, u "(II)V"), (0, .long 18446744073709551615), (3, u "set"), (2, u "clear"), (9, .methodref 183 184), (0, .class_ 185), (0, .nameAndType 186 187), (0, u "java/lang/Long"), (0, u "numberOfTrailingZeros"), (0, u "(J)I"), (2, .methodref 183 191), (0, .nameAndType 192 187), (0, u "numberOfLeadingZeros"), (70, u "nextSetBit"), (5, .class_ 270), (0, u "java/util/BitSet$1BitSetSpliterator"), (22, u "serialPersistentFields"), (0, u "[Ljava/io/ObjectStreamField;"), (0, .class_ 296), (0, u "java/lang/Cloneable"), (0, .class_ 298), (0, u "java/io/Serializable"), (0, u "ADDRESS_BITS_PER_WORD"), (2, u "BITS_PER_WORD"), (1, u "BIT_INDEX_MASK"), (1, u "WORD_MASK"), (0, u "J"), (0, u "serialVersionUID"), (50, u "previousSetBit")] 57

def k7c0 : Code := { maxStack := 2, maxLocals := 1, code := jdk_92_method_1_code, exceptionTable := #[], attributes := #[] }
def k7m0 : Method := { name := "wordIndex", desc := "(I)I", sig := { parameters := [.int], returnType := some .int }, accessFlags := 10, code := some k7c0 }
def k7c1 : Code := { maxStack := 4, maxLocals := 1, code := jdk_92_method_2_code, exceptionTable := #[], attributes := #[] }
def k7m1 : Method := { name := "checkInvariants", desc := "()V", sig := { parameters := [], returnType := none }, accessFlags := 2, code := some k7c1 }
def k7c2 : Code := { maxStack := 4, maxLocals := 2, code := jdk_92_method_3_code, exceptionTable := #[], attributes := #[] }
def k7m2 : Method := { name := "recalculateWordsInUse", desc := "()V", sig := { parameters := [], returnType := none }, accessFlags := 2, code := some k7c2 }
def k7c3 : Code := { maxStack := 2, maxLocals := 1, code := jdk_92_method_4_code, exceptionTable := #[], attributes := #[] }
def k7m3 : Method := { name := "<init>", desc := "()V", sig := { parameters := [], returnType := none }, accessFlags := 1, code := some k7c3 }
def k7c4 : Code := { maxStack := 4, maxLocals := 2, code := jdk_92_method_5_code, exceptionTable := #[], attributes := #[] }
def k7m4 : Method := { name := "<init>", desc := "(I)V", sig := { parameters := [.int], returnType := none }, accessFlags := 1, code := some k7c4 }
def k7c5 : Code := { maxStack := 3, maxLocals := 2, code := jdk_92_method_6_code, exceptionTable := #[], attributes := #[] }
def k7m5 : Method := { name := "initWords", desc := "(I)V", sig := { parameters := [.int], returnType := none }, accessFlags := 2, code := some k7c5 }
def k7c6 : Code := { maxStack := 3, maxLocals := 3, code := jdk_92_method_14_code, exceptionTable := #[], attributes := #[] }
def k7m6 : Method := { name := "ensureCapacity", desc := "(I)V", sig := { parameters := [.int], returnType := none }, accessFlags := 2, code := some k7c6 }
def k7c7 : Code := { maxStack := 2, maxLocals := 3, code := jdk_92_method_15_code, exceptionTable := #[], attributes := #[] }
def k7m7 : Method := { name := "expandTo", desc := "(I)V", sig := { parameters := [.int], returnType := none }, accessFlags := 2, code := some k7c7 }
def k7c8 : Code := { maxStack := 4, maxLocals := 2, code := jdk_92_method_16_code, exceptionTable := #[], attributes := #[] }
def k7m8 : Method := { name := "checkRange", desc := "(II)V", sig := { parameters := [.int, .int], returnType := none }, accessFlags := 10, code := some k7c8 }
def k7c9 : Code := { maxStack := 7, maxLocals := 3, code := jdk_92_method_19_code, exceptionTable := #[], attributes := #[] }
def k7m9 : Method := { name := "set", desc := "(I)V", sig := { parameters := [.int], returnType := none }, accessFlags := 1, code := some k7c9 }
def k7c10 : Code := { maxStack := 8, maxLocals := 10, code := jdk_92_method_21_code, exceptionTable := #[], attributes := #[] }
def k7m10 : Method := { name := "set", desc := "(II)V", sig := { parameters := [.int, .int], returnType := none }, accessFlags := 1, code := some k7c10 }
def k7c11 : Code := { maxStack := 8, maxLocals := 3, code := jdk_92_method_23_code, exceptionTable := #[], attributes := #[] }
def k7m11 : Method := { name := "clear", desc := "(I)V", sig := { parameters := [.int], returnType := none }, accessFlags := 1, code := some k7c11 }
def k7c12 : Code := { maxStack := 4, maxLocals := 1, code := jdk_92_method_25_code, exceptionTable := #[], attributes := #[] }
def k7m12 : Method := { name := "clear", desc := "()V", sig := { parameters := [], returnType := none }, accessFlags := 1, code := some k7c12 }
def k7c13 : Code := { maxStack := 5, maxLocals := 5, code := jdk_92_method_28_code, exceptionTable := #[], attributes := #[] }
def k7m13 : Method := { name := "nextSetBit", desc := "(I)I", sig := { parameters := [.int], returnType := some .int }, accessFlags := 1, code := some k7c13 }
def k7c14 : Code := { maxStack := 6, maxLocals := 5, code := jdk_92_method_30_code, exceptionTable := #[], attributes := #[] }
def k7m14 : Method := { name := "previousSetBit", desc := "(I)I", sig := { parameters := [.int], returnType := some .int }, accessFlags := 1, code := some k7c14 }
/-- java/util/BitSet -/
def k7 : Class := { plain "java/util/BitSet" (some 0) with
  accessFlags := 33
  interfaces := #[5, 6]
  cf := some (fileOf pool7 1 #[.nestMembers #[269]] #[{ accessFlags := 10, nameIndex := 54, descriptorIndex := 55, attributes := #[] }, { accessFlags := 2, nameIndex := 58, descriptorIndex := 20, attributes := #[] }, { accessFlags := 2, nameIndex := 160, descriptorIndex := 20, attributes := #[] }, { accessFlags := 1, nameIndex := 19, descriptorIndex := 20, attributes := #[] }, { accessFlags := 1, nameIndex := 19, descriptorIndex := 30, attributes := #[] }, { accessFlags := 2, nameIndex := 29, descriptorIndex := 30, attributes := #[] }, { accessFlags := 2, nameIndex := 141, descriptorIndex := 30, attributes := #[] }, { accessFlags := 2, nameIndex := 157, descriptorIndex := 30, attributes := #[] }, { accessFlags := 10, nameIndex := 163, descriptorIndex := 164, attributes := #[] }, { accessFlags := 1, nameIndex := 169, descriptorIndex := 30, attributes := #[] }, { accessFlags := 1, nameIndex := 169, descriptorIndex := 164, attributes := #[] }, { accessFlags := 1, nameIndex := 172, descriptorIndex := 30, attributes := #[] }, { accessFlags := 1, nameIndex := 172, descriptorIndex := 20, attributes := #[] }, { accessFlags := 1, nameIndex := 263, descriptorIndex := 55, attributes := #[] }, { accessFlags := 1, nameIndex := 359, descriptorIndex := 55, attributes := #[] }] 33 22 #[295, 297] #[{ accessFlags := 26, nameIndex := 299, descriptorIndex := 10, attributes := #[] }, { accessFlags := 26, nameIndex := 302, descriptorIndex := 10, attributes := #[] }, { accessFlags := 26, nameIndex := 304, descriptorIndex := 10, attributes := #[] }, { accessFlags := 26, nameIndex := 306, descriptorIndex := 307, attributes := #[] }, { accessFlags := 26, nameIndex := 293, descriptorIndex := 294, attributes := #[] }, { accessFlags := 2, nameIndex := 13, descriptorIndex := 14, attributes := #[] }, { accessFlags := 130, nameIndex := 9, descriptorIndex := 10, attributes := #[] }, { accessFlags := 130, nameIndex := 26, descriptorIndex := 6, attributes := #[] }, { accessFlags := 26, nameIndex := 308, descriptorIndex := 307, attributes := #[] }, { accessFlags := 4120, nameIndex := 5, descriptorIndex := 6, attributes := #[] }])
  fields := #[{ name := "ADDRESS_BITS_PER_WORD", type := .int, accessFlags := 26, slot := 0, constantValue := 0 }, { name := "BITS_PER_WORD", type := .int, accessFlags := 26, slot := 1, constantValue := 0 }, { name := "BIT_INDEX_MASK", type := .int, accessFlags := 26, slot := 2, constantValue := 0 }, { name := "WORD_MASK", type := .long, accessFlags := 26, slot := 3, constantValue := 0 }, { name := "serialPersistentFields", type := (.array (.object "java/io/ObjectStreamField")), accessFlags := 26, slot := 4, constantValue := 0 }, { name := "words", type := (.array .long), accessFlags := 2, slot := 0, constantValue := 0 }, { name := "wordsInUse", type := .int, accessFlags := 130, slot := 1, constantValue := 0 }, { name := "sizeIsSticky", type := .boolean, accessFlags := 130, slot := 2, constantValue := 0 }, { name := "serialVersionUID", type := .long, accessFlags := 26, slot := 5, constantValue := 0 }, { name := "$assertionsDisabled", type := .boolean, accessFlags := 4120, slot := 6, constantValue := 0 }]
  methods := #[k7m0, k7m1, k7m2, k7m3, k7m4, k7m5, k7m6, k7m7, k7m8, k7m9, k7m10, k7m11, k7m12, k7m13, k7m14]
  instanceTypes := #[(.array .long), .int, .boolean]
  staticTypes := #[.int, .int, .int, .long, (.array (.object "java/io/ObjectStreamField")), .long, .boolean]
  resolved := Array.replicate 417 none
  statics := some 0 }

def pool8 : Array CpInfo := pool [(2, .class_ 4), (1, u "java/lang/Object"), (0, u "<init>"), (0, u "()V"), (1, .class_ 10), (1, u "java/lang/Number"), (2, .class_ 14), (0, u "java/io/Serializable"), (0, u "serialVersionUID"), (0, u "J")] 20

def k8m0 : Method := { name := "<init>", desc := "()V", sig := { parameters := [], returnType := none }, accessFlags := 1, code := none }
/-- java/lang/Number -/
def k8 : Class := { plain "java/lang/Number" (some 0) with
  accessFlags := 1057
  interfaces := #[6]
  cf := some (fileOf pool8 8 #[] #[{ accessFlags := 1, nameIndex := 5, descriptorIndex := 6, attributes := #[] }] 1057 2 #[13] #[{ accessFlags := 26, nameIndex := 15, descriptorIndex := 16, attributes := #[] }])
  fields := #[{ name := "serialVersionUID", type := .long, accessFlags := 26, slot := 0, constantValue := 0 }]
  methods := #[k8m0]
  instanceTypes := #[]
  staticTypes := #[.long]
  resolved := Array.replicate 37 none
  statics := none }

def pool9 : Array CpInfo := pool [(1, .class_ 2), (0, u "java/lang/Comparable"), (0, .class_ 4), (0, u "java/lang/Object")] 7

/-- java/lang/Comparable -/
def k9 : Class := { plain "java/lang/Comparable" (some 0) with
  accessFlags := 1537
  interfaces := #[]
  cf := some (fileOf pool9 1 #[] #[] 1537 3 #[] #[])
  fields := #[]
  methods := #[]
  instanceTypes := #[]
  staticTypes := #[]
  resolved := Array.replicate 12 none
  statics := none }

def pool10 : Array CpInfo := pool [(1, .class_ 2), (0, u "java/lang/constant/Constable"), (0, .class_ 4), (0, u "java/lang/Object")] 6

/-- java/lang/constant/Constable -/
def k10 : Class := { plain "java/lang/constant/Constable" (some 0) with
  accessFlags := 1537
  interfaces := #[]
  cf := some (fileOf pool10 1 #[] #[] 1537 3 #[] #[])
  fields := #[]
  methods := #[]
  instanceTypes := #[]
  staticTypes := #[]
  resolved := Array.replicate 11 none
  statics := none }

def pool11 : Array CpInfo := pool [(1, .class_ 2), (0, u "java/lang/constant/ConstantDesc"), (0, .class_ 4), (0, u "java/lang/Object")] 32

/-- java/lang/constant/ConstantDesc -/
def k11 : Class := { plain "java/lang/constant/ConstantDesc" (some 0) with
  accessFlags := 1537
  interfaces := #[]
  cf := some (fileOf pool11 1 #[] #[] 1537 3 #[] #[])
  fields := #[]
  methods := #[]
  instanceTypes := #[]
  staticTypes := #[]
  resolved := Array.replicate 37 none
  statics := none }

def pool12 : Array CpInfo := pool [(1, .class_ 2), (0, u "java/lang/Integer"), (16, u "digits"), (0, u "[C"), (30, .methodref 1 52), (0, .nameAndType 53 54), (0, u "numberOfLeadingZeros"), (0, u "(I)I"), (30, u "DigitOnes"), (0, u "[B"), (2, u "DigitTens"), (37, .integer 2147483648), (61, .class_ 190), (0, u "java/lang/Integer$IntegerCache"), (3, u "I"), (8, .class_ 204), (0, u "java/lang/Number"), (2, u "value"), (56, .integer 65536), (37, u "TYPE"), (0, u "Ljava/lang/Class;"), (0, .class_ 305), (0, u "java/lang/Comparable"), (0, .class_ 307), (0, u "java/lang/constant/Constable"), (0, .class_ 309), (0, u "java/lang/constant/ConstantDesc"), (0, u "MIN_VALUE"), (1, u "MAX_VALUE"), (3, u "SIZE"), (1, u "BYTES"), (1, u "serialVersionUID"), (0, u "J"), (81, u "highestOneBit"), (2, u "numberOfTrailingZeros")] 46

def k12c0 : Code := { maxStack := 3, maxLocals := 1, code := jdk_33_method_45_code, exceptionTable := #[], attributes := #[] }
def k12m0 : Method := { name := "highestOneBit", desc := "(I)I", sig := { parameters := [.int], returnType := some .int }, accessFlags := 9, code := some k12c0 }
def k12c1 : Code := { maxStack := 3, maxLocals := 2, code := jdk_33_method_47_code, exceptionTable := #[], attributes := #[] }
def k12m1 : Method := { name := "numberOfLeadingZeros", desc := "(I)I", sig := { parameters := [.int], returnType := some .int }, accessFlags := 9, code := some k12c1 }
def k12c2 : Code := { maxStack := 3, maxLocals := 2, code := jdk_33_method_48_code, exceptionTable := #[], attributes := #[] }
def k12m2 : Method := { name := "numberOfTrailingZeros", desc := "(I)I", sig := { parameters := [.int], returnType := some .int }, accessFlags := 9, code := some k12c2 }
/-- java/lang/Integer -/
def k12 : Class := { plain "java/lang/Integer" (some 8) with
  accessFlags := 49
  interfaces := #[9, 10, 11]
  cf := some (fileOf pool12 1 #[.nestMembers #[189]] #[{ accessFlags := 9, nameIndex := 403, descriptorIndex := 54, attributes := #[] }, { accessFlags := 9, nameIndex := 53, descriptorIndex := 54, attributes := #[] }, { accessFlags := 9, nameIndex := 406, descriptorIndex := 54, attributes := #[] }] 49 203 #[304, 306, 308] #[{ accessFlags := 25, nameIndex := 310, descriptorIndex := 194, attributes := #[] }, { accessFlags := 25, nameIndex := 312, descriptorIndex := 194, attributes := #[] }, { accessFlags := 25, nameIndex := 302, descriptorIndex := 303, attributes := #[] }, { accessFlags := 24, nameIndex := 19, descriptorIndex := 20, attributes := #[] }, { accessFlags := 24, nameIndex := 89, descriptorIndex := 86, attributes := #[] }, { accessFlags := 24, nameIndex := 85, descriptorIndex := 86, attributes := #[] }, { accessFlags := 18, nameIndex := 207, descriptorIndex := 194, attributes := #[] }, { accessFlags := 25, nameIndex := 316, descriptorIndex := 194, attributes := #[] }, { accessFlags := 25, nameIndex := 318, descriptorIndex := 194, attributes := #[] }, { accessFlags := 26, nameIndex := 320, descriptorIndex := 321, attributes := #[] }])
  fields := #[{ name := "MIN_VALUE", type := .int, accessFlags := 25, slot := 0, constantValue := 0 }, { name := "MAX_VALUE", type := .int, accessFlags := 25, slot := 1, constantValue := 0 }, { name := "TYPE", type := (.object "java/lang/Class"), accessFlags := 25, slot := 2, constantValue := 0 }, { name := "digits", type := (.array .char), accessFlags := 24, slot := 3, constantValue := 0 }, { name := "DigitTens", type := (.array .byte), accessFlags := 24, slot := 4, constantValue := 0 }, { name := "DigitOnes", type := (.array .byte), accessFlags := 24, slot := 5, constantValue := 0 }, { name := "value", type := .int, accessFlags := 18, slot := 0, constantValue := 0 }, { name := "SIZE", type := .int, accessFlags := 25, slot := 6, constantValue := 0 }, { name := "BYTES", type := .int, accessFlags := 25, slot := 7, constantValue := 0 }, { name := "serialVersionUID", type := .long, accessFlags := 26, slot := 8, constantValue := 0 }]
  methods := #[k12m0, k12m1, k12m2]
  instanceTypes := #[.int]
  staticTypes := #[.int, .int, (.object "java/lang/Class"), (.array .char), (.array .byte), (.array .byte), .int, .int, .long]
  resolved := Array.replicate 453 none
  statics := none }

def pool13 : Array CpInfo := pool [(2, .class_ 4), (1, u "java/lang/Object"), (0, u "<init>"), (0, u "()V"), (6, .methodref 14 15), (0, .class_ 16), (0, .nameAndType 17 18), (0, u "java/util/Arrays"), (0, u "rangeCheck"), (0, u "(III)V"), (55, .class_ 76), (1, u "java/util/Arrays$NaturalOrder"), (36, .class_ 115), (1, u "java/util/Arrays$LegacyMergeSort"), (1, u "Z"), (257, .class_ 376), (0, u "java/util/Arrays$ArrayList"), (68, u "$assertionsDisabled"), (269, u "MIN_ARRAY_SORT_GRAN"), (0, u "I"), (2, u "INSERTIONSORT_THRESHOLD"), (120, u "fill"), (3, u "([JIIJ)V"), (130, .class_ 976), (0, u "java/util/Arrays$ArrayItr")] 52

def k13m0 : Method := { name := "<init>", desc := "()V", sig := { parameters := [], returnType := none }, accessFlags := 2, code := none }
def k13c1 : Code := { maxStack := 4, maxLocals := 3, code := jdk_65_method_30_code, exceptionTable := #[], attributes := #[] }
def k13m1 : Method := { name := "rangeCheck", desc := "(III)V", sig := { parameters := [.int, .int, .int], returnType := none }, accessFlags := 8, code := some k13c1 }
def k13c2 : Code := { maxStack := 4, maxLocals := 6, code := jdk_65_method_102_code, exceptionTable := #[], attributes := #[] }
def k13m2 : Method := { name := "fill", desc := "([JIIJ)V", sig := { parameters := [(.array .long), .int, .int, .long], returnType := none }, accessFlags := 9, code := some k13c2 }
/-- java/util/Arrays -/
def k13 : Class := { plain "java/util/Arrays" (some 0) with
  accessFlags := 49
  interfaces := #[]
  cf := some (fileOf pool13 14 #[.nestMembers #[975, 375, 113, 74]] #[{ accessFlags := 2, nameIndex := 5, descriptorIndex := 6, attributes := #[] }, { accessFlags := 8, nameIndex := 17, descriptorIndex := 18, attributes := #[] }, { accessFlags := 9, nameIndex := 840, descriptorIndex := 844, attributes := #[] }] 49 2 #[] #[{ accessFlags := 26, nameIndex := 715, descriptorIndex := 716, attributes := #[] }, { accessFlags := 26, nameIndex := 719, descriptorIndex := 716, attributes := #[] }, { accessFlags := 4120, nameIndex := 445, descriptorIndex := 117, attributes := #[] }])
  fields := #[{ name := "MIN_ARRAY_SORT_GRAN", type := .int, accessFlags := 26, slot := 0, constantValue := 0 }, { name := "INSERTIONSORT_THRESHOLD", type := .int, accessFlags := 26, slot := 1, constantValue := 0 }, { name := "$assertionsDisabled", type := .boolean, accessFlags := 4120, slot := 2, constantValue := 0 }]
  methods := #[k13m0, k13m1, k13m2]
  instanceTypes := #[]
  staticTypes := #[.int, .int, .boolean]
  resolved := Array.replicate 1029 none
  statics := none }

def pool14 : Array CpInfo := pool [(1, .class_ 2), (0, u "java/lang/Long"), (15, .class_ 20), (1, u "java/lang/Integer"), (79, u "numberOfLeadingZeros"), (0, u "(J)I"), (133, .class_ 237), (1, u "java/lang/Long$LongCache"), (33, .class_ 272), (0, u "java/lang/Number"), (2, u "value"), (0, u "J"), (31, .methodref 18 309), (0, .nameAndType 100 310), (0, u "(I)I"), (0, .methodref 18 312), (0, .nameAndType 313 310), (0, u "numberOfTrailingZeros"), (47, u "TYPE"), (0, u "Ljava/lang/Class;"), (0, .class_ 364), (0, u "java/lang/Comparable"), (0, .class_ 366), (0, u "java/lang/constant/Constable"), (0, .class_ 368), (0, u "java/lang/constant/ConstantDesc"), (0, u "MIN_VALUE"), (1, u "MAX_VALUE"), (4, u "SIZE"), (0, u "I"), (1, u "BYTES"), (1, u "serialVersionUID")] 142

def k14c0 : Code := { maxStack := 3, maxLocals := 3, code := jdk_35_method_48_code, exceptionTable := #[], attributes := #[] }
def k14m0 : Method := { name := "numberOfLeadingZeros", desc := "(J)I", sig := { parameters := [.long], returnType := some .int }, accessFlags := 9, code := some k14c0 }
def k14c1 : Code := { maxStack := 4, maxLocals := 3, code := jdk_35_method_49_code, exceptionTable := #[], attributes := #[] }
def k14m1 : Method := { name := "numberOfTrailingZeros", desc := "(J)I", sig := { parameters := [.long], returnType := some .int }, accessFlags := 9, code := some k14c1 }
/-- java/lang/Long -/
def k14 : Class := { plain "java/lang/Long" (some 8) with
  accessFlags := 49
  interfaces := #[9, 10, 11]
  cf := some (fileOf pool14 1 #[.nestMembers #[235]] #[{ accessFlags := 9, nameIndex := 100, descriptorIndex := 101, attributes := #[] }, { accessFlags := 9, nameIndex := 313, descriptorIndex := 101, attributes := #[] }] 49 271 #[363, 365, 367] #[{ accessFlags := 25, nameIndex := 369, descriptorIndex := 276, attributes := #[] }, { accessFlags := 25, nameIndex := 371, descriptorIndex := 276, attributes := #[] }, { accessFlags := 25, nameIndex := 361, descriptorIndex := 362, attributes := #[] }, { accessFlags := 18, nameIndex := 275, descriptorIndex := 276, attributes := #[] }, { accessFlags := 25, nameIndex := 376, descriptorIndex := 377, attributes := #[] }, { accessFlags := 25, nameIndex := 379, descriptorIndex := 377, attributes := #[] }, { accessFlags := 26, nameIndex := 381, descriptorIndex := 276, attributes := #[] }])
  fields := #[{ name := "MIN_VALUE", type := .long, accessFlags := 25, slot := 0, constantValue := 0 }, { name := "MAX_VALUE", type := .long, accessFlags := 25, slot := 1, constantValue := 0 }, { name := "TYPE", type := (.object "java/lang/Class"), accessFlags := 25, slot := 2, constantValue := 0 }, { name := "value", type := .long, accessFlags := 18, slot := 0, constantValue := 0 }, { name := "SIZE", type := .int, accessFlags := 25, slot := 3, constantValue := 0 }, { name := "BYTES", type := .int, accessFlags := 25, slot := 4, constantValue := 0 }, { name := "serialVersionUID", type := .long, accessFlags := 26, slot := 5, constantValue := 0 }]
  methods := #[k14m0, k14m1]
  instanceTypes := #[.long]
  staticTypes := #[.long, .long, (.object "java/lang/Class"), .int, .int, .long]
  resolved := Array.replicate 524 none
  statics := none }

/-- the primitive boolean -/
def k15 : Class := { plain "boolean" none with kind := .primitive 'Z', accessFlags := 0x411 }
/-- [Z -/
def k16 : Class := { plain "[Z" (some 0) with kind := .array 15 .boolean, interfaces := #[5, 6], accessFlags := 1041 }

/-- the primitive byte -/
def k17 : Class := { plain "byte" none with kind := .primitive 'B', accessFlags := 0x411 }
/-- [B -/
def k18 : Class := { plain "[B" (some 0) with kind := .array 17 .byte, interfaces := #[5, 6], accessFlags := 1041 }

/-- the primitive int -/
def k19 : Class := { plain "int" none with kind := .primitive 'I', accessFlags := 0x411 }
/-- [I -/
def k20 : Class := { plain "[I" (some 0) with kind := .array 19 .int, interfaces := #[5, 6], accessFlags := 1041 }

/-- the primitive long -/
def k21 : Class := { plain "long" none with kind := .primitive 'J', accessFlags := 0x411 }
/-- [J -/
def k22 : Class := { plain "[J" (some 0) with kind := .array 21 .long, interfaces := #[5, 6], accessFlags := 1041 }

def heap : Heap := #[{ cls := 7, slots := #[.int 0, .int 0, .int 0, .long 0, .null, .long 0, .int 1], vm := .statics 7 }]
def classes : Array Class := #[k0, k1, k2, k3, k4, k5, k6, k7, k8, k9, k10, k11, k12, k13, k14, k15, k16, k17, k18, k19, k20, k21, k22]
def interned : List (Array UInt16 × Addr) := []
def slotsUsed : Nat := 7
def theMethod : MethodId := ⟨1, 3⟩
def args0 : Array Value := #[.long 5, .long 6, .int 7, .int 8, .long 9, .int 10]
def aboutOver (below : List Frame) : State where
  vm := { classes := classes, interned := interned.toArray }
  heap := heap
  slotsUsed := slotsUsed
  threads := #[{ frames := .invoking theMethod args0 :: below }]
def below0 : List Frame := [.native { method := ⟨0, 0⟩, args := #[] }]
def about1 : State := aboutOver below0
def p0 : Program := .bare "" "" ""
def e0 : Env := launch0.env 0 0 0
theorem w_frames : about1.frames = Frame.invoking theMethod args0 :: below0 := rfl
set_option maxRecDepth 65536 in
theorem w_args : argsFit about1.vm theMethod args0 = true := by decide +kernel
set_option maxRecDepth 65536 in
theorem w_heap : heapFits about1 = true := by decide +kernel
set_option maxRecDepth 65536 in
theorem w_runnable : about1.curStatus? = some .runnable := by decide +kernel
set_option maxRecDepth 65536 in
theorem w_alone : about1.alone = true := by decide +kernel
set_option maxRecDepth 65536 in
theorem w_named : about1.methodNamed? x = some theMethod := by decide +kernel
set_option maxRecDepth 65536 in
theorem w_hears : about1.hears theMethod below0 = true := by decide +kernel
set_option maxRecDepth 65536 in
theorem w_ripe : about1.ripe theMethod args0 below0 = true := by decide +kernel
theorem w_running : about1.status = .running := rfl
set_option maxRecDepth 65536 in
theorem w_room : about1.hasRoom e0.platform room_1 = true :=
  launch0.hasRoom_least _ room_1 (by decide +kernel) (by decide +kernel) (by decide +kernel) (by decide +kernel) (by decide +kernel) (by decide +kernel)
theorem allAtoms_all (ts : List Jvm.Cond) (a : Array Jvm.Value) (st : Jvm.State) : (allAtoms ts).before a st = ts.all (fun c => c.before a st) := by
  induction ts with
  | nil => rfl
  | cons c t ih =>
    show (Jvm.Cond.and c (allAtoms t)).before a st = _
    rw [Jvm.Cond.before_and, ih, List.all_cons]
def words1 : List Jvm.Cond := Jvm.Cond.code x code maxLocals ret :: tables_1
/-- a 'code' word, met by the world's own term for the bytes: nothing is compared byte by byte -/
theorem code_word {y : MethodName} {bytes : ByteArray} {mx : Nat} {rt : Option FieldType} {a : Array Value} {s : State} {m : MethodId} {meth : Method} {c : Code} (h1 : s.methodNamed? y = some m) (h2 : s.vm.method? m = some meth) (h3 : meth.code = some c) (h4 : c.code = bytes)
    (h5 : (c.maxLocals == mx && c.exceptionTable.isEmpty && decide (c.maxStack ≤ mostOperands) && decide (meth.sig.returnType = rt) && !meth.locks && decide (parseMethodDescriptor y.desc = some meth.sig)) = true) : (Jvm.Cond.code y bytes mx rt).before a s = true := by
  simp only [Bool.and_eq_true, beq_iff_eq, Bool.not_eq_true', decide_eq_true_eq] at h5
  obtain ⟨⟨⟨⟨⟨g1, g2⟩, g3⟩, g4⟩, g5⟩, g6⟩ := h5
  simp [Cond.before, Cond.holds, Cond.value, h1, h2, h3, h4, g1, g2, g3, g4, g5, g6]
def isCode : Jvm.Cond → Bool
  | .code _ _ _ _ => true
  | _ => false
theorem all_split {L : List Jvm.Cond} {P : Jvm.Cond → Bool} (h1 : L.all (fun c => isCode c || P c) = true) (h2 : ∀ c ∈ L.filter isCode, P c = true) : L.all P = true := by
  refine List.all_eq_true.mpr fun c hc => ?_
  have h := List.all_eq_true.mp h1 c hc
  rcases Bool.eq_false_or_eq_true (isCode c) with hi | hi
  · exact h2 c (List.mem_filter.mpr ⟨hc, hi⟩)
  · simpa [hi] using h
set_option maxRecDepth 65536 in
theorem w_c0 : (Jvm.Cond.code x code maxLocals ret).before args0 about1 = true := code_word (m := ⟨1, 3⟩) (meth := k1m3) (c := k1c3) (by decide +kernel) rfl rfl rfl (by decide +kernel)
set_option maxRecDepth 65536 in
theorem w_c1 : (Jvm.Cond.code ({ cls := "java/lang/Math", name := "min", desc := "(JJ)J" } : Jvm.MethodName) jdk_29_method_70_code (4 : Nat) (Option.some Jvm.ClassFile.FieldType.long)).before args0 about1 = true := code_word (m := ⟨2, 3⟩) (meth := k2m3) (c := k2c3) (by decide +kernel) rfl rfl rfl (by decide +kernel)
set_option maxRecDepth 65536 in
theorem w_c2 : (Jvm.Cond.code ({ cls := "java/lang/Math", name := "max", desc := "(JJ)J" } : Jvm.MethodName) jdk_29_method_66_code (4 : Nat) (Option.some Jvm.ClassFile.FieldType.long)).before args0 about1 = true := code_word (m := ⟨2, 2⟩) (meth := k2m2) (c := k2c2) (by decide +kernel) rfl rfl rfl (by decide +kernel)
set_option maxRecDepth 65536 in
theorem w_c3 : (Jvm.Cond.code ({ cls := "com/example/throttlua/throttlua/slidinglog/SubjectLog", name := "<init>", desc := "()V" } : Jvm.MethodName) prog_30_method_1_code (1 : Nat) (Option.none : Option Jvm.ClassFile.FieldType)).before args0 about1 = true := code_word (m := ⟨4, 0⟩) (meth := k4m0) (c := k4c0) (by decide +kernel) rfl rfl rfl (by decide +kernel)
set_option maxRecDepth 65536 in
theorem w_c4 : (Jvm.Cond.code ({ cls := "java/lang/Object", name := "<init>", desc := "()V" } : Jvm.MethodName) object_method_1_code (1 : Nat) (Option.none : Option Jvm.ClassFile.FieldType)).before args0 about1 = true := code_word (m := ⟨0, 0⟩) (meth := k0m0) (c := k0c0) (by decide +kernel) rfl rfl rfl (by decide +kernel)
set_option maxRecDepth 65536 in
theorem w_c5 : (Jvm.Cond.code ({ cls := "java/util/BitSet", name := "<init>", desc := "()V" } : Jvm.MethodName) jdk_92_method_4_code (1 : Nat) (Option.none : Option Jvm.ClassFile.FieldType)).before args0 about1 = true := code_word (m := ⟨7, 3⟩) (meth := k7m3) (c := k7c3) (by decide +kernel) rfl rfl rfl (by decide +kernel)
set_option maxRecDepth 65536 in
theorem w_c6 : (Jvm.Cond.code ({ cls := "java/util/BitSet", name := "initWords", desc := "(I)V" } : Jvm.MethodName) jdk_92_method_6_code (2 : Nat) (Option.none : Option Jvm.ClassFile.FieldType)).before args0 about1 = true := code_word (m := ⟨7, 5⟩) (meth := k7m5) (c := k7c5) (by decide +kernel) rfl rfl rfl (by decide +kernel)
set_option maxRecDepth 65536 in
theorem w_c7 : (Jvm.Cond.code ({ cls := "java/util/BitSet", name := "wordIndex", desc := "(I)I" } : Jvm.MethodName) jdk_92_method_1_code (1 : Nat) (Option.some Jvm.ClassFile.FieldType.int)).before args0 about1 = true := code_word (m := ⟨7, 0⟩) (meth := k7m0) (c := k7c0) (by decide +kernel) rfl rfl rfl (by decide +kernel)
set_option maxRecDepth 65536 in
theorem w_c8 : (Jvm.Cond.code ({ cls := "com/example/throttlua/throttlua/slidinglog/SubjectLog", name := "add", desc := "(JJI)V" } : Jvm.MethodName) prog_30_method_7_code (9 : Nat) (Option.none : Option Jvm.ClassFile.FieldType)).before args0 about1 = true := code_word (m := ⟨4, 3⟩) (meth := k4m3) (c := k4c3) (by decide +kernel) rfl rfl rfl (by decide +kernel)
set_option maxRecDepth 65536 in
theorem w_c9 : (Jvm.Cond.code ({ cls := "java/lang/Integer", name := "highestOneBit", desc := "(I)I" } : Jvm.MethodName) jdk_33_method_45_code (1 : Nat) (Option.some Jvm.ClassFile.FieldType.int)).before args0 about1 = true := code_word (m := ⟨12, 0⟩) (meth := k12m0) (c := k12c0) (by decide +kernel) rfl rfl rfl (by decide +kernel)
set_option maxRecDepth 65536 in
theorem w_c10 : (Jvm.Cond.code ({ cls := "java/lang/Integer", name := "numberOfLeadingZeros", desc := "(I)I" } : Jvm.MethodName) jdk_33_method_47_code (2 : Nat) (Option.some Jvm.ClassFile.FieldType.int)).before args0 about1 = true := code_word (m := ⟨12, 1⟩) (meth := k12m1) (c := k12c1) (by decide +kernel) rfl rfl rfl (by decide +kernel)
set_option maxRecDepth 65536 in
theorem w_c11 : (Jvm.Cond.code ({ cls := "java/lang/Math", name := "max", desc := "(II)I" } : Jvm.MethodName) jdk_29_method_65_code (2 : Nat) (Option.some Jvm.ClassFile.FieldType.int)).before args0 about1 = true := code_word (m := ⟨2, 1⟩) (meth := k2m1) (c := k2c1) (by decide +kernel) rfl rfl rfl (by decide +kernel)
set_option maxRecDepth 65536 in
theorem w_c12 : (Jvm.Cond.code ({ cls := "com/example/throttlua/throttlua/slidinglog/SubjectLog", name := "moveTo", desc := "(I)V" } : Jvm.MethodName) prog_30_method_15_code (8 : Nat) (Option.none : Option Jvm.ClassFile.FieldType)).before args0 about1 = true := code_word (m := ⟨4, 10⟩) (meth := k4m10) (c := k4c10) (by decide +kernel) rfl rfl rfl (by decide +kernel)
set_option maxRecDepth 65536 in
theorem w_c13 : (Jvm.Cond.code ({ cls := "java/util/BitSet", name := "nextSetBit", desc := "(I)I" } : Jvm.MethodName) jdk_92_method_28_code (5 : Nat) (Option.some Jvm.ClassFile.FieldType.int)).before args0 about1 = true := code_word (m := ⟨7, 13⟩) (meth := k7m13) (c := k7c13) (by decide +kernel) rfl rfl rfl (by decide +kernel)
set_option maxRecDepth 65536 in
theorem w_c14 : (Jvm.Cond.code ({ cls := "java/util/BitSet", name := "checkInvariants", desc := "()V" } : Jvm.MethodName) jdk_92_method_2_code (1 : Nat) (Option.none : Option Jvm.ClassFile.FieldType)).before args0 about1 = true := code_word (m := ⟨7, 1⟩) (meth := k7m1) (c := k7c1) (by decide +kernel) rfl rfl rfl (by decide +kernel)
set_option maxRecDepth 65536 in
theorem w_c15 : (Jvm.Cond.code ({ cls := "java/util/BitSet", name := "<init>", desc := "(I)V" } : Jvm.MethodName) jdk_92_method_5_code (2 : Nat) (Option.none : Option Jvm.ClassFile.FieldType)).before args0 about1 = true := code_word (m := ⟨7, 4⟩) (meth := k7m4) (c := k7c4) (by decide +kernel) rfl rfl rfl (by decide +kernel)
set_option maxRecDepth 65536 in
theorem w_c16 : (Jvm.Cond.code ({ cls := "java/util/BitSet", name := "set", desc := "(II)V" } : Jvm.MethodName) jdk_92_method_21_code (10 : Nat) (Option.none : Option Jvm.ClassFile.FieldType)).before args0 about1 = true := code_word (m := ⟨7, 10⟩) (meth := k7m10) (c := k7c10) (by decide +kernel) rfl rfl rfl (by decide +kernel)
set_option maxRecDepth 65536 in
theorem w_c17 : (Jvm.Cond.code ({ cls := "java/util/BitSet", name := "checkRange", desc := "(II)V" } : Jvm.MethodName) jdk_92_method_16_code (2 : Nat) (Option.none : Option Jvm.ClassFile.FieldType)).before args0 about1 = true := code_word (m := ⟨7, 8⟩) (meth := k7m8) (c := k7c8) (by decide +kernel) rfl rfl rfl (by decide +kernel)
set_option maxRecDepth 65536 in
theorem w_c18 : (Jvm.Cond.code ({ cls := "java/util/Arrays", name := "fill", desc := "([JIIJ)V" } : Jvm.MethodName) jdk_65_method_102_code (6 : Nat) (Option.none : Option Jvm.ClassFile.FieldType)).before args0 about1 = true := code_word (m := ⟨13, 2⟩) (meth := k13m2) (c := k13c2) (by decide +kernel) rfl rfl rfl (by decide +kernel)
set_option maxRecDepth 65536 in
theorem w_c19 : (Jvm.Cond.code ({ cls := "java/util/Arrays", name := "rangeCheck", desc := "(III)V" } : Jvm.MethodName) jdk_65_method_30_code (3 : Nat) (Option.none : Option Jvm.ClassFile.FieldType)).before args0 about1 = true := code_word (m := ⟨13, 1⟩) (meth := k13m1) (c := k13c1) (by decide +kernel) rfl rfl rfl (by decide +kernel)
set_option maxRecDepth 65536 in
theorem w_c20 : (Jvm.Cond.code ({ cls := "java/util/BitSet", name := "set", desc := "(I)V" } : Jvm.MethodName) jdk_92_method_19_code (3 : Nat) (Option.none : Option Jvm.ClassFile.FieldType)).before args0 about1 = true := code_word (m := ⟨7, 9⟩) (meth := k7m9) (c := k7c9) (by decide +kernel) rfl rfl rfl (by decide +kernel)
set_option maxRecDepth 65536 in
theorem w_c21 : (Jvm.Cond.code ({ cls := "java/util/BitSet", name := "expandTo", desc := "(I)V" } : Jvm.MethodName) jdk_92_method_15_code (3 : Nat) (Option.none : Option Jvm.ClassFile.FieldType)).before args0 about1 = true := code_word (m := ⟨7, 7⟩) (meth := k7m7) (c := k7c7) (by decide +kernel) rfl rfl rfl (by decide +kernel)
set_option maxRecDepth 65536 in
theorem w_c22 : (Jvm.Cond.code ({ cls := "java/util/BitSet", name := "ensureCapacity", desc := "(I)V" } : Jvm.MethodName) jdk_92_method_14_code (3 : Nat) (Option.none : Option Jvm.ClassFile.FieldType)).before args0 about1 = true := code_word (m := ⟨7, 6⟩) (meth := k7m6) (c := k7c6) (by decide +kernel) rfl rfl rfl (by decide +kernel)
set_option maxRecDepth 65536 in
theorem w_c23 : (Jvm.Cond.code ({ cls := "com/example/throttlua/throttlua/slidinglog/SubjectLog", name := "setSpan", desc := "(IJ)V" } : Jvm.MethodName) prog_30_method_14_code (7 : Nat) (Option.none : Option Jvm.ClassFile.FieldType)).before args0 about1 = true := code_word (m := ⟨4, 9⟩) (meth := k4m9) (c := k4c9) (by decide +kernel) rfl rfl rfl (by decide +kernel)
set_option maxRecDepth 65536 in
theorem w_c24 : (Jvm.Cond.code ({ cls := "com/example/throttlua/throttlua/slidinglog/SubjectLogTakenAfterPinLaw", name := "addRef", desc := "([J[J[ZII)I" } : Jvm.MethodName) method_2_code (5 : Nat) (Option.some Jvm.ClassFile.FieldType.int)).before args0 about1 = true := code_word (m := ⟨1, 1⟩) (meth := k1m1) (c := k1c1) (by decide +kernel) rfl rfl rfl (by decide +kernel)
set_option maxRecDepth 65536 in
theorem w_c25 : (Jvm.Cond.code ({ cls := "com/example/throttlua/throttlua/slidinglog/SubjectLogTakenAfterPinLaw", name := "after", desc := "([J[JIIJ)J" } : Jvm.MethodName) method_3_code (6 : Nat) (Option.some Jvm.ClassFile.FieldType.long)).before args0 about1 = true := code_word (m := ⟨1, 2⟩) (meth := k1m2) (c := k1c2) (by decide +kernel) rfl rfl rfl (by decide +kernel)
set_option maxRecDepth 65536 in
theorem w_c26 : (Jvm.Cond.code ({ cls := "com/example/throttlua/throttlua/slidinglog/SubjectLog", name := "takenAfter", desc := "(J)J" } : Jvm.MethodName) prog_30_method_4_code (5 : Nat) (Option.some Jvm.ClassFile.FieldType.long)).before args0 about1 = true := code_word (m := ⟨4, 1⟩) (meth := k4m1) (c := k4c1) (by decide +kernel) rfl rfl rfl (by decide +kernel)
set_option maxRecDepth 65536 in
theorem w_c27 : (Jvm.Cond.code ({ cls := "com/example/throttlua/throttlua/slidinglog/SubjectLog", name := "oldestAfter", desc := "(J)I" } : Jvm.MethodName) prog_30_method_10_code (3 : Nat) (Option.some Jvm.ClassFile.FieldType.int)).before args0 about1 = true := code_word (m := ⟨4, 5⟩) (meth := k4m5) (c := k4c5) (by decide +kernel) rfl rfl rfl (by decide +kernel)
set_option maxRecDepth 65536 in
theorem w_c28 : (Jvm.Cond.code ({ cls := "com/example/throttlua/throttlua/slidinglog/SubjectLog", name := "firstSlotPast", desc := "([JJJI)I" } : Jvm.MethodName) prog_30_method_12_code (10 : Nat) (Option.some Jvm.ClassFile.FieldType.int)).before args0 about1 = true := code_word (m := ⟨4, 7⟩) (meth := k4m7) (c := k4c7) (by decide +kernel) rfl rfl rfl (by decide +kernel)
set_option maxRecDepth 65536 in
theorem w_c29 : (Jvm.Cond.code ({ cls := "java/lang/Long", name := "numberOfTrailingZeros", desc := "(J)I" } : Jvm.MethodName) jdk_35_method_49_code (3 : Nat) (Option.some Jvm.ClassFile.FieldType.int)).before args0 about1 = true := code_word (m := ⟨14, 1⟩) (meth := k14m1) (c := k14c1) (by decide +kernel) rfl rfl rfl (by decide +kernel)
set_option maxRecDepth 65536 in
theorem w_c30 : (Jvm.Cond.code ({ cls := "java/lang/Integer", name := "numberOfTrailingZeros", desc := "(I)I" } : Jvm.MethodName) jdk_33_method_48_code (2 : Nat) (Option.some Jvm.ClassFile.FieldType.int)).before args0 about1 = true := code_word (m := ⟨12, 2⟩) (meth := k12m2) (c := k12c2) (by decide +kernel) rfl rfl rfl (by decide +kernel)
set_option maxRecDepth 65536 in
theorem w_c31 : (Jvm.Cond.code ({ cls := "com/example/throttlua/throttlua/slidinglog/SubjectLog", name := "totalBefore", desc := "(I)J" } : Jvm.MethodName) prog_30_method_11_code (3 : Nat) (Option.some Jvm.ClassFile.FieldType.long)).before args0 about1 = true := code_word (m := ⟨4, 6⟩) (meth := k4m6) (c := k4c6) (by decide +kernel) rfl rfl rfl (by decide +kernel)
set_option maxRecDepth 65536 in
theorem w_c32 : (Jvm.Cond.code ({ cls := "java/util/BitSet", name := "previousSetBit", desc := "(I)I" } : Jvm.MethodName) jdk_92_method_30_code (5 : Nat) (Option.some Jvm.ClassFile.FieldType.int)).before args0 about1 = true := code_word (m := ⟨7, 14⟩) (meth := k7m14) (c := k7c14) (by decide +kernel) rfl rfl rfl (by decide +kernel)
set_option maxRecDepth 65536 in
theorem w_c33 : (Jvm.Cond.code ({ cls := "com/example/throttlua/throttlua/slidinglog/SubjectLog", name := "dropUpTo", desc := "(J)V" } : Jvm.MethodName) prog_30_method_6_code (4 : Nat) (Option.none : Option Jvm.ClassFile.FieldType)).before args0 about1 = true := code_word (m := ⟨4, 2⟩) (meth := k4m2) (c := k4c2) (by decide +kernel) rfl rfl rfl (by decide +kernel)
set_option maxRecDepth 65536 in
theorem w_c34 : (Jvm.Cond.code ({ cls := "com/example/throttlua/throttlua/slidinglog/SubjectLog", name := "shrink", desc := "()Z" } : Jvm.MethodName) prog_30_method_9_code (6 : Nat) (Option.some Jvm.ClassFile.FieldType.boolean)).before args0 about1 = true := code_word (m := ⟨4, 4⟩) (meth := k4m4) (c := k4c4) (by decide +kernel) rfl rfl rfl (by decide +kernel)
set_option maxRecDepth 65536 in
theorem w_c35 : (Jvm.Cond.code ({ cls := "com/example/throttlua/throttlua/slidinglog/SubjectLog", name := "shortest", desc := "()I" } : Jvm.MethodName) prog_30_method_13_code (3 : Nat) (Option.some Jvm.ClassFile.FieldType.int)).before args0 about1 = true := code_word (m := ⟨4, 8⟩) (meth := k4m8) (c := k4c8) (by decide +kernel) rfl rfl rfl (by decide +kernel)
set_option maxRecDepth 65536 in
theorem w_c36 : (Jvm.Cond.code ({ cls := "java/lang/Long", name := "numberOfLeadingZeros", desc := "(J)I" } : Jvm.MethodName) jdk_35_method_48_code (3 : Nat) (Option.some Jvm.ClassFile.FieldType.int)).before args0 about1 = true := code_word (m := ⟨14, 0⟩) (meth := k14m0) (c := k14c0) (by decide +kernel) rfl rfl rfl (by decide +kernel)
set_option maxRecDepth 65536 in
theorem w_c37 : (Jvm.Cond.code ({ cls := "java/util/BitSet", name := "clear", desc := "(I)V" } : Jvm.MethodName) jdk_92_method_23_code (3 : Nat) (Option.none : Option Jvm.ClassFile.FieldType)).before args0 about1 = true := code_word (m := ⟨7, 11⟩) (meth := k7m11) (c := k7c11) (by decide +kernel) rfl rfl rfl (by decide +kernel)
set_option maxRecDepth 65536 in
theorem w_c38 : (Jvm.Cond.code ({ cls := "java/util/BitSet", name := "recalculateWordsInUse", desc := "()V" } : Jvm.MethodName) jdk_92_method_3_code (2 : Nat) (Option.none : Option Jvm.ClassFile.FieldType)).before args0 about1 = true := code_word (m := ⟨7, 2⟩) (meth := k7m2) (c := k7c2) (by decide +kernel) rfl rfl rfl (by decide +kernel)
set_option maxRecDepth 65536 in
theorem w_c39 : (Jvm.Cond.code ({ cls := "java/util/BitSet", name := "clear", desc := "()V" } : Jvm.MethodName) jdk_92_method_25_code (1 : Nat) (Option.none : Option Jvm.ClassFile.FieldType)).before args0 about1 = true := code_word (m := ⟨7, 12⟩) (meth := k7m12) (c := k7c12) (by decide +kernel) rfl rfl rfl (by decide +kernel)
def codes1 : List Jvm.Cond := [Jvm.Cond.code x code maxLocals ret, Jvm.Cond.code ({ cls := "java/lang/Math", name := "min", desc := "(JJ)J" } : Jvm.MethodName) jdk_29_method_70_code (4 : Nat) (Option.some Jvm.ClassFile.FieldType.long), Jvm.Cond.code ({ cls := "java/lang/Math", name := "max", desc := "(JJ)J" } : Jvm.MethodName) jdk_29_method_66_code (4 : Nat) (Option.some Jvm.ClassFile.FieldType.long), Jvm.Cond.code ({ cls := "com/example/throttlua/throttlua/slidinglog/SubjectLog", name := "<init>", desc := "()V" } : Jvm.MethodName) prog_30_method_1_code (1 : Nat) (Option.none : Option Jvm.ClassFile.FieldType), Jvm.Cond.code ({ cls := "java/lang/Object", name := "<init>", desc := "()V" } : Jvm.MethodName) object_method_1_code (1 : Nat) (Option.none : Option Jvm.ClassFile.FieldType), Jvm.Cond.code ({ cls := "java/util/BitSet", name := "<init>", desc := "()V" } : Jvm.MethodName) jdk_92_method_4_code (1 : Nat) (Option.none : Option Jvm.ClassFile.FieldType), Jvm.Cond.code ({ cls := "java/util/BitSet", name := "initWords", desc := "(I)V" } : Jvm.MethodName) jdk_92_method_6_code (2 : Nat) (Option.none : Option Jvm.ClassFile.FieldType), Jvm.Cond.code ({ cls := "java/util/BitSet", name := "wordIndex", desc := "(I)I" } : Jvm.MethodName) jdk_92_method_1_code (1 : Nat) (Option.some Jvm.ClassFile.FieldType.int), Jvm.Cond.code ({ cls := "com/example/throttlua/throttlua/slidinglog/SubjectLog", name := "add", desc := "(JJI)V" } : Jvm.MethodName) prog_30_method_7_code (9 : Nat) (Option.none : Option Jvm.ClassFile.FieldType), Jvm.Cond.code ({ cls := "java/lang/Integer", name := "highestOneBit", desc := "(I)I" } : Jvm.MethodName) jdk_33_method_45_code (1 : Nat) (Option.some Jvm.ClassFile.FieldType.int), Jvm.Cond.code ({ cls := "java/lang/Integer", name := "numberOfLeadingZeros", desc := "(I)I" } : Jvm.MethodName) jdk_33_method_47_code (2 : Nat) (Option.some Jvm.ClassFile.FieldType.int), Jvm.Cond.code ({ cls := "java/lang/Math", name := "max", desc := "(II)I" } : Jvm.MethodName) jdk_29_method_65_code (2 : Nat) (Option.some Jvm.ClassFile.FieldType.int), Jvm.Cond.code ({ cls := "com/example/throttlua/throttlua/slidinglog/SubjectLog", name := "moveTo", desc := "(I)V" } : Jvm.MethodName) prog_30_method_15_code (8 : Nat) (Option.none : Option Jvm.ClassFile.FieldType), Jvm.Cond.code ({ cls := "java/util/BitSet", name := "nextSetBit", desc := "(I)I" } : Jvm.MethodName) jdk_92_method_28_code (5 : Nat) (Option.some Jvm.ClassFile.FieldType.int), Jvm.Cond.code ({ cls := "java/util/BitSet", name := "checkInvariants", desc := "()V" } : Jvm.MethodName) jdk_92_method_2_code (1 : Nat) (Option.none : Option Jvm.ClassFile.FieldType), Jvm.Cond.code ({ cls := "java/util/BitSet", name := "<init>", desc := "(I)V" } : Jvm.MethodName) jdk_92_method_5_code (2 : Nat) (Option.none : Option Jvm.ClassFile.FieldType), Jvm.Cond.code ({ cls := "java/util/BitSet", name := "set", desc := "(II)V" } : Jvm.MethodName) jdk_92_method_21_code (10 : Nat) (Option.none : Option Jvm.ClassFile.FieldType), Jvm.Cond.code ({ cls := "java/util/BitSet", name := "checkRange", desc := "(II)V" } : Jvm.MethodName) jdk_92_method_16_code (2 : Nat) (Option.none : Option Jvm.ClassFile.FieldType), Jvm.Cond.code ({ cls := "java/util/Arrays", name := "fill", desc := "([JIIJ)V" } : Jvm.MethodName) jdk_65_method_102_code (6 : Nat) (Option.none : Option Jvm.ClassFile.FieldType), Jvm.Cond.code ({ cls := "java/util/Arrays", name := "rangeCheck", desc := "(III)V" } : Jvm.MethodName) jdk_65_method_30_code (3 : Nat) (Option.none : Option Jvm.ClassFile.FieldType), Jvm.Cond.code ({ cls := "java/util/BitSet", name := "set", desc := "(I)V" } : Jvm.MethodName) jdk_92_method_19_code (3 : Nat) (Option.none : Option Jvm.ClassFile.FieldType), Jvm.Cond.code ({ cls := "java/util/BitSet", name := "expandTo", desc := "(I)V" } : Jvm.MethodName) jdk_92_method_15_code (3 : Nat) (Option.none : Option Jvm.ClassFile.FieldType), Jvm.Cond.code ({ cls := "java/util/BitSet", name := "ensureCapacity", desc := "(I)V" } : Jvm.MethodName) jdk_92_method_14_code (3 : Nat) (Option.none : Option Jvm.ClassFile.FieldType), Jvm.Cond.code ({ cls := "com/example/throttlua/throttlua/slidinglog/SubjectLog", name := "setSpan", desc := "(IJ)V" } : Jvm.MethodName) prog_30_method_14_code (7 : Nat) (Option.none : Option Jvm.ClassFile.FieldType), Jvm.Cond.code ({ cls := "com/example/throttlua/throttlua/slidinglog/SubjectLogTakenAfterPinLaw", name := "addRef", desc := "([J[J[ZII)I" } : Jvm.MethodName) method_2_code (5 : Nat) (Option.some Jvm.ClassFile.FieldType.int), Jvm.Cond.code ({ cls := "com/example/throttlua/throttlua/slidinglog/SubjectLogTakenAfterPinLaw", name := "after", desc := "([J[JIIJ)J" } : Jvm.MethodName) method_3_code (6 : Nat) (Option.some Jvm.ClassFile.FieldType.long), Jvm.Cond.code ({ cls := "com/example/throttlua/throttlua/slidinglog/SubjectLog", name := "takenAfter", desc := "(J)J" } : Jvm.MethodName) prog_30_method_4_code (5 : Nat) (Option.some Jvm.ClassFile.FieldType.long), Jvm.Cond.code ({ cls := "com/example/throttlua/throttlua/slidinglog/SubjectLog", name := "oldestAfter", desc := "(J)I" } : Jvm.MethodName) prog_30_method_10_code (3 : Nat) (Option.some Jvm.ClassFile.FieldType.int), Jvm.Cond.code ({ cls := "com/example/throttlua/throttlua/slidinglog/SubjectLog", name := "firstSlotPast", desc := "([JJJI)I" } : Jvm.MethodName) prog_30_method_12_code (10 : Nat) (Option.some Jvm.ClassFile.FieldType.int), Jvm.Cond.code ({ cls := "java/lang/Long", name := "numberOfTrailingZeros", desc := "(J)I" } : Jvm.MethodName) jdk_35_method_49_code (3 : Nat) (Option.some Jvm.ClassFile.FieldType.int), Jvm.Cond.code ({ cls := "java/lang/Integer", name := "numberOfTrailingZeros", desc := "(I)I" } : Jvm.MethodName) jdk_33_method_48_code (2 : Nat) (Option.some Jvm.ClassFile.FieldType.int), Jvm.Cond.code ({ cls := "com/example/throttlua/throttlua/slidinglog/SubjectLog", name := "totalBefore", desc := "(I)J" } : Jvm.MethodName) prog_30_method_11_code (3 : Nat) (Option.some Jvm.ClassFile.FieldType.long), Jvm.Cond.code ({ cls := "java/util/BitSet", name := "previousSetBit", desc := "(I)I" } : Jvm.MethodName) jdk_92_method_30_code (5 : Nat) (Option.some Jvm.ClassFile.FieldType.int), Jvm.Cond.code ({ cls := "com/example/throttlua/throttlua/slidinglog/SubjectLog", name := "dropUpTo", desc := "(J)V" } : Jvm.MethodName) prog_30_method_6_code (4 : Nat) (Option.none : Option Jvm.ClassFile.FieldType), Jvm.Cond.code ({ cls := "com/example/throttlua/throttlua/slidinglog/SubjectLog", name := "shrink", desc := "()Z" } : Jvm.MethodName) prog_30_method_9_code (6 : Nat) (Option.some Jvm.ClassFile.FieldType.boolean), Jvm.Cond.code ({ cls := "com/example/throttlua/throttlua/slidinglog/SubjectLog", name := "shortest", desc := "()I" } : Jvm.MethodName) prog_30_method_13_code (3 : Nat) (Option.some Jvm.ClassFile.FieldType.int), Jvm.Cond.code ({ cls := "java/lang/Long", name := "numberOfLeadingZeros", desc := "(J)I" } : Jvm.MethodName) jdk_35_method_48_code (3 : Nat) (Option.some Jvm.ClassFile.FieldType.int), Jvm.Cond.code ({ cls := "java/util/BitSet", name := "clear", desc := "(I)V" } : Jvm.MethodName) jdk_92_method_23_code (3 : Nat) (Option.none : Option Jvm.ClassFile.FieldType), Jvm.Cond.code ({ cls := "java/util/BitSet", name := "recalculateWordsInUse", desc := "()V" } : Jvm.MethodName) jdk_92_method_3_code (2 : Nat) (Option.none : Option Jvm.ClassFile.FieldType), Jvm.Cond.code ({ cls := "java/util/BitSet", name := "clear", desc := "()V" } : Jvm.MethodName) jdk_92_method_25_code (1 : Nat) (Option.none : Option Jvm.ClassFile.FieldType)]
set_option maxRecDepth 65536 in
theorem codes_eq : words1.filter isCode = codes1 := rfl
theorem w_codes : ∀ c ∈ words1.filter isCode, c.before args0 about1 = true := by
  rw [codes_eq]
  intro c hc
  simp only [codes1, List.mem_cons, List.not_mem_nil, or_false] at hc
  rcases hc with rfl | rfl | rfl | rfl | rfl | rfl | rfl | rfl | rfl | rfl | rfl | rfl | rfl | rfl | rfl | rfl | rfl | rfl | rfl | rfl | rfl | rfl | rfl | rfl | rfl | rfl | rfl | rfl | rfl | rfl | rfl | rfl | rfl | rfl | rfl | rfl | rfl | rfl | rfl | rfl
  · exact w_c0
  · exact w_c1
  · exact w_c2
  · exact w_c3
  · exact w_c4
  · exact w_c5
  · exact w_c6
  · exact w_c7
  · exact w_c8
  · exact w_c9
  · exact w_c10
  · exact w_c11
  · exact w_c12
  · exact w_c13
  · exact w_c14
  · exact w_c15
  · exact w_c16
  · exact w_c17
  · exact w_c18
  · exact w_c19
  · exact w_c20
  · exact w_c21
  · exact w_c22
  · exact w_c23
  · exact w_c24
  · exact w_c25
  · exact w_c26
  · exact w_c27
  · exact w_c28
  · exact w_c29
  · exact w_c30
  · exact w_c31
  · exact w_c32
  · exact w_c33
  · exact w_c34
  · exact w_c35
  · exact w_c36
  · exact w_c37
  · exact w_c38
  · exact w_c39
set_option maxRecDepth 65536 in
theorem w_t1 : (words1.take 24).all (fun c => isCode c || c.before args0 about1) = true := by decide +kernel
set_option maxRecDepth 65536 in
theorem w_t2 : ((words1.drop 24).take 24).all (fun c => isCode c || c.before args0 about1) = true := by decide +kernel
set_option maxRecDepth 65536 in
theorem w_t3 : (((words1.drop 24).drop 24).take 24).all (fun c => isCode c || c.before args0 about1) = true := by decide +kernel
set_option maxRecDepth 65536 in
theorem w_t4 : ((((words1.drop 24).drop 24).drop 24).take 24).all (fun c => isCode c || c.before args0 about1) = true := by decide +kernel
set_option maxRecDepth 65536 in
theorem w_t5 : (((((words1.drop 24).drop 24).drop 24).drop 24).take 24).all (fun c => isCode c || c.before args0 about1) = true := by decide +kernel
set_option maxRecDepth 65536 in
theorem w_t6 : ((((((words1.drop 24).drop 24).drop 24).drop 24).drop 24).take 24).all (fun c => isCode c || c.before args0 about1) = true := by decide +kernel
set_option maxRecDepth 65536 in
theorem w_t7 : (((((((words1.drop 24).drop 24).drop 24).drop 24).drop 24).drop 24).take 24).all (fun c => isCode c || c.before args0 about1) = true := by decide +kernel
set_option maxRecDepth 65536 in
theorem w_t8 : ((((((((words1.drop 24).drop 24).drop 24).drop 24).drop 24).drop 24).drop 24).take 24).all (fun c => isCode c || c.before args0 about1) = true := by decide +kernel
set_option maxRecDepth 65536 in
theorem w_t9 : ((((((((words1.drop 24).drop 24).drop 24).drop 24).drop 24).drop 24).drop 24).drop 24).all (fun c => isCode c || c.before args0 about1) = true := by decide +kernel
theorem w_tables : (allAtoms (Jvm.Cond.code x code maxLocals ret :: tables_1)).before args0 about1 = true := by
  rw [allAtoms_all]
  show words1.all (fun c => c.before args0 about1) = true
  refine all_split ?_ w_codes
  rw [← List.take_append_drop 24 words1, List.all_append, w_t1, ← List.take_append_drop 24 (words1.drop 24), List.all_append, w_t2, ← List.take_append_drop 24 ((words1.drop 24).drop 24), List.all_append, w_t3, ← List.take_append_drop 24 (((words1.drop 24).drop 24).drop 24), List.all_append, w_t4, ← List.take_append_drop 24 ((((words1.drop 24).drop 24).drop 24).drop 24), List.all_append, w_t5, ← List.take_append_drop 24 (((((words1.drop 24).drop 24).drop 24).drop 24).drop 24), List.all_append, w_t6, ← List.take_append_drop 24 ((((((words1.drop 24).drop 24).drop 24).drop 24).drop 24).drop 24), List.all_append, w_t7, ← List.take_append_drop 24 (((((((words1.drop 24).drop 24).drop 24).drop 24).drop 24).drop 24).drop 24), List.all_append, w_t8, w_t9]
  rfl
set_option maxRecDepth 65536 in
theorem w_rest : rest_1_c.before args0 about1 = true := by decide +kernel
set_option maxRecDepth 65536 in
theorem w_case : (Jvm.Cond.and given_1 narrow_1).before args0 about1 = true := by decide +kernel
theorem w_applies : (headSpec (Jvm.Cond.code x code maxLocals ret :: tables_1) room_1).applies x e0.platform about1 = true :=
  (Spec.applies_iff w_frames).mpr ⟨w_running, w_runnable, w_alone, w_named, w_hears, w_ripe, w_room, w_tables⟩
theorem atStart : AtStart classFile x code maxLocals ret World_1 tables_1 room_1 Calls_1 rest_1 Pre_1 launch0 p0 e0 about1 theMethod args0 below0 :=
  ⟨lists_1, trivial, launch0.admits_env _ _ _, launch0.least_env, fairChoices_fair.cas, fairChoices_fair.clock, w_frames, w_args, w_heap, w_applies, trivial, w_rest, w_case⟩
end start1
theorem witness_1 : WitnessClaimed_1 := ⟨start1.p0, start1.e0, start1.about1, start1.theMethod, start1.args0, start1.below0, start1.atStart⟩
end Jvm.Pilot.@@N@@
