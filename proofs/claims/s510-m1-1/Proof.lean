import JvmDerived
import JvmDerived.Pilot.@@N@@Statement
import JvmDerived.Pilot.@@N@@Code
set_option linter.unusedVariables false
set_option linter.unusedSimpArgs false
namespace Jvm.RoadKit
open Sem ClassFile Op Lib Jvm.Stand Jvm.Free Jvm.LawKit
section New
variable {p : Program} {l : Launch} {e : Env} {R : Room} {s : State} {m : MethodId} {args : Array Value} {below : List Frame} {meth : Method} {c : Code} {T : State} {locs : List Loc} {cells slots : Nat}
theorem retI (X : Stand p l e R s m args below meth c T locs cells slots) (hx : p.tables.exec = Jvm.exec) {pc : Nat} {Ls : Array Slot} {z : Int32} {rest : List Value} (hret : meth.sig.returnType = some .int) (hd : decode c.code pc = .ok (.ireturn, 1)) {fs : List Frame}
    (hl : ∀ (f : JFrame) (acts : List Action), f.method = m → f.locked = none → f.entered = [] → (doReturn e (T.setTop f) acts (some (.int z))).1 = T.setFrames fs) : Steps p.tables e below (T.setTop (mkF m pc Ls (.int z :: rest))) (T.setFrames fs) := by
  have hm' : T.vm.method? m = some meth := X.method'
  have hn : narrow .int (.int z) = .int z := rfl
  show Steps p.tables e below (T.setTop { method := m, pc := pc, locals := Ls, stack := _ :: rest, locked := none }) _
  jvm_step X.here [X.here.top, hx, hd, hm', hret, hn]
  first | (intro acts; rw [hl _ acts rfl rfl rfl]) | rw [hl _ _ rfl rfl rfl]
  exact Steps.refl _
theorem own_retJ (X : Stand p l e R s m args below meth c T locs cells slots) (hx : p.tables.exec = Jvm.exec) {pc : Nat} {Ls : Array Slot} {z : Int64} {rest : List Value} (hret : meth.sig.returnType = some .long) (hd : decode c.code pc = .ok (.lreturn, 1)) {fs : List Frame}
    (hl : ∀ (f : JFrame) (acts : List Action), f.method = m → f.locked = none → f.entered = [] → (doReturn e (T.setTop f) acts (some (.long z))).1 = T.setFrames fs) : Steps p.tables e below (T.setTop (mkF m pc Ls (.long z :: rest))) (T.setFrames fs) := by
  have hm' : T.vm.method? m = some meth := X.method'
  show Steps p.tables e below (T.setTop { method := m, pc := pc, locals := Ls, stack := _ :: rest, locked := none }) _
  jvm_step X.here [X.here.top, hx, hd, hm', hret, narrow]
  first | (intro acts; rw [hl _ acts rfl rfl rfl]) | rw [hl _ _ rfl rfl rfl]
  exact Steps.refl _
theorem own_join {n0 : Nat} (X : Stand p l e R s m args below meth c T locs cells slots) (N : Fr n0 locs) {h : Heap} (g g' : JFrame)
    (H : ∃ (T' : State) (locs' : List Loc), Stand p l e R s m args below meth c T' locs' cells slots ∧ Fr n0 locs' ∧ T'.heap = h ∧ ∀ t, Steps p.tables e below (T'.setTop g') t → Steps p.tables e below (T.setTop g) t) :
    ∃ (T' : State) (locs' : List Loc), Stand p l e R s m args below meth c T' locs' cells slots ∧ Fr n0 locs' ∧ T'.heap = h ∧ ∀ t, Steps p.tables e below (T'.setTop g') t → Steps p.tables e below (T.setTop g) t := H
theorem own_mono (X : Stand p l e R s m args below meth c T locs cells slots) {c' s' : Nat} (h1 : cells ≤ c') (h2 : slots ≤ s') : Stand p l e R s m args below meth c T locs c' s' :=
  ⟨X.admits, X.cas, X.clock, X.frames, X.room, X.hears, X.method, X.code, X.here, X.tail, X.warmed, X.limits, X.bytes, X.same.mono h1 h2⟩
theorem own_lrem {g : JFrame} {target : State} (X : Stand p l e R s m args below meth c T locs cells slots) (hx : p.tables.exec = Jvm.exec) (hg : g.method = m) {x y : Int64} {rest : List Value} (hd : decode c.code g.pc = .ok (.lrem, 1)) (hs : g.stack = .long y :: .long x :: rest) (hy : y ≠ 0)
    (hr : Steps p.tables e below (T.setTop { g with pc := g.pc + 1, stack := .long (x % y) :: rest }) target) : Steps p.tables e below (T.setTop g) target :=
  Jvm.Free.XS.lrem X.here hx hg hd hs hy (by rw [lrem_mod x y]; exact hr)
def Bya (Z : State) (h : Heap) (a : Addr) (z : Int32) (f : Int32 → Int32) : Prop := ∃ c : Cell, Arr Z h a c .byte ∧ c.slots.size = z.toNatClampNeg ∧ ∀ j : Int32, ¬ j < 0 → j < z → c.slots[j.toNatClampNeg]? = some (.int (f j))
theorem Bya.lt {Z : State} {h : Heap} {a : Addr} {z : Int32} {f : Int32 → Int32} (F : Bya Z h a z f) : a < h.size := by obtain ⟨c, A, -⟩ := F; exact A.lt
theorem Bya.ext {Z : State} {h h' : Heap} {a : Addr} {z : Int32} {f : Int32 → Int32} (F : Bya Z h a z f) (E : Ext h h') : Bya Z h' a z f := by obtain ⟨c, A, r⟩ := F; exact ⟨c, A.ext E, r⟩
theorem Bya.other {Z : State} {h h' : Heap} {a b : Addr} {z : Int32} {f : Int32 → Int32} {sl : Nat} {v : Value} (F : Bya Z h b z f) (W : Wr h h' a sl v) (q : b ≠ a) : Bya Z h' b z f := by obtain ⟨c, A, r⟩ := F; exact ⟨c, A.other W q, r⟩
theorem Bya.keep {Z : State} {h h' : Heap} {a : Addr} {z : Int32} {f : Int32 → Int32} {ws : List Addr} (F : Bya Z h a z f) (K : Keep h h' ws) (q : a ∉ ws) : Bya Z h' a z f := by obtain ⟨c, A, r⟩ := F; exact ⟨c, ⟨K.2.1 a c A.1 q, A.2⟩, r⟩
theorem Bya.set {Z : State} {h h' : Heap} {a : Addr} {z j v : Int32} {f : Int32 → Int32} {c : Cell} (A : Arr Z h a c .byte) (S : c.slots.size = z.toNatClampNeg) (H : ∀ j : Int32, ¬ j < 0 → j < z → c.slots[j.toNatClampNeg]? = some (.int (f j))) (hj : ¬ j < 0 ∧ j < z) (W : Wr h h' a j.toNatClampNeg (.int v)) : Bya Z h' a z (fun i => if i = j then v else f i) := by
  refine ⟨_, A.same W, by rw [sz_set]; exact S, fun i h1 h2 => ?_⟩
  by_cases q : i = j
  · rw [get_hit (inb_of S hj) q]; simp [q]
  · rw [get_miss hj.1 h1 q, H i h1 h2]; simp [q]
theorem Bya.of_arv {Z : State} {h : Heap} {a : Addr} {k : ClassId} {z : Int32} {vs : List Value} {es : List Int32} (F : Arv Z h a k .byte z vs (.int (0 : Int32))) (e : vs = es.map Value.int) : Bya Z h a z (fun i => es.getD i.toNatClampNeg 0) := by
  obtain ⟨c, A, -, S, -, H, -⟩ := F
  refine ⟨c, A, S, fun j h1 h2 => ?_⟩
  refine H.at (inb_of S ⟨h1, h2⟩) ?_
  subst e
  simp only [List.getD_eq_getElem?_getD, List.getElem?_map]
  cases es[j.toNatClampNeg]? <;> rfl
theorem own_b1 {x : Int32} (h : x = 1) : ¬ x = 0 := by rw [h]; decide
theorem own_cons {α : Type} {a b : α} {l m : List α} (h1 : a = b) (h2 : l = m) : a :: l = b :: m := by rw [h1, h2]
theorem own_arv {Z : State} {h : Heap} {a : Addr} {k : ClassId} {ty : FieldType} {z : Int32} {vs ws : List Value} {d : Value} (A : Arv Z h a k ty z vs d) (q : ws = vs) : Arv Z h a k ty z ws d := q ▸ A
theorem own_fld {Z : State} {h : Heap} {a : Addr} {C n d : String} {v w : Value} (F : Fld Z h a C n d v) (q : w = v) : Fld Z h a C n d w := q ▸ F
end New
end Jvm.RoadKit
namespace Jvm.Pilot.@@N@@
open Jvm Jvm.ClassFile Sem Op Lib Jvm.Free Jvm.Stand Jvm.LawKit Jvm.RoadKit Bundle Jvm.Pilot.@@N@@.Jvm.D
abbrev own_T (Z : State) (a0 : Array Value) : Prop := ∀ d ∈ tables_1, d.before a0 Z = true
set_option maxRecDepth 65536
set_option maxHeartbeats 40000000
abbrev oc1 := method_2_code
abbrev oy1 := (⟨"com/example/throttlua/throttlua/slidinglog/SubjectLogNewestTimePinLaw", "step", "(J)J"⟩ : MethodName)
abbrev oc2 := prog_30_method_1_code
abbrev oy2 := (⟨"com/example/throttlua/throttlua/slidinglog/SubjectLog", "<init>", "()V"⟩ : MethodName)
abbrev oy3 := (⟨"java/lang/Object", "<init>", "()V"⟩ : MethodName)
abbrev oc4 := jdk_92_method_4_code
abbrev oy4 := (⟨"java/util/BitSet", "<init>", "()V"⟩ : MethodName)
abbrev oc5 := jdk_92_method_6_code
abbrev oy5 := (⟨"java/util/BitSet", "initWords", "(I)V"⟩ : MethodName)
abbrev oc6 := jdk_92_method_1_code
abbrev oy6 := (⟨"java/util/BitSet", "wordIndex", "(I)I"⟩ : MethodName)
abbrev oc7 := prog_30_method_7_code
abbrev oy7 := (⟨"com/example/throttlua/throttlua/slidinglog/SubjectLog", "add", "(JJI)V"⟩ : MethodName)
abbrev oy8 := (⟨"java/lang/Integer", "highestOneBit", "(I)I"⟩ : MethodName)
abbrev oy9 := (⟨"java/lang/Integer", "numberOfLeadingZeros", "(I)I"⟩ : MethodName)
abbrev oc10 := jdk_29_method_65_code
abbrev oy10 := (⟨"java/lang/Math", "max", "(II)I"⟩ : MethodName)
abbrev oc11 := prog_30_method_15_code
abbrev oy11 := (⟨"com/example/throttlua/throttlua/slidinglog/SubjectLog", "moveTo", "(I)V"⟩ : MethodName)
abbrev oc12 := jdk_92_method_28_code
abbrev oy12 := (⟨"java/util/BitSet", "nextSetBit", "(I)I"⟩ : MethodName)
abbrev oc13 := jdk_92_method_2_code
abbrev oy13 := (⟨"java/util/BitSet", "checkInvariants", "()V"⟩ : MethodName)
abbrev oc14 := jdk_92_method_5_code
abbrev oy14 := (⟨"java/util/BitSet", "<init>", "(I)V"⟩ : MethodName)
abbrev oc15 := jdk_92_method_21_code
abbrev oy15 := (⟨"java/util/BitSet", "set", "(II)V"⟩ : MethodName)
abbrev oc16 := jdk_92_method_16_code
abbrev oy16 := (⟨"java/util/BitSet", "checkRange", "(II)V"⟩ : MethodName)
abbrev oc17 := jdk_65_method_102_code
abbrev oy17 := (⟨"java/util/Arrays", "fill", "([JIIJ)V"⟩ : MethodName)
abbrev oc18 := jdk_65_method_30_code
abbrev oy18 := (⟨"java/util/Arrays", "rangeCheck", "(III)V"⟩ : MethodName)
abbrev oc19 := jdk_29_method_70_code
abbrev oy19 := (⟨"java/lang/Math", "min", "(JJ)J"⟩ : MethodName)
abbrev oc20 := jdk_92_method_19_code
abbrev oy20 := (⟨"java/util/BitSet", "set", "(I)V"⟩ : MethodName)
abbrev oc21 := jdk_92_method_15_code
abbrev oy21 := (⟨"java/util/BitSet", "expandTo", "(I)V"⟩ : MethodName)
abbrev oc22 := jdk_92_method_14_code
abbrev oy22 := (⟨"java/util/BitSet", "ensureCapacity", "(I)V"⟩ : MethodName)
abbrev oc23 := prog_30_method_14_code
abbrev oy23 := (⟨"com/example/throttlua/throttlua/slidinglog/SubjectLog", "setSpan", "(IJ)V"⟩ : MethodName)
abbrev oc24 := prog_30_method_3_code
abbrev oy24 := (⟨"com/example/throttlua/throttlua/slidinglog/SubjectLog", "newestTime", "()J"⟩ : MethodName)
abbrev oc25 := prog_30_method_6_code
abbrev oy25 := (⟨"com/example/throttlua/throttlua/slidinglog/SubjectLog", "dropUpTo", "(J)V"⟩ : MethodName)
abbrev oy26 := (⟨"java/lang/Long", "numberOfTrailingZeros", "(J)I"⟩ : MethodName)
abbrev oy27 := (⟨"java/lang/Integer", "numberOfTrailingZeros", "(I)I"⟩ : MethodName)
abbrev oc28 := jdk_92_method_23_code
abbrev oy28 := (⟨"java/util/BitSet", "clear", "(I)V"⟩ : MethodName)
abbrev oc29 := jdk_92_method_3_code
abbrev oy29 := (⟨"java/util/BitSet", "recalculateWordsInUse", "()V"⟩ : MethodName)
abbrev oc30 := prog_30_method_9_code
abbrev oy30 := (⟨"com/example/throttlua/throttlua/slidinglog/SubjectLog", "shrink", "()Z"⟩ : MethodName)
abbrev oc31 := prog_30_method_13_code
abbrev oy31 := (⟨"com/example/throttlua/throttlua/slidinglog/SubjectLog", "shortest", "()I"⟩ : MethodName)
abbrev oc32 := jdk_92_method_30_code
abbrev oy32 := (⟨"java/util/BitSet", "previousSetBit", "(I)I"⟩ : MethodName)
abbrev oy33 := (⟨"java/lang/Long", "numberOfLeadingZeros", "(J)I"⟩ : MethodName)
abbrev oU : Slot := .unset
abbrev oD : Slot := .second
abbrev oI (n : Int32) : Slot := .val (.int n)
abbrev oJ (n : Int64) : Slot := .val (.long n)
abbrev oR (n : Addr) : Slot := .val (.ref n)
abbrev oM : Int64 := 9223372036854775807
abbrev oZ : Value := .long (0 : Int64)
abbrev oL : String := "com/example/throttlua/throttlua/slidinglog/SubjectLog"
abbrev oB : String := "java/util/BitSet"
section OwnW
variable {Z : State} {a0 : Array Value}
theorem ow0 (hw : own_T Z a0) : (Cond.methodLink "com/example/throttlua/throttlua/slidinglog/SubjectLogNewestTimePinLaw" (11 : Nat) oy1).before a0 Z = true := hw _ (List.mem_of_getElem? (i := 0) rfl)
theorem ow1 (hw : own_T Z a0) : (Cond.static oy1).before a0 Z = true := hw _ (List.mem_of_getElem? (i := 1) rfl)
theorem ow2 (hw : own_T Z a0) : (Cond.initialized "com/example/throttlua/throttlua/slidinglog/SubjectLogNewestTimePinLaw").before a0 Z = true := hw _ (List.mem_of_getElem? (i := 2) rfl)
theorem ow3 (hw : own_T Z a0) : (Cond.code oy1 oc1 (2 : Nat) (Option.some FieldType.long)).before a0 Z = true := hw _ (List.mem_of_getElem? (i := 3) rfl)
theorem ow4 (hw : own_T Z a0) : (Cond.constantLong "com/example/throttlua/throttlua/slidinglog/SubjectLogNewestTimePinLaw" (7 : Nat) (3 : Int64)).before a0 Z = true := hw _ (List.mem_of_getElem? (i := 4) rfl)
theorem ow5 (hw : own_T Z a0) : (Cond.constantLong "com/example/throttlua/throttlua/slidinglog/SubjectLogNewestTimePinLaw" (9 : Nat) (65535 : Int64)).before a0 Z = true := hw _ (List.mem_of_getElem? (i := 5) rfl)
theorem ow6 (hw : own_T Z a0) : (Cond.constantLong "com/example/throttlua/throttlua/slidinglog/SubjectLogNewestTimePinLaw" (17 : Nat) (262143 : Int64)).before a0 Z = true := hw _ (List.mem_of_getElem? (i := 6) rfl)
theorem ow7 (hw : own_T Z a0) : (Cond.classLink "com/example/throttlua/throttlua/slidinglog/SubjectLogNewestTimePinLaw" (19 : Nat) oL).before a0 Z = true := hw _ (List.mem_of_getElem? (i := 7) rfl)
theorem ow8 (hw : own_T Z a0) : (Cond.instantiable oL (9 : Nat)).before a0 Z = true := hw _ (List.mem_of_getElem? (i := 8) rfl)
theorem ow9 (hw : own_T Z a0) : (Cond.initialized oL).before a0 Z = true := hw _ (List.mem_of_getElem? (i := 9) rfl)
theorem ow10 (hw : own_T Z a0) : (Cond.methodLink "com/example/throttlua/throttlua/slidinglog/SubjectLogNewestTimePinLaw" (21 : Nat) oy2).before a0 Z = true := hw _ (List.mem_of_getElem? (i := 10) rfl)
theorem ow11 (hw : own_T Z a0) : (Cond.instanceMethod oy2).before a0 Z = true := hw _ (List.mem_of_getElem? (i := 11) rfl)
theorem ow12 (hw : own_T Z a0) : (Cond.code oy2 oc2 (1 : Nat) (Option.none : Option FieldType)).before a0 Z = true := hw _ (List.mem_of_getElem? (i := 12) rfl)
theorem ow13 (hw : own_T Z a0) : (Cond.methodLink oL (3 : Nat) oy3).before a0 Z = true := hw _ (List.mem_of_getElem? (i := 13) rfl)
theorem ow14 (hw : own_T Z a0) : (Cond.instanceMethod oy3).before a0 Z = true := hw _ (List.mem_of_getElem? (i := 14) rfl)
theorem ow15 (hw : own_T Z a0) : (Cond.code oy3 object_method_1_code (1 : Nat) (Option.none : Option FieldType)).before a0 Z = true := hw _ (List.mem_of_getElem? (i := 15) rfl)
theorem ow16 (hw : own_T Z a0) : (Cond.arrayClass FieldType.long).before a0 Z = true := hw _ (List.mem_of_getElem? (i := 16) rfl)
theorem ow17 (hw : own_T Z a0) : (Cond.fieldLink oL (9 : Nat) oL "times" "[J").before a0 Z = true := hw _ (List.mem_of_getElem? (i := 17) rfl)
theorem ow18 (hw : own_T Z a0) : (Cond.lays oL oL "times" "[J").before a0 Z = true := hw _ (List.mem_of_getElem? (i := 18) rfl)
theorem ow19 (hw : own_T Z a0) : (Cond.fieldLink oL (15 : Nat) oL "froms" "[J").before a0 Z = true := hw _ (List.mem_of_getElem? (i := 19) rfl)
theorem ow20 (hw : own_T Z a0) : (Cond.lays oL oL "froms" "[J").before a0 Z = true := hw _ (List.mem_of_getElem? (i := 20) rfl)
theorem ow21 (hw : own_T Z a0) : (Cond.fieldLink oL (18 : Nat) oL "totals" "[J").before a0 Z = true := hw _ (List.mem_of_getElem? (i := 21) rfl)
theorem ow22 (hw : own_T Z a0) : (Cond.lays oL oL "totals" "[J").before a0 Z = true := hw _ (List.mem_of_getElem? (i := 22) rfl)
theorem ow23 (hw : own_T Z a0) : (Cond.fieldLink oL (21 : Nat) oL "spans" "[J").before a0 Z = true := hw _ (List.mem_of_getElem? (i := 23) rfl)
theorem ow24 (hw : own_T Z a0) : (Cond.lays oL oL "spans" "[J").before a0 Z = true := hw _ (List.mem_of_getElem? (i := 24) rfl)
theorem ow25 (hw : own_T Z a0) : (Cond.classLink oL (24 : Nat) oB).before a0 Z = true := hw _ (List.mem_of_getElem? (i := 25) rfl)
theorem ow26 (hw : own_T Z a0) : (Cond.instantiable oB (3 : Nat)).before a0 Z = true := hw _ (List.mem_of_getElem? (i := 26) rfl)
theorem ow27 (hw : own_T Z a0) : (Cond.initialized oB).before a0 Z = true := hw _ (List.mem_of_getElem? (i := 27) rfl)
theorem ow28 (hw : own_T Z a0) : (Cond.methodLink oL (26 : Nat) oy4).before a0 Z = true := hw _ (List.mem_of_getElem? (i := 28) rfl)
theorem ow29 (hw : own_T Z a0) : (Cond.instanceMethod oy4).before a0 Z = true := hw _ (List.mem_of_getElem? (i := 29) rfl)
theorem ow30 (hw : own_T Z a0) : (Cond.code oy4 oc4 (1 : Nat) (Option.none : Option FieldType)).before a0 Z = true := hw _ (List.mem_of_getElem? (i := 30) rfl)
theorem ow31 (hw : own_T Z a0) : (Cond.methodLink oB (21 : Nat) oy3).before a0 Z = true := hw _ (List.mem_of_getElem? (i := 31) rfl)
theorem ow32 (hw : own_T Z a0) : (Cond.fieldLink oB (7 : Nat) oB "wordsInUse" "I").before a0 Z = true := hw _ (List.mem_of_getElem? (i := 32) rfl)
theorem ow33 (hw : own_T Z a0) : (Cond.lays oB oB "wordsInUse" "I").before a0 Z = true := hw _ (List.mem_of_getElem? (i := 33) rfl)
theorem ow34 (hw : own_T Z a0) : (Cond.fieldLink oB (24 : Nat) oB "sizeIsSticky" "Z").before a0 Z = true := hw _ (List.mem_of_getElem? (i := 34) rfl)
theorem ow35 (hw : own_T Z a0) : (Cond.lays oB oB "sizeIsSticky" "Z").before a0 Z = true := hw _ (List.mem_of_getElem? (i := 35) rfl)
theorem ow36 (hw : own_T Z a0) : (Cond.methodLink oB (27 : Nat) oy5).before a0 Z = true := hw _ (List.mem_of_getElem? (i := 36) rfl)
theorem ow37 (hw : own_T Z a0) : (Cond.instanceMethod oy5).before a0 Z = true := hw _ (List.mem_of_getElem? (i := 37) rfl)
theorem ow38 (hw : own_T Z a0) : (Cond.privateMethod oy5).before a0 Z = true := hw _ (List.mem_of_getElem? (i := 38) rfl)
theorem ow39 (hw : own_T Z a0) : (Cond.selects oB oy5 oy5).before a0 Z = true := hw _ (List.mem_of_getElem? (i := 39) rfl)
theorem ow40 (hw : own_T Z a0) : (Cond.code oy5 oc5 (2 : Nat) (Option.none : Option FieldType)).before a0 Z = true := hw _ (List.mem_of_getElem? (i := 40) rfl)
theorem ow41 (hw : own_T Z a0) : (Cond.methodLink oB (52 : Nat) oy6).before a0 Z = true := hw _ (List.mem_of_getElem? (i := 41) rfl)
theorem ow42 (hw : own_T Z a0) : (Cond.static oy6).before a0 Z = true := hw _ (List.mem_of_getElem? (i := 42) rfl)
theorem ow43 (hw : own_T Z a0) : (Cond.code oy6 oc6 (1 : Nat) (Option.some FieldType.int)).before a0 Z = true := hw _ (List.mem_of_getElem? (i := 43) rfl)
theorem ow44 (hw : own_T Z a0) : (Cond.fieldLink oB (11 : Nat) oB "words" "[J").before a0 Z = true := hw _ (List.mem_of_getElem? (i := 44) rfl)
theorem ow45 (hw : own_T Z a0) : (Cond.lays oB oB "words" "[J").before a0 Z = true := hw _ (List.mem_of_getElem? (i := 45) rfl)
theorem ow46 (hw : own_T Z a0) : (Cond.fieldLink oL (27 : Nat) oL "entries" "Ljava/util/BitSet;").before a0 Z = true := hw _ (List.mem_of_getElem? (i := 46) rfl)
theorem ow47 (hw : own_T Z a0) : (Cond.lays oL oL "entries" "Ljava/util/BitSet;").before a0 Z = true := hw _ (List.mem_of_getElem? (i := 47) rfl)
theorem ow48 (hw : own_T Z a0) : (Cond.methodLink "com/example/throttlua/throttlua/slidinglog/SubjectLogNewestTimePinLaw" (22 : Nat) oy7).before a0 Z = true := hw _ (List.mem_of_getElem? (i := 48) rfl)
theorem ow49 (hw : own_T Z a0) : (Cond.declares oy7).before a0 Z = true := hw _ (List.mem_of_getElem? (i := 49) rfl)
theorem ow50 (hw : own_T Z a0) : (Cond.instanceMethod oy7).before a0 Z = true := hw _ (List.mem_of_getElem? (i := 50) rfl)
theorem ow51 (hw : own_T Z a0) : (Cond.selects oL oy7 oy7).before a0 Z = true := hw _ (List.mem_of_getElem? (i := 51) rfl)
theorem ow52 (hw : own_T Z a0) : (Cond.code oy7 oc7 (9 : Nat) (Option.none : Option FieldType)).before a0 Z = true := hw _ (List.mem_of_getElem? (i := 52) rfl)
theorem ow53 (hw : own_T Z a0) : (Cond.fieldLink oL (31 : Nat) oL "size" "I").before a0 Z = true := hw _ (List.mem_of_getElem? (i := 53) rfl)
theorem ow54 (hw : own_T Z a0) : (Cond.lays oL oL "size" "I").before a0 Z = true := hw _ (List.mem_of_getElem? (i := 54) rfl)
theorem ow55 (hw : own_T Z a0) : (Cond.fieldLink oL (35 : Nat) oL "end" "I").before a0 Z = true := hw _ (List.mem_of_getElem? (i := 55) rfl)
theorem ow56 (hw : own_T Z a0) : (Cond.lays oL oL "end" "I").before a0 Z = true := hw _ (List.mem_of_getElem? (i := 56) rfl)
theorem ow57 (hw : own_T Z a0) : (Cond.methodLink oL (76 : Nat) oy8).before a0 Z = true := hw _ (List.mem_of_getElem? (i := 57) rfl)
theorem ow58 (hw : own_T Z a0) : (Cond.static oy8).before a0 Z = true := hw _ (List.mem_of_getElem? (i := 58) rfl)
theorem ow59 (hw : own_T Z a0) : (Cond.initialized "java/lang/Integer").before a0 Z = true := hw _ (List.mem_of_getElem? (i := 59) rfl)
theorem ow60 (hw : own_T Z a0) : (Cond.code oy8 jdk_33_method_45_code (1 : Nat) (Option.some FieldType.int)).before a0 Z = true := hw _ (List.mem_of_getElem? (i := 60) rfl)
theorem ow61 (hw : own_T Z a0) : (Cond.constant "java/lang/Integer" (127 : Nat) (-2147483648 : Int32)).before a0 Z = true := hw _ (List.mem_of_getElem? (i := 61) rfl)
theorem ow62 (hw : own_T Z a0) : (Cond.methodLink "java/lang/Integer" (51 : Nat) oy9).before a0 Z = true := hw _ (List.mem_of_getElem? (i := 62) rfl)
theorem ow63 (hw : own_T Z a0) : (Cond.static oy9).before a0 Z = true := hw _ (List.mem_of_getElem? (i := 63) rfl)
theorem ow64 (hw : own_T Z a0) : (Cond.code oy9 jdk_33_method_47_code (2 : Nat) (Option.some FieldType.int)).before a0 Z = true := hw _ (List.mem_of_getElem? (i := 64) rfl)
theorem ow65 (hw : own_T Z a0) : (Cond.constant "java/lang/Integer" (264 : Nat) (65536 : Int32)).before a0 Z = true := hw _ (List.mem_of_getElem? (i := 65) rfl)
theorem ow66 (hw : own_T Z a0) : (Cond.methodLink oL (81 : Nat) oy10).before a0 Z = true := hw _ (List.mem_of_getElem? (i := 66) rfl)
theorem ow67 (hw : own_T Z a0) : (Cond.static oy10).before a0 Z = true := hw _ (List.mem_of_getElem? (i := 67) rfl)
theorem ow68 (hw : own_T Z a0) : (Cond.initialized "java/lang/Math").before a0 Z = true := hw _ (List.mem_of_getElem? (i := 68) rfl)
theorem ow69 (hw : own_T Z a0) : (Cond.code oy10 oc10 (2 : Nat) (Option.some FieldType.int)).before a0 Z = true := hw _ (List.mem_of_getElem? (i := 69) rfl)
theorem ow70 (hw : own_T Z a0) : (Cond.methodLink oL (87 : Nat) oy11).before a0 Z = true := hw _ (List.mem_of_getElem? (i := 70) rfl)
theorem ow71 (hw : own_T Z a0) : (Cond.instanceMethod oy11).before a0 Z = true := hw _ (List.mem_of_getElem? (i := 71) rfl)
theorem ow72 (hw : own_T Z a0) : (Cond.privateMethod oy11).before a0 Z = true := hw _ (List.mem_of_getElem? (i := 72) rfl)
theorem ow73 (hw : own_T Z a0) : (Cond.code oy11 oc11 (8 : Nat) (Option.none : Option FieldType)).before a0 Z = true := hw _ (List.mem_of_getElem? (i := 73) rfl)
theorem ow74 (hw : own_T Z a0) : (Cond.fieldLink oL (54 : Nat) oL "first" "I").before a0 Z = true := hw _ (List.mem_of_getElem? (i := 74) rfl)
theorem ow75 (hw : own_T Z a0) : (Cond.lays oL oL "first" "I").before a0 Z = true := hw _ (List.mem_of_getElem? (i := 75) rfl)
theorem ow76 (hw : own_T Z a0) : (Cond.methodLink oL (50 : Nat) oy12).before a0 Z = true := hw _ (List.mem_of_getElem? (i := 76) rfl)
theorem ow77 (hw : own_T Z a0) : (Cond.declares oy12).before a0 Z = true := hw _ (List.mem_of_getElem? (i := 77) rfl)
theorem ow78 (hw : own_T Z a0) : (Cond.instanceMethod oy12).before a0 Z = true := hw _ (List.mem_of_getElem? (i := 78) rfl)
theorem ow79 (hw : own_T Z a0) : (Cond.selects oB oy12 oy12).before a0 Z = true := hw _ (List.mem_of_getElem? (i := 79) rfl)
theorem ow80 (hw : own_T Z a0) : (Cond.code oy12 oc12 (5 : Nat) (Option.some FieldType.int)).before a0 Z = true := hw _ (List.mem_of_getElem? (i := 80) rfl)
theorem ow81 (hw : own_T Z a0) : (Cond.methodLink oB (56 : Nat) oy13).before a0 Z = true := hw _ (List.mem_of_getElem? (i := 81) rfl)
theorem ow82 (hw : own_T Z a0) : (Cond.instanceMethod oy13).before a0 Z = true := hw _ (List.mem_of_getElem? (i := 82) rfl)
theorem ow83 (hw : own_T Z a0) : (Cond.privateMethod oy13).before a0 Z = true := hw _ (List.mem_of_getElem? (i := 83) rfl)
theorem ow84 (hw : own_T Z a0) : (Cond.selects oB oy13 oy13).before a0 Z = true := hw _ (List.mem_of_getElem? (i := 84) rfl)
theorem ow85 (hw : own_T Z a0) : (Cond.code oy13 oc13 (1 : Nat) (Option.none : Option FieldType)).before a0 Z = true := hw _ (List.mem_of_getElem? (i := 85) rfl)
theorem ow86 (hw : own_T Z a0) : (Cond.fieldLink oB (3 : Nat) oB "$assertionsDisabled" "Z").before a0 Z = true := hw _ (List.mem_of_getElem? (i := 86) rfl)
theorem ow87 (hw : own_T Z a0) : (Cond.methodLink oL (105 : Nat) oy14).before a0 Z = true := hw _ (List.mem_of_getElem? (i := 87) rfl)
theorem ow88 (hw : own_T Z a0) : (Cond.instanceMethod oy14).before a0 Z = true := hw _ (List.mem_of_getElem? (i := 88) rfl)
theorem ow89 (hw : own_T Z a0) : (Cond.code oy14 oc14 (2 : Nat) (Option.none : Option FieldType)).before a0 Z = true := hw _ (List.mem_of_getElem? (i := 89) rfl)
theorem ow90 (hw : own_T Z a0) : (Cond.methodLink oL (109 : Nat) oy15).before a0 Z = true := hw _ (List.mem_of_getElem? (i := 90) rfl)
theorem ow91 (hw : own_T Z a0) : (Cond.declares oy15).before a0 Z = true := hw _ (List.mem_of_getElem? (i := 91) rfl)
theorem ow92 (hw : own_T Z a0) : (Cond.instanceMethod oy15).before a0 Z = true := hw _ (List.mem_of_getElem? (i := 92) rfl)
theorem ow93 (hw : own_T Z a0) : (Cond.selects oB oy15 oy15).before a0 Z = true := hw _ (List.mem_of_getElem? (i := 93) rfl)
theorem ow94 (hw : own_T Z a0) : (Cond.code oy15 oc15 (10 : Nat) (Option.none : Option FieldType)).before a0 Z = true := hw _ (List.mem_of_getElem? (i := 94) rfl)
theorem ow95 (hw : own_T Z a0) : (Cond.methodLink oB (161 : Nat) oy16).before a0 Z = true := hw _ (List.mem_of_getElem? (i := 95) rfl)
theorem ow96 (hw : own_T Z a0) : (Cond.static oy16).before a0 Z = true := hw _ (List.mem_of_getElem? (i := 96) rfl)
theorem ow97 (hw : own_T Z a0) : (Cond.code oy16 oc16 (2 : Nat) (Option.none : Option FieldType)).before a0 Z = true := hw _ (List.mem_of_getElem? (i := 97) rfl)
theorem ow98 (hw : own_T Z a0) : (Cond.constantLong oL (65 : Nat) oM).before a0 Z = true := hw _ (List.mem_of_getElem? (i := 98) rfl)
theorem ow99 (hw : own_T Z a0) : (Cond.methodLink oL (112 : Nat) oy17).before a0 Z = true := hw _ (List.mem_of_getElem? (i := 99) rfl)
theorem ow100 (hw : own_T Z a0) : (Cond.static oy17).before a0 Z = true := hw _ (List.mem_of_getElem? (i := 100) rfl)
theorem ow101 (hw : own_T Z a0) : (Cond.initialized "java/util/Arrays").before a0 Z = true := hw _ (List.mem_of_getElem? (i := 101) rfl)
theorem ow102 (hw : own_T Z a0) : (Cond.code oy17 oc17 (6 : Nat) (Option.none : Option FieldType)).before a0 Z = true := hw _ (List.mem_of_getElem? (i := 102) rfl)
theorem ow103 (hw : own_T Z a0) : (Cond.methodLink "java/util/Arrays" (13 : Nat) oy18).before a0 Z = true := hw _ (List.mem_of_getElem? (i := 103) rfl)
theorem ow104 (hw : own_T Z a0) : (Cond.static oy18).before a0 Z = true := hw _ (List.mem_of_getElem? (i := 104) rfl)
theorem ow105 (hw : own_T Z a0) : (Cond.code oy18 oc18 (3 : Nat) (Option.none : Option FieldType)).before a0 Z = true := hw _ (List.mem_of_getElem? (i := 105) rfl)
theorem ow106 (hw : own_T Z a0) : (Cond.methodLink oL (101 : Nat) oy19).before a0 Z = true := hw _ (List.mem_of_getElem? (i := 106) rfl)
theorem ow107 (hw : own_T Z a0) : (Cond.static oy19).before a0 Z = true := hw _ (List.mem_of_getElem? (i := 107) rfl)
theorem ow108 (hw : own_T Z a0) : (Cond.code oy19 oc19 (4 : Nat) (Option.some FieldType.long)).before a0 Z = true := hw _ (List.mem_of_getElem? (i := 108) rfl)
theorem ow109 (hw : own_T Z a0) : (Cond.fieldLink oL (57 : Nat) oL "base" "J").before a0 Z = true := hw _ (List.mem_of_getElem? (i := 109) rfl)
theorem ow110 (hw : own_T Z a0) : (Cond.lays oL oL "base" "J").before a0 Z = true := hw _ (List.mem_of_getElem? (i := 110) rfl)
theorem ow111 (hw : own_T Z a0) : (Cond.methodLink oL (90 : Nat) oy20).before a0 Z = true := hw _ (List.mem_of_getElem? (i := 111) rfl)
theorem ow112 (hw : own_T Z a0) : (Cond.declares oy20).before a0 Z = true := hw _ (List.mem_of_getElem? (i := 112) rfl)
theorem ow113 (hw : own_T Z a0) : (Cond.instanceMethod oy20).before a0 Z = true := hw _ (List.mem_of_getElem? (i := 113) rfl)
theorem ow114 (hw : own_T Z a0) : (Cond.selects oB oy20 oy20).before a0 Z = true := hw _ (List.mem_of_getElem? (i := 114) rfl)
theorem ow115 (hw : own_T Z a0) : (Cond.code oy20 oc20 (3 : Nat) (Option.none : Option FieldType)).before a0 Z = true := hw _ (List.mem_of_getElem? (i := 115) rfl)
theorem ow116 (hw : own_T Z a0) : (Cond.methodLink oB (155 : Nat) oy21).before a0 Z = true := hw _ (List.mem_of_getElem? (i := 116) rfl)
theorem ow117 (hw : own_T Z a0) : (Cond.instanceMethod oy21).before a0 Z = true := hw _ (List.mem_of_getElem? (i := 117) rfl)
theorem ow118 (hw : own_T Z a0) : (Cond.privateMethod oy21).before a0 Z = true := hw _ (List.mem_of_getElem? (i := 118) rfl)
theorem ow119 (hw : own_T Z a0) : (Cond.selects oB oy21 oy21).before a0 Z = true := hw _ (List.mem_of_getElem? (i := 119) rfl)
theorem ow120 (hw : own_T Z a0) : (Cond.code oy21 oc21 (3 : Nat) (Option.none : Option FieldType)).before a0 Z = true := hw _ (List.mem_of_getElem? (i := 120) rfl)
theorem ow121 (hw : own_T Z a0) : (Cond.methodLink oB (139 : Nat) oy22).before a0 Z = true := hw _ (List.mem_of_getElem? (i := 121) rfl)
theorem ow122 (hw : own_T Z a0) : (Cond.instanceMethod oy22).before a0 Z = true := hw _ (List.mem_of_getElem? (i := 122) rfl)
theorem ow123 (hw : own_T Z a0) : (Cond.privateMethod oy22).before a0 Z = true := hw _ (List.mem_of_getElem? (i := 123) rfl)
theorem ow124 (hw : own_T Z a0) : (Cond.selects oB oy22 oy22).before a0 Z = true := hw _ (List.mem_of_getElem? (i := 124) rfl)
theorem ow125 (hw : own_T Z a0) : (Cond.code oy22 oc22 (3 : Nat) (Option.none : Option FieldType)).before a0 Z = true := hw _ (List.mem_of_getElem? (i := 125) rfl)
theorem ow126 (hw : own_T Z a0) : (Cond.methodLink oL (67 : Nat) oy23).before a0 Z = true := hw _ (List.mem_of_getElem? (i := 126) rfl)
theorem ow127 (hw : own_T Z a0) : (Cond.instanceMethod oy23).before a0 Z = true := hw _ (List.mem_of_getElem? (i := 127) rfl)
theorem ow128 (hw : own_T Z a0) : (Cond.privateMethod oy23).before a0 Z = true := hw _ (List.mem_of_getElem? (i := 128) rfl)
theorem ow129 (hw : own_T Z a0) : (Cond.code oy23 oc23 (7 : Nat) (Option.none : Option FieldType)).before a0 Z = true := hw _ (List.mem_of_getElem? (i := 129) rfl)
theorem ow130 (hw : own_T Z a0) : (Cond.methodLink "com/example/throttlua/throttlua/slidinglog/SubjectLogNewestTimePinLaw" (26 : Nat) oy24).before a0 Z = true := hw _ (List.mem_of_getElem? (i := 130) rfl)
theorem ow131 (hw : own_T Z a0) : (Cond.declares oy24).before a0 Z = true := hw _ (List.mem_of_getElem? (i := 131) rfl)
theorem ow132 (hw : own_T Z a0) : (Cond.instanceMethod oy24).before a0 Z = true := hw _ (List.mem_of_getElem? (i := 132) rfl)
theorem ow133 (hw : own_T Z a0) : (Cond.selects oL oy24 oy24).before a0 Z = true := hw _ (List.mem_of_getElem? (i := 133) rfl)
theorem ow134 (hw : own_T Z a0) : (Cond.code oy24 oc24 (1 : Nat) (Option.some FieldType.long)).before a0 Z = true := hw _ (List.mem_of_getElem? (i := 134) rfl)
theorem ow135 (hw : own_T Z a0) : (Cond.methodLink "com/example/throttlua/throttlua/slidinglog/SubjectLogNewestTimePinLaw" (30 : Nat) oy25).before a0 Z = true := hw _ (List.mem_of_getElem? (i := 135) rfl)
theorem ow136 (hw : own_T Z a0) : (Cond.declares oy25).before a0 Z = true := hw _ (List.mem_of_getElem? (i := 136) rfl)
theorem ow137 (hw : own_T Z a0) : (Cond.instanceMethod oy25).before a0 Z = true := hw _ (List.mem_of_getElem? (i := 137) rfl)
theorem ow138 (hw : own_T Z a0) : (Cond.selects oL oy25 oy25).before a0 Z = true := hw _ (List.mem_of_getElem? (i := 138) rfl)
theorem ow139 (hw : own_T Z a0) : (Cond.code oy25 oc25 (4 : Nat) (Option.none : Option FieldType)).before a0 Z = true := hw _ (List.mem_of_getElem? (i := 139) rfl)
theorem ow140 (hw : own_T Z a0) : (Cond.constantLong oB (165 : Nat) (-1 : Int64)).before a0 Z = true := hw _ (List.mem_of_getElem? (i := 140) rfl)
theorem ow141 (hw : own_T Z a0) : (Cond.methodLink oB (182 : Nat) oy26).before a0 Z = true := hw _ (List.mem_of_getElem? (i := 141) rfl)
theorem ow142 (hw : own_T Z a0) : (Cond.static oy26).before a0 Z = true := hw _ (List.mem_of_getElem? (i := 142) rfl)
theorem ow143 (hw : own_T Z a0) : (Cond.initialized "java/lang/Long").before a0 Z = true := hw _ (List.mem_of_getElem? (i := 143) rfl)
theorem ow144 (hw : own_T Z a0) : (Cond.code oy26 jdk_35_method_49_code (3 : Nat) (Option.some FieldType.int)).before a0 Z = true := hw _ (List.mem_of_getElem? (i := 144) rfl)
theorem ow145 (hw : own_T Z a0) : (Cond.methodLink "java/lang/Long" (311 : Nat) oy27).before a0 Z = true := hw _ (List.mem_of_getElem? (i := 145) rfl)
theorem ow146 (hw : own_T Z a0) : (Cond.static oy27).before a0 Z = true := hw _ (List.mem_of_getElem? (i := 146) rfl)
theorem ow147 (hw : own_T Z a0) : (Cond.code oy27 jdk_33_method_48_code (2 : Nat) (Option.some FieldType.int)).before a0 Z = true := hw _ (List.mem_of_getElem? (i := 147) rfl)
theorem ow148 (hw : own_T Z a0) : (Cond.methodLink oL (61 : Nat) oy28).before a0 Z = true := hw _ (List.mem_of_getElem? (i := 148) rfl)
theorem ow149 (hw : own_T Z a0) : (Cond.declares oy28).before a0 Z = true := hw _ (List.mem_of_getElem? (i := 149) rfl)
theorem ow150 (hw : own_T Z a0) : (Cond.instanceMethod oy28).before a0 Z = true := hw _ (List.mem_of_getElem? (i := 150) rfl)
theorem ow151 (hw : own_T Z a0) : (Cond.selects oB oy28 oy28).before a0 Z = true := hw _ (List.mem_of_getElem? (i := 151) rfl)
theorem ow152 (hw : own_T Z a0) : (Cond.code oy28 oc28 (3 : Nat) (Option.none : Option FieldType)).before a0 Z = true := hw _ (List.mem_of_getElem? (i := 152) rfl)
theorem ow153 (hw : own_T Z a0) : (Cond.methodLink oB (158 : Nat) oy29).before a0 Z = true := hw _ (List.mem_of_getElem? (i := 153) rfl)
theorem ow154 (hw : own_T Z a0) : (Cond.instanceMethod oy29).before a0 Z = true := hw _ (List.mem_of_getElem? (i := 154) rfl)
theorem ow155 (hw : own_T Z a0) : (Cond.privateMethod oy29).before a0 Z = true := hw _ (List.mem_of_getElem? (i := 155) rfl)
theorem ow156 (hw : own_T Z a0) : (Cond.selects oB oy29 oy29).before a0 Z = true := hw _ (List.mem_of_getElem? (i := 156) rfl)
theorem ow157 (hw : own_T Z a0) : (Cond.code oy29 oc29 (2 : Nat) (Option.none : Option FieldType)).before a0 Z = true := hw _ (List.mem_of_getElem? (i := 157) rfl)
theorem ow158 (hw : own_T Z a0) : (Cond.constantLong oL (74 : Nat) (8 : Int64)).before a0 Z = true := hw _ (List.mem_of_getElem? (i := 158) rfl)
theorem ow159 (hw : own_T Z a0) : (Cond.methodLink "com/example/throttlua/throttlua/slidinglog/SubjectLogNewestTimePinLaw" (34 : Nat) oy30).before a0 Z = true := hw _ (List.mem_of_getElem? (i := 159) rfl)
theorem ow160 (hw : own_T Z a0) : (Cond.declares oy30).before a0 Z = true := hw _ (List.mem_of_getElem? (i := 160) rfl)
theorem ow161 (hw : own_T Z a0) : (Cond.instanceMethod oy30).before a0 Z = true := hw _ (List.mem_of_getElem? (i := 161) rfl)
theorem ow162 (hw : own_T Z a0) : (Cond.selects oL oy30 oy30).before a0 Z = true := hw _ (List.mem_of_getElem? (i := 162) rfl)
theorem ow163 (hw : own_T Z a0) : (Cond.code oy30 oc30 (6 : Nat) (Option.some FieldType.boolean)).before a0 Z = true := hw _ (List.mem_of_getElem? (i := 163) rfl)
theorem ow164 (hw : own_T Z a0) : (Cond.methodLink oL (97 : Nat) oy31).before a0 Z = true := hw _ (List.mem_of_getElem? (i := 164) rfl)
theorem ow165 (hw : own_T Z a0) : (Cond.instanceMethod oy31).before a0 Z = true := hw _ (List.mem_of_getElem? (i := 165) rfl)
theorem ow166 (hw : own_T Z a0) : (Cond.privateMethod oy31).before a0 Z = true := hw _ (List.mem_of_getElem? (i := 166) rfl)
theorem ow167 (hw : own_T Z a0) : (Cond.code oy31 oc31 (3 : Nat) (Option.some FieldType.int)).before a0 Z = true := hw _ (List.mem_of_getElem? (i := 167) rfl)
theorem ow168 (hw : own_T Z a0) : (Cond.methodLink oL (71 : Nat) oy32).before a0 Z = true := hw _ (List.mem_of_getElem? (i := 168) rfl)
theorem ow169 (hw : own_T Z a0) : (Cond.declares oy32).before a0 Z = true := hw _ (List.mem_of_getElem? (i := 169) rfl)
theorem ow170 (hw : own_T Z a0) : (Cond.instanceMethod oy32).before a0 Z = true := hw _ (List.mem_of_getElem? (i := 170) rfl)
theorem ow171 (hw : own_T Z a0) : (Cond.selects oB oy32 oy32).before a0 Z = true := hw _ (List.mem_of_getElem? (i := 171) rfl)
theorem ow172 (hw : own_T Z a0) : (Cond.code oy32 oc32 (5 : Nat) (Option.some FieldType.int)).before a0 Z = true := hw _ (List.mem_of_getElem? (i := 172) rfl)
theorem ow173 (hw : own_T Z a0) : (Cond.methodLink oB (190 : Nat) oy33).before a0 Z = true := hw _ (List.mem_of_getElem? (i := 173) rfl)
theorem ow174 (hw : own_T Z a0) : (Cond.static oy33).before a0 Z = true := hw _ (List.mem_of_getElem? (i := 174) rfl)
theorem ow175 (hw : own_T Z a0) : (Cond.code oy33 jdk_35_method_48_code (3 : Nat) (Option.some FieldType.int)).before a0 Z = true := hw _ (List.mem_of_getElem? (i := 175) rfl)
theorem ow176 (hw : own_T Z a0) : (Cond.methodLink "java/lang/Long" (308 : Nat) oy9).before a0 Z = true := hw _ (List.mem_of_getElem? (i := 176) rfl)
theorem ow177 (hw : own_T Z a0) : (Cond.methodLink oL (93 : Nat) oy30).before a0 Z = true := hw _ (List.mem_of_getElem? (i := 177) rfl)
end OwnW
def own_StK (Z : State) (h h' : Heap) : Prop := ∀ (C n d : String) (w : Value), Sta Z h C n d w → Sta Z h' C n d w
theorem own_StK.refl (Z : State) (h : Heap) : own_StK Z h h := fun _ _ _ _ q => q
theorem own_StK.ext {Z : State} {h h1 h2 : Heap} (K : own_StK Z h h1) (E : Ext h1 h2) : own_StK Z h h2 := fun C n d w F => Sta.ext E (K C n d w F)
theorem own_StK.wr {Z : State} {h h1 h2 : Heap} {a : Addr} {sl : Nat} {v : Value} (K : own_StK Z h h1) (W : Wr h1 h2 a sl v) : own_StK Z h h2 := fun C n d w F => Sta.wr W (K C n d w F)
theorem own_StK.tr {Z : State} {h h1 h2 : Heap} (K : own_StK Z h h1) (K' : own_StK Z h1 h2) : own_StK Z h h2 := fun C n d w F => K' C n d w (K C n d w F)
theorem own_selp {s : State} {args args' : Array Value} {x y : MethodName} (hxy : x.cls = y.cls) (h0 : (Cond.selects x.cls x x).before args' s = true) (hpriv : s.PrivateAt y) (hinst : (Cond.instanceMethod y).before args s = true) (hy : y.cls ≠ "java/lang/invoke/MethodHandle" ∧ y.cls ≠ "java/lang/invoke/VarHandle") : (Cond.selects y.cls y y).before args s = true := by
 obtain ⟨c, r, m, q1, q2, q3, q4, k, hk, hki⟩ := Cond.selects_spec h0
 have hc : s.vm.findClass y.cls = some m.cls := by rw [← hxy]; exact findClass_of_methodNamed q3
 exact selects_self_of_private hc hk hki hpriv hinst hy
theorem own_ilt {p : Int32} (j k : Int32) (h : j < p) (hk : k.toInt ≤ j.toInt + 1) : ¬ p < k := by
 rw [Int32.lt_iff_toInt_lt] at h ⊢; omega
theorem own_igt {p : Int32} (j k : Int32) (h : ¬ j < p) (hk : j.toInt < k.toInt) : p < k := by
 rw [Int32.lt_iff_toInt_lt] at h ⊢; omega
section OwnK
variable {p : Program} {l : Launch} {e : Env} {R : Room} {s : State} {m : MethodId} {args : Array Value} {below : List Frame} {meth : Method} {c : Code} {T T' : State} {locs : List Loc} {cells slots : Nat} {Z : State} {a0 : Array Value} {h h0 : Heap} {code : ByteArray} {ml n0 : Nat} {own : String} {g g' : JFrame} {L : Array Slot} {S rest : List Value} {pc : Nat} {a : Addr} {Q : Option Value → Heap → List Loc → Prop}
def own_C (p : Program) (c : Code) (code : ByteArray) (ml : Nat) (s : State) (m : MethodId) (own : String) (Z : State) (a0 : Array Value) : Prop :=
 p.tables.exec = Jvm.exec ∧ c.code = code ∧ c.maxLocals = ml ∧ s.vm.findClass own = some m.cls ∧ Z.Warmed39 s.vm ∧ own_T Z a0
theorem own_C.w (C : own_C p c code ml s m own Z a0) : own_T Z a0 := C.2.2.2.2.2
theorem own_C.z (C : own_C p c code ml s m own Z a0) : Z.Warmed39 s.vm := C.2.2.2.2.1
theorem own_C.o (C : own_C p c code ml s m own Z a0) : s.vm.findClass own = some m.cls := C.2.2.2.1
theorem own_C.n (C : own_C p c code ml s m own Z a0) : c.maxLocals = ml := C.2.2.1
theorem own_C.d (C : own_C p c code ml s m own Z a0) {pc : Nat} {r : Except ClassFile.DecodeError (ClassFile.Instr × Nat)} (h2 : ClassFile.decode code pc = r) : ClassFile.decode c.code pc = r := hb C.2.1 h2
def own_Fin (p : Program) (l : Launch) (e : Env) (R : Room) (s : State) (m : MethodId) (args : Array Value) (below : List Frame) (meth : Method) (c : Code) (Q : Option Value → Heap → List Loc → Prop) (T : State) (g : JFrame) : Prop :=
 ∃ (v : Option Value) (T' : State) (locs : List Loc) (cells slots : Nat), Stand p l e R s m args below meth c T' locs cells slots ∧ cells ≤ R.cells ∧ slots ≤ R.slots ∧ (meth.sig.returnType = none → v = none) ∧ Q v T'.heap locs ∧
   ∀ fs, (∀ (f : JFrame) (acts : List Action), f.method = m → f.locked = none → f.entered = [] → (doReturn e (T'.setTop f) acts v).1 = T'.setFrames fs) → Steps p.tables e below (T.setTop g) (T'.setFrames fs)
theorem own_Fin.st (F : own_Fin p l e R s m args below meth c Q T' g') (k : ∀ t, Steps p.tables e below (T'.setTop g') t → Steps p.tables e below (T.setTop g) t) : own_Fin p l e R s m args below meth c Q T g := by
 obtain ⟨v, U, lo, ce, sl, h1, h2, h3, h4, h5, h6⟩ := F
 exact ⟨v, U, lo, ce, sl, h1, h2, h3, h4, h5, fun fs hr => k _ (h6 fs hr)⟩
/-- a body's contract -/
def own_Met (l : Launch) (y : MethodName) (code : ByteArray) (ml : Nat) (ret : Option FieldType) (rm : Room) (Z : State) (h0 : Heap) (as : Array Value) (Q : Option Value → Heap → List Loc → Prop) : Prop :=
 ∀ ws, MetFree l y (head1 (Jvm.Cond.code y code ml ret :: ws) rm) (fun a U => a = as ∧ Z.Warmed39 U.vm ∧ U.heap = h0) (fun _ _ _ _ _ => True) (fun _ U o U' => ∃ v L, o = .returned v ∧ Q v U'.heap L ∧ FrameEnd U o U' L rm.cells rm.slots)
theorem own_go {y : MethodName} {ret : Option FieldType} (hw : own_T Z a0) (hp : plainFor y = true) (hef : ∀ m, entryFrame m args ml = mkF m 0 L [])
   (body : ∀ (p : Program) (e : Env) (s : State) (m : MethodId) (below : List Frame) (meth : Method) (c : Code) (T : State), own_C p c code ml s m y.cls Z a0 → meth.sig.returnType = ret → Stand p l e R s m args below meth c T [] 0 0 → T.heap = h0 → own_Fin p l e R s m args below meth c Q T (mkF m 0 L [])) : own_Met l y code ml ret R Z h0 args Q := by
 intro ws
 refine MetFree.of_bodySF hp hisR ?_
 intro p e s m args' below meth c s₁ Bd hml0 hP hK
 obtain ⟨rfl, hZ, hh⟩ := hP
 obtain ⟨v, U, lo, ce, sl, X, h2, h3, h4, h5, h6⟩ := body p e s m below meth c s₁ ⟨Bd.exec, Bd.bytes, hml0, findClass_of_methodNamed Bd.named, hZ, hw⟩ Bd.returns (Stand.of_body Bd) (by rw [← hh, Bd.state]; rfl)
 obtain ⟨fs, hr, hrun, hended, hW, hsame⟩ := X.leave (v := v) h4
 exact ⟨_, _, castTop (hef m) (h6 fs hr), hrun, hended, v, lo, rfl, h5, ⟨_, rfl⟩, hW, hsame.mono h2 h3⟩
theorem sA (C : own_C p c code ml s m own Z a0) (X : Stand p l e R s m args below meth c T locs cells slots) {k : Fin 4} {v : Value} {pc' : Nat} (hd : decode code pc' = .ok (.aload_n k, 1)) (F : own_Fin p l e R s m args below meth c Q T (mkF m (pc' + 1) L (v :: S))) (hp : pc = pc' := by rfl) (hl : L[k.val]? = some (.val v) := by rfl) (hv : v.isRef = true := by rfl) : own_Fin p l e R s m args below meth c Q T (mkF m pc L S) := by subst hp; exact F.st fun t k => XS.aloadN X.here C.1 rfl (C.d hd) hl hv k
theorem sa (C : own_C p c code ml s m own Z a0) (X : Stand p l e R s m args below meth c T locs cells slots) {k : Nat} {v : Value} {pc' : Nat} (hd : decode code pc' = .ok (.aload k, 2)) (F : own_Fin p l e R s m args below meth c Q T (mkF m (pc' + 2) L (v :: S))) (hp : pc = pc' := by rfl) (hl : L[k]? = some (.val v) := by rfl) (hv : v.isRef = true := by rfl) : own_Fin p l e R s m args below meth c Q T (mkF m pc L S) := by subst hp; exact F.st fun t k => XS.aload X.here C.1 rfl (C.d hd) hl hv k
theorem sI (C : own_C p c code ml s m own Z a0) (X : Stand p l e R s m args below meth c T locs cells slots) {k : Fin 4} {v : Int32} {pc' : Nat} (hd : decode code pc' = .ok (.iload_n k, 1)) (F : own_Fin p l e R s m args below meth c Q T (mkF m (pc' + 1) L (.int v :: S))) (hp : pc = pc' := by rfl) (hl : L[k.val]? = some (.val (.int v)) := by rfl) : own_Fin p l e R s m args below meth c Q T (mkF m pc L S) := by subst hp; exact F.st fun t k => XS.iloadN X.here C.1 rfl (C.d hd) hl k
theorem si (C : own_C p c code ml s m own Z a0) (X : Stand p l e R s m args below meth c T locs cells slots) {k : Nat} {v : Int32} {pc' : Nat} (hd : decode code pc' = .ok (.iload k, 2)) (F : own_Fin p l e R s m args below meth c Q T (mkF m (pc' + 2) L (.int v :: S))) (hp : pc = pc' := by rfl) (hl : L[k]? = some (.val (.int v)) := by rfl) : own_Fin p l e R s m args below meth c Q T (mkF m pc L S) := by subst hp; exact F.st fun t k => XS.iload X.here C.1 rfl (C.d hd) hl k
theorem wI (C : own_C p c code ml s m own Z a0) (X : Stand p l e R s m args below meth c T locs cells slots) {k : Fin 4} {x : Int32} (L' : Array Slot) {pc' : Nat} (hd : decode code pc' = .ok (.istore_n k, 1)) (F : own_Fin p l e R s m args below meth c Q T (mkF m (pc' + 1) L' S)) (hp : pc = pc' := by rfl) (hl : storeLocals L k.val (.int x) = some L' := by rfl) : own_Fin p l e R s m args below meth c Q T (mkF m pc L (.int x :: S)) := by subst hp; exact F.st fun t k => XS.istoreN X.here C.1 rfl (C.d hd) rfl hl k
theorem wi (C : own_C p c code ml s m own Z a0) (X : Stand p l e R s m args below meth c T locs cells slots) {k : Nat} {x : Int32} (L' : Array Slot) {pc' : Nat} (hd : decode code pc' = .ok (.istore k, 2)) (F : own_Fin p l e R s m args below meth c Q T (mkF m (pc' + 2) L' S)) (hp : pc = pc' := by rfl) (hl : storeLocals L k (.int x) = some L' := by rfl) : own_Fin p l e R s m args below meth c Q T (mkF m pc L (.int x :: S)) := by subst hp; exact F.st fun t k => XS.istore X.here C.1 rfl (C.d hd) rfl hl k
theorem sL (C : own_C p c code ml s m own Z a0) (X : Stand p l e R s m args below meth c T locs cells slots) {k : Fin 4} {v : Int64} {pc' : Nat} (hd : decode code pc' = .ok (.lload_n k, 1)) (F : own_Fin p l e R s m args below meth c Q T (mkF m (pc' + 1) L (.long v :: S))) (hp : pc = pc' := by rfl) (hl : L[k.val]? = some (.val (.long v)) := by rfl) : own_Fin p l e R s m args below meth c Q T (mkF m pc L S) := by subst hp; exact F.st fun t k => XS.lloadN X.here C.1 rfl (C.d hd) hl k
theorem sl (C : own_C p c code ml s m own Z a0) (X : Stand p l e R s m args below meth c T locs cells slots) {k : Nat} {v : Int64} {pc' : Nat} (hd : decode code pc' = .ok (.lload k, 2)) (F : own_Fin p l e R s m args below meth c Q T (mkF m (pc' + 2) L (.long v :: S))) (hp : pc = pc' := by rfl) (hl : L[k]? = some (.val (.long v)) := by rfl) : own_Fin p l e R s m args below meth c Q T (mkF m pc L S) := by subst hp; exact F.st fun t k => XS.lload X.here C.1 rfl (C.d hd) hl k
theorem wL (C : own_C p c code ml s m own Z a0) (X : Stand p l e R s m args below meth c T locs cells slots) {k : Fin 4} {x : Int64} (L' : Array Slot) {pc' : Nat} (hd : decode code pc' = .ok (.lstore_n k, 1)) (F : own_Fin p l e R s m args below meth c Q T (mkF m (pc' + 1) L' S)) (hp : pc = pc' := by rfl) (hl : storeLocals L k.val (.long x) = some L' := by rfl) : own_Fin p l e R s m args below meth c Q T (mkF m pc L (.long x :: S)) := by subst hp; exact F.st fun t k => XS.lstoreN X.here C.1 rfl (C.d hd) rfl hl k
theorem wl (C : own_C p c code ml s m own Z a0) (X : Stand p l e R s m args below meth c T locs cells slots) {k : Nat} {x : Int64} (L' : Array Slot) {pc' : Nat} (hd : decode code pc' = .ok (.lstore k, 2)) (F : own_Fin p l e R s m args below meth c Q T (mkF m (pc' + 2) L' S)) (hp : pc = pc' := by rfl) (hl : storeLocals L k (.long x) = some L' := by rfl) : own_Fin p l e R s m args below meth c Q T (mkF m pc L (.long x :: S)) := by subst hp; exact F.st fun t k => XS.lstore X.here C.1 rfl (C.d hd) rfl hl k
theorem wA (C : own_C p c code ml s m own Z a0) (X : Stand p l e R s m args below meth c T locs cells slots) {k : Fin 4} {x : Value} (L' : Array Slot) {pc' : Nat} (hd : decode code pc' = .ok (.astore_n k, 1)) (F : own_Fin p l e R s m args below meth c Q T (mkF m (pc' + 1) L' S)) (hp : pc = pc' := by rfl) (hv : x.isRef = true := by rfl) (hl : storeLocals L k.val x = some L' := by rfl) : own_Fin p l e R s m args below meth c Q T (mkF m pc L (x :: S)) := by subst hp; exact F.st fun t k => XS.astoreN X.here C.1 rfl (C.d hd) rfl hv hl k
theorem wa (C : own_C p c code ml s m own Z a0) (X : Stand p l e R s m args below meth c T locs cells slots) {k : Nat} {x : Value} (L' : Array Slot) {pc' : Nat} (hd : decode code pc' = .ok (.astore k, 2)) (F : own_Fin p l e R s m args below meth c Q T (mkF m (pc' + 2) L' S)) (hp : pc = pc' := by rfl) (hv : x.isRef = true := by rfl) (hl : storeLocals L k x = some L' := by rfl) : own_Fin p l e R s m args below meth c Q T (mkF m pc L (x :: S)) := by subst hp; exact F.st fun t k => XS.astore X.here C.1 rfl (C.d hd) rfl hv hl k
theorem wc (C : own_C p c code ml s m own Z a0) (X : Stand p l e R s m args below meth c T locs cells slots) {k : Nat} {cst : Int} {x : Int32} (L' : Array Slot) {pc' : Nat} (hd : decode code pc' = .ok (.iinc k cst, 3)) (F : own_Fin p l e R s m args below meth c Q T (mkF m (pc' + 3) L' S)) (hp : pc = pc' := by rfl) (h1 : L[k]? = some (.val (.int x)) := by rfl) (hl : storeLocals L k (.int (x + Int32.ofInt cst)) = some L' := by rfl) : own_Fin p l e R s m args below meth c Q T (mkF m pc L S) := by subst hp; exact F.st fun t k => XS.iinc X.here C.1 rfl (C.d hd) h1 hl k
theorem sC (C : own_C p c code ml s m own Z a0) (X : Stand p l e R s m args below meth c T locs cells slots) {i : Int} {pc' : Nat} (hd : decode code pc' = .ok (.iconst i, 1)) (F : own_Fin p l e R s m args below meth c Q T (mkF m (pc' + 1) L (.int (Int32.ofInt i) :: S))) (hp : pc = pc' := by rfl) : own_Fin p l e R s m args below meth c Q T (mkF m pc L S) := by subst hp; exact F.st fun t k => XS.iconst X.here C.1 rfl (C.d hd) k
theorem sB (C : own_C p c code ml s m own Z a0) (X : Stand p l e R s m args below meth c T locs cells slots) {i : Int} {pc' : Nat} (hd : decode code pc' = .ok (.bipush i, 2)) (F : own_Fin p l e R s m args below meth c Q T (mkF m (pc' + 2) L (.int (Int8.ofInt i).toInt32 :: S))) (hp : pc = pc' := by rfl) : own_Fin p l e R s m args below meth c Q T (mkF m pc L S) := by subst hp; exact F.st fun t k => XS.bipush X.here C.1 rfl (C.d hd) k
theorem sU (C : own_C p c code ml s m own Z a0) (X : Stand p l e R s m args below meth c T locs cells slots) {i : Int} {pc' : Nat} (hd : decode code pc' = .ok (.sipush i, 3)) (F : own_Fin p l e R s m args below meth c Q T (mkF m (pc' + 3) L (.int (Int16.ofInt i).toInt32 :: S))) (hp : pc = pc' := by rfl) : own_Fin p l e R s m args below meth c Q T (mkF m pc L S) := by subst hp; exact F.st fun t k => XS.sipush X.here C.1 rfl (C.d hd) k
theorem sS (C : own_C p c code ml s m own Z a0) (X : Stand p l e R s m args below meth c T locs cells slots) {x y : Int32} {pc' : Nat} (hd : decode code pc' = .ok (.isub, 1)) (F : own_Fin p l e R s m args below meth c Q T (mkF m (pc' + 1) L (.int (x - y) :: S))) (hp : pc = pc' := by rfl) : own_Fin p l e R s m args below meth c Q T (mkF m pc L (.int y :: .int x :: S)) := by subst hp; exact F.st fun t k => XS.isub X.here C.1 rfl (C.d hd) rfl k
theorem sP (C : own_C p c code ml s m own Z a0) (X : Stand p l e R s m args below meth c T locs cells slots) {x y : Int32} {pc' : Nat} (hd : decode code pc' = .ok (.iadd, 1)) (F : own_Fin p l e R s m args below meth c Q T (mkF m (pc' + 1) L (.int (x + y) :: S))) (hp : pc = pc' := by rfl) : own_Fin p l e R s m args below meth c Q T (mkF m pc L (.int y :: .int x :: S)) := by subst hp; exact F.st fun t k => XS.iadd X.here C.1 rfl (C.d hd) rfl k
theorem sM (C : own_C p c code ml s m own Z a0) (X : Stand p l e R s m args below meth c T locs cells slots) {x y : Int32} {pc' : Nat} (hd : decode code pc' = .ok (.imul, 1)) (F : own_Fin p l e R s m args below meth c Q T (mkF m (pc' + 1) L (.int (x * y) :: S))) (hp : pc = pc' := by rfl) : own_Fin p l e R s m args below meth c Q T (mkF m pc L (.int y :: .int x :: S)) := by subst hp; exact F.st fun t k => XS.imul X.here C.1 rfl (C.d hd) rfl k
theorem tS (C : own_C p c code ml s m own Z a0) (X : Stand p l e R s m args below meth c T locs cells slots) {x y : Int64} {pc' : Nat} (hd : decode code pc' = .ok (.lsub, 1)) (F : own_Fin p l e R s m args below meth c Q T (mkF m (pc' + 1) L (.long (x - y) :: S))) (hp : pc = pc' := by rfl) : own_Fin p l e R s m args below meth c Q T (mkF m pc L (.long y :: .long x :: S)) := by subst hp; exact F.st fun t k => XS.lsub X.here C.1 rfl (C.d hd) rfl k
theorem tP (C : own_C p c code ml s m own Z a0) (X : Stand p l e R s m args below meth c T locs cells slots) {x y : Int64} {pc' : Nat} (hd : decode code pc' = .ok (.ladd, 1)) (F : own_Fin p l e R s m args below meth c Q T (mkF m (pc' + 1) L (.long (x + y) :: S))) (hp : pc = pc' := by rfl) : own_Fin p l e R s m args below meth c Q T (mkF m pc L (.long y :: .long x :: S)) := by subst hp; exact F.st fun t k => XS.ladd X.here C.1 rfl (C.d hd) rfl k
theorem tA (C : own_C p c code ml s m own Z a0) (X : Stand p l e R s m args below meth c T locs cells slots) {x y : Int64} {pc' : Nat} (hd : decode code pc' = .ok (.land, 1)) (F : own_Fin p l e R s m args below meth c Q T (mkF m (pc' + 1) L (.long (x &&& y) :: S))) (hp : pc = pc' := by rfl) : own_Fin p l e R s m args below meth c Q T (mkF m pc L (.long y :: .long x :: S)) := by subst hp; exact F.st fun t k => XS.land X.here C.1 rfl (C.d hd) rfl k
theorem tO (C : own_C p c code ml s m own Z a0) (X : Stand p l e R s m args below meth c T locs cells slots) {x y : Int64} {pc' : Nat} (hd : decode code pc' = .ok (.lor, 1)) (F : own_Fin p l e R s m args below meth c Q T (mkF m (pc' + 1) L (.long (x ||| y) :: S))) (hp : pc = pc' := by rfl) : own_Fin p l e R s m args below meth c Q T (mkF m pc L (.long y :: .long x :: S)) := by subst hp; exact F.st fun t k => XS.lor X.here C.1 rfl (C.d hd) rfl k
theorem tX (C : own_C p c code ml s m own Z a0) (X : Stand p l e R s m args below meth c T locs cells slots) {x y : Int64} {pc' : Nat} (hd : decode code pc' = .ok (.lxor, 1)) (F : own_Fin p l e R s m args below meth c Q T (mkF m (pc' + 1) L (.long (x ^^^ y) :: S))) (hp : pc = pc' := by rfl) : own_Fin p l e R s m args below meth c Q T (mkF m pc L (.long y :: .long x :: S)) := by subst hp; exact F.st fun t k => XS.lxor X.here C.1 rfl (C.d hd) rfl k
theorem sD (C : own_C p c code ml s m own Z a0) (X : Stand p l e R s m args below meth c T locs cells slots) {x : Value} {pc' : Nat} (hd : decode code pc' = .ok (.dup, 1)) (F : own_Fin p l e R s m args below meth c Q T (mkF m (pc' + 1) L (x :: x :: S))) (hp : pc = pc' := by rfl) (hc : x.category = 1 := by rfl) : own_Fin p l e R s m args below meth c Q T (mkF m pc L (x :: S)) := by subst hp; exact F.st fun t k => XS.dup X.here C.1 rfl (C.d hd) rfl hc k
theorem sO (C : own_C p c code ml s m own Z a0) (X : Stand p l e R s m args below meth c T locs cells slots) {x : Value} {pc' : Nat} (hd : decode code pc' = .ok (.pop, 1)) (F : own_Fin p l e R s m args below meth c Q T (mkF m (pc' + 1) L S)) (hp : pc = pc' := by rfl) (hc : x.category = 1 := by rfl) : own_Fin p l e R s m args below meth c Q T (mkF m pc L (x :: S)) := by subst hp; exact F.st fun t k => XS.pop X.here C.1 rfl (C.d hd) rfl hc k
theorem tC (C : own_C p c code ml s m own Z a0) (X : Stand p l e R s m args below meth c T locs cells slots) {x y : Int64} {pc' : Nat} (hd : decode code pc' = .ok (.lcmp, 1)) (F : own_Fin p l e R s m args below meth c Q T (mkF m (pc' + 1) L (.int (lcmpW x y) :: S))) (hp : pc = pc' := by rfl) : own_Fin p l e R s m args below meth c Q T (mkF m pc L (.long y :: .long x :: S)) := by subst hp; exact F.st fun t k => XS.lcmp X.here C.1 rfl (C.d hd) rfl k
theorem sN (C : own_C p c code ml s m own Z a0) (X : Stand p l e R s m args below meth c T locs cells slots) {x y : Int32} {pc' : Nat} (hd : decode code pc' = .ok (.iand, 1)) (F : own_Fin p l e R s m args below meth c Q T (mkF m (pc' + 1) L (.int (x &&& y) :: S))) (hp : pc = pc' := by rfl) : own_Fin p l e R s m args below meth c Q T (mkF m pc L (.int y :: .int x :: S)) := by subst hp; exact F.st fun t k => XS.iand X.here C.1 rfl (C.d hd) rfl k
theorem tK (C : own_C p c code ml s m own Z a0) (X : Stand p l e R s m args below meth c T locs cells slots) {k : Fin 2} {pc' : Nat} (hd : decode code pc' = .ok (.lconst k, 1)) (F : own_Fin p l e R s m args below meth c Q T (mkF m (pc' + 1) L (.long (Int64.ofNat k) :: S))) (hp : pc = pc' := by rfl) : own_Fin p l e R s m args below meth c Q T (mkF m pc L S) := by subst hp; exact F.st fun t k => XS.lconst X.here C.1 rfl (C.d hd) k
theorem tI (C : own_C p c code ml s m own Z a0) (X : Stand p l e R s m args below meth c T locs cells slots) {x : Int32} {pc' : Nat} (hd : decode code pc' = .ok (.i2l, 1)) (F : own_Fin p l e R s m args below meth c Q T (mkF m (pc' + 1) L (.long x.toInt64 :: S))) (hp : pc = pc' := by rfl) : own_Fin p l e R s m args below meth c Q T (mkF m pc L (.int x :: S)) := by subst hp; exact F.st fun t k => XS.i2l X.here C.1 rfl (C.d hd) rfl k
theorem sH (C : own_C p c code ml s m own Z a0) (X : Stand p l e R s m args below meth c T locs cells slots) {x y : Int32} {pc' : Nat} (hd : decode code pc' = .ok (.ishl, 1)) (F : own_Fin p l e R s m args below meth c Q T (mkF m (pc' + 1) L (.int (x <<< (y &&& 31)) :: S))) (hp : pc = pc' := by rfl) : own_Fin p l e R s m args below meth c Q T (mkF m pc L (.int y :: .int x :: S)) := by subst hp; exact F.st fun t k => XS.ishl X.here C.1 rfl (C.d hd) rfl k
theorem sR (C : own_C p c code ml s m own Z a0) (X : Stand p l e R s m args below meth c T locs cells slots) {x y : Int32} {pc' : Nat} (hd : decode code pc' = .ok (.iushr, 1)) (F : own_Fin p l e R s m args below meth c Q T (mkF m (pc' + 1) L (.int ((x.toUInt32 >>> (y &&& 31).toUInt32).toInt32) :: S))) (hp : pc = pc' := by rfl) : own_Fin p l e R s m args below meth c Q T (mkF m pc L (.int y :: .int x :: S)) := by subst hp; exact F.st fun t k => XS.iushr X.here C.1 rfl (C.d hd) rfl k
theorem tH (C : own_C p c code ml s m own Z a0) (X : Stand p l e R s m args below meth c T locs cells slots) {x : Int64} {y : Int32} {pc' : Nat} (hd : decode code pc' = .ok (.lshl, 1)) (F : own_Fin p l e R s m args below meth c Q T (mkF m (pc' + 1) L (.long (x <<< (y &&& 0x3f).toInt64) :: S))) (hp : pc = pc' := by rfl) : own_Fin p l e R s m args below meth c Q T (mkF m pc L (.int y :: .long x :: S)) := by subst hp; exact F.st fun t k => XS.lshl X.here C.1 rfl (C.d hd) rfl k
theorem tR (C : own_C p c code ml s m own Z a0) (X : Stand p l e R s m args below meth c T locs cells slots) {x : Int64} {y : Int32} {pc' : Nat} (hd : decode code pc' = .ok (.lshr, 1)) (F : own_Fin p l e R s m args below meth c Q T (mkF m (pc' + 1) L (.long (x >>> (y &&& 0x3f).toInt64) :: S))) (hp : pc = pc' := by rfl) : own_Fin p l e R s m args below meth c Q T (mkF m pc L (.int y :: .long x :: S)) := by subst hp; exact F.st fun t k => XS.lshr X.here C.1 rfl (C.d hd) rfl k
theorem tU (C : own_C p c code ml s m own Z a0) (X : Stand p l e R s m args below meth c T locs cells slots) {x : Int64} {y : Int32} {pc' : Nat} (hd : decode code pc' = .ok (.lushr, 1)) (F : own_Fin p l e R s m args below meth c Q T (mkF m (pc' + 1) L (.long ((x.toUInt64 >>> (y &&& 0x3f).toInt64.toUInt64).toInt64) :: S))) (hp : pc = pc' := by rfl) : own_Fin p l e R s m args below meth c Q T (mkF m pc L (.int y :: .long x :: S)) := by subst hp; exact F.st fun t k => XS.lushr X.here C.1 rfl (C.d hd) rfl k
theorem sE (C : own_C p c code ml s m own Z a0) (X : Stand p l e R s m args below meth c T locs cells slots) {x : Int32} {pc' : Nat} (hd : decode code pc' = .ok (.ineg, 1)) (F : own_Fin p l e R s m args below meth c Q T (mkF m (pc' + 1) L (.int (-x) :: S))) (hp : pc = pc' := by rfl) : own_Fin p l e R s m args below meth c Q T (mkF m pc L (.int x :: S)) := by subst hp; exact F.st fun t k => XS.ineg X.here C.1 rfl (C.d hd) rfl k
theorem sG (C : own_C p c code ml s m own Z a0) (X : Stand p l e R s m args below meth c T locs cells slots) {o : Int} {pc' : Nat} (hd : decode code pc' = .ok (.goto o, 3)) (pt : Nat) (F : own_Fin p l e R s m args below meth c Q T (mkF m pt L S)) (hp : pc = pc' := by rfl) (ho : 0 ≤ (pc' : Int) + o := by decide) (ht : ((pc' : Int) + o).toNat = pt := by decide) : own_Fin p l e R s m args below meth c Q T (mkF m pc L S) := by subst hp; exact F.st fun t k => XS.goto X.here C.1 rfl rfl (C.d hd) ho ht k
theorem bY (C : own_C p c code ml s m own Z a0) (X : Stand p l e R s m args below meth c T locs cells slots) {cd : ClassFile.Cond} {x : Int32} {o : Int} {pc' : Nat} (hd : decode code pc' = .ok (.ifCond cd o, 3)) (pt : Nat) (hc : ifCond.holds cd x = true) (F : own_Fin p l e R s m args below meth c Q T (mkF m pt L S)) (hp : pc = pc' := by rfl) (ho : 0 ≤ (pc' : Int) + o := by decide) (ht : ((pc' : Int) + o).toNat = pt := by decide) : own_Fin p l e R s m args below meth c Q T (mkF m pc L (.int x :: S)) := by subst hp; exact F.st fun t k => XS.ifYes X.here C.1 rfl rfl (C.d hd) rfl hc ho ht k
theorem bN (C : own_C p c code ml s m own Z a0) (X : Stand p l e R s m args below meth c T locs cells slots) {cd : ClassFile.Cond} {x : Int32} {o : Int} {pc' : Nat} (hd : decode code pc' = .ok (.ifCond cd o, 3)) (hc : ifCond.holds cd x = false) (F : own_Fin p l e R s m args below meth c Q T (mkF m (pc' + 3) L S)) (hp : pc = pc' := by rfl) : own_Fin p l e R s m args below meth c Q T (mkF m pc L (.int x :: S)) := by subst hp; exact F.st fun t k => XS.ifNo X.here C.1 rfl (C.d hd) rfl hc k
theorem cY (C : own_C p c code ml s m own Z a0) (X : Stand p l e R s m args below meth c T locs cells slots) {cd : ClassFile.Cond} {x y : Int32} {o : Int} {pc' : Nat} (hd : decode code pc' = .ok (.if_icmp cd o, 3)) (pt : Nat) (hc : if_icmp.holds cd x y = true) (F : own_Fin p l e R s m args below meth c Q T (mkF m pt L S)) (hp : pc = pc' := by rfl) (ho : 0 ≤ (pc' : Int) + o := by decide) (ht : ((pc' : Int) + o).toNat = pt := by decide) : own_Fin p l e R s m args below meth c Q T (mkF m pc L (.int y :: .int x :: S)) := by subst hp; exact F.st fun t k => XS.icmpYes X.here C.1 rfl rfl (C.d hd) rfl hc ho ht k
theorem cN (C : own_C p c code ml s m own Z a0) (X : Stand p l e R s m args below meth c T locs cells slots) {cd : ClassFile.Cond} {x y : Int32} {o : Int} {pc' : Nat} (hd : decode code pc' = .ok (.if_icmp cd o, 3)) (hc : if_icmp.holds cd x y = false) (F : own_Fin p l e R s m args below meth c Q T (mkF m (pc' + 3) L S)) (hp : pc = pc' := by rfl) : own_Fin p l e R s m args below meth c Q T (mkF m pc L (.int y :: .int x :: S)) := by subst hp; exact F.st fun t k => XS.icmpNo X.here C.1 rfl (C.d hd) rfl hc k
theorem gA (C : own_C p c code ml s m own Z a0) (X : Stand p l e R s m args below meth c T locs cells slots) (eT : T.heap = h) {O n d : String} {v : Value} (F : Fld Z h a O n d v) {i : Nat} (w : (Cond.fieldLink own i O n d).before a0 Z = true) {pc' : Nat} (hd1 : decode code pc' = .ok (.aload_n 0, 1)) (hd2 : decode code (pc' + 1) = .ok (.getfield i, 3))
   (k : ∀ T', Stand p l e R s m args below meth c T' locs cells slots → T'.heap = h → own_Fin p l e R s m args below meth c Q T' (mkF m (pc' + 4) L (v :: S))) (hp : pc = pc' := by rfl) (h0 : L[0]? = some (.val (.ref a)) := by rfl) : own_Fin p l e R s m args below meth c Q T (mkF m pc L S) := by
 subst hp
 obtain ⟨T', X', e', st⟩ := getF X C.1 C.z C.o (host := "") (Or.inl w) Via.refl eT F (g := mkF m (pc + 1) L (.ref a :: S)) rfl rfl (C.d hd2)
 exact (k T' X' e').st fun t q => XS.aloadN X.here C.1 rfl (C.d hd1) (k := 0) h0 rfl (st t q)
theorem gF (C : own_C p c code ml s m own Z a0) (X : Stand p l e R s m args below meth c T locs cells slots) (eT : T.heap = h) {O n d : String} {v : Value} (F : Fld Z h a O n d v) {i : Nat} (w : (Cond.fieldLink own i O n d).before a0 Z = true) {pc' : Nat} (hd2 : decode code pc' = .ok (.getfield i, 3))
   (k : ∀ T', Stand p l e R s m args below meth c T' locs cells slots → T'.heap = h → own_Fin p l e R s m args below meth c Q T' (mkF m (pc' + 3) L (v :: S))) (hp : pc = pc' := by rfl) : own_Fin p l e R s m args below meth c Q T (mkF m pc L (.ref a :: S)) := by
 subst hp
 obtain ⟨T', X', e', st⟩ := getF X C.1 C.z C.o (host := "") (Or.inl w) Via.refl eT F (g := mkF m pc L (.ref a :: S)) rfl rfl (C.d hd2)
 exact (k T' X' e').st st
theorem pF (C : own_C p c code ml s m own Z a0) (X : Stand p l e R s m args below meth c T locs cells slots) (eT : T.heap = h) (N : Fr n0 locs) (ga : n0 ≤ a) {O n d : String} {v old : Value} {kk : Nat} (F : Fld Z h a O n d old) (E : Exa Z h a O) {ty : FieldType} {i : Nat} (w : (Cond.fieldLink own i O n d).before a0 Z = true) (wl : (Cond.lays O O n d).before a0 Z = true) (wi : (Cond.instantiable O kk).before a0 Z = true) (hty : parseFieldDescriptor d = some ty) {pc' : Nat} (hd2 : decode code pc' = .ok (.putfield i, 3))
   (k : ∀ T' h' lo, Stand p l e R s m args below meth c T' lo cells slots → T'.heap = h' → Fr n0 lo → Wr h h' a (Jvm.RoadKit.slotOf Z O n d) v → Fld Z h' a O n d v → own_Fin p l e R s m args below meth c Q T' (mkF m (pc' + 3) L S)) (hp : pc = pc' := by rfl) (hn : narrow ty v = v := by rfl) (hf : fits ty v = true := by first | rfl | decide) : own_Fin p l e R s m args below meth c Q T (mkF m pc L (v :: .ref a :: S)) := by
 subst hp
 obtain ⟨T', h', X', e', W, st⟩ := putF X C.1 C.z C.o (host := "") (Or.inl w) Via.refl eT F E (Or.inl wl) wi hty hn hf (g := mkF m pc L (v :: .ref a :: S)) rfl rfl (C.d hd2)
 exact (k T' h' _ X' e' (Fr.snoc X' N ga) W (F.same W)).st st
theorem lA (C : own_C p c code ml s m own Z a0) (X : Stand p l e R s m args below meth c T locs cells slots) (eT : T.heap = h) {k : ClassId} {z : Int32} {vs : List Value} {dv : Value} (V : Arv Z h a k .long z vs dv) {j : Int32} {v : Value} {pc' : Nat} (hd : decode code pc' = .ok (.laload, 1)) (F : own_Fin p l e R s m args below meth c Q T (mkF m (pc' + 1) L (v :: S))) (hp : pc = pc' := by rfl) (hj : ¬ j < 0 ∧ j < z := by decide) (hv : vs.getD j.toNatClampNeg dv = v := by rfl) : own_Fin p l e R s m args below meth c Q T (mkF m pc L (.int j :: .ref a :: S)) := by
 subst hp
 obtain ⟨cl, Ar, qk, Sz, Nz, Hh, Gf⟩ := V
 exact F.st fun t q => X.laload C.1 (by rw [eT]; exact Ar.1) (State.isArrayOf_alike C.z.alike Ar.2.1) Ar.2.2 (inb_of Sz hj) (Hh.at (inb_of Sz hj) hv) (g := mkF m pc L (.int j :: .ref a :: S)) rfl rfl (C.d hd) _ q
theorem nA (C : own_C p c code ml s m own Z a0) (X : Stand p l e R s m args below meth c T locs cells slots) (eT : T.heap = h) {k : ClassId} {ty : FieldType} {z : Int32} {vs : List Value} {dv : Value} (V : Arv Z h a k ty z vs dv) {pc' : Nat} (hd : decode code pc' = .ok (.arraylength, 1)) (F : own_Fin p l e R s m args below meth c Q T (mkF m (pc' + 1) L (.int z :: S))) (hp : pc = pc' := by rfl) : own_Fin p l e R s m args below meth c Q T (mkF m pc L (.ref a :: S)) := by
 subst hp
 obtain ⟨cl, Ar, qk, Sz, Nz, Hh, Gf⟩ := V
 refine F.st fun t q => X.arraylength C.1 (cell := cl) (by rw [eT]; exact Ar.1) (State.isArrayOf_alike C.z.alike Ar.2.1) (g := mkF m pc L (.ref a :: S)) rfl rfl (C.d hd) _ ?_
 rw [len_of Sz Nz]; exact q
theorem sJ (C : own_C p c code ml s m own Z a0) (X : Stand p l e R s m args below meth c T locs cells slots) (eT : T.heap = h) (N : Fr n0 locs) (ga : n0 ≤ a) {k : ClassId} {z : Int32} {vs : List Value} {dv : Value} (V : Arv Z h a k .long z vs dv) {j : Int32} {v : Int64} (vs' : List Value) {pc' : Nat} (hd : decode code pc' = .ok (.lastore, 1))
   (kk : ∀ T' h' lo, Stand p l e R s m args below meth c T' lo cells slots → T'.heap = h' → Fr n0 lo → Wr h h' a j.toNatClampNeg (.long v) → Arv Z h' a k .long z vs' dv → own_Fin p l e R s m args below meth c Q T' (mkF m (pc' + 1) L S)) (hp : pc = pc' := by rfl) (hj : ¬ j < 0 ∧ j < z := by decide) (hl : j.toNatClampNeg < vs.length := by exact Nat.le_of_ble_eq_true rfl) (hv : vs.set j.toNatClampNeg (.long v) = vs' := by rfl) : own_Fin p l e R s m args below meth c Q T (mkF m pc L (.long v :: .int j :: .ref a :: S)) := by
 subst hp
 obtain ⟨cl, Ar, qk, Sz, Nz, Hh, Gf⟩ := V
 obtain ⟨T', h', X', e', W, st⟩ := stJ X C.1 C.z eT Ar (j := j) (inb_of Sz hj) (g := mkF m pc L (.long v :: .int j :: .ref a :: S)) rfl rfl (C.d hd)
 exact (kk T' h' _ X' e' (Fr.snoc X' N ga) W (hv ▸ Arv.set Ar qk Sz Nz Hh Gf rfl W _ rfl hl)).st st
theorem gS (C : own_C p c code ml s m own Z a0) (X : Stand p l e R s m args below meth c T locs cells slots) (eT : T.heap = h) {O n d : String} {v : Value} (F : Sta Z h O n d v) {i : Nat} (w : (Cond.fieldLink own i O n d).before a0 Z = true) {pc' : Nat} (hd2 : decode code pc' = .ok (.getstatic i, 3))
   (k : ∀ T', Stand p l e R s m args below meth c T' locs cells slots → T'.heap = h → own_Fin p l e R s m args below meth c Q T' (mkF m (pc' + 3) L (v :: S))) (hp : pc = pc' := by rfl) : own_Fin p l e R s m args below meth c Q T (mkF m pc L S) := by
 subst hp
 obtain ⟨T', X', e', st⟩ := getS2 X C.1 C.z C.o (host := "") (Or.inl w) Via.refl eT F (g := mkF m pc L S) rfl (C.d hd2)
 exact (k T' X' e').st st
theorem nP (C : own_C p c code ml s m own Z a0) (X : Stand p l e R s m args below meth c T locs cells slots) (eT : T.heap = h) {n : Int32} (cap : Nat) (vs : List Value) (w : (Cond.arrayClass .long).before a0 Z = true) {pc' : Nat} (hd : decode code pc' = .ok (.newarray .long, 2))
   (k : ∀ T' h' cA b, b = h.size → Stand p l e R s m args below meth c T' locs (cells + 1) (slots + cap) → T'.heap = h' → Ext h h' → Arv Z h' b cA .long n vs oZ → own_Fin p l e R s m args below meth c Q T' (mkF m (pc' + 2) L (.ref b :: S))) (hp : pc = pc' := by rfl) (hn : ¬ n < 0 := by decide) (hcap : n.toNatClampNeg ≤ cap := by decide) (hb : cap * 8 ≤ 536870912 := by decide) (hc : cells + 1 ≤ R.cells := by decide) (hl : slots + cap ≤ R.slots := by decide) (hv : List.replicate cap oZ = vs := by rfl) : own_Fin p l e R s m args below meth c Q T (mkF m pc L (.int n :: S)) := by
 subst hp
 obtain ⟨T', h', cA, X', e', E, A, st⟩ := newP X C.1 C.z (aty := .long) w eT (g := mkF m pc L (.int n :: S)) rfl (C.d hd) rfl hn hcap hb hc hl
 exact (k T' h' cA _ rfl X' e' E (hv ▸ (Arv.new A hn).pad (pad_rep [] oZ cap))).st st
theorem nO (C : own_C p c code ml s m own Z a0) (X : Stand p l e R s m args below meth c T locs cells slots) (eT : T.heap = h) {D : String} {i n : Nat} (w : (Cond.classLink own i D).before a0 Z = true) (wi : (Cond.instantiable D n).before a0 Z = true) (wz : (Cond.initialized D).before a0 Z = true) {pc' : Nat} (hd : decode code pc' = .ok (.new i, 3))
   (k : ∀ T' h' b, b = h.size → Stand p l e R s m args below meth c T' locs (cells + 1) (slots + n) → T'.heap = h' → Ext h h' → Exa Z h' b D → (∀ {O nm d : String} {ty : FieldType}, Laid Z a0 D O nm d → parseFieldDescriptor d = some ty → Fld Z h' b O nm d (defaultValue ty)) → own_Fin p l e R s m args below meth c Q T' (mkF m (pc' + 3) L (.ref b :: S))) (hp : pc = pc' := by rfl) (hc : cells + 1 ≤ R.cells := by decide) (hl : slots + n ≤ R.slots := by decide) : own_Fin p l e R s m args below meth c Q T (mkF m pc L S) := by
 subst hp
 obtain ⟨T', h', X', e', E, A, D', -, st⟩ := newO X C.1 C.z C.o w wi wz eT (g := mkF m pc L S) rfl (C.d hd) hc hl
 exact (k T' h' _ rfl X' e' E A D').st st
theorem iO (C : own_C p c code ml s m own Z a0) (X : Stand p l e R s m args below meth c T locs cells slots) (eT : T.heap = h) {i W : Nat} (w1 : (Cond.methodLink own i Lib.objectInit).before a0 Z = true) (w2 : (Cond.instanceMethod Lib.objectInit).before a0 Z = true) (w3 : (Cond.code Lib.objectInit ⟨#[0xb1]⟩ 1 none).before a0 Z = true) {pc' : Nat} (hd : decode code pc' = .ok (.invokespecial i, 3))
   (k : ∀ T', Stand p l e R s m args below meth c T' locs cells slots → T'.heap = h → own_Fin p l e R s m args below meth c Q T' (mkF m (pc' + 3) L S)) (hp : pc = pc' := by rfl) (hsz : L.size = ml := by rfl) (hf : 1 ≤ R.frames := by decide) (hW : 2 * 0 + (S.map fun v => v.category).sum ≤ W := by first | exact Nat.le_of_eq rfl | decide) (hl : W + 12 ≤ R.locals := by decide) : own_Fin p l e R s m args below meth c Q T (mkF m pc L (.ref a :: S)) := by
 subst hp
 obtain ⟨T', X', e', st⟩ := initO X C.1 C.z C.o w1 w2 w3 eT (g := mkF m pc L (.ref a :: S)) rfl (by rw [C.n]; exact hsz) rfl (C.d hd) hf hW hl
 exact (k T' X' e').st st
theorem kJ (C : own_C p c code ml s m own Z a0) (X : Stand p l e R s m args below meth c T locs cells slots) {i : Nat} {v : Int64} (w : (Cond.constantLong own i v).before a0 Z = true) {pc' : Nat} (hd : decode code pc' = .ok (.ldc2_w i, 3)) (F : own_Fin p l e R s m args below meth c Q T (mkF m (pc' + 3) L (.long v :: S))) (hp : pc = pc' := by rfl) : own_Fin p l e R s m args below meth c Q T (mkF m pc L S) := by subst hp; exact F.st fun t q => X.ldc2Long C.1 C.o (mvT C.z w) (g := mkF m pc L S) rfl (C.d hd) _ q
theorem rV (C : own_C p c code ml s m own Z a0) (X : Stand p l e R s m args below meth c T locs cells slots) (eT : T.heap = h) (hret : meth.sig.returnType = none) {pc' : Nat} (hd : decode code pc' = .ok (.return_, 1)) (q : Q none h locs) (hp : pc = pc' := by rfl) (h1 : cells ≤ R.cells := by decide) (h2 : slots ≤ R.slots := by decide) : own_Fin p l e R s m args below meth c Q T (mkF m pc L []) := ⟨none, T, locs, cells, slots, X, h1, h2, fun _ => rfl, eT ▸ q, fun fs hr => X.returnOut C.1 hret (C.d (hp ▸ hd)) hr⟩
theorem rI (C : own_C p c code ml s m own Z a0) (X : Stand p l e R s m args below meth c T locs cells slots) (eT : T.heap = h) {z : Int32} (hret : meth.sig.returnType = some .int) {pc' : Nat} (hd : decode code pc' = .ok (.ireturn, 1)) (q : Q (some (.int z)) h locs) (hp : pc = pc' := by rfl) (h1 : cells ≤ R.cells := by decide) (h2 : slots ≤ R.slots := by decide) : own_Fin p l e R s m args below meth c Q T (mkF m pc L (.int z :: S)) := ⟨_, T, locs, cells, slots, X, h1, h2, (fun u => by rw [hret] at u; cases u), eT ▸ q, fun fs hr => retI X C.1 hret (C.d (hp ▸ hd)) hr⟩
theorem rJ (C : own_C p c code ml s m own Z a0) (X : Stand p l e R s m args below meth c T locs cells slots) (eT : T.heap = h) {z : Int64} (hret : meth.sig.returnType = some .long) {pc' : Nat} (hd : decode code pc' = .ok (.lreturn, 1)) (q : Q (some (.long z)) h locs) (hp : pc = pc' := by rfl) (h1 : cells ≤ R.cells := by decide) (h2 : slots ≤ R.slots := by decide) : own_Fin p l e R s m args below meth c Q T (mkF m pc L (.long z :: S)) := ⟨_, T, locs, cells, slots, X, h1, h2, (fun u => by rw [hret] at u; cases u), eT ▸ q, fun fs hr => own_retJ X C.1 hret (C.d (hp ▸ hd)) hr⟩
theorem rZ (C : own_C p c code ml s m own Z a0) (X : Stand p l e R s m args below meth c T locs cells slots) (eT : T.heap = h) {z : Int32} (hret : meth.sig.returnType = some .boolean) {pc' : Nat} (hd : decode code pc' = .ok (.ireturn, 1)) (q : Q (some (.int (nar .boolean z))) h locs) (hp : pc = pc' := by rfl) (h1 : cells ≤ R.cells := by decide) (h2 : slots ≤ R.slots := by decide) : own_Fin p l e R s m args below meth c Q T (mkF m pc L (.int z :: S)) := ⟨_, T, locs, cells, slots, X, h1, h2, (fun u => by rw [hret] at u; cases u), eT ▸ q, fun fs hr => retN X C.1 (t := .boolean) hret (by simp) (C.d (hp ▸ hd)) hr⟩
theorem cS (C : own_C p c code ml s m own Z a0) (X : Stand p l e R s m args below meth c T locs cells slots) (eT : T.heap = h) {y : MethodName} {ycode : ByteArray} {yml : Nat} {yret : Option FieldType} {rm : Room} {as' : Array Value} {Qy : Option Value → Heap → List Loc → Prop} (K : own_Met l y ycode yml yret rm Z h as' Qy) {i W : Nat} (w1 : (Cond.methodLink own i y).before a0 Z = true) (w2 : (Cond.static y).before a0 Z = true) (wc : (Cond.code y ycode yml yret).before a0 Z = true) (wz : (Cond.initialized y.cls).before a0 Z = true) {argsL : List Value} (hlen : ∀ sig, parseMethodDescriptor y.desc = some sig → argsL.length = sig.parameters.length) {pc' : Nat} (hd : decode code pc' = .ok (.invokestatic i, 3)) (k : ∀ v T' lo, Stand p l e R s m args below meth c T' (locs ++ lo) (cells + rm.cells) (slots + rm.slots) → Qy v T'.heap lo → own_Fin p l e R s m args below meth c Q T' (mkF m (pc' + 3) L (v.toList ++ rest))) (hy : y.cls ≠ "java/lang/invoke/MethodHandle" ∧ y.cls ≠ "java/lang/invoke/VarHandle" := by decide) (hp : pc = pc' := by rfl) (hsz : L.size = ml := by rfl) (hs : S = argsL.reverse ++ rest := by rfl) (ha : as' = (argsL).toArray := by rfl) (hW : 2 * 0 + (rest.map fun v => v.category).sum ≤ W := by first | exact Nat.le_of_eq rfl | decide) (hf : rm.frames + 1 ≤ R.frames := by decide) (hl : W + (yml + 11) + rm.locals ≤ R.locals := by decide) (hc : cells + rm.cells ≤ R.cells := by decide) (hsl : slots + rm.slots ≤ R.slots := by decide) : own_Fin p l e R s m args below meth c Q T (mkF m pc L S) := by
 subst hp
 obtain ⟨v, _, ⟨B, L', k', n'⟩, -, X', ⟨lo, hQ, h1, h2, h3⟩, st⟩ := Jvm.LawKit.callS X C.1 (y := y) C.o (mvT C.z w1) (mvT C.z w2) (mvT C.z wz) (mvT C.z wc) hy (backOf (W := W) (K []) C.z wc wz hf hl) (g := mkF m pc L S) rfl (by rw [C.n]; exact hsz) hlen hs hW (C.d hd) (fun _ _ => ⟨ha.symm, eT, hc, hsl⟩)
 dsimp only [Pt.U, Pt.locs, Pt.cells, Pt.slots] at X' h1 h2 h3 st hQ
 subst h1 h2 h3
 exact (k v B lo X' hQ).st (fun t q => st _ q)
theorem cI (C : own_C p c code ml s m own Z a0) (X : Stand p l e R s m args below meth c T locs cells slots) (eT : T.heap = h) {y : MethodName} {ycode : ByteArray} {yml : Nat} {rm : Room} {as' : Array Value} {Qy : Option Value → Heap → List Loc → Prop} (K : own_Met l y ycode yml none rm Z h as' Qy) {i W : Nat} (w1 : (Cond.methodLink own i y).before a0 Z = true) (w2 : (Cond.instanceMethod y).before a0 Z = true) (wc : (Cond.code y ycode yml none).before a0 Z = true) (wz : (Cond.initialized y.cls).before a0 Z = true) {argsL : List Value} (hlen : ∀ sig, parseMethodDescriptor y.desc = some sig → argsL.length = sig.parameters.length) {pc' : Nat} (hd : decode code pc' = .ok (.invokespecial i, 3)) (k : ∀ v T' lo, Stand p l e R s m args below meth c T' (locs ++ lo) (cells + rm.cells) (slots + rm.slots) → Qy v T'.heap lo → own_Fin p l e R s m args below meth c Q T' (mkF m (pc' + 3) L (v.toList ++ rest))) (hy : y.cls ≠ "java/lang/invoke/MethodHandle" ∧ y.cls ≠ "java/lang/invoke/VarHandle" := by decide) (hp : pc = pc' := by rfl) (hsz : L.size = ml := by rfl) (hs : S = argsL.reverse ++ .ref a :: rest := by rfl) (ha : as' = (.ref a :: argsL).toArray := by rfl) (hW : 2 * 0 + (rest.map fun v => v.category).sum ≤ W := by first | exact Nat.le_of_eq rfl | decide) (hf : rm.frames + 1 ≤ R.frames := by decide) (hl : W + (yml + 11) + rm.locals ≤ R.locals := by decide) (hc : cells + rm.cells ≤ R.cells := by decide) (hsl : slots + rm.slots ≤ R.slots := by decide) (hy1 : y.name = "<init>" := by rfl) : own_Fin p l e R s m args below meth c Q T (mkF m pc L S) := by
 subst hp
 obtain ⟨v, _, ⟨B, L', k', n'⟩, -, X', ⟨lo, hQ, h1, h2, h3⟩, st⟩ := X.specialBack C.1 (y := y) hy1 C.o (mvT C.z w1) (mvT C.z w2) (mvT C.z wc) hy (backOf (W := W) (K []) C.z wc wz hf hl) (g := mkF m pc L S) rfl (by rw [C.n]; exact hsz) (Steps.refl _) (a := a) hlen hs hW (C.d hd) (fun _ _ => ⟨ha.symm, eT, hc, hsl⟩)
 dsimp only [Pt.U, Pt.locs, Pt.cells, Pt.slots] at X' h1 h2 h3 st hQ
 subst h1 h2 h3
 exact (k v B lo X' hQ).st (fun t q => st.trans q)
theorem cP (C : own_C p c code ml s m own Z a0) (X : Stand p l e R s m args below meth c T locs cells slots) (eT : T.heap = h) {y : MethodName} {ycode : ByteArray} {yml : Nat} {yret : Option FieldType} {rm : Room} {as' : Array Value} {Qy : Option Value → Heap → List Loc → Prop} (K : own_Met l y ycode yml yret rm Z h as' Qy) (E : Exa Z h a y.cls) {i W : Nat} (w1 : (Cond.methodLink own i y).before a0 Z = true) (w2 : (Cond.instanceMethod y).before a0 Z = true) (w3 : (Cond.selects y.cls y y).before args s = true) (w4 : (Cond.privateMethod y).before a0 Z = true) (wc : (Cond.code y ycode yml yret).before a0 Z = true) (wz : (Cond.initialized y.cls).before a0 Z = true) {argsL : List Value} (hlen : ∀ sig, parseMethodDescriptor y.desc = some sig → argsL.length = sig.parameters.length) {pc' : Nat} (hd : decode code pc' = .ok (.invokevirtual i, 3)) (k : ∀ v T' lo, Stand p l e R s m args below meth c T' (locs ++ lo) (cells + rm.cells) (slots + rm.slots) → Qy v T'.heap lo → own_Fin p l e R s m args below meth c Q T' (mkF m (pc' + 3) L (v.toList ++ rest))) (hy : y.cls ≠ "java/lang/invoke/MethodHandle" ∧ y.cls ≠ "java/lang/invoke/VarHandle" := by decide) (hp : pc = pc' := by rfl) (hsz : L.size = ml := by rfl) (hs : S = argsL.reverse ++ .ref a :: rest := by rfl) (ha : as' = (.ref a :: argsL).toArray := by rfl) (hW : 2 * 0 + (rest.map fun v => v.category).sum ≤ W := by first | exact Nat.le_of_eq rfl | decide) (hf : rm.frames + 1 ≤ R.frames := by decide) (hl : W + (yml + 11) + rm.locals ≤ R.locals := by decide) (hc : cells + rm.cells ≤ R.cells := by decide) (hsl : slots + rm.slots ≤ R.slots := by decide) : own_Fin p l e R s m args below meth c Q T (mkF m pc L S) := by
 subst hp
 obtain ⟨cq, q1, q2⟩ := E.cell
 obtain ⟨v, _, ⟨B, L', k', n'⟩, -, X', ⟨lo, hQ, h1, h2, h3⟩, st⟩ := X.privateBack C.1 (y := y) C.o (mvT C.z w1) (mvT C.z w2) w3 (Cond.privateMethod_at (mvP C.z w4 (args := #[]))) (mvT C.z wc) hy (backOf (W := W) (K []) C.z wc wz hf hl) (g := mkF m pc L S) rfl (by rw [C.n]; exact hsz) (Steps.refl _) (a := a) (by rw [eT]; exact q1) q2 hlen hs hW (C.d hd) (fun _ _ => ⟨ha.symm, eT, hc, hsl⟩)
 dsimp only [Pt.U, Pt.locs, Pt.cells, Pt.slots] at X' h1 h2 h3 st hQ
 subst h1 h2 h3
 exact (k v B lo X' hQ).st (fun t q => st.trans q)
theorem cV (C : own_C p c code ml s m own Z a0) (X : Stand p l e R s m args below meth c T locs cells slots) (eT : T.heap = h) {y : MethodName} {ycode : ByteArray} {yml : Nat} {yret : Option FieldType} {rm : Room} {as' : Array Value} {Qy : Option Value → Heap → List Loc → Prop} (K : own_Met l y ycode yml yret rm Z h as' Qy) (E : Exa Z h a y.cls) {i W : Nat} (w1 : (Cond.methodLink own i y).before a0 Z = true) (w2 : (Cond.declares y).before a0 Z = true) (w3 : (Cond.selects y.cls y y).before a0 Z = true) (w4 : (Cond.instanceMethod y).before a0 Z = true) (wc : (Cond.code y ycode yml yret).before a0 Z = true) (wz : (Cond.initialized y.cls).before a0 Z = true) {argsL : List Value} (hlen : ∀ sig, parseMethodDescriptor y.desc = some sig → argsL.length = sig.parameters.length) {pc' : Nat} (hd : decode code pc' = .ok (.invokevirtual i, 3)) (k : ∀ v T' lo, Stand p l e R s m args below meth c T' (locs ++ lo) (cells + rm.cells) (slots + rm.slots) → Qy v T'.heap lo → own_Fin p l e R s m args below meth c Q T' (mkF m (pc' + 3) L (v.toList ++ rest))) (hy : y.cls ≠ "java/lang/invoke/MethodHandle" ∧ y.cls ≠ "java/lang/invoke/VarHandle" := by decide) (hp : pc = pc' := by rfl) (hsz : L.size = ml := by rfl) (hs : S = argsL.reverse ++ .ref a :: rest := by rfl) (ha : as' = (.ref a :: argsL).toArray := by rfl) (hW : 2 * 0 + (rest.map fun v => v.category).sum ≤ W := by first | exact Nat.le_of_eq rfl | decide) (hf : rm.frames + 1 ≤ R.frames := by decide) (hl : W + (yml + 11) + rm.locals ≤ R.locals := by decide) (hc : cells + rm.cells ≤ R.cells := by decide) (hsl : slots + rm.slots ≤ R.slots := by decide) : own_Fin p l e R s m args below meth c Q T (mkF m pc L S) := by
 subst hp
 obtain ⟨cq, kq, q1, q2, q3⟩ := isOf C.z eT E
 obtain ⟨v, _, ⟨B, L', k', n'⟩, -, X', ⟨lo, hQ, h1, h2, h3⟩, st⟩ := X.virtualBack C.1 (y := y) (z := y) C.o (mvT C.z w1) (mvT C.z w2) (notFace_of_selects (args := #[]) (mvT C.z w3)) (mvT C.z w3) (mvT C.z w4) hy (backOf (W := W) (K []) C.z wc wz hf hl) q1 q3 (g := mkF m pc L S) rfl (by rw [C.n]; exact hsz) (Steps.refl _) hlen hs hW (C.d hd) (fun _ _ => ⟨ha.symm, eT, hc, hsl⟩)
 dsimp only [Pt.U, Pt.locs, Pt.cells, Pt.slots] at X' h1 h2 h3 st hQ
 subst h1 h2 h3
 exact (k v B lo X' hQ).st (fun t q => st.trans q)
theorem cB (C : own_C p c code ml s m own Z a0) (X : Stand p l e R s m args below meth c T locs cells slots) (eT : T.heap = h) {y : MethodName} {ycode : ByteArray} {yml : Nat} {yret : Option FieldType} {Pp : Array Value → State → Prop} {vv : Option Value} {i W : Nat} (K : Back l R p e below s args y 3 W (fun A a => A.cells + 0 ≤ R.cells ∧ A.slots + 0 ≤ R.slots ∧ Pp a A.U) (fun A _ v B => XT.PureE vv v A.U B.U ∧ B.locs = A.locs ++ [] ∧ B.cells = A.cells + 0 ∧ B.slots = A.slots + 0)) (w1 : (Cond.methodLink own i y).before a0 Z = true) (w2 : (Cond.static y).before a0 Z = true) (wc : (Cond.code y ycode yml yret).before a0 Z = true) (wz : (Cond.initialized y.cls).before a0 Z = true) {argsL : List Value} (hlen : ∀ sig, parseMethodDescriptor y.desc = some sig → argsL.length = sig.parameters.length) (hP : ∀ U, Pp argsL.toArray U) {pc' : Nat} (hd : decode code pc' = .ok (.invokestatic i, 3)) (k : ∀ T', Stand p l e R s m args below meth c T' locs cells slots → T'.heap = h → own_Fin p l e R s m args below meth c Q T' (mkF m (pc' + 3) L (vv.toList ++ rest))) (hy : y.cls ≠ "java/lang/invoke/MethodHandle" ∧ y.cls ≠ "java/lang/invoke/VarHandle" := by decide) (hp : pc = pc' := by rfl) (hsz : L.size = ml := by rfl) (hs : S = argsL.reverse ++ rest := by rfl) (hW : 2 * 0 + (rest.map fun v => v.category).sum ≤ W := by first | exact Nat.le_of_eq rfl | decide) (hc : cells + 0 ≤ R.cells := by decide) (hsl : slots + 0 ≤ R.slots := by decide) : own_Fin p l e R s m args below meth c Q T (mkF m pc L S) := by
 subst hp
 obtain ⟨v, vm₁, ⟨B, L', k', n'⟩, -, X', ⟨hE, h1, h2, h3⟩, st⟩ := Jvm.LawKit.callS X C.1 (y := y) C.o (mvT C.z w1) (mvT C.z w2) (mvT C.z wz) (mvT C.z wc) hy K (g := mkF m pc L S) rfl (by rw [C.n]; exact hsz) hlen hs hW (C.d hd) (fun _ _ => ⟨hc, hsl, hP _⟩)
 dsimp only [Pt.U, Pt.locs, Pt.cells, Pt.slots] at X' h1 h2 h3 st hE
 obtain ⟨rfl, q⟩ := hE
 subst h1 h2 h3
 rw [List.append_nil] at X'
 exact (k B X' (q.trans eT)).st st
end OwnK
def own_m (q19_0 : Int64) (q19_1 : Int64) : Int64 := (if q19_1 < q19_0 then q19_1 else q19_0)
theorem d19_0 : decode oc19 0 = .ok (.lload_n 0, 1):=by decide +kernel
theorem d19_1 : decode oc19 1 = .ok (.lload_n 2, 1):=by decide +kernel
theorem d19_2 : decode oc19 2 = .ok (.lcmp, 1):=by decide +kernel
theorem d19_3 : decode oc19 3 = .ok (.ifCond .gt 7, 3):=by decide +kernel
theorem d19_6 : decode oc19 6 = .ok (.lload_n 0, 1):=by decide +kernel
theorem d19_7 : decode oc19 7 = .ok (.goto 4, 3):=by decide +kernel
theorem d19_10 : decode oc19 10 = .ok (.lload_n 2, 1):=by decide +kernel
theorem d19_11 : decode oc19 11 = .ok (.lreturn, 1):=by decide +kernel
theorem ef_rm19 (m : MethodId) (y0 : Int64) (y1 : Int64) : entryFrame m #[(.long y0), (.long y1)] 4 = mkF m 0 #[oJ y0, oD, oJ y1, oD] [] := by first | (simp [entryFrame, mkF, argsToLocals, Value.category]; done) | rfl
def Q_rm19 (Z : State) (q19_0 q19_1 : Int64) (h0 : Heap) (n0 : Nat) (v : Option Value) (h : Heap) (L : List Loc) : Prop := v = some (.long (own_m q19_0 q19_1)) ∧ Fr n0 L ∧ h = h0
theorem rm19 (l : Launch) (Z : State) (a0 : Array Value) (hw : own_T Z a0) (ws : List Jvm.Cond) (q19_0 q19_1 : Int64) (h0 : Heap) (n0 : Nat) (Z0 : n0 ≤ h0.size) :
   MetFree l (⟨"java/lang/Math", "min", "(JJ)J"⟩ : MethodName) (head1 (Jvm.Cond.code (⟨"java/lang/Math", "min", "(JJ)J"⟩ : MethodName) oc19 4 (some .long) :: ws) ({ frames := 0, cells := 0, slots := 0, locals := 0 } : Room)) (fun a U => a = #[(.long q19_0), (.long q19_1)] ∧ Z.Warmed39 U.vm ∧ U.heap = h0) (fun _ _ _ _ _ => True) (fun _ U o U' => ∃ v L, o = .returned v ∧ Q_rm19 Z q19_0 q19_1 h0 n0 v U'.heap L ∧ FrameEnd U o U' L ({ frames := 0, cells := 0, slots := 0, locals := 0 } : Room).cells ({ frames := 0, cells := 0, slots := 0, locals := 0 } : Room).slots) := by
 refine MetFree.of_bodySF (Jvm.Free.JP.mathPlain rfl (by decide +kernel)) hisR ?_
 intro p e s m args below meth c s₁ Bd hml0 hP hK
 obtain ⟨rfl, hZ, hh⟩ := hP
 have hx := Bd.exec
 have hby := Bd.bytes
 have hml : c.maxLocals = 4 := hml0
 have hown : s.vm.findClass "java/lang/Math" = some m.cls := findClass_of_methodNamed Bd.named
 have hnm := (name_of_methodNamed Bd.named Bd.method).1
 have X0 : Stand p l e ({ frames := 0, cells := 0, slots := 0, locals := 0 } : Room) s m #[(.long q19_0), (.long q19_1)] below meth c s₁ [] 0 0 := Stand.of_body Bd
 have e0 : s₁.heap = h0 := by rw [← hh, Bd.state]; rfl
 have N0 := Fr.nil n0
 have pre0 : ∀ t, Steps p.tables e below (s₁.setTop (mkF m 0 #[oJ q19_0, oD, oJ q19_1, oD] [])) t → Steps p.tables e below (s₁.setTop (entryFrame m #[(.long q19_0), (.long q19_1)] 4)) t := fun t k => castTop (ef_rm19 m q19_0 q19_1) k
 have G1 : ∀ t, Steps p.tables e below (s₁.setTop (mkF m 3 #[oJ q19_0, oD, oJ q19_1, oD] [(.int (lcmpW q19_0 q19_1))])) t → Steps p.tables e below (s₁.setTop (mkF m 0 #[oJ q19_0, oD, oJ q19_1, oD] [])) t := by
   intro t k
   show Steps p.tables e below (s₁.setTop (mkF m 0 #[oJ q19_0, oD, oJ q19_1, oD] [])) _
   refine XS.lloadN X0.here hx rfl (hb hby d19_0) rfl ?_
   refine XS.lloadN X0.here hx rfl (hb hby d19_1) rfl ?_
   refine XS.lcmp X0.here hx rfl (hb hby d19_2) rfl ?_
   exact k
 obtain ⟨v3, hv3⟩ : ∃ z : Int64, z = (if q19_1 < q19_0 then q19_1 else q19_0) := ⟨_, rfl⟩
 obtain ⟨T4, Lo4, X4, N4, e4, G4⟩ := own_join X0 N0 (h := h0) (mkF m 3 #[oJ q19_0, oD, oJ q19_1, oD] [(.int (lcmpW q19_0 q19_1))]) (mkF m 11 #[oJ q19_0, oD, oJ q19_1, oD] [(.long v3)]) (by
   by_cases h3_2 : q19_1 < q19_0
   · refine ⟨s₁, _, X0, N0, e0, fun t k => ?_⟩
     rw [show v3 = q19_1 from hv3.trans (if_pos h3_2)] at k
     show Steps p.tables e below (s₁.setTop (mkF m 3 #[oJ q19_0, oD, oJ q19_1, oD] [(.int (lcmpW q19_0 q19_1))])) _
     refine XS.ifYes X0.here hx rfl (pc0 := 3) (pc' := 10) rfl (hb hby d19_3) rfl ((if0 _ _).trans (tlt ((lw_gt _ _).mpr h3_2)).2.2.1) (by decide) (by decide) ?_
     refine XS.lloadN X0.here hx rfl (hb hby d19_10) rfl ?_
     exact k
   · refine ⟨s₁, _, X0, N0, e0, fun t k => ?_⟩
     rw [show v3 = q19_0 from hv3.trans (if_neg h3_2)] at k
     show Steps p.tables e below (s₁.setTop (mkF m 3 #[oJ q19_0, oD, oJ q19_1, oD] [(.int (lcmpW q19_0 q19_1))])) _
     refine XS.ifNo X0.here hx rfl (hb hby d19_3) rfl ((if0 _ _).trans (flt (fun q => h3_2 ((lw_gt _ _).mp q))).2.2.1) ?_
     refine XS.lloadN X0.here hx rfl (hb hby d19_6) rfl ?_
     refine XS.goto X0.here hx rfl (pc0 := 7) (pc' := 11) rfl (hb hby d19_7) (by decide) (by decide) ?_
     exact k)
 obtain ⟨fs, hr, hrun, hended, hW, hsame⟩ := X4.leave (v := some (.long v3)) (fun h => by rw [Bd.returns] at h; cases h)
 refine ⟨_, _, pre0 _ ?_, hrun, hended, _, _, rfl, ?_, ⟨_, rfl⟩, hW, hsame.mono (by decide) (by decide)⟩
 · refine G1 _ ?_
   refine G4 _ ?_
   show Steps p.tables e below (T4.setTop (mkF m 11 #[oJ q19_0, oD, oJ q19_1, oD] [(.long v3)])) _
   exact own_retJ X4 hx Bd.returns (hb hby d19_11) hr
 · show Q_rm19 Z q19_0 q19_1 h0 n0 _ T4.heap _
   rw [e4]
   subst hv3
   exact ⟨rfl, N4, rfl⟩
theorem own_mMM : own_m oM oM = oM:=by decide +kernel
def own_Sp0 (Z : State) (h : Heap) (a : Addr) : Prop := ∃ k : ClassId, Arv Z h a k .long (0 : Int32) [] oZ
theorem own_Sp0.lt {Z : State} {h : Heap} {a : Addr} (F : own_Sp0 Z h a) : a < h.size := by obtain ⟨k, V⟩ := F; exact V.lt
theorem own_Sp0.ext {Z : State} {h h' : Heap} {a : Addr} (F : own_Sp0 Z h a) (E : Ext h h') : own_Sp0 Z h' a := by obtain ⟨k, V⟩ := F; exact ⟨k, V.ext E⟩
theorem own_Sp0.keep {Z : State} {h h' : Heap} {a : Addr} {ws : List Addr} (F : own_Sp0 Z h a) (K : Keep h h' ws) (q : a ∉ ws) : own_Sp0 Z h' a := by obtain ⟨k, V⟩ := F; exact ⟨k, V.keep K q⟩
theorem own_Sp0.other {Z : State} {h h' : Heap} {a b : Addr} {sl : Nat} {v : Value} (F : own_Sp0 Z h b) (W : Wr h h' a sl v) (q : b ≠ a) : own_Sp0 Z h' b := by obtain ⟨k, V⟩ := F; exact ⟨k, V.other W q⟩
def own_Sp2 (Z : State) (h : Heap) (a : Addr) (l0 : Int64) (l1 : Int64) : Prop := ∃ k : ClassId, Arv Z h a k .long (4 : Int32) [oZ, (.long (own_m l0 l1)), (.long l0), (.long l1)] oZ
theorem own_Sp2.lt {Z : State} {h : Heap} {a : Addr} {l0 : Int64} {l1 : Int64} (F : own_Sp2 Z h a l0 l1) : a < h.size := by obtain ⟨k, V⟩ := F; exact V.lt
theorem own_Sp2.ext {Z : State} {h h' : Heap} {a : Addr} {l0 : Int64} {l1 : Int64} (F : own_Sp2 Z h a l0 l1) (E : Ext h h') : own_Sp2 Z h' a l0 l1 := by obtain ⟨k, V⟩ := F; exact ⟨k, V.ext E⟩
theorem own_Sp2.keep {Z : State} {h h' : Heap} {a : Addr} {ws : List Addr} {l0 : Int64} {l1 : Int64} (F : own_Sp2 Z h a l0 l1) (K : Keep h h' ws) (q : a ∉ ws) : own_Sp2 Z h' a l0 l1 := by obtain ⟨k, V⟩ := F; exact ⟨k, V.keep K q⟩
theorem own_Sp2.other {Z : State} {h h' : Heap} {a b : Addr} {sl : Nat} {v : Value} {l0 : Int64} {l1 : Int64} (F : own_Sp2 Z h b l0 l1) (W : Wr h h' a sl v) (q : b ≠ a) : own_Sp2 Z h' b l0 l1 := by obtain ⟨k, V⟩ := F; exact ⟨k, V.other W q⟩
def own_Sp4 (Z : State) (h : Heap) (a : Addr) (l0 : Int64) (l1 : Int64) (l2 : Int64) (l3 : Int64) : Prop := ∃ k : ClassId, Arv Z h a k .long (8 : Int32) [oZ, (.long (own_m (own_m l0 l1) (own_m l2 l3))), (.long (own_m l0 l1)), (.long (own_m l2 l3)), (.long l0), (.long l1), (.long l2), (.long l3)] oZ
theorem own_Sp4.lt {Z : State} {h : Heap} {a : Addr} {l0 : Int64} {l1 : Int64} {l2 : Int64} {l3 : Int64} (F : own_Sp4 Z h a l0 l1 l2 l3) : a < h.size := by obtain ⟨k, V⟩ := F; exact V.lt
theorem own_Sp4.ext {Z : State} {h h' : Heap} {a : Addr} {l0 : Int64} {l1 : Int64} {l2 : Int64} {l3 : Int64} (F : own_Sp4 Z h a l0 l1 l2 l3) (E : Ext h h') : own_Sp4 Z h' a l0 l1 l2 l3 := by obtain ⟨k, V⟩ := F; exact ⟨k, V.ext E⟩
theorem own_Sp4.keep {Z : State} {h h' : Heap} {a : Addr} {ws : List Addr} {l0 : Int64} {l1 : Int64} {l2 : Int64} {l3 : Int64} (F : own_Sp4 Z h a l0 l1 l2 l3) (K : Keep h h' ws) (q : a ∉ ws) : own_Sp4 Z h' a l0 l1 l2 l3 := by obtain ⟨k, V⟩ := F; exact ⟨k, V.keep K q⟩
theorem own_Sp4.other {Z : State} {h h' : Heap} {a b : Addr} {sl : Nat} {v : Value} {l0 : Int64} {l1 : Int64} {l2 : Int64} {l3 : Int64} (F : own_Sp4 Z h b l0 l1 l2 l3) (W : Wr h h' a sl v) (q : b ≠ a) : own_Sp4 Z h' b l0 l1 l2 l3 := by obtain ⟨k, V⟩ := F; exact ⟨k, V.other W q⟩
def own_Sp8 (Z : State) (h : Heap) (a : Addr) (l0 : Int64) (l1 : Int64) (l2 : Int64) (l3 : Int64) (l4 : Int64) (l5 : Int64) (l6 : Int64) (l7 : Int64) : Prop := ∃ k : ClassId, Arv Z h a k .long (16 : Int32) [oZ, (.long (own_m (own_m (own_m l0 l1) (own_m l2 l3)) (own_m (own_m l4 l5) (own_m l6 l7)))), (.long (own_m (own_m l0 l1) (own_m l2 l3))), (.long (own_m (own_m l4 l5) (own_m l6 l7))), (.long (own_m l0 l1)), (.long (own_m l2 l3)), (.long (own_m l4 l5)), (.long (own_m l6 l7)), (.long l0), (.long l1), (.long l2), (.long l3), (.long l4), (.long l5), (.long l6), (.long l7)] oZ
theorem own_Sp8.lt {Z : State} {h : Heap} {a : Addr} {l0 : Int64} {l1 : Int64} {l2 : Int64} {l3 : Int64} {l4 : Int64} {l5 : Int64} {l6 : Int64} {l7 : Int64} (F : own_Sp8 Z h a l0 l1 l2 l3 l4 l5 l6 l7) : a < h.size := by obtain ⟨k, V⟩ := F; exact V.lt
theorem own_Sp8.ext {Z : State} {h h' : Heap} {a : Addr} {l0 : Int64} {l1 : Int64} {l2 : Int64} {l3 : Int64} {l4 : Int64} {l5 : Int64} {l6 : Int64} {l7 : Int64} (F : own_Sp8 Z h a l0 l1 l2 l3 l4 l5 l6 l7) (E : Ext h h') : own_Sp8 Z h' a l0 l1 l2 l3 l4 l5 l6 l7 := by obtain ⟨k, V⟩ := F; exact ⟨k, V.ext E⟩
theorem own_Sp8.keep {Z : State} {h h' : Heap} {a : Addr} {ws : List Addr} {l0 : Int64} {l1 : Int64} {l2 : Int64} {l3 : Int64} {l4 : Int64} {l5 : Int64} {l6 : Int64} {l7 : Int64} (F : own_Sp8 Z h a l0 l1 l2 l3 l4 l5 l6 l7) (K : Keep h h' ws) (q : a ∉ ws) : own_Sp8 Z h' a l0 l1 l2 l3 l4 l5 l6 l7 := by obtain ⟨k, V⟩ := F; exact ⟨k, V.keep K q⟩
theorem own_Sp8.other {Z : State} {h h' : Heap} {a b : Addr} {sl : Nat} {v : Value} {l0 : Int64} {l1 : Int64} {l2 : Int64} {l3 : Int64} {l4 : Int64} {l5 : Int64} {l6 : Int64} {l7 : Int64} (F : own_Sp8 Z h b l0 l1 l2 l3 l4 l5 l6 l7) (W : Wr h h' a sl v) (q : b ≠ a) : own_Sp8 Z h' b l0 l1 l2 l3 l4 l5 l6 l7 := by obtain ⟨k, V⟩ := F; exact ⟨k, V.other W q⟩
theorem own_tN {p : Program} {c : Code} {code : ByteArray} {ml : Nat} {s : State} {m : MethodId} {own : String} {Z : State} {a0 args : Array Value} (C : own_C p c code ml s m own Z a0) : Jvm.Free.JP.Integer_numberOfTrailingZeros_I.tab.before args s = true := Jvm.Free.XT.unparts (mvT C.z (ow147 C.w)) (List.forall_mem_cons.mpr ⟨(mvT C.z (ow59 C.w)), (List.forall_mem_cons.mpr ⟨(mvT C.z (ow65 C.w)), (fun _ q => nomatch q)⟩)⟩)
theorem own_tM {p : Program} {c : Code} {code : ByteArray} {ml : Nat} {s : State} {m : MethodId} {own : String} {Z : State} {a0 args : Array Value} (C : own_C p c code ml s m own Z a0) : Jvm.Free.JP.Long_numberOfTrailingZeros_J.tab.before args s = true := Jvm.Free.XT.unparts (mvT C.z (ow144 C.w)) (List.forall_mem_cons.mpr ⟨(mvT C.z (ow143 C.w)), (List.forall_mem_cons.mpr ⟨(own_tN C), (List.forall_mem_cons.mpr ⟨(mvT C.z (ow145 C.w)), (List.forall_mem_cons.mpr ⟨(mvT C.z (ow146 C.w)), (fun _ q => nomatch q)⟩)⟩)⟩)⟩)
theorem own_tZ {p : Program} {c : Code} {code : ByteArray} {ml : Nat} {s : State} {m : MethodId} {own : String} {Z : State} {a0 args : Array Value} (C : own_C p c code ml s m own Z a0) : Jvm.Free.JP.Integer_numberOfLeadingZeros_I.tab.before args s = true := Jvm.Free.XT.unparts (mvT C.z (ow64 C.w)) (List.forall_mem_cons.mpr ⟨(mvT C.z (ow59 C.w)), (List.forall_mem_cons.mpr ⟨(mvT C.z (ow65 C.w)), (fun _ q => nomatch q)⟩)⟩)
theorem own_tY {p : Program} {c : Code} {code : ByteArray} {ml : Nat} {s : State} {m : MethodId} {own : String} {Z : State} {a0 args : Array Value} (C : own_C p c code ml s m own Z a0) : Jvm.Free.JP.Long_numberOfLeadingZeros_J.tab.before args s = true := Jvm.Free.XT.unparts (mvT C.z (ow175 C.w)) (List.forall_mem_cons.mpr ⟨(mvT C.z (ow143 C.w)), (List.forall_mem_cons.mpr ⟨(own_tZ C), (List.forall_mem_cons.mpr ⟨(mvT C.z (ow176 C.w)), (List.forall_mem_cons.mpr ⟨(mvT C.z (ow63 C.w)), (fun _ q => nomatch q)⟩)⟩)⟩)⟩)
theorem own_tH {p : Program} {c : Code} {code : ByteArray} {ml : Nat} {s : State} {m : MethodId} {own : String} {Z : State} {a0 args : Array Value} (C : own_C p c code ml s m own Z a0) : Jvm.Free.JP.Integer_highestOneBit_I.tab.before args s = true := Jvm.Free.XT.unparts (mvT C.z (ow60 C.w)) (List.forall_mem_cons.mpr ⟨(mvT C.z (ow59 C.w)), (List.forall_mem_cons.mpr ⟨(mvT C.z (ow61 C.w)), (List.forall_mem_cons.mpr ⟨(own_tZ C), (List.forall_mem_cons.mpr ⟨(mvT C.z (ow62 C.w)), (List.forall_mem_cons.mpr ⟨(mvT C.z (ow63 C.w)), (fun _ q => nomatch q)⟩)⟩)⟩)⟩)⟩)
abbrev own_intz := Jvm.Free.JP.Integer_numberOfTrailingZeros_I.val
abbrev own_lntz := Jvm.Free.JP.Long_numberOfTrailingZeros_J.val
abbrev own_inlz := Jvm.Free.JP.Integer_numberOfLeadingZeros_I.val
abbrev own_lnlz := Jvm.Free.JP.Long_numberOfLeadingZeros_J.val
abbrev own_hob := Jvm.Free.JP.Integer_highestOneBit_I.val
theorem d10_0 : decode oc10 0 = .ok (.iload_n 0, 1):=by decide +kernel
theorem d10_1 : decode oc10 1 = .ok (.iload_n 1, 1):=by decide +kernel
theorem d10_2 : decode oc10 2 = .ok (.if_icmp .lt 7, 3):=by decide +kernel
theorem d10_5 : decode oc10 5 = .ok (.iload_n 0, 1):=by decide +kernel
theorem d10_6 : decode oc10 6 = .ok (.goto 4, 3):=by decide +kernel
theorem d10_9 : decode oc10 9 = .ok (.iload_n 1, 1):=by decide +kernel
theorem d10_10 : decode oc10 10 = .ok (.ireturn, 1):=by decide +kernel
theorem ef_rm10 (m : MethodId) (y0 : Int32) (y1 : Int32) : entryFrame m #[(.int y0), (.int y1)] 2 = mkF m 0 #[oI y0, oI y1] [] := by first | (simp [entryFrame, mkF, argsToLocals, Value.category]; done) | rfl
def Q_rm10 (Z : State) (p10_0 p10_1 : Int32) (h0 : Heap) (n0 : Nat) (v : Option Value) (h : Heap) (L : List Loc) : Prop := v = some (.int (if p10_0 < p10_1 then p10_1 else p10_0)) ∧ Fr n0 L ∧ h = h0
theorem rm10 (l : Launch) (Z : State) (a0 : Array Value) (hw : own_T Z a0) (ws : List Jvm.Cond) (p10_0 p10_1 : Int32) (h0 : Heap) (n0 : Nat) (Z0 : n0 ≤ h0.size) :
   MetFree l (⟨"java/lang/Math", "max", "(II)I"⟩ : MethodName) (head1 (Jvm.Cond.code (⟨"java/lang/Math", "max", "(II)I"⟩ : MethodName) oc10 2 (some .int) :: ws) ({ frames := 0, cells := 0, slots := 0, locals := 0 } : Room)) (fun a U => a = #[(.int p10_0), (.int p10_1)] ∧ Z.Warmed39 U.vm ∧ U.heap = h0) (fun _ _ _ _ _ => True) (fun _ U o U' => ∃ v L, o = .returned v ∧ Q_rm10 Z p10_0 p10_1 h0 n0 v U'.heap L ∧ FrameEnd U o U' L ({ frames := 0, cells := 0, slots := 0, locals := 0 } : Room).cells ({ frames := 0, cells := 0, slots := 0, locals := 0 } : Room).slots) := by
 refine MetFree.of_bodySF (Jvm.Free.JP.mathPlain rfl (by decide +kernel)) hisR ?_
 intro p e s m args below meth c s₁ Bd hml0 hP hK
 obtain ⟨rfl, hZ, hh⟩ := hP
 have hx := Bd.exec
 have hby := Bd.bytes
 have hml : c.maxLocals = 2 := hml0
 have hown : s.vm.findClass "java/lang/Math" = some m.cls := findClass_of_methodNamed Bd.named
 have hnm := (name_of_methodNamed Bd.named Bd.method).1
 have X0 : Stand p l e ({ frames := 0, cells := 0, slots := 0, locals := 0 } : Room) s m #[(.int p10_0), (.int p10_1)] below meth c s₁ [] 0 0 := Stand.of_body Bd
 have e0 : s₁.heap = h0 := by rw [← hh, Bd.state]; rfl
 have N0 := Fr.nil n0
 have pre0 : ∀ t, Steps p.tables e below (s₁.setTop (mkF m 0 #[oI p10_0, oI p10_1] [])) t → Steps p.tables e below (s₁.setTop (entryFrame m #[(.int p10_0), (.int p10_1)] 2)) t := fun t k => castTop (ef_rm10 m p10_0 p10_1) k
 have G1 : ∀ t, Steps p.tables e below (s₁.setTop (mkF m 2 #[oI p10_0, oI p10_1] [(.int p10_1), (.int p10_0)])) t → Steps p.tables e below (s₁.setTop (mkF m 0 #[oI p10_0, oI p10_1] [])) t := by
   intro t k
   show Steps p.tables e below (s₁.setTop (mkF m 0 #[oI p10_0, oI p10_1] [])) _
   refine XS.iloadN X0.here hx rfl (hb hby d10_0) rfl ?_
   refine XS.iloadN X0.here hx rfl (hb hby d10_1) rfl ?_
   exact k
 by_cases h2_2 : p10_0 < p10_1
 · obtain ⟨fs, hr, hrun, hended, hW, hsame⟩ := X0.leave (v := some (.int p10_1)) (fun h => by rw [Bd.returns] at h; cases h)
   refine ⟨_, _, pre0 _ ?_, hrun, hended, _, _, rfl, ?_, ⟨_, rfl⟩, hW, hsame.mono (by decide) (by decide)⟩
   · refine G1 _ ?_
     show Steps p.tables e below (s₁.setTop (mkF m 2 #[oI p10_0, oI p10_1] [(.int p10_1), (.int p10_0)])) _
     refine XS.icmpYes X0.here hx rfl (pc0 := 2) (pc' := 9) rfl (hb hby d10_2) rfl (tlt h2_2).1 (by decide) (by decide) ?_
     refine XS.iloadN X0.here hx rfl (hb hby d10_9) rfl ?_
     show Steps p.tables e below (s₁.setTop (mkF m 10 #[oI p10_0, oI p10_1] [(.int p10_1)])) _
     exact retI X0 hx Bd.returns (hb hby d10_10) hr
   · show Q_rm10 Z p10_0 p10_1 h0 n0 _ s₁.heap _
     rw [e0]
     exact ⟨(congrArg (fun z => some (Value.int z)) (if_pos h2_2).symm), N0, rfl⟩
 · obtain ⟨fs, hr, hrun, hended, hW, hsame⟩ := X0.leave (v := some (.int p10_0)) (fun h => by rw [Bd.returns] at h; cases h)
   refine ⟨_, _, pre0 _ ?_, hrun, hended, _, _, rfl, ?_, ⟨_, rfl⟩, hW, hsame.mono (by decide) (by decide)⟩
   · refine G1 _ ?_
     show Steps p.tables e below (s₁.setTop (mkF m 2 #[oI p10_0, oI p10_1] [(.int p10_1), (.int p10_0)])) _
     refine XS.icmpNo X0.here hx rfl (hb hby d10_2) rfl (flt h2_2).1 ?_
     refine XS.iloadN X0.here hx rfl (hb hby d10_5) rfl ?_
     refine XS.goto X0.here hx rfl (pc0 := 6) (pc' := 10) rfl (hb hby d10_6) (by decide) (by decide) ?_
     show Steps p.tables e below (s₁.setTop (mkF m 10 #[oI p10_0, oI p10_1] [(.int p10_0)])) _
     exact retI X0 hx Bd.returns (hb hby d10_10) hr
   · show Q_rm10 Z p10_0 p10_1 h0 n0 _ s₁.heap _
     rw [e0]
     exact ⟨(congrArg (fun z => some (Value.int z)) (if_neg h2_2).symm), N0, rfl⟩
theorem d13_0 : decode oc13 0 = .ok (.getstatic 3, 3):=by decide +kernel
theorem d13_3 : decode oc13 3 = .ok (.ifCond .ne 34, 3):=by decide +kernel
theorem d13_37 : decode oc13 37 = .ok (.getstatic 3, 3):=by decide +kernel
theorem d13_40 : decode oc13 40 = .ok (.ifCond .ne 30, 3):=by decide +kernel
theorem d13_70 : decode oc13 70 = .ok (.getstatic 3, 3):=by decide +kernel
theorem d13_73 : decode oc13 73 = .ok (.ifCond .ne 37, 3):=by decide +kernel
theorem d13_110 : decode oc13 110 = .ok (.return_, 1):=by decide +kernel
theorem pn_13 : plainName oB = true := by first | (simp [plainName, overriddenIn]; done) | decide +kernel
theorem ef_rm13 (m : MethodId) (y0 : Addr) : entryFrame m #[(.ref y0)] 1 = mkF m 0 #[oR y0] [] := by first | (simp [entryFrame, mkF, argsToLocals, Value.category]; done) | rfl
def Q_rm13 (Z : State) (a13_0 : Addr) (h0 : Heap) (n0 : Nat) (v : Option Value) (h : Heap) (L : List Loc) : Prop := v = none ∧ Fr n0 L ∧ h = h0
theorem rm13 (l : Launch) (Z : State) (a0 : Array Value) (hw : own_T Z a0) (ws : List Jvm.Cond) (a13_0 : Addr) (h0 : Heap) (n0 : Nat) (Z0 : n0 ≤ h0.size) (Sta1 : Sta Z h0 oB "$assertionsDisabled" "Z" (.int (1 : Int32))) :
   MetFree l (⟨oB, "checkInvariants", "()V"⟩ : MethodName) (head1 (Jvm.Cond.code (⟨oB, "checkInvariants", "()V"⟩ : MethodName) oc13 1 none :: ws) ({ frames := 0, cells := 0, slots := 0, locals := 0 } : Room)) (fun a U => a = #[(.ref a13_0)] ∧ Z.Warmed39 U.vm ∧ U.heap = h0) (fun _ _ _ _ _ => True) (fun _ U o U' => ∃ v L, o = .returned v ∧ Q_rm13 Z a13_0 h0 n0 v U'.heap L ∧ FrameEnd U o U' L ({ frames := 0, cells := 0, slots := 0, locals := 0 } : Room).cells ({ frames := 0, cells := 0, slots := 0, locals := 0 } : Room).slots) := by
 refine MetFree.of_bodySF (plainFor_of_name pn_13) hisR ?_
 intro p e s m args below meth c s₁ Bd hml0 hP hK
 obtain ⟨rfl, hZ, hh⟩ := hP
 have hx := Bd.exec
 have hby := Bd.bytes
 have hml : c.maxLocals = 1 := hml0
 have hown : s.vm.findClass oB = some m.cls := findClass_of_methodNamed Bd.named
 have hnm := (name_of_methodNamed Bd.named Bd.method).1
 have X0 : Stand p l e ({ frames := 0, cells := 0, slots := 0, locals := 0 } : Room) s m #[(.ref a13_0)] below meth c s₁ [] 0 0 := Stand.of_body Bd
 have e0 : s₁.heap = h0 := by rw [← hh, Bd.state]; rfl
 have N0 := Fr.nil n0
 have pre0 : ∀ t, Steps p.tables e below (s₁.setTop (mkF m 0 #[oR a13_0] [])) t → Steps p.tables e below (s₁.setTop (entryFrame m #[(.ref a13_0)] 1)) t := fun t k => castTop (ef_rm13 m a13_0) k
 obtain ⟨T1, X1, e1, st1⟩ := getS2 X0 hx hZ hown (host := "") (Or.inl (ow86 hw)) Via.refl e0 Sta1 (g := (mkF m 0 #[oR a13_0] [])) rfl (hb hby d13_0)
 obtain ⟨T2, X2, e2, st2⟩ := getS2 X1 hx hZ hown (host := "") (Or.inl (ow86 hw)) Via.refl e1 Sta1 (g := (mkF m 37 #[oR a13_0] [])) rfl (hb hby d13_37)
 obtain ⟨T3, X3, e3, st3⟩ := getS2 X2 hx hZ hown (host := "") (Or.inl (ow86 hw)) Via.refl e2 Sta1 (g := (mkF m 70 #[oR a13_0] [])) rfl (hb hby d13_70)
 obtain ⟨fs, hr, hrun, hended, hW, hsame⟩ := X3.leave (v := none) (fun _ => rfl)
 refine ⟨_, _, pre0 _ ?_, hrun, hended, _, _, rfl, ?_, ⟨_, rfl⟩, hW, hsame.mono (by decide) (by decide)⟩
 · show Steps p.tables e below (s₁.setTop (mkF m 0 #[oR a13_0] [])) _
   refine st1 _ ?_
   show Steps p.tables e below (T1.setTop (mkF m 3 #[oR a13_0] [(.int (1 : Int32))])) _
   refine XS.ifYes X1.here hx rfl (pc0 := 3) (pc' := 37) rfl (hb hby d13_3) rfl ((if0 _ _).trans (feq (by decide : ¬ ((1 : Int32) = (0 : Int32)))).2) (by decide) (by decide) ?_
   refine st2 _ ?_
   show Steps p.tables e below (T2.setTop (mkF m 40 #[oR a13_0] [(.int (1 : Int32))])) _
   refine XS.ifYes X2.here hx rfl (pc0 := 40) (pc' := 70) rfl (hb hby d13_40) rfl ((if0 _ _).trans (feq (by decide : ¬ ((1 : Int32) = (0 : Int32)))).2) (by decide) (by decide) ?_
   refine st3 _ ?_
   show Steps p.tables e below (T3.setTop (mkF m 73 #[oR a13_0] [(.int (1 : Int32))])) _
   refine XS.ifYes X3.here hx rfl (pc0 := 73) (pc' := 110) rfl (hb hby d13_73) rfl ((if0 _ _).trans (feq (by decide : ¬ ((1 : Int32) = (0 : Int32)))).2) (by decide) (by decide) ?_
   show Steps p.tables e below (T3.setTop (mkF m 110 #[oR a13_0] [])) _
   exact X3.returnOut hx Bd.returns (hb hby d13_110) hr
 · show Q_rm13 Z a13_0 h0 n0 _ T3.heap _
   rw [e3]
   exact ⟨rfl, N0, rfl⟩
theorem d6_0 : decode oc6 0 = .ok (.iload_n 0, 1):=by decide +kernel
theorem d6_1 : decode oc6 1 = .ok (.bipush 6, 2):=by decide +kernel
theorem d6_3 : decode oc6 3 = .ok (.ishr, 1):=by decide +kernel
theorem d6_4 : decode oc6 4 = .ok (.ireturn, 1):=by decide +kernel
theorem pn_6 : plainName oB = true := by first | (simp [plainName, overriddenIn]; done) | decide +kernel
theorem ef_rm6 (m : MethodId) (y0 : Int32) : entryFrame m #[(.int y0)] 1 = mkF m 0 #[oI y0] [] := by first | (simp [entryFrame, mkF, argsToLocals, Value.category]; done) | rfl
def Q_rm6 (Z : State) (p6_0 : Int32) (h0 : Heap) (n0 : Nat) (v : Option Value) (h : Heap) (L : List Loc) : Prop := v = some (.int (p6_0 >>> ((6 : Int32) &&& 31))) ∧ Fr n0 L ∧ h = h0
theorem rm6 (l : Launch) (Z : State) (a0 : Array Value) (hw : own_T Z a0) (ws : List Jvm.Cond) (p6_0 : Int32) (h0 : Heap) (n0 : Nat) (Z0 : n0 ≤ h0.size) :
   MetFree l (⟨oB, "wordIndex", "(I)I"⟩ : MethodName) (head1 (Jvm.Cond.code (⟨oB, "wordIndex", "(I)I"⟩ : MethodName) oc6 1 (some .int) :: ws) ({ frames := 0, cells := 0, slots := 0, locals := 0 } : Room)) (fun a U => a = #[(.int p6_0)] ∧ Z.Warmed39 U.vm ∧ U.heap = h0) (fun _ _ _ _ _ => True) (fun _ U o U' => ∃ v L, o = .returned v ∧ Q_rm6 Z p6_0 h0 n0 v U'.heap L ∧ FrameEnd U o U' L ({ frames := 0, cells := 0, slots := 0, locals := 0 } : Room).cells ({ frames := 0, cells := 0, slots := 0, locals := 0 } : Room).slots) := by
 refine MetFree.of_bodySF (plainFor_of_name pn_6) hisR ?_
 intro p e s m args below meth c s₁ Bd hml0 hP hK
 obtain ⟨rfl, hZ, hh⟩ := hP
 have hx := Bd.exec
 have hby := Bd.bytes
 have hml : c.maxLocals = 1 := hml0
 have hown : s.vm.findClass oB = some m.cls := findClass_of_methodNamed Bd.named
 have hnm := (name_of_methodNamed Bd.named Bd.method).1
 have X0 : Stand p l e ({ frames := 0, cells := 0, slots := 0, locals := 0 } : Room) s m #[(.int p6_0)] below meth c s₁ [] 0 0 := Stand.of_body Bd
 have e0 : s₁.heap = h0 := by rw [← hh, Bd.state]; rfl
 have N0 := Fr.nil n0
 have pre0 : ∀ t, Steps p.tables e below (s₁.setTop (mkF m 0 #[oI p6_0] [])) t → Steps p.tables e below (s₁.setTop (entryFrame m #[(.int p6_0)] 1)) t := fun t k => castTop (ef_rm6 m p6_0) k
 obtain ⟨fs, hr, hrun, hended, hW, hsame⟩ := X0.leave (v := some (.int (p6_0 >>> ((6 : Int32) &&& 31)))) (fun h => by rw [Bd.returns] at h; cases h)
 refine ⟨_, _, pre0 _ ?_, hrun, hended, _, _, rfl, ?_, ⟨_, rfl⟩, hW, hsame.mono (by decide) (by decide)⟩
 · show Steps p.tables e below (s₁.setTop (mkF m 0 #[oI p6_0] [])) _
   refine XS.iloadN X0.here hx rfl (hb hby d6_0) rfl ?_
   refine XS.bipush X0.here hx rfl (hb hby d6_1) ?_
   refine XS.ishr X0.here hx rfl (hb hby d6_3) rfl ?_
   show Steps p.tables e below (s₁.setTop (mkF m 4 #[oI p6_0] [(.int (p6_0 >>> ((6 : Int32) &&& 31)))])) _
   exact retI X0 hx Bd.returns (hb hby d6_4) hr
 · show Q_rm6 Z p6_0 h0 n0 _ s₁.heap _
   rw [e0]
   exact ⟨rfl, N0, rfl⟩
def own_Obj (Z : State) (h : Heap) (n0 : Nat) (a rT rF rO rS rE rW : Addr) (kT kF kO kW : ClassId) (fi en sz : Int32) (bs : Int64) (u sk : Int32) (w : Int64) (n : Int32) (ts fs os : List Value) : Prop := Exa Z h a oL ∧ Fld Z h a oL "times" "[J" (.ref rT) ∧ Fld Z h a oL "froms" "[J" (.ref rF) ∧ Fld Z h a oL "totals" "[J" (.ref rO) ∧ Fld Z h a oL "spans" "[J" (.ref rS) ∧ Fld Z h a oL "entries" "Ljava/util/BitSet;" (.ref rE) ∧ Fld Z h a oL "size" "I" (.int sz) ∧ Fld Z h a oL "end" "I" (.int en) ∧ Fld Z h a oL "first" "I" (.int fi) ∧ Fld Z h a oL "base" "J" (.long bs) ∧ Exa Z h rE oB ∧ Fld Z h rE oB "wordsInUse" "I" (.int u) ∧ Fld Z h rE oB "sizeIsSticky" "Z" (.int sk) ∧ Fld Z h rE oB "words" "[J" (.ref rW) ∧ Arv Z h rT kT .long n ts oZ ∧ Arv Z h rF kF .long n fs oZ ∧ Arv Z h rO kO .long n os oZ ∧ Arv Z h rW kW .long (1 : Int32) [(.long w)] oZ ∧ Sta Z h oB "$assertionsDisabled" "Z" (.int (1 : Int32)) ∧ n0 ≤ a ∧ n0 ≤ rT ∧ n0 ≤ rF ∧ n0 ≤ rO ∧ n0 ≤ rS ∧ n0 ≤ rE ∧ n0 ≤ rW ∧ a ≠ rT ∧ a ≠ rF ∧ a ≠ rO ∧ a ≠ rS ∧ a ≠ rE ∧ a ≠ rW ∧ rT ≠ rF ∧ rT ≠ rO ∧ rT ≠ rS ∧ rT ≠ rE ∧ rT ≠ rW ∧ rF ≠ rO ∧ rF ≠ rS ∧ rF ≠ rE ∧ rF ≠ rW ∧ rO ≠ rS ∧ rO ≠ rE ∧ rO ≠ rW ∧ rS ≠ rE ∧ rS ≠ rW ∧ rE ≠ rW
section OwnO
variable {Z : State} {h h' : Heap} {n0 : Nat} {a rT rF rO rS rE rW : Addr} {kT kF kO kW : ClassId} {fi en sz fi' en' sz' : Int32} {bs bs' : Int64} {u sk u' sk' : Int32} {w w' : Int64} {n : Int32} {ts fs os ts' fs' os' : List Value}
theorem own_Obj.Ea (O : own_Obj Z h n0 a rT rF rO rS rE rW kT kF kO kW fi en sz bs u sk w n ts fs os) : Exa Z h a oL := O.1
theorem own_Obj.Ftimes (O : own_Obj Z h n0 a rT rF rO rS rE rW kT kF kO kW fi en sz bs u sk w n ts fs os) : Fld Z h a oL "times" "[J" (.ref rT) := O.2.1
theorem own_Obj.Ffroms (O : own_Obj Z h n0 a rT rF rO rS rE rW kT kF kO kW fi en sz bs u sk w n ts fs os) : Fld Z h a oL "froms" "[J" (.ref rF) := O.2.2.1
theorem own_Obj.Ftotals (O : own_Obj Z h n0 a rT rF rO rS rE rW kT kF kO kW fi en sz bs u sk w n ts fs os) : Fld Z h a oL "totals" "[J" (.ref rO) := O.2.2.2.1
theorem own_Obj.Fspans (O : own_Obj Z h n0 a rT rF rO rS rE rW kT kF kO kW fi en sz bs u sk w n ts fs os) : Fld Z h a oL "spans" "[J" (.ref rS) := O.2.2.2.2.1
theorem own_Obj.Fentries (O : own_Obj Z h n0 a rT rF rO rS rE rW kT kF kO kW fi en sz bs u sk w n ts fs os) : Fld Z h a oL "entries" "Ljava/util/BitSet;" (.ref rE) := O.2.2.2.2.2.1
theorem own_Obj.Fsize (O : own_Obj Z h n0 a rT rF rO rS rE rW kT kF kO kW fi en sz bs u sk w n ts fs os) : Fld Z h a oL "size" "I" (.int sz) := O.2.2.2.2.2.2.1
theorem own_Obj.Fend (O : own_Obj Z h n0 a rT rF rO rS rE rW kT kF kO kW fi en sz bs u sk w n ts fs os) : Fld Z h a oL "end" "I" (.int en) := O.2.2.2.2.2.2.2.1
theorem own_Obj.Ffirst (O : own_Obj Z h n0 a rT rF rO rS rE rW kT kF kO kW fi en sz bs u sk w n ts fs os) : Fld Z h a oL "first" "I" (.int fi) := O.2.2.2.2.2.2.2.2.1
theorem own_Obj.Fbase (O : own_Obj Z h n0 a rT rF rO rS rE rW kT kF kO kW fi en sz bs u sk w n ts fs os) : Fld Z h a oL "base" "J" (.long bs) := O.2.2.2.2.2.2.2.2.2.1
theorem own_Obj.Ee (O : own_Obj Z h n0 a rT rF rO rS rE rW kT kF kO kW fi en sz bs u sk w n ts fs os) : Exa Z h rE oB := O.2.2.2.2.2.2.2.2.2.2.1
theorem own_Obj.BwordsInUse (O : own_Obj Z h n0 a rT rF rO rS rE rW kT kF kO kW fi en sz bs u sk w n ts fs os) : Fld Z h rE oB "wordsInUse" "I" (.int u) := O.2.2.2.2.2.2.2.2.2.2.2.1
theorem own_Obj.BsizeIsSticky (O : own_Obj Z h n0 a rT rF rO rS rE rW kT kF kO kW fi en sz bs u sk w n ts fs os) : Fld Z h rE oB "sizeIsSticky" "Z" (.int sk) := O.2.2.2.2.2.2.2.2.2.2.2.2.1
theorem own_Obj.Bwords (O : own_Obj Z h n0 a rT rF rO rS rE rW kT kF kO kW fi en sz bs u sk w n ts fs os) : Fld Z h rE oB "words" "[J" (.ref rW) := O.2.2.2.2.2.2.2.2.2.2.2.2.2.1
theorem own_Obj.Vt (O : own_Obj Z h n0 a rT rF rO rS rE rW kT kF kO kW fi en sz bs u sk w n ts fs os) : Arv Z h rT kT .long n ts oZ := O.2.2.2.2.2.2.2.2.2.2.2.2.2.2.1
theorem own_Obj.Vf (O : own_Obj Z h n0 a rT rF rO rS rE rW kT kF kO kW fi en sz bs u sk w n ts fs os) : Arv Z h rF kF .long n fs oZ := O.2.2.2.2.2.2.2.2.2.2.2.2.2.2.2.1
theorem own_Obj.Vo (O : own_Obj Z h n0 a rT rF rO rS rE rW kT kF kO kW fi en sz bs u sk w n ts fs os) : Arv Z h rO kO .long n os oZ := O.2.2.2.2.2.2.2.2.2.2.2.2.2.2.2.2.1
theorem own_Obj.Vw (O : own_Obj Z h n0 a rT rF rO rS rE rW kT kF kO kW fi en sz bs u sk w n ts fs os) : Arv Z h rW kW .long (1 : Int32) [(.long w)] oZ := O.2.2.2.2.2.2.2.2.2.2.2.2.2.2.2.2.2.1
theorem own_Obj.St (O : own_Obj Z h n0 a rT rF rO rS rE rW kT kF kO kW fi en sz bs u sk w n ts fs os) : Sta Z h oB "$assertionsDisabled" "Z" (.int (1 : Int32)) := O.2.2.2.2.2.2.2.2.2.2.2.2.2.2.2.2.2.2.1
theorem own_Obj.ga (O : own_Obj Z h n0 a rT rF rO rS rE rW kT kF kO kW fi en sz bs u sk w n ts fs os) : n0 ≤ a := O.2.2.2.2.2.2.2.2.2.2.2.2.2.2.2.2.2.2.2.1
theorem own_Obj.grT (O : own_Obj Z h n0 a rT rF rO rS rE rW kT kF kO kW fi en sz bs u sk w n ts fs os) : n0 ≤ rT := O.2.2.2.2.2.2.2.2.2.2.2.2.2.2.2.2.2.2.2.2.1
theorem own_Obj.grF (O : own_Obj Z h n0 a rT rF rO rS rE rW kT kF kO kW fi en sz bs u sk w n ts fs os) : n0 ≤ rF := O.2.2.2.2.2.2.2.2.2.2.2.2.2.2.2.2.2.2.2.2.2.1
theorem own_Obj.grO (O : own_Obj Z h n0 a rT rF rO rS rE rW kT kF kO kW fi en sz bs u sk w n ts fs os) : n0 ≤ rO := O.2.2.2.2.2.2.2.2.2.2.2.2.2.2.2.2.2.2.2.2.2.2.1
theorem own_Obj.grS (O : own_Obj Z h n0 a rT rF rO rS rE rW kT kF kO kW fi en sz bs u sk w n ts fs os) : n0 ≤ rS := O.2.2.2.2.2.2.2.2.2.2.2.2.2.2.2.2.2.2.2.2.2.2.2.1
theorem own_Obj.grE (O : own_Obj Z h n0 a rT rF rO rS rE rW kT kF kO kW fi en sz bs u sk w n ts fs os) : n0 ≤ rE := O.2.2.2.2.2.2.2.2.2.2.2.2.2.2.2.2.2.2.2.2.2.2.2.2.1
theorem own_Obj.grW (O : own_Obj Z h n0 a rT rF rO rS rE rW kT kF kO kW fi en sz bs u sk w n ts fs os) : n0 ≤ rW := O.2.2.2.2.2.2.2.2.2.2.2.2.2.2.2.2.2.2.2.2.2.2.2.2.2.1
theorem own_Obj.n_a_rT (O : own_Obj Z h n0 a rT rF rO rS rE rW kT kF kO kW fi en sz bs u sk w n ts fs os) : a ≠ rT := O.2.2.2.2.2.2.2.2.2.2.2.2.2.2.2.2.2.2.2.2.2.2.2.2.2.2.1
theorem own_Obj.n_a_rF (O : own_Obj Z h n0 a rT rF rO rS rE rW kT kF kO kW fi en sz bs u sk w n ts fs os) : a ≠ rF := O.2.2.2.2.2.2.2.2.2.2.2.2.2.2.2.2.2.2.2.2.2.2.2.2.2.2.2.1
theorem own_Obj.n_a_rO (O : own_Obj Z h n0 a rT rF rO rS rE rW kT kF kO kW fi en sz bs u sk w n ts fs os) : a ≠ rO := O.2.2.2.2.2.2.2.2.2.2.2.2.2.2.2.2.2.2.2.2.2.2.2.2.2.2.2.2.1
theorem own_Obj.n_a_rS (O : own_Obj Z h n0 a rT rF rO rS rE rW kT kF kO kW fi en sz bs u sk w n ts fs os) : a ≠ rS := O.2.2.2.2.2.2.2.2.2.2.2.2.2.2.2.2.2.2.2.2.2.2.2.2.2.2.2.2.2.1
theorem own_Obj.n_a_rE (O : own_Obj Z h n0 a rT rF rO rS rE rW kT kF kO kW fi en sz bs u sk w n ts fs os) : a ≠ rE := O.2.2.2.2.2.2.2.2.2.2.2.2.2.2.2.2.2.2.2.2.2.2.2.2.2.2.2.2.2.2.1
theorem own_Obj.n_a_rW (O : own_Obj Z h n0 a rT rF rO rS rE rW kT kF kO kW fi en sz bs u sk w n ts fs os) : a ≠ rW := O.2.2.2.2.2.2.2.2.2.2.2.2.2.2.2.2.2.2.2.2.2.2.2.2.2.2.2.2.2.2.2.1
theorem own_Obj.n_rT_rF (O : own_Obj Z h n0 a rT rF rO rS rE rW kT kF kO kW fi en sz bs u sk w n ts fs os) : rT ≠ rF := O.2.2.2.2.2.2.2.2.2.2.2.2.2.2.2.2.2.2.2.2.2.2.2.2.2.2.2.2.2.2.2.2.1
theorem own_Obj.n_rT_rO (O : own_Obj Z h n0 a rT rF rO rS rE rW kT kF kO kW fi en sz bs u sk w n ts fs os) : rT ≠ rO := O.2.2.2.2.2.2.2.2.2.2.2.2.2.2.2.2.2.2.2.2.2.2.2.2.2.2.2.2.2.2.2.2.2.1
theorem own_Obj.n_rT_rS (O : own_Obj Z h n0 a rT rF rO rS rE rW kT kF kO kW fi en sz bs u sk w n ts fs os) : rT ≠ rS := O.2.2.2.2.2.2.2.2.2.2.2.2.2.2.2.2.2.2.2.2.2.2.2.2.2.2.2.2.2.2.2.2.2.2.1
theorem own_Obj.n_rT_rE (O : own_Obj Z h n0 a rT rF rO rS rE rW kT kF kO kW fi en sz bs u sk w n ts fs os) : rT ≠ rE := O.2.2.2.2.2.2.2.2.2.2.2.2.2.2.2.2.2.2.2.2.2.2.2.2.2.2.2.2.2.2.2.2.2.2.2.1
theorem own_Obj.n_rT_rW (O : own_Obj Z h n0 a rT rF rO rS rE rW kT kF kO kW fi en sz bs u sk w n ts fs os) : rT ≠ rW := O.2.2.2.2.2.2.2.2.2.2.2.2.2.2.2.2.2.2.2.2.2.2.2.2.2.2.2.2.2.2.2.2.2.2.2.2.1
theorem own_Obj.n_rF_rO (O : own_Obj Z h n0 a rT rF rO rS rE rW kT kF kO kW fi en sz bs u sk w n ts fs os) : rF ≠ rO := O.2.2.2.2.2.2.2.2.2.2.2.2.2.2.2.2.2.2.2.2.2.2.2.2.2.2.2.2.2.2.2.2.2.2.2.2.2.1
theorem own_Obj.n_rF_rS (O : own_Obj Z h n0 a rT rF rO rS rE rW kT kF kO kW fi en sz bs u sk w n ts fs os) : rF ≠ rS := O.2.2.2.2.2.2.2.2.2.2.2.2.2.2.2.2.2.2.2.2.2.2.2.2.2.2.2.2.2.2.2.2.2.2.2.2.2.2.1
theorem own_Obj.n_rF_rE (O : own_Obj Z h n0 a rT rF rO rS rE rW kT kF kO kW fi en sz bs u sk w n ts fs os) : rF ≠ rE := O.2.2.2.2.2.2.2.2.2.2.2.2.2.2.2.2.2.2.2.2.2.2.2.2.2.2.2.2.2.2.2.2.2.2.2.2.2.2.2.1
theorem own_Obj.n_rF_rW (O : own_Obj Z h n0 a rT rF rO rS rE rW kT kF kO kW fi en sz bs u sk w n ts fs os) : rF ≠ rW := O.2.2.2.2.2.2.2.2.2.2.2.2.2.2.2.2.2.2.2.2.2.2.2.2.2.2.2.2.2.2.2.2.2.2.2.2.2.2.2.2.1
theorem own_Obj.n_rO_rS (O : own_Obj Z h n0 a rT rF rO rS rE rW kT kF kO kW fi en sz bs u sk w n ts fs os) : rO ≠ rS := O.2.2.2.2.2.2.2.2.2.2.2.2.2.2.2.2.2.2.2.2.2.2.2.2.2.2.2.2.2.2.2.2.2.2.2.2.2.2.2.2.2.1
theorem own_Obj.n_rO_rE (O : own_Obj Z h n0 a rT rF rO rS rE rW kT kF kO kW fi en sz bs u sk w n ts fs os) : rO ≠ rE := O.2.2.2.2.2.2.2.2.2.2.2.2.2.2.2.2.2.2.2.2.2.2.2.2.2.2.2.2.2.2.2.2.2.2.2.2.2.2.2.2.2.2.1
theorem own_Obj.n_rO_rW (O : own_Obj Z h n0 a rT rF rO rS rE rW kT kF kO kW fi en sz bs u sk w n ts fs os) : rO ≠ rW := O.2.2.2.2.2.2.2.2.2.2.2.2.2.2.2.2.2.2.2.2.2.2.2.2.2.2.2.2.2.2.2.2.2.2.2.2.2.2.2.2.2.2.2.1
theorem own_Obj.n_rS_rE (O : own_Obj Z h n0 a rT rF rO rS rE rW kT kF kO kW fi en sz bs u sk w n ts fs os) : rS ≠ rE := O.2.2.2.2.2.2.2.2.2.2.2.2.2.2.2.2.2.2.2.2.2.2.2.2.2.2.2.2.2.2.2.2.2.2.2.2.2.2.2.2.2.2.2.2.1
theorem own_Obj.n_rS_rW (O : own_Obj Z h n0 a rT rF rO rS rE rW kT kF kO kW fi en sz bs u sk w n ts fs os) : rS ≠ rW := O.2.2.2.2.2.2.2.2.2.2.2.2.2.2.2.2.2.2.2.2.2.2.2.2.2.2.2.2.2.2.2.2.2.2.2.2.2.2.2.2.2.2.2.2.2.1
theorem own_Obj.n_rE_rW (O : own_Obj Z h n0 a rT rF rO rS rE rW kT kF kO kW fi en sz bs u sk w n ts fs os) : rE ≠ rW := O.2.2.2.2.2.2.2.2.2.2.2.2.2.2.2.2.2.2.2.2.2.2.2.2.2.2.2.2.2.2.2.2.2.2.2.2.2.2.2.2.2.2.2.2.2.2
theorem own_Obj.hsz (O : own_Obj Z h n0 a rT rF rO rS rE rW kT kF kO kW fi en sz bs u sk w n ts fs os) : n0 ≤ h.size := Nat.le_trans O.ga (Nat.le_of_lt O.Ea.lt)
theorem own_Obj.sp (O : own_Obj Z h n0 a rT rF rO rS rE rW kT kF kO kW fi en sz bs u sk w n ts fs os) (K : Keep h h' [rS]) (S : own_StK Z h h') : own_Obj Z h' n0 a rT rF rO rS rE rW kT kF kO kW fi en sz bs u sk w n ts fs os := ⟨O.Ea.keep K, O.Ftimes.keep K (ninS O.n_a_rS nin0), O.Ffroms.keep K (ninS O.n_a_rS nin0), O.Ftotals.keep K (ninS O.n_a_rS nin0), O.Fspans.keep K (ninS O.n_a_rS nin0), O.Fentries.keep K (ninS O.n_a_rS nin0), O.Fsize.keep K (ninS O.n_a_rS nin0), O.Fend.keep K (ninS O.n_a_rS nin0), O.Ffirst.keep K (ninS O.n_a_rS nin0), O.Fbase.keep K (ninS O.n_a_rS nin0), O.Ee.keep K, O.BwordsInUse.keep K (ninS O.n_rS_rE.symm nin0), O.BsizeIsSticky.keep K (ninS O.n_rS_rE.symm nin0), O.Bwords.keep K (ninS O.n_rS_rE.symm nin0), O.Vt.keep K (ninS O.n_rT_rS nin0), O.Vf.keep K (ninS O.n_rF_rS nin0), O.Vo.keep K (ninS O.n_rO_rS nin0), O.Vw.keep K (ninS O.n_rS_rW.symm nin0), S _ _ _ _ O.St, O.ga, O.grT, O.grF, O.grO, O.grS, O.grE, O.grW, O.n_a_rT, O.n_a_rF, O.n_a_rO, O.n_a_rS, O.n_a_rE, O.n_a_rW, O.n_rT_rF, O.n_rT_rO, O.n_rT_rS, O.n_rT_rE, O.n_rT_rW, O.n_rF_rO, O.n_rF_rS, O.n_rF_rE, O.n_rF_rW, O.n_rO_rS, O.n_rO_rE, O.n_rO_rW, O.n_rS_rE, O.n_rS_rW, O.n_rE_rW⟩
theorem own_Obj.wsp {sl : Nat} {v : Value} (O : own_Obj Z h n0 a rT rF rO rS rE rW kT kF kO kW fi en sz bs u sk w n ts fs os) (W : Wr h h' rS sl v) : own_Obj Z h' n0 a rT rF rO rS rE rW kT kF kO kW fi en sz bs u sk w n ts fs os := ⟨O.Ea.wr W, O.Ftimes.other W (Or.inl O.n_a_rS), O.Ffroms.other W (Or.inl O.n_a_rS), O.Ftotals.other W (Or.inl O.n_a_rS), O.Fspans.other W (Or.inl O.n_a_rS), O.Fentries.other W (Or.inl O.n_a_rS), O.Fsize.other W (Or.inl O.n_a_rS), O.Fend.other W (Or.inl O.n_a_rS), O.Ffirst.other W (Or.inl O.n_a_rS), O.Fbase.other W (Or.inl O.n_a_rS), O.Ee.wr W, O.BwordsInUse.other W (Or.inl O.n_rS_rE.symm), O.BsizeIsSticky.other W (Or.inl O.n_rS_rE.symm), O.Bwords.other W (Or.inl O.n_rS_rE.symm), O.Vt.other W O.n_rT_rS, O.Vf.other W O.n_rF_rS, O.Vo.other W O.n_rO_rS, O.Vw.other W O.n_rS_rW.symm, O.St.wr W, O.ga, O.grT, O.grF, O.grO, O.grS, O.grE, O.grW, O.n_a_rT, O.n_a_rF, O.n_a_rO, O.n_a_rS, O.n_a_rE, O.n_a_rW, O.n_rT_rF, O.n_rT_rO, O.n_rT_rS, O.n_rT_rE, O.n_rT_rW, O.n_rF_rO, O.n_rF_rS, O.n_rF_rE, O.n_rF_rW, O.n_rO_rS, O.n_rO_rE, O.n_rO_rW, O.n_rS_rE, O.n_rS_rW, O.n_rE_rW⟩
theorem own_Obj.bits (O : own_Obj Z h n0 a rT rF rO rS rE rW kT kF kO kW fi en sz bs u sk w n ts fs os) (K : Keep h h' [rE, rW]) (S : own_StK Z h h') (Ee : Exa Z h' rE oB) (BwordsInUse : Fld Z h' rE oB "wordsInUse" "I" (.int u')) (BsizeIsSticky : Fld Z h' rE oB "sizeIsSticky" "Z" (.int sk')) (Bwords : Fld Z h' rE oB "words" "[J" (.ref rW)) (Vw : Arv Z h' rW kW .long (1 : Int32) [(.long w')] oZ) : own_Obj Z h' n0 a rT rF rO rS rE rW kT kF kO kW fi en sz bs u' sk' w' n ts fs os := ⟨O.Ea.keep K, O.Ftimes.keep K (ninS O.n_a_rE (ninS O.n_a_rW nin0)), O.Ffroms.keep K (ninS O.n_a_rE (ninS O.n_a_rW nin0)), O.Ftotals.keep K (ninS O.n_a_rE (ninS O.n_a_rW nin0)), O.Fspans.keep K (ninS O.n_a_rE (ninS O.n_a_rW nin0)), O.Fentries.keep K (ninS O.n_a_rE (ninS O.n_a_rW nin0)), O.Fsize.keep K (ninS O.n_a_rE (ninS O.n_a_rW nin0)), O.Fend.keep K (ninS O.n_a_rE (ninS O.n_a_rW nin0)), O.Ffirst.keep K (ninS O.n_a_rE (ninS O.n_a_rW nin0)), O.Fbase.keep K (ninS O.n_a_rE (ninS O.n_a_rW nin0)), Ee, BwordsInUse, BsizeIsSticky, Bwords, O.Vt.keep K (ninS O.n_rT_rE (ninS O.n_rT_rW nin0)), O.Vf.keep K (ninS O.n_rF_rE (ninS O.n_rF_rW nin0)), O.Vo.keep K (ninS O.n_rO_rE (ninS O.n_rO_rW nin0)), Vw, S _ _ _ _ O.St, O.ga, O.grT, O.grF, O.grO, O.grS, O.grE, O.grW, O.n_a_rT, O.n_a_rF, O.n_a_rO, O.n_a_rS, O.n_a_rE, O.n_a_rW, O.n_rT_rF, O.n_rT_rO, O.n_rT_rS, O.n_rT_rE, O.n_rT_rW, O.n_rF_rO, O.n_rF_rS, O.n_rF_rE, O.n_rF_rW, O.n_rO_rS, O.n_rO_rE, O.n_rO_rW, O.n_rS_rE, O.n_rS_rW, O.n_rE_rW⟩
theorem own_Obj.bits2 (O : own_Obj Z h n0 a rT rF rO rS rE rW kT kF kO kW fi en sz bs u sk w n ts fs os) (K : Keep h h' [rW, rE]) (S : own_StK Z h h') (Ee : Exa Z h' rE oB) (BwordsInUse : Fld Z h' rE oB "wordsInUse" "I" (.int u')) (BsizeIsSticky : Fld Z h' rE oB "sizeIsSticky" "Z" (.int sk')) (Bwords : Fld Z h' rE oB "words" "[J" (.ref rW)) (Vw : Arv Z h' rW kW .long (1 : Int32) [(.long w')] oZ) : own_Obj Z h' n0 a rT rF rO rS rE rW kT kF kO kW fi en sz bs u' sk' w' n ts fs os := ⟨O.Ea.keep K, O.Ftimes.keep K (ninS O.n_a_rW (ninS O.n_a_rE nin0)), O.Ffroms.keep K (ninS O.n_a_rW (ninS O.n_a_rE nin0)), O.Ftotals.keep K (ninS O.n_a_rW (ninS O.n_a_rE nin0)), O.Fspans.keep K (ninS O.n_a_rW (ninS O.n_a_rE nin0)), O.Fentries.keep K (ninS O.n_a_rW (ninS O.n_a_rE nin0)), O.Fsize.keep K (ninS O.n_a_rW (ninS O.n_a_rE nin0)), O.Fend.keep K (ninS O.n_a_rW (ninS O.n_a_rE nin0)), O.Ffirst.keep K (ninS O.n_a_rW (ninS O.n_a_rE nin0)), O.Fbase.keep K (ninS O.n_a_rW (ninS O.n_a_rE nin0)), Ee, BwordsInUse, BsizeIsSticky, Bwords, O.Vt.keep K (ninS O.n_rT_rW (ninS O.n_rT_rE nin0)), O.Vf.keep K (ninS O.n_rF_rW (ninS O.n_rF_rE nin0)), O.Vo.keep K (ninS O.n_rO_rW (ninS O.n_rO_rE nin0)), Vw, S _ _ _ _ O.St, O.ga, O.grT, O.grF, O.grO, O.grS, O.grE, O.grW, O.n_a_rT, O.n_a_rF, O.n_a_rO, O.n_a_rS, O.n_a_rE, O.n_a_rW, O.n_rT_rF, O.n_rT_rO, O.n_rT_rS, O.n_rT_rE, O.n_rT_rW, O.n_rF_rO, O.n_rF_rS, O.n_rF_rE, O.n_rF_rW, O.n_rO_rS, O.n_rO_rE, O.n_rO_rW, O.n_rS_rE, O.n_rS_rW, O.n_rE_rW⟩
theorem own_Obj.bit1 (O : own_Obj Z h n0 a rT rF rO rS rE rW kT kF kO kW fi en sz bs u sk w n ts fs os) (K : Keep h h' [rW]) (S : own_StK Z h h') (Vw : Arv Z h' rW kW .long (1 : Int32) [(.long w')] oZ) : own_Obj Z h' n0 a rT rF rO rS rE rW kT kF kO kW fi en sz bs u sk w' n ts fs os := ⟨O.Ea.keep K, O.Ftimes.keep K (ninS O.n_a_rW nin0), O.Ffroms.keep K (ninS O.n_a_rW nin0), O.Ftotals.keep K (ninS O.n_a_rW nin0), O.Fspans.keep K (ninS O.n_a_rW nin0), O.Fentries.keep K (ninS O.n_a_rW nin0), O.Fsize.keep K (ninS O.n_a_rW nin0), O.Fend.keep K (ninS O.n_a_rW nin0), O.Ffirst.keep K (ninS O.n_a_rW nin0), O.Fbase.keep K (ninS O.n_a_rW nin0), O.Ee.keep K, O.BwordsInUse.keep K (ninS O.n_rE_rW nin0), O.BsizeIsSticky.keep K (ninS O.n_rE_rW nin0), O.Bwords.keep K (ninS O.n_rE_rW nin0), O.Vt.keep K (ninS O.n_rT_rW nin0), O.Vf.keep K (ninS O.n_rF_rW nin0), O.Vo.keep K (ninS O.n_rO_rW nin0), Vw, S _ _ _ _ O.St, O.ga, O.grT, O.grF, O.grO, O.grS, O.grE, O.grW, O.n_a_rT, O.n_a_rF, O.n_a_rO, O.n_a_rS, O.n_a_rE, O.n_a_rW, O.n_rT_rF, O.n_rT_rO, O.n_rT_rS, O.n_rT_rE, O.n_rT_rW, O.n_rF_rO, O.n_rF_rS, O.n_rF_rE, O.n_rF_rW, O.n_rO_rS, O.n_rO_rE, O.n_rO_rW, O.n_rS_rE, O.n_rS_rW, O.n_rE_rW⟩
theorem own_Obj.setT {sl : Nat} {v : Value} (O : own_Obj Z h n0 a rT rF rO rS rE rW kT kF kO kW fi en sz bs u sk w n ts fs os) (W : Wr h h' rT sl v) (A : Arv Z h' rT kT .long n ts' oZ) : own_Obj Z h' n0 a rT rF rO rS rE rW kT kF kO kW fi en sz bs u sk w n ts' fs os := ⟨O.Ea.wr W, O.Ftimes.other W (Or.inl O.n_a_rT), O.Ffroms.other W (Or.inl O.n_a_rT), O.Ftotals.other W (Or.inl O.n_a_rT), O.Fspans.other W (Or.inl O.n_a_rT), O.Fentries.other W (Or.inl O.n_a_rT), O.Fsize.other W (Or.inl O.n_a_rT), O.Fend.other W (Or.inl O.n_a_rT), O.Ffirst.other W (Or.inl O.n_a_rT), O.Fbase.other W (Or.inl O.n_a_rT), O.Ee.wr W, O.BwordsInUse.other W (Or.inl O.n_rT_rE.symm), O.BsizeIsSticky.other W (Or.inl O.n_rT_rE.symm), O.Bwords.other W (Or.inl O.n_rT_rE.symm), A, O.Vf.other W O.n_rT_rF.symm, O.Vo.other W O.n_rT_rO.symm, O.Vw.other W O.n_rT_rW.symm, O.St.wr W, O.ga, O.grT, O.grF, O.grO, O.grS, O.grE, O.grW, O.n_a_rT, O.n_a_rF, O.n_a_rO, O.n_a_rS, O.n_a_rE, O.n_a_rW, O.n_rT_rF, O.n_rT_rO, O.n_rT_rS, O.n_rT_rE, O.n_rT_rW, O.n_rF_rO, O.n_rF_rS, O.n_rF_rE, O.n_rF_rW, O.n_rO_rS, O.n_rO_rE, O.n_rO_rW, O.n_rS_rE, O.n_rS_rW, O.n_rE_rW⟩
theorem own_Obj.setF {sl : Nat} {v : Value} (O : own_Obj Z h n0 a rT rF rO rS rE rW kT kF kO kW fi en sz bs u sk w n ts fs os) (W : Wr h h' rF sl v) (A : Arv Z h' rF kF .long n fs' oZ) : own_Obj Z h' n0 a rT rF rO rS rE rW kT kF kO kW fi en sz bs u sk w n ts fs' os := ⟨O.Ea.wr W, O.Ftimes.other W (Or.inl O.n_a_rF), O.Ffroms.other W (Or.inl O.n_a_rF), O.Ftotals.other W (Or.inl O.n_a_rF), O.Fspans.other W (Or.inl O.n_a_rF), O.Fentries.other W (Or.inl O.n_a_rF), O.Fsize.other W (Or.inl O.n_a_rF), O.Fend.other W (Or.inl O.n_a_rF), O.Ffirst.other W (Or.inl O.n_a_rF), O.Fbase.other W (Or.inl O.n_a_rF), O.Ee.wr W, O.BwordsInUse.other W (Or.inl O.n_rF_rE.symm), O.BsizeIsSticky.other W (Or.inl O.n_rF_rE.symm), O.Bwords.other W (Or.inl O.n_rF_rE.symm), O.Vt.other W O.n_rT_rF, A, O.Vo.other W O.n_rF_rO.symm, O.Vw.other W O.n_rF_rW.symm, O.St.wr W, O.ga, O.grT, O.grF, O.grO, O.grS, O.grE, O.grW, O.n_a_rT, O.n_a_rF, O.n_a_rO, O.n_a_rS, O.n_a_rE, O.n_a_rW, O.n_rT_rF, O.n_rT_rO, O.n_rT_rS, O.n_rT_rE, O.n_rT_rW, O.n_rF_rO, O.n_rF_rS, O.n_rF_rE, O.n_rF_rW, O.n_rO_rS, O.n_rO_rE, O.n_rO_rW, O.n_rS_rE, O.n_rS_rW, O.n_rE_rW⟩
theorem own_Obj.setO {sl : Nat} {v : Value} (O : own_Obj Z h n0 a rT rF rO rS rE rW kT kF kO kW fi en sz bs u sk w n ts fs os) (W : Wr h h' rO sl v) (A : Arv Z h' rO kO .long n os' oZ) : own_Obj Z h' n0 a rT rF rO rS rE rW kT kF kO kW fi en sz bs u sk w n ts fs os' := ⟨O.Ea.wr W, O.Ftimes.other W (Or.inl O.n_a_rO), O.Ffroms.other W (Or.inl O.n_a_rO), O.Ftotals.other W (Or.inl O.n_a_rO), O.Fspans.other W (Or.inl O.n_a_rO), O.Fentries.other W (Or.inl O.n_a_rO), O.Fsize.other W (Or.inl O.n_a_rO), O.Fend.other W (Or.inl O.n_a_rO), O.Ffirst.other W (Or.inl O.n_a_rO), O.Fbase.other W (Or.inl O.n_a_rO), O.Ee.wr W, O.BwordsInUse.other W (Or.inl O.n_rO_rE.symm), O.BsizeIsSticky.other W (Or.inl O.n_rO_rE.symm), O.Bwords.other W (Or.inl O.n_rO_rE.symm), O.Vt.other W O.n_rT_rO, O.Vf.other W O.n_rF_rO, A, O.Vw.other W O.n_rO_rW.symm, O.St.wr W, O.ga, O.grT, O.grF, O.grO, O.grS, O.grE, O.grW, O.n_a_rT, O.n_a_rF, O.n_a_rO, O.n_a_rS, O.n_a_rE, O.n_a_rW, O.n_rT_rF, O.n_rT_rO, O.n_rT_rS, O.n_rT_rE, O.n_rT_rW, O.n_rF_rO, O.n_rF_rS, O.n_rF_rE, O.n_rF_rW, O.n_rO_rS, O.n_rO_rE, O.n_rO_rW, O.n_rS_rE, O.n_rS_rW, O.n_rE_rW⟩
theorem own_Obj.put_size {v : Value} {a0 : Array Value} (hw : own_T Z a0) (O : own_Obj Z h n0 a rT rF rO rS rE rW kT kF kO kW fi en sz bs u sk w n ts fs os) (W : Wr h h' a (Jvm.RoadKit.slotOf Z oL "size" "I") v) (F : Fld Z h' a oL "size" "I" (.int sz')) : own_Obj Z h' n0 a rT rF rO rS rE rW kT kF kO kW fi en sz' bs u sk w n ts fs os := ⟨O.Ea.wr W, O.Ftimes.other W (Or.inr (slot_ne (Or.inl (ow18 hw)) (Or.inl (ow54 hw)) (by decide) (t := (.array .long)) (t' := .int) (by decide) (by decide))), O.Ffroms.other W (Or.inr (slot_ne (Or.inl (ow20 hw)) (Or.inl (ow54 hw)) (by decide) (t := (.array .long)) (t' := .int) (by decide) (by decide))), O.Ftotals.other W (Or.inr (slot_ne (Or.inl (ow22 hw)) (Or.inl (ow54 hw)) (by decide) (t := (.array .long)) (t' := .int) (by decide) (by decide))), O.Fspans.other W (Or.inr (slot_ne (Or.inl (ow24 hw)) (Or.inl (ow54 hw)) (by decide) (t := (.array .long)) (t' := .int) (by decide) (by decide))), O.Fentries.other W (Or.inr (slot_ne (Or.inl (ow47 hw)) (Or.inl (ow54 hw)) (by decide) (t := (.object oB)) (t' := .int) (by decide) (by decide))), F, O.Fend.other W (Or.inr (slot_ne (Or.inl (ow56 hw)) (Or.inl (ow54 hw)) (by decide) (t := .int) (t' := .int) (by decide) (by decide))), O.Ffirst.other W (Or.inr (slot_ne (Or.inl (ow75 hw)) (Or.inl (ow54 hw)) (by decide) (t := .int) (t' := .int) (by decide) (by decide))), O.Fbase.other W (Or.inr (slot_ne (Or.inl (ow110 hw)) (Or.inl (ow54 hw)) (by decide) (t := .long) (t' := .int) (by decide) (by decide))), O.Ee.wr W, O.BwordsInUse.other W (Or.inl O.n_a_rE.symm), O.BsizeIsSticky.other W (Or.inl O.n_a_rE.symm), O.Bwords.other W (Or.inl O.n_a_rE.symm), O.Vt.other W O.n_a_rT.symm, O.Vf.other W O.n_a_rF.symm, O.Vo.other W O.n_a_rO.symm, O.Vw.other W O.n_a_rW.symm, O.St.wr W, O.ga, O.grT, O.grF, O.grO, O.grS, O.grE, O.grW, O.n_a_rT, O.n_a_rF, O.n_a_rO, O.n_a_rS, O.n_a_rE, O.n_a_rW, O.n_rT_rF, O.n_rT_rO, O.n_rT_rS, O.n_rT_rE, O.n_rT_rW, O.n_rF_rO, O.n_rF_rS, O.n_rF_rE, O.n_rF_rW, O.n_rO_rS, O.n_rO_rE, O.n_rO_rW, O.n_rS_rE, O.n_rS_rW, O.n_rE_rW⟩
theorem own_Obj.put_end {v : Value} {a0 : Array Value} (hw : own_T Z a0) (O : own_Obj Z h n0 a rT rF rO rS rE rW kT kF kO kW fi en sz bs u sk w n ts fs os) (W : Wr h h' a (Jvm.RoadKit.slotOf Z oL "end" "I") v) (F : Fld Z h' a oL "end" "I" (.int en')) : own_Obj Z h' n0 a rT rF rO rS rE rW kT kF kO kW fi en' sz bs u sk w n ts fs os := ⟨O.Ea.wr W, O.Ftimes.other W (Or.inr (slot_ne (Or.inl (ow18 hw)) (Or.inl (ow56 hw)) (by decide) (t := (.array .long)) (t' := .int) (by decide) (by decide))), O.Ffroms.other W (Or.inr (slot_ne (Or.inl (ow20 hw)) (Or.inl (ow56 hw)) (by decide) (t := (.array .long)) (t' := .int) (by decide) (by decide))), O.Ftotals.other W (Or.inr (slot_ne (Or.inl (ow22 hw)) (Or.inl (ow56 hw)) (by decide) (t := (.array .long)) (t' := .int) (by decide) (by decide))), O.Fspans.other W (Or.inr (slot_ne (Or.inl (ow24 hw)) (Or.inl (ow56 hw)) (by decide) (t := (.array .long)) (t' := .int) (by decide) (by decide))), O.Fentries.other W (Or.inr (slot_ne (Or.inl (ow47 hw)) (Or.inl (ow56 hw)) (by decide) (t := (.object oB)) (t' := .int) (by decide) (by decide))), O.Fsize.other W (Or.inr (slot_ne (Or.inl (ow54 hw)) (Or.inl (ow56 hw)) (by decide) (t := .int) (t' := .int) (by decide) (by decide))), F, O.Ffirst.other W (Or.inr (slot_ne (Or.inl (ow75 hw)) (Or.inl (ow56 hw)) (by decide) (t := .int) (t' := .int) (by decide) (by decide))), O.Fbase.other W (Or.inr (slot_ne (Or.inl (ow110 hw)) (Or.inl (ow56 hw)) (by decide) (t := .long) (t' := .int) (by decide) (by decide))), O.Ee.wr W, O.BwordsInUse.other W (Or.inl O.n_a_rE.symm), O.BsizeIsSticky.other W (Or.inl O.n_a_rE.symm), O.Bwords.other W (Or.inl O.n_a_rE.symm), O.Vt.other W O.n_a_rT.symm, O.Vf.other W O.n_a_rF.symm, O.Vo.other W O.n_a_rO.symm, O.Vw.other W O.n_a_rW.symm, O.St.wr W, O.ga, O.grT, O.grF, O.grO, O.grS, O.grE, O.grW, O.n_a_rT, O.n_a_rF, O.n_a_rO, O.n_a_rS, O.n_a_rE, O.n_a_rW, O.n_rT_rF, O.n_rT_rO, O.n_rT_rS, O.n_rT_rE, O.n_rT_rW, O.n_rF_rO, O.n_rF_rS, O.n_rF_rE, O.n_rF_rW, O.n_rO_rS, O.n_rO_rE, O.n_rO_rW, O.n_rS_rE, O.n_rS_rW, O.n_rE_rW⟩
theorem own_Obj.put_first {v : Value} {a0 : Array Value} (hw : own_T Z a0) (O : own_Obj Z h n0 a rT rF rO rS rE rW kT kF kO kW fi en sz bs u sk w n ts fs os) (W : Wr h h' a (Jvm.RoadKit.slotOf Z oL "first" "I") v) (F : Fld Z h' a oL "first" "I" (.int fi')) : own_Obj Z h' n0 a rT rF rO rS rE rW kT kF kO kW fi' en sz bs u sk w n ts fs os := ⟨O.Ea.wr W, O.Ftimes.other W (Or.inr (slot_ne (Or.inl (ow18 hw)) (Or.inl (ow75 hw)) (by decide) (t := (.array .long)) (t' := .int) (by decide) (by decide))), O.Ffroms.other W (Or.inr (slot_ne (Or.inl (ow20 hw)) (Or.inl (ow75 hw)) (by decide) (t := (.array .long)) (t' := .int) (by decide) (by decide))), O.Ftotals.other W (Or.inr (slot_ne (Or.inl (ow22 hw)) (Or.inl (ow75 hw)) (by decide) (t := (.array .long)) (t' := .int) (by decide) (by decide))), O.Fspans.other W (Or.inr (slot_ne (Or.inl (ow24 hw)) (Or.inl (ow75 hw)) (by decide) (t := (.array .long)) (t' := .int) (by decide) (by decide))), O.Fentries.other W (Or.inr (slot_ne (Or.inl (ow47 hw)) (Or.inl (ow75 hw)) (by decide) (t := (.object oB)) (t' := .int) (by decide) (by decide))), O.Fsize.other W (Or.inr (slot_ne (Or.inl (ow54 hw)) (Or.inl (ow75 hw)) (by decide) (t := .int) (t' := .int) (by decide) (by decide))), O.Fend.other W (Or.inr (slot_ne (Or.inl (ow56 hw)) (Or.inl (ow75 hw)) (by decide) (t := .int) (t' := .int) (by decide) (by decide))), F, O.Fbase.other W (Or.inr (slot_ne (Or.inl (ow110 hw)) (Or.inl (ow75 hw)) (by decide) (t := .long) (t' := .int) (by decide) (by decide))), O.Ee.wr W, O.BwordsInUse.other W (Or.inl O.n_a_rE.symm), O.BsizeIsSticky.other W (Or.inl O.n_a_rE.symm), O.Bwords.other W (Or.inl O.n_a_rE.symm), O.Vt.other W O.n_a_rT.symm, O.Vf.other W O.n_a_rF.symm, O.Vo.other W O.n_a_rO.symm, O.Vw.other W O.n_a_rW.symm, O.St.wr W, O.ga, O.grT, O.grF, O.grO, O.grS, O.grE, O.grW, O.n_a_rT, O.n_a_rF, O.n_a_rO, O.n_a_rS, O.n_a_rE, O.n_a_rW, O.n_rT_rF, O.n_rT_rO, O.n_rT_rS, O.n_rT_rE, O.n_rT_rW, O.n_rF_rO, O.n_rF_rS, O.n_rF_rE, O.n_rF_rW, O.n_rO_rS, O.n_rO_rE, O.n_rO_rW, O.n_rS_rE, O.n_rS_rW, O.n_rE_rW⟩
theorem own_Obj.put_base {v : Value} {a0 : Array Value} (hw : own_T Z a0) (O : own_Obj Z h n0 a rT rF rO rS rE rW kT kF kO kW fi en sz bs u sk w n ts fs os) (W : Wr h h' a (Jvm.RoadKit.slotOf Z oL "base" "J") v) (F : Fld Z h' a oL "base" "J" (.long bs')) : own_Obj Z h' n0 a rT rF rO rS rE rW kT kF kO kW fi en sz bs' u sk w n ts fs os := ⟨O.Ea.wr W, O.Ftimes.other W (Or.inr (slot_ne (Or.inl (ow18 hw)) (Or.inl (ow110 hw)) (by decide) (t := (.array .long)) (t' := .long) (by decide) (by decide))), O.Ffroms.other W (Or.inr (slot_ne (Or.inl (ow20 hw)) (Or.inl (ow110 hw)) (by decide) (t := (.array .long)) (t' := .long) (by decide) (by decide))), O.Ftotals.other W (Or.inr (slot_ne (Or.inl (ow22 hw)) (Or.inl (ow110 hw)) (by decide) (t := (.array .long)) (t' := .long) (by decide) (by decide))), O.Fspans.other W (Or.inr (slot_ne (Or.inl (ow24 hw)) (Or.inl (ow110 hw)) (by decide) (t := (.array .long)) (t' := .long) (by decide) (by decide))), O.Fentries.other W (Or.inr (slot_ne (Or.inl (ow47 hw)) (Or.inl (ow110 hw)) (by decide) (t := (.object oB)) (t' := .long) (by decide) (by decide))), O.Fsize.other W (Or.inr (slot_ne (Or.inl (ow54 hw)) (Or.inl (ow110 hw)) (by decide) (t := .int) (t' := .long) (by decide) (by decide))), O.Fend.other W (Or.inr (slot_ne (Or.inl (ow56 hw)) (Or.inl (ow110 hw)) (by decide) (t := .int) (t' := .long) (by decide) (by decide))), O.Ffirst.other W (Or.inr (slot_ne (Or.inl (ow75 hw)) (Or.inl (ow110 hw)) (by decide) (t := .int) (t' := .long) (by decide) (by decide))), F, O.Ee.wr W, O.BwordsInUse.other W (Or.inl O.n_a_rE.symm), O.BsizeIsSticky.other W (Or.inl O.n_a_rE.symm), O.Bwords.other W (Or.inl O.n_a_rE.symm), O.Vt.other W O.n_a_rT.symm, O.Vf.other W O.n_a_rF.symm, O.Vo.other W O.n_a_rO.symm, O.Vw.other W O.n_a_rW.symm, O.St.wr W, O.ga, O.grT, O.grF, O.grO, O.grS, O.grE, O.grW, O.n_a_rT, O.n_a_rF, O.n_a_rO, O.n_a_rS, O.n_a_rE, O.n_a_rW, O.n_rT_rF, O.n_rT_rO, O.n_rT_rS, O.n_rT_rE, O.n_rT_rW, O.n_rF_rO, O.n_rF_rS, O.n_rF_rE, O.n_rF_rW, O.n_rO_rS, O.n_rO_rE, O.n_rO_rW, O.n_rS_rE, O.n_rS_rW, O.n_rE_rW⟩
end OwnO
def own_near (T x : Int64) : Prop := T.toInt ≤ x.toInt ∧ x.toInt ≤ T.toInt + 262144 ∧ T.toInt ≤ 4611686018427387904 ∧ -4611686018427387904 ≤ T.toInt
theorem own_max : oM.toInt = 9223372036854775807 := by decide
theorem own_nlt {T x y : Int64} (hx : own_near T x) (hy : own_near T y) : (x - y) < oM := by
 obtain ⟨x1, x2, x3, x4⟩ := hx
 obtain ⟨y1, y2, -, -⟩ := hy
 have q := c_lsub x y
 have r := rng64 (x - y)
 have rx := rng64 x
 have ry := rng64 y
 rw [Int64.lt_iff_toInt_lt, own_max]; omega
theorem own_nM {R x : Int64} (h : R = oM) : ¬ R < x := by
 have r := rng64 x
 rw [h, Int64.lt_iff_toInt_lt, own_max]; omega
theorem own_ltM {R L : Int64} (h : L = oM) (hR : R < oM) : R < L := by rw [h]; exact hR
theorem own_m_c (a b : Int64) : (own_m a b).toInt ≤ a.toInt ∧ (own_m a b).toInt ≤ b.toInt ∧ ((own_m a b).toInt = a.toInt ∨ (own_m a b).toInt = b.toInt) := by
 unfold own_m
 by_cases h : b < a
 · rw [if_pos h]; rw [Int64.lt_iff_toInt_lt] at h; omega
 · rw [if_neg h]; rw [Int64.lt_iff_toInt_lt] at h; omega
theorem own_ml {a b : Int64} (h : a < oM) : own_m a b < oM := by
 have q := own_m_c a b
 rw [Int64.lt_iff_toInt_lt] at h ⊢; omega
theorem own_mr {a b : Int64} (h : b < oM) : own_m a b < oM := by
 have q := own_m_c a b
 rw [Int64.lt_iff_toInt_lt] at h ⊢; omega
theorem own_weak {l : Launch} {x : MethodName} {S : Spec} {P : Array Value → State → Prop} {K : Program → Env → List Frame → State → Array Value → Prop} {Q Q' : Array Value → State → Outcome → State → Prop} (h : MetFree l x S P K Q) (q : ∀ a U o U', Q a U o U' → Q' a U o U') : MetFree l x S P K Q' := by
 intro p e a1 a2 a3 s m args below h1 h2 h3 h4
 obtain ⟨n, o, r1, r2, r3, r4⟩ := h p e a1 a2 a3 s m args below h1 h2 h3 h4
 exact ⟨n, o, r1, r2, r3, q _ _ _ _ r4⟩
theorem pd__I_I : parseMethodDescriptor "(I)I" = some ⟨[.int], some .int⟩:=by decide +kernel
theorem d5_0 : decode oc5 0 = .ok (.aload_n 0, 1):=by decide +kernel
theorem d5_1 : decode oc5 1 = .ok (.iload_n 1, 1):=by decide +kernel
theorem d5_2 : decode oc5 2 = .ok (.iconst 1, 1):=by decide +kernel
theorem d5_3 : decode oc5 3 = .ok (.isub, 1):=by decide +kernel
theorem d5_4 : decode oc5 4 = .ok (.invokestatic 52, 3):=by decide +kernel
theorem d5_7 : decode oc5 7 = .ok (.iconst 1, 1):=by decide +kernel
theorem d5_8 : decode oc5 8 = .ok (.iadd, 1):=by decide +kernel
theorem d5_9 : decode oc5 9 = .ok (.newarray .long, 2):=by decide +kernel
theorem d5_11 : decode oc5 11 = .ok (.putfield 11, 3):=by decide +kernel
theorem d5_14 : decode oc5 14 = .ok (.return_, 1):=by decide +kernel
theorem pn_5 : plainName oB = true := by first | (simp [plainName, overriddenIn]; done) | decide +kernel
theorem ef_rm5_1 (m : MethodId) (y0 : Addr) : entryFrame m #[(.ref y0), (.int (64 : Int32))] 2 = mkF m 0 #[oR y0, oI 64] [] := by first | (simp [entryFrame, mkF, argsToLocals, Value.category]; done) | rfl
def Q_rm5_1 (Z : State) (a5_0 : Addr) (h0 : Heap) (n0 : Nat) (v : Option Value) (h : Heap) (L : List Loc) : Prop := ∃ bx5_0 : Addr, ∃ kx5_0 : ClassId, v = none ∧ Fr n0 L ∧ Keep h0 h [a5_0] ∧ own_StK Z h0 h ∧ h0.size ≤ bx5_0 ∧ Exa Z h a5_0 oB ∧ Fld Z h a5_0 oB "wordsInUse" "I" (.int (0 : Int32)) ∧ Fld Z h a5_0 oB "sizeIsSticky" "Z" (.int (0 : Int32)) ∧ Fld Z h a5_0 oB "words" "[J" (.ref bx5_0) ∧ Arv Z h bx5_0 kx5_0 .long (1 : Int32) [oZ] oZ
theorem rm5_1 (l : Launch) (Z : State) (a0 : Array Value) (hw : own_T Z a0) (a5_0 : Addr) (h0 : Heap) (n0 : Nat) (Z0 : n0 ≤ h0.size) (E_a : Exa Z h0 a5_0 oB) (F_wordsInUse : Fld Z h0 a5_0 oB "wordsInUse" "I" (.int (0 : Int32))) (F_sizeIsSticky : Fld Z h0 a5_0 oB "sizeIsSticky" "Z" (.int (0 : Int32))) (F_words : Fld Z h0 a5_0 oB "words" "[J" .null) (g_a5_0 : n0 ≤ a5_0) :
   own_Met l oy5 oc5 2 none ({ frames := 1, cells := 1, slots := 1, locals := 13 } : Room) Z h0 #[(.ref a5_0), (.int (64 : Int32))] (Q_rm5_1 Z a5_0 h0 n0) := by
 refine own_go hw (plainFor_of_name pn_5) (fun m => ef_rm5_1 m a5_0) fun p e s m below meth c T0 C hret X0 e0 => ?_
 have N0 := Fr.nil n0
 refine sA C X0 d5_0 ?_
 refine sI C X0 d5_1 ?_
 refine sC C X0 d5_2 ?_
 refine sS C X0 d5_3 ?_
 refine cS C X0 e0 (fun ws => rm6 l Z a0 C.w ws (63 : Int32) h0 n0 Z0 ) (W := 1) (ow41 C.w) (ow42 C.w) (ow43 C.w) (ow27 C.w) (argsL := [(.int (63 : Int32))]) (lenOf pd__I_I rfl) d5_4 fun v1 T1 lo1 X1 hQ1 => ?_
 obtain ⟨rfl, Nq1, e1⟩ := hQ1
 rw [show ((63 : Int32) >>> ((6 : Int32) &&& 31)) = (0 : Int32) from by decide +kernel]
 refine sC C X1 d5_7 ?_
 refine sP C X1 d5_8 ?_
 refine nP C X1 e1 (n := (1 : Int32)) 1 [oZ] (ow16 C.w) d5_9 fun T3 h3 k3 b3 g3 X3 e3 E3 V_b3 => ?_
 have ne_a5_0_b3 : a5_0 ≠ b3 := Nat.ne_of_lt (Nat.lt_of_lt_of_le E_a.lt (Nat.le_of_eq g3.symm))
 have g_b3 : n0 ≤ b3 := Nat.le_trans Z0 (Nat.le_of_eq g3.symm)
 have sz_b3 : h0.size ≤ b3 := Nat.le_trans (Nat.le_refl _) (Nat.le_of_eq g3.symm)
 have S3 : own_StK Z h0 h3 := (own_StK.refl Z h0).ext E3
 have K3 : Keep h0 h3 [a5_0] := (Keep.refl h0 [a5_0]).ext E3
 have Z3 : n0 ≤ h3.size := Nat.le_trans Z0 K3.1
 have f4 := (E_a.ext E3)
 have f5 := (F_words.ext E3)
 refine pF C X3 e3 (N0.app Nq1) g_a5_0 f5 f4 (ty := (.array .long)) (ow44 C.w) (ow45 C.w) (ow26 C.w) (by decide) d5_11 fun T6 h6 lo6 X6 e6 N6 W6 F6 => ?_
 have S6 : own_StK Z h0 h6 := S3.wr W6
 have K6 : Keep h0 h6 [a5_0] := K3.wr W6 (Or.inl (List.mem_of_getElem? (i := 0) rfl))
 have Z6 : n0 ≤ h6.size := Nat.le_trans Z0 K6.1
 have f7 := (f4.wr W6)
 have f8 := ((F_wordsInUse.ext E3).other W6 (Or.inr (slot_ne (Or.inl (ow33 hw)) (Or.inl (ow45 hw)) (by decide) (t := .int) (t' := (.array .long)) (by decide) (by decide))))
 have f9 := ((F_sizeIsSticky.ext E3).other W6 (Or.inr (slot_ne (Or.inl (ow35 hw)) (Or.inl (ow45 hw)) (by decide) (t := .boolean) (t' := (.array .long)) (by decide) (by decide))))
 have f10 := (V_b3.other W6 (Ne.symm ne_a5_0_b3))
 refine rV C X6 e6 hret d5_14 ?_
 exact ⟨b3, k3, rfl, N6, K6, S6, sz_b3, f7, f8, f9, F6, f10⟩
theorem pd__I_V : parseMethodDescriptor "(I)V" = some ⟨[.int], none⟩:=by decide +kernel
theorem d4_0 : decode oc4 0 = .ok (.aload_n 0, 1):=by decide +kernel
theorem d4_1 : decode oc4 1 = .ok (.invokespecial 21, 3):=by decide +kernel
theorem d4_4 : decode oc4 4 = .ok (.aload_n 0, 1):=by decide +kernel
theorem d4_5 : decode oc4 5 = .ok (.iconst 0, 1):=by decide +kernel
theorem d4_6 : decode oc4 6 = .ok (.putfield 7, 3):=by decide +kernel
theorem d4_9 : decode oc4 9 = .ok (.aload_n 0, 1):=by decide +kernel
theorem d4_10 : decode oc4 10 = .ok (.iconst 0, 1):=by decide +kernel
theorem d4_11 : decode oc4 11 = .ok (.putfield 24, 3):=by decide +kernel
theorem d4_14 : decode oc4 14 = .ok (.aload_n 0, 1):=by decide +kernel
theorem d4_15 : decode oc4 15 = .ok (.bipush 64, 2):=by decide +kernel
theorem d4_17 : decode oc4 17 = .ok (.invokevirtual 27, 3):=by decide +kernel
theorem d4_20 : decode oc4 20 = .ok (.aload_n 0, 1):=by decide +kernel
theorem d4_21 : decode oc4 21 = .ok (.iconst 0, 1):=by decide +kernel
theorem d4_22 : decode oc4 22 = .ok (.putfield 24, 3):=by decide +kernel
theorem d4_25 : decode oc4 25 = .ok (.return_, 1):=by decide +kernel
theorem pn_4 : plainName oB = true := by first | (simp [plainName, overriddenIn]; done) | decide +kernel
theorem ef_rm4_1 (m : MethodId) (y0 : Addr) : entryFrame m #[(.ref y0)] 1 = mkF m 0 #[oR y0] [] := by first | (simp [entryFrame, mkF, argsToLocals, Value.category]; done) | rfl
def Q_rm4_1 (Z : State) (a4_0 : Addr) (h0 : Heap) (n0 : Nat) (v : Option Value) (h : Heap) (L : List Loc) : Prop := ∃ bx4_0 : Addr, ∃ kx4_0 : ClassId, v = none ∧ Fr n0 L ∧ Keep h0 h [a4_0] ∧ own_StK Z h0 h ∧ h0.size ≤ bx4_0 ∧ Exa Z h a4_0 oB ∧ Fld Z h a4_0 oB "wordsInUse" "I" (.int (0 : Int32)) ∧ Fld Z h a4_0 oB "sizeIsSticky" "Z" (.int (0 : Int32)) ∧ Fld Z h a4_0 oB "words" "[J" (.ref bx4_0) ∧ Arv Z h bx4_0 kx4_0 .long (1 : Int32) [oZ] oZ
theorem rm4_1 (l : Launch) (Z : State) (a0 : Array Value) (hw : own_T Z a0) (a4_0 : Addr) (h0 : Heap) (n0 : Nat) (Z0 : n0 ≤ h0.size) (E_a : Exa Z h0 a4_0 oB) (F_wordsInUse : Fld Z h0 a4_0 oB "wordsInUse" "I" (.int (0 : Int32))) (F_sizeIsSticky : Fld Z h0 a4_0 oB "sizeIsSticky" "Z" (.int (0 : Int32))) (F_words : Fld Z h0 a4_0 oB "words" "[J" .null) (g_a4_0 : n0 ≤ a4_0) :
   own_Met l (⟨oB, "<init>", "()V"⟩ : MethodName) oc4 1 none ({ frames := 2, cells := 1, slots := 1, locals := 26 } : Room) Z h0 #[(.ref a4_0)] (Q_rm4_1 Z a4_0 h0 n0) := by
 refine own_go hw (plainFor_of_name pn_4) (fun m => ef_rm4_1 m a4_0) fun p e s m below meth c T0 C hret X0 e0 => ?_
 have N0 := Fr.nil n0
 refine sA C X0 d4_0 ?_
 refine iO C X0 e0 (W := 0) (ow31 C.w) (ow14 C.w) (ow15 C.w) d4_1 fun T1 X1 e1 => ?_
 refine sA C X1 d4_4 ?_
 refine sC C X1 d4_5 ?_
 refine pF C X1 e1 N0 g_a4_0 F_wordsInUse E_a (ty := .int) (ow32 C.w) (ow33 C.w) (ow26 C.w) (by decide) d4_6 fun T2 h2 lo2 X2 e2 N2 W2 F2 => ?_
 have S2 : own_StK Z h0 h2 := (own_StK.refl Z h0).wr W2
 have K2 : Keep h0 h2 [a4_0] := (Keep.refl h0 [a4_0]).wr W2 (Or.inl (List.mem_of_getElem? (i := 0) rfl))
 have Z2 : n0 ≤ h2.size := Nat.le_trans Z0 K2.1
 refine sA C X2 d4_9 ?_
 refine sC C X2 d4_10 ?_
 have f3 := (E_a.wr W2)
 have f4 := (F_sizeIsSticky.other W2 (Or.inr (slot_ne (Or.inl (ow35 hw)) (Or.inl (ow33 hw)) (by decide) (t := .boolean) (t' := .int) (by decide) (by decide))))
 refine pF C X2 e2 N2 g_a4_0 f4 f3 (ty := .boolean) (ow34 C.w) (ow35 C.w) (ow26 C.w) (by decide) d4_11 fun T5 h5 lo5 X5 e5 N5 W5 F5 => ?_
 have S5 : own_StK Z h0 h5 := S2.wr W5
 have K5 : Keep h0 h5 [a4_0] := K2.wr W5 (Or.inl (List.mem_of_getElem? (i := 0) rfl))
 have Z5 : n0 ≤ h5.size := Nat.le_trans Z0 K5.1
 refine sA C X5 d4_14 ?_
 refine sB C X5 d4_15 ?_
 have f6 := (f3.wr W5)
 have f7 := (F2.other W5 (Or.inr (slot_ne (Or.inl (ow33 hw)) (Or.inl (ow35 hw)) (by decide) (t := .int) (t' := .boolean) (by decide) (by decide))))
 have f8 := ((F_words.other W2 (Or.inr (slot_ne (Or.inl (ow45 hw)) (Or.inl (ow33 hw)) (by decide) (t := (.array .long)) (t' := .int) (by decide) (by decide)))).other W5 (Or.inr (slot_ne (Or.inl (ow45 hw)) (Or.inl (ow35 hw)) (by decide) (t := (.array .long)) (t' := .boolean) (by decide) (by decide))))
 refine cP C X5 e5 (rm5_1 l Z a0 C.w a4_0 h5 n0 Z5 f6 f7 F5 f8 g_a4_0) f6 (W := 0) (ow36 C.w) (ow37 C.w) (mvT C.z (ow39 C.w)) (ow38 C.w) (ow40 C.w) (ow27 C.w) (argsL := [(.int (64 : Int32))]) (lenOf pd__I_V rfl) d4_17 fun v9 T9 lo9 X9 hQ9 => ?_
 obtain ⟨bx5_0_9, kx5_0_9, rfl, Nq9, Kc9, Sc9, P9_0, P9_1, P9_2, P9_3, P9_4, P9_5⟩ := hQ9
 have S9 : own_StK Z h0 T9.heap := S5.tr Sc9
 have K9 : Keep h0 T9.heap [a4_0] := Keep.trans K5 Kc9 (allS (P := fun x => x ∈ ([a4_0] : List Addr) ∨ h0.size ≤ x) (Or.inl (List.mem_of_getElem? (i := 0) rfl)) all0)
 have Z9 : n0 ≤ T9.heap.size := Nat.le_trans Z0 K9.1
 have g_bx5_0_9 : n0 ≤ bx5_0_9 := Nat.le_trans Z5 P9_0
 have sz_bx5_0_9 : h0.size ≤ bx5_0_9 := Nat.le_trans K5.1 P9_0
 have ne_a4_0_bx5_0_9 : a4_0 ≠ bx5_0_9 := Nat.ne_of_lt (Nat.lt_of_lt_of_le f6.lt P9_0)
 refine sA C X9 d4_20 ?_
 refine sC C X9 d4_21 ?_
 refine pF C X9 rfl (N5.app Nq9) g_a4_0 P9_3 P9_1 (ty := .boolean) (ow34 C.w) (ow35 C.w) (ow26 C.w) (by decide) d4_22 fun T10 h10 lo10 X10 e10 N10 W10 F10 => ?_
 have S10 : own_StK Z h0 h10 := S9.wr W10
 have K10 : Keep h0 h10 [a4_0] := K9.wr W10 (Or.inl (List.mem_of_getElem? (i := 0) rfl))
 have Z10 : n0 ≤ h10.size := Nat.le_trans Z0 K10.1
 have f11 := (P9_1.wr W10)
 have f12 := (P9_2.other W10 (Or.inr (slot_ne (Or.inl (ow33 hw)) (Or.inl (ow35 hw)) (by decide) (t := .int) (t' := .boolean) (by decide) (by decide))))
 have f13 := (P9_4.other W10 (Or.inr (slot_ne (Or.inl (ow45 hw)) (Or.inl (ow35 hw)) (by decide) (t := (.array .long)) (t' := .boolean) (by decide) (by decide))))
 have f14 := (P9_5.other W10 (Ne.symm ne_a4_0_bx5_0_9))
 refine rV C X10 e10 hret d4_25 ?_
 exact ⟨bx5_0_9, kx5_0_9, rfl, N10, K10, S10, sz_bx5_0_9, f11, f12, F10, f13, f14⟩
theorem pd___V : parseMethodDescriptor "()V" = some ⟨[], none⟩:=by decide +kernel
def own_S_0_0_0_0_0 (Z : State) (h : Heap) (n0 : Nat) (a : Addr) (T t : Int64) : Prop := ∃ rT : Addr, ∃ rF : Addr, ∃ rO : Addr, ∃ rS : Addr, ∃ rE : Addr, ∃ rW : Addr, ∃ kT : ClassId, ∃ kF : ClassId, ∃ kO : ClassId, ∃ kW : ClassId, ∃ bs : Int64, own_Obj Z h n0 a rT rF rO rS rE rW kT kF kO kW (0 : Int32) (0 : Int32) (0 : Int32) bs (0 : Int32) (0 : Int32) (0 : Int64) (0 : Int32) [] [] [] ∧ own_Sp0 Z h rS
theorem d2_0 : decode oc2 0 = .ok (.aload_n 0, 1):=by decide +kernel
theorem d2_1 : decode oc2 1 = .ok (.invokespecial 3, 3):=by decide +kernel
theorem d2_4 : decode oc2 4 = .ok (.aload_n 0, 1):=by decide +kernel
theorem d2_5 : decode oc2 5 = .ok (.iconst 0, 1):=by decide +kernel
theorem d2_6 : decode oc2 6 = .ok (.newarray .long, 2):=by decide +kernel
theorem d2_8 : decode oc2 8 = .ok (.putfield 9, 3):=by decide +kernel
theorem d2_11 : decode oc2 11 = .ok (.aload_n 0, 1):=by decide +kernel
theorem d2_12 : decode oc2 12 = .ok (.iconst 0, 1):=by decide +kernel
theorem d2_13 : decode oc2 13 = .ok (.newarray .long, 2):=by decide +kernel
theorem d2_15 : decode oc2 15 = .ok (.putfield 15, 3):=by decide +kernel
theorem d2_18 : decode oc2 18 = .ok (.aload_n 0, 1):=by decide +kernel
theorem d2_19 : decode oc2 19 = .ok (.iconst 0, 1):=by decide +kernel
theorem d2_20 : decode oc2 20 = .ok (.newarray .long, 2):=by decide +kernel
theorem d2_22 : decode oc2 22 = .ok (.putfield 18, 3):=by decide +kernel
theorem d2_25 : decode oc2 25 = .ok (.aload_n 0, 1):=by decide +kernel
theorem d2_26 : decode oc2 26 = .ok (.iconst 0, 1):=by decide +kernel
theorem d2_27 : decode oc2 27 = .ok (.newarray .long, 2):=by decide +kernel
theorem d2_29 : decode oc2 29 = .ok (.putfield 21, 3):=by decide +kernel
theorem d2_32 : decode oc2 32 = .ok (.aload_n 0, 1):=by decide +kernel
theorem d2_33 : decode oc2 33 = .ok (.new 24, 3):=by decide +kernel
theorem d2_36 : decode oc2 36 = .ok (.dup, 1):=by decide +kernel
theorem d2_37 : decode oc2 37 = .ok (.invokespecial 26, 3):=by decide +kernel
theorem d2_40 : decode oc2 40 = .ok (.putfield 27, 3):=by decide +kernel
theorem d2_43 : decode oc2 43 = .ok (.return_, 1):=by decide +kernel
theorem pn_2 : plainName oL = true := by first | (simp [plainName, overriddenIn]; done) | decide +kernel
theorem ef_rm2 (m : MethodId) (y0 : Addr) : entryFrame m #[(.ref y0)] 1 = mkF m 0 #[oR y0] [] := by first | (simp [entryFrame, mkF, argsToLocals, Value.category]; done) | rfl
def Q_rm2 (Z : State) (a2_0 : Addr) (h0 : Heap) (n0 : Nat) (v : Option Value) (h : Heap) (L : List Loc) : Prop := v = none ∧ Fr n0 L ∧ ∀ T t : Int64, own_S_0_0_0_0_0 Z h n0 a2_0 T t
theorem rm2 (l : Launch) (Z : State) (a0 : Array Value) (hw : own_T Z a0) (a2_0 : Addr) (h0 : Heap) (n0 : Nat) (Z0 : n0 ≤ h0.size) (E_a : Exa Z h0 a2_0 oL) (F_times : Fld Z h0 a2_0 oL "times" "[J" .null) (F_froms : Fld Z h0 a2_0 oL "froms" "[J" .null) (F_totals : Fld Z h0 a2_0 oL "totals" "[J" .null) (F_spans : Fld Z h0 a2_0 oL "spans" "[J" .null) (F_entries : Fld Z h0 a2_0 oL "entries" "Ljava/util/BitSet;" .null) (F_size : Fld Z h0 a2_0 oL "size" "I" (.int (0 : Int32))) (F_end : Fld Z h0 a2_0 oL "end" "I" (.int (0 : Int32))) (F_first : Fld Z h0 a2_0 oL "first" "I" (.int (0 : Int32))) (F_base : Fld Z h0 a2_0 oL "base" "J" oZ) (ga : n0 ≤ a2_0) (Sta0 : Sta Z h0 oB "$assertionsDisabled" "Z" (.int (1 : Int32))) :
   own_Met l (⟨oL, "<init>", "()V"⟩ : MethodName) oc2 1 none ({ frames := 3, cells := 6, slots := 4, locals := 40 } : Room) Z h0 #[(.ref a2_0)] (Q_rm2 Z a2_0 h0 n0) := by
 refine own_go hw (plainFor_of_name pn_2) (fun m => ef_rm2 m a2_0) fun p e s m below meth c T0 C hret X0 e0 => ?_
 have N0 := Fr.nil n0
 refine sA C X0 d2_0 ?_
 refine iO C X0 e0 (W := 0) (ow13 C.w) (ow14 C.w) (ow15 C.w) d2_1 fun T1 X1 e1 => ?_
 refine sA C X1 d2_4 ?_
 refine sC C X1 d2_5 ?_
 refine nP C X1 e1 (n := (0 : Int32)) 0 [] (ow16 C.w) d2_6 fun T2 h2 k2 b2 g2 X2 e2 E2 V_b2 => ?_
 have ne_a2_0_b2 : a2_0 ≠ b2 := Nat.ne_of_lt (Nat.lt_of_lt_of_le E_a.lt (Nat.le_of_eq g2.symm))
 have g_b2 : n0 ≤ b2 := Nat.le_trans Z0 (Nat.le_of_eq g2.symm)
 have S2 : own_StK Z h0 h2 := (own_StK.refl Z h0).ext E2
 have Y2 : h0.size ≤ h2.size := Nat.le_trans (Nat.le_refl _) E2.1
 have f3 := (E_a.ext E2)
 have f4 := (F_times.ext E2)
 refine pF C X2 e2 N0 ga f4 f3 (ty := (.array .long)) (ow17 C.w) (ow18 C.w) (ow8 C.w) (by decide) d2_8 fun T5 h5 lo5 X5 e5 N5 W5 F5 => ?_
 have S5 : own_StK Z h0 h5 := S2.wr W5
 have Y5 : h0.size ≤ h5.size := Nat.le_trans Y2 (Nat.le_of_eq W5.size.symm)
 refine sA C X5 d2_11 ?_
 refine sC C X5 d2_12 ?_
 have f6 := (f3.wr W5)
 have f7 := (V_b2.other W5 (Ne.symm ne_a2_0_b2))
 refine nP C X5 e5 (n := (0 : Int32)) 0 [] (ow16 C.w) d2_13 fun T8 h8 k8 b8 g8 X8 e8 E8 V_b8 => ?_
 have ne_a2_0_b8 : a2_0 ≠ b8 := Nat.ne_of_lt (Nat.lt_of_lt_of_le f6.lt (Nat.le_of_eq g8.symm))
 have ne_b2_b8 : b2 ≠ b8 := Nat.ne_of_lt (Nat.lt_of_lt_of_le f7.lt (Nat.le_of_eq g8.symm))
 have g_b8 : n0 ≤ b8 := Nat.le_trans (Nat.le_trans Z0 Y5) (Nat.le_of_eq g8.symm)
 have S8 : own_StK Z h0 h8 := S5.ext E8
 have Y8 : h0.size ≤ h8.size := Nat.le_trans Y5 E8.1
 have f9 := (f6.ext E8)
 have f10 := (((F_froms.ext E2).other W5 (Or.inr (slot_ne (Or.inl (ow20 hw)) (Or.inl (ow18 hw)) (by decide) (t := (.array .long)) (t' := (.array .long)) (by decide) (by decide)))).ext E8)
 refine pF C X8 e8 N5 ga f10 f9 (ty := (.array .long)) (ow19 C.w) (ow20 C.w) (ow8 C.w) (by decide) d2_15 fun T11 h11 lo11 X11 e11 N11 W11 F11 => ?_
 have S11 : own_StK Z h0 h11 := S8.wr W11
 have Y11 : h0.size ≤ h11.size := Nat.le_trans Y8 (Nat.le_of_eq W11.size.symm)
 refine sA C X11 d2_18 ?_
 refine sC C X11 d2_19 ?_
 have f12 := (f9.wr W11)
 have f13 := ((f7.ext E8).other W11 (Ne.symm ne_a2_0_b2))
 have f14 := (V_b8.other W11 (Ne.symm ne_a2_0_b8))
 refine nP C X11 e11 (n := (0 : Int32)) 0 [] (ow16 C.w) d2_20 fun T15 h15 k15 b15 g15 X15 e15 E15 V_b15 => ?_
 have ne_a2_0_b15 : a2_0 ≠ b15 := Nat.ne_of_lt (Nat.lt_of_lt_of_le f12.lt (Nat.le_of_eq g15.symm))
 have ne_b2_b15 : b2 ≠ b15 := Nat.ne_of_lt (Nat.lt_of_lt_of_le f13.lt (Nat.le_of_eq g15.symm))
 have ne_b8_b15 : b8 ≠ b15 := Nat.ne_of_lt (Nat.lt_of_lt_of_le f14.lt (Nat.le_of_eq g15.symm))
 have g_b15 : n0 ≤ b15 := Nat.le_trans (Nat.le_trans Z0 Y11) (Nat.le_of_eq g15.symm)
 have S15 : own_StK Z h0 h15 := S11.ext E15
 have Y15 : h0.size ≤ h15.size := Nat.le_trans Y11 E15.1
 have f16 := (f12.ext E15)
 have f17 := (((((F_totals.ext E2).other W5 (Or.inr (slot_ne (Or.inl (ow22 hw)) (Or.inl (ow18 hw)) (by decide) (t := (.array .long)) (t' := (.array .long)) (by decide) (by decide)))).ext E8).other W11 (Or.inr (slot_ne (Or.inl (ow22 hw)) (Or.inl (ow20 hw)) (by decide) (t := (.array .long)) (t' := (.array .long)) (by decide) (by decide)))).ext E15)
 refine pF C X15 e15 N11 ga f17 f16 (ty := (.array .long)) (ow21 C.w) (ow22 C.w) (ow8 C.w) (by decide) d2_22 fun T18 h18 lo18 X18 e18 N18 W18 F18 => ?_
 have S18 : own_StK Z h0 h18 := S15.wr W18
 have Y18 : h0.size ≤ h18.size := Nat.le_trans Y15 (Nat.le_of_eq W18.size.symm)
 refine sA C X18 d2_25 ?_
 refine sC C X18 d2_26 ?_
 have f19 := (f16.wr W18)
 have f20 := ((f13.ext E15).other W18 (Ne.symm ne_a2_0_b2))
 have f21 := ((f14.ext E15).other W18 (Ne.symm ne_a2_0_b8))
 have f22 := (V_b15.other W18 (Ne.symm ne_a2_0_b15))
 refine nP C X18 e18 (n := (0 : Int32)) 0 [] (ow16 C.w) d2_27 fun T23 h23 k23 b23 g23 X23 e23 E23 V_b23 => ?_
 have ne_a2_0_b23 : a2_0 ≠ b23 := Nat.ne_of_lt (Nat.lt_of_lt_of_le f19.lt (Nat.le_of_eq g23.symm))
 have ne_b2_b23 : b2 ≠ b23 := Nat.ne_of_lt (Nat.lt_of_lt_of_le f20.lt (Nat.le_of_eq g23.symm))
 have ne_b8_b23 : b8 ≠ b23 := Nat.ne_of_lt (Nat.lt_of_lt_of_le f21.lt (Nat.le_of_eq g23.symm))
 have ne_b15_b23 : b15 ≠ b23 := Nat.ne_of_lt (Nat.lt_of_lt_of_le f22.lt (Nat.le_of_eq g23.symm))
 have g_b23 : n0 ≤ b23 := Nat.le_trans (Nat.le_trans Z0 Y18) (Nat.le_of_eq g23.symm)
 have S23 : own_StK Z h0 h23 := S18.ext E23
 have Y23 : h0.size ≤ h23.size := Nat.le_trans Y18 E23.1
 have f24 := (f19.ext E23)
 have f25 := (((((((F_spans.ext E2).other W5 (Or.inr (slot_ne (Or.inl (ow24 hw)) (Or.inl (ow18 hw)) (by decide) (t := (.array .long)) (t' := (.array .long)) (by decide) (by decide)))).ext E8).other W11 (Or.inr (slot_ne (Or.inl (ow24 hw)) (Or.inl (ow20 hw)) (by decide) (t := (.array .long)) (t' := (.array .long)) (by decide) (by decide)))).ext E15).other W18 (Or.inr (slot_ne (Or.inl (ow24 hw)) (Or.inl (ow22 hw)) (by decide) (t := (.array .long)) (t' := (.array .long)) (by decide) (by decide)))).ext E23)
 refine pF C X23 e23 N18 ga f25 f24 (ty := (.array .long)) (ow23 C.w) (ow24 C.w) (ow8 C.w) (by decide) d2_29 fun T26 h26 lo26 X26 e26 N26 W26 F26 => ?_
 have S26 : own_StK Z h0 h26 := S23.wr W26
 have Y26 : h0.size ≤ h26.size := Nat.le_trans Y23 (Nat.le_of_eq W26.size.symm)
 refine sA C X26 d2_32 ?_
 have f27 := (f24.wr W26)
 have f28 := ((f20.ext E23).other W26 (Ne.symm ne_a2_0_b2))
 have f29 := ((f21.ext E23).other W26 (Ne.symm ne_a2_0_b8))
 have f30 := ((f22.ext E23).other W26 (Ne.symm ne_a2_0_b15))
 have f31 := (V_b23.other W26 (Ne.symm ne_a2_0_b23))
 refine nO C X26 e26 (ow25 C.w) (ow26 C.w) (ow27 C.w) d2_33 fun T32 h32 b32 g32 X32 e32 E32 A32 D32 => ?_
 have ne_a2_0_b32 : a2_0 ≠ b32 := Nat.ne_of_lt (Nat.lt_of_lt_of_le f27.lt (Nat.le_of_eq g32.symm))
 have ne_b2_b32 : b2 ≠ b32 := Nat.ne_of_lt (Nat.lt_of_lt_of_le f28.lt (Nat.le_of_eq g32.symm))
 have ne_b8_b32 : b8 ≠ b32 := Nat.ne_of_lt (Nat.lt_of_lt_of_le f29.lt (Nat.le_of_eq g32.symm))
 have ne_b15_b32 : b15 ≠ b32 := Nat.ne_of_lt (Nat.lt_of_lt_of_le f30.lt (Nat.le_of_eq g32.symm))
 have ne_b23_b32 : b23 ≠ b32 := Nat.ne_of_lt (Nat.lt_of_lt_of_le f31.lt (Nat.le_of_eq g32.symm))
 have F_wordsInUse_b32 : Fld Z h32 b32 oB "wordsInUse" "I" (.int (0 : Int32)) := D32 (Or.inl (ow33 hw)) (ty := .int) (by decide)
 have F_sizeIsSticky_b32 : Fld Z h32 b32 oB "sizeIsSticky" "Z" (.int (0 : Int32)) := D32 (Or.inl (ow35 hw)) (ty := .boolean) (by decide)
 have F_words_b32 : Fld Z h32 b32 oB "words" "[J" .null := D32 (Or.inl (ow45 hw)) (ty := (.array .long)) (by decide)
 have g_b32 : n0 ≤ b32 := Nat.le_trans (Nat.le_trans Z0 Y26) (Nat.le_of_eq g32.symm)
 have S32 : own_StK Z h0 h32 := S26.ext E32
 have Y32 : h0.size ≤ h32.size := Nat.le_trans Y26 E32.1
 refine sD C X32 d2_36 ?_
 have f34 := (f27.ext E32)
 have f35 := (f28.ext E32)
 have f36 := (f29.ext E32)
 have f37 := (f30.ext E32)
 have f38 := (f31.ext E32)
 refine cI C X32 e32 (rm4_1 l Z a0 C.w b32 h32 n0 (Nat.le_trans Z0 Y32) A32 F_wordsInUse_b32 F_sizeIsSticky_b32 F_words_b32 g_b32) (W := 2) (ow28 C.w) (ow29 C.w) (ow30 C.w) (ow27 C.w) (argsL := []) (lenOf pd___V rfl) d2_37 fun v33 T33 lo33 X33 hQ33 => ?_
 obtain ⟨bx4_0_33, kx4_0_33, rfl, Nq33, Kc33, Sc33, P33_0, P33_1, P33_2, P33_3, P33_4, P33_5⟩ := hQ33
 have S33 : own_StK Z h0 T33.heap := S32.tr Sc33
 have Y33 : h0.size ≤ T33.heap.size := Nat.le_trans Y32 Kc33.1
 have g_bx4_0_33 : n0 ≤ bx4_0_33 := Nat.le_trans (Nat.le_trans Z0 Y32) P33_0
 have ne_a2_0_bx4_0_33 : a2_0 ≠ bx4_0_33 := Nat.ne_of_lt (Nat.lt_of_lt_of_le f34.lt P33_0)
 have ne_b2_bx4_0_33 : b2 ≠ bx4_0_33 := Nat.ne_of_lt (Nat.lt_of_lt_of_le f35.lt P33_0)
 have ne_b8_bx4_0_33 : b8 ≠ bx4_0_33 := Nat.ne_of_lt (Nat.lt_of_lt_of_le f36.lt P33_0)
 have ne_b15_bx4_0_33 : b15 ≠ bx4_0_33 := Nat.ne_of_lt (Nat.lt_of_lt_of_le f37.lt P33_0)
 have ne_b23_bx4_0_33 : b23 ≠ bx4_0_33 := Nat.ne_of_lt (Nat.lt_of_lt_of_le f38.lt P33_0)
 have ne_b32_bx4_0_33 : b32 ≠ bx4_0_33 := Nat.ne_of_lt (Nat.lt_of_lt_of_le A32.lt P33_0)
 have f39 := (f34.keep Kc33)
 have f40 := ((((((((((F_entries.ext E2).other W5 (Or.inr (slot_ne (Or.inl (ow47 hw)) (Or.inl (ow18 hw)) (by decide) (t := (.object oB)) (t' := (.array .long)) (by decide) (by decide)))).ext E8).other W11 (Or.inr (slot_ne (Or.inl (ow47 hw)) (Or.inl (ow20 hw)) (by decide) (t := (.object oB)) (t' := (.array .long)) (by decide) (by decide)))).ext E15).other W18 (Or.inr (slot_ne (Or.inl (ow47 hw)) (Or.inl (ow22 hw)) (by decide) (t := (.object oB)) (t' := (.array .long)) (by decide) (by decide)))).ext E23).other W26 (Or.inr (slot_ne (Or.inl (ow47 hw)) (Or.inl (ow24 hw)) (by decide) (t := (.object oB)) (t' := (.array .long)) (by decide) (by decide)))).ext E32).keep Kc33 (ninS ne_a2_0_b32 nin0))
 refine pF C X33 rfl (N26.app Nq33) ga f40 f39 (ty := (.object oB)) (ow46 C.w) (ow47 C.w) (ow8 C.w) (by decide) d2_40 fun T41 h41 lo41 X41 e41 N41 W41 F41 => ?_
 have S41 : own_StK Z h0 h41 := S33.wr W41
 have Y41 : h0.size ≤ h41.size := Nat.le_trans Y33 (Nat.le_of_eq W41.size.symm)
 have f42 := ((f38.keep Kc33 (ninS ne_b23_b32 nin0)).other W41 (Ne.symm ne_a2_0_b23))
 have f43 := (f39.wr W41)
 have f44 := (((((((((F5.ext E8).other W11 (Or.inr (slot_ne (Or.inl (ow18 hw)) (Or.inl (ow20 hw)) (by decide) (t := (.array .long)) (t' := (.array .long)) (by decide) (by decide)))).ext E15).other W18 (Or.inr (slot_ne (Or.inl (ow18 hw)) (Or.inl (ow22 hw)) (by decide) (t := (.array .long)) (t' := (.array .long)) (by decide) (by decide)))).ext E23).other W26 (Or.inr (slot_ne (Or.inl (ow18 hw)) (Or.inl (ow24 hw)) (by decide) (t := (.array .long)) (t' := (.array .long)) (by decide) (by decide)))).ext E32).keep Kc33 (ninS ne_a2_0_b32 nin0)).other W41 (Or.inr (slot_ne (Or.inl (ow18 hw)) (Or.inl (ow47 hw)) (by decide) (t := (.array .long)) (t' := (.object oB)) (by decide) (by decide))))
 have f45 := (((((((F11.ext E15).other W18 (Or.inr (slot_ne (Or.inl (ow20 hw)) (Or.inl (ow22 hw)) (by decide) (t := (.array .long)) (t' := (.array .long)) (by decide) (by decide)))).ext E23).other W26 (Or.inr (slot_ne (Or.inl (ow20 hw)) (Or.inl (ow24 hw)) (by decide) (t := (.array .long)) (t' := (.array .long)) (by decide) (by decide)))).ext E32).keep Kc33 (ninS ne_a2_0_b32 nin0)).other W41 (Or.inr (slot_ne (Or.inl (ow20 hw)) (Or.inl (ow47 hw)) (by decide) (t := (.array .long)) (t' := (.object oB)) (by decide) (by decide))))
 have f46 := (((((F18.ext E23).other W26 (Or.inr (slot_ne (Or.inl (ow22 hw)) (Or.inl (ow24 hw)) (by decide) (t := (.array .long)) (t' := (.array .long)) (by decide) (by decide)))).ext E32).keep Kc33 (ninS ne_a2_0_b32 nin0)).other W41 (Or.inr (slot_ne (Or.inl (ow22 hw)) (Or.inl (ow47 hw)) (by decide) (t := (.array .long)) (t' := (.object oB)) (by decide) (by decide))))
 have f47 := (((F26.ext E32).keep Kc33 (ninS ne_a2_0_b32 nin0)).other W41 (Or.inr (slot_ne (Or.inl (ow24 hw)) (Or.inl (ow47 hw)) (by decide) (t := (.array .long)) (t' := (.object oB)) (by decide) (by decide))))
 have f48 := (((((((((((F_size.ext E2).other W5 (Or.inr (slot_ne (Or.inl (ow54 hw)) (Or.inl (ow18 hw)) (by decide) (t := .int) (t' := (.array .long)) (by decide) (by decide)))).ext E8).other W11 (Or.inr (slot_ne (Or.inl (ow54 hw)) (Or.inl (ow20 hw)) (by decide) (t := .int) (t' := (.array .long)) (by decide) (by decide)))).ext E15).other W18 (Or.inr (slot_ne (Or.inl (ow54 hw)) (Or.inl (ow22 hw)) (by decide) (t := .int) (t' := (.array .long)) (by decide) (by decide)))).ext E23).other W26 (Or.inr (slot_ne (Or.inl (ow54 hw)) (Or.inl (ow24 hw)) (by decide) (t := .int) (t' := (.array .long)) (by decide) (by decide)))).ext E32).keep Kc33 (ninS ne_a2_0_b32 nin0)).other W41 (Or.inr (slot_ne (Or.inl (ow54 hw)) (Or.inl (ow47 hw)) (by decide) (t := .int) (t' := (.object oB)) (by decide) (by decide))))
 have f49 := (((((((((((F_end.ext E2).other W5 (Or.inr (slot_ne (Or.inl (ow56 hw)) (Or.inl (ow18 hw)) (by decide) (t := .int) (t' := (.array .long)) (by decide) (by decide)))).ext E8).other W11 (Or.inr (slot_ne (Or.inl (ow56 hw)) (Or.inl (ow20 hw)) (by decide) (t := .int) (t' := (.array .long)) (by decide) (by decide)))).ext E15).other W18 (Or.inr (slot_ne (Or.inl (ow56 hw)) (Or.inl (ow22 hw)) (by decide) (t := .int) (t' := (.array .long)) (by decide) (by decide)))).ext E23).other W26 (Or.inr (slot_ne (Or.inl (ow56 hw)) (Or.inl (ow24 hw)) (by decide) (t := .int) (t' := (.array .long)) (by decide) (by decide)))).ext E32).keep Kc33 (ninS ne_a2_0_b32 nin0)).other W41 (Or.inr (slot_ne (Or.inl (ow56 hw)) (Or.inl (ow47 hw)) (by decide) (t := .int) (t' := (.object oB)) (by decide) (by decide))))
 have f50 := (((((((((((F_first.ext E2).other W5 (Or.inr (slot_ne (Or.inl (ow75 hw)) (Or.inl (ow18 hw)) (by decide) (t := .int) (t' := (.array .long)) (by decide) (by decide)))).ext E8).other W11 (Or.inr (slot_ne (Or.inl (ow75 hw)) (Or.inl (ow20 hw)) (by decide) (t := .int) (t' := (.array .long)) (by decide) (by decide)))).ext E15).other W18 (Or.inr (slot_ne (Or.inl (ow75 hw)) (Or.inl (ow22 hw)) (by decide) (t := .int) (t' := (.array .long)) (by decide) (by decide)))).ext E23).other W26 (Or.inr (slot_ne (Or.inl (ow75 hw)) (Or.inl (ow24 hw)) (by decide) (t := .int) (t' := (.array .long)) (by decide) (by decide)))).ext E32).keep Kc33 (ninS ne_a2_0_b32 nin0)).other W41 (Or.inr (slot_ne (Or.inl (ow75 hw)) (Or.inl (ow47 hw)) (by decide) (t := .int) (t' := (.object oB)) (by decide) (by decide))))
 have f51 := (((((((((((F_base.ext E2).other W5 (Or.inr (slot_ne (Or.inl (ow110 hw)) (Or.inl (ow18 hw)) (by decide) (t := .long) (t' := (.array .long)) (by decide) (by decide)))).ext E8).other W11 (Or.inr (slot_ne (Or.inl (ow110 hw)) (Or.inl (ow20 hw)) (by decide) (t := .long) (t' := (.array .long)) (by decide) (by decide)))).ext E15).other W18 (Or.inr (slot_ne (Or.inl (ow110 hw)) (Or.inl (ow22 hw)) (by decide) (t := .long) (t' := (.array .long)) (by decide) (by decide)))).ext E23).other W26 (Or.inr (slot_ne (Or.inl (ow110 hw)) (Or.inl (ow24 hw)) (by decide) (t := .long) (t' := (.array .long)) (by decide) (by decide)))).ext E32).keep Kc33 (ninS ne_a2_0_b32 nin0)).other W41 (Or.inr (slot_ne (Or.inl (ow110 hw)) (Or.inl (ow47 hw)) (by decide) (t := .long) (t' := (.object oB)) (by decide) (by decide))))
 have f52 := (P33_1.wr W41)
 have f53 := (P33_2.other W41 (Or.inl (Ne.symm ne_a2_0_b32)))
 have f54 := (P33_3.other W41 (Or.inl (Ne.symm ne_a2_0_b32)))
 have f55 := (P33_4.other W41 (Or.inl (Ne.symm ne_a2_0_b32)))
 have f56 := ((f35.keep Kc33 (ninS ne_b2_b32 nin0)).other W41 (Ne.symm ne_a2_0_b2))
 have f57 := ((f36.keep Kc33 (ninS ne_b8_b32 nin0)).other W41 (Ne.symm ne_a2_0_b8))
 have f58 := ((f37.keep Kc33 (ninS ne_b15_b32 nin0)).other W41 (Ne.symm ne_a2_0_b15))
 have f59 := (P33_5.other W41 (Ne.symm ne_a2_0_bx4_0_33))
 refine rV C X41 e41 hret d2_43 ?_
 exact ⟨rfl, N41, fun T t => ⟨b2, b8, b15, b23, b32, bx4_0_33, k2, k8, k15, kx4_0_33, (0 : Int64), ⟨f43, f44, f45, f46, f47, F41, f48, f49, f50, f51, f52, f53, f54, f55, f56, f57, f58, f59, (S41 _ _ _ _ Sta0), ga, g_b2, g_b8, g_b15, g_b23, g_b32, g_bx4_0_33, ne_a2_0_b2, ne_a2_0_b8, ne_a2_0_b15, ne_a2_0_b23, ne_a2_0_b32, ne_a2_0_bx4_0_33, ne_b2_b8, ne_b2_b15, ne_b2_b23, ne_b2_b32, ne_b2_bx4_0_33, ne_b8_b15, ne_b8_b23, ne_b8_b32, ne_b8_bx4_0_33, ne_b15_b23, ne_b15_b32, ne_b15_bx4_0_33, ne_b23_b32, ne_b23_bx4_0_33, ne_b32_bx4_0_33⟩, ⟨_, f42⟩⟩⟩
theorem pd__II_I : parseMethodDescriptor "(II)I" = some ⟨[.int, .int], some .int⟩:=by decide +kernel
theorem d12_0 : decode oc12 0 = .ok (.iload_n 1, 1):=by decide +kernel
theorem d12_1 : decode oc12 1 = .ok (.ifCond .ge 30, 3):=by decide +kernel
theorem d12_31 : decode oc12 31 = .ok (.aload_n 0, 1):=by decide +kernel
theorem d12_32 : decode oc12 32 = .ok (.invokevirtual 56, 3):=by decide +kernel
theorem d12_35 : decode oc12 35 = .ok (.iload_n 1, 1):=by decide +kernel
theorem d12_36 : decode oc12 36 = .ok (.invokestatic 52, 3):=by decide +kernel
theorem d12_39 : decode oc12 39 = .ok (.istore_n 2, 1):=by decide +kernel
theorem d12_40 : decode oc12 40 = .ok (.iload_n 2, 1):=by decide +kernel
theorem d12_41 : decode oc12 41 = .ok (.aload_n 0, 1):=by decide +kernel
theorem d12_42 : decode oc12 42 = .ok (.getfield 7, 3):=by decide +kernel
theorem d12_45 : decode oc12 45 = .ok (.if_icmp .lt 5, 3):=by decide +kernel
theorem d12_48 : decode oc12 48 = .ok (.iconst (-1), 1):=by decide +kernel
theorem d12_49 : decode oc12 49 = .ok (.ireturn, 1):=by decide +kernel
theorem pn_12 : plainName oB = true := by first | (simp [plainName, overriddenIn]; done) | decide +kernel
theorem ef_rm12_1 (m : MethodId) (y0 : Addr) : entryFrame m #[(.ref y0), (.int (0 : Int32))] 5 = mkF m 0 #[oR y0, oI 0, oU, oU, oU] [] := by first | (simp [entryFrame, mkF, argsToLocals, Value.category]; done) | rfl
def Q_rm12_1 (Z : State) (a12_0 ww : Addr) (kc_ww : ClassId) (t_ww_0 : Int64) (h0 : Heap) (n0 : Nat) (v : Option Value) (h : Heap) (L : List Loc) : Prop := v = some (.int (-1 : Int32)) ∧ Fr n0 L ∧ h = h0
theorem rm12_1 (l : Launch) (Z : State) (a0 : Array Value) (hw : own_T Z a0) (a12_0 ww : Addr) (kc_ww : ClassId) (t_ww_0 : Int64) (h0 : Heap) (n0 : Nat) (Z0 : n0 ≤ h0.size) (E_a : Exa Z h0 a12_0 oB) (F_wordsInUse : Fld Z h0 a12_0 oB "wordsInUse" "I" (.int (0 : Int32))) (F_sizeIsSticky : Fld Z h0 a12_0 oB "sizeIsSticky" "Z" (.int (0 : Int32))) (F_words : Fld Z h0 a12_0 oB "words" "[J" (.ref ww)) (V_ww : Arv Z h0 ww kc_ww .long (1 : Int32) [(.long t_ww_0)] oZ) (Sta1 : Sta Z h0 oB "$assertionsDisabled" "Z" (.int (1 : Int32))) :
   own_Met l (⟨oB, "nextSetBit", "(I)I"⟩ : MethodName) oc12 5 (some .int) ({ frames := 1, cells := 0, slots := 0, locals := 12 } : Room) Z h0 #[(.ref a12_0), (.int (0 : Int32))] (Q_rm12_1 Z a12_0 ww kc_ww t_ww_0 h0 n0) := by
 refine own_go hw (plainFor_of_name pn_12) (fun m => ef_rm12_1 m a12_0) fun p e s m below meth c T0 C hret X0 e0 => ?_
 have N0 := Fr.nil n0
 refine sI C X0 d12_0 ?_
 refine bY C X0 d12_1 31 ((if0 _ _).trans (flt (by decide : ¬ ((0 : Int32) < (0 : Int32)))).2.1) ?_
 refine sA C X0 d12_31 ?_
 refine cP C X0 e0 (fun ws => rm13 l Z a0 C.w ws a12_0 h0 n0 Z0 Sta1) E_a (W := 0) (ow81 C.w) (ow82 C.w) (mvT C.z (ow84 C.w)) (ow83 C.w) (ow85 C.w) (ow27 C.w) (argsL := []) (lenOf pd___V rfl) d12_32 fun v1 T1 lo1 X1 hQ1 => ?_
 obtain ⟨rfl, Nq1, e1⟩ := hQ1
 refine sI C X1 d12_35 ?_
 refine cS C X1 e1 (fun ws => rm6 l Z a0 C.w ws (0 : Int32) h0 n0 Z0 ) (W := 0) (ow41 C.w) (ow42 C.w) (ow43 C.w) (ow27 C.w) (argsL := [(.int (0 : Int32))]) (lenOf pd__I_I rfl) d12_36 fun v2 T2 lo2 X2 hQ2 => ?_
 obtain ⟨rfl, Nq2, e2⟩ := hQ2
 rw [show ((0 : Int32) >>> ((6 : Int32) &&& 31)) = (0 : Int32) from by decide +kernel]
 refine wI C X2 #[oR a12_0, oI 0, oI 0, oU, oU] d12_39 ?_
 refine sI C X2 d12_40 ?_
 refine gA C X2 e2 F_wordsInUse (ow32 C.w) d12_41 d12_42 fun T4 X4 e4 => ?_
 refine cN C X4 d12_45 ((flt (by decide : ¬ ((0 : Int32) < (0 : Int32)))).1) ?_
 refine sC C X4 d12_48 ?_
 refine rI C X4 e4 hret d12_49 ?_
 exact ⟨rfl, ((N0.app Nq1).app Nq2), rfl⟩
theorem ef_rm5_2 (m : MethodId) (y0 : Addr) : entryFrame m #[(.ref y0), (.int (2 : Int32))] 2 = mkF m 0 #[oR y0, oI 2] [] := by first | (simp [entryFrame, mkF, argsToLocals, Value.category]; done) | rfl
def Q_rm5_2 (Z : State) (a5_0 : Addr) (h0 : Heap) (n0 : Nat) (v : Option Value) (h : Heap) (L : List Loc) : Prop := ∃ bx5_0 : Addr, ∃ kx5_0 : ClassId, v = none ∧ Fr n0 L ∧ Keep h0 h [a5_0] ∧ own_StK Z h0 h ∧ h0.size ≤ bx5_0 ∧ Exa Z h a5_0 oB ∧ Fld Z h a5_0 oB "wordsInUse" "I" (.int (0 : Int32)) ∧ Fld Z h a5_0 oB "sizeIsSticky" "Z" (.int (0 : Int32)) ∧ Fld Z h a5_0 oB "words" "[J" (.ref bx5_0) ∧ Arv Z h bx5_0 kx5_0 .long (1 : Int32) [oZ] oZ
theorem rm5_2 (l : Launch) (Z : State) (a0 : Array Value) (hw : own_T Z a0) (a5_0 : Addr) (h0 : Heap) (n0 : Nat) (Z0 : n0 ≤ h0.size) (E_a : Exa Z h0 a5_0 oB) (F_wordsInUse : Fld Z h0 a5_0 oB "wordsInUse" "I" (.int (0 : Int32))) (F_sizeIsSticky : Fld Z h0 a5_0 oB "sizeIsSticky" "Z" (.int (0 : Int32))) (F_words : Fld Z h0 a5_0 oB "words" "[J" .null) (g_a5_0 : n0 ≤ a5_0) :
   own_Met l oy5 oc5 2 none ({ frames := 1, cells := 1, slots := 1, locals := 13 } : Room) Z h0 #[(.ref a5_0), (.int (2 : Int32))] (Q_rm5_2 Z a5_0 h0 n0) := by
 refine own_go hw (plainFor_of_name pn_5) (fun m => ef_rm5_2 m a5_0) fun p e s m below meth c T0 C hret X0 e0 => ?_
 have N0 := Fr.nil n0
 refine sA C X0 d5_0 ?_
 refine sI C X0 d5_1 ?_
 refine sC C X0 d5_2 ?_
 refine sS C X0 d5_3 ?_
 refine cS C X0 e0 (fun ws => rm6 l Z a0 C.w ws (1 : Int32) h0 n0 Z0 ) (W := 1) (ow41 C.w) (ow42 C.w) (ow43 C.w) (ow27 C.w) (argsL := [(.int (1 : Int32))]) (lenOf pd__I_I rfl) d5_4 fun v1 T1 lo1 X1 hQ1 => ?_
 obtain ⟨rfl, Nq1, e1⟩ := hQ1
 rw [show ((1 : Int32) >>> ((6 : Int32) &&& 31)) = (0 : Int32) from by decide +kernel]
 refine sC C X1 d5_7 ?_
 refine sP C X1 d5_8 ?_
 refine nP C X1 e1 (n := (1 : Int32)) 1 [oZ] (ow16 C.w) d5_9 fun T3 h3 k3 b3 g3 X3 e3 E3 V_b3 => ?_
 have ne_a5_0_b3 : a5_0 ≠ b3 := Nat.ne_of_lt (Nat.lt_of_lt_of_le E_a.lt (Nat.le_of_eq g3.symm))
 have g_b3 : n0 ≤ b3 := Nat.le_trans Z0 (Nat.le_of_eq g3.symm)
 have sz_b3 : h0.size ≤ b3 := Nat.le_trans (Nat.le_refl _) (Nat.le_of_eq g3.symm)
 have S3 : own_StK Z h0 h3 := (own_StK.refl Z h0).ext E3
 have K3 : Keep h0 h3 [a5_0] := (Keep.refl h0 [a5_0]).ext E3
 have Z3 : n0 ≤ h3.size := Nat.le_trans Z0 K3.1
 have f4 := (E_a.ext E3)
 have f5 := (F_words.ext E3)
 refine pF C X3 e3 (N0.app Nq1) g_a5_0 f5 f4 (ty := (.array .long)) (ow44 C.w) (ow45 C.w) (ow26 C.w) (by decide) d5_11 fun T6 h6 lo6 X6 e6 N6 W6 F6 => ?_
 have S6 : own_StK Z h0 h6 := S3.wr W6
 have K6 : Keep h0 h6 [a5_0] := K3.wr W6 (Or.inl (List.mem_of_getElem? (i := 0) rfl))
 have Z6 : n0 ≤ h6.size := Nat.le_trans Z0 K6.1
 have f7 := (f4.wr W6)
 have f8 := ((F_wordsInUse.ext E3).other W6 (Or.inr (slot_ne (Or.inl (ow33 hw)) (Or.inl (ow45 hw)) (by decide) (t := .int) (t' := (.array .long)) (by decide) (by decide))))
 have f9 := ((F_sizeIsSticky.ext E3).other W6 (Or.inr (slot_ne (Or.inl (ow35 hw)) (Or.inl (ow45 hw)) (by decide) (t := .boolean) (t' := (.array .long)) (by decide) (by decide))))
 have f10 := (V_b3.other W6 (Ne.symm ne_a5_0_b3))
 refine rV C X6 e6 hret d5_14 ?_
 exact ⟨b3, k3, rfl, N6, K6, S6, sz_b3, f7, f8, f9, F6, f10⟩
theorem d14_0 : decode oc14 0 = .ok (.aload_n 0, 1):=by decide +kernel
theorem d14_1 : decode oc14 1 = .ok (.invokespecial 21, 3):=by decide +kernel
theorem d14_4 : decode oc14 4 = .ok (.aload_n 0, 1):=by decide +kernel
theorem d14_5 : decode oc14 5 = .ok (.iconst 0, 1):=by decide +kernel
theorem d14_6 : decode oc14 6 = .ok (.putfield 7, 3):=by decide +kernel
theorem d14_9 : decode oc14 9 = .ok (.aload_n 0, 1):=by decide +kernel
theorem d14_10 : decode oc14 10 = .ok (.iconst 0, 1):=by decide +kernel
theorem d14_11 : decode oc14 11 = .ok (.putfield 24, 3):=by decide +kernel
theorem d14_14 : decode oc14 14 = .ok (.iload_n 1, 1):=by decide +kernel
theorem d14_15 : decode oc14 15 = .ok (.ifCond .ge 30, 3):=by decide +kernel
theorem d14_45 : decode oc14 45 = .ok (.aload_n 0, 1):=by decide +kernel
theorem d14_46 : decode oc14 46 = .ok (.iload_n 1, 1):=by decide +kernel
theorem d14_47 : decode oc14 47 = .ok (.invokevirtual 27, 3):=by decide +kernel
theorem d14_50 : decode oc14 50 = .ok (.aload_n 0, 1):=by decide +kernel
theorem d14_51 : decode oc14 51 = .ok (.iconst 1, 1):=by decide +kernel
theorem d14_52 : decode oc14 52 = .ok (.putfield 24, 3):=by decide +kernel
theorem d14_55 : decode oc14 55 = .ok (.return_, 1):=by decide +kernel
theorem pn_14 : plainName oB = true := by first | (simp [plainName, overriddenIn]; done) | decide +kernel
theorem ef_rm14_1 (m : MethodId) (y0 : Addr) : entryFrame m #[(.ref y0), (.int (2 : Int32))] 2 = mkF m 0 #[oR y0, oI 2] [] := by first | (simp [entryFrame, mkF, argsToLocals, Value.category]; done) | rfl
def Q_rm14_1 (Z : State) (a14_0 : Addr) (h0 : Heap) (n0 : Nat) (v : Option Value) (h : Heap) (L : List Loc) : Prop := ∃ bx14_0 : Addr, ∃ kx14_0 : ClassId, v = none ∧ Fr n0 L ∧ Keep h0 h [a14_0] ∧ own_StK Z h0 h ∧ h0.size ≤ bx14_0 ∧ Exa Z h a14_0 oB ∧ Fld Z h a14_0 oB "wordsInUse" "I" (.int (0 : Int32)) ∧ Fld Z h a14_0 oB "sizeIsSticky" "Z" (.int (1 : Int32)) ∧ Fld Z h a14_0 oB "words" "[J" (.ref bx14_0) ∧ Arv Z h bx14_0 kx14_0 .long (1 : Int32) [oZ] oZ
theorem rm14_1 (l : Launch) (Z : State) (a0 : Array Value) (hw : own_T Z a0) (a14_0 : Addr) (h0 : Heap) (n0 : Nat) (Z0 : n0 ≤ h0.size) (E_a : Exa Z h0 a14_0 oB) (F_wordsInUse : Fld Z h0 a14_0 oB "wordsInUse" "I" (.int (0 : Int32))) (F_sizeIsSticky : Fld Z h0 a14_0 oB "sizeIsSticky" "Z" (.int (0 : Int32))) (F_words : Fld Z h0 a14_0 oB "words" "[J" .null) (g_a14_0 : n0 ≤ a14_0) :
   own_Met l oy14 oc14 2 none ({ frames := 2, cells := 1, slots := 1, locals := 26 } : Room) Z h0 #[(.ref a14_0), (.int (2 : Int32))] (Q_rm14_1 Z a14_0 h0 n0) := by
 refine own_go hw (plainFor_of_name pn_14) (fun m => ef_rm14_1 m a14_0) fun p e s m below meth c T0 C hret X0 e0 => ?_
 have N0 := Fr.nil n0
 refine sA C X0 d14_0 ?_
 refine iO C X0 e0 (W := 0) (ow31 C.w) (ow14 C.w) (ow15 C.w) d14_1 fun T1 X1 e1 => ?_
 refine sA C X1 d14_4 ?_
 refine sC C X1 d14_5 ?_
 refine pF C X1 e1 N0 g_a14_0 F_wordsInUse E_a (ty := .int) (ow32 C.w) (ow33 C.w) (ow26 C.w) (by decide) d14_6 fun T2 h2 lo2 X2 e2 N2 W2 F2 => ?_
 have S2 : own_StK Z h0 h2 := (own_StK.refl Z h0).wr W2
 have K2 : Keep h0 h2 [a14_0] := (Keep.refl h0 [a14_0]).wr W2 (Or.inl (List.mem_of_getElem? (i := 0) rfl))
 have Z2 : n0 ≤ h2.size := Nat.le_trans Z0 K2.1
 refine sA C X2 d14_9 ?_
 refine sC C X2 d14_10 ?_
 have f3 := (E_a.wr W2)
 have f4 := (F_sizeIsSticky.other W2 (Or.inr (slot_ne (Or.inl (ow35 hw)) (Or.inl (ow33 hw)) (by decide) (t := .boolean) (t' := .int) (by decide) (by decide))))
 refine pF C X2 e2 N2 g_a14_0 f4 f3 (ty := .boolean) (ow34 C.w) (ow35 C.w) (ow26 C.w) (by decide) d14_11 fun T5 h5 lo5 X5 e5 N5 W5 F5 => ?_
 have S5 : own_StK Z h0 h5 := S2.wr W5
 have K5 : Keep h0 h5 [a14_0] := K2.wr W5 (Or.inl (List.mem_of_getElem? (i := 0) rfl))
 have Z5 : n0 ≤ h5.size := Nat.le_trans Z0 K5.1
 refine sI C X5 d14_14 ?_
 refine bY C X5 d14_15 45 ((if0 _ _).trans (flt (by decide : ¬ ((2 : Int32) < (0 : Int32)))).2.1) ?_
 refine sA C X5 d14_45 ?_
 refine sI C X5 d14_46 ?_
 have f6 := (f3.wr W5)
 have f7 := (F2.other W5 (Or.inr (slot_ne (Or.inl (ow33 hw)) (Or.inl (ow35 hw)) (by decide) (t := .int) (t' := .boolean) (by decide) (by decide))))
 have f8 := ((F_words.other W2 (Or.inr (slot_ne (Or.inl (ow45 hw)) (Or.inl (ow33 hw)) (by decide) (t := (.array .long)) (t' := .int) (by decide) (by decide)))).other W5 (Or.inr (slot_ne (Or.inl (ow45 hw)) (Or.inl (ow35 hw)) (by decide) (t := (.array .long)) (t' := .boolean) (by decide) (by decide))))
 refine cP C X5 e5 (rm5_2 l Z a0 C.w a14_0 h5 n0 Z5 f6 f7 F5 f8 g_a14_0) f6 (W := 0) (ow36 C.w) (ow37 C.w) (mvT C.z (ow39 C.w)) (ow38 C.w) (ow40 C.w) (ow27 C.w) (argsL := [(.int (2 : Int32))]) (lenOf pd__I_V rfl) d14_47 fun v9 T9 lo9 X9 hQ9 => ?_
 obtain ⟨bx5_0_9, kx5_0_9, rfl, Nq9, Kc9, Sc9, P9_0, P9_1, P9_2, P9_3, P9_4, P9_5⟩ := hQ9
 have S9 : own_StK Z h0 T9.heap := S5.tr Sc9
 have K9 : Keep h0 T9.heap [a14_0] := Keep.trans K5 Kc9 (allS (P := fun x => x ∈ ([a14_0] : List Addr) ∨ h0.size ≤ x) (Or.inl (List.mem_of_getElem? (i := 0) rfl)) all0)
 have Z9 : n0 ≤ T9.heap.size := Nat.le_trans Z0 K9.1
 have g_bx5_0_9 : n0 ≤ bx5_0_9 := Nat.le_trans Z5 P9_0
 have sz_bx5_0_9 : h0.size ≤ bx5_0_9 := Nat.le_trans K5.1 P9_0
 have ne_a14_0_bx5_0_9 : a14_0 ≠ bx5_0_9 := Nat.ne_of_lt (Nat.lt_of_lt_of_le f6.lt P9_0)
 refine sA C X9 d14_50 ?_
 refine sC C X9 d14_51 ?_
 refine pF C X9 rfl (N5.app Nq9) g_a14_0 P9_3 P9_1 (ty := .boolean) (ow34 C.w) (ow35 C.w) (ow26 C.w) (by decide) d14_52 fun T10 h10 lo10 X10 e10 N10 W10 F10 => ?_
 have S10 : own_StK Z h0 h10 := S9.wr W10
 have K10 : Keep h0 h10 [a14_0] := K9.wr W10 (Or.inl (List.mem_of_getElem? (i := 0) rfl))
 have Z10 : n0 ≤ h10.size := Nat.le_trans Z0 K10.1
 have f11 := (P9_1.wr W10)
 have f12 := (P9_2.other W10 (Or.inr (slot_ne (Or.inl (ow33 hw)) (Or.inl (ow35 hw)) (by decide) (t := .int) (t' := .boolean) (by decide) (by decide))))
 have f13 := (P9_4.other W10 (Or.inr (slot_ne (Or.inl (ow45 hw)) (Or.inl (ow35 hw)) (by decide) (t := (.array .long)) (t' := .boolean) (by decide) (by decide))))
 have f14 := (P9_5.other W10 (Ne.symm ne_a14_0_bx5_0_9))
 refine rV C X10 e10 hret d14_55 ?_
 exact ⟨bx5_0_9, kx5_0_9, rfl, N10, K10, S10, sz_bx5_0_9, f11, f12, F10, f13, f14⟩
theorem d16_0 : decode oc16 0 = .ok (.iload_n 0, 1):=by decide +kernel
theorem d16_1 : decode oc16 1 = .ok (.ifCond .ge 30, 3):=by decide +kernel
theorem d16_31 : decode oc16 31 = .ok (.iload_n 1, 1):=by decide +kernel
theorem d16_32 : decode oc16 32 = .ok (.ifCond .ge 30, 3):=by decide +kernel
theorem d16_62 : decode oc16 62 = .ok (.iload_n 0, 1):=by decide +kernel
theorem d16_63 : decode oc16 63 = .ok (.iload_n 1, 1):=by decide +kernel
theorem d16_64 : decode oc16 64 = .ok (.if_icmp .le 39, 3):=by decide +kernel
theorem d16_103 : decode oc16 103 = .ok (.return_, 1):=by decide +kernel
theorem pn_16 : plainName oB = true := by first | (simp [plainName, overriddenIn]; done) | decide +kernel
theorem ef_rm16_1 (m : MethodId)  : entryFrame m #[(.int (0 : Int32)), (.int (0 : Int32))] 2 = mkF m 0 #[oI 0, oI 0] [] := by first | (simp [entryFrame, mkF, argsToLocals, Value.category]; done) | rfl
def Q_rm16_1 (Z : State)  (h0 : Heap) (n0 : Nat) (v : Option Value) (h : Heap) (L : List Loc) : Prop := v = none ∧ Fr n0 L ∧ h = h0
theorem rm16_1 (l : Launch) (Z : State) (a0 : Array Value) (hw : own_T Z a0)  (h0 : Heap) (n0 : Nat) (Z0 : n0 ≤ h0.size) :
   own_Met l oy16 oc16 2 none ({ frames := 0, cells := 0, slots := 0, locals := 0 } : Room) Z h0 #[(.int (0 : Int32)), (.int (0 : Int32))] (Q_rm16_1 Z  h0 n0) := by
 refine own_go hw (plainFor_of_name pn_16) (fun m => ef_rm16_1 m) fun p e s m below meth c T0 C hret X0 e0 => ?_
 have N0 := Fr.nil n0
 refine sI C X0 d16_0 ?_
 refine bY C X0 d16_1 31 ((if0 _ _).trans (flt (by decide : ¬ ((0 : Int32) < (0 : Int32)))).2.1) ?_
 refine sI C X0 d16_31 ?_
 refine bY C X0 d16_32 62 ((if0 _ _).trans (flt (by decide : ¬ ((0 : Int32) < (0 : Int32)))).2.1) ?_
 refine sI C X0 d16_62 ?_
 refine sI C X0 d16_63 ?_
 refine cY C X0 d16_64 103 ((flt (by decide : ¬ ((0 : Int32) < (0 : Int32)))).2.2.2) ?_
 refine rV C X0 e0 hret d16_103 ?_
 exact ⟨rfl, N0, rfl⟩
theorem pd__II_V : parseMethodDescriptor "(II)V" = some ⟨[.int, .int], none⟩:=by decide +kernel
theorem d15_0 : decode oc15 0 = .ok (.iload_n 1, 1):=by decide +kernel
theorem d15_1 : decode oc15 1 = .ok (.iload_n 2, 1):=by decide +kernel
theorem d15_2 : decode oc15 2 = .ok (.invokestatic 161, 3):=by decide +kernel
theorem d15_5 : decode oc15 5 = .ok (.iload_n 1, 1):=by decide +kernel
theorem d15_6 : decode oc15 6 = .ok (.iload_n 2, 1):=by decide +kernel
theorem d15_7 : decode oc15 7 = .ok (.if_icmp .ne 4, 3):=by decide +kernel
theorem d15_10 : decode oc15 10 = .ok (.return_, 1):=by decide +kernel
theorem pn_15 : plainName oB = true := by first | (simp [plainName, overriddenIn]; done) | decide +kernel
theorem ef_rm15_1 (m : MethodId) (y0 : Addr) : entryFrame m #[(.ref y0), (.int (0 : Int32)), (.int (0 : Int32))] 10 = mkF m 0 #[oR y0, oI 0, oI 0, oU, oU, oU, oU, oU, oU, oU] [] := by first | (simp [entryFrame, mkF, argsToLocals, Value.category]; done) | rfl
def Q_rm15_1 (Z : State) (a15_0 ww : Addr) (kc_ww : ClassId) (t_ww_0 : Int64) (h0 : Heap) (n0 : Nat) (v : Option Value) (h : Heap) (L : List Loc) : Prop := v = none ∧ Fr n0 L ∧ h = h0
theorem rm15_1 (l : Launch) (Z : State) (a0 : Array Value) (hw : own_T Z a0) (a15_0 ww : Addr) (kc_ww : ClassId) (t_ww_0 : Int64) (h0 : Heap) (n0 : Nat) (Z0 : n0 ≤ h0.size) (E_a : Exa Z h0 a15_0 oB) (F_wordsInUse : Fld Z h0 a15_0 oB "wordsInUse" "I" (.int (0 : Int32))) (F_sizeIsSticky : Fld Z h0 a15_0 oB "sizeIsSticky" "Z" (.int (1 : Int32))) (F_words : Fld Z h0 a15_0 oB "words" "[J" (.ref ww)) (V_ww : Arv Z h0 ww kc_ww .long (1 : Int32) [(.long t_ww_0)] oZ) :
   own_Met l oy15 oc15 10 none ({ frames := 1, cells := 0, slots := 0, locals := 13 } : Room) Z h0 #[(.ref a15_0), (.int (0 : Int32)), (.int (0 : Int32))] (Q_rm15_1 Z a15_0 ww kc_ww t_ww_0 h0 n0) := by
 refine own_go hw (plainFor_of_name pn_15) (fun m => ef_rm15_1 m a15_0) fun p e s m below meth c T0 C hret X0 e0 => ?_
 have N0 := Fr.nil n0
 refine sI C X0 d15_0 ?_
 refine sI C X0 d15_1 ?_
 refine cS C X0 e0 (rm16_1 l Z a0 C.w  h0 n0 Z0 ) (W := 0) (ow95 C.w) (ow96 C.w) (ow97 C.w) (ow27 C.w) (argsL := [(.int (0 : Int32)), (.int (0 : Int32))]) (lenOf pd__II_V rfl) d15_2 fun v1 T1 lo1 X1 hQ1 => ?_
 obtain ⟨rfl, Nq1, e1⟩ := hQ1
 refine sI C X1 d15_5 ?_
 refine sI C X1 d15_6 ?_
 refine cN C X1 d15_7 ((teq (by decide : (0 : Int32) = (0 : Int32))).2) ?_
 refine rV C X1 e1 hret d15_10 ?_
 exact ⟨rfl, (N0.app Nq1), rfl⟩
theorem d18_0 : decode oc18 0 = .ok (.iload_n 1, 1):=by decide +kernel
theorem d18_1 : decode oc18 1 = .ok (.iload_n 2, 1):=by decide +kernel
theorem d18_2 : decode oc18 2 = .ok (.if_icmp .le 44, 3):=by decide +kernel
theorem d18_46 : decode oc18 46 = .ok (.iload_n 1, 1):=by decide +kernel
theorem d18_47 : decode oc18 47 = .ok (.ifCond .ge 12, 3):=by decide +kernel
theorem d18_59 : decode oc18 59 = .ok (.iload_n 2, 1):=by decide +kernel
theorem d18_60 : decode oc18 60 = .ok (.iload_n 0, 1):=by decide +kernel
theorem d18_61 : decode oc18 61 = .ok (.if_icmp .le 12, 3):=by decide +kernel
theorem d18_73 : decode oc18 73 = .ok (.return_, 1):=by decide +kernel
theorem pn_18 : plainName "java/util/Arrays" = true := by first | (simp [plainName, overriddenIn]; done) | decide +kernel
theorem ef_rm18_1 (m : MethodId)  : entryFrame m #[(.int (4 : Int32)), (.int (2 : Int32)), (.int (4 : Int32))] 3 = mkF m 0 #[oI 4, oI 2, oI 4] [] := by first | (simp [entryFrame, mkF, argsToLocals, Value.category]; done) | rfl
def Q_rm18_1 (Z : State)  (h0 : Heap) (n0 : Nat) (v : Option Value) (h : Heap) (L : List Loc) : Prop := v = none ∧ Fr n0 L ∧ h = h0
theorem rm18_1 (l : Launch) (Z : State) (a0 : Array Value) (hw : own_T Z a0)  (h0 : Heap) (n0 : Nat) (Z0 : n0 ≤ h0.size) :
   own_Met l oy18 oc18 3 none ({ frames := 0, cells := 0, slots := 0, locals := 0 } : Room) Z h0 #[(.int (4 : Int32)), (.int (2 : Int32)), (.int (4 : Int32))] (Q_rm18_1 Z  h0 n0) := by
 refine own_go hw (plainFor_of_name pn_18) (fun m => ef_rm18_1 m) fun p e s m below meth c T0 C hret X0 e0 => ?_
 have N0 := Fr.nil n0
 refine sI C X0 d18_0 ?_
 refine sI C X0 d18_1 ?_
 refine cY C X0 d18_2 46 ((flt (by decide : ¬ ((4 : Int32) < (2 : Int32)))).2.2.2) ?_
 refine sI C X0 d18_46 ?_
 refine bY C X0 d18_47 59 ((if0 _ _).trans (flt (by decide : ¬ ((2 : Int32) < (0 : Int32)))).2.1) ?_
 refine sI C X0 d18_59 ?_
 refine sI C X0 d18_60 ?_
 refine cY C X0 d18_61 73 ((flt (by decide : ¬ ((4 : Int32) < (4 : Int32)))).2.2.2) ?_
 refine rV C X0 e0 hret d18_73 ?_
 exact ⟨rfl, N0, rfl⟩
theorem pd__III_V : parseMethodDescriptor "(III)V" = some ⟨[.int, .int, .int], none⟩:=by decide +kernel
theorem d17_0 : decode oc17 0 = .ok (.aload_n 0, 1):=by decide +kernel
theorem d17_1 : decode oc17 1 = .ok (.arraylength, 1):=by decide +kernel
theorem d17_2 : decode oc17 2 = .ok (.iload_n 1, 1):=by decide +kernel
theorem d17_3 : decode oc17 3 = .ok (.iload_n 2, 1):=by decide +kernel
theorem d17_4 : decode oc17 4 = .ok (.invokestatic 13, 3):=by decide +kernel
theorem d17_7 : decode oc17 7 = .ok (.iload_n 1, 1):=by decide +kernel
theorem d17_8 : decode oc17 8 = .ok (.istore 5, 2):=by decide +kernel
theorem d17_10 : decode oc17 10 = .ok (.iload 5, 2):=by decide +kernel
theorem d17_12 : decode oc17 12 = .ok (.iload_n 2, 1):=by decide +kernel
theorem d17_13 : decode oc17 13 = .ok (.if_icmp .ge 14, 3):=by decide +kernel
theorem d17_16 : decode oc17 16 = .ok (.aload_n 0, 1):=by decide +kernel
theorem d17_17 : decode oc17 17 = .ok (.iload 5, 2):=by decide +kernel
theorem d17_19 : decode oc17 19 = .ok (.lload_n 3, 1):=by decide +kernel
theorem d17_20 : decode oc17 20 = .ok (.lastore, 1):=by decide +kernel
theorem d17_21 : decode oc17 21 = .ok (.iinc 5 1, 3):=by decide +kernel
theorem d17_24 : decode oc17 24 = .ok (.goto (-14), 3):=by decide +kernel
theorem d17_27 : decode oc17 27 = .ok (.return_, 1):=by decide +kernel
theorem pn_17 : plainName "java/util/Arrays" = true := by first | (simp [plainName, overriddenIn]; done) | decide +kernel
theorem ef_rm17_1 (m : MethodId) (y0 : Addr) : entryFrame m #[(.ref y0), (.int (2 : Int32)), (.int (4 : Int32)), (.long oM)] 6 = mkF m 0 #[oR y0, oI 2, oI 4, oJ 9223372036854775807, oD, oU] [] := by first | (simp [entryFrame, mkF, argsToLocals, Value.category]; done) | rfl
def Q_rm17_1 (Z : State) (a17_0 : Addr) (kc_a17_0 : ClassId) (t_a17_0_0 t_a17_0_1 t_a17_0_2 t_a17_0_3 : Int64) (h0 : Heap) (n0 : Nat) (v : Option Value) (h : Heap) (L : List Loc) : Prop := v = none ∧ Fr n0 L ∧ Keep h0 h [a17_0] ∧ own_StK Z h0 h ∧ Arv Z h a17_0 kc_a17_0 .long (4 : Int32) [(.long t_a17_0_0), (.long t_a17_0_1), (.long oM), (.long oM)] oZ
theorem rm17_1 (l : Launch) (Z : State) (a0 : Array Value) (hw : own_T Z a0) (a17_0 : Addr) (kc_a17_0 : ClassId) (t_a17_0_0 t_a17_0_1 t_a17_0_2 t_a17_0_3 : Int64) (h0 : Heap) (n0 : Nat) (Z0 : n0 ≤ h0.size) (V_a17_0 : Arv Z h0 a17_0 kc_a17_0 .long (4 : Int32) [(.long t_a17_0_0), (.long t_a17_0_1), (.long t_a17_0_2), (.long t_a17_0_3)] oZ) (g_a17_0 : n0 ≤ a17_0) :
   own_Met l oy17 oc17 6 none ({ frames := 1, cells := 0, slots := 0, locals := 14 } : Room) Z h0 #[(.ref a17_0), (.int (2 : Int32)), (.int (4 : Int32)), (.long oM)] (Q_rm17_1 Z a17_0 kc_a17_0 t_a17_0_0 t_a17_0_1 t_a17_0_2 t_a17_0_3 h0 n0) := by
 refine own_go hw (plainFor_of_name pn_17) (fun m => ef_rm17_1 m a17_0) fun p e s m below meth c T0 C hret X0 e0 => ?_
 have N0 := Fr.nil n0
 refine sA C X0 d17_0 ?_
 refine nA C X0 e0 V_a17_0 d17_1 ?_
 refine sI C X0 d17_2 ?_
 refine sI C X0 d17_3 ?_
 refine cS C X0 e0 (rm18_1 l Z a0 C.w  h0 n0 Z0 ) (W := 0) (ow103 C.w) (ow104 C.w) (ow105 C.w) (ow101 C.w) (argsL := [(.int (4 : Int32)), (.int (2 : Int32)), (.int (4 : Int32))]) (lenOf pd__III_V rfl) d17_4 fun v1 T1 lo1 X1 hQ1 => ?_
 obtain ⟨rfl, Nq1, e1⟩ := hQ1
 refine sI C X1 d17_7 ?_
 refine wi C X1 #[oR a17_0, oI 2, oI 4, oJ 9223372036854775807, oD, oI 2] d17_8 ?_
 refine si C X1 d17_10 ?_
 refine sI C X1 d17_12 ?_
 refine cN C X1 d17_13 ((tlt (by decide : (2 : Int32) < (4 : Int32))).2.1) ?_
 refine sA C X1 d17_16 ?_
 refine si C X1 d17_17 ?_
 refine sL C X1 d17_19 ?_
 refine sJ C X1 e1 (N0.app Nq1) g_a17_0 V_a17_0 _ d17_20 fun T2 h2 lo2 X2 e2 N2 W2 V2 => ?_
 have S2 : own_StK Z h0 h2 := (own_StK.refl Z h0).wr W2
 have K2 : Keep h0 h2 [a17_0] := (Keep.refl h0 [a17_0]).wr W2 (Or.inl (List.mem_of_getElem? (i := 0) rfl))
 have Z2 : n0 ≤ h2.size := Nat.le_trans Z0 K2.1
 refine wc C X2 #[oR a17_0, oI 2, oI 4, oJ 9223372036854775807, oD, oI 3] d17_21 ?_
 refine sG C X2 d17_24 10 ?_
 refine si C X2 d17_10 ?_
 refine sI C X2 d17_12 ?_
 refine cN C X2 d17_13 ((tlt (by decide : (3 : Int32) < (4 : Int32))).2.1) ?_
 refine sA C X2 d17_16 ?_
 refine si C X2 d17_17 ?_
 refine sL C X2 d17_19 ?_
 refine sJ C X2 e2 N2 g_a17_0 V2 _ d17_20 fun T3 h3 lo3 X3 e3 N3 W3 V3 => ?_
 have S3 : own_StK Z h0 h3 := S2.wr W3
 have K3 : Keep h0 h3 [a17_0] := K2.wr W3 (Or.inl (List.mem_of_getElem? (i := 0) rfl))
 have Z3 : n0 ≤ h3.size := Nat.le_trans Z0 K3.1
 refine wc C X3 #[oR a17_0, oI 2, oI 4, oJ 9223372036854775807, oD, oI 4] d17_21 ?_
 refine sG C X3 d17_24 10 ?_
 refine si C X3 d17_10 ?_
 refine sI C X3 d17_12 ?_
 refine cY C X3 d17_13 27 ((flt (by decide : ¬ ((4 : Int32) < (4 : Int32)))).2.1) ?_
 refine rV C X3 e3 hret d17_27 ?_
 exact ⟨rfl, N3, K3, S3, V3⟩
theorem pd___JIIJ_V : parseMethodDescriptor "([JIIJ)V" = some ⟨[(.array .long), .int, .int, .long], none⟩:=by decide +kernel
theorem pd__JJ_J : parseMethodDescriptor "(JJ)J" = some ⟨[.long, .long], some .long⟩:=by decide +kernel
theorem d11_0 : decode oc11 0 = .ok (.iload_n 1, 1):=by decide +kernel
theorem d11_1 : decode oc11 1 = .ok (.aload_n 0, 1):=by decide +kernel
theorem d11_2 : decode oc11 2 = .ok (.getfield 9, 3):=by decide +kernel
theorem d11_5 : decode oc11 5 = .ok (.arraylength, 1):=by decide +kernel
theorem d11_6 : decode oc11 6 = .ok (.if_icmp .eq 7, 3):=by decide +kernel
theorem d11_9 : decode oc11 9 = .ok (.iconst 1, 1):=by decide +kernel
theorem d11_10 : decode oc11 10 = .ok (.goto 4, 3):=by decide +kernel
theorem d11_14 : decode oc11 14 = .ok (.istore_n 2, 1):=by decide +kernel
theorem d11_15 : decode oc11 15 = .ok (.iload_n 2, 1):=by decide +kernel
theorem d11_16 : decode oc11 16 = .ok (.ifCond .eq 9, 3):=by decide +kernel
theorem d11_19 : decode oc11 19 = .ok (.iload_n 1, 1):=by decide +kernel
theorem d11_20 : decode oc11 20 = .ok (.newarray .long, 2):=by decide +kernel
theorem d11_22 : decode oc11 22 = .ok (.goto 7, 3):=by decide +kernel
theorem d11_29 : decode oc11 29 = .ok (.astore_n 3, 1):=by decide +kernel
theorem d11_30 : decode oc11 30 = .ok (.iload_n 2, 1):=by decide +kernel
theorem d11_31 : decode oc11 31 = .ok (.ifCond .eq 9, 3):=by decide +kernel
theorem d11_34 : decode oc11 34 = .ok (.iload_n 1, 1):=by decide +kernel
theorem d11_35 : decode oc11 35 = .ok (.newarray .long, 2):=by decide +kernel
theorem d11_37 : decode oc11 37 = .ok (.goto 7, 3):=by decide +kernel
theorem d11_44 : decode oc11 44 = .ok (.astore 4, 2):=by decide +kernel
theorem d11_46 : decode oc11 46 = .ok (.iload_n 2, 1):=by decide +kernel
theorem d11_47 : decode oc11 47 = .ok (.ifCond .eq 9, 3):=by decide +kernel
theorem d11_50 : decode oc11 50 = .ok (.iload_n 1, 1):=by decide +kernel
theorem d11_51 : decode oc11 51 = .ok (.newarray .long, 2):=by decide +kernel
theorem d11_53 : decode oc11 53 = .ok (.goto 7, 3):=by decide +kernel
theorem d11_60 : decode oc11 60 = .ok (.astore 5, 2):=by decide +kernel
theorem d11_62 : decode oc11 62 = .ok (.iconst 0, 1):=by decide +kernel
theorem d11_63 : decode oc11 63 = .ok (.istore 6, 2):=by decide +kernel
theorem d11_65 : decode oc11 65 = .ok (.aload_n 0, 1):=by decide +kernel
theorem d11_66 : decode oc11 66 = .ok (.getfield 27, 3):=by decide +kernel
theorem d11_69 : decode oc11 69 = .ok (.aload_n 0, 1):=by decide +kernel
theorem d11_70 : decode oc11 70 = .ok (.getfield 54, 3):=by decide +kernel
theorem d11_73 : decode oc11 73 = .ok (.invokevirtual 50, 3):=by decide +kernel
theorem d11_76 : decode oc11 76 = .ok (.istore 7, 2):=by decide +kernel
theorem d11_78 : decode oc11 78 = .ok (.iload 7, 2):=by decide +kernel
theorem d11_80 : decode oc11 80 = .ok (.ifCond .lt 57, 3):=by decide +kernel
theorem d11_137 : decode oc11 137 = .ok (.aload_n 0, 1):=by decide +kernel
theorem d11_138 : decode oc11 138 = .ok (.aload_n 3, 1):=by decide +kernel
theorem d11_139 : decode oc11 139 = .ok (.putfield 9, 3):=by decide +kernel
theorem d11_142 : decode oc11 142 = .ok (.aload_n 0, 1):=by decide +kernel
theorem d11_143 : decode oc11 143 = .ok (.aload 4, 2):=by decide +kernel
theorem d11_145 : decode oc11 145 = .ok (.putfield 15, 3):=by decide +kernel
theorem d11_148 : decode oc11 148 = .ok (.aload_n 0, 1):=by decide +kernel
theorem d11_149 : decode oc11 149 = .ok (.aload 5, 2):=by decide +kernel
theorem d11_151 : decode oc11 151 = .ok (.putfield 18, 3):=by decide +kernel
theorem d11_154 : decode oc11 154 = .ok (.iload_n 2, 1):=by decide +kernel
theorem d11_155 : decode oc11 155 = .ok (.ifCond .eq 27, 3):=by decide +kernel
theorem d11_158 : decode oc11 158 = .ok (.aload_n 0, 1):=by decide +kernel
theorem d11_159 : decode oc11 159 = .ok (.new 24, 3):=by decide +kernel
theorem d11_162 : decode oc11 162 = .ok (.dup, 1):=by decide +kernel
theorem d11_163 : decode oc11 163 = .ok (.iload_n 1, 1):=by decide +kernel
theorem d11_164 : decode oc11 164 = .ok (.invokespecial 105, 3):=by decide +kernel
theorem d11_167 : decode oc11 167 = .ok (.putfield 27, 3):=by decide +kernel
theorem d11_170 : decode oc11 170 = .ok (.aload_n 0, 1):=by decide +kernel
theorem d11_171 : decode oc11 171 = .ok (.iconst 2, 1):=by decide +kernel
theorem d11_172 : decode oc11 172 = .ok (.iload_n 1, 1):=by decide +kernel
theorem d11_173 : decode oc11 173 = .ok (.imul, 1):=by decide +kernel
theorem d11_174 : decode oc11 174 = .ok (.newarray .long, 2):=by decide +kernel
theorem d11_176 : decode oc11 176 = .ok (.putfield 21, 3):=by decide +kernel
theorem d11_179 : decode oc11 179 = .ok (.goto 10, 3):=by decide +kernel
theorem d11_189 : decode oc11 189 = .ok (.aload_n 0, 1):=by decide +kernel
theorem d11_190 : decode oc11 190 = .ok (.getfield 27, 3):=by decide +kernel
theorem d11_193 : decode oc11 193 = .ok (.iconst 0, 1):=by decide +kernel
theorem d11_194 : decode oc11 194 = .ok (.aload_n 0, 1):=by decide +kernel
theorem d11_195 : decode oc11 195 = .ok (.getfield 31, 3):=by decide +kernel
theorem d11_198 : decode oc11 198 = .ok (.invokevirtual 109, 3):=by decide +kernel
theorem d11_201 : decode oc11 201 = .ok (.aload_n 0, 1):=by decide +kernel
theorem d11_202 : decode oc11 202 = .ok (.iconst 0, 1):=by decide +kernel
theorem d11_203 : decode oc11 203 = .ok (.putfield 54, 3):=by decide +kernel
theorem d11_206 : decode oc11 206 = .ok (.aload_n 0, 1):=by decide +kernel
theorem d11_207 : decode oc11 207 = .ok (.aload_n 0, 1):=by decide +kernel
theorem d11_208 : decode oc11 208 = .ok (.getfield 31, 3):=by decide +kernel
theorem d11_211 : decode oc11 211 = .ok (.putfield 35, 3):=by decide +kernel
theorem d11_214 : decode oc11 214 = .ok (.aload_n 0, 1):=by decide +kernel
theorem d11_215 : decode oc11 215 = .ok (.getfield 21, 3):=by decide +kernel
theorem d11_218 : decode oc11 218 = .ok (.iload_n 1, 1):=by decide +kernel
theorem d11_219 : decode oc11 219 = .ok (.iconst 2, 1):=by decide +kernel
theorem d11_220 : decode oc11 220 = .ok (.iload_n 1, 1):=by decide +kernel
theorem d11_221 : decode oc11 221 = .ok (.imul, 1):=by decide +kernel
theorem d11_222 : decode oc11 222 = .ok (.ldc2_w 65, 3):=by decide +kernel
theorem d11_225 : decode oc11 225 = .ok (.invokestatic 112, 3):=by decide +kernel
theorem d11_228 : decode oc11 228 = .ok (.iconst 1, 1):=by decide +kernel
theorem d11_229 : decode oc11 229 = .ok (.istore 7, 2):=by decide +kernel
theorem d11_231 : decode oc11 231 = .ok (.iload 7, 2):=by decide +kernel
theorem d11_233 : decode oc11 233 = .ok (.aload_n 0, 1):=by decide +kernel
theorem d11_234 : decode oc11 234 = .ok (.getfield 31, 3):=by decide +kernel
theorem d11_237 : decode oc11 237 = .ok (.if_icmp .ge 35, 3):=by decide +kernel
theorem d11_272 : decode oc11 272 = .ok (.iload_n 1, 1):=by decide +kernel
theorem d11_273 : decode oc11 273 = .ok (.iconst 1, 1):=by decide +kernel
theorem d11_274 : decode oc11 274 = .ok (.isub, 1):=by decide +kernel
theorem d11_275 : decode oc11 275 = .ok (.istore 7, 2):=by decide +kernel
theorem d11_277 : decode oc11 277 = .ok (.iload 7, 2):=by decide +kernel
theorem d11_279 : decode oc11 279 = .ok (.ifCond .le 39, 3):=by decide +kernel
theorem d11_282 : decode oc11 282 = .ok (.aload_n 0, 1):=by decide +kernel
theorem d11_283 : decode oc11 283 = .ok (.getfield 21, 3):=by decide +kernel
theorem d11_286 : decode oc11 286 = .ok (.iload 7, 2):=by decide +kernel
theorem d11_288 : decode oc11 288 = .ok (.aload_n 0, 1):=by decide +kernel
theorem d11_289 : decode oc11 289 = .ok (.getfield 21, 3):=by decide +kernel
theorem d11_292 : decode oc11 292 = .ok (.iconst 2, 1):=by decide +kernel
theorem d11_293 : decode oc11 293 = .ok (.iload 7, 2):=by decide +kernel
theorem d11_295 : decode oc11 295 = .ok (.imul, 1):=by decide +kernel
theorem d11_296 : decode oc11 296 = .ok (.laload, 1):=by decide +kernel
theorem d11_297 : decode oc11 297 = .ok (.aload_n 0, 1):=by decide +kernel
theorem d11_298 : decode oc11 298 = .ok (.getfield 21, 3):=by decide +kernel
theorem d11_301 : decode oc11 301 = .ok (.iconst 2, 1):=by decide +kernel
theorem d11_302 : decode oc11 302 = .ok (.iload 7, 2):=by decide +kernel
theorem d11_304 : decode oc11 304 = .ok (.imul, 1):=by decide +kernel
theorem d11_305 : decode oc11 305 = .ok (.iconst 1, 1):=by decide +kernel
theorem d11_306 : decode oc11 306 = .ok (.iadd, 1):=by decide +kernel
theorem d11_307 : decode oc11 307 = .ok (.laload, 1):=by decide +kernel
theorem d11_308 : decode oc11 308 = .ok (.invokestatic 101, 3):=by decide +kernel
theorem d11_311 : decode oc11 311 = .ok (.lastore, 1):=by decide +kernel
theorem d11_312 : decode oc11 312 = .ok (.iinc 7 (-1), 3):=by decide +kernel
theorem d11_315 : decode oc11 315 = .ok (.goto (-38), 3):=by decide +kernel
theorem d11_318 : decode oc11 318 = .ok (.return_, 1):=by decide +kernel
theorem pn_11 : plainName oL = true := by first | (simp [plainName, overriddenIn]; done) | decide +kernel
theorem ef_rm11_1 (m : MethodId) (y0 : Addr) : entryFrame m #[(.ref y0), (.int (2 : Int32))] 8 = mkF m 0 #[oR y0, oI 2, oU, oU, oU, oU, oU, oU] [] := by first | (simp [entryFrame, mkF, argsToLocals, Value.category]; done) | rfl
def Q_rm11_1 (Z : State) (a11_0 : Addr) (rT : Addr) (rF : Addr) (rO : Addr) (rS : Addr) (rE : Addr) (rW : Addr) (kT : ClassId) (kF : ClassId) (kO : ClassId) (kW : ClassId) (bs : Int64) (T : Int64) (h0 : Heap) (n0 : Nat) (v : Option Value) (h : Heap) (L : List Loc) : Prop := v = none ∧ Fr n0 L ∧ ∃ rT' : Addr, ∃ rF' : Addr, ∃ rO' : Addr, ∃ rS' : Addr, ∃ rE' : Addr, ∃ rW' : Addr, ∃ kT' : ClassId, ∃ kF' : ClassId, ∃ kO' : ClassId, ∃ kW' : ClassId, own_Obj Z h n0 a11_0 rT' rF' rO' rS' rE' rW' kT' kF' kO' kW' (0 : Int32) (0 : Int32) (0 : Int32) bs (0 : Int32) (1 : Int32) (0 : Int64) (2 : Int32) [oZ, oZ] [oZ, oZ] [oZ, oZ] ∧ own_Sp2 Z h rS' oM oM
theorem rm11_1 (l : Launch) (Z : State) (a0 : Array Value) (hw : own_T Z a0) (a11_0 rT rF rO rS rE rW : Addr) (kT kF kO kW : ClassId) (bs T : Int64) (h0 : Heap) (n0 : Nat) (Z0 : n0 ≤ h0.size) (O : own_Obj Z h0 n0 a11_0 rT rF rO rS rE rW kT kF kO kW (0 : Int32) (0 : Int32) (0 : Int32) bs (0 : Int32) (0 : Int32) (0 : Int64) (0 : Int32) [] [] []) (SP : own_Sp0 Z h0 rS) :
   own_Met l oy11 oc11 8 none ({ frames := 3, cells := 6, slots := 14, locals := 41 } : Room) Z h0 #[(.ref a11_0), (.int (2 : Int32))] (Q_rm11_1 Z a11_0 rT rF rO rS rE rW kT kF kO kW bs T h0 n0) := by
 refine own_go hw (plainFor_of_name pn_11) (fun m => ef_rm11_1 m a11_0) fun p e s m below meth c T0 C hret X0 e0 => ?_
 have N0 := Fr.nil n0
 obtain ⟨Ea1, Ftimes1, Ffroms1, Ftotals1, Fspans1, Fentries1, Fsize1, Fend1, Ffirst1, Fbase1, Ee1, BwordsInUse1, BsizeIsSticky1, Bwords1, Vt1, Vf1, Vo1, Vw1, St1, g0_1, g1_1, g2_1, g3_1, g4_1, g5_1, g6_1, n0_1, n1_1, n2_1, n3_1, n4_1, n5_1, n6_1, n7_1, n8_1, n9_1, n10_1, n11_1, n12_1, n13_1, n14_1, n15_1, n16_1, n17_1, n18_1, n19_1, n20_1⟩ := O
 refine sI C X0 d11_0 ?_
 refine gA C X0 e0 Ftimes1 (ow17 C.w) d11_1 d11_2 fun T2 X2 e2 => ?_
 refine nA C X2 e2 Vt1 d11_5 ?_
 refine cN C X2 d11_6 ((feq (by decide : ¬ ((2 : Int32) = (0 : Int32)))).1) ?_
 refine sC C X2 d11_9 ?_
 refine sG C X2 d11_10 14 ?_
 refine wI C X2 #[oR a11_0, oI 2, oI 1, oU, oU, oU, oU, oU] d11_14 ?_
 refine sI C X2 d11_15 ?_
 refine bN C X2 d11_16 ((if0 _ _).trans (feq (by decide : ¬ ((1 : Int32) = (0 : Int32)))).1) ?_
 refine sI C X2 d11_19 ?_
 refine nP C X2 e2 (n := (2 : Int32)) 2 [oZ, oZ] (ow16 C.w) d11_20 fun T3 h3 k3 b3 g3 X3 e3 E3 V_b3 => ?_
 have ne_a11_0_b3 : a11_0 ≠ b3 := Nat.ne_of_lt (Nat.lt_of_lt_of_le (Nat.lt_of_lt_of_le Ea1.lt (Nat.le_refl _)) (Nat.le_of_eq g3.symm))
 have ne_rE_b3 : rE ≠ b3 := Nat.ne_of_lt (Nat.lt_of_lt_of_le (Nat.lt_of_lt_of_le Ee1.lt (Nat.le_refl _)) (Nat.le_of_eq g3.symm))
 have ne_rT_b3 : rT ≠ b3 := Nat.ne_of_lt (Nat.lt_of_lt_of_le (Nat.lt_of_lt_of_le Vt1.lt (Nat.le_refl _)) (Nat.le_of_eq g3.symm))
 have ne_rF_b3 : rF ≠ b3 := Nat.ne_of_lt (Nat.lt_of_lt_of_le (Nat.lt_of_lt_of_le Vf1.lt (Nat.le_refl _)) (Nat.le_of_eq g3.symm))
 have ne_rO_b3 : rO ≠ b3 := Nat.ne_of_lt (Nat.lt_of_lt_of_le (Nat.lt_of_lt_of_le Vo1.lt (Nat.le_refl _)) (Nat.le_of_eq g3.symm))
 have ne_rW_b3 : rW ≠ b3 := Nat.ne_of_lt (Nat.lt_of_lt_of_le (Nat.lt_of_lt_of_le Vw1.lt (Nat.le_refl _)) (Nat.le_of_eq g3.symm))
 have ne_rS_b3 : rS ≠ b3 := Nat.ne_of_lt (Nat.lt_of_lt_of_le (Nat.lt_of_lt_of_le SP.lt (Nat.le_refl _)) (Nat.le_of_eq g3.symm))
 have g_b3 : n0 ≤ b3 := Nat.le_trans Z0 (Nat.le_of_eq g3.symm)
 have S3 : own_StK Z h0 h3 := (own_StK.refl Z h0).ext E3
 have Y3 : h0.size ≤ h3.size := Nat.le_trans (Nat.le_refl _) E3.1
 refine sG C X3 d11_22 29 ?_
 refine wA C X3 #[oR a11_0, oI 2, oI 1, oR b3, oU, oU, oU, oU] d11_29 ?_
 refine sI C X3 d11_30 ?_
 refine bN C X3 d11_31 ((if0 _ _).trans (feq (by decide : ¬ ((1 : Int32) = (0 : Int32)))).1) ?_
 refine sI C X3 d11_34 ?_
 refine nP C X3 e3 (n := (2 : Int32)) 2 [oZ, oZ] (ow16 C.w) d11_35 fun T4 h4 k4 b4 g4 X4 e4 E4 V_b4 => ?_
 have ne_a11_0_b4 : a11_0 ≠ b4 := Nat.ne_of_lt (Nat.lt_of_lt_of_le (Nat.lt_of_lt_of_le Ea1.lt Y3) (Nat.le_of_eq g4.symm))
 have ne_rE_b4 : rE ≠ b4 := Nat.ne_of_lt (Nat.lt_of_lt_of_le (Nat.lt_of_lt_of_le Ee1.lt Y3) (Nat.le_of_eq g4.symm))
 have ne_rT_b4 : rT ≠ b4 := Nat.ne_of_lt (Nat.lt_of_lt_of_le (Nat.lt_of_lt_of_le Vt1.lt Y3) (Nat.le_of_eq g4.symm))
 have ne_rF_b4 : rF ≠ b4 := Nat.ne_of_lt (Nat.lt_of_lt_of_le (Nat.lt_of_lt_of_le Vf1.lt Y3) (Nat.le_of_eq g4.symm))
 have ne_rO_b4 : rO ≠ b4 := Nat.ne_of_lt (Nat.lt_of_lt_of_le (Nat.lt_of_lt_of_le Vo1.lt Y3) (Nat.le_of_eq g4.symm))
 have ne_rW_b4 : rW ≠ b4 := Nat.ne_of_lt (Nat.lt_of_lt_of_le (Nat.lt_of_lt_of_le Vw1.lt Y3) (Nat.le_of_eq g4.symm))
 have ne_rS_b4 : rS ≠ b4 := Nat.ne_of_lt (Nat.lt_of_lt_of_le (Nat.lt_of_lt_of_le SP.lt Y3) (Nat.le_of_eq g4.symm))
 have ne_b3_b4 : b3 ≠ b4 := Nat.ne_of_lt (Nat.lt_of_lt_of_le V_b3.lt (Nat.le_of_eq g4.symm))
 have g_b4 : n0 ≤ b4 := Nat.le_trans (Nat.le_trans Z0 Y3) (Nat.le_of_eq g4.symm)
 have S4 : own_StK Z h0 h4 := S3.ext E4
 have Y4 : h0.size ≤ h4.size := Nat.le_trans Y3 E4.1
 refine sG C X4 d11_37 44 ?_
 refine wa C X4 #[oR a11_0, oI 2, oI 1, oR b3, oR b4, oU, oU, oU] d11_44 ?_
 refine sI C X4 d11_46 ?_
 refine bN C X4 d11_47 ((if0 _ _).trans (feq (by decide : ¬ ((1 : Int32) = (0 : Int32)))).1) ?_
 refine sI C X4 d11_50 ?_
 have f5 := (V_b3.ext E4)
 refine nP C X4 e4 (n := (2 : Int32)) 2 [oZ, oZ] (ow16 C.w) d11_51 fun T6 h6 k6 b6 g6 X6 e6 E6 V_b6 => ?_
 have ne_a11_0_b6 : a11_0 ≠ b6 := Nat.ne_of_lt (Nat.lt_of_lt_of_le (Nat.lt_of_lt_of_le Ea1.lt Y4) (Nat.le_of_eq g6.symm))
 have ne_rE_b6 : rE ≠ b6 := Nat.ne_of_lt (Nat.lt_of_lt_of_le (Nat.lt_of_lt_of_le Ee1.lt Y4) (Nat.le_of_eq g6.symm))
 have ne_rT_b6 : rT ≠ b6 := Nat.ne_of_lt (Nat.lt_of_lt_of_le (Nat.lt_of_lt_of_le Vt1.lt Y4) (Nat.le_of_eq g6.symm))
 have ne_rF_b6 : rF ≠ b6 := Nat.ne_of_lt (Nat.lt_of_lt_of_le (Nat.lt_of_lt_of_le Vf1.lt Y4) (Nat.le_of_eq g6.symm))
 have ne_rO_b6 : rO ≠ b6 := Nat.ne_of_lt (Nat.lt_of_lt_of_le (Nat.lt_of_lt_of_le Vo1.lt Y4) (Nat.le_of_eq g6.symm))
 have ne_rW_b6 : rW ≠ b6 := Nat.ne_of_lt (Nat.lt_of_lt_of_le (Nat.lt_of_lt_of_le Vw1.lt Y4) (Nat.le_of_eq g6.symm))
 have ne_rS_b6 : rS ≠ b6 := Nat.ne_of_lt (Nat.lt_of_lt_of_le (Nat.lt_of_lt_of_le SP.lt Y4) (Nat.le_of_eq g6.symm))
 have ne_b3_b6 : b3 ≠ b6 := Nat.ne_of_lt (Nat.lt_of_lt_of_le f5.lt (Nat.le_of_eq g6.symm))
 have ne_b4_b6 : b4 ≠ b6 := Nat.ne_of_lt (Nat.lt_of_lt_of_le V_b4.lt (Nat.le_of_eq g6.symm))
 have g_b6 : n0 ≤ b6 := Nat.le_trans (Nat.le_trans Z0 Y4) (Nat.le_of_eq g6.symm)
 have S6 : own_StK Z h0 h6 := S4.ext E6
 have Y6 : h0.size ≤ h6.size := Nat.le_trans Y4 E6.1
 refine sG C X6 d11_53 60 ?_
 refine wa C X6 #[oR a11_0, oI 2, oI 1, oR b3, oR b4, oR b6, oU, oU] d11_60 ?_
 refine sC C X6 d11_62 ?_
 refine wi C X6 #[oR a11_0, oI 2, oI 1, oR b3, oR b4, oR b6, oI 0, oU] d11_63 ?_
 have f7 := (((Fentries1.ext E3).ext E4).ext E6)
 refine gA C X6 e6 f7 (ow46 C.w) d11_65 d11_66 fun T8 X8 e8 => ?_
 have f9 := (((Ffirst1.ext E3).ext E4).ext E6)
 refine gA C X8 e8 f9 (ow74 C.w) d11_69 d11_70 fun T10 X10 e10 => ?_
 have f11 := (((Vw1.ext E3).ext E4).ext E6)
 have f12 := (((Ee1.ext E3).ext E4).ext E6)
 have f13 := (((BwordsInUse1.ext E3).ext E4).ext E6)
 have f14 := (((BsizeIsSticky1.ext E3).ext E4).ext E6)
 have f15 := (((Bwords1.ext E3).ext E4).ext E6)
 refine cV C X10 e10 (rm12_1 l Z a0 C.w rE rW kW (0 : Int64) h6 n0 (Nat.le_trans Z0 Y6) f12 f13 f14 f15 f11 (S6 _ _ _ _ St1)) f12 (W := 0) (ow76 C.w) (ow77 C.w) (ow79 C.w) (ow78 C.w) (ow80 C.w) (ow27 C.w) (argsL := [(.int (0 : Int32))]) (lenOf pd__I_I rfl) d11_73 fun v16 T16 lo16 X16 hQ16 => ?_
 obtain ⟨rfl, Nq16, e16⟩ := hQ16
 refine wi C X16 #[oR a11_0, oI 2, oI 1, oR b3, oR b4, oR b6, oI 0, oI (-1)] d11_76 ?_
 refine si C X16 d11_78 ?_
 refine bY C X16 d11_80 137 ((if0 _ _).trans (tlt (by decide : (-1 : Int32) < (0 : Int32))).1) ?_
 refine sA C X16 d11_137 ?_
 refine sA C X16 d11_138 ?_
 have f17 := (((Ea1.ext E3).ext E4).ext E6)
 have f18 := (((Ftimes1.ext E3).ext E4).ext E6)
 refine pF C X16 e16 (N0.app Nq16) g0_1 f18 f17 (ty := (.array .long)) (ow17 C.w) (ow18 C.w) (ow8 C.w) (by decide) d11_139 fun T19 h19 lo19 X19 e19 N19 W19 F19 => ?_
 have S19 : own_StK Z h0 h19 := S6.wr W19
 have Y19 : h0.size ≤ h19.size := Nat.le_trans Y6 (Nat.le_of_eq W19.size.symm)
 refine sA C X19 d11_142 ?_
 refine sa C X19 d11_143 ?_
 have f20 := (f17.wr W19)
 have f21 := ((((Ffroms1.ext E3).ext E4).ext E6).other W19 (Or.inr (slot_ne (Or.inl (ow20 hw)) (Or.inl (ow18 hw)) (by decide) (t := (.array .long)) (t' := (.array .long)) (by decide) (by decide))))
 refine pF C X19 e19 N19 g0_1 f21 f20 (ty := (.array .long)) (ow19 C.w) (ow20 C.w) (ow8 C.w) (by decide) d11_145 fun T22 h22 lo22 X22 e22 N22 W22 F22 => ?_
 have S22 : own_StK Z h0 h22 := S19.wr W22
 have Y22 : h0.size ≤ h22.size := Nat.le_trans Y19 (Nat.le_of_eq W22.size.symm)
 refine sA C X22 d11_148 ?_
 refine sa C X22 d11_149 ?_
 have f23 := (f20.wr W22)
 have f24 := (((((Ftotals1.ext E3).ext E4).ext E6).other W19 (Or.inr (slot_ne (Or.inl (ow22 hw)) (Or.inl (ow18 hw)) (by decide) (t := (.array .long)) (t' := (.array .long)) (by decide) (by decide)))).other W22 (Or.inr (slot_ne (Or.inl (ow22 hw)) (Or.inl (ow20 hw)) (by decide) (t := (.array .long)) (t' := (.array .long)) (by decide) (by decide))))
 refine pF C X22 e22 N22 g0_1 f24 f23 (ty := (.array .long)) (ow21 C.w) (ow22 C.w) (ow8 C.w) (by decide) d11_151 fun T25 h25 lo25 X25 e25 N25 W25 F25 => ?_
 have S25 : own_StK Z h0 h25 := S22.wr W25
 have Y25 : h0.size ≤ h25.size := Nat.le_trans Y22 (Nat.le_of_eq W25.size.symm)
 refine sI C X25 d11_154 ?_
 refine bN C X25 d11_155 ((if0 _ _).trans (feq (by decide : ¬ ((1 : Int32) = (0 : Int32)))).1) ?_
 refine sA C X25 d11_158 ?_
 have f26 := ((((f5.ext E6).other W19 (Ne.symm ne_a11_0_b3)).other W22 (Ne.symm ne_a11_0_b3)).other W25 (Ne.symm ne_a11_0_b3))
 have f27 := ((((V_b4.ext E6).other W19 (Ne.symm ne_a11_0_b4)).other W22 (Ne.symm ne_a11_0_b4)).other W25 (Ne.symm ne_a11_0_b4))
 have f28 := (((V_b6.other W19 (Ne.symm ne_a11_0_b6)).other W22 (Ne.symm ne_a11_0_b6)).other W25 (Ne.symm ne_a11_0_b6))
 refine nO C X25 e25 (ow25 C.w) (ow26 C.w) (ow27 C.w) d11_159 fun T29 h29 b29 g29 X29 e29 E29 A29 D29 => ?_
 have ne_a11_0_b29 : a11_0 ≠ b29 := Nat.ne_of_lt (Nat.lt_of_lt_of_le (Nat.lt_of_lt_of_le Ea1.lt Y25) (Nat.le_of_eq g29.symm))
 have ne_rE_b29 : rE ≠ b29 := Nat.ne_of_lt (Nat.lt_of_lt_of_le (Nat.lt_of_lt_of_le Ee1.lt Y25) (Nat.le_of_eq g29.symm))
 have ne_rT_b29 : rT ≠ b29 := Nat.ne_of_lt (Nat.lt_of_lt_of_le (Nat.lt_of_lt_of_le Vt1.lt Y25) (Nat.le_of_eq g29.symm))
 have ne_rF_b29 : rF ≠ b29 := Nat.ne_of_lt (Nat.lt_of_lt_of_le (Nat.lt_of_lt_of_le Vf1.lt Y25) (Nat.le_of_eq g29.symm))
 have ne_rO_b29 : rO ≠ b29 := Nat.ne_of_lt (Nat.lt_of_lt_of_le (Nat.lt_of_lt_of_le Vo1.lt Y25) (Nat.le_of_eq g29.symm))
 have ne_rW_b29 : rW ≠ b29 := Nat.ne_of_lt (Nat.lt_of_lt_of_le (Nat.lt_of_lt_of_le Vw1.lt Y25) (Nat.le_of_eq g29.symm))
 have ne_rS_b29 : rS ≠ b29 := Nat.ne_of_lt (Nat.lt_of_lt_of_le (Nat.lt_of_lt_of_le SP.lt Y25) (Nat.le_of_eq g29.symm))
 have ne_b3_b29 : b3 ≠ b29 := Nat.ne_of_lt (Nat.lt_of_lt_of_le f26.lt (Nat.le_of_eq g29.symm))
 have ne_b4_b29 : b4 ≠ b29 := Nat.ne_of_lt (Nat.lt_of_lt_of_le f27.lt (Nat.le_of_eq g29.symm))
 have ne_b6_b29 : b6 ≠ b29 := Nat.ne_of_lt (Nat.lt_of_lt_of_le f28.lt (Nat.le_of_eq g29.symm))
 have F_wordsInUse_b29 : Fld Z h29 b29 oB "wordsInUse" "I" (.int (0 : Int32)) := D29 (Or.inl (ow33 hw)) (ty := .int) (by decide)
 have F_sizeIsSticky_b29 : Fld Z h29 b29 oB "sizeIsSticky" "Z" (.int (0 : Int32)) := D29 (Or.inl (ow35 hw)) (ty := .boolean) (by decide)
 have F_words_b29 : Fld Z h29 b29 oB "words" "[J" .null := D29 (Or.inl (ow45 hw)) (ty := (.array .long)) (by decide)
 have g_b29 : n0 ≤ b29 := Nat.le_trans (Nat.le_trans Z0 Y25) (Nat.le_of_eq g29.symm)
 have S29 : own_StK Z h0 h29 := S25.ext E29
 have Y29 : h0.size ≤ h29.size := Nat.le_trans Y25 E29.1
 refine sD C X29 d11_162 ?_
 refine sI C X29 d11_163 ?_
 have f31 := ((f23.wr W25).ext E29)
 have f32 := ((((f12.wr W19).wr W22).wr W25).ext E29)
 have f33 := (((((((Vt1.ext E3).ext E4).ext E6).other W19 (Ne.symm n0_1)).other W22 (Ne.symm n0_1)).other W25 (Ne.symm n0_1)).ext E29)
 have f34 := (((((((Vf1.ext E3).ext E4).ext E6).other W19 (Ne.symm n1_1)).other W22 (Ne.symm n1_1)).other W25 (Ne.symm n1_1)).ext E29)
 have f35 := (((((((Vo1.ext E3).ext E4).ext E6).other W19 (Ne.symm n2_1)).other W22 (Ne.symm n2_1)).other W25 (Ne.symm n2_1)).ext E29)
 have f36 := ((((f11.other W19 (Ne.symm n5_1)).other W22 (Ne.symm n5_1)).other W25 (Ne.symm n5_1)).ext E29)
 have f37 := (((((((SP.ext E3).ext E4).ext E6).other W19 (Ne.symm n3_1)).other W22 (Ne.symm n3_1)).other W25 (Ne.symm n3_1)).ext E29)
 have f38 := (f26.ext E29)
 have f39 := (f27.ext E29)
 have f40 := (f28.ext E29)
 refine cI C X29 e29 (rm14_1 l Z a0 C.w b29 h29 n0 (Nat.le_trans Z0 Y29) A29 F_wordsInUse_b29 F_sizeIsSticky_b29 F_words_b29 g_b29) (W := 2) (ow87 C.w) (ow88 C.w) (ow89 C.w) (ow27 C.w) (argsL := [(.int (2 : Int32))]) (lenOf pd__I_V rfl) d11_164 fun v30 T30 lo30 X30 hQ30 => ?_
 obtain ⟨bx14_0_30, kx14_0_30, rfl, Nq30, Kc30, Sc30, P30_0, P30_1, P30_2, P30_3, P30_4, P30_5⟩ := hQ30
 have S30 : own_StK Z h0 T30.heap := S29.tr Sc30
 have Y30 : h0.size ≤ T30.heap.size := Nat.le_trans Y29 Kc30.1
 have g_bx14_0_30 : n0 ≤ bx14_0_30 := Nat.le_trans (Nat.le_trans Z0 Y29) P30_0
 have ne_a11_0_bx14_0_30 : a11_0 ≠ bx14_0_30 := Nat.ne_of_lt (Nat.lt_of_lt_of_le f31.lt P30_0)
 have ne_rE_bx14_0_30 : rE ≠ bx14_0_30 := Nat.ne_of_lt (Nat.lt_of_lt_of_le f32.lt P30_0)
 have ne_rT_bx14_0_30 : rT ≠ bx14_0_30 := Nat.ne_of_lt (Nat.lt_of_lt_of_le f33.lt P30_0)
 have ne_rF_bx14_0_30 : rF ≠ bx14_0_30 := Nat.ne_of_lt (Nat.lt_of_lt_of_le f34.lt P30_0)
 have ne_rO_bx14_0_30 : rO ≠ bx14_0_30 := Nat.ne_of_lt (Nat.lt_of_lt_of_le f35.lt P30_0)
 have ne_rW_bx14_0_30 : rW ≠ bx14_0_30 := Nat.ne_of_lt (Nat.lt_of_lt_of_le f36.lt P30_0)
 have ne_rS_bx14_0_30 : rS ≠ bx14_0_30 := Nat.ne_of_lt (Nat.lt_of_lt_of_le f37.lt P30_0)
 have ne_b3_bx14_0_30 : b3 ≠ bx14_0_30 := Nat.ne_of_lt (Nat.lt_of_lt_of_le f38.lt P30_0)
 have ne_b4_bx14_0_30 : b4 ≠ bx14_0_30 := Nat.ne_of_lt (Nat.lt_of_lt_of_le f39.lt P30_0)
 have ne_b6_bx14_0_30 : b6 ≠ bx14_0_30 := Nat.ne_of_lt (Nat.lt_of_lt_of_le f40.lt P30_0)
 have ne_b29_bx14_0_30 : b29 ≠ bx14_0_30 := Nat.ne_of_lt (Nat.lt_of_lt_of_le A29.lt P30_0)
 have f41 := (f31.keep Kc30)
 have f42 := (((((f7.other W19 (Or.inr (slot_ne (Or.inl (ow47 hw)) (Or.inl (ow18 hw)) (by decide) (t := (.object oB)) (t' := (.array .long)) (by decide) (by decide)))).other W22 (Or.inr (slot_ne (Or.inl (ow47 hw)) (Or.inl (ow20 hw)) (by decide) (t := (.object oB)) (t' := (.array .long)) (by decide) (by decide)))).other W25 (Or.inr (slot_ne (Or.inl (ow47 hw)) (Or.inl (ow22 hw)) (by decide) (t := (.object oB)) (t' := (.array .long)) (by decide) (by decide)))).ext E29).keep Kc30 (ninS ne_a11_0_b29 nin0))
 refine pF C X30 rfl (N25.app Nq30) g0_1 f42 f41 (ty := (.object oB)) (ow46 C.w) (ow47 C.w) (ow8 C.w) (by decide) d11_167 fun T43 h43 lo43 X43 e43 N43 W43 F43 => ?_
 have S43 : own_StK Z h0 h43 := S30.wr W43
 have Y43 : h0.size ≤ h43.size := Nat.le_trans Y30 (Nat.le_of_eq W43.size.symm)
 refine sA C X43 d11_170 ?_
 refine sC C X43 d11_171 ?_
 refine sI C X43 d11_172 ?_
 refine sM C X43 d11_173 ?_
 have f44 := ((f38.keep Kc30 (ninS ne_b3_b29 nin0)).other W43 (Ne.symm ne_a11_0_b3))
 have f45 := ((f39.keep Kc30 (ninS ne_b4_b29 nin0)).other W43 (Ne.symm ne_a11_0_b4))
 have f46 := ((f40.keep Kc30 (ninS ne_b6_b29 nin0)).other W43 (Ne.symm ne_a11_0_b6))
 have f47 := (P30_1.wr W43)
 have f48 := (P30_5.other W43 (Ne.symm ne_a11_0_bx14_0_30))
 refine nP C X43 e43 (n := (4 : Int32)) 4 [oZ, oZ, oZ, oZ] (ow16 C.w) d11_174 fun T49 h49 k49 b49 g49 X49 e49 E49 V_b49 => ?_
 have ne_a11_0_b49 : a11_0 ≠ b49 := Nat.ne_of_lt (Nat.lt_of_lt_of_le (Nat.lt_of_lt_of_le Ea1.lt Y43) (Nat.le_of_eq g49.symm))
 have ne_rE_b49 : rE ≠ b49 := Nat.ne_of_lt (Nat.lt_of_lt_of_le (Nat.lt_of_lt_of_le Ee1.lt Y43) (Nat.le_of_eq g49.symm))
 have ne_rT_b49 : rT ≠ b49 := Nat.ne_of_lt (Nat.lt_of_lt_of_le (Nat.lt_of_lt_of_le Vt1.lt Y43) (Nat.le_of_eq g49.symm))
 have ne_rF_b49 : rF ≠ b49 := Nat.ne_of_lt (Nat.lt_of_lt_of_le (Nat.lt_of_lt_of_le Vf1.lt Y43) (Nat.le_of_eq g49.symm))
 have ne_rO_b49 : rO ≠ b49 := Nat.ne_of_lt (Nat.lt_of_lt_of_le (Nat.lt_of_lt_of_le Vo1.lt Y43) (Nat.le_of_eq g49.symm))
 have ne_rW_b49 : rW ≠ b49 := Nat.ne_of_lt (Nat.lt_of_lt_of_le (Nat.lt_of_lt_of_le Vw1.lt Y43) (Nat.le_of_eq g49.symm))
 have ne_rS_b49 : rS ≠ b49 := Nat.ne_of_lt (Nat.lt_of_lt_of_le (Nat.lt_of_lt_of_le SP.lt Y43) (Nat.le_of_eq g49.symm))
 have ne_b3_b49 : b3 ≠ b49 := Nat.ne_of_lt (Nat.lt_of_lt_of_le f44.lt (Nat.le_of_eq g49.symm))
 have ne_b4_b49 : b4 ≠ b49 := Nat.ne_of_lt (Nat.lt_of_lt_of_le f45.lt (Nat.le_of_eq g49.symm))
 have ne_b6_b49 : b6 ≠ b49 := Nat.ne_of_lt (Nat.lt_of_lt_of_le f46.lt (Nat.le_of_eq g49.symm))
 have ne_b29_b49 : b29 ≠ b49 := Nat.ne_of_lt (Nat.lt_of_lt_of_le f47.lt (Nat.le_of_eq g49.symm))
 have ne_bx14_0_30_b49 : bx14_0_30 ≠ b49 := Nat.ne_of_lt (Nat.lt_of_lt_of_le f48.lt (Nat.le_of_eq g49.symm))
 have g_b49 : n0 ≤ b49 := Nat.le_trans (Nat.le_trans Z0 Y43) (Nat.le_of_eq g49.symm)
 have S49 : own_StK Z h0 h49 := S43.ext E49
 have Y49 : h0.size ≤ h49.size := Nat.le_trans Y43 E49.1
 have f50 := ((f41.wr W43).ext E49)
 have f51 := ((((((((((Fspans1.ext E3).ext E4).ext E6).other W19 (Or.inr (slot_ne (Or.inl (ow24 hw)) (Or.inl (ow18 hw)) (by decide) (t := (.array .long)) (t' := (.array .long)) (by decide) (by decide)))).other W22 (Or.inr (slot_ne (Or.inl (ow24 hw)) (Or.inl (ow20 hw)) (by decide) (t := (.array .long)) (t' := (.array .long)) (by decide) (by decide)))).other W25 (Or.inr (slot_ne (Or.inl (ow24 hw)) (Or.inl (ow22 hw)) (by decide) (t := (.array .long)) (t' := (.array .long)) (by decide) (by decide)))).ext E29).keep Kc30 (ninS ne_a11_0_b29 nin0)).other W43 (Or.inr (slot_ne (Or.inl (ow24 hw)) (Or.inl (ow47 hw)) (by decide) (t := (.array .long)) (t' := (.object oB)) (by decide) (by decide)))).ext E49)
 refine pF C X49 e49 N43 g0_1 f51 f50 (ty := (.array .long)) (ow23 C.w) (ow24 C.w) (ow8 C.w) (by decide) d11_176 fun T52 h52 lo52 X52 e52 N52 W52 F52 => ?_
 have S52 : own_StK Z h0 h52 := S49.wr W52
 have Y52 : h0.size ≤ h52.size := Nat.le_trans Y49 (Nat.le_of_eq W52.size.symm)
 refine sG C X52 d11_179 189 ?_
 have f53 := ((F43.ext E49).other W52 (Or.inr (slot_ne (Or.inl (ow47 hw)) (Or.inl (ow24 hw)) (by decide) (t := (.object oB)) (t' := (.array .long)) (by decide) (by decide))))
 refine gA C X52 e52 f53 (ow46 C.w) d11_189 d11_190 fun T54 X54 e54 => ?_
 refine sC C X54 d11_193 ?_
 have f55 := (((((((((((Fsize1.ext E3).ext E4).ext E6).other W19 (Or.inr (slot_ne (Or.inl (ow54 hw)) (Or.inl (ow18 hw)) (by decide) (t := .int) (t' := (.array .long)) (by decide) (by decide)))).other W22 (Or.inr (slot_ne (Or.inl (ow54 hw)) (Or.inl (ow20 hw)) (by decide) (t := .int) (t' := (.array .long)) (by decide) (by decide)))).other W25 (Or.inr (slot_ne (Or.inl (ow54 hw)) (Or.inl (ow22 hw)) (by decide) (t := .int) (t' := (.array .long)) (by decide) (by decide)))).ext E29).keep Kc30 (ninS ne_a11_0_b29 nin0)).other W43 (Or.inr (slot_ne (Or.inl (ow54 hw)) (Or.inl (ow47 hw)) (by decide) (t := .int) (t' := (.object oB)) (by decide) (by decide)))).ext E49).other W52 (Or.inr (slot_ne (Or.inl (ow54 hw)) (Or.inl (ow24 hw)) (by decide) (t := .int) (t' := (.array .long)) (by decide) (by decide))))
 refine gA C X54 e54 f55 (ow53 C.w) d11_194 d11_195 fun T56 X56 e56 => ?_
 have f57 := ((f48.ext E49).other W52 (Ne.symm ne_a11_0_bx14_0_30))
 have f58 := ((f47.ext E49).wr W52)
 have f59 := (((P30_2.other W43 (Or.inl (Ne.symm ne_a11_0_b29))).ext E49).other W52 (Or.inl (Ne.symm ne_a11_0_b29)))
 have f60 := (((P30_3.other W43 (Or.inl (Ne.symm ne_a11_0_b29))).ext E49).other W52 (Or.inl (Ne.symm ne_a11_0_b29)))
 have f61 := (((P30_4.other W43 (Or.inl (Ne.symm ne_a11_0_b29))).ext E49).other W52 (Or.inl (Ne.symm ne_a11_0_b29)))
 refine cV C X56 e56 (rm15_1 l Z a0 C.w b29 bx14_0_30 kx14_0_30 (0 : Int64) h52 n0 (Nat.le_trans Z0 Y52) f58 f59 f60 f61 f57) f58 (W := 0) (ow90 C.w) (ow91 C.w) (ow93 C.w) (ow92 C.w) (ow94 C.w) (ow27 C.w) (argsL := [(.int (0 : Int32)), (.int (0 : Int32))]) (lenOf pd__II_V rfl) d11_198 fun v62 T62 lo62 X62 hQ62 => ?_
 obtain ⟨rfl, Nq62, e62⟩ := hQ62
 refine sA C X62 d11_201 ?_
 refine sC C X62 d11_202 ?_
 have f63 := (f50.wr W52)
 have f64 := ((((((((f9.other W19 (Or.inr (slot_ne (Or.inl (ow75 hw)) (Or.inl (ow18 hw)) (by decide) (t := .int) (t' := (.array .long)) (by decide) (by decide)))).other W22 (Or.inr (slot_ne (Or.inl (ow75 hw)) (Or.inl (ow20 hw)) (by decide) (t := .int) (t' := (.array .long)) (by decide) (by decide)))).other W25 (Or.inr (slot_ne (Or.inl (ow75 hw)) (Or.inl (ow22 hw)) (by decide) (t := .int) (t' := (.array .long)) (by decide) (by decide)))).ext E29).keep Kc30 (ninS ne_a11_0_b29 nin0)).other W43 (Or.inr (slot_ne (Or.inl (ow75 hw)) (Or.inl (ow47 hw)) (by decide) (t := .int) (t' := (.object oB)) (by decide) (by decide)))).ext E49).other W52 (Or.inr (slot_ne (Or.inl (ow75 hw)) (Or.inl (ow24 hw)) (by decide) (t := .int) (t' := (.array .long)) (by decide) (by decide))))
 refine pF C X62 e62 (N52.app Nq62) g0_1 f64 f63 (ty := .int) (ow74 C.w) (ow75 C.w) (ow8 C.w) (by decide) d11_203 fun T65 h65 lo65 X65 e65 N65 W65 F65 => ?_
 have S65 : own_StK Z h0 h65 := S52.wr W65
 have Y65 : h0.size ≤ h65.size := Nat.le_trans Y52 (Nat.le_of_eq W65.size.symm)
 refine sA C X65 d11_206 ?_
 have f66 := (f55.other W65 (Or.inr (slot_ne (Or.inl (ow54 hw)) (Or.inl (ow75 hw)) (by decide) (t := .int) (t' := .int) (by decide) (by decide))))
 refine gA C X65 e65 f66 (ow53 C.w) d11_207 d11_208 fun T67 X67 e67 => ?_
 have f68 := (f63.wr W65)
 have f69 := ((((((((((((Fend1.ext E3).ext E4).ext E6).other W19 (Or.inr (slot_ne (Or.inl (ow56 hw)) (Or.inl (ow18 hw)) (by decide) (t := .int) (t' := (.array .long)) (by decide) (by decide)))).other W22 (Or.inr (slot_ne (Or.inl (ow56 hw)) (Or.inl (ow20 hw)) (by decide) (t := .int) (t' := (.array .long)) (by decide) (by decide)))).other W25 (Or.inr (slot_ne (Or.inl (ow56 hw)) (Or.inl (ow22 hw)) (by decide) (t := .int) (t' := (.array .long)) (by decide) (by decide)))).ext E29).keep Kc30 (ninS ne_a11_0_b29 nin0)).other W43 (Or.inr (slot_ne (Or.inl (ow56 hw)) (Or.inl (ow47 hw)) (by decide) (t := .int) (t' := (.object oB)) (by decide) (by decide)))).ext E49).other W52 (Or.inr (slot_ne (Or.inl (ow56 hw)) (Or.inl (ow24 hw)) (by decide) (t := .int) (t' := (.array .long)) (by decide) (by decide)))).other W65 (Or.inr (slot_ne (Or.inl (ow56 hw)) (Or.inl (ow75 hw)) (by decide) (t := .int) (t' := .int) (by decide) (by decide))))
 refine pF C X67 e67 N65 g0_1 f69 f68 (ty := .int) (ow55 C.w) (ow56 C.w) (ow8 C.w) (by decide) d11_211 fun T70 h70 lo70 X70 e70 N70 W70 F70 => ?_
 have S70 : own_StK Z h0 h70 := S65.wr W70
 have Y70 : h0.size ≤ h70.size := Nat.le_trans Y65 (Nat.le_of_eq W70.size.symm)
 have f71 := (((V_b49.other W52 (Ne.symm ne_a11_0_b49)).other W65 (Ne.symm ne_a11_0_b49)).other W70 (Ne.symm ne_a11_0_b49))
 have f72 := (f68.wr W70)
 have f73 := (((((((((F19.other W22 (Or.inr (slot_ne (Or.inl (ow18 hw)) (Or.inl (ow20 hw)) (by decide) (t := (.array .long)) (t' := (.array .long)) (by decide) (by decide)))).other W25 (Or.inr (slot_ne (Or.inl (ow18 hw)) (Or.inl (ow22 hw)) (by decide) (t := (.array .long)) (t' := (.array .long)) (by decide) (by decide)))).ext E29).keep Kc30 (ninS ne_a11_0_b29 nin0)).other W43 (Or.inr (slot_ne (Or.inl (ow18 hw)) (Or.inl (ow47 hw)) (by decide) (t := (.array .long)) (t' := (.object oB)) (by decide) (by decide)))).ext E49).other W52 (Or.inr (slot_ne (Or.inl (ow18 hw)) (Or.inl (ow24 hw)) (by decide) (t := (.array .long)) (t' := (.array .long)) (by decide) (by decide)))).other W65 (Or.inr (slot_ne (Or.inl (ow18 hw)) (Or.inl (ow75 hw)) (by decide) (t := (.array .long)) (t' := .int) (by decide) (by decide)))).other W70 (Or.inr (slot_ne (Or.inl (ow18 hw)) (Or.inl (ow56 hw)) (by decide) (t := (.array .long)) (t' := .int) (by decide) (by decide))))
 have f74 := ((((((((F22.other W25 (Or.inr (slot_ne (Or.inl (ow20 hw)) (Or.inl (ow22 hw)) (by decide) (t := (.array .long)) (t' := (.array .long)) (by decide) (by decide)))).ext E29).keep Kc30 (ninS ne_a11_0_b29 nin0)).other W43 (Or.inr (slot_ne (Or.inl (ow20 hw)) (Or.inl (ow47 hw)) (by decide) (t := (.array .long)) (t' := (.object oB)) (by decide) (by decide)))).ext E49).other W52 (Or.inr (slot_ne (Or.inl (ow20 hw)) (Or.inl (ow24 hw)) (by decide) (t := (.array .long)) (t' := (.array .long)) (by decide) (by decide)))).other W65 (Or.inr (slot_ne (Or.inl (ow20 hw)) (Or.inl (ow75 hw)) (by decide) (t := (.array .long)) (t' := .int) (by decide) (by decide)))).other W70 (Or.inr (slot_ne (Or.inl (ow20 hw)) (Or.inl (ow56 hw)) (by decide) (t := (.array .long)) (t' := .int) (by decide) (by decide))))
 have f75 := (((((((F25.ext E29).keep Kc30 (ninS ne_a11_0_b29 nin0)).other W43 (Or.inr (slot_ne (Or.inl (ow22 hw)) (Or.inl (ow47 hw)) (by decide) (t := (.array .long)) (t' := (.object oB)) (by decide) (by decide)))).ext E49).other W52 (Or.inr (slot_ne (Or.inl (ow22 hw)) (Or.inl (ow24 hw)) (by decide) (t := (.array .long)) (t' := (.array .long)) (by decide) (by decide)))).other W65 (Or.inr (slot_ne (Or.inl (ow22 hw)) (Or.inl (ow75 hw)) (by decide) (t := (.array .long)) (t' := .int) (by decide) (by decide)))).other W70 (Or.inr (slot_ne (Or.inl (ow22 hw)) (Or.inl (ow56 hw)) (by decide) (t := (.array .long)) (t' := .int) (by decide) (by decide))))
 have f76 := ((F52.other W65 (Or.inr (slot_ne (Or.inl (ow24 hw)) (Or.inl (ow75 hw)) (by decide) (t := (.array .long)) (t' := .int) (by decide) (by decide)))).other W70 (Or.inr (slot_ne (Or.inl (ow24 hw)) (Or.inl (ow56 hw)) (by decide) (t := (.array .long)) (t' := .int) (by decide) (by decide))))
 have f77 := ((f53.other W65 (Or.inr (slot_ne (Or.inl (ow47 hw)) (Or.inl (ow75 hw)) (by decide) (t := (.object oB)) (t' := .int) (by decide) (by decide)))).other W70 (Or.inr (slot_ne (Or.inl (ow47 hw)) (Or.inl (ow56 hw)) (by decide) (t := (.object oB)) (t' := .int) (by decide) (by decide))))
 have f78 := (f66.other W70 (Or.inr (slot_ne (Or.inl (ow54 hw)) (Or.inl (ow56 hw)) (by decide) (t := .int) (t' := .int) (by decide) (by decide))))
 have f79 := (F65.other W70 (Or.inr (slot_ne (Or.inl (ow75 hw)) (Or.inl (ow56 hw)) (by decide) (t := .int) (t' := .int) (by decide) (by decide))))
 have f80 := (((((((((((((Fbase1.ext E3).ext E4).ext E6).other W19 (Or.inr (slot_ne (Or.inl (ow110 hw)) (Or.inl (ow18 hw)) (by decide) (t := .long) (t' := (.array .long)) (by decide) (by decide)))).other W22 (Or.inr (slot_ne (Or.inl (ow110 hw)) (Or.inl (ow20 hw)) (by decide) (t := .long) (t' := (.array .long)) (by decide) (by decide)))).other W25 (Or.inr (slot_ne (Or.inl (ow110 hw)) (Or.inl (ow22 hw)) (by decide) (t := .long) (t' := (.array .long)) (by decide) (by decide)))).ext E29).keep Kc30 (ninS ne_a11_0_b29 nin0)).other W43 (Or.inr (slot_ne (Or.inl (ow110 hw)) (Or.inl (ow47 hw)) (by decide) (t := .long) (t' := (.object oB)) (by decide) (by decide)))).ext E49).other W52 (Or.inr (slot_ne (Or.inl (ow110 hw)) (Or.inl (ow24 hw)) (by decide) (t := .long) (t' := (.array .long)) (by decide) (by decide)))).other W65 (Or.inr (slot_ne (Or.inl (ow110 hw)) (Or.inl (ow75 hw)) (by decide) (t := .long) (t' := .int) (by decide) (by decide)))).other W70 (Or.inr (slot_ne (Or.inl (ow110 hw)) (Or.inl (ow56 hw)) (by decide) (t := .long) (t' := .int) (by decide) (by decide))))
 have f81 := ((f58.wr W65).wr W70)
 have f82 := ((f59.other W65 (Or.inl (Ne.symm ne_a11_0_b29))).other W70 (Or.inl (Ne.symm ne_a11_0_b29)))
 have f83 := ((f60.other W65 (Or.inl (Ne.symm ne_a11_0_b29))).other W70 (Or.inl (Ne.symm ne_a11_0_b29)))
 have f84 := ((f61.other W65 (Or.inl (Ne.symm ne_a11_0_b29))).other W70 (Or.inl (Ne.symm ne_a11_0_b29)))
 have f85 := ((((f44.ext E49).other W52 (Ne.symm ne_a11_0_b3)).other W65 (Ne.symm ne_a11_0_b3)).other W70 (Ne.symm ne_a11_0_b3))
 have f86 := ((((f45.ext E49).other W52 (Ne.symm ne_a11_0_b4)).other W65 (Ne.symm ne_a11_0_b4)).other W70 (Ne.symm ne_a11_0_b4))
 have f87 := ((((f46.ext E49).other W52 (Ne.symm ne_a11_0_b6)).other W65 (Ne.symm ne_a11_0_b6)).other W70 (Ne.symm ne_a11_0_b6))
 have f88 := ((f57.other W65 (Ne.symm ne_a11_0_bx14_0_30)).other W70 (Ne.symm ne_a11_0_bx14_0_30))
 have Op89 : own_Obj Z h70 n0 a11_0 b3 b4 b6 b49 b29 bx14_0_30 k3 k4 k6 kx14_0_30 (0 : Int32) (0 : Int32) (0 : Int32) bs (0 : Int32) (1 : Int32) (0 : Int64) (2 : Int32) [oZ, oZ] [oZ, oZ] [oZ, oZ] := ⟨f72, f73, f74, f75, f76, f77, f78, F70, f79, f80, f81, f82, f83, f84, f85, f86, f87, f88, (S70 _ _ _ _ St1), g0_1, g_b3, g_b4, g_b6, g_b49, g_b29, g_bx14_0_30, ne_a11_0_b3, ne_a11_0_b4, ne_a11_0_b6, ne_a11_0_b49, ne_a11_0_b29, ne_a11_0_bx14_0_30, ne_b3_b4, ne_b3_b6, ne_b3_b49, ne_b3_b29, ne_b3_bx14_0_30, ne_b4_b6, ne_b4_b49, ne_b4_b29, ne_b4_bx14_0_30, ne_b6_b49, ne_b6_b29, ne_b6_bx14_0_30, (Ne.symm ne_b29_b49), (Ne.symm ne_bx14_0_30_b49), ne_b29_bx14_0_30⟩
 refine gA C X70 e70 Op89.Fspans (ow23 C.w) d11_214 d11_215 fun T90 X90 e90 => ?_
 refine sI C X90 d11_218 ?_
 refine sC C X90 d11_219 ?_
 refine sI C X90 d11_220 ?_
 refine sM C X90 d11_221 ?_
 refine kJ C X90 (ow98 C.w) d11_222 ?_
 refine cS C X90 e90 (rm17_1 l Z a0 C.w b49 k49 (0 : Int64) (0 : Int64) (0 : Int64) (0 : Int64) h70 n0 Op89.hsz f71 Op89.grS) (W := 0) (ow99 C.w) (ow100 C.w) (ow102 C.w) (ow101 C.w) (argsL := [(.ref b49), (.int (2 : Int32)), (.int (4 : Int32)), (.long oM)]) (lenOf pd___JIIJ_V rfl) d11_225 fun v91 T91 lo91 X91 hQ91 => ?_
 obtain ⟨rfl, Nq91, Kc91, Sc91, P91_0⟩ := hQ91
 have O91 := Op89.sp Kc91 Sc91
 refine sC C X91 d11_228 ?_
 refine wi C X91 #[oR a11_0, oI 2, oI 1, oR b3, oR b4, oR b6, oI 0, oI 1] d11_229 ?_
 refine si C X91 d11_231 ?_
 refine gA C X91 rfl O91.Fsize (ow53 C.w) d11_233 d11_234 fun T92 X92 e92 => ?_
 refine cY C X92 d11_237 272 ((flt (by decide : ¬ ((1 : Int32) < (0 : Int32)))).2.1) ?_
 refine sI C X92 d11_272 ?_
 refine sC C X92 d11_273 ?_
 refine sS C X92 d11_274 ?_
 refine wi C X92 #[oR a11_0, oI 2, oI 1, oR b3, oR b4, oR b6, oI 0, oI 1] d11_275 ?_
 refine si C X92 d11_277 ?_
 refine bN C X92 d11_279 ((if0 _ _).trans (tlt (by decide : (0 : Int32) < (1 : Int32))).2.2.2) ?_
 refine gA C X92 e92 O91.Fspans (ow23 C.w) d11_282 d11_283 fun T93 X93 e93 => ?_
 refine si C X93 d11_286 ?_
 refine gA C X93 e93 O91.Fspans (ow23 C.w) d11_288 d11_289 fun T94 X94 e94 => ?_
 refine sC C X94 d11_292 ?_
 refine si C X94 d11_293 ?_
 refine sM C X94 d11_295 ?_
 refine lA C X94 e94 P91_0 d11_296 ?_
 refine gA C X94 e94 O91.Fspans (ow23 C.w) d11_297 d11_298 fun T95 X95 e95 => ?_
 refine sC C X95 d11_301 ?_
 refine si C X95 d11_302 ?_
 refine sM C X95 d11_304 ?_
 refine sC C X95 d11_305 ?_
 refine sP C X95 d11_306 ?_
 refine lA C X95 e95 P91_0 d11_307 ?_
 refine cS C X95 e95 (fun ws => rm19 l Z a0 C.w ws oM oM T91.heap n0 O91.hsz ) (W := 2) (ow106 C.w) (ow107 C.w) (ow108 C.w) (ow68 C.w) (argsL := [(.long oM), (.long oM)]) (lenOf pd__JJ_J rfl) d11_308 fun v96 T96 lo96 X96 hQ96 => ?_
 obtain ⟨rfl, Nq96, e96⟩ := hQ96
 rw [show (own_m oM oM) = oM from by decide +kernel]
 refine sJ C X96 e96 ((N70.app Nq91).app Nq96) O91.grS P91_0 _ d11_311 fun T98 h98 lo98 X98 e98 N98 W98 V98 => ?_
 have O98 := O91.wsp W98
 refine wc C X98 #[oR a11_0, oI 2, oI 1, oR b3, oR b4, oR b6, oI 0, oI 0] d11_312 ?_
 refine sG C X98 d11_315 277 ?_
 refine si C X98 d11_277 ?_
 refine bY C X98 d11_279 318 ((if0 _ _).trans (flt (by decide : ¬ ((0 : Int32) < (0 : Int32)))).2.2.2) ?_
 refine rV C X98 e98 hret d11_318 ?_
 exact ⟨rfl, N98, b3, b4, b6, b49, b29, bx14_0_30, k3, k4, k6, kx14_0_30, O98, ⟨_, own_arv V98 (own_cons rfl (own_cons (congrArg Value.long (by simp only [own_mMM])) (own_cons rfl (own_cons rfl rfl))))⟩⟩
theorem d22_0 : decode oc22 0 = .ok (.aload_n 0, 1):=by decide +kernel
theorem d22_1 : decode oc22 1 = .ok (.getfield 11, 3):=by decide +kernel
theorem d22_4 : decode oc22 4 = .ok (.arraylength, 1):=by decide +kernel
theorem d22_5 : decode oc22 5 = .ok (.iload_n 1, 1):=by decide +kernel
theorem d22_6 : decode oc22 6 = .ok (.if_icmp .ge 32, 3):=by decide +kernel
theorem d22_38 : decode oc22 38 = .ok (.return_, 1):=by decide +kernel
theorem pn_22 : plainName oB = true := by first | (simp [plainName, overriddenIn]; done) | decide +kernel
theorem ef_rm22_1 (m : MethodId) (y0 : Addr) : entryFrame m #[(.ref y0), (.int (1 : Int32))] 3 = mkF m 0 #[oR y0, oI 1, oU] [] := by first | (simp [entryFrame, mkF, argsToLocals, Value.category]; done) | rfl
def Q_rm22_1 (Z : State) (a22_0 ww : Addr) (kc_ww : ClassId) (t_ww_0 : Int64) (h0 : Heap) (n0 : Nat) (v : Option Value) (h : Heap) (L : List Loc) : Prop := v = none ∧ Fr n0 L ∧ h = h0
theorem rm22_1 (l : Launch) (Z : State) (a0 : Array Value) (hw : own_T Z a0) (a22_0 ww : Addr) (kc_ww : ClassId) (t_ww_0 : Int64) (h0 : Heap) (n0 : Nat) (Z0 : n0 ≤ h0.size) (E_a : Exa Z h0 a22_0 oB) (F_wordsInUse : Fld Z h0 a22_0 oB "wordsInUse" "I" (.int (0 : Int32))) (F_sizeIsSticky : Fld Z h0 a22_0 oB "sizeIsSticky" "Z" (.int (1 : Int32))) (F_words : Fld Z h0 a22_0 oB "words" "[J" (.ref ww)) (V_ww : Arv Z h0 ww kc_ww .long (1 : Int32) [(.long t_ww_0)] oZ) :
   own_Met l (⟨oB, "ensureCapacity", "(I)V"⟩ : MethodName) oc22 3 none ({ frames := 0, cells := 0, slots := 0, locals := 0 } : Room) Z h0 #[(.ref a22_0), (.int (1 : Int32))] (Q_rm22_1 Z a22_0 ww kc_ww t_ww_0 h0 n0) := by
 refine own_go hw (plainFor_of_name pn_22) (fun m => ef_rm22_1 m a22_0) fun p e s m below meth c T0 C hret X0 e0 => ?_
 have N0 := Fr.nil n0
 refine gA C X0 e0 F_words (ow44 C.w) d22_0 d22_1 fun T1 X1 e1 => ?_
 refine nA C X1 e1 V_ww d22_4 ?_
 refine sI C X1 d22_5 ?_
 refine cY C X1 d22_6 38 ((flt (by decide : ¬ ((1 : Int32) < (1 : Int32)))).2.1) ?_
 refine rV C X1 e1 hret d22_38 ?_
 exact ⟨rfl, N0, rfl⟩
theorem d21_0 : decode oc21 0 = .ok (.iload_n 1, 1):=by decide +kernel
theorem d21_1 : decode oc21 1 = .ok (.iconst 1, 1):=by decide +kernel
theorem d21_2 : decode oc21 2 = .ok (.iadd, 1):=by decide +kernel
theorem d21_3 : decode oc21 3 = .ok (.istore_n 2, 1):=by decide +kernel
theorem d21_4 : decode oc21 4 = .ok (.aload_n 0, 1):=by decide +kernel
theorem d21_5 : decode oc21 5 = .ok (.getfield 7, 3):=by decide +kernel
theorem d21_8 : decode oc21 8 = .ok (.iload_n 2, 1):=by decide +kernel
theorem d21_9 : decode oc21 9 = .ok (.if_icmp .ge 13, 3):=by decide +kernel
theorem d21_12 : decode oc21 12 = .ok (.aload_n 0, 1):=by decide +kernel
theorem d21_13 : decode oc21 13 = .ok (.iload_n 2, 1):=by decide +kernel
theorem d21_14 : decode oc21 14 = .ok (.invokevirtual 139, 3):=by decide +kernel
theorem d21_17 : decode oc21 17 = .ok (.aload_n 0, 1):=by decide +kernel
theorem d21_18 : decode oc21 18 = .ok (.iload_n 2, 1):=by decide +kernel
theorem d21_19 : decode oc21 19 = .ok (.putfield 7, 3):=by decide +kernel
theorem d21_22 : decode oc21 22 = .ok (.return_, 1):=by decide +kernel
theorem pn_21 : plainName oB = true := by first | (simp [plainName, overriddenIn]; done) | decide +kernel
theorem ef_rm21_1 (m : MethodId) (y0 : Addr) : entryFrame m #[(.ref y0), (.int (0 : Int32))] 3 = mkF m 0 #[oR y0, oI 0, oU] [] := by first | (simp [entryFrame, mkF, argsToLocals, Value.category]; done) | rfl
def Q_rm21_1 (Z : State) (a21_0 ww : Addr) (kc_ww : ClassId) (t_ww_0 : Int64) (h0 : Heap) (n0 : Nat) (v : Option Value) (h : Heap) (L : List Loc) : Prop := v = none ∧ Fr n0 L ∧ Keep h0 h [a21_0] ∧ own_StK Z h0 h ∧ Exa Z h a21_0 oB ∧ Fld Z h a21_0 oB "wordsInUse" "I" (.int (1 : Int32)) ∧ Fld Z h a21_0 oB "sizeIsSticky" "Z" (.int (1 : Int32)) ∧ Fld Z h a21_0 oB "words" "[J" (.ref ww)
theorem rm21_1 (l : Launch) (Z : State) (a0 : Array Value) (hw : own_T Z a0) (a21_0 ww : Addr) (kc_ww : ClassId) (t_ww_0 : Int64) (h0 : Heap) (n0 : Nat) (Z0 : n0 ≤ h0.size) (E_a : Exa Z h0 a21_0 oB) (F_wordsInUse : Fld Z h0 a21_0 oB "wordsInUse" "I" (.int (0 : Int32))) (F_sizeIsSticky : Fld Z h0 a21_0 oB "sizeIsSticky" "Z" (.int (1 : Int32))) (F_words : Fld Z h0 a21_0 oB "words" "[J" (.ref ww)) (V_ww : Arv Z h0 ww kc_ww .long (1 : Int32) [(.long t_ww_0)] oZ) (g_a21_0 : n0 ≤ a21_0) :
   own_Met l (⟨oB, "expandTo", "(I)V"⟩ : MethodName) oc21 3 none ({ frames := 1, cells := 0, slots := 0, locals := 14 } : Room) Z h0 #[(.ref a21_0), (.int (0 : Int32))] (Q_rm21_1 Z a21_0 ww kc_ww t_ww_0 h0 n0) := by
 refine own_go hw (plainFor_of_name pn_21) (fun m => ef_rm21_1 m a21_0) fun p e s m below meth c T0 C hret X0 e0 => ?_
 have N0 := Fr.nil n0
 refine sI C X0 d21_0 ?_
 refine sC C X0 d21_1 ?_
 refine sP C X0 d21_2 ?_
 refine wI C X0 #[oR a21_0, oI 0, oI 1] d21_3 ?_
 refine gA C X0 e0 F_wordsInUse (ow32 C.w) d21_4 d21_5 fun T1 X1 e1 => ?_
 refine sI C X1 d21_8 ?_
 refine cN C X1 d21_9 ((tlt (by decide : (0 : Int32) < (1 : Int32))).2.1) ?_
 refine sA C X1 d21_12 ?_
 refine sI C X1 d21_13 ?_
 refine cP C X1 e1 (rm22_1 l Z a0 C.w a21_0 ww kc_ww t_ww_0 h0 n0 Z0 E_a F_wordsInUse F_sizeIsSticky F_words V_ww) E_a (W := 0) (ow121 C.w) (ow122 C.w) (mvT C.z (ow124 C.w)) (ow123 C.w) (ow125 C.w) (ow27 C.w) (argsL := [(.int (1 : Int32))]) (lenOf pd__I_V rfl) d21_14 fun v2 T2 lo2 X2 hQ2 => ?_
 obtain ⟨rfl, Nq2, e2⟩ := hQ2
 refine sA C X2 d21_17 ?_
 refine sI C X2 d21_18 ?_
 refine pF C X2 e2 (N0.app Nq2) g_a21_0 F_wordsInUse E_a (ty := .int) (ow32 C.w) (ow33 C.w) (ow26 C.w) (by decide) d21_19 fun T3 h3 lo3 X3 e3 N3 W3 F3 => ?_
 have S3 : own_StK Z h0 h3 := (own_StK.refl Z h0).wr W3
 have K3 : Keep h0 h3 [a21_0] := (Keep.refl h0 [a21_0]).wr W3 (Or.inl (List.mem_of_getElem? (i := 0) rfl))
 have Z3 : n0 ≤ h3.size := Nat.le_trans Z0 K3.1
 have f4 := (E_a.wr W3)
 have f5 := (F_sizeIsSticky.other W3 (Or.inr (slot_ne (Or.inl (ow35 hw)) (Or.inl (ow33 hw)) (by decide) (t := .boolean) (t' := .int) (by decide) (by decide))))
 have f6 := (F_words.other W3 (Or.inr (slot_ne (Or.inl (ow45 hw)) (Or.inl (ow33 hw)) (by decide) (t := (.array .long)) (t' := .int) (by decide) (by decide))))
 refine rV C X3 e3 hret d21_22 ?_
 exact ⟨rfl, N3, K3, S3, f4, F3, f5, f6⟩
theorem d20_0 : decode oc20 0 = .ok (.iload_n 1, 1):=by decide +kernel
theorem d20_1 : decode oc20 1 = .ok (.ifCond .ge 30, 3):=by decide +kernel
theorem d20_31 : decode oc20 31 = .ok (.iload_n 1, 1):=by decide +kernel
theorem d20_32 : decode oc20 32 = .ok (.invokestatic 52, 3):=by decide +kernel
theorem d20_35 : decode oc20 35 = .ok (.istore_n 2, 1):=by decide +kernel
theorem d20_36 : decode oc20 36 = .ok (.aload_n 0, 1):=by decide +kernel
theorem d20_37 : decode oc20 37 = .ok (.iload_n 2, 1):=by decide +kernel
theorem d20_38 : decode oc20 38 = .ok (.invokevirtual 155, 3):=by decide +kernel
theorem d20_41 : decode oc20 41 = .ok (.aload_n 0, 1):=by decide +kernel
theorem d20_42 : decode oc20 42 = .ok (.getfield 11, 3):=by decide +kernel
theorem d20_45 : decode oc20 45 = .ok (.iload_n 2, 1):=by decide +kernel
theorem d20_46 : decode oc20 46 = .ok (.dup2, 1):=by decide +kernel
theorem d20_47 : decode oc20 47 = .ok (.laload, 1):=by decide +kernel
theorem d20_48 : decode oc20 48 = .ok (.lconst 1, 1):=by decide +kernel
theorem d20_49 : decode oc20 49 = .ok (.iload_n 1, 1):=by decide +kernel
theorem d20_50 : decode oc20 50 = .ok (.lshl, 1):=by decide +kernel
theorem d20_51 : decode oc20 51 = .ok (.lor, 1):=by decide +kernel
theorem d20_52 : decode oc20 52 = .ok (.lastore, 1):=by decide +kernel
theorem d20_53 : decode oc20 53 = .ok (.aload_n 0, 1):=by decide +kernel
theorem d20_54 : decode oc20 54 = .ok (.invokevirtual 56, 3):=by decide +kernel
theorem d20_57 : decode oc20 57 = .ok (.return_, 1):=by decide +kernel
theorem pn_20 : plainName oB = true := by first | (simp [plainName, overriddenIn]; done) | decide +kernel
theorem ef_rm20_1 (m : MethodId) (y0 : Addr) (y1 : Int32) : entryFrame m #[(.ref y0), (.int y1)] 3 = mkF m 0 #[oR y0, oI y1, oU] [] := by first | (simp [entryFrame, mkF, argsToLocals, Value.category]; done) | rfl
def Q_rm20_1 (Z : State) (a20_0 : Addr) (p20_1 : Int32) (ww : Addr) (kc_ww : ClassId) (t_ww_0 : Int64) (h0 : Heap) (n0 : Nat) (v : Option Value) (h : Heap) (L : List Loc) : Prop := v = none ∧ Fr n0 L ∧ Keep h0 h [a20_0, ww] ∧ own_StK Z h0 h ∧ Exa Z h a20_0 oB ∧ Fld Z h a20_0 oB "wordsInUse" "I" (.int (1 : Int32)) ∧ Fld Z h a20_0 oB "sizeIsSticky" "Z" (.int (1 : Int32)) ∧ Fld Z h a20_0 oB "words" "[J" (.ref ww) ∧ Arv Z h ww kc_ww .long (1 : Int32) [(.long (t_ww_0 ||| ((1 : Int64) <<< (p20_1 &&& 0x3f).toInt64)))] oZ
theorem rm20_1 (l : Launch) (Z : State) (a0 : Array Value) (hw : own_T Z a0) (a20_0 : Addr) (p20_1 : Int32) (ww : Addr) (kc_ww : ClassId) (t_ww_0 : Int64) (h0 : Heap) (n0 : Nat) (Z0 : n0 ≤ h0.size) (hn : ¬ (p20_1 < (0 : Int32))) (hu : (p20_1 >>> ((6 : Int32) &&& 31)) = (0 : Int32)) (E_a : Exa Z h0 a20_0 oB) (F_wordsInUse : Fld Z h0 a20_0 oB "wordsInUse" "I" (.int (0 : Int32))) (F_sizeIsSticky : Fld Z h0 a20_0 oB "sizeIsSticky" "Z" (.int (1 : Int32))) (F_words : Fld Z h0 a20_0 oB "words" "[J" (.ref ww)) (V_ww : Arv Z h0 ww kc_ww .long (1 : Int32) [(.long t_ww_0)] oZ) (g_a20_0 : n0 ≤ a20_0) (ne_ww_a20_0 : ww ≠ a20_0) (g_ww : n0 ≤ ww) (Sta1 : Sta Z h0 oB "$assertionsDisabled" "Z" (.int (1 : Int32))) :
   own_Met l (⟨oB, "set", "(I)V"⟩ : MethodName) oc20 3 none ({ frames := 2, cells := 0, slots := 0, locals := 28 } : Room) Z h0 #[(.ref a20_0), (.int p20_1)] (Q_rm20_1 Z a20_0 p20_1 ww kc_ww t_ww_0 h0 n0) := by
 refine own_go hw (plainFor_of_name pn_20) (fun m => ef_rm20_1 m a20_0 p20_1) fun p e s m below meth c T0 C hret X0 e0 => ?_
 have N0 := Fr.nil n0
 refine sI C X0 d20_0 ?_
 refine bY C X0 d20_1 31 ((if0 _ _).trans (flt hn).2.1) ?_
 refine sI C X0 d20_31 ?_
 refine cS C X0 e0 (fun ws => rm6 l Z a0 C.w ws p20_1 h0 n0 Z0 ) (W := 0) (ow41 C.w) (ow42 C.w) (ow43 C.w) (ow27 C.w) (argsL := [(.int p20_1)]) (lenOf pd__I_I rfl) d20_32 fun v1 T1 lo1 X1 hQ1 => ?_
 obtain ⟨rfl, Nq1, e1⟩ := hQ1
 rw [hu]
 refine wI C X1 #[oR a20_0, oI p20_1, oI 0] d20_35 ?_
 refine sA C X1 d20_36 ?_
 refine sI C X1 d20_37 ?_
 refine cP C X1 e1 (rm21_1 l Z a0 C.w a20_0 ww kc_ww t_ww_0 h0 n0 Z0 E_a F_wordsInUse F_sizeIsSticky F_words V_ww g_a20_0) E_a (W := 0) (ow116 C.w) (ow117 C.w) (mvT C.z (ow119 C.w)) (ow118 C.w) (ow120 C.w) (ow27 C.w) (argsL := [(.int (0 : Int32))]) (lenOf pd__I_V rfl) d20_38 fun v2 T2 lo2 X2 hQ2 => ?_
 obtain ⟨rfl, Nq2, Kc2, Sc2, P2_0, P2_1, P2_2, P2_3⟩ := hQ2
 have S2 : own_StK Z h0 T2.heap := (own_StK.refl Z h0).tr Sc2
 have K2 : Keep h0 T2.heap [a20_0, ww] := Keep.trans (Keep.refl h0 [a20_0, ww]) Kc2 (allS (P := fun x => x ∈ ([a20_0, ww] : List Addr) ∨ h0.size ≤ x) (Or.inl (List.mem_of_getElem? (i := 0) rfl)) all0)
 have Z2 : n0 ≤ T2.heap.size := Nat.le_trans Z0 K2.1
 refine gA C X2 rfl P2_3 (ow44 C.w) d20_41 d20_42 fun T3 X3 e3 => ?_
 refine sI C X3 d20_45 ?_
 show own_Fin p l e _ s m _ below meth c _ T3 (mkF m 46 #[oR a20_0, oI p20_1, oI 0] [(.int (0 : Int32)), (.ref ww)])
 refine own_Fin.st (g' := (mkF m 47 #[oR a20_0, oI p20_1, oI 0] [(.int (0 : Int32)), (.ref ww), (.int (0 : Int32)), (.ref ww)])) ?_ (fun t k => by jvm_step X3.here [X3.here.top, C.1, C.d d20_46, Value.category]; exact k)
 have f4 := (V_ww.keep Kc2 (ninS ne_ww_a20_0 nin0))
 refine lA C X3 e3 f4 d20_47 ?_
 refine tK C X3 d20_48 ?_
 refine sI C X3 d20_49 ?_
 refine tH C X3 d20_50 ?_
 refine tO C X3 d20_51 ?_
 refine sJ C X3 e3 ((N0.app Nq1).app Nq2) g_ww f4 _ d20_52 fun T5 h5 lo5 X5 e5 N5 W5 V5 => ?_
 have S5 : own_StK Z h0 h5 := S2.wr W5
 have K5 : Keep h0 h5 [a20_0, ww] := K2.wr W5 (Or.inl (List.mem_of_getElem? (i := 1) rfl))
 have Z5 : n0 ≤ h5.size := Nat.le_trans Z0 K5.1
 refine sA C X5 d20_53 ?_
 have f7 := (P2_0.wr W5)
 refine cP C X5 e5 (fun ws => rm13 l Z a0 C.w ws a20_0 h5 n0 Z5 (S5 _ _ _ _ Sta1)) f7 (W := 0) (ow81 C.w) (ow82 C.w) (mvT C.z (ow84 C.w)) (ow83 C.w) (ow85 C.w) (ow27 C.w) (argsL := []) (lenOf pd___V rfl) d20_54 fun v6 T6 lo6 X6 hQ6 => ?_
 obtain ⟨rfl, Nq6, e6⟩ := hQ6
 have f8 := (P2_1.other W5 (Or.inl (Ne.symm ne_ww_a20_0)))
 have f9 := (P2_2.other W5 (Or.inl (Ne.symm ne_ww_a20_0)))
 have f10 := (P2_3.other W5 (Or.inl (Ne.symm ne_ww_a20_0)))
 refine rV C X6 e6 hret d20_57 ?_
 exact ⟨rfl, (N5.app Nq6), K5, S5, f7, f8, f9, f10, V5⟩
theorem d23_0 : decode oc23 0 = .ok (.aload_n 0, 1):=by decide +kernel
theorem d23_1 : decode oc23 1 = .ok (.getfield 9, 3):=by decide +kernel
theorem d23_4 : decode oc23 4 = .ok (.arraylength, 1):=by decide +kernel
theorem d23_5 : decode oc23 5 = .ok (.iload_n 1, 1):=by decide +kernel
theorem d23_6 : decode oc23 6 = .ok (.iadd, 1):=by decide +kernel
theorem d23_7 : decode oc23 7 = .ok (.istore 4, 2):=by decide +kernel
theorem d23_9 : decode oc23 9 = .ok (.aload_n 0, 1):=by decide +kernel
theorem d23_10 : decode oc23 10 = .ok (.getfield 21, 3):=by decide +kernel
theorem d23_13 : decode oc23 13 = .ok (.iload 4, 2):=by decide +kernel
theorem d23_15 : decode oc23 15 = .ok (.lload_n 2, 1):=by decide +kernel
theorem d23_16 : decode oc23 16 = .ok (.lastore, 1):=by decide +kernel
theorem d23_17 : decode oc23 17 = .ok (.iload 4, 2):=by decide +kernel
theorem d23_19 : decode oc23 19 = .ok (.iconst 2, 1):=by decide +kernel
theorem d23_20 : decode oc23 20 = .ok (.idiv, 1):=by decide +kernel
theorem d23_21 : decode oc23 21 = .ok (.istore 4, 2):=by decide +kernel
theorem d23_23 : decode oc23 23 = .ok (.iload 4, 2):=by decide +kernel
theorem d23_25 : decode oc23 25 = .ok (.ifCond .le 62, 3):=by decide +kernel
theorem d23_28 : decode oc23 28 = .ok (.aload_n 0, 1):=by decide +kernel
theorem d23_29 : decode oc23 29 = .ok (.getfield 21, 3):=by decide +kernel
theorem d23_32 : decode oc23 32 = .ok (.iconst 2, 1):=by decide +kernel
theorem d23_33 : decode oc23 33 = .ok (.iload 4, 2):=by decide +kernel
theorem d23_35 : decode oc23 35 = .ok (.imul, 1):=by decide +kernel
theorem d23_36 : decode oc23 36 = .ok (.laload, 1):=by decide +kernel
theorem d23_37 : decode oc23 37 = .ok (.aload_n 0, 1):=by decide +kernel
theorem d23_38 : decode oc23 38 = .ok (.getfield 21, 3):=by decide +kernel
theorem d23_41 : decode oc23 41 = .ok (.iconst 2, 1):=by decide +kernel
theorem d23_42 : decode oc23 42 = .ok (.iload 4, 2):=by decide +kernel
theorem d23_44 : decode oc23 44 = .ok (.imul, 1):=by decide +kernel
theorem d23_45 : decode oc23 45 = .ok (.iconst 1, 1):=by decide +kernel
theorem d23_46 : decode oc23 46 = .ok (.iadd, 1):=by decide +kernel
theorem d23_47 : decode oc23 47 = .ok (.laload, 1):=by decide +kernel
theorem d23_48 : decode oc23 48 = .ok (.invokestatic 101, 3):=by decide +kernel
theorem d23_51 : decode oc23 51 = .ok (.lstore 5, 2):=by decide +kernel
theorem d23_53 : decode oc23 53 = .ok (.aload_n 0, 1):=by decide +kernel
theorem d23_54 : decode oc23 54 = .ok (.getfield 21, 3):=by decide +kernel
theorem d23_57 : decode oc23 57 = .ok (.iload 4, 2):=by decide +kernel
theorem d23_59 : decode oc23 59 = .ok (.laload, 1):=by decide +kernel
theorem d23_60 : decode oc23 60 = .ok (.lload 5, 2):=by decide +kernel
theorem d23_62 : decode oc23 62 = .ok (.lcmp, 1):=by decide +kernel
theorem d23_63 : decode oc23 63 = .ok (.ifCond .ne 6, 3):=by decide +kernel
theorem d23_66 : decode oc23 66 = .ok (.goto 21, 3):=by decide +kernel
theorem d23_69 : decode oc23 69 = .ok (.aload_n 0, 1):=by decide +kernel
theorem d23_70 : decode oc23 70 = .ok (.getfield 21, 3):=by decide +kernel
theorem d23_73 : decode oc23 73 = .ok (.iload 4, 2):=by decide +kernel
theorem d23_75 : decode oc23 75 = .ok (.lload 5, 2):=by decide +kernel
theorem d23_77 : decode oc23 77 = .ok (.lastore, 1):=by decide +kernel
theorem d23_78 : decode oc23 78 = .ok (.iload 4, 2):=by decide +kernel
theorem d23_80 : decode oc23 80 = .ok (.iconst 2, 1):=by decide +kernel
theorem d23_81 : decode oc23 81 = .ok (.idiv, 1):=by decide +kernel
theorem d23_82 : decode oc23 82 = .ok (.istore 4, 2):=by decide +kernel
theorem d23_84 : decode oc23 84 = .ok (.goto (-61), 3):=by decide +kernel
theorem d23_87 : decode oc23 87 = .ok (.return_, 1):=by decide +kernel
theorem pn_23 : plainName oL = true := by first | (simp [plainName, overriddenIn]; done) | decide +kernel
theorem ef_rm23_2_0 (m : MethodId) (y0 : Addr) (y2 : Int64) : entryFrame m #[(.ref y0), (.int (0 : Int32)), (.long y2)] 7 = mkF m 0 #[oR y0, oI 0, oJ y2, oD, oU, oU, oU] [] := by first | (simp [entryFrame, mkF, argsToLocals, Value.category]; done) | rfl
def Q_rm23_2_0 (Z : State) (a23_0 : Addr) (q23_2 : Int64) (wt : Addr) (kc_wt : ClassId) (t_wt_0 t_wt_1 : Int64) (ws : Addr) (l_ws_0 l_ws_1 : Int64) (h0 : Heap) (n0 : Nat) (v : Option Value) (h : Heap) (L : List Loc) : Prop := v = none ∧ Fr n0 L ∧ Keep h0 h [ws] ∧ own_StK Z h0 h ∧ own_Sp2 Z h ws q23_2 l_ws_1
theorem rm23_2_0 (l : Launch) (Z : State) (a0 : Array Value) (hw : own_T Z a0) (a23_0 : Addr) (q23_2 : Int64) (wt : Addr) (kc_wt : ClassId) (t_wt_0 t_wt_1 : Int64) (ws : Addr) (l_ws_0 l_ws_1 : Int64) (h0 : Heap) (n0 : Nat) (Z0 : n0 ≤ h0.size) (F_times : Fld Z h0 a23_0 oL "times" "[J" (.ref wt)) (V_wt : Arv Z h0 wt kc_wt .long (2 : Int32) [(.long t_wt_0), (.long t_wt_1)] oZ) (F_spans : Fld Z h0 a23_0 oL "spans" "[J" (.ref ws)) (T_ws : own_Sp2 Z h0 ws l_ws_0 l_ws_1) (g_ws : n0 ≤ ws) (ne_a23_0_ws : a23_0 ≠ ws) :
   own_Met l oy23 oc23 7 none ({ frames := 1, cells := 0, slots := 0, locals := 15 } : Room) Z h0 #[(.ref a23_0), (.int (0 : Int32)), (.long q23_2)] (Q_rm23_2_0 Z a23_0 q23_2 wt kc_wt t_wt_0 t_wt_1 ws l_ws_0 l_ws_1 h0 n0) := by
 refine own_go hw (plainFor_of_name pn_23) (fun m => ef_rm23_2_0 m a23_0 q23_2) fun p e s m below meth c T0 C hret X0 e0 => ?_
 have N0 := Fr.nil n0
 refine gA C X0 e0 F_times (ow17 C.w) d23_0 d23_1 fun T1 X1 e1 => ?_
 refine nA C X1 e1 V_wt d23_4 ?_
 refine sI C X1 d23_5 ?_
 refine sP C X1 d23_6 ?_
 refine wi C X1 #[oR a23_0, oI 0, oJ q23_2, oD, oI 2, oU, oU] d23_7 ?_
 refine gA C X1 e1 F_spans (ow23 C.w) d23_9 d23_10 fun T2 X2 e2 => ?_
 refine si C X2 d23_13 ?_
 refine sL C X2 d23_15 ?_
 obtain ⟨kq3, VT3⟩ := id T_ws
 obtain ⟨m3_1, hm3_1⟩ : ∃ z : Int64, z = (own_m l_ws_0 l_ws_1) := ⟨_, rfl⟩
 rw [← hm3_1] at VT3
 refine sJ C X2 e2 N0 g_ws VT3 _ d23_16 fun T4 h4 lo4 X4 e4 N4 W4 V4 => ?_
 have S4 : own_StK Z h0 h4 := (own_StK.refl Z h0).wr W4
 have K4 : Keep h0 h4 [ws] := (Keep.refl h0 [ws]).wr W4 (Or.inl (List.mem_of_getElem? (i := 0) rfl))
 have Z4 : n0 ≤ h4.size := Nat.le_trans Z0 K4.1
 refine si C X4 d23_17 ?_
 refine sC C X4 d23_19 ?_
 refine own_Fin.st (g' := (mkF m 21 #[oR a23_0, oI 0, oJ q23_2, oD, oI 2, oU, oU] [(.int (1 : Int32))])) ?_ (fun t k => XS.idiv X4.here C.1 rfl (C.d d23_20) rfl (by decide : ¬ ((2 : Int32) = (0 : Int32))) k)
 refine wi C X4 #[oR a23_0, oI 0, oJ q23_2, oD, oI 1, oU, oU] d23_21 ?_
 refine si C X4 d23_23 ?_
 refine bN C X4 d23_25 ((if0 _ _).trans (tlt (by decide : (0 : Int32) < (1 : Int32))).2.2.2) ?_
 have f5 := (F_spans.other W4 (Or.inl ne_a23_0_ws))
 refine gA C X4 e4 f5 (ow23 C.w) d23_28 d23_29 fun T6 X6 e6 => ?_
 refine sC C X6 d23_32 ?_
 refine si C X6 d23_33 ?_
 refine sM C X6 d23_35 ?_
 refine lA C X6 e6 V4 d23_36 ?_
 refine gA C X6 e6 f5 (ow23 C.w) d23_37 d23_38 fun T7 X7 e7 => ?_
 refine sC C X7 d23_41 ?_
 refine si C X7 d23_42 ?_
 refine sM C X7 d23_44 ?_
 refine sC C X7 d23_45 ?_
 refine sP C X7 d23_46 ?_
 refine lA C X7 e7 V4 d23_47 ?_
 refine cS C X7 e7 (fun ws => rm19 l Z a0 C.w ws q23_2 l_ws_1 h4 n0 Z4 ) (W := 0) (ow106 C.w) (ow107 C.w) (ow108 C.w) (ow68 C.w) (argsL := [(.long q23_2), (.long l_ws_1)]) (lenOf pd__JJ_J rfl) d23_48 fun v8 T8 lo8 X8 hQ8 => ?_
 obtain ⟨rfl, Nq8, e8⟩ := hQ8
 obtain ⟨x9, hx9⟩ : ∃ z : Int64, z = (own_m q23_2 l_ws_1) := ⟨_, rfl⟩
 rw [← hx9]
 refine wl C X8 #[oR a23_0, oI 0, oJ q23_2, oD, oI 1, oJ x9, oD] d23_51 ?_
 refine gA C X8 e8 f5 (ow23 C.w) d23_53 d23_54 fun T10 X10 e10 => ?_
 refine si C X10 d23_57 ?_
 refine lA C X10 e10 V4 d23_59 ?_
 refine sl C X10 d23_60 ?_
 refine tC C X10 d23_62 ?_
 by_cases h63_11 : m3_1 = x9
 · refine bN C X10 d23_63 ((if0 _ _).trans (teq ((lw_eq _ _).mpr h63_11)).2) ?_
   refine sG C X10 d23_66 87 ?_
   refine rV C X10 e10 hret d23_87 ?_
   subst hx9
   subst hm3_1
   exact ⟨rfl, (N4.app Nq8), K4, S4, ⟨_, own_arv V4 (own_cons rfl (own_cons (congrArg Value.long h63_11.symm) (own_cons rfl (own_cons rfl rfl))))⟩⟩
 refine bY C X10 d23_63 69 ((if0 _ _).trans (feq (fun q => h63_11 ((lw_eq _ _).mp q))).2) ?_
 refine gA C X10 e10 f5 (ow23 C.w) d23_69 d23_70 fun T12 X12 e12 => ?_
 refine si C X12 d23_73 ?_
 refine sl C X12 d23_75 ?_
 refine sJ C X12 e12 (N4.app Nq8) g_ws V4 _ d23_77 fun T13 h13 lo13 X13 e13 N13 W13 V13 => ?_
 have S13 : own_StK Z h0 h13 := S4.wr W13
 have K13 : Keep h0 h13 [ws] := K4.wr W13 (Or.inl (List.mem_of_getElem? (i := 0) rfl))
 have Z13 : n0 ≤ h13.size := Nat.le_trans Z0 K13.1
 refine si C X13 d23_78 ?_
 refine sC C X13 d23_80 ?_
 refine own_Fin.st (g' := (mkF m 82 #[oR a23_0, oI 0, oJ q23_2, oD, oI 1, oJ x9, oD] [(.int (0 : Int32))])) ?_ (fun t k => XS.idiv X13.here C.1 rfl (C.d d23_81) rfl (by decide : ¬ ((2 : Int32) = (0 : Int32))) k)
 refine wi C X13 #[oR a23_0, oI 0, oJ q23_2, oD, oI 0, oJ x9, oD] d23_82 ?_
 refine sG C X13 d23_84 23 ?_
 refine si C X13 d23_23 ?_
 refine bY C X13 d23_25 87 ((if0 _ _).trans (flt (by decide : ¬ ((0 : Int32) < (0 : Int32)))).2.2.2) ?_
 refine rV C X13 e13 hret d23_87 ?_
 subst hx9
 subst hm3_1
 exact ⟨rfl, N13, K13, S13, ⟨_, own_arv V13 (own_cons rfl (own_cons rfl (own_cons rfl (own_cons rfl rfl))))⟩⟩
theorem pd__IJ_V : parseMethodDescriptor "(IJ)V" = some ⟨[.int, .long], none⟩:=by decide +kernel
def own_S_2_0_1_1_1 (Z : State) (h : Heap) (n0 : Nat) (a : Addr) (T t : Int64) : Prop := ∃ rT : Addr, ∃ rF : Addr, ∃ rO : Addr, ∃ rS : Addr, ∃ rE : Addr, ∃ rW : Addr, ∃ kT : ClassId, ∃ kF : ClassId, ∃ kO : ClassId, ∃ kW : ClassId, ∃ bs : Int64, ∃ tm1 : Int64, ∃ fr0 : Int64, ∃ fr1 : Int64, ∃ to0 : Int64, ∃ to1 : Int64, own_Obj Z h n0 a rT rF rO rS rE rW kT kF kO kW (0 : Int32) (1 : Int32) (1 : Int32) bs (1 : Int32) (1 : Int32) (1 : Int64) (2 : Int32) [(.long t), (.long tm1)] [(.long fr0), (.long fr1)] [(.long to0), (.long to1)] ∧ own_Sp2 Z h rS oM oM ∧ own_near T t ∧ own_near T fr0
theorem d7_0 : decode oc7 0 = .ok (.aload_n 0, 1):=by decide +kernel
theorem d7_1 : decode oc7 1 = .ok (.getfield 31, 3):=by decide +kernel
theorem d7_4 : decode oc7 4 = .ok (.ifCond .le 37, 3):=by decide +kernel
theorem d7_41 : decode oc7 41 = .ok (.aload_n 0, 1):=by decide +kernel
theorem d7_42 : decode oc7 42 = .ok (.getfield 31, 3):=by decide +kernel
theorem d7_45 : decode oc7 45 = .ok (.iload 5, 2):=by decide +kernel
theorem d7_47 : decode oc7 47 = .ok (.if_icmp .lt 101, 3):=by decide +kernel
theorem d7_148 : decode oc7 148 = .ok (.aload_n 0, 1):=by decide +kernel
theorem d7_149 : decode oc7 149 = .ok (.getfield 9, 3):=by decide +kernel
theorem d7_152 : decode oc7 152 = .ok (.arraylength, 1):=by decide +kernel
theorem d7_153 : decode oc7 153 = .ok (.istore 6, 2):=by decide +kernel
theorem d7_155 : decode oc7 155 = .ok (.aload_n 0, 1):=by decide +kernel
theorem d7_156 : decode oc7 156 = .ok (.getfield 35, 3):=by decide +kernel
theorem d7_159 : decode oc7 159 = .ok (.iload 6, 2):=by decide +kernel
theorem d7_161 : decode oc7 161 = .ok (.if_icmp .eq 27, 3):=by decide +kernel
theorem d7_188 : decode oc7 188 = .ok (.aload_n 0, 1):=by decide +kernel
theorem d7_189 : decode oc7 189 = .ok (.iconst 2, 1):=by decide +kernel
theorem d7_190 : decode oc7 190 = .ok (.iconst 2, 1):=by decide +kernel
theorem d7_191 : decode oc7 191 = .ok (.aload_n 0, 1):=by decide +kernel
theorem d7_192 : decode oc7 192 = .ok (.getfield 31, 3):=by decide +kernel
theorem d7_195 : decode oc7 195 = .ok (.imul, 1):=by decide +kernel
theorem d7_196 : decode oc7 196 = .ok (.iconst 1, 1):=by decide +kernel
theorem d7_197 : decode oc7 197 = .ok (.iadd, 1):=by decide +kernel
theorem d7_198 : decode oc7 198 = .ok (.invokestatic 76, 3):=by decide +kernel
theorem d7_201 : decode oc7 201 = .ok (.iconst 1, 1):=by decide +kernel
theorem d7_202 : decode oc7 202 = .ok (.ishl, 1):=by decide +kernel
theorem d7_203 : decode oc7 203 = .ok (.invokestatic 81, 3):=by decide +kernel
theorem d7_206 : decode oc7 206 = .ok (.invokevirtual 87, 3):=by decide +kernel
theorem d7_209 : decode oc7 209 = .ok (.aload_n 0, 1):=by decide +kernel
theorem d7_210 : decode oc7 210 = .ok (.getfield 31, 3):=by decide +kernel
theorem d7_213 : decode oc7 213 = .ok (.ifCond .le 17, 3):=by decide +kernel
theorem d7_230 : decode oc7 230 = .ok (.aload_n 0, 1):=by decide +kernel
theorem d7_231 : decode oc7 231 = .ok (.getfield 57, 3):=by decide +kernel
theorem d7_234 : decode oc7 234 = .ok (.lstore 7, 2):=by decide +kernel
theorem d7_236 : decode oc7 236 = .ok (.aload_n 0, 1):=by decide +kernel
theorem d7_237 : decode oc7 237 = .ok (.getfield 9, 3):=by decide +kernel
theorem d7_240 : decode oc7 240 = .ok (.aload_n 0, 1):=by decide +kernel
theorem d7_241 : decode oc7 241 = .ok (.getfield 35, 3):=by decide +kernel
theorem d7_244 : decode oc7 244 = .ok (.lload_n 1, 1):=by decide +kernel
theorem d7_245 : decode oc7 245 = .ok (.lastore, 1):=by decide +kernel
theorem d7_246 : decode oc7 246 = .ok (.aload_n 0, 1):=by decide +kernel
theorem d7_247 : decode oc7 247 = .ok (.getfield 15, 3):=by decide +kernel
theorem d7_250 : decode oc7 250 = .ok (.aload_n 0, 1):=by decide +kernel
theorem d7_251 : decode oc7 251 = .ok (.getfield 35, 3):=by decide +kernel
theorem d7_254 : decode oc7 254 = .ok (.lload_n 1, 1):=by decide +kernel
theorem d7_255 : decode oc7 255 = .ok (.lastore, 1):=by decide +kernel
theorem d7_256 : decode oc7 256 = .ok (.aload_n 0, 1):=by decide +kernel
theorem d7_257 : decode oc7 257 = .ok (.getfield 18, 3):=by decide +kernel
theorem d7_260 : decode oc7 260 = .ok (.aload_n 0, 1):=by decide +kernel
theorem d7_261 : decode oc7 261 = .ok (.getfield 35, 3):=by decide +kernel
theorem d7_264 : decode oc7 264 = .ok (.lload 7, 2):=by decide +kernel
theorem d7_266 : decode oc7 266 = .ok (.lload_n 3, 1):=by decide +kernel
theorem d7_267 : decode oc7 267 = .ok (.ladd, 1):=by decide +kernel
theorem d7_268 : decode oc7 268 = .ok (.lastore, 1):=by decide +kernel
theorem d7_269 : decode oc7 269 = .ok (.aload_n 0, 1):=by decide +kernel
theorem d7_270 : decode oc7 270 = .ok (.getfield 27, 3):=by decide +kernel
theorem d7_273 : decode oc7 273 = .ok (.aload_n 0, 1):=by decide +kernel
theorem d7_274 : decode oc7 274 = .ok (.getfield 35, 3):=by decide +kernel
theorem d7_277 : decode oc7 277 = .ok (.invokevirtual 90, 3):=by decide +kernel
theorem d7_280 : decode oc7 280 = .ok (.aload_n 0, 1):=by decide +kernel
theorem d7_281 : decode oc7 281 = .ok (.aload_n 0, 1):=by decide +kernel
theorem d7_282 : decode oc7 282 = .ok (.getfield 35, 3):=by decide +kernel
theorem d7_285 : decode oc7 285 = .ok (.aload_n 0, 1):=by decide +kernel
theorem d7_286 : decode oc7 286 = .ok (.getfield 31, 3):=by decide +kernel
theorem d7_289 : decode oc7 289 = .ok (.ifCond .le 19, 3):=by decide +kernel
theorem d7_308 : decode oc7 308 = .ok (.ldc2_w 65, 3):=by decide +kernel
theorem d7_311 : decode oc7 311 = .ok (.invokevirtual 67, 3):=by decide +kernel
theorem d7_314 : decode oc7 314 = .ok (.aload_n 0, 1):=by decide +kernel
theorem d7_315 : decode oc7 315 = .ok (.dup, 1):=by decide +kernel
theorem d7_316 : decode oc7 316 = .ok (.getfield 35, 3):=by decide +kernel
theorem d7_319 : decode oc7 319 = .ok (.iconst 1, 1):=by decide +kernel
theorem d7_320 : decode oc7 320 = .ok (.iadd, 1):=by decide +kernel
theorem d7_321 : decode oc7 321 = .ok (.putfield 35, 3):=by decide +kernel
theorem d7_324 : decode oc7 324 = .ok (.aload_n 0, 1):=by decide +kernel
theorem d7_325 : decode oc7 325 = .ok (.dup, 1):=by decide +kernel
theorem d7_326 : decode oc7 326 = .ok (.getfield 31, 3):=by decide +kernel
theorem d7_329 : decode oc7 329 = .ok (.iconst 1, 1):=by decide +kernel
theorem d7_330 : decode oc7 330 = .ok (.iadd, 1):=by decide +kernel
theorem d7_331 : decode oc7 331 = .ok (.putfield 31, 3):=by decide +kernel
theorem d7_334 : decode oc7 334 = .ok (.aload_n 0, 1):=by decide +kernel
theorem d7_335 : decode oc7 335 = .ok (.getfield 31, 3):=by decide +kernel
theorem d7_338 : decode oc7 338 = .ok (.iload 5, 2):=by decide +kernel
theorem d7_340 : decode oc7 340 = .ok (.if_icmp .le 8, 3):=by decide +kernel
theorem d7_348 : decode oc7 348 = .ok (.return_, 1):=by decide +kernel
theorem pn_7 : plainName oL = true := by first | (simp [plainName, overriddenIn]; done) | decide +kernel
theorem ef_rm7_1 (m : MethodId) (y0 : Addr) (y1 : Int64) (y2 : Int64) (y3 : Int32) : entryFrame m #[(.ref y0), (.long y1), (.long y2), (.int y3)] 9 = mkF m 0 #[oR y0, oJ y1, oD, oJ y2, oD, oI y3, oU, oU, oU] [] := by first | (simp [entryFrame, mkF, argsToLocals, Value.category]; done) | rfl
def Q_rm7_1 (Z : State) (a7_0 : Addr) (q7_1 : Int64) (q7_2 : Int64) (p7_3 : Int32) (rT : Addr) (rF : Addr) (rO : Addr) (rS : Addr) (rE : Addr) (rW : Addr) (kT : ClassId) (kF : ClassId) (kO : ClassId) (kW : ClassId) (bs : Int64) (T : Int64) (h0 : Heap) (n0 : Nat) (v : Option Value) (h : Heap) (L : List Loc) : Prop := v = none ∧ Fr n0 L ∧ (own_S_2_0_1_1_1 Z h n0 a7_0 T q7_1)
theorem rm7_1 (l : Launch) (Z : State) (a0 : Array Value) (hw : own_T Z a0) (a7_0 : Addr) (q7_1 q7_2 : Int64) (p7_3 : Int32) (rT rF rO rS rE rW : Addr) (kT kF kO kW : ClassId) (bs T : Int64) (h0 : Heap) (n0 : Nat) (Z0 : n0 ≤ h0.size) (O : own_Obj Z h0 n0 a7_0 rT rF rO rS rE rW kT kF kO kW (0 : Int32) (0 : Int32) (0 : Int32) bs (0 : Int32) (0 : Int32) (0 : Int64) (0 : Int32) [] [] []) (SP : own_Sp0 Z h0 rS) (hs_q7_1 : own_near T q7_1) (hm : (0 : Int32) < p7_3) :
   own_Met l oy7 oc7 9 none ({ frames := 6, cells := 6, slots := 44, locals := 150 } : Room) Z h0 #[(.ref a7_0), (.long q7_1), (.long q7_2), (.int p7_3)] (Q_rm7_1 Z a7_0 q7_1 q7_2 p7_3 rT rF rO rS rE rW kT kF kO kW bs T h0 n0) := by
 refine own_go hw (plainFor_of_name pn_7) (fun m => ef_rm7_1 m a7_0 q7_1 q7_2 p7_3) fun p e s m below meth c T0 C hret X0 e0 => ?_
 have N0 := Fr.nil n0
 refine gA C X0 e0 O.Fsize (ow53 C.w) d7_0 d7_1 fun T1 X1 e1 => ?_
 refine bY C X1 d7_4 41 ((if0 _ _).trans (flt (by decide : ¬ ((0 : Int32) < (0 : Int32)))).2.2.2) ?_
 refine gA C X1 e1 O.Fsize (ow53 C.w) d7_41 d7_42 fun T2 X2 e2 => ?_
 refine si C X2 d7_45 ?_
 refine cY C X2 d7_47 148 ((tlt hm).1) ?_
 refine gA C X2 e2 O.Ftimes (ow17 C.w) d7_148 d7_149 fun T3 X3 e3 => ?_
 refine nA C X3 e3 O.Vt d7_152 ?_
 refine wi C X3 #[oR a7_0, oJ q7_1, oD, oJ q7_2, oD, oI p7_3, oI 0, oU, oU] d7_153 ?_
 refine gA C X3 e3 O.Fend (ow55 C.w) d7_155 d7_156 fun T4 X4 e4 => ?_
 refine si C X4 d7_159 ?_
 refine cY C X4 d7_161 188 ((teq (by decide : (0 : Int32) = (0 : Int32))).1) ?_
 refine sA C X4 d7_188 ?_
 refine sC C X4 d7_189 ?_
 refine sC C X4 d7_190 ?_
 refine gA C X4 e4 O.Fsize (ow53 C.w) d7_191 d7_192 fun T5 X5 e5 => ?_
 refine sM C X5 d7_195 ?_
 refine sC C X5 d7_196 ?_
 refine sP C X5 d7_197 ?_
 refine cB C X5 e5 (W := 2) (Jvm.Free.JP.Integer_highestOneBit_I.pays (1 : Int32) (own_tH C) (by decide) (by decide)) (ow57 C.w) (ow58 C.w) (ow60 C.w) (ow59 C.w) (argsL := [(.int (1 : Int32))]) (lenOf pd__I_I rfl) (fun _ => ⟨rfl, trivial⟩) d7_198 fun T6 X6 e6 => ?_
 have cz7 : Jvm.Free.JP.Integer_highestOneBit_I.val (1 : Int32) = (1 : Int32):=by decide +kernel
 rw [cz7]
 refine sC C X6 d7_201 ?_
 refine sH C X6 d7_202 ?_
 refine cS C X6 e6 (fun ws => rm10 l Z a0 C.w ws (2 : Int32) (2 : Int32) h0 n0 O.hsz ) (W := 1) (ow66 C.w) (ow67 C.w) (ow69 C.w) (ow68 C.w) (argsL := [(.int (2 : Int32)), (.int (2 : Int32))]) (lenOf pd__II_I rfl) d7_203 fun v8 T8 lo8 X8 hQ8 => ?_
 obtain ⟨rfl, Nq8, e8⟩ := hQ8
 rw [show (if (2 : Int32) < (2 : Int32) then (2 : Int32) else (2 : Int32)) = (2 : Int32) from by decide +kernel]
 refine cP C X8 e8 (rm11_1 l Z a0 C.w a7_0 rT rF rO rS rE rW kT kF kO kW bs T h0 n0 O.hsz O SP) O.Ea (W := 0) (ow70 C.w) (ow71 C.w) (own_selp (x := oy7) rfl (mvT (args := #[]) C.z (ow51 C.w)) (Cond.privateMethod_at (mvP C.z (ow72 C.w) (args := #[]))) (mvT C.z (ow71 C.w)) (by decide)) (ow72 C.w) (ow73 C.w) (ow9 C.w) (argsL := [(.int (2 : Int32))]) (lenOf pd__I_V rfl) d7_206 fun v10 T10 lo10 X10 hQ10 => ?_
 obtain ⟨rfl, Nq10, rT_10, rF_10, rO_10, rS_10, rE_10, rW_10, kT_10, kF_10, kO_10, kW_10, O10, SP10⟩ := hQ10
 refine gA C X10 rfl O10.Fsize (ow53 C.w) d7_209 d7_210 fun T11 X11 e11 => ?_
 refine bY C X11 d7_213 230 ((if0 _ _).trans (flt (by decide : ¬ ((0 : Int32) < (0 : Int32)))).2.2.2) ?_
 refine gA C X11 e11 O10.Fbase (ow109 C.w) d7_230 d7_231 fun T12 X12 e12 => ?_
 refine wl C X12 #[oR a7_0, oJ q7_1, oD, oJ q7_2, oD, oI p7_3, oI 0, oJ bs, oD] d7_234 ?_
 refine gA C X12 e12 O10.Ftimes (ow17 C.w) d7_236 d7_237 fun T13 X13 e13 => ?_
 refine gA C X13 e13 O10.Fend (ow55 C.w) d7_240 d7_241 fun T14 X14 e14 => ?_
 refine sL C X14 d7_244 ?_
 refine sJ C X14 e14 ((N0.app Nq8).app Nq10) O10.grT O10.Vt _ d7_245 fun T15 h15 lo15 X15 e15 N15 W15 V15 => ?_
 have O15 := O10.setT W15 V15
 refine gA C X15 e15 O15.Ffroms (ow19 C.w) d7_246 d7_247 fun T16 X16 e16 => ?_
 refine gA C X16 e16 O15.Fend (ow55 C.w) d7_250 d7_251 fun T17 X17 e17 => ?_
 refine sL C X17 d7_254 ?_
 refine sJ C X17 e17 N15 O15.grF O15.Vf _ d7_255 fun T18 h18 lo18 X18 e18 N18 W18 V18 => ?_
 have O18 := O15.setF W18 V18
 refine gA C X18 e18 O18.Ftotals (ow21 C.w) d7_256 d7_257 fun T19 X19 e19 => ?_
 refine gA C X19 e19 O18.Fend (ow55 C.w) d7_260 d7_261 fun T20 X20 e20 => ?_
 refine sl C X20 d7_264 ?_
 refine sL C X20 d7_266 ?_
 refine tP C X20 d7_267 ?_
 refine sJ C X20 e20 N18 O18.grO O18.Vo _ d7_268 fun T21 h21 lo21 X21 e21 N21 W21 V21 => ?_
 have O21 := O18.setO W21 V21
 refine gA C X21 e21 O21.Fentries (ow46 C.w) d7_269 d7_270 fun T22 X22 e22 => ?_
 refine gA C X22 e22 O21.Fend (ow55 C.w) d7_273 d7_274 fun T23 X23 e23 => ?_
 refine cV C X23 e23 (rm20_1 l Z a0 C.w rE_10 (0 : Int32) rW_10 kW_10 (0 : Int64) h21 n0 O21.hsz (by decide +kernel) (by decide +kernel) O21.Ee O21.BwordsInUse O21.BsizeIsSticky O21.Bwords O21.Vw O21.grE (Ne.symm O21.n_rE_rW) O21.grW O21.St) O21.Ee (W := 0) (ow111 C.w) (ow112 C.w) (ow114 C.w) (ow113 C.w) (ow115 C.w) (ow27 C.w) (argsL := [(.int (0 : Int32))]) (lenOf pd__I_V rfl) d7_277 fun v24 T24 lo24 X24 hQ24 => ?_
 obtain ⟨rfl, Nq24, Kc24, Sc24, P24_0, P24_1, P24_2, P24_3, P24_4⟩ := hQ24
 rw [show ((0 : Int64) ||| ((1 : Int64) <<< ((0 : Int32) &&& 0x3f).toInt64)) = (1 : Int64) from by decide +kernel] at P24_4
 have O24 := O21.bits Kc24 Sc24 P24_0 P24_1 P24_2 P24_3 P24_4
 refine sA C X24 d7_280 ?_
 refine gA C X24 rfl O24.Fend (ow55 C.w) d7_281 d7_282 fun T25 X25 e25 => ?_
 refine gA C X25 e25 O24.Fsize (ow53 C.w) d7_285 d7_286 fun T26 X26 e26 => ?_
 refine bY C X26 d7_289 308 ((if0 _ _).trans (flt (by decide : ¬ ((0 : Int32) < (0 : Int32)))).2.2.2) ?_
 refine kJ C X26 (ow98 C.w) d7_308 ?_
 have f27 := ((((SP10.other W15 (Ne.symm O24.n_rT_rS)).other W18 (Ne.symm O24.n_rF_rS)).other W21 (Ne.symm O24.n_rO_rS)).keep Kc24 (ninS O24.n_rS_rE (ninS O24.n_rS_rW nin0)))
 refine cP C X26 e26 (rm23_2_0 l Z a0 C.w a7_0 oM rT_10 kT_10 q7_1 (0 : Int64) rS_10 oM oM T24.heap n0 O24.hsz O24.Ftimes O24.Vt O24.Fspans f27 O24.grS O24.n_a_rS) O24.Ea (W := 0) (ow126 C.w) (ow127 C.w) (own_selp (x := oy7) rfl (mvT (args := #[]) C.z (ow51 C.w)) (Cond.privateMethod_at (mvP C.z (ow128 C.w) (args := #[]))) (mvT C.z (ow127 C.w)) (by decide)) (ow128 C.w) (ow129 C.w) (ow9 C.w) (argsL := [(.int (0 : Int32)), (.long oM)]) (lenOf pd__IJ_V rfl) d7_311 fun v28 T28 lo28 X28 hQ28 => ?_
 obtain ⟨rfl, Nq28, Kc28, Sc28, P28_0⟩ := hQ28
 have O28 := O24.sp Kc28 Sc28
 refine sA C X28 d7_314 ?_
 refine sD C X28 d7_315 ?_
 refine gF C X28 rfl O28.Fend (ow55 C.w) d7_316 fun T29 X29 e29 => ?_
 refine sC C X29 d7_319 ?_
 refine sP C X29 d7_320 ?_
 refine pF C X29 e29 ((N21.app Nq24).app Nq28) O28.ga O28.Fend O28.Ea (ty := .int) (ow55 C.w) (ow56 C.w) (ow8 C.w) (by decide) d7_321 fun T30 h30 lo30 X30 e30 N30 W30 F30 => ?_
 have O30 := own_Obj.put_end hw O28 W30 F30
 refine sA C X30 d7_324 ?_
 refine sD C X30 d7_325 ?_
 refine gF C X30 e30 O30.Fsize (ow53 C.w) d7_326 fun T31 X31 e31 => ?_
 refine sC C X31 d7_329 ?_
 refine sP C X31 d7_330 ?_
 refine pF C X31 e31 N30 O30.ga O30.Fsize O30.Ea (ty := .int) (ow53 C.w) (ow54 C.w) (ow8 C.w) (by decide) d7_331 fun T32 h32 lo32 X32 e32 N32 W32 F32 => ?_
 have O32 := own_Obj.put_size hw O30 W32 F32
 refine gA C X32 e32 O32.Fsize (ow53 C.w) d7_334 d7_335 fun T33 X33 e33 => ?_
 refine si C X33 d7_338 ?_
 refine cY C X33 d7_340 348 ((flt (own_ilt (0 : Int32) (1 : Int32) hm (by decide))).2.2.2) ?_
 have f34 := ((P28_0.other W30 (Ne.symm O32.n_a_rS)).other W32 (Ne.symm O32.n_a_rS))
 refine rV C X33 e33 hret d7_348 ?_
 exact ⟨rfl, N32, ⟨rT_10, rF_10, rO_10, rS_10, rE_10, rW_10, kT_10, kF_10, kO_10, kW_10, bs, (0 : Int64), q7_1, (0 : Int64), (bs + q7_2), (0 : Int64), O32, f34, hs_q7_1, hs_q7_1⟩⟩
def Q_rm21_2 (Z : State) (a21_0 ww : Addr) (kc_ww : ClassId) (t_ww_0 : Int64) (h0 : Heap) (n0 : Nat) (v : Option Value) (h : Heap) (L : List Loc) : Prop := v = none ∧ Fr n0 L ∧ h = h0
theorem rm21_2 (l : Launch) (Z : State) (a0 : Array Value) (hw : own_T Z a0) (a21_0 ww : Addr) (kc_ww : ClassId) (t_ww_0 : Int64) (h0 : Heap) (n0 : Nat) (Z0 : n0 ≤ h0.size) (E_a : Exa Z h0 a21_0 oB) (F_wordsInUse : Fld Z h0 a21_0 oB "wordsInUse" "I" (.int (1 : Int32))) (F_sizeIsSticky : Fld Z h0 a21_0 oB "sizeIsSticky" "Z" (.int (1 : Int32))) (F_words : Fld Z h0 a21_0 oB "words" "[J" (.ref ww)) (V_ww : Arv Z h0 ww kc_ww .long (1 : Int32) [(.long t_ww_0)] oZ) :
   own_Met l (⟨oB, "expandTo", "(I)V"⟩ : MethodName) oc21 3 none ({ frames := 0, cells := 0, slots := 0, locals := 0 } : Room) Z h0 #[(.ref a21_0), (.int (0 : Int32))] (Q_rm21_2 Z a21_0 ww kc_ww t_ww_0 h0 n0) := by
 refine own_go hw (plainFor_of_name pn_21) (fun m => ef_rm21_1 m a21_0) fun p e s m below meth c T0 C hret X0 e0 => ?_
 have N0 := Fr.nil n0
 refine sI C X0 d21_0 ?_
 refine sC C X0 d21_1 ?_
 refine sP C X0 d21_2 ?_
 refine wI C X0 #[oR a21_0, oI 0, oI 1] d21_3 ?_
 refine gA C X0 e0 F_wordsInUse (ow32 C.w) d21_4 d21_5 fun T1 X1 e1 => ?_
 refine sI C X1 d21_8 ?_
 refine cY C X1 d21_9 22 ((flt (by decide : ¬ ((1 : Int32) < (1 : Int32)))).2.1) ?_
 refine rV C X1 e1 hret d21_22 ?_
 exact ⟨rfl, N0, rfl⟩
def Q_rm20_2 (Z : State) (a20_0 : Addr) (p20_1 : Int32) (ww : Addr) (kc_ww : ClassId) (t_ww_0 : Int64) (h0 : Heap) (n0 : Nat) (v : Option Value) (h : Heap) (L : List Loc) : Prop := v = none ∧ Fr n0 L ∧ Keep h0 h [ww] ∧ own_StK Z h0 h ∧ Arv Z h ww kc_ww .long (1 : Int32) [(.long (t_ww_0 ||| ((1 : Int64) <<< (p20_1 &&& 0x3f).toInt64)))] oZ
theorem rm20_2 (l : Launch) (Z : State) (a0 : Array Value) (hw : own_T Z a0) (a20_0 : Addr) (p20_1 : Int32) (ww : Addr) (kc_ww : ClassId) (t_ww_0 : Int64) (h0 : Heap) (n0 : Nat) (Z0 : n0 ≤ h0.size) (hn : ¬ (p20_1 < (0 : Int32))) (hu : (p20_1 >>> ((6 : Int32) &&& 31)) = (0 : Int32)) (E_a : Exa Z h0 a20_0 oB) (F_wordsInUse : Fld Z h0 a20_0 oB "wordsInUse" "I" (.int (1 : Int32))) (F_sizeIsSticky : Fld Z h0 a20_0 oB "sizeIsSticky" "Z" (.int (1 : Int32))) (F_words : Fld Z h0 a20_0 oB "words" "[J" (.ref ww)) (V_ww : Arv Z h0 ww kc_ww .long (1 : Int32) [(.long t_ww_0)] oZ) (g_ww : n0 ≤ ww) (Sta1 : Sta Z h0 oB "$assertionsDisabled" "Z" (.int (1 : Int32))) :
   own_Met l (⟨oB, "set", "(I)V"⟩ : MethodName) oc20 3 none ({ frames := 1, cells := 0, slots := 0, locals := 14 } : Room) Z h0 #[(.ref a20_0), (.int p20_1)] (Q_rm20_2 Z a20_0 p20_1 ww kc_ww t_ww_0 h0 n0) := by
 refine own_go hw (plainFor_of_name pn_20) (fun m => ef_rm20_1 m a20_0 p20_1) fun p e s m below meth c T0 C hret X0 e0 => ?_
 have N0 := Fr.nil n0
 refine sI C X0 d20_0 ?_
 refine bY C X0 d20_1 31 ((if0 _ _).trans (flt hn).2.1) ?_
 refine sI C X0 d20_31 ?_
 refine cS C X0 e0 (fun ws => rm6 l Z a0 C.w ws p20_1 h0 n0 Z0 ) (W := 0) (ow41 C.w) (ow42 C.w) (ow43 C.w) (ow27 C.w) (argsL := [(.int p20_1)]) (lenOf pd__I_I rfl) d20_32 fun v1 T1 lo1 X1 hQ1 => ?_
 obtain ⟨rfl, Nq1, e1⟩ := hQ1
 rw [hu]
 refine wI C X1 #[oR a20_0, oI p20_1, oI 0] d20_35 ?_
 refine sA C X1 d20_36 ?_
 refine sI C X1 d20_37 ?_
 refine cP C X1 e1 (rm21_2 l Z a0 C.w a20_0 ww kc_ww t_ww_0 h0 n0 Z0 E_a F_wordsInUse F_sizeIsSticky F_words V_ww) E_a (W := 0) (ow116 C.w) (ow117 C.w) (mvT C.z (ow119 C.w)) (ow118 C.w) (ow120 C.w) (ow27 C.w) (argsL := [(.int (0 : Int32))]) (lenOf pd__I_V rfl) d20_38 fun v2 T2 lo2 X2 hQ2 => ?_
 obtain ⟨rfl, Nq2, e2⟩ := hQ2
 refine gA C X2 e2 F_words (ow44 C.w) d20_41 d20_42 fun T3 X3 e3 => ?_
 refine sI C X3 d20_45 ?_
 show own_Fin p l e _ s m _ below meth c _ T3 (mkF m 46 #[oR a20_0, oI p20_1, oI 0] [(.int (0 : Int32)), (.ref ww)])
 refine own_Fin.st (g' := (mkF m 47 #[oR a20_0, oI p20_1, oI 0] [(.int (0 : Int32)), (.ref ww), (.int (0 : Int32)), (.ref ww)])) ?_ (fun t k => by jvm_step X3.here [X3.here.top, C.1, C.d d20_46, Value.category]; exact k)
 refine lA C X3 e3 V_ww d20_47 ?_
 refine tK C X3 d20_48 ?_
 refine sI C X3 d20_49 ?_
 refine tH C X3 d20_50 ?_
 refine tO C X3 d20_51 ?_
 refine sJ C X3 e3 ((N0.app Nq1).app Nq2) g_ww V_ww _ d20_52 fun T4 h4 lo4 X4 e4 N4 W4 V4 => ?_
 have S4 : own_StK Z h0 h4 := (own_StK.refl Z h0).wr W4
 have K4 : Keep h0 h4 [ww] := (Keep.refl h0 [ww]).wr W4 (Or.inl (List.mem_of_getElem? (i := 0) rfl))
 have Z4 : n0 ≤ h4.size := Nat.le_trans Z0 K4.1
 refine sA C X4 d20_53 ?_
 have f6 := (E_a.wr W4)
 refine cP C X4 e4 (fun ws => rm13 l Z a0 C.w ws a20_0 h4 n0 Z4 (S4 _ _ _ _ Sta1)) f6 (W := 0) (ow81 C.w) (ow82 C.w) (mvT C.z (ow84 C.w)) (ow83 C.w) (ow85 C.w) (ow27 C.w) (argsL := []) (lenOf pd___V rfl) d20_54 fun v5 T5 lo5 X5 hQ5 => ?_
 obtain ⟨rfl, Nq5, e5⟩ := hQ5
 refine rV C X5 e5 hret d20_57 ?_
 exact ⟨rfl, (N4.app Nq5), K4, S4, V4⟩
theorem ef_rm23_2_1 (m : MethodId) (y0 : Addr) (y2 : Int64) : entryFrame m #[(.ref y0), (.int (1 : Int32)), (.long y2)] 7 = mkF m 0 #[oR y0, oI 1, oJ y2, oD, oU, oU, oU] [] := by first | (simp [entryFrame, mkF, argsToLocals, Value.category]; done) | rfl
def Q_rm23_2_1 (Z : State) (a23_0 : Addr) (q23_2 : Int64) (wt : Addr) (kc_wt : ClassId) (t_wt_0 t_wt_1 : Int64) (ws : Addr) (l_ws_0 l_ws_1 : Int64) (h0 : Heap) (n0 : Nat) (v : Option Value) (h : Heap) (L : List Loc) : Prop := v = none ∧ Fr n0 L ∧ Keep h0 h [ws] ∧ own_StK Z h0 h ∧ own_Sp2 Z h ws l_ws_0 q23_2
theorem rm23_2_1 (l : Launch) (Z : State) (a0 : Array Value) (hw : own_T Z a0) (a23_0 : Addr) (q23_2 : Int64) (wt : Addr) (kc_wt : ClassId) (t_wt_0 t_wt_1 : Int64) (ws : Addr) (l_ws_0 l_ws_1 : Int64) (h0 : Heap) (n0 : Nat) (Z0 : n0 ≤ h0.size) (F_times : Fld Z h0 a23_0 oL "times" "[J" (.ref wt)) (V_wt : Arv Z h0 wt kc_wt .long (2 : Int32) [(.long t_wt_0), (.long t_wt_1)] oZ) (F_spans : Fld Z h0 a23_0 oL "spans" "[J" (.ref ws)) (T_ws : own_Sp2 Z h0 ws l_ws_0 l_ws_1) (g_ws : n0 ≤ ws) (ne_a23_0_ws : a23_0 ≠ ws) :
   own_Met l oy23 oc23 7 none ({ frames := 1, cells := 0, slots := 0, locals := 15 } : Room) Z h0 #[(.ref a23_0), (.int (1 : Int32)), (.long q23_2)] (Q_rm23_2_1 Z a23_0 q23_2 wt kc_wt t_wt_0 t_wt_1 ws l_ws_0 l_ws_1 h0 n0) := by
 refine own_go hw (plainFor_of_name pn_23) (fun m => ef_rm23_2_1 m a23_0 q23_2) fun p e s m below meth c T0 C hret X0 e0 => ?_
 have N0 := Fr.nil n0
 refine gA C X0 e0 F_times (ow17 C.w) d23_0 d23_1 fun T1 X1 e1 => ?_
 refine nA C X1 e1 V_wt d23_4 ?_
 refine sI C X1 d23_5 ?_
 refine sP C X1 d23_6 ?_
 refine wi C X1 #[oR a23_0, oI 1, oJ q23_2, oD, oI 3, oU, oU] d23_7 ?_
 refine gA C X1 e1 F_spans (ow23 C.w) d23_9 d23_10 fun T2 X2 e2 => ?_
 refine si C X2 d23_13 ?_
 refine sL C X2 d23_15 ?_
 obtain ⟨kq3, VT3⟩ := id T_ws
 obtain ⟨m3_1, hm3_1⟩ : ∃ z : Int64, z = (own_m l_ws_0 l_ws_1) := ⟨_, rfl⟩
 rw [← hm3_1] at VT3
 refine sJ C X2 e2 N0 g_ws VT3 _ d23_16 fun T4 h4 lo4 X4 e4 N4 W4 V4 => ?_
 have S4 : own_StK Z h0 h4 := (own_StK.refl Z h0).wr W4
 have K4 : Keep h0 h4 [ws] := (Keep.refl h0 [ws]).wr W4 (Or.inl (List.mem_of_getElem? (i := 0) rfl))
 have Z4 : n0 ≤ h4.size := Nat.le_trans Z0 K4.1
 refine si C X4 d23_17 ?_
 refine sC C X4 d23_19 ?_
 refine own_Fin.st (g' := (mkF m 21 #[oR a23_0, oI 1, oJ q23_2, oD, oI 3, oU, oU] [(.int (1 : Int32))])) ?_ (fun t k => XS.idiv X4.here C.1 rfl (C.d d23_20) rfl (by decide : ¬ ((2 : Int32) = (0 : Int32))) k)
 refine wi C X4 #[oR a23_0, oI 1, oJ q23_2, oD, oI 1, oU, oU] d23_21 ?_
 refine si C X4 d23_23 ?_
 refine bN C X4 d23_25 ((if0 _ _).trans (tlt (by decide : (0 : Int32) < (1 : Int32))).2.2.2) ?_
 have f5 := (F_spans.other W4 (Or.inl ne_a23_0_ws))
 refine gA C X4 e4 f5 (ow23 C.w) d23_28 d23_29 fun T6 X6 e6 => ?_
 refine sC C X6 d23_32 ?_
 refine si C X6 d23_33 ?_
 refine sM C X6 d23_35 ?_
 refine lA C X6 e6 V4 d23_36 ?_
 refine gA C X6 e6 f5 (ow23 C.w) d23_37 d23_38 fun T7 X7 e7 => ?_
 refine sC C X7 d23_41 ?_
 refine si C X7 d23_42 ?_
 refine sM C X7 d23_44 ?_
 refine sC C X7 d23_45 ?_
 refine sP C X7 d23_46 ?_
 refine lA C X7 e7 V4 d23_47 ?_
 refine cS C X7 e7 (fun ws => rm19 l Z a0 C.w ws l_ws_0 q23_2 h4 n0 Z4 ) (W := 0) (ow106 C.w) (ow107 C.w) (ow108 C.w) (ow68 C.w) (argsL := [(.long l_ws_0), (.long q23_2)]) (lenOf pd__JJ_J rfl) d23_48 fun v8 T8 lo8 X8 hQ8 => ?_
 obtain ⟨rfl, Nq8, e8⟩ := hQ8
 obtain ⟨x9, hx9⟩ : ∃ z : Int64, z = (own_m l_ws_0 q23_2) := ⟨_, rfl⟩
 rw [← hx9]
 refine wl C X8 #[oR a23_0, oI 1, oJ q23_2, oD, oI 1, oJ x9, oD] d23_51 ?_
 refine gA C X8 e8 f5 (ow23 C.w) d23_53 d23_54 fun T10 X10 e10 => ?_
 refine si C X10 d23_57 ?_
 refine lA C X10 e10 V4 d23_59 ?_
 refine sl C X10 d23_60 ?_
 refine tC C X10 d23_62 ?_
 by_cases h63_11 : m3_1 = x9
 · refine bN C X10 d23_63 ((if0 _ _).trans (teq ((lw_eq _ _).mpr h63_11)).2) ?_
   refine sG C X10 d23_66 87 ?_
   refine rV C X10 e10 hret d23_87 ?_
   subst hx9
   subst hm3_1
   exact ⟨rfl, (N4.app Nq8), K4, S4, ⟨_, own_arv V4 (own_cons rfl (own_cons (congrArg Value.long h63_11.symm) (own_cons rfl (own_cons rfl rfl))))⟩⟩
 refine bY C X10 d23_63 69 ((if0 _ _).trans (feq (fun q => h63_11 ((lw_eq _ _).mp q))).2) ?_
 refine gA C X10 e10 f5 (ow23 C.w) d23_69 d23_70 fun T12 X12 e12 => ?_
 refine si C X12 d23_73 ?_
 refine sl C X12 d23_75 ?_
 refine sJ C X12 e12 (N4.app Nq8) g_ws V4 _ d23_77 fun T13 h13 lo13 X13 e13 N13 W13 V13 => ?_
 have S13 : own_StK Z h0 h13 := S4.wr W13
 have K13 : Keep h0 h13 [ws] := K4.wr W13 (Or.inl (List.mem_of_getElem? (i := 0) rfl))
 have Z13 : n0 ≤ h13.size := Nat.le_trans Z0 K13.1
 refine si C X13 d23_78 ?_
 refine sC C X13 d23_80 ?_
 refine own_Fin.st (g' := (mkF m 82 #[oR a23_0, oI 1, oJ q23_2, oD, oI 1, oJ x9, oD] [(.int (0 : Int32))])) ?_ (fun t k => XS.idiv X13.here C.1 rfl (C.d d23_81) rfl (by decide : ¬ ((2 : Int32) = (0 : Int32))) k)
 refine wi C X13 #[oR a23_0, oI 1, oJ q23_2, oD, oI 0, oJ x9, oD] d23_82 ?_
 refine sG C X13 d23_84 23 ?_
 refine si C X13 d23_23 ?_
 refine bY C X13 d23_25 87 ((if0 _ _).trans (flt (by decide : ¬ ((0 : Int32) < (0 : Int32)))).2.2.2) ?_
 refine rV C X13 e13 hret d23_87 ?_
 subst hx9
 subst hm3_1
 exact ⟨rfl, N13, K13, S13, ⟨_, own_arv V13 (own_cons rfl (own_cons rfl (own_cons rfl (own_cons rfl rfl))))⟩⟩
theorem d32_0 : decode oc32 0 = .ok (.iload_n 1, 1):=by decide +kernel
theorem d32_1 : decode oc32 1 = .ok (.ifCond .ge 37, 3):=by decide +kernel
theorem d32_4 : decode oc32 4 = .ok (.iload_n 1, 1):=by decide +kernel
theorem d32_5 : decode oc32 5 = .ok (.iconst (-1), 1):=by decide +kernel
theorem d32_6 : decode oc32 6 = .ok (.if_icmp .ne 5, 3):=by decide +kernel
theorem d32_9 : decode oc32 9 = .ok (.iconst (-1), 1):=by decide +kernel
theorem d32_10 : decode oc32 10 = .ok (.ireturn, 1):=by decide +kernel
theorem pn_32 : plainName oB = true := by first | (simp [plainName, overriddenIn]; done) | decide +kernel
theorem ef_rm32_1 (m : MethodId) (y0 : Addr) : entryFrame m #[(.ref y0), (.int (-1 : Int32))] 5 = mkF m 0 #[oR y0, oI (-1), oU, oU, oU] [] := by first | (simp [entryFrame, mkF, argsToLocals, Value.category]; done) | rfl
def Q_rm32_1 (Z : State) (a32_0 ww : Addr) (kc_ww : ClassId) (t_ww_0 : Int64) (h0 : Heap) (n0 : Nat) (v : Option Value) (h : Heap) (L : List Loc) : Prop := v = some (.int (-1 : Int32)) ∧ Fr n0 L ∧ h = h0
theorem rm32_1 (l : Launch) (Z : State) (a0 : Array Value) (hw : own_T Z a0) (a32_0 ww : Addr) (kc_ww : ClassId) (t_ww_0 : Int64) (h0 : Heap) (n0 : Nat) (Z0 : n0 ≤ h0.size) (E_a : Exa Z h0 a32_0 oB) (F_wordsInUse : Fld Z h0 a32_0 oB "wordsInUse" "I" (.int (1 : Int32))) (F_sizeIsSticky : Fld Z h0 a32_0 oB "sizeIsSticky" "Z" (.int (1 : Int32))) (F_words : Fld Z h0 a32_0 oB "words" "[J" (.ref ww)) (V_ww : Arv Z h0 ww kc_ww .long (1 : Int32) [(.long t_ww_0)] oZ) :
   own_Met l (⟨oB, "previousSetBit", "(I)I"⟩ : MethodName) oc32 5 (some .int) ({ frames := 0, cells := 0, slots := 0, locals := 0 } : Room) Z h0 #[(.ref a32_0), (.int (-1 : Int32))] (Q_rm32_1 Z a32_0 ww kc_ww t_ww_0 h0 n0) := by
 refine own_go hw (plainFor_of_name pn_32) (fun m => ef_rm32_1 m a32_0) fun p e s m below meth c T0 C hret X0 e0 => ?_
 have N0 := Fr.nil n0
 refine sI C X0 d32_0 ?_
 refine bN C X0 d32_1 ((if0 _ _).trans (tlt (by decide : (-1 : Int32) < (0 : Int32))).2.1) ?_
 refine sI C X0 d32_4 ?_
 refine sC C X0 d32_5 ?_
 refine cN C X0 d32_6 ((teq (by decide : (-1 : Int32) = (-1 : Int32))).2) ?_
 refine sC C X0 d32_9 ?_
 refine rI C X0 e0 hret d32_10 ?_
 exact ⟨rfl, N0, rfl⟩
def own_S_2_0_2_2_3 (Z : State) (h : Heap) (n0 : Nat) (a : Addr) (T t : Int64) : Prop := ∃ rT : Addr, ∃ rF : Addr, ∃ rO : Addr, ∃ rS : Addr, ∃ rE : Addr, ∃ rW : Addr, ∃ kT : ClassId, ∃ kF : ClassId, ∃ kO : ClassId, ∃ kW : ClassId, ∃ bs : Int64, ∃ tm0 : Int64, ∃ fr0 : Int64, ∃ fr1 : Int64, ∃ to0 : Int64, ∃ to1 : Int64, own_Obj Z h n0 a rT rF rO rS rE rW kT kF kO kW (0 : Int32) (2 : Int32) (2 : Int32) bs (1 : Int32) (1 : Int32) (3 : Int64) (2 : Int32) [(.long tm0), (.long t)] [(.long fr0), (.long fr1)] [(.long to0), (.long to1)] ∧ own_Sp2 Z h rS oM (t - fr0) ∧ own_near T tm0 ∧ own_near T t ∧ own_near T fr0 ∧ own_near T fr1
theorem d7_7 : decode oc7 7 = .ok (.aload_n 0, 1):=by decide +kernel
theorem d7_8 : decode oc7 8 = .ok (.getfield 9, 3):=by decide +kernel
theorem d7_11 : decode oc7 11 = .ok (.aload_n 0, 1):=by decide +kernel
theorem d7_12 : decode oc7 12 = .ok (.getfield 35, 3):=by decide +kernel
theorem d7_15 : decode oc7 15 = .ok (.iconst 1, 1):=by decide +kernel
theorem d7_16 : decode oc7 16 = .ok (.isub, 1):=by decide +kernel
theorem d7_17 : decode oc7 17 = .ok (.laload, 1):=by decide +kernel
theorem d7_18 : decode oc7 18 = .ok (.lload_n 1, 1):=by decide +kernel
theorem d7_19 : decode oc7 19 = .ok (.lcmp, 1):=by decide +kernel
theorem d7_20 : decode oc7 20 = .ok (.ifCond .ne 21, 3):=by decide +kernel
theorem d7_23 : decode oc7 23 = .ok (.aload_n 0, 1):=by decide +kernel
theorem d7_24 : decode oc7 24 = .ok (.getfield 18, 3):=by decide +kernel
theorem d7_27 : decode oc7 27 = .ok (.aload_n 0, 1):=by decide +kernel
theorem d7_28 : decode oc7 28 = .ok (.getfield 35, 3):=by decide +kernel
theorem d7_31 : decode oc7 31 = .ok (.iconst 1, 1):=by decide +kernel
theorem d7_32 : decode oc7 32 = .ok (.isub, 1):=by decide +kernel
theorem d7_33 : decode oc7 33 = .ok (.dup2, 1):=by decide +kernel
theorem d7_34 : decode oc7 34 = .ok (.laload, 1):=by decide +kernel
theorem d7_35 : decode oc7 35 = .ok (.lload_n 3, 1):=by decide +kernel
theorem d7_36 : decode oc7 36 = .ok (.ladd, 1):=by decide +kernel
theorem d7_37 : decode oc7 37 = .ok (.lastore, 1):=by decide +kernel
theorem d7_38 : decode oc7 38 = .ok (.goto 310, 3):=by decide +kernel
theorem d7_50 : decode oc7 50 = .ok (.lload_n 1, 1):=by decide +kernel
theorem d7_51 : decode oc7 51 = .ok (.aload_n 0, 1):=by decide +kernel
theorem d7_52 : decode oc7 52 = .ok (.getfield 15, 3):=by decide +kernel
theorem d7_55 : decode oc7 55 = .ok (.aload_n 0, 1):=by decide +kernel
theorem d7_56 : decode oc7 56 = .ok (.getfield 35, 3):=by decide +kernel
theorem d7_59 : decode oc7 59 = .ok (.iconst 1, 1):=by decide +kernel
theorem d7_60 : decode oc7 60 = .ok (.isub, 1):=by decide +kernel
theorem d7_61 : decode oc7 61 = .ok (.laload, 1):=by decide +kernel
theorem d7_62 : decode oc7 62 = .ok (.lsub, 1):=by decide +kernel
theorem d7_63 : decode oc7 63 = .ok (.aload_n 0, 1):=by decide +kernel
theorem d7_64 : decode oc7 64 = .ok (.getfield 21, 3):=by decide +kernel
theorem d7_67 : decode oc7 67 = .ok (.iconst 1, 1):=by decide +kernel
theorem d7_68 : decode oc7 68 = .ok (.laload, 1):=by decide +kernel
theorem d7_69 : decode oc7 69 = .ok (.lcmp, 1):=by decide +kernel
theorem d7_70 : decode oc7 70 = .ok (.ifCond .ge 78, 3):=by decide +kernel
theorem d7_73 : decode oc7 73 = .ok (.aload_n 0, 1):=by decide +kernel
theorem d7_74 : decode oc7 74 = .ok (.getfield 9, 3):=by decide +kernel
theorem d7_77 : decode oc7 77 = .ok (.aload_n 0, 1):=by decide +kernel
theorem d7_78 : decode oc7 78 = .ok (.getfield 35, 3):=by decide +kernel
theorem d7_81 : decode oc7 81 = .ok (.iconst 1, 1):=by decide +kernel
theorem d7_82 : decode oc7 82 = .ok (.isub, 1):=by decide +kernel
theorem d7_83 : decode oc7 83 = .ok (.lload_n 1, 1):=by decide +kernel
theorem d7_84 : decode oc7 84 = .ok (.lastore, 1):=by decide +kernel
theorem d7_85 : decode oc7 85 = .ok (.aload_n 0, 1):=by decide +kernel
theorem d7_86 : decode oc7 86 = .ok (.getfield 18, 3):=by decide +kernel
theorem d7_89 : decode oc7 89 = .ok (.aload_n 0, 1):=by decide +kernel
theorem d7_90 : decode oc7 90 = .ok (.getfield 35, 3):=by decide +kernel
theorem d7_93 : decode oc7 93 = .ok (.iconst 1, 1):=by decide +kernel
theorem d7_94 : decode oc7 94 = .ok (.isub, 1):=by decide +kernel
theorem d7_95 : decode oc7 95 = .ok (.dup2, 1):=by decide +kernel
theorem d7_96 : decode oc7 96 = .ok (.laload, 1):=by decide +kernel
theorem d7_97 : decode oc7 97 = .ok (.lload_n 3, 1):=by decide +kernel
theorem d7_98 : decode oc7 98 = .ok (.ladd, 1):=by decide +kernel
theorem d7_99 : decode oc7 99 = .ok (.lastore, 1):=by decide +kernel
theorem d7_100 : decode oc7 100 = .ok (.aload_n 0, 1):=by decide +kernel
theorem d7_101 : decode oc7 101 = .ok (.getfield 27, 3):=by decide +kernel
theorem d7_104 : decode oc7 104 = .ok (.aload_n 0, 1):=by decide +kernel
theorem d7_105 : decode oc7 105 = .ok (.getfield 35, 3):=by decide +kernel
theorem d7_108 : decode oc7 108 = .ok (.iconst 2, 1):=by decide +kernel
theorem d7_109 : decode oc7 109 = .ok (.isub, 1):=by decide +kernel
theorem d7_110 : decode oc7 110 = .ok (.invokevirtual 71, 3):=by decide +kernel
theorem d7_113 : decode oc7 113 = .ok (.istore 6, 2):=by decide +kernel
theorem d7_115 : decode oc7 115 = .ok (.aload_n 0, 1):=by decide +kernel
theorem d7_116 : decode oc7 116 = .ok (.aload_n 0, 1):=by decide +kernel
theorem d7_117 : decode oc7 117 = .ok (.getfield 35, 3):=by decide +kernel
theorem d7_120 : decode oc7 120 = .ok (.iconst 1, 1):=by decide +kernel
theorem d7_121 : decode oc7 121 = .ok (.isub, 1):=by decide +kernel
theorem d7_122 : decode oc7 122 = .ok (.iload 6, 2):=by decide +kernel
theorem d7_124 : decode oc7 124 = .ok (.ifCond .ge 9, 3):=by decide +kernel
theorem d7_127 : decode oc7 127 = .ok (.ldc2_w 65, 3):=by decide +kernel
theorem d7_130 : decode oc7 130 = .ok (.goto 12, 3):=by decide +kernel
theorem d7_142 : decode oc7 142 = .ok (.invokevirtual 67, 3):=by decide +kernel
theorem d7_145 : decode oc7 145 = .ok (.goto 203, 3):=by decide +kernel
theorem d7_164 : decode oc7 164 = .ok (.iload 6, 2):=by decide +kernel
theorem d7_166 : decode oc7 166 = .ok (.iconst 2, 1):=by decide +kernel
theorem d7_167 : decode oc7 167 = .ok (.if_icmp .le 42, 3):=by decide +kernel
theorem d7_216 : decode oc7 216 = .ok (.aload_n 0, 1):=by decide +kernel
theorem d7_217 : decode oc7 217 = .ok (.getfield 18, 3):=by decide +kernel
theorem d7_220 : decode oc7 220 = .ok (.aload_n 0, 1):=by decide +kernel
theorem d7_221 : decode oc7 221 = .ok (.getfield 35, 3):=by decide +kernel
theorem d7_224 : decode oc7 224 = .ok (.iconst 1, 1):=by decide +kernel
theorem d7_225 : decode oc7 225 = .ok (.isub, 1):=by decide +kernel
theorem d7_226 : decode oc7 226 = .ok (.laload, 1):=by decide +kernel
theorem d7_227 : decode oc7 227 = .ok (.goto 7, 3):=by decide +kernel
theorem d7_292 : decode oc7 292 = .ok (.lload_n 1, 1):=by decide +kernel
theorem d7_293 : decode oc7 293 = .ok (.aload_n 0, 1):=by decide +kernel
theorem d7_294 : decode oc7 294 = .ok (.getfield 15, 3):=by decide +kernel
theorem d7_297 : decode oc7 297 = .ok (.aload_n 0, 1):=by decide +kernel
theorem d7_298 : decode oc7 298 = .ok (.getfield 35, 3):=by decide +kernel
theorem d7_301 : decode oc7 301 = .ok (.iconst 1, 1):=by decide +kernel
theorem d7_302 : decode oc7 302 = .ok (.isub, 1):=by decide +kernel
theorem d7_303 : decode oc7 303 = .ok (.laload, 1):=by decide +kernel
theorem d7_304 : decode oc7 304 = .ok (.lsub, 1):=by decide +kernel
theorem d7_305 : decode oc7 305 = .ok (.goto 6, 3):=by decide +kernel
def Q_rm7_2 (Z : State) (a7_0 : Addr) (q7_1 : Int64) (q7_2 : Int64) (p7_3 : Int32) (rT : Addr) (rF : Addr) (rO : Addr) (rS : Addr) (rE : Addr) (rW : Addr) (kT : ClassId) (kF : ClassId) (kO : ClassId) (kW : ClassId) (bs : Int64) (tm0 : Int64) (tm1 : Int64) (fr0 : Int64) (fr1 : Int64) (to0 : Int64) (to1 : Int64) (T : Int64) (h0 : Heap) (n0 : Nat) (v : Option Value) (h : Heap) (L : List Loc) : Prop := v = none ∧ Fr n0 L ∧ (own_S_2_0_1_1_1 Z h n0 a7_0 T q7_1 ∨ own_S_2_0_2_2_3 Z h n0 a7_0 T q7_1)
theorem rm7_2 (l : Launch) (Z : State) (a0 : Array Value) (hw : own_T Z a0) (a7_0 : Addr) (q7_1 q7_2 : Int64) (p7_3 : Int32) (rT rF rO rS rE rW : Addr) (kT kF kO kW : ClassId) (bs tm0 tm1 fr0 fr1 to0 to1 T : Int64) (h0 : Heap) (n0 : Nat) (Z0 : n0 ≤ h0.size) (O : own_Obj Z h0 n0 a7_0 rT rF rO rS rE rW kT kF kO kW (0 : Int32) (1 : Int32) (1 : Int32) bs (1 : Int32) (1 : Int32) (1 : Int64) (2 : Int32) [(.long tm0), (.long tm1)] [(.long fr0), (.long fr1)] [(.long to0), (.long to1)]) (SP : own_Sp2 Z h0 rS oM oM) (htm0 : own_near T tm0) (hfr0 : own_near T fr0) (hs_q7_1 : own_near T q7_1) (hm : (0 : Int32) < p7_3) :
   own_Met l oy7 oc7 9 none ({ frames := 6, cells := 6, slots := 44, locals := 150 } : Room) Z h0 #[(.ref a7_0), (.long q7_1), (.long q7_2), (.int p7_3)] (Q_rm7_2 Z a7_0 q7_1 q7_2 p7_3 rT rF rO rS rE rW kT kF kO kW bs tm0 tm1 fr0 fr1 to0 to1 T h0 n0) := by
 refine own_go hw (plainFor_of_name pn_7) (fun m => ef_rm7_1 m a7_0 q7_1 q7_2 p7_3) fun p e s m below meth c T0 C hret X0 e0 => ?_
 have N0 := Fr.nil n0
 refine gA C X0 e0 O.Fsize (ow53 C.w) d7_0 d7_1 fun T1 X1 e1 => ?_
 refine bN C X1 d7_4 ((if0 _ _).trans (tlt (by decide : (0 : Int32) < (1 : Int32))).2.2.2) ?_
 refine gA C X1 e1 O.Ftimes (ow17 C.w) d7_7 d7_8 fun T2 X2 e2 => ?_
 refine gA C X2 e2 O.Fend (ow55 C.w) d7_11 d7_12 fun T3 X3 e3 => ?_
 refine sC C X3 d7_15 ?_
 refine sS C X3 d7_16 ?_
 refine lA C X3 e3 O.Vt d7_17 ?_
 refine sL C X3 d7_18 ?_
 refine tC C X3 d7_19 ?_
 by_cases h20_4 : tm0 = q7_1
 · have fw5 := O
   rw [h20_4] at fw5
   have fw6 := SP
   refine bN C X3 d7_20 ((if0 _ _).trans (teq ((lw_eq _ _).mpr h20_4)).2) ?_
   refine gA C X3 e3 fw5.Ftotals (ow21 C.w) d7_23 d7_24 fun T7 X7 e7 => ?_
   refine gA C X7 e7 fw5.Fend (ow55 C.w) d7_27 d7_28 fun T8 X8 e8 => ?_
   refine sC C X8 d7_31 ?_
   refine sS C X8 d7_32 ?_
   show own_Fin p l e _ s m _ below meth c _ T8 (mkF m 33 #[oR a7_0, oJ q7_1, oD, oJ q7_2, oD, oI p7_3, oU, oU, oU] [(.int (0 : Int32)), (.ref rO)])
   refine own_Fin.st (g' := (mkF m 34 #[oR a7_0, oJ q7_1, oD, oJ q7_2, oD, oI p7_3, oU, oU, oU] [(.int (0 : Int32)), (.ref rO), (.int (0 : Int32)), (.ref rO)])) ?_ (fun t k => by jvm_step X8.here [X8.here.top, C.1, C.d d7_33, Value.category]; exact k)
   refine lA C X8 e8 fw5.Vo d7_34 ?_
   refine sL C X8 d7_35 ?_
   refine tP C X8 d7_36 ?_
   refine sJ C X8 e8 N0 fw5.grO fw5.Vo _ d7_37 fun T9 h9 lo9 X9 e9 N9 W9 V9 => ?_
   have O9 := fw5.setO W9 V9
   refine sG C X9 d7_38 348 ?_
   have f56 := (fw6.other W9 (Ne.symm O9.n_rO_rS))
   refine rV C X9 e9 hret d7_348 ?_
   exact ⟨rfl, N9, Or.inl ⟨rT, rF, rO, rS, rE, rW, kT, kF, kO, kW, bs, tm1, fr0, fr1, (to0 + q7_2), to1, O9, f56, hs_q7_1, hfr0⟩⟩
 refine bY C X3 d7_20 41 ((if0 _ _).trans (feq (fun q => h20_4 ((lw_eq _ _).mp q))).2) ?_
 refine gA C X3 e3 O.Fsize (ow53 C.w) d7_41 d7_42 fun T10 X10 e10 => ?_
 refine si C X10 d7_45 ?_
 by_cases h47_11 : (1 : Int32) < p7_3
 · refine cY C X10 d7_47 148 ((tlt h47_11).1) ?_
   refine gA C X10 e10 O.Ftimes (ow17 C.w) d7_148 d7_149 fun T12 X12 e12 => ?_
   refine nA C X12 e12 O.Vt d7_152 ?_
   refine wi C X12 #[oR a7_0, oJ q7_1, oD, oJ q7_2, oD, oI p7_3, oI 2, oU, oU] d7_153 ?_
   refine gA C X12 e12 O.Fend (ow55 C.w) d7_155 d7_156 fun T13 X13 e13 => ?_
   refine si C X13 d7_159 ?_
   refine cN C X13 d7_161 ((feq (by decide : ¬ ((1 : Int32) = (2 : Int32)))).1) ?_
   refine si C X13 d7_164 ?_
   refine sC C X13 d7_166 ?_
   refine cY C X13 d7_167 209 ((flt (by decide : ¬ ((2 : Int32) < (2 : Int32)))).2.2.2) ?_
   refine gA C X13 e13 O.Fsize (ow53 C.w) d7_209 d7_210 fun T14 X14 e14 => ?_
   refine bN C X14 d7_213 ((if0 _ _).trans (tlt (by decide : (0 : Int32) < (1 : Int32))).2.2.2) ?_
   refine gA C X14 e14 O.Ftotals (ow21 C.w) d7_216 d7_217 fun T15 X15 e15 => ?_
   refine gA C X15 e15 O.Fend (ow55 C.w) d7_220 d7_221 fun T16 X16 e16 => ?_
   refine sC C X16 d7_224 ?_
   refine sS C X16 d7_225 ?_
   refine lA C X16 e16 O.Vo d7_226 ?_
   refine sG C X16 d7_227 234 ?_
   refine wl C X16 #[oR a7_0, oJ q7_1, oD, oJ q7_2, oD, oI p7_3, oI 2, oJ to0, oD] d7_234 ?_
   refine gA C X16 e16 O.Ftimes (ow17 C.w) d7_236 d7_237 fun T17 X17 e17 => ?_
   refine gA C X17 e17 O.Fend (ow55 C.w) d7_240 d7_241 fun T18 X18 e18 => ?_
   refine sL C X18 d7_244 ?_
   refine sJ C X18 e18 N0 O.grT O.Vt _ d7_245 fun T19 h19 lo19 X19 e19 N19 W19 V19 => ?_
   have O19 := O.setT W19 V19
   refine gA C X19 e19 O19.Ffroms (ow19 C.w) d7_246 d7_247 fun T20 X20 e20 => ?_
   refine gA C X20 e20 O19.Fend (ow55 C.w) d7_250 d7_251 fun T21 X21 e21 => ?_
   refine sL C X21 d7_254 ?_
   refine sJ C X21 e21 N19 O19.grF O19.Vf _ d7_255 fun T22 h22 lo22 X22 e22 N22 W22 V22 => ?_
   have O22 := O19.setF W22 V22
   refine gA C X22 e22 O22.Ftotals (ow21 C.w) d7_256 d7_257 fun T23 X23 e23 => ?_
   refine gA C X23 e23 O22.Fend (ow55 C.w) d7_260 d7_261 fun T24 X24 e24 => ?_
   refine sl C X24 d7_264 ?_
   refine sL C X24 d7_266 ?_
   refine tP C X24 d7_267 ?_
   refine sJ C X24 e24 N22 O22.grO O22.Vo _ d7_268 fun T25 h25 lo25 X25 e25 N25 W25 V25 => ?_
   have O25 := O22.setO W25 V25
   refine gA C X25 e25 O25.Fentries (ow46 C.w) d7_269 d7_270 fun T26 X26 e26 => ?_
   refine gA C X26 e26 O25.Fend (ow55 C.w) d7_273 d7_274 fun T27 X27 e27 => ?_
   refine cV C X27 e27 (rm20_2 l Z a0 C.w rE (1 : Int32) rW kW (1 : Int64) h25 n0 O25.hsz (by decide +kernel) (by decide +kernel) O25.Ee O25.BwordsInUse O25.BsizeIsSticky O25.Bwords O25.Vw O25.grW O25.St) O25.Ee (W := 0) (ow111 C.w) (ow112 C.w) (ow114 C.w) (ow113 C.w) (ow115 C.w) (ow27 C.w) (argsL := [(.int (1 : Int32))]) (lenOf pd__I_V rfl) d7_277 fun v28 T28 lo28 X28 hQ28 => ?_
   obtain ⟨rfl, Nq28, Kc28, Sc28, P28_0⟩ := hQ28
   rw [show ((1 : Int64) ||| ((1 : Int64) <<< ((1 : Int32) &&& 0x3f).toInt64)) = (3 : Int64) from by decide +kernel] at P28_0
   have O28 := O25.bit1 Kc28 Sc28 P28_0
   refine sA C X28 d7_280 ?_
   refine gA C X28 rfl O28.Fend (ow55 C.w) d7_281 d7_282 fun T29 X29 e29 => ?_
   refine gA C X29 e29 O28.Fsize (ow53 C.w) d7_285 d7_286 fun T30 X30 e30 => ?_
   refine bN C X30 d7_289 ((if0 _ _).trans (tlt (by decide : (0 : Int32) < (1 : Int32))).2.2.2) ?_
   refine sL C X30 d7_292 ?_
   refine gA C X30 e30 O28.Ffroms (ow19 C.w) d7_293 d7_294 fun T31 X31 e31 => ?_
   refine gA C X31 e31 O28.Fend (ow55 C.w) d7_297 d7_298 fun T32 X32 e32 => ?_
   refine sC C X32 d7_301 ?_
   refine sS C X32 d7_302 ?_
   refine lA C X32 e32 O28.Vf d7_303 ?_
   refine tS C X32 d7_304 ?_
   refine sG C X32 d7_305 311 ?_
   have f33 := ((((SP.other W19 (Ne.symm O28.n_rT_rS)).other W22 (Ne.symm O28.n_rF_rS)).other W25 (Ne.symm O28.n_rO_rS)).keep Kc28 (ninS O28.n_rS_rW nin0))
   refine cP C X32 e32 (rm23_2_1 l Z a0 C.w a7_0 (q7_1 - fr0) rT kT tm0 q7_1 rS oM oM T28.heap n0 O28.hsz O28.Ftimes O28.Vt O28.Fspans f33 O28.grS O28.n_a_rS) O28.Ea (W := 0) (ow126 C.w) (ow127 C.w) (own_selp (x := oy7) rfl (mvT (args := #[]) C.z (ow51 C.w)) (Cond.privateMethod_at (mvP C.z (ow128 C.w) (args := #[]))) (mvT C.z (ow127 C.w)) (by decide)) (ow128 C.w) (ow129 C.w) (ow9 C.w) (argsL := [(.int (1 : Int32)), (.long (q7_1 - fr0))]) (lenOf pd__IJ_V rfl) d7_311 fun v34 T34 lo34 X34 hQ34 => ?_
   obtain ⟨rfl, Nq34, Kc34, Sc34, P34_0⟩ := hQ34
   have O34 := O28.sp Kc34 Sc34
   refine sA C X34 d7_314 ?_
   refine sD C X34 d7_315 ?_
   refine gF C X34 rfl O34.Fend (ow55 C.w) d7_316 fun T35 X35 e35 => ?_
   refine sC C X35 d7_319 ?_
   refine sP C X35 d7_320 ?_
   refine pF C X35 e35 ((N25.app Nq28).app Nq34) O34.ga O34.Fend O34.Ea (ty := .int) (ow55 C.w) (ow56 C.w) (ow8 C.w) (by decide) d7_321 fun T36 h36 lo36 X36 e36 N36 W36 F36 => ?_
   have O36 := own_Obj.put_end hw O34 W36 F36
   refine sA C X36 d7_324 ?_
   refine sD C X36 d7_325 ?_
   refine gF C X36 e36 O36.Fsize (ow53 C.w) d7_326 fun T37 X37 e37 => ?_
   refine sC C X37 d7_329 ?_
   refine sP C X37 d7_330 ?_
   refine pF C X37 e37 N36 O36.ga O36.Fsize O36.Ea (ty := .int) (ow53 C.w) (ow54 C.w) (ow8 C.w) (by decide) d7_331 fun T38 h38 lo38 X38 e38 N38 W38 F38 => ?_
   have O38 := own_Obj.put_size hw O36 W38 F38
   refine gA C X38 e38 O38.Fsize (ow53 C.w) d7_334 d7_335 fun T39 X39 e39 => ?_
   refine si C X39 d7_338 ?_
   refine cY C X39 d7_340 348 ((flt (own_ilt (1 : Int32) (2 : Int32) h47_11 (by decide))).2.2.2) ?_
   have f57 := ((P34_0.other W36 (Ne.symm O38.n_a_rS)).other W38 (Ne.symm O38.n_a_rS))
   refine rV C X39 e39 hret d7_348 ?_
   exact ⟨rfl, N38, Or.inr (⟨rT, rF, rO, rS, rE, rW, kT, kF, kO, kW, bs, tm0, fr0, q7_1, to0, (to0 + q7_2), O38, f57, htm0, hs_q7_1, hfr0, hs_q7_1⟩)⟩
 refine cN C X10 d7_47 ((flt h47_11).1) ?_
 refine sL C X10 d7_50 ?_
 refine gA C X10 e10 O.Ffroms (ow19 C.w) d7_51 d7_52 fun T40 X40 e40 => ?_
 refine gA C X40 e40 O.Fend (ow55 C.w) d7_55 d7_56 fun T41 X41 e41 => ?_
 refine sC C X41 d7_59 ?_
 refine sS C X41 d7_60 ?_
 refine lA C X41 e41 O.Vf d7_61 ?_
 refine tS C X41 d7_62 ?_
 refine gA C X41 e41 O.Fspans (ow23 C.w) d7_63 d7_64 fun T42 X42 e42 => ?_
 refine sC C X42 d7_67 ?_
 obtain ⟨kq43, VT43⟩ := id SP
 refine lA C X42 e42 VT43 d7_68 ?_
 refine tC C X42 d7_69 ?_
 refine bN C X42 d7_70 ((if0 _ _).trans (tlt ((lw_lt _ _).mpr (own_ltM (by decide +kernel : (own_m oM oM) = oM) (own_nlt hs_q7_1 hfr0)))).2.1) ?_
 refine gA C X42 e42 O.Ftimes (ow17 C.w) d7_73 d7_74 fun T44 X44 e44 => ?_
 refine gA C X44 e44 O.Fend (ow55 C.w) d7_77 d7_78 fun T45 X45 e45 => ?_
 refine sC C X45 d7_81 ?_
 refine sS C X45 d7_82 ?_
 refine sL C X45 d7_83 ?_
 refine sJ C X45 e45 N0 O.grT O.Vt _ d7_84 fun T46 h46 lo46 X46 e46 N46 W46 V46 => ?_
 have O46 := O.setT W46 V46
 refine gA C X46 e46 O46.Ftotals (ow21 C.w) d7_85 d7_86 fun T47 X47 e47 => ?_
 refine gA C X47 e47 O46.Fend (ow55 C.w) d7_89 d7_90 fun T48 X48 e48 => ?_
 refine sC C X48 d7_93 ?_
 refine sS C X48 d7_94 ?_
 show own_Fin p l e _ s m _ below meth c _ T48 (mkF m 95 #[oR a7_0, oJ q7_1, oD, oJ q7_2, oD, oI p7_3, oU, oU, oU] [(.int (0 : Int32)), (.ref rO)])
 refine own_Fin.st (g' := (mkF m 96 #[oR a7_0, oJ q7_1, oD, oJ q7_2, oD, oI p7_3, oU, oU, oU] [(.int (0 : Int32)), (.ref rO), (.int (0 : Int32)), (.ref rO)])) ?_ (fun t k => by jvm_step X48.here [X48.here.top, C.1, C.d d7_95, Value.category]; exact k)
 refine lA C X48 e48 O46.Vo d7_96 ?_
 refine sL C X48 d7_97 ?_
 refine tP C X48 d7_98 ?_
 refine sJ C X48 e48 N46 O46.grO O46.Vo _ d7_99 fun T49 h49 lo49 X49 e49 N49 W49 V49 => ?_
 have O49 := O46.setO W49 V49
 refine gA C X49 e49 O49.Fentries (ow46 C.w) d7_100 d7_101 fun T50 X50 e50 => ?_
 refine gA C X50 e50 O49.Fend (ow55 C.w) d7_104 d7_105 fun T51 X51 e51 => ?_
 refine sC C X51 d7_108 ?_
 refine sS C X51 d7_109 ?_
 refine cV C X51 e51 (rm32_1 l Z a0 C.w rE rW kW (1 : Int64) h49 n0 O49.hsz O49.Ee O49.BwordsInUse O49.BsizeIsSticky O49.Bwords O49.Vw) O49.Ee (W := 0) (ow168 C.w) (ow169 C.w) (ow171 C.w) (ow170 C.w) (ow172 C.w) (ow27 C.w) (argsL := [(.int (-1 : Int32))]) (lenOf pd__I_I rfl) d7_110 fun v52 T52 lo52 X52 hQ52 => ?_
 obtain ⟨rfl, Nq52, e52⟩ := hQ52
 refine wi C X52 #[oR a7_0, oJ q7_1, oD, oJ q7_2, oD, oI p7_3, oI (-1), oU, oU] d7_113 ?_
 refine sA C X52 d7_115 ?_
 refine gA C X52 e52 O49.Fend (ow55 C.w) d7_116 d7_117 fun T53 X53 e53 => ?_
 refine sC C X53 d7_120 ?_
 refine sS C X53 d7_121 ?_
 refine si C X53 d7_122 ?_
 refine bN C X53 d7_124 ((if0 _ _).trans (tlt (by decide : (-1 : Int32) < (0 : Int32))).2.1) ?_
 refine kJ C X53 (ow98 C.w) d7_127 ?_
 refine sG C X53 d7_130 142 ?_
 have f54 := ((SP.other W46 (Ne.symm O49.n_rT_rS)).other W49 (Ne.symm O49.n_rO_rS))
 refine cP C X53 e53 (rm23_2_0 l Z a0 C.w a7_0 oM rT kT q7_1 tm1 rS oM oM h49 n0 O49.hsz O49.Ftimes O49.Vt O49.Fspans f54 O49.grS O49.n_a_rS) O49.Ea (W := 0) (ow126 C.w) (ow127 C.w) (own_selp (x := oy7) rfl (mvT (args := #[]) C.z (ow51 C.w)) (Cond.privateMethod_at (mvP C.z (ow128 C.w) (args := #[]))) (mvT C.z (ow127 C.w)) (by decide)) (ow128 C.w) (ow129 C.w) (ow9 C.w) (argsL := [(.int (0 : Int32)), (.long oM)]) (lenOf pd__IJ_V rfl) d7_142 fun v55 T55 lo55 X55 hQ55 => ?_
 obtain ⟨rfl, Nq55, Kc55, Sc55, P55_0⟩ := hQ55
 have O55 := O49.sp Kc55 Sc55
 refine sG C X55 d7_145 348 ?_
 refine rV C X55 rfl hret d7_348 ?_
 exact ⟨rfl, ((N49.app Nq52).app Nq55), Or.inl ⟨rT, rF, rO, rS, rE, rW, kT, kF, kO, kW, bs, tm1, fr0, fr1, (to0 + q7_2), to1, O55, P55_0, hs_q7_1, hfr0⟩⟩
theorem pd__J_I : parseMethodDescriptor "(J)I" = some ⟨[.long], some .int⟩:=by decide +kernel
def own_nsb (p12_1 : Int32) (t_ww_0 : Int64) : Int32 := (if (t_ww_0 &&& ((-1 : Int64) <<< (p12_1 &&& 0x3f).toInt64)) = (0 : Int64) then (-1 : Int32) else ((0 : Int32) + (own_lntz (t_ww_0 &&& ((-1 : Int64) <<< (p12_1 &&& 0x3f).toInt64)))))
theorem d12_50 : decode oc12 50 = .ok (.aload_n 0, 1):=by decide +kernel
theorem d12_51 : decode oc12 51 = .ok (.getfield 11, 3):=by decide +kernel
theorem d12_54 : decode oc12 54 = .ok (.iload_n 2, 1):=by decide +kernel
theorem d12_55 : decode oc12 55 = .ok (.laload, 1):=by decide +kernel
theorem d12_56 : decode oc12 56 = .ok (.ldc2_w 165, 3):=by decide +kernel
theorem d12_59 : decode oc12 59 = .ok (.iload_n 1, 1):=by decide +kernel
theorem d12_60 : decode oc12 60 = .ok (.lshl, 1):=by decide +kernel
theorem d12_61 : decode oc12 61 = .ok (.land, 1):=by decide +kernel
theorem d12_62 : decode oc12 62 = .ok (.lstore_n 3, 1):=by decide +kernel
theorem d12_63 : decode oc12 63 = .ok (.lload_n 3, 1):=by decide +kernel
theorem d12_64 : decode oc12 64 = .ok (.lconst 0, 1):=by decide +kernel
theorem d12_65 : decode oc12 65 = .ok (.lcmp, 1):=by decide +kernel
theorem d12_66 : decode oc12 66 = .ok (.ifCond .eq 13, 3):=by decide +kernel
theorem d12_69 : decode oc12 69 = .ok (.iload_n 2, 1):=by decide +kernel
theorem d12_70 : decode oc12 70 = .ok (.bipush 64, 2):=by decide +kernel
theorem d12_72 : decode oc12 72 = .ok (.imul, 1):=by decide +kernel
theorem d12_73 : decode oc12 73 = .ok (.lload_n 3, 1):=by decide +kernel
theorem d12_74 : decode oc12 74 = .ok (.invokestatic 182, 3):=by decide +kernel
theorem d12_77 : decode oc12 77 = .ok (.iadd, 1):=by decide +kernel
theorem d12_78 : decode oc12 78 = .ok (.ireturn, 1):=by decide +kernel
theorem d12_79 : decode oc12 79 = .ok (.iinc 2 1, 3):=by decide +kernel
theorem d12_82 : decode oc12 82 = .ok (.iload_n 2, 1):=by decide +kernel
theorem d12_83 : decode oc12 83 = .ok (.aload_n 0, 1):=by decide +kernel
theorem d12_84 : decode oc12 84 = .ok (.getfield 7, 3):=by decide +kernel
theorem d12_87 : decode oc12 87 = .ok (.if_icmp .ne 5, 3):=by decide +kernel
theorem d12_90 : decode oc12 90 = .ok (.iconst (-1), 1):=by decide +kernel
theorem d12_91 : decode oc12 91 = .ok (.ireturn, 1):=by decide +kernel
theorem ef_rm12_2 (m : MethodId) (y0 : Addr) (y1 : Int32) : entryFrame m #[(.ref y0), (.int y1)] 5 = mkF m 0 #[oR y0, oI y1, oU, oU, oU] [] := by first | (simp [entryFrame, mkF, argsToLocals, Value.category]; done) | rfl
def Q_rm12_2 (Z : State) (a12_0 : Addr) (p12_1 : Int32) (ww : Addr) (kc_ww : ClassId) (t_ww_0 : Int64) (h0 : Heap) (n0 : Nat) (v : Option Value) (h : Heap) (L : List Loc) : Prop := v = some (.int (own_nsb p12_1 t_ww_0)) ∧ Fr n0 L ∧ h = h0
theorem rm12_2 (l : Launch) (Z : State) (a0 : Array Value) (hw : own_T Z a0) (a12_0 : Addr) (p12_1 : Int32) (ww : Addr) (kc_ww : ClassId) (t_ww_0 : Int64) (h0 : Heap) (n0 : Nat) (Z0 : n0 ≤ h0.size) (hn : ¬ (p12_1 < (0 : Int32))) (hu : (p12_1 >>> ((6 : Int32) &&& 31)) = (0 : Int32)) (E_a : Exa Z h0 a12_0 oB) (F_wordsInUse : Fld Z h0 a12_0 oB "wordsInUse" "I" (.int (1 : Int32))) (F_sizeIsSticky : Fld Z h0 a12_0 oB "sizeIsSticky" "Z" (.int (1 : Int32))) (F_words : Fld Z h0 a12_0 oB "words" "[J" (.ref ww)) (V_ww : Arv Z h0 ww kc_ww .long (1 : Int32) [(.long t_ww_0)] oZ) (Sta1 : Sta Z h0 oB "$assertionsDisabled" "Z" (.int (1 : Int32))) :
   own_Met l (⟨oB, "nextSetBit", "(I)I"⟩ : MethodName) oc12 5 (some .int) ({ frames := 2, cells := 0, slots := 0, locals := 29 } : Room) Z h0 #[(.ref a12_0), (.int p12_1)] (Q_rm12_2 Z a12_0 p12_1 ww kc_ww t_ww_0 h0 n0) := by
 refine own_go hw (plainFor_of_name pn_12) (fun m => ef_rm12_2 m a12_0 p12_1) fun p e s m below meth c T0 C hret X0 e0 => ?_
 have N0 := Fr.nil n0
 refine sI C X0 d12_0 ?_
 refine bY C X0 d12_1 31 ((if0 _ _).trans (flt hn).2.1) ?_
 refine sA C X0 d12_31 ?_
 refine cP C X0 e0 (fun ws => rm13 l Z a0 C.w ws a12_0 h0 n0 Z0 Sta1) E_a (W := 0) (ow81 C.w) (ow82 C.w) (mvT C.z (ow84 C.w)) (ow83 C.w) (ow85 C.w) (ow27 C.w) (argsL := []) (lenOf pd___V rfl) d12_32 fun v1 T1 lo1 X1 hQ1 => ?_
 obtain ⟨rfl, Nq1, e1⟩ := hQ1
 refine sI C X1 d12_35 ?_
 refine cS C X1 e1 (fun ws => rm6 l Z a0 C.w ws p12_1 h0 n0 Z0 ) (W := 0) (ow41 C.w) (ow42 C.w) (ow43 C.w) (ow27 C.w) (argsL := [(.int p12_1)]) (lenOf pd__I_I rfl) d12_36 fun v2 T2 lo2 X2 hQ2 => ?_
 obtain ⟨rfl, Nq2, e2⟩ := hQ2
 rw [hu]
 refine wI C X2 #[oR a12_0, oI p12_1, oI 0, oU, oU] d12_39 ?_
 refine sI C X2 d12_40 ?_
 refine gA C X2 e2 F_wordsInUse (ow32 C.w) d12_41 d12_42 fun T3 X3 e3 => ?_
 refine cY C X3 d12_45 50 ((tlt (by decide : (0 : Int32) < (1 : Int32))).1) ?_
 refine gA C X3 e3 F_words (ow44 C.w) d12_50 d12_51 fun T4 X4 e4 => ?_
 refine sI C X4 d12_54 ?_
 refine lA C X4 e4 V_ww d12_55 ?_
 refine kJ C X4 (ow140 C.w) d12_56 ?_
 refine sI C X4 d12_59 ?_
 refine tH C X4 d12_60 ?_
 refine tA C X4 d12_61 ?_
 refine wL C X4 #[oR a12_0, oI p12_1, oI 0, oJ (t_ww_0 &&& ((-1 : Int64) <<< (p12_1 &&& 0x3f).toInt64)), oD] d12_62 ?_
 refine sL C X4 d12_63 ?_
 refine tK C X4 d12_64 ?_
 refine tC C X4 d12_65 ?_
 by_cases h66_5 : (t_ww_0 &&& ((-1 : Int64) <<< (p12_1 &&& 0x3f).toInt64)) = (0 : Int64)
 · refine bY C X4 d12_66 79 ((if0 _ _).trans (teq ((lw_eq _ _).mpr h66_5)).1) ?_
   refine wc C X4 #[oR a12_0, oI p12_1, oI 1, oJ (t_ww_0 &&& ((-1 : Int64) <<< (p12_1 &&& 0x3f).toInt64)), oD] d12_79 ?_
   refine sI C X4 d12_82 ?_
   refine gA C X4 e4 F_wordsInUse (ow32 C.w) d12_83 d12_84 fun T6 X6 e6 => ?_
   refine cN C X6 d12_87 ((teq (by decide : (1 : Int32) = (1 : Int32))).2) ?_
   refine sC C X6 d12_90 ?_
   refine rI C X6 e6 hret d12_91 ?_
   exact ⟨(congrArg (fun z => some (Value.int z)) (if_pos h66_5).symm), ((N0.app Nq1).app Nq2), rfl⟩
 refine bN C X4 d12_66 ((if0 _ _).trans (feq (fun q => h66_5 ((lw_eq _ _).mp q))).1) ?_
 refine sI C X4 d12_69 ?_
 refine sB C X4 d12_70 ?_
 refine sM C X4 d12_72 ?_
 refine sL C X4 d12_73 ?_
 refine cB C X4 e4 (W := 1) (Jvm.Free.JP.Long_numberOfTrailingZeros_J.pays (t_ww_0 &&& ((-1 : Int64) <<< (p12_1 &&& 0x3f).toInt64)) (own_tM C) (by decide) (by decide)) (ow141 C.w) (ow142 C.w) (ow144 C.w) (ow143 C.w) (argsL := [(.long (t_ww_0 &&& ((-1 : Int64) <<< (p12_1 &&& 0x3f).toInt64)))]) (lenOf pd__J_I rfl) (fun _ => ⟨rfl, trivial⟩) d12_74 fun T7 X7 e7 => ?_
 refine sP C X7 d12_77 ?_
 refine rI C X7 e7 hret d12_78 ?_
 exact ⟨(congrArg (fun z => some (Value.int z)) (if_neg h66_5).symm), ((N0.app Nq1).app Nq2), rfl⟩
theorem ef_rm5_3 (m : MethodId) (y0 : Addr) : entryFrame m #[(.ref y0), (.int (8 : Int32))] 2 = mkF m 0 #[oR y0, oI 8] [] := by first | (simp [entryFrame, mkF, argsToLocals, Value.category]; done) | rfl
def Q_rm5_3 (Z : State) (a5_0 : Addr) (h0 : Heap) (n0 : Nat) (v : Option Value) (h : Heap) (L : List Loc) : Prop := ∃ bx5_0 : Addr, ∃ kx5_0 : ClassId, v = none ∧ Fr n0 L ∧ Keep h0 h [a5_0] ∧ own_StK Z h0 h ∧ h0.size ≤ bx5_0 ∧ Exa Z h a5_0 oB ∧ Fld Z h a5_0 oB "wordsInUse" "I" (.int (0 : Int32)) ∧ Fld Z h a5_0 oB "sizeIsSticky" "Z" (.int (0 : Int32)) ∧ Fld Z h a5_0 oB "words" "[J" (.ref bx5_0) ∧ Arv Z h bx5_0 kx5_0 .long (1 : Int32) [oZ] oZ
theorem rm5_3 (l : Launch) (Z : State) (a0 : Array Value) (hw : own_T Z a0) (a5_0 : Addr) (h0 : Heap) (n0 : Nat) (Z0 : n0 ≤ h0.size) (E_a : Exa Z h0 a5_0 oB) (F_wordsInUse : Fld Z h0 a5_0 oB "wordsInUse" "I" (.int (0 : Int32))) (F_sizeIsSticky : Fld Z h0 a5_0 oB "sizeIsSticky" "Z" (.int (0 : Int32))) (F_words : Fld Z h0 a5_0 oB "words" "[J" .null) (g_a5_0 : n0 ≤ a5_0) :
   own_Met l oy5 oc5 2 none ({ frames := 1, cells := 1, slots := 1, locals := 13 } : Room) Z h0 #[(.ref a5_0), (.int (8 : Int32))] (Q_rm5_3 Z a5_0 h0 n0) := by
 refine own_go hw (plainFor_of_name pn_5) (fun m => ef_rm5_3 m a5_0) fun p e s m below meth c T0 C hret X0 e0 => ?_
 have N0 := Fr.nil n0
 refine sA C X0 d5_0 ?_
 refine sI C X0 d5_1 ?_
 refine sC C X0 d5_2 ?_
 refine sS C X0 d5_3 ?_
 refine cS C X0 e0 (fun ws => rm6 l Z a0 C.w ws (7 : Int32) h0 n0 Z0 ) (W := 1) (ow41 C.w) (ow42 C.w) (ow43 C.w) (ow27 C.w) (argsL := [(.int (7 : Int32))]) (lenOf pd__I_I rfl) d5_4 fun v1 T1 lo1 X1 hQ1 => ?_
 obtain ⟨rfl, Nq1, e1⟩ := hQ1
 rw [show ((7 : Int32) >>> ((6 : Int32) &&& 31)) = (0 : Int32) from by decide +kernel]
 refine sC C X1 d5_7 ?_
 refine sP C X1 d5_8 ?_
 refine nP C X1 e1 (n := (1 : Int32)) 1 [oZ] (ow16 C.w) d5_9 fun T3 h3 k3 b3 g3 X3 e3 E3 V_b3 => ?_
 have ne_a5_0_b3 : a5_0 ≠ b3 := Nat.ne_of_lt (Nat.lt_of_lt_of_le E_a.lt (Nat.le_of_eq g3.symm))
 have g_b3 : n0 ≤ b3 := Nat.le_trans Z0 (Nat.le_of_eq g3.symm)
 have sz_b3 : h0.size ≤ b3 := Nat.le_trans (Nat.le_refl _) (Nat.le_of_eq g3.symm)
 have S3 : own_StK Z h0 h3 := (own_StK.refl Z h0).ext E3
 have K3 : Keep h0 h3 [a5_0] := (Keep.refl h0 [a5_0]).ext E3
 have Z3 : n0 ≤ h3.size := Nat.le_trans Z0 K3.1
 have f4 := (E_a.ext E3)
 have f5 := (F_words.ext E3)
 refine pF C X3 e3 (N0.app Nq1) g_a5_0 f5 f4 (ty := (.array .long)) (ow44 C.w) (ow45 C.w) (ow26 C.w) (by decide) d5_11 fun T6 h6 lo6 X6 e6 N6 W6 F6 => ?_
 have S6 : own_StK Z h0 h6 := S3.wr W6
 have K6 : Keep h0 h6 [a5_0] := K3.wr W6 (Or.inl (List.mem_of_getElem? (i := 0) rfl))
 have Z6 : n0 ≤ h6.size := Nat.le_trans Z0 K6.1
 have f7 := (f4.wr W6)
 have f8 := ((F_wordsInUse.ext E3).other W6 (Or.inr (slot_ne (Or.inl (ow33 hw)) (Or.inl (ow45 hw)) (by decide) (t := .int) (t' := (.array .long)) (by decide) (by decide))))
 have f9 := ((F_sizeIsSticky.ext E3).other W6 (Or.inr (slot_ne (Or.inl (ow35 hw)) (Or.inl (ow45 hw)) (by decide) (t := .boolean) (t' := (.array .long)) (by decide) (by decide))))
 have f10 := (V_b3.other W6 (Ne.symm ne_a5_0_b3))
 refine rV C X6 e6 hret d5_14 ?_
 exact ⟨b3, k3, rfl, N6, K6, S6, sz_b3, f7, f8, f9, F6, f10⟩
theorem ef_rm14_2 (m : MethodId) (y0 : Addr) : entryFrame m #[(.ref y0), (.int (8 : Int32))] 2 = mkF m 0 #[oR y0, oI 8] [] := by first | (simp [entryFrame, mkF, argsToLocals, Value.category]; done) | rfl
def Q_rm14_2 (Z : State) (a14_0 : Addr) (h0 : Heap) (n0 : Nat) (v : Option Value) (h : Heap) (L : List Loc) : Prop := ∃ bx14_0 : Addr, ∃ kx14_0 : ClassId, v = none ∧ Fr n0 L ∧ Keep h0 h [a14_0] ∧ own_StK Z h0 h ∧ h0.size ≤ bx14_0 ∧ Exa Z h a14_0 oB ∧ Fld Z h a14_0 oB "wordsInUse" "I" (.int (0 : Int32)) ∧ Fld Z h a14_0 oB "sizeIsSticky" "Z" (.int (1 : Int32)) ∧ Fld Z h a14_0 oB "words" "[J" (.ref bx14_0) ∧ Arv Z h bx14_0 kx14_0 .long (1 : Int32) [oZ] oZ
theorem rm14_2 (l : Launch) (Z : State) (a0 : Array Value) (hw : own_T Z a0) (a14_0 : Addr) (h0 : Heap) (n0 : Nat) (Z0 : n0 ≤ h0.size) (E_a : Exa Z h0 a14_0 oB) (F_wordsInUse : Fld Z h0 a14_0 oB "wordsInUse" "I" (.int (0 : Int32))) (F_sizeIsSticky : Fld Z h0 a14_0 oB "sizeIsSticky" "Z" (.int (0 : Int32))) (F_words : Fld Z h0 a14_0 oB "words" "[J" .null) (g_a14_0 : n0 ≤ a14_0) :
   own_Met l oy14 oc14 2 none ({ frames := 2, cells := 1, slots := 1, locals := 26 } : Room) Z h0 #[(.ref a14_0), (.int (8 : Int32))] (Q_rm14_2 Z a14_0 h0 n0) := by
 refine own_go hw (plainFor_of_name pn_14) (fun m => ef_rm14_2 m a14_0) fun p e s m below meth c T0 C hret X0 e0 => ?_
 have N0 := Fr.nil n0
 refine sA C X0 d14_0 ?_
 refine iO C X0 e0 (W := 0) (ow31 C.w) (ow14 C.w) (ow15 C.w) d14_1 fun T1 X1 e1 => ?_
 refine sA C X1 d14_4 ?_
 refine sC C X1 d14_5 ?_
 refine pF C X1 e1 N0 g_a14_0 F_wordsInUse E_a (ty := .int) (ow32 C.w) (ow33 C.w) (ow26 C.w) (by decide) d14_6 fun T2 h2 lo2 X2 e2 N2 W2 F2 => ?_
 have S2 : own_StK Z h0 h2 := (own_StK.refl Z h0).wr W2
 have K2 : Keep h0 h2 [a14_0] := (Keep.refl h0 [a14_0]).wr W2 (Or.inl (List.mem_of_getElem? (i := 0) rfl))
 have Z2 : n0 ≤ h2.size := Nat.le_trans Z0 K2.1
 refine sA C X2 d14_9 ?_
 refine sC C X2 d14_10 ?_
 have f3 := (E_a.wr W2)
 have f4 := (F_sizeIsSticky.other W2 (Or.inr (slot_ne (Or.inl (ow35 hw)) (Or.inl (ow33 hw)) (by decide) (t := .boolean) (t' := .int) (by decide) (by decide))))
 refine pF C X2 e2 N2 g_a14_0 f4 f3 (ty := .boolean) (ow34 C.w) (ow35 C.w) (ow26 C.w) (by decide) d14_11 fun T5 h5 lo5 X5 e5 N5 W5 F5 => ?_
 have S5 : own_StK Z h0 h5 := S2.wr W5
 have K5 : Keep h0 h5 [a14_0] := K2.wr W5 (Or.inl (List.mem_of_getElem? (i := 0) rfl))
 have Z5 : n0 ≤ h5.size := Nat.le_trans Z0 K5.1
 refine sI C X5 d14_14 ?_
 refine bY C X5 d14_15 45 ((if0 _ _).trans (flt (by decide : ¬ ((8 : Int32) < (0 : Int32)))).2.1) ?_
 refine sA C X5 d14_45 ?_
 refine sI C X5 d14_46 ?_
 have f6 := (f3.wr W5)
 have f7 := (F2.other W5 (Or.inr (slot_ne (Or.inl (ow33 hw)) (Or.inl (ow35 hw)) (by decide) (t := .int) (t' := .boolean) (by decide) (by decide))))
 have f8 := ((F_words.other W2 (Or.inr (slot_ne (Or.inl (ow45 hw)) (Or.inl (ow33 hw)) (by decide) (t := (.array .long)) (t' := .int) (by decide) (by decide)))).other W5 (Or.inr (slot_ne (Or.inl (ow45 hw)) (Or.inl (ow35 hw)) (by decide) (t := (.array .long)) (t' := .boolean) (by decide) (by decide))))
 refine cP C X5 e5 (rm5_3 l Z a0 C.w a14_0 h5 n0 Z5 f6 f7 F5 f8 g_a14_0) f6 (W := 0) (ow36 C.w) (ow37 C.w) (mvT C.z (ow39 C.w)) (ow38 C.w) (ow40 C.w) (ow27 C.w) (argsL := [(.int (8 : Int32))]) (lenOf pd__I_V rfl) d14_47 fun v9 T9 lo9 X9 hQ9 => ?_
 obtain ⟨bx5_0_9, kx5_0_9, rfl, Nq9, Kc9, Sc9, P9_0, P9_1, P9_2, P9_3, P9_4, P9_5⟩ := hQ9
 have S9 : own_StK Z h0 T9.heap := S5.tr Sc9
 have K9 : Keep h0 T9.heap [a14_0] := Keep.trans K5 Kc9 (allS (P := fun x => x ∈ ([a14_0] : List Addr) ∨ h0.size ≤ x) (Or.inl (List.mem_of_getElem? (i := 0) rfl)) all0)
 have Z9 : n0 ≤ T9.heap.size := Nat.le_trans Z0 K9.1
 have g_bx5_0_9 : n0 ≤ bx5_0_9 := Nat.le_trans Z5 P9_0
 have sz_bx5_0_9 : h0.size ≤ bx5_0_9 := Nat.le_trans K5.1 P9_0
 have ne_a14_0_bx5_0_9 : a14_0 ≠ bx5_0_9 := Nat.ne_of_lt (Nat.lt_of_lt_of_le f6.lt P9_0)
 refine sA C X9 d14_50 ?_
 refine sC C X9 d14_51 ?_
 refine pF C X9 rfl (N5.app Nq9) g_a14_0 P9_3 P9_1 (ty := .boolean) (ow34 C.w) (ow35 C.w) (ow26 C.w) (by decide) d14_52 fun T10 h10 lo10 X10 e10 N10 W10 F10 => ?_
 have S10 : own_StK Z h0 h10 := S9.wr W10
 have K10 : Keep h0 h10 [a14_0] := K9.wr W10 (Or.inl (List.mem_of_getElem? (i := 0) rfl))
 have Z10 : n0 ≤ h10.size := Nat.le_trans Z0 K10.1
 have f11 := (P9_1.wr W10)
 have f12 := (P9_2.other W10 (Or.inr (slot_ne (Or.inl (ow33 hw)) (Or.inl (ow35 hw)) (by decide) (t := .int) (t' := .boolean) (by decide) (by decide))))
 have f13 := (P9_4.other W10 (Or.inr (slot_ne (Or.inl (ow45 hw)) (Or.inl (ow35 hw)) (by decide) (t := (.array .long)) (t' := .boolean) (by decide) (by decide))))
 have f14 := (P9_5.other W10 (Ne.symm ne_a14_0_bx5_0_9))
 refine rV C X10 e10 hret d14_55 ?_
 exact ⟨bx5_0_9, kx5_0_9, rfl, N10, K10, S10, sz_bx5_0_9, f11, f12, F10, f13, f14⟩
theorem ef_rm16_2 (m : MethodId)  : entryFrame m #[(.int (0 : Int32)), (.int (2 : Int32))] 2 = mkF m 0 #[oI 0, oI 2] [] := by first | (simp [entryFrame, mkF, argsToLocals, Value.category]; done) | rfl
def Q_rm16_2 (Z : State)  (h0 : Heap) (n0 : Nat) (v : Option Value) (h : Heap) (L : List Loc) : Prop := v = none ∧ Fr n0 L ∧ h = h0
theorem rm16_2 (l : Launch) (Z : State) (a0 : Array Value) (hw : own_T Z a0)  (h0 : Heap) (n0 : Nat) (Z0 : n0 ≤ h0.size) :
   own_Met l oy16 oc16 2 none ({ frames := 0, cells := 0, slots := 0, locals := 0 } : Room) Z h0 #[(.int (0 : Int32)), (.int (2 : Int32))] (Q_rm16_2 Z  h0 n0) := by
 refine own_go hw (plainFor_of_name pn_16) (fun m => ef_rm16_2 m) fun p e s m below meth c T0 C hret X0 e0 => ?_
 have N0 := Fr.nil n0
 refine sI C X0 d16_0 ?_
 refine bY C X0 d16_1 31 ((if0 _ _).trans (flt (by decide : ¬ ((0 : Int32) < (0 : Int32)))).2.1) ?_
 refine sI C X0 d16_31 ?_
 refine bY C X0 d16_32 62 ((if0 _ _).trans (flt (by decide : ¬ ((2 : Int32) < (0 : Int32)))).2.1) ?_
 refine sI C X0 d16_62 ?_
 refine sI C X0 d16_63 ?_
 refine cY C X0 d16_64 103 ((flt (by decide : ¬ ((2 : Int32) < (0 : Int32)))).2.2.2) ?_
 refine rV C X0 e0 hret d16_103 ?_
 exact ⟨rfl, N0, rfl⟩
theorem d15_11 : decode oc15 11 = .ok (.iload_n 1, 1):=by decide +kernel
theorem d15_12 : decode oc15 12 = .ok (.invokestatic 52, 3):=by decide +kernel
theorem d15_15 : decode oc15 15 = .ok (.istore_n 3, 1):=by decide +kernel
theorem d15_16 : decode oc15 16 = .ok (.iload_n 2, 1):=by decide +kernel
theorem d15_17 : decode oc15 17 = .ok (.iconst 1, 1):=by decide +kernel
theorem d15_18 : decode oc15 18 = .ok (.isub, 1):=by decide +kernel
theorem d15_19 : decode oc15 19 = .ok (.invokestatic 52, 3):=by decide +kernel
theorem d15_22 : decode oc15 22 = .ok (.istore 4, 2):=by decide +kernel
theorem d15_24 : decode oc15 24 = .ok (.aload_n 0, 1):=by decide +kernel
theorem d15_25 : decode oc15 25 = .ok (.iload 4, 2):=by decide +kernel
theorem d15_27 : decode oc15 27 = .ok (.invokevirtual 155, 3):=by decide +kernel
theorem d15_30 : decode oc15 30 = .ok (.ldc2_w 165, 3):=by decide +kernel
theorem d15_33 : decode oc15 33 = .ok (.iload_n 1, 1):=by decide +kernel
theorem d15_34 : decode oc15 34 = .ok (.lshl, 1):=by decide +kernel
theorem d15_35 : decode oc15 35 = .ok (.lstore 5, 2):=by decide +kernel
theorem d15_37 : decode oc15 37 = .ok (.ldc2_w 165, 3):=by decide +kernel
theorem d15_40 : decode oc15 40 = .ok (.iload_n 2, 1):=by decide +kernel
theorem d15_41 : decode oc15 41 = .ok (.ineg, 1):=by decide +kernel
theorem d15_42 : decode oc15 42 = .ok (.lushr, 1):=by decide +kernel
theorem d15_43 : decode oc15 43 = .ok (.lstore 7, 2):=by decide +kernel
theorem d15_45 : decode oc15 45 = .ok (.iload_n 3, 1):=by decide +kernel
theorem d15_46 : decode oc15 46 = .ok (.iload 4, 2):=by decide +kernel
theorem d15_48 : decode oc15 48 = .ok (.if_icmp .ne 20, 3):=by decide +kernel
theorem d15_51 : decode oc15 51 = .ok (.aload_n 0, 1):=by decide +kernel
theorem d15_52 : decode oc15 52 = .ok (.getfield 11, 3):=by decide +kernel
theorem d15_55 : decode oc15 55 = .ok (.iload_n 3, 1):=by decide +kernel
theorem d15_56 : decode oc15 56 = .ok (.dup2, 1):=by decide +kernel
theorem d15_57 : decode oc15 57 = .ok (.laload, 1):=by decide +kernel
theorem d15_58 : decode oc15 58 = .ok (.lload 5, 2):=by decide +kernel
theorem d15_60 : decode oc15 60 = .ok (.lload 7, 2):=by decide +kernel
theorem d15_62 : decode oc15 62 = .ok (.land, 1):=by decide +kernel
theorem d15_63 : decode oc15 63 = .ok (.lor, 1):=by decide +kernel
theorem d15_64 : decode oc15 64 = .ok (.lastore, 1):=by decide +kernel
theorem d15_65 : decode oc15 65 = .ok (.goto 54, 3):=by decide +kernel
theorem d15_119 : decode oc15 119 = .ok (.aload_n 0, 1):=by decide +kernel
theorem d15_120 : decode oc15 120 = .ok (.invokevirtual 56, 3):=by decide +kernel
theorem d15_123 : decode oc15 123 = .ok (.return_, 1):=by decide +kernel
theorem ef_rm15_2 (m : MethodId) (y0 : Addr) : entryFrame m #[(.ref y0), (.int (0 : Int32)), (.int (2 : Int32))] 10 = mkF m 0 #[oR y0, oI 0, oI 2, oU, oU, oU, oU, oU, oU, oU] [] := by first | (simp [entryFrame, mkF, argsToLocals, Value.category]; done) | rfl
def Q_rm15_2 (Z : State) (a15_0 ww : Addr) (kc_ww : ClassId) (t_ww_0 : Int64) (h0 : Heap) (n0 : Nat) (v : Option Value) (h : Heap) (L : List Loc) : Prop := v = none ∧ Fr n0 L ∧ Keep h0 h [a15_0, ww] ∧ own_StK Z h0 h ∧ Exa Z h a15_0 oB ∧ Fld Z h a15_0 oB "wordsInUse" "I" (.int (1 : Int32)) ∧ Fld Z h a15_0 oB "sizeIsSticky" "Z" (.int (1 : Int32)) ∧ Fld Z h a15_0 oB "words" "[J" (.ref ww) ∧ Arv Z h ww kc_ww .long (1 : Int32) [(.long (t_ww_0 ||| (3 : Int64)))] oZ
theorem rm15_2 (l : Launch) (Z : State) (a0 : Array Value) (hw : own_T Z a0) (a15_0 ww : Addr) (kc_ww : ClassId) (t_ww_0 : Int64) (h0 : Heap) (n0 : Nat) (Z0 : n0 ≤ h0.size) (E_a : Exa Z h0 a15_0 oB) (F_wordsInUse : Fld Z h0 a15_0 oB "wordsInUse" "I" (.int (0 : Int32))) (F_sizeIsSticky : Fld Z h0 a15_0 oB "sizeIsSticky" "Z" (.int (1 : Int32))) (F_words : Fld Z h0 a15_0 oB "words" "[J" (.ref ww)) (V_ww : Arv Z h0 ww kc_ww .long (1 : Int32) [(.long t_ww_0)] oZ) (g_a15_0 : n0 ≤ a15_0) (ne_ww_a15_0 : ww ≠ a15_0) (g_ww : n0 ≤ ww) (Sta1 : Sta Z h0 oB "$assertionsDisabled" "Z" (.int (1 : Int32))) :
   own_Met l oy15 oc15 10 none ({ frames := 2, cells := 0, slots := 0, locals := 28 } : Room) Z h0 #[(.ref a15_0), (.int (0 : Int32)), (.int (2 : Int32))] (Q_rm15_2 Z a15_0 ww kc_ww t_ww_0 h0 n0) := by
 refine own_go hw (plainFor_of_name pn_15) (fun m => ef_rm15_2 m a15_0) fun p e s m below meth c T0 C hret X0 e0 => ?_
 have N0 := Fr.nil n0
 refine sI C X0 d15_0 ?_
 refine sI C X0 d15_1 ?_
 refine cS C X0 e0 (rm16_2 l Z a0 C.w  h0 n0 Z0 ) (W := 0) (ow95 C.w) (ow96 C.w) (ow97 C.w) (ow27 C.w) (argsL := [(.int (0 : Int32)), (.int (2 : Int32))]) (lenOf pd__II_V rfl) d15_2 fun v1 T1 lo1 X1 hQ1 => ?_
 obtain ⟨rfl, Nq1, e1⟩ := hQ1
 refine sI C X1 d15_5 ?_
 refine sI C X1 d15_6 ?_
 refine cY C X1 d15_7 11 ((feq (by decide : ¬ ((0 : Int32) = (2 : Int32)))).2) ?_
 refine sI C X1 d15_11 ?_
 refine cS C X1 e1 (fun ws => rm6 l Z a0 C.w ws (0 : Int32) h0 n0 Z0 ) (W := 0) (ow41 C.w) (ow42 C.w) (ow43 C.w) (ow27 C.w) (argsL := [(.int (0 : Int32))]) (lenOf pd__I_I rfl) d15_12 fun v2 T2 lo2 X2 hQ2 => ?_
 obtain ⟨rfl, Nq2, e2⟩ := hQ2
 rw [show ((0 : Int32) >>> ((6 : Int32) &&& 31)) = (0 : Int32) from by decide +kernel]
 refine wI C X2 #[oR a15_0, oI 0, oI 2, oI 0, oU, oU, oU, oU, oU, oU] d15_15 ?_
 refine sI C X2 d15_16 ?_
 refine sC C X2 d15_17 ?_
 refine sS C X2 d15_18 ?_
 refine cS C X2 e2 (fun ws => rm6 l Z a0 C.w ws (1 : Int32) h0 n0 Z0 ) (W := 0) (ow41 C.w) (ow42 C.w) (ow43 C.w) (ow27 C.w) (argsL := [(.int (1 : Int32))]) (lenOf pd__I_I rfl) d15_19 fun v4 T4 lo4 X4 hQ4 => ?_
 obtain ⟨rfl, Nq4, e4⟩ := hQ4
 rw [show ((1 : Int32) >>> ((6 : Int32) &&& 31)) = (0 : Int32) from by decide +kernel]
 refine wi C X4 #[oR a15_0, oI 0, oI 2, oI 0, oI 0, oU, oU, oU, oU, oU] d15_22 ?_
 refine sA C X4 d15_24 ?_
 refine si C X4 d15_25 ?_
 refine cP C X4 e4 (rm21_1 l Z a0 C.w a15_0 ww kc_ww t_ww_0 h0 n0 Z0 E_a F_wordsInUse F_sizeIsSticky F_words V_ww g_a15_0) E_a (W := 0) (ow116 C.w) (ow117 C.w) (mvT C.z (ow119 C.w)) (ow118 C.w) (ow120 C.w) (ow27 C.w) (argsL := [(.int (0 : Int32))]) (lenOf pd__I_V rfl) d15_27 fun v6 T6 lo6 X6 hQ6 => ?_
 obtain ⟨rfl, Nq6, Kc6, Sc6, P6_0, P6_1, P6_2, P6_3⟩ := hQ6
 have S6 : own_StK Z h0 T6.heap := (own_StK.refl Z h0).tr Sc6
 have K6 : Keep h0 T6.heap [a15_0, ww] := Keep.trans (Keep.refl h0 [a15_0, ww]) Kc6 (allS (P := fun x => x ∈ ([a15_0, ww] : List Addr) ∨ h0.size ≤ x) (Or.inl (List.mem_of_getElem? (i := 0) rfl)) all0)
 have Z6 : n0 ≤ T6.heap.size := Nat.le_trans Z0 K6.1
 refine kJ C X6 (ow140 C.w) d15_30 ?_
 refine sI C X6 d15_33 ?_
 refine tH C X6 d15_34 ?_
 refine wl C X6 #[oR a15_0, oI 0, oI 2, oI 0, oI 0, oJ (-1), oD, oU, oU, oU] d15_35 ?_
 refine kJ C X6 (ow140 C.w) d15_37 ?_
 refine sI C X6 d15_40 ?_
 refine sE C X6 d15_41 ?_
 refine tU C X6 d15_42 ?_
 refine wl C X6 #[oR a15_0, oI 0, oI 2, oI 0, oI 0, oJ (-1), oD, oJ 3, oD, oU] d15_43 ?_
 refine sI C X6 d15_45 ?_
 refine si C X6 d15_46 ?_
 refine cN C X6 d15_48 ((teq (by decide : (0 : Int32) = (0 : Int32))).2) ?_
 refine gA C X6 rfl P6_3 (ow44 C.w) d15_51 d15_52 fun T7 X7 e7 => ?_
 refine sI C X7 d15_55 ?_
 show own_Fin p l e _ s m _ below meth c _ T7 (mkF m 56 #[oR a15_0, oI 0, oI 2, oI 0, oI 0, oJ (-1), oD, oJ 3, oD, oU] [(.int (0 : Int32)), (.ref ww)])
 refine own_Fin.st (g' := (mkF m 57 #[oR a15_0, oI 0, oI 2, oI 0, oI 0, oJ (-1), oD, oJ 3, oD, oU] [(.int (0 : Int32)), (.ref ww), (.int (0 : Int32)), (.ref ww)])) ?_ (fun t k => by jvm_step X7.here [X7.here.top, C.1, C.d d15_56, Value.category]; exact k)
 have f8 := (V_ww.keep Kc6 (ninS ne_ww_a15_0 nin0))
 refine lA C X7 e7 f8 d15_57 ?_
 refine sl C X7 d15_58 ?_
 refine sl C X7 d15_60 ?_
 refine tA C X7 d15_62 ?_
 refine tO C X7 d15_63 ?_
 refine sJ C X7 e7 ((((N0.app Nq1).app Nq2).app Nq4).app Nq6) g_ww f8 _ d15_64 fun T9 h9 lo9 X9 e9 N9 W9 V9 => ?_
 have S9 : own_StK Z h0 h9 := S6.wr W9
 have K9 : Keep h0 h9 [a15_0, ww] := K6.wr W9 (Or.inl (List.mem_of_getElem? (i := 1) rfl))
 have Z9 : n0 ≤ h9.size := Nat.le_trans Z0 K9.1
 refine sG C X9 d15_65 119 ?_
 refine sA C X9 d15_119 ?_
 have f11 := (P6_0.wr W9)
 refine cP C X9 e9 (fun ws => rm13 l Z a0 C.w ws a15_0 h9 n0 Z9 (S9 _ _ _ _ Sta1)) f11 (W := 0) (ow81 C.w) (ow82 C.w) (mvT C.z (ow84 C.w)) (ow83 C.w) (ow85 C.w) (ow27 C.w) (argsL := []) (lenOf pd___V rfl) d15_120 fun v10 T10 lo10 X10 hQ10 => ?_
 obtain ⟨rfl, Nq10, e10⟩ := hQ10
 have f12 := (P6_1.other W9 (Or.inl (Ne.symm ne_ww_a15_0)))
 have f13 := (P6_2.other W9 (Or.inl (Ne.symm ne_ww_a15_0)))
 have f14 := (P6_3.other W9 (Or.inl (Ne.symm ne_ww_a15_0)))
 refine rV C X10 e10 hret d15_123 ?_
 exact ⟨rfl, (N9.app Nq10), K9, S9, f11, f12, f13, f14, V9⟩
theorem ef_rm18_2 (m : MethodId)  : entryFrame m #[(.int (16 : Int32)), (.int (8 : Int32)), (.int (16 : Int32))] 3 = mkF m 0 #[oI 16, oI 8, oI 16] [] := by first | (simp [entryFrame, mkF, argsToLocals, Value.category]; done) | rfl
def Q_rm18_2 (Z : State)  (h0 : Heap) (n0 : Nat) (v : Option Value) (h : Heap) (L : List Loc) : Prop := v = none ∧ Fr n0 L ∧ h = h0
theorem rm18_2 (l : Launch) (Z : State) (a0 : Array Value) (hw : own_T Z a0)  (h0 : Heap) (n0 : Nat) (Z0 : n0 ≤ h0.size) :
   own_Met l oy18 oc18 3 none ({ frames := 0, cells := 0, slots := 0, locals := 0 } : Room) Z h0 #[(.int (16 : Int32)), (.int (8 : Int32)), (.int (16 : Int32))] (Q_rm18_2 Z  h0 n0) := by
 refine own_go hw (plainFor_of_name pn_18) (fun m => ef_rm18_2 m) fun p e s m below meth c T0 C hret X0 e0 => ?_
 have N0 := Fr.nil n0
 refine sI C X0 d18_0 ?_
 refine sI C X0 d18_1 ?_
 refine cY C X0 d18_2 46 ((flt (by decide : ¬ ((16 : Int32) < (8 : Int32)))).2.2.2) ?_
 refine sI C X0 d18_46 ?_
 refine bY C X0 d18_47 59 ((if0 _ _).trans (flt (by decide : ¬ ((8 : Int32) < (0 : Int32)))).2.1) ?_
 refine sI C X0 d18_59 ?_
 refine sI C X0 d18_60 ?_
 refine cY C X0 d18_61 73 ((flt (by decide : ¬ ((16 : Int32) < (16 : Int32)))).2.2.2) ?_
 refine rV C X0 e0 hret d18_73 ?_
 exact ⟨rfl, N0, rfl⟩
theorem ef_rm17_2 (m : MethodId) (y0 : Addr) : entryFrame m #[(.ref y0), (.int (8 : Int32)), (.int (16 : Int32)), (.long oM)] 6 = mkF m 0 #[oR y0, oI 8, oI 16, oJ 9223372036854775807, oD, oU] [] := by first | (simp [entryFrame, mkF, argsToLocals, Value.category]; done) | rfl
def Q_rm17_2 (Z : State) (a17_0 : Addr) (kc_a17_0 : ClassId) (t_a17_0_0 t_a17_0_1 t_a17_0_2 t_a17_0_3 t_a17_0_4 t_a17_0_5 t_a17_0_6 t_a17_0_7 t_a17_0_8 t_a17_0_9 t_a17_0_10 t_a17_0_11 t_a17_0_12 t_a17_0_13 t_a17_0_14 t_a17_0_15 : Int64) (h0 : Heap) (n0 : Nat) (v : Option Value) (h : Heap) (L : List Loc) : Prop := v = none ∧ Fr n0 L ∧ Keep h0 h [a17_0] ∧ own_StK Z h0 h ∧ Arv Z h a17_0 kc_a17_0 .long (16 : Int32) [(.long t_a17_0_0), (.long t_a17_0_1), (.long t_a17_0_2), (.long t_a17_0_3), (.long t_a17_0_4), (.long t_a17_0_5), (.long t_a17_0_6), (.long t_a17_0_7), (.long oM), (.long oM), (.long oM), (.long oM), (.long oM), (.long oM), (.long oM), (.long oM)] oZ
theorem rm17_2 (l : Launch) (Z : State) (a0 : Array Value) (hw : own_T Z a0) (a17_0 : Addr) (kc_a17_0 : ClassId) (t_a17_0_0 t_a17_0_1 t_a17_0_2 t_a17_0_3 t_a17_0_4 t_a17_0_5 t_a17_0_6 t_a17_0_7 t_a17_0_8 t_a17_0_9 t_a17_0_10 t_a17_0_11 t_a17_0_12 t_a17_0_13 t_a17_0_14 t_a17_0_15 : Int64) (h0 : Heap) (n0 : Nat) (Z0 : n0 ≤ h0.size) (V_a17_0 : Arv Z h0 a17_0 kc_a17_0 .long (16 : Int32) [(.long t_a17_0_0), (.long t_a17_0_1), (.long t_a17_0_2), (.long t_a17_0_3), (.long t_a17_0_4), (.long t_a17_0_5), (.long t_a17_0_6), (.long t_a17_0_7), (.long t_a17_0_8), (.long t_a17_0_9), (.long t_a17_0_10), (.long t_a17_0_11), (.long t_a17_0_12), (.long t_a17_0_13), (.long t_a17_0_14), (.long t_a17_0_15)] oZ) (g_a17_0 : n0 ≤ a17_0) :
   own_Met l oy17 oc17 6 none ({ frames := 1, cells := 0, slots := 0, locals := 14 } : Room) Z h0 #[(.ref a17_0), (.int (8 : Int32)), (.int (16 : Int32)), (.long oM)] (Q_rm17_2 Z a17_0 kc_a17_0 t_a17_0_0 t_a17_0_1 t_a17_0_2 t_a17_0_3 t_a17_0_4 t_a17_0_5 t_a17_0_6 t_a17_0_7 t_a17_0_8 t_a17_0_9 t_a17_0_10 t_a17_0_11 t_a17_0_12 t_a17_0_13 t_a17_0_14 t_a17_0_15 h0 n0) := by
 refine own_go hw (plainFor_of_name pn_17) (fun m => ef_rm17_2 m a17_0) fun p e s m below meth c T0 C hret X0 e0 => ?_
 have N0 := Fr.nil n0
 refine sA C X0 d17_0 ?_
 refine nA C X0 e0 V_a17_0 d17_1 ?_
 refine sI C X0 d17_2 ?_
 refine sI C X0 d17_3 ?_
 refine cS C X0 e0 (rm18_2 l Z a0 C.w  h0 n0 Z0 ) (W := 0) (ow103 C.w) (ow104 C.w) (ow105 C.w) (ow101 C.w) (argsL := [(.int (16 : Int32)), (.int (8 : Int32)), (.int (16 : Int32))]) (lenOf pd__III_V rfl) d17_4 fun v1 T1 lo1 X1 hQ1 => ?_
 obtain ⟨rfl, Nq1, e1⟩ := hQ1
 refine sI C X1 d17_7 ?_
 refine wi C X1 #[oR a17_0, oI 8, oI 16, oJ 9223372036854775807, oD, oI 8] d17_8 ?_
 refine si C X1 d17_10 ?_
 refine sI C X1 d17_12 ?_
 refine cN C X1 d17_13 ((tlt (by decide : (8 : Int32) < (16 : Int32))).2.1) ?_
 refine sA C X1 d17_16 ?_
 refine si C X1 d17_17 ?_
 refine sL C X1 d17_19 ?_
 refine sJ C X1 e1 (N0.app Nq1) g_a17_0 V_a17_0 _ d17_20 fun T2 h2 lo2 X2 e2 N2 W2 V2 => ?_
 have S2 : own_StK Z h0 h2 := (own_StK.refl Z h0).wr W2
 have K2 : Keep h0 h2 [a17_0] := (Keep.refl h0 [a17_0]).wr W2 (Or.inl (List.mem_of_getElem? (i := 0) rfl))
 have Z2 : n0 ≤ h2.size := Nat.le_trans Z0 K2.1
 refine wc C X2 #[oR a17_0, oI 8, oI 16, oJ 9223372036854775807, oD, oI 9] d17_21 ?_
 refine sG C X2 d17_24 10 ?_
 refine si C X2 d17_10 ?_
 refine sI C X2 d17_12 ?_
 refine cN C X2 d17_13 ((tlt (by decide : (9 : Int32) < (16 : Int32))).2.1) ?_
 refine sA C X2 d17_16 ?_
 refine si C X2 d17_17 ?_
 refine sL C X2 d17_19 ?_
 refine sJ C X2 e2 N2 g_a17_0 V2 _ d17_20 fun T3 h3 lo3 X3 e3 N3 W3 V3 => ?_
 have S3 : own_StK Z h0 h3 := S2.wr W3
 have K3 : Keep h0 h3 [a17_0] := K2.wr W3 (Or.inl (List.mem_of_getElem? (i := 0) rfl))
 have Z3 : n0 ≤ h3.size := Nat.le_trans Z0 K3.1
 refine wc C X3 #[oR a17_0, oI 8, oI 16, oJ 9223372036854775807, oD, oI 10] d17_21 ?_
 refine sG C X3 d17_24 10 ?_
 refine si C X3 d17_10 ?_
 refine sI C X3 d17_12 ?_
 refine cN C X3 d17_13 ((tlt (by decide : (10 : Int32) < (16 : Int32))).2.1) ?_
 refine sA C X3 d17_16 ?_
 refine si C X3 d17_17 ?_
 refine sL C X3 d17_19 ?_
 refine sJ C X3 e3 N3 g_a17_0 V3 _ d17_20 fun T4 h4 lo4 X4 e4 N4 W4 V4 => ?_
 have S4 : own_StK Z h0 h4 := S3.wr W4
 have K4 : Keep h0 h4 [a17_0] := K3.wr W4 (Or.inl (List.mem_of_getElem? (i := 0) rfl))
 have Z4 : n0 ≤ h4.size := Nat.le_trans Z0 K4.1
 refine wc C X4 #[oR a17_0, oI 8, oI 16, oJ 9223372036854775807, oD, oI 11] d17_21 ?_
 refine sG C X4 d17_24 10 ?_
 refine si C X4 d17_10 ?_
 refine sI C X4 d17_12 ?_
 refine cN C X4 d17_13 ((tlt (by decide : (11 : Int32) < (16 : Int32))).2.1) ?_
 refine sA C X4 d17_16 ?_
 refine si C X4 d17_17 ?_
 refine sL C X4 d17_19 ?_
 refine sJ C X4 e4 N4 g_a17_0 V4 _ d17_20 fun T5 h5 lo5 X5 e5 N5 W5 V5 => ?_
 have S5 : own_StK Z h0 h5 := S4.wr W5
 have K5 : Keep h0 h5 [a17_0] := K4.wr W5 (Or.inl (List.mem_of_getElem? (i := 0) rfl))
 have Z5 : n0 ≤ h5.size := Nat.le_trans Z0 K5.1
 refine wc C X5 #[oR a17_0, oI 8, oI 16, oJ 9223372036854775807, oD, oI 12] d17_21 ?_
 refine sG C X5 d17_24 10 ?_
 refine si C X5 d17_10 ?_
 refine sI C X5 d17_12 ?_
 refine cN C X5 d17_13 ((tlt (by decide : (12 : Int32) < (16 : Int32))).2.1) ?_
 refine sA C X5 d17_16 ?_
 refine si C X5 d17_17 ?_
 refine sL C X5 d17_19 ?_
 refine sJ C X5 e5 N5 g_a17_0 V5 _ d17_20 fun T6 h6 lo6 X6 e6 N6 W6 V6 => ?_
 have S6 : own_StK Z h0 h6 := S5.wr W6
 have K6 : Keep h0 h6 [a17_0] := K5.wr W6 (Or.inl (List.mem_of_getElem? (i := 0) rfl))
 have Z6 : n0 ≤ h6.size := Nat.le_trans Z0 K6.1
 refine wc C X6 #[oR a17_0, oI 8, oI 16, oJ 9223372036854775807, oD, oI 13] d17_21 ?_
 refine sG C X6 d17_24 10 ?_
 refine si C X6 d17_10 ?_
 refine sI C X6 d17_12 ?_
 refine cN C X6 d17_13 ((tlt (by decide : (13 : Int32) < (16 : Int32))).2.1) ?_
 refine sA C X6 d17_16 ?_
 refine si C X6 d17_17 ?_
 refine sL C X6 d17_19 ?_
 refine sJ C X6 e6 N6 g_a17_0 V6 _ d17_20 fun T7 h7 lo7 X7 e7 N7 W7 V7 => ?_
 have S7 : own_StK Z h0 h7 := S6.wr W7
 have K7 : Keep h0 h7 [a17_0] := K6.wr W7 (Or.inl (List.mem_of_getElem? (i := 0) rfl))
 have Z7 : n0 ≤ h7.size := Nat.le_trans Z0 K7.1
 refine wc C X7 #[oR a17_0, oI 8, oI 16, oJ 9223372036854775807, oD, oI 14] d17_21 ?_
 refine sG C X7 d17_24 10 ?_
 refine si C X7 d17_10 ?_
 refine sI C X7 d17_12 ?_
 refine cN C X7 d17_13 ((tlt (by decide : (14 : Int32) < (16 : Int32))).2.1) ?_
 refine sA C X7 d17_16 ?_
 refine si C X7 d17_17 ?_
 refine sL C X7 d17_19 ?_
 refine sJ C X7 e7 N7 g_a17_0 V7 _ d17_20 fun T8 h8 lo8 X8 e8 N8 W8 V8 => ?_
 have S8 : own_StK Z h0 h8 := S7.wr W8
 have K8 : Keep h0 h8 [a17_0] := K7.wr W8 (Or.inl (List.mem_of_getElem? (i := 0) rfl))
 have Z8 : n0 ≤ h8.size := Nat.le_trans Z0 K8.1
 refine wc C X8 #[oR a17_0, oI 8, oI 16, oJ 9223372036854775807, oD, oI 15] d17_21 ?_
 refine sG C X8 d17_24 10 ?_
 refine si C X8 d17_10 ?_
 refine sI C X8 d17_12 ?_
 refine cN C X8 d17_13 ((tlt (by decide : (15 : Int32) < (16 : Int32))).2.1) ?_
 refine sA C X8 d17_16 ?_
 refine si C X8 d17_17 ?_
 refine sL C X8 d17_19 ?_
 refine sJ C X8 e8 N8 g_a17_0 V8 _ d17_20 fun T9 h9 lo9 X9 e9 N9 W9 V9 => ?_
 have S9 : own_StK Z h0 h9 := S8.wr W9
 have K9 : Keep h0 h9 [a17_0] := K8.wr W9 (Or.inl (List.mem_of_getElem? (i := 0) rfl))
 have Z9 : n0 ≤ h9.size := Nat.le_trans Z0 K9.1
 refine wc C X9 #[oR a17_0, oI 8, oI 16, oJ 9223372036854775807, oD, oI 16] d17_21 ?_
 refine sG C X9 d17_24 10 ?_
 refine si C X9 d17_10 ?_
 refine sI C X9 d17_12 ?_
 refine cY C X9 d17_13 27 ((flt (by decide : ¬ ((16 : Int32) < (16 : Int32)))).2.1) ?_
 refine rV C X9 e9 hret d17_27 ?_
 exact ⟨rfl, N9, K9, S9, V9⟩
theorem d11_83 : decode oc11 83 = .ok (.aload_n 3, 1):=by decide +kernel
theorem d11_84 : decode oc11 84 = .ok (.iload 6, 2):=by decide +kernel
theorem d11_86 : decode oc11 86 = .ok (.aload_n 0, 1):=by decide +kernel
theorem d11_87 : decode oc11 87 = .ok (.getfield 9, 3):=by decide +kernel
theorem d11_90 : decode oc11 90 = .ok (.iload 7, 2):=by decide +kernel
theorem d11_92 : decode oc11 92 = .ok (.laload, 1):=by decide +kernel
theorem d11_93 : decode oc11 93 = .ok (.lastore, 1):=by decide +kernel
theorem d11_94 : decode oc11 94 = .ok (.aload 4, 2):=by decide +kernel
theorem d11_96 : decode oc11 96 = .ok (.iload 6, 2):=by decide +kernel
theorem d11_98 : decode oc11 98 = .ok (.aload_n 0, 1):=by decide +kernel
theorem d11_99 : decode oc11 99 = .ok (.getfield 15, 3):=by decide +kernel
theorem d11_102 : decode oc11 102 = .ok (.iload 7, 2):=by decide +kernel
theorem d11_104 : decode oc11 104 = .ok (.laload, 1):=by decide +kernel
theorem d11_105 : decode oc11 105 = .ok (.lastore, 1):=by decide +kernel
theorem d11_106 : decode oc11 106 = .ok (.aload 5, 2):=by decide +kernel
theorem d11_108 : decode oc11 108 = .ok (.iload 6, 2):=by decide +kernel
theorem d11_110 : decode oc11 110 = .ok (.aload_n 0, 1):=by decide +kernel
theorem d11_111 : decode oc11 111 = .ok (.getfield 18, 3):=by decide +kernel
theorem d11_114 : decode oc11 114 = .ok (.iload 7, 2):=by decide +kernel
theorem d11_116 : decode oc11 116 = .ok (.laload, 1):=by decide +kernel
theorem d11_117 : decode oc11 117 = .ok (.lastore, 1):=by decide +kernel
theorem d11_118 : decode oc11 118 = .ok (.iinc 6 1, 3):=by decide +kernel
theorem d11_121 : decode oc11 121 = .ok (.aload_n 0, 1):=by decide +kernel
theorem d11_122 : decode oc11 122 = .ok (.getfield 27, 3):=by decide +kernel
theorem d11_125 : decode oc11 125 = .ok (.iload 7, 2):=by decide +kernel
theorem d11_127 : decode oc11 127 = .ok (.iconst 1, 1):=by decide +kernel
theorem d11_128 : decode oc11 128 = .ok (.iadd, 1):=by decide +kernel
theorem d11_129 : decode oc11 129 = .ok (.invokevirtual 50, 3):=by decide +kernel
theorem d11_132 : decode oc11 132 = .ok (.istore 7, 2):=by decide +kernel
theorem d11_134 : decode oc11 134 = .ok (.goto (-56), 3):=by decide +kernel
theorem d11_240 : decode oc11 240 = .ok (.aload_n 0, 1):=by decide +kernel
theorem d11_241 : decode oc11 241 = .ok (.getfield 21, 3):=by decide +kernel
theorem d11_244 : decode oc11 244 = .ok (.iload_n 1, 1):=by decide +kernel
theorem d11_245 : decode oc11 245 = .ok (.iload 7, 2):=by decide +kernel
theorem d11_247 : decode oc11 247 = .ok (.iadd, 1):=by decide +kernel
theorem d11_248 : decode oc11 248 = .ok (.aload_n 0, 1):=by decide +kernel
theorem d11_249 : decode oc11 249 = .ok (.getfield 9, 3):=by decide +kernel
theorem d11_252 : decode oc11 252 = .ok (.iload 7, 2):=by decide +kernel
theorem d11_254 : decode oc11 254 = .ok (.laload, 1):=by decide +kernel
theorem d11_255 : decode oc11 255 = .ok (.aload_n 0, 1):=by decide +kernel
theorem d11_256 : decode oc11 256 = .ok (.getfield 15, 3):=by decide +kernel
theorem d11_259 : decode oc11 259 = .ok (.iload 7, 2):=by decide +kernel
theorem d11_261 : decode oc11 261 = .ok (.iconst 1, 1):=by decide +kernel
theorem d11_262 : decode oc11 262 = .ok (.isub, 1):=by decide +kernel
theorem d11_263 : decode oc11 263 = .ok (.laload, 1):=by decide +kernel
theorem d11_264 : decode oc11 264 = .ok (.lsub, 1):=by decide +kernel
theorem d11_265 : decode oc11 265 = .ok (.lastore, 1):=by decide +kernel
theorem d11_266 : decode oc11 266 = .ok (.iinc 7 1, 3):=by decide +kernel
theorem d11_269 : decode oc11 269 = .ok (.goto (-38), 3):=by decide +kernel
theorem ef_rm11_2 (m : MethodId) (y0 : Addr) : entryFrame m #[(.ref y0), (.int (8 : Int32))] 8 = mkF m 0 #[oR y0, oI 8, oU, oU, oU, oU, oU, oU] [] := by first | (simp [entryFrame, mkF, argsToLocals, Value.category]; done) | rfl
def Q_rm11_2 (Z : State) (a11_0 : Addr) (rT : Addr) (rF : Addr) (rO : Addr) (rS : Addr) (rE : Addr) (rW : Addr) (kT : ClassId) (kF : ClassId) (kO : ClassId) (kW : ClassId) (bs : Int64) (tm0 : Int64) (tm1 : Int64) (fr0 : Int64) (fr1 : Int64) (to0 : Int64) (to1 : Int64) (T : Int64) (h0 : Heap) (n0 : Nat) (v : Option Value) (h : Heap) (L : List Loc) : Prop := v = none ∧ Fr n0 L ∧ ∃ rT' : Addr, ∃ rF' : Addr, ∃ rO' : Addr, ∃ rS' : Addr, ∃ rE' : Addr, ∃ rW' : Addr, ∃ kT' : ClassId, ∃ kF' : ClassId, ∃ kO' : ClassId, ∃ kW' : ClassId, own_Obj Z h n0 a11_0 rT' rF' rO' rS' rE' rW' kT' kF' kO' kW' (0 : Int32) (2 : Int32) (2 : Int32) bs (1 : Int32) (1 : Int32) (3 : Int64) (8 : Int32) [(.long tm0), (.long tm1), oZ, oZ, oZ, oZ, oZ, oZ] [(.long fr0), (.long fr1), oZ, oZ, oZ, oZ, oZ, oZ] [(.long to0), (.long to1), oZ, oZ, oZ, oZ, oZ, oZ] ∧ own_Sp8 Z h rS' oM (tm1 - fr0) oM oM oM oM oM oM
theorem rm11_2 (l : Launch) (Z : State) (a0 : Array Value) (hw : own_T Z a0) (a11_0 rT rF rO rS rE rW : Addr) (kT kF kO kW : ClassId) (bs tm0 tm1 fr0 fr1 to0 to1 T : Int64) (h0 : Heap) (n0 : Nat) (Z0 : n0 ≤ h0.size) (O : own_Obj Z h0 n0 a11_0 rT rF rO rS rE rW kT kF kO kW (0 : Int32) (2 : Int32) (2 : Int32) bs (1 : Int32) (1 : Int32) (3 : Int64) (2 : Int32) [(.long tm0), (.long tm1)] [(.long fr0), (.long fr1)] [(.long to0), (.long to1)]) (SP : own_Sp2 Z h0 rS oM (tm1 - fr0)) (htm0 : own_near T tm0) (htm1 : own_near T tm1) (hfr0 : own_near T fr0) (hfr1 : own_near T fr1) :
   own_Met l oy11 oc11 8 none ({ frames := 3, cells := 6, slots := 44, locals := 49 } : Room) Z h0 #[(.ref a11_0), (.int (8 : Int32))] (Q_rm11_2 Z a11_0 rT rF rO rS rE rW kT kF kO kW bs tm0 tm1 fr0 fr1 to0 to1 T h0 n0) := by
 refine own_go hw (plainFor_of_name pn_11) (fun m => ef_rm11_2 m a11_0) fun p e s m below meth c T0 C hret X0 e0 => ?_
 have N0 := Fr.nil n0
 obtain ⟨Ea1, Ftimes1, Ffroms1, Ftotals1, Fspans1, Fentries1, Fsize1, Fend1, Ffirst1, Fbase1, Ee1, BwordsInUse1, BsizeIsSticky1, Bwords1, Vt1, Vf1, Vo1, Vw1, St1, g0_1, g1_1, g2_1, g3_1, g4_1, g5_1, g6_1, n0_1, n1_1, n2_1, n3_1, n4_1, n5_1, n6_1, n7_1, n8_1, n9_1, n10_1, n11_1, n12_1, n13_1, n14_1, n15_1, n16_1, n17_1, n18_1, n19_1, n20_1⟩ := O
 refine sI C X0 d11_0 ?_
 refine gA C X0 e0 Ftimes1 (ow17 C.w) d11_1 d11_2 fun T2 X2 e2 => ?_
 refine nA C X2 e2 Vt1 d11_5 ?_
 refine cN C X2 d11_6 ((feq (by decide : ¬ ((8 : Int32) = (2 : Int32)))).1) ?_
 refine sC C X2 d11_9 ?_
 refine sG C X2 d11_10 14 ?_
 refine wI C X2 #[oR a11_0, oI 8, oI 1, oU, oU, oU, oU, oU] d11_14 ?_
 refine sI C X2 d11_15 ?_
 refine bN C X2 d11_16 ((if0 _ _).trans (feq (by decide : ¬ ((1 : Int32) = (0 : Int32)))).1) ?_
 refine sI C X2 d11_19 ?_
 refine nP C X2 e2 (n := (8 : Int32)) 8 [oZ, oZ, oZ, oZ, oZ, oZ, oZ, oZ] (ow16 C.w) d11_20 fun T3 h3 k3 b3 g3 X3 e3 E3 V_b3 => ?_
 have ne_a11_0_b3 : a11_0 ≠ b3 := Nat.ne_of_lt (Nat.lt_of_lt_of_le (Nat.lt_of_lt_of_le Ea1.lt (Nat.le_refl _)) (Nat.le_of_eq g3.symm))
 have ne_rE_b3 : rE ≠ b3 := Nat.ne_of_lt (Nat.lt_of_lt_of_le (Nat.lt_of_lt_of_le Ee1.lt (Nat.le_refl _)) (Nat.le_of_eq g3.symm))
 have ne_rT_b3 : rT ≠ b3 := Nat.ne_of_lt (Nat.lt_of_lt_of_le (Nat.lt_of_lt_of_le Vt1.lt (Nat.le_refl _)) (Nat.le_of_eq g3.symm))
 have ne_rF_b3 : rF ≠ b3 := Nat.ne_of_lt (Nat.lt_of_lt_of_le (Nat.lt_of_lt_of_le Vf1.lt (Nat.le_refl _)) (Nat.le_of_eq g3.symm))
 have ne_rO_b3 : rO ≠ b3 := Nat.ne_of_lt (Nat.lt_of_lt_of_le (Nat.lt_of_lt_of_le Vo1.lt (Nat.le_refl _)) (Nat.le_of_eq g3.symm))
 have ne_rW_b3 : rW ≠ b3 := Nat.ne_of_lt (Nat.lt_of_lt_of_le (Nat.lt_of_lt_of_le Vw1.lt (Nat.le_refl _)) (Nat.le_of_eq g3.symm))
 have ne_rS_b3 : rS ≠ b3 := Nat.ne_of_lt (Nat.lt_of_lt_of_le (Nat.lt_of_lt_of_le SP.lt (Nat.le_refl _)) (Nat.le_of_eq g3.symm))
 have g_b3 : n0 ≤ b3 := Nat.le_trans Z0 (Nat.le_of_eq g3.symm)
 have S3 : own_StK Z h0 h3 := (own_StK.refl Z h0).ext E3
 have Y3 : h0.size ≤ h3.size := Nat.le_trans (Nat.le_refl _) E3.1
 refine sG C X3 d11_22 29 ?_
 refine wA C X3 #[oR a11_0, oI 8, oI 1, oR b3, oU, oU, oU, oU] d11_29 ?_
 refine sI C X3 d11_30 ?_
 refine bN C X3 d11_31 ((if0 _ _).trans (feq (by decide : ¬ ((1 : Int32) = (0 : Int32)))).1) ?_
 refine sI C X3 d11_34 ?_
 refine nP C X3 e3 (n := (8 : Int32)) 8 [oZ, oZ, oZ, oZ, oZ, oZ, oZ, oZ] (ow16 C.w) d11_35 fun T4 h4 k4 b4 g4 X4 e4 E4 V_b4 => ?_
 have ne_a11_0_b4 : a11_0 ≠ b4 := Nat.ne_of_lt (Nat.lt_of_lt_of_le (Nat.lt_of_lt_of_le Ea1.lt Y3) (Nat.le_of_eq g4.symm))
 have ne_rE_b4 : rE ≠ b4 := Nat.ne_of_lt (Nat.lt_of_lt_of_le (Nat.lt_of_lt_of_le Ee1.lt Y3) (Nat.le_of_eq g4.symm))
 have ne_rT_b4 : rT ≠ b4 := Nat.ne_of_lt (Nat.lt_of_lt_of_le (Nat.lt_of_lt_of_le Vt1.lt Y3) (Nat.le_of_eq g4.symm))
 have ne_rF_b4 : rF ≠ b4 := Nat.ne_of_lt (Nat.lt_of_lt_of_le (Nat.lt_of_lt_of_le Vf1.lt Y3) (Nat.le_of_eq g4.symm))
 have ne_rO_b4 : rO ≠ b4 := Nat.ne_of_lt (Nat.lt_of_lt_of_le (Nat.lt_of_lt_of_le Vo1.lt Y3) (Nat.le_of_eq g4.symm))
 have ne_rW_b4 : rW ≠ b4 := Nat.ne_of_lt (Nat.lt_of_lt_of_le (Nat.lt_of_lt_of_le Vw1.lt Y3) (Nat.le_of_eq g4.symm))
 have ne_rS_b4 : rS ≠ b4 := Nat.ne_of_lt (Nat.lt_of_lt_of_le (Nat.lt_of_lt_of_le SP.lt Y3) (Nat.le_of_eq g4.symm))
 have ne_b3_b4 : b3 ≠ b4 := Nat.ne_of_lt (Nat.lt_of_lt_of_le V_b3.lt (Nat.le_of_eq g4.symm))
 have g_b4 : n0 ≤ b4 := Nat.le_trans (Nat.le_trans Z0 Y3) (Nat.le_of_eq g4.symm)
 have S4 : own_StK Z h0 h4 := S3.ext E4
 have Y4 : h0.size ≤ h4.size := Nat.le_trans Y3 E4.1
 refine sG C X4 d11_37 44 ?_
 refine wa C X4 #[oR a11_0, oI 8, oI 1, oR b3, oR b4, oU, oU, oU] d11_44 ?_
 refine sI C X4 d11_46 ?_
 refine bN C X4 d11_47 ((if0 _ _).trans (feq (by decide : ¬ ((1 : Int32) = (0 : Int32)))).1) ?_
 refine sI C X4 d11_50 ?_
 have f5 := (V_b3.ext E4)
 refine nP C X4 e4 (n := (8 : Int32)) 8 [oZ, oZ, oZ, oZ, oZ, oZ, oZ, oZ] (ow16 C.w) d11_51 fun T6 h6 k6 b6 g6 X6 e6 E6 V_b6 => ?_
 have ne_a11_0_b6 : a11_0 ≠ b6 := Nat.ne_of_lt (Nat.lt_of_lt_of_le (Nat.lt_of_lt_of_le Ea1.lt Y4) (Nat.le_of_eq g6.symm))
 have ne_rE_b6 : rE ≠ b6 := Nat.ne_of_lt (Nat.lt_of_lt_of_le (Nat.lt_of_lt_of_le Ee1.lt Y4) (Nat.le_of_eq g6.symm))
 have ne_rT_b6 : rT ≠ b6 := Nat.ne_of_lt (Nat.lt_of_lt_of_le (Nat.lt_of_lt_of_le Vt1.lt Y4) (Nat.le_of_eq g6.symm))
 have ne_rF_b6 : rF ≠ b6 := Nat.ne_of_lt (Nat.lt_of_lt_of_le (Nat.lt_of_lt_of_le Vf1.lt Y4) (Nat.le_of_eq g6.symm))
 have ne_rO_b6 : rO ≠ b6 := Nat.ne_of_lt (Nat.lt_of_lt_of_le (Nat.lt_of_lt_of_le Vo1.lt Y4) (Nat.le_of_eq g6.symm))
 have ne_rW_b6 : rW ≠ b6 := Nat.ne_of_lt (Nat.lt_of_lt_of_le (Nat.lt_of_lt_of_le Vw1.lt Y4) (Nat.le_of_eq g6.symm))
 have ne_rS_b6 : rS ≠ b6 := Nat.ne_of_lt (Nat.lt_of_lt_of_le (Nat.lt_of_lt_of_le SP.lt Y4) (Nat.le_of_eq g6.symm))
 have ne_b3_b6 : b3 ≠ b6 := Nat.ne_of_lt (Nat.lt_of_lt_of_le f5.lt (Nat.le_of_eq g6.symm))
 have ne_b4_b6 : b4 ≠ b6 := Nat.ne_of_lt (Nat.lt_of_lt_of_le V_b4.lt (Nat.le_of_eq g6.symm))
 have g_b6 : n0 ≤ b6 := Nat.le_trans (Nat.le_trans Z0 Y4) (Nat.le_of_eq g6.symm)
 have S6 : own_StK Z h0 h6 := S4.ext E6
 have Y6 : h0.size ≤ h6.size := Nat.le_trans Y4 E6.1
 refine sG C X6 d11_53 60 ?_
 refine wa C X6 #[oR a11_0, oI 8, oI 1, oR b3, oR b4, oR b6, oU, oU] d11_60 ?_
 refine sC C X6 d11_62 ?_
 refine wi C X6 #[oR a11_0, oI 8, oI 1, oR b3, oR b4, oR b6, oI 0, oU] d11_63 ?_
 have f7 := (((Fentries1.ext E3).ext E4).ext E6)
 refine gA C X6 e6 f7 (ow46 C.w) d11_65 d11_66 fun T8 X8 e8 => ?_
 have f9 := (((Ffirst1.ext E3).ext E4).ext E6)
 refine gA C X8 e8 f9 (ow74 C.w) d11_69 d11_70 fun T10 X10 e10 => ?_
 have f11 := (((Vw1.ext E3).ext E4).ext E6)
 have f12 := (((Ee1.ext E3).ext E4).ext E6)
 have f13 := (((BwordsInUse1.ext E3).ext E4).ext E6)
 have f14 := (((BsizeIsSticky1.ext E3).ext E4).ext E6)
 have f15 := (((Bwords1.ext E3).ext E4).ext E6)
 refine cV C X10 e10 (rm12_2 l Z a0 C.w rE (0 : Int32) rW kW (3 : Int64) h6 n0 (Nat.le_trans Z0 Y6) (by decide +kernel) (by decide +kernel) f12 f13 f14 f15 f11 (S6 _ _ _ _ St1)) f12 (W := 0) (ow76 C.w) (ow77 C.w) (ow79 C.w) (ow78 C.w) (ow80 C.w) (ow27 C.w) (argsL := [(.int (0 : Int32))]) (lenOf pd__I_I rfl) d11_73 fun v16 T16 lo16 X16 hQ16 => ?_
 obtain ⟨rfl, Nq16, e16⟩ := hQ16
 rw [show (own_nsb (0 : Int32) (3 : Int64)) = (0 : Int32) from by decide +kernel]
 refine wi C X16 #[oR a11_0, oI 8, oI 1, oR b3, oR b4, oR b6, oI 0, oI 0] d11_76 ?_
 refine si C X16 d11_78 ?_
 refine bN C X16 d11_80 ((if0 _ _).trans (flt (by decide : ¬ ((0 : Int32) < (0 : Int32)))).1) ?_
 refine sA C X16 d11_83 ?_
 refine si C X16 d11_84 ?_
 have f18 := (((Ftimes1.ext E3).ext E4).ext E6)
 refine gA C X16 e16 f18 (ow17 C.w) d11_86 d11_87 fun T19 X19 e19 => ?_
 refine si C X19 d11_90 ?_
 have f20 := (((Vt1.ext E3).ext E4).ext E6)
 refine lA C X19 e19 f20 d11_92 ?_
 have f21 := (f5.ext E6)
 refine sJ C X19 e19 (N0.app Nq16) g_b3 f21 _ d11_93 fun T22 h22 lo22 X22 e22 N22 W22 V22 => ?_
 have S22 : own_StK Z h0 h22 := S6.wr W22
 have Y22 : h0.size ≤ h22.size := Nat.le_trans Y6 (Nat.le_of_eq W22.size.symm)
 refine sa C X22 d11_94 ?_
 refine si C X22 d11_96 ?_
 have f23 := ((((Ffroms1.ext E3).ext E4).ext E6).other W22 (Or.inl ne_a11_0_b3))
 refine gA C X22 e22 f23 (ow19 C.w) d11_98 d11_99 fun T24 X24 e24 => ?_
 refine si C X24 d11_102 ?_
 have f25 := ((((Vf1.ext E3).ext E4).ext E6).other W22 ne_rF_b3)
 refine lA C X24 e24 f25 d11_104 ?_
 have f26 := ((V_b4.ext E6).other W22 (Ne.symm ne_b3_b4))
 refine sJ C X24 e24 N22 g_b4 f26 _ d11_105 fun T27 h27 lo27 X27 e27 N27 W27 V27 => ?_
 have S27 : own_StK Z h0 h27 := S22.wr W27
 have Y27 : h0.size ≤ h27.size := Nat.le_trans Y22 (Nat.le_of_eq W27.size.symm)
 refine sa C X27 d11_106 ?_
 refine si C X27 d11_108 ?_
 have f28 := (((((Ftotals1.ext E3).ext E4).ext E6).other W22 (Or.inl ne_a11_0_b3)).other W27 (Or.inl ne_a11_0_b4))
 refine gA C X27 e27 f28 (ow21 C.w) d11_110 d11_111 fun T29 X29 e29 => ?_
 refine si C X29 d11_114 ?_
 have f30 := (((((Vo1.ext E3).ext E4).ext E6).other W22 ne_rO_b3).other W27 ne_rO_b4)
 refine lA C X29 e29 f30 d11_116 ?_
 have f31 := ((V_b6.other W22 (Ne.symm ne_b3_b6)).other W27 (Ne.symm ne_b4_b6))
 refine sJ C X29 e29 N27 g_b6 f31 _ d11_117 fun T32 h32 lo32 X32 e32 N32 W32 V32 => ?_
 have S32 : own_StK Z h0 h32 := S27.wr W32
 have Y32 : h0.size ≤ h32.size := Nat.le_trans Y27 (Nat.le_of_eq W32.size.symm)
 refine wc C X32 #[oR a11_0, oI 8, oI 1, oR b3, oR b4, oR b6, oI 1, oI 0] d11_118 ?_
 have f33 := (((f7.other W22 (Or.inl ne_a11_0_b3)).other W27 (Or.inl ne_a11_0_b4)).other W32 (Or.inl ne_a11_0_b6))
 refine gA C X32 e32 f33 (ow46 C.w) d11_121 d11_122 fun T34 X34 e34 => ?_
 refine si C X34 d11_125 ?_
 refine sC C X34 d11_127 ?_
 refine sP C X34 d11_128 ?_
 have f35 := (((f11.other W22 ne_rW_b3).other W27 ne_rW_b4).other W32 ne_rW_b6)
 have f36 := (((f12.wr W22).wr W27).wr W32)
 have f37 := (((f13.other W22 (Or.inl ne_rE_b3)).other W27 (Or.inl ne_rE_b4)).other W32 (Or.inl ne_rE_b6))
 have f38 := (((f14.other W22 (Or.inl ne_rE_b3)).other W27 (Or.inl ne_rE_b4)).other W32 (Or.inl ne_rE_b6))
 have f39 := (((f15.other W22 (Or.inl ne_rE_b3)).other W27 (Or.inl ne_rE_b4)).other W32 (Or.inl ne_rE_b6))
 refine cV C X34 e34 (rm12_2 l Z a0 C.w rE (1 : Int32) rW kW (3 : Int64) h32 n0 (Nat.le_trans Z0 Y32) (by decide +kernel) (by decide +kernel) f36 f37 f38 f39 f35 (S32 _ _ _ _ St1)) f36 (W := 0) (ow76 C.w) (ow77 C.w) (ow79 C.w) (ow78 C.w) (ow80 C.w) (ow27 C.w) (argsL := [(.int (1 : Int32))]) (lenOf pd__I_I rfl) d11_129 fun v40 T40 lo40 X40 hQ40 => ?_
 obtain ⟨rfl, Nq40, e40⟩ := hQ40
 rw [show (own_nsb (1 : Int32) (3 : Int64)) = (1 : Int32) from by decide +kernel]
 refine wi C X40 #[oR a11_0, oI 8, oI 1, oR b3, oR b4, oR b6, oI 1, oI 1] d11_132 ?_
 refine sG C X40 d11_134 78 ?_
 refine si C X40 d11_78 ?_
 refine bN C X40 d11_80 ((if0 _ _).trans (flt (by decide : ¬ ((1 : Int32) < (0 : Int32)))).1) ?_
 refine sA C X40 d11_83 ?_
 refine si C X40 d11_84 ?_
 have f42 := (((f18.other W22 (Or.inl ne_a11_0_b3)).other W27 (Or.inl ne_a11_0_b4)).other W32 (Or.inl ne_a11_0_b6))
 refine gA C X40 e40 f42 (ow17 C.w) d11_86 d11_87 fun T43 X43 e43 => ?_
 refine si C X43 d11_90 ?_
 have f44 := (((f20.other W22 ne_rT_b3).other W27 ne_rT_b4).other W32 ne_rT_b6)
 refine lA C X43 e43 f44 d11_92 ?_
 have f45 := ((V22.other W27 ne_b3_b4).other W32 ne_b3_b6)
 refine sJ C X43 e43 (N32.app Nq40) g_b3 f45 _ d11_93 fun T46 h46 lo46 X46 e46 N46 W46 V46 => ?_
 have S46 : own_StK Z h0 h46 := S32.wr W46
 have Y46 : h0.size ≤ h46.size := Nat.le_trans Y32 (Nat.le_of_eq W46.size.symm)
 refine sa C X46 d11_94 ?_
 refine si C X46 d11_96 ?_
 have f47 := (((f23.other W27 (Or.inl ne_a11_0_b4)).other W32 (Or.inl ne_a11_0_b6)).other W46 (Or.inl ne_a11_0_b3))
 refine gA C X46 e46 f47 (ow19 C.w) d11_98 d11_99 fun T48 X48 e48 => ?_
 refine si C X48 d11_102 ?_
 have f49 := (((f25.other W27 ne_rF_b4).other W32 ne_rF_b6).other W46 ne_rF_b3)
 refine lA C X48 e48 f49 d11_104 ?_
 have f50 := ((V27.other W32 ne_b4_b6).other W46 (Ne.symm ne_b3_b4))
 refine sJ C X48 e48 N46 g_b4 f50 _ d11_105 fun T51 h51 lo51 X51 e51 N51 W51 V51 => ?_
 have S51 : own_StK Z h0 h51 := S46.wr W51
 have Y51 : h0.size ≤ h51.size := Nat.le_trans Y46 (Nat.le_of_eq W51.size.symm)
 refine sa C X51 d11_106 ?_
 refine si C X51 d11_108 ?_
 have f52 := (((f28.other W32 (Or.inl ne_a11_0_b6)).other W46 (Or.inl ne_a11_0_b3)).other W51 (Or.inl ne_a11_0_b4))
 refine gA C X51 e51 f52 (ow21 C.w) d11_110 d11_111 fun T53 X53 e53 => ?_
 refine si C X53 d11_114 ?_
 have f54 := (((f30.other W32 ne_rO_b6).other W46 ne_rO_b3).other W51 ne_rO_b4)
 refine lA C X53 e53 f54 d11_116 ?_
 have f55 := ((V32.other W46 (Ne.symm ne_b3_b6)).other W51 (Ne.symm ne_b4_b6))
 refine sJ C X53 e53 N51 g_b6 f55 _ d11_117 fun T56 h56 lo56 X56 e56 N56 W56 V56 => ?_
 have S56 : own_StK Z h0 h56 := S51.wr W56
 have Y56 : h0.size ≤ h56.size := Nat.le_trans Y51 (Nat.le_of_eq W56.size.symm)
 refine wc C X56 #[oR a11_0, oI 8, oI 1, oR b3, oR b4, oR b6, oI 2, oI 1] d11_118 ?_
 have f57 := (((f33.other W46 (Or.inl ne_a11_0_b3)).other W51 (Or.inl ne_a11_0_b4)).other W56 (Or.inl ne_a11_0_b6))
 refine gA C X56 e56 f57 (ow46 C.w) d11_121 d11_122 fun T58 X58 e58 => ?_
 refine si C X58 d11_125 ?_
 refine sC C X58 d11_127 ?_
 refine sP C X58 d11_128 ?_
 have f59 := (((f35.other W46 ne_rW_b3).other W51 ne_rW_b4).other W56 ne_rW_b6)
 have f60 := (((f36.wr W46).wr W51).wr W56)
 have f61 := (((f37.other W46 (Or.inl ne_rE_b3)).other W51 (Or.inl ne_rE_b4)).other W56 (Or.inl ne_rE_b6))
 have f62 := (((f38.other W46 (Or.inl ne_rE_b3)).other W51 (Or.inl ne_rE_b4)).other W56 (Or.inl ne_rE_b6))
 have f63 := (((f39.other W46 (Or.inl ne_rE_b3)).other W51 (Or.inl ne_rE_b4)).other W56 (Or.inl ne_rE_b6))
 refine cV C X58 e58 (rm12_2 l Z a0 C.w rE (2 : Int32) rW kW (3 : Int64) h56 n0 (Nat.le_trans Z0 Y56) (by decide +kernel) (by decide +kernel) f60 f61 f62 f63 f59 (S56 _ _ _ _ St1)) f60 (W := 0) (ow76 C.w) (ow77 C.w) (ow79 C.w) (ow78 C.w) (ow80 C.w) (ow27 C.w) (argsL := [(.int (2 : Int32))]) (lenOf pd__I_I rfl) d11_129 fun v64 T64 lo64 X64 hQ64 => ?_
 obtain ⟨rfl, Nq64, e64⟩ := hQ64
 rw [show (own_nsb (2 : Int32) (3 : Int64)) = (-1 : Int32) from by decide +kernel]
 refine wi C X64 #[oR a11_0, oI 8, oI 1, oR b3, oR b4, oR b6, oI 2, oI (-1)] d11_132 ?_
 refine sG C X64 d11_134 78 ?_
 refine si C X64 d11_78 ?_
 refine bY C X64 d11_80 137 ((if0 _ _).trans (tlt (by decide : (-1 : Int32) < (0 : Int32))).1) ?_
 refine sA C X64 d11_137 ?_
 refine sA C X64 d11_138 ?_
 have f66 := (((((((((Ea1.ext E3).ext E4).ext E6).wr W22).wr W27).wr W32).wr W46).wr W51).wr W56)
 have f67 := (((f42.other W46 (Or.inl ne_a11_0_b3)).other W51 (Or.inl ne_a11_0_b4)).other W56 (Or.inl ne_a11_0_b6))
 refine pF C X64 e64 (N56.app Nq64) g0_1 f67 f66 (ty := (.array .long)) (ow17 C.w) (ow18 C.w) (ow8 C.w) (by decide) d11_139 fun T68 h68 lo68 X68 e68 N68 W68 F68 => ?_
 have S68 : own_StK Z h0 h68 := S56.wr W68
 have Y68 : h0.size ≤ h68.size := Nat.le_trans Y56 (Nat.le_of_eq W68.size.symm)
 refine sA C X68 d11_142 ?_
 refine sa C X68 d11_143 ?_
 have f69 := (f66.wr W68)
 have f70 := (((f47.other W51 (Or.inl ne_a11_0_b4)).other W56 (Or.inl ne_a11_0_b6)).other W68 (Or.inr (slot_ne (Or.inl (ow20 hw)) (Or.inl (ow18 hw)) (by decide) (t := (.array .long)) (t' := (.array .long)) (by decide) (by decide))))
 refine pF C X68 e68 N68 g0_1 f70 f69 (ty := (.array .long)) (ow19 C.w) (ow20 C.w) (ow8 C.w) (by decide) d11_145 fun T71 h71 lo71 X71 e71 N71 W71 F71 => ?_
 have S71 : own_StK Z h0 h71 := S68.wr W71
 have Y71 : h0.size ≤ h71.size := Nat.le_trans Y68 (Nat.le_of_eq W71.size.symm)
 refine sA C X71 d11_148 ?_
 refine sa C X71 d11_149 ?_
 have f72 := (f69.wr W71)
 have f73 := (((f52.other W56 (Or.inl ne_a11_0_b6)).other W68 (Or.inr (slot_ne (Or.inl (ow22 hw)) (Or.inl (ow18 hw)) (by decide) (t := (.array .long)) (t' := (.array .long)) (by decide) (by decide)))).other W71 (Or.inr (slot_ne (Or.inl (ow22 hw)) (Or.inl (ow20 hw)) (by decide) (t := (.array .long)) (t' := (.array .long)) (by decide) (by decide))))
 refine pF C X71 e71 N71 g0_1 f73 f72 (ty := (.array .long)) (ow21 C.w) (ow22 C.w) (ow8 C.w) (by decide) d11_151 fun T74 h74 lo74 X74 e74 N74 W74 F74 => ?_
 have S74 : own_StK Z h0 h74 := S71.wr W74
 have Y74 : h0.size ≤ h74.size := Nat.le_trans Y71 (Nat.le_of_eq W74.size.symm)
 refine sI C X74 d11_154 ?_
 refine bN C X74 d11_155 ((if0 _ _).trans (feq (by decide : ¬ ((1 : Int32) = (0 : Int32)))).1) ?_
 refine sA C X74 d11_158 ?_
 have f75 := (((((V46.other W51 ne_b3_b4).other W56 ne_b3_b6).other W68 (Ne.symm ne_a11_0_b3)).other W71 (Ne.symm ne_a11_0_b3)).other W74 (Ne.symm ne_a11_0_b3))
 have f76 := ((((V51.other W56 ne_b4_b6).other W68 (Ne.symm ne_a11_0_b4)).other W71 (Ne.symm ne_a11_0_b4)).other W74 (Ne.symm ne_a11_0_b4))
 have f77 := (((V56.other W68 (Ne.symm ne_a11_0_b6)).other W71 (Ne.symm ne_a11_0_b6)).other W74 (Ne.symm ne_a11_0_b6))
 refine nO C X74 e74 (ow25 C.w) (ow26 C.w) (ow27 C.w) d11_159 fun T78 h78 b78 g78 X78 e78 E78 A78 D78 => ?_
 have ne_a11_0_b78 : a11_0 ≠ b78 := Nat.ne_of_lt (Nat.lt_of_lt_of_le (Nat.lt_of_lt_of_le Ea1.lt Y74) (Nat.le_of_eq g78.symm))
 have ne_rE_b78 : rE ≠ b78 := Nat.ne_of_lt (Nat.lt_of_lt_of_le (Nat.lt_of_lt_of_le Ee1.lt Y74) (Nat.le_of_eq g78.symm))
 have ne_rT_b78 : rT ≠ b78 := Nat.ne_of_lt (Nat.lt_of_lt_of_le (Nat.lt_of_lt_of_le Vt1.lt Y74) (Nat.le_of_eq g78.symm))
 have ne_rF_b78 : rF ≠ b78 := Nat.ne_of_lt (Nat.lt_of_lt_of_le (Nat.lt_of_lt_of_le Vf1.lt Y74) (Nat.le_of_eq g78.symm))
 have ne_rO_b78 : rO ≠ b78 := Nat.ne_of_lt (Nat.lt_of_lt_of_le (Nat.lt_of_lt_of_le Vo1.lt Y74) (Nat.le_of_eq g78.symm))
 have ne_rW_b78 : rW ≠ b78 := Nat.ne_of_lt (Nat.lt_of_lt_of_le (Nat.lt_of_lt_of_le Vw1.lt Y74) (Nat.le_of_eq g78.symm))
 have ne_rS_b78 : rS ≠ b78 := Nat.ne_of_lt (Nat.lt_of_lt_of_le (Nat.lt_of_lt_of_le SP.lt Y74) (Nat.le_of_eq g78.symm))
 have ne_b3_b78 : b3 ≠ b78 := Nat.ne_of_lt (Nat.lt_of_lt_of_le f75.lt (Nat.le_of_eq g78.symm))
 have ne_b4_b78 : b4 ≠ b78 := Nat.ne_of_lt (Nat.lt_of_lt_of_le f76.lt (Nat.le_of_eq g78.symm))
 have ne_b6_b78 : b6 ≠ b78 := Nat.ne_of_lt (Nat.lt_of_lt_of_le f77.lt (Nat.le_of_eq g78.symm))
 have F_wordsInUse_b78 : Fld Z h78 b78 oB "wordsInUse" "I" (.int (0 : Int32)) := D78 (Or.inl (ow33 hw)) (ty := .int) (by decide)
 have F_sizeIsSticky_b78 : Fld Z h78 b78 oB "sizeIsSticky" "Z" (.int (0 : Int32)) := D78 (Or.inl (ow35 hw)) (ty := .boolean) (by decide)
 have F_words_b78 : Fld Z h78 b78 oB "words" "[J" .null := D78 (Or.inl (ow45 hw)) (ty := (.array .long)) (by decide)
 have g_b78 : n0 ≤ b78 := Nat.le_trans (Nat.le_trans Z0 Y74) (Nat.le_of_eq g78.symm)
 have S78 : own_StK Z h0 h78 := S74.ext E78
 have Y78 : h0.size ≤ h78.size := Nat.le_trans Y74 E78.1
 refine sD C X78 d11_162 ?_
 refine sI C X78 d11_163 ?_
 have f80 := ((f72.wr W74).ext E78)
 have f81 := ((((f60.wr W68).wr W71).wr W74).ext E78)
 have f82 := (((((((f44.other W46 ne_rT_b3).other W51 ne_rT_b4).other W56 ne_rT_b6).other W68 (Ne.symm n0_1)).other W71 (Ne.symm n0_1)).other W74 (Ne.symm n0_1)).ext E78)
 have f83 := ((((((f49.other W51 ne_rF_b4).other W56 ne_rF_b6).other W68 (Ne.symm n1_1)).other W71 (Ne.symm n1_1)).other W74 (Ne.symm n1_1)).ext E78)
 have f84 := (((((f54.other W56 ne_rO_b6).other W68 (Ne.symm n2_1)).other W71 (Ne.symm n2_1)).other W74 (Ne.symm n2_1)).ext E78)
 have f85 := ((((f59.other W68 (Ne.symm n5_1)).other W71 (Ne.symm n5_1)).other W74 (Ne.symm n5_1)).ext E78)
 have f86 := (((((((((((((SP.ext E3).ext E4).ext E6).other W22 ne_rS_b3).other W27 ne_rS_b4).other W32 ne_rS_b6).other W46 ne_rS_b3).other W51 ne_rS_b4).other W56 ne_rS_b6).other W68 (Ne.symm n3_1)).other W71 (Ne.symm n3_1)).other W74 (Ne.symm n3_1)).ext E78)
 have f87 := (f75.ext E78)
 have f88 := (f76.ext E78)
 have f89 := (f77.ext E78)
 refine cI C X78 e78 (rm14_2 l Z a0 C.w b78 h78 n0 (Nat.le_trans Z0 Y78) A78 F_wordsInUse_b78 F_sizeIsSticky_b78 F_words_b78 g_b78) (W := 2) (ow87 C.w) (ow88 C.w) (ow89 C.w) (ow27 C.w) (argsL := [(.int (8 : Int32))]) (lenOf pd__I_V rfl) d11_164 fun v79 T79 lo79 X79 hQ79 => ?_
 obtain ⟨bx14_0_79, kx14_0_79, rfl, Nq79, Kc79, Sc79, P79_0, P79_1, P79_2, P79_3, P79_4, P79_5⟩ := hQ79
 have S79 : own_StK Z h0 T79.heap := S78.tr Sc79
 have Y79 : h0.size ≤ T79.heap.size := Nat.le_trans Y78 Kc79.1
 have g_bx14_0_79 : n0 ≤ bx14_0_79 := Nat.le_trans (Nat.le_trans Z0 Y78) P79_0
 have ne_a11_0_bx14_0_79 : a11_0 ≠ bx14_0_79 := Nat.ne_of_lt (Nat.lt_of_lt_of_le f80.lt P79_0)
 have ne_rE_bx14_0_79 : rE ≠ bx14_0_79 := Nat.ne_of_lt (Nat.lt_of_lt_of_le f81.lt P79_0)
 have ne_rT_bx14_0_79 : rT ≠ bx14_0_79 := Nat.ne_of_lt (Nat.lt_of_lt_of_le f82.lt P79_0)
 have ne_rF_bx14_0_79 : rF ≠ bx14_0_79 := Nat.ne_of_lt (Nat.lt_of_lt_of_le f83.lt P79_0)
 have ne_rO_bx14_0_79 : rO ≠ bx14_0_79 := Nat.ne_of_lt (Nat.lt_of_lt_of_le f84.lt P79_0)
 have ne_rW_bx14_0_79 : rW ≠ bx14_0_79 := Nat.ne_of_lt (Nat.lt_of_lt_of_le f85.lt P79_0)
 have ne_rS_bx14_0_79 : rS ≠ bx14_0_79 := Nat.ne_of_lt (Nat.lt_of_lt_of_le f86.lt P79_0)
 have ne_b3_bx14_0_79 : b3 ≠ bx14_0_79 := Nat.ne_of_lt (Nat.lt_of_lt_of_le f87.lt P79_0)
 have ne_b4_bx14_0_79 : b4 ≠ bx14_0_79 := Nat.ne_of_lt (Nat.lt_of_lt_of_le f88.lt P79_0)
 have ne_b6_bx14_0_79 : b6 ≠ bx14_0_79 := Nat.ne_of_lt (Nat.lt_of_lt_of_le f89.lt P79_0)
 have ne_b78_bx14_0_79 : b78 ≠ bx14_0_79 := Nat.ne_of_lt (Nat.lt_of_lt_of_le A78.lt P79_0)
 have f90 := (f80.keep Kc79)
 have f91 := (((((f57.other W68 (Or.inr (slot_ne (Or.inl (ow47 hw)) (Or.inl (ow18 hw)) (by decide) (t := (.object oB)) (t' := (.array .long)) (by decide) (by decide)))).other W71 (Or.inr (slot_ne (Or.inl (ow47 hw)) (Or.inl (ow20 hw)) (by decide) (t := (.object oB)) (t' := (.array .long)) (by decide) (by decide)))).other W74 (Or.inr (slot_ne (Or.inl (ow47 hw)) (Or.inl (ow22 hw)) (by decide) (t := (.object oB)) (t' := (.array .long)) (by decide) (by decide)))).ext E78).keep Kc79 (ninS ne_a11_0_b78 nin0))
 refine pF C X79 rfl (N74.app Nq79) g0_1 f91 f90 (ty := (.object oB)) (ow46 C.w) (ow47 C.w) (ow8 C.w) (by decide) d11_167 fun T92 h92 lo92 X92 e92 N92 W92 F92 => ?_
 have S92 : own_StK Z h0 h92 := S79.wr W92
 have Y92 : h0.size ≤ h92.size := Nat.le_trans Y79 (Nat.le_of_eq W92.size.symm)
 refine sA C X92 d11_170 ?_
 refine sC C X92 d11_171 ?_
 refine sI C X92 d11_172 ?_
 refine sM C X92 d11_173 ?_
 have f93 := ((f87.keep Kc79 (ninS ne_b3_b78 nin0)).other W92 (Ne.symm ne_a11_0_b3))
 have f94 := ((f88.keep Kc79 (ninS ne_b4_b78 nin0)).other W92 (Ne.symm ne_a11_0_b4))
 have f95 := ((f89.keep Kc79 (ninS ne_b6_b78 nin0)).other W92 (Ne.symm ne_a11_0_b6))
 have f96 := (P79_1.wr W92)
 have f97 := (P79_5.other W92 (Ne.symm ne_a11_0_bx14_0_79))
 refine nP C X92 e92 (n := (16 : Int32)) 16 [oZ, oZ, oZ, oZ, oZ, oZ, oZ, oZ, oZ, oZ, oZ, oZ, oZ, oZ, oZ, oZ] (ow16 C.w) d11_174 fun T98 h98 k98 b98 g98 X98 e98 E98 V_b98 => ?_
 have ne_a11_0_b98 : a11_0 ≠ b98 := Nat.ne_of_lt (Nat.lt_of_lt_of_le (Nat.lt_of_lt_of_le Ea1.lt Y92) (Nat.le_of_eq g98.symm))
 have ne_rE_b98 : rE ≠ b98 := Nat.ne_of_lt (Nat.lt_of_lt_of_le (Nat.lt_of_lt_of_le Ee1.lt Y92) (Nat.le_of_eq g98.symm))
 have ne_rT_b98 : rT ≠ b98 := Nat.ne_of_lt (Nat.lt_of_lt_of_le (Nat.lt_of_lt_of_le Vt1.lt Y92) (Nat.le_of_eq g98.symm))
 have ne_rF_b98 : rF ≠ b98 := Nat.ne_of_lt (Nat.lt_of_lt_of_le (Nat.lt_of_lt_of_le Vf1.lt Y92) (Nat.le_of_eq g98.symm))
 have ne_rO_b98 : rO ≠ b98 := Nat.ne_of_lt (Nat.lt_of_lt_of_le (Nat.lt_of_lt_of_le Vo1.lt Y92) (Nat.le_of_eq g98.symm))
 have ne_rW_b98 : rW ≠ b98 := Nat.ne_of_lt (Nat.lt_of_lt_of_le (Nat.lt_of_lt_of_le Vw1.lt Y92) (Nat.le_of_eq g98.symm))
 have ne_rS_b98 : rS ≠ b98 := Nat.ne_of_lt (Nat.lt_of_lt_of_le (Nat.lt_of_lt_of_le SP.lt Y92) (Nat.le_of_eq g98.symm))
 have ne_b3_b98 : b3 ≠ b98 := Nat.ne_of_lt (Nat.lt_of_lt_of_le f93.lt (Nat.le_of_eq g98.symm))
 have ne_b4_b98 : b4 ≠ b98 := Nat.ne_of_lt (Nat.lt_of_lt_of_le f94.lt (Nat.le_of_eq g98.symm))
 have ne_b6_b98 : b6 ≠ b98 := Nat.ne_of_lt (Nat.lt_of_lt_of_le f95.lt (Nat.le_of_eq g98.symm))
 have ne_b78_b98 : b78 ≠ b98 := Nat.ne_of_lt (Nat.lt_of_lt_of_le f96.lt (Nat.le_of_eq g98.symm))
 have ne_bx14_0_79_b98 : bx14_0_79 ≠ b98 := Nat.ne_of_lt (Nat.lt_of_lt_of_le f97.lt (Nat.le_of_eq g98.symm))
 have g_b98 : n0 ≤ b98 := Nat.le_trans (Nat.le_trans Z0 Y92) (Nat.le_of_eq g98.symm)
 have S98 : own_StK Z h0 h98 := S92.ext E98
 have Y98 : h0.size ≤ h98.size := Nat.le_trans Y92 E98.1
 have f99 := ((f90.wr W92).ext E98)
 have f100 := ((((((((((((((((Fspans1.ext E3).ext E4).ext E6).other W22 (Or.inl ne_a11_0_b3)).other W27 (Or.inl ne_a11_0_b4)).other W32 (Or.inl ne_a11_0_b6)).other W46 (Or.inl ne_a11_0_b3)).other W51 (Or.inl ne_a11_0_b4)).other W56 (Or.inl ne_a11_0_b6)).other W68 (Or.inr (slot_ne (Or.inl (ow24 hw)) (Or.inl (ow18 hw)) (by decide) (t := (.array .long)) (t' := (.array .long)) (by decide) (by decide)))).other W71 (Or.inr (slot_ne (Or.inl (ow24 hw)) (Or.inl (ow20 hw)) (by decide) (t := (.array .long)) (t' := (.array .long)) (by decide) (by decide)))).other W74 (Or.inr (slot_ne (Or.inl (ow24 hw)) (Or.inl (ow22 hw)) (by decide) (t := (.array .long)) (t' := (.array .long)) (by decide) (by decide)))).ext E78).keep Kc79 (ninS ne_a11_0_b78 nin0)).other W92 (Or.inr (slot_ne (Or.inl (ow24 hw)) (Or.inl (ow47 hw)) (by decide) (t := (.array .long)) (t' := (.object oB)) (by decide) (by decide)))).ext E98)
 refine pF C X98 e98 N92 g0_1 f100 f99 (ty := (.array .long)) (ow23 C.w) (ow24 C.w) (ow8 C.w) (by decide) d11_176 fun T101 h101 lo101 X101 e101 N101 W101 F101 => ?_
 have S101 : own_StK Z h0 h101 := S98.wr W101
 have Y101 : h0.size ≤ h101.size := Nat.le_trans Y98 (Nat.le_of_eq W101.size.symm)
 refine sG C X101 d11_179 189 ?_
 have f102 := ((F92.ext E98).other W101 (Or.inr (slot_ne (Or.inl (ow47 hw)) (Or.inl (ow24 hw)) (by decide) (t := (.object oB)) (t' := (.array .long)) (by decide) (by decide))))
 refine gA C X101 e101 f102 (ow46 C.w) d11_189 d11_190 fun T103 X103 e103 => ?_
 refine sC C X103 d11_193 ?_
 have f104 := (((((((((((((((((Fsize1.ext E3).ext E4).ext E6).other W22 (Or.inl ne_a11_0_b3)).other W27 (Or.inl ne_a11_0_b4)).other W32 (Or.inl ne_a11_0_b6)).other W46 (Or.inl ne_a11_0_b3)).other W51 (Or.inl ne_a11_0_b4)).other W56 (Or.inl ne_a11_0_b6)).other W68 (Or.inr (slot_ne (Or.inl (ow54 hw)) (Or.inl (ow18 hw)) (by decide) (t := .int) (t' := (.array .long)) (by decide) (by decide)))).other W71 (Or.inr (slot_ne (Or.inl (ow54 hw)) (Or.inl (ow20 hw)) (by decide) (t := .int) (t' := (.array .long)) (by decide) (by decide)))).other W74 (Or.inr (slot_ne (Or.inl (ow54 hw)) (Or.inl (ow22 hw)) (by decide) (t := .int) (t' := (.array .long)) (by decide) (by decide)))).ext E78).keep Kc79 (ninS ne_a11_0_b78 nin0)).other W92 (Or.inr (slot_ne (Or.inl (ow54 hw)) (Or.inl (ow47 hw)) (by decide) (t := .int) (t' := (.object oB)) (by decide) (by decide)))).ext E98).other W101 (Or.inr (slot_ne (Or.inl (ow54 hw)) (Or.inl (ow24 hw)) (by decide) (t := .int) (t' := (.array .long)) (by decide) (by decide))))
 refine gA C X103 e103 f104 (ow53 C.w) d11_194 d11_195 fun T105 X105 e105 => ?_
 have f106 := ((f97.ext E98).other W101 (Ne.symm ne_a11_0_bx14_0_79))
 have f107 := ((f96.ext E98).wr W101)
 have f108 := (((P79_2.other W92 (Or.inl (Ne.symm ne_a11_0_b78))).ext E98).other W101 (Or.inl (Ne.symm ne_a11_0_b78)))
 have f109 := (((P79_3.other W92 (Or.inl (Ne.symm ne_a11_0_b78))).ext E98).other W101 (Or.inl (Ne.symm ne_a11_0_b78)))
 have f110 := (((P79_4.other W92 (Or.inl (Ne.symm ne_a11_0_b78))).ext E98).other W101 (Or.inl (Ne.symm ne_a11_0_b78)))
 refine cV C X105 e105 (rm15_2 l Z a0 C.w b78 bx14_0_79 kx14_0_79 (0 : Int64) h101 n0 (Nat.le_trans Z0 Y101) f107 f108 f109 f110 f106 g_b78 (Ne.symm ne_b78_bx14_0_79) g_bx14_0_79 (S101 _ _ _ _ St1)) f107 (W := 0) (ow90 C.w) (ow91 C.w) (ow93 C.w) (ow92 C.w) (ow94 C.w) (ow27 C.w) (argsL := [(.int (0 : Int32)), (.int (2 : Int32))]) (lenOf pd__II_V rfl) d11_198 fun v111 T111 lo111 X111 hQ111 => ?_
 obtain ⟨rfl, Nq111, Kc111, Sc111, P111_0, P111_1, P111_2, P111_3, P111_4⟩ := hQ111
 have S111 : own_StK Z h0 T111.heap := S101.tr Sc111
 have Y111 : h0.size ≤ T111.heap.size := Nat.le_trans Y101 Kc111.1
 rw [show ((0 : Int64) ||| (3 : Int64)) = (3 : Int64) from by decide +kernel] at P111_4
 refine sA C X111 d11_201 ?_
 refine sC C X111 d11_202 ?_
 have f112 := ((f99.wr W101).keep Kc111)
 have f113 := (((((((((((((((f9.other W22 (Or.inl ne_a11_0_b3)).other W27 (Or.inl ne_a11_0_b4)).other W32 (Or.inl ne_a11_0_b6)).other W46 (Or.inl ne_a11_0_b3)).other W51 (Or.inl ne_a11_0_b4)).other W56 (Or.inl ne_a11_0_b6)).other W68 (Or.inr (slot_ne (Or.inl (ow75 hw)) (Or.inl (ow18 hw)) (by decide) (t := .int) (t' := (.array .long)) (by decide) (by decide)))).other W71 (Or.inr (slot_ne (Or.inl (ow75 hw)) (Or.inl (ow20 hw)) (by decide) (t := .int) (t' := (.array .long)) (by decide) (by decide)))).other W74 (Or.inr (slot_ne (Or.inl (ow75 hw)) (Or.inl (ow22 hw)) (by decide) (t := .int) (t' := (.array .long)) (by decide) (by decide)))).ext E78).keep Kc79 (ninS ne_a11_0_b78 nin0)).other W92 (Or.inr (slot_ne (Or.inl (ow75 hw)) (Or.inl (ow47 hw)) (by decide) (t := .int) (t' := (.object oB)) (by decide) (by decide)))).ext E98).other W101 (Or.inr (slot_ne (Or.inl (ow75 hw)) (Or.inl (ow24 hw)) (by decide) (t := .int) (t' := (.array .long)) (by decide) (by decide)))).keep Kc111 (ninS ne_a11_0_b78 (ninS ne_a11_0_bx14_0_79 nin0)))
 refine pF C X111 rfl (N101.app Nq111) g0_1 f113 f112 (ty := .int) (ow74 C.w) (ow75 C.w) (ow8 C.w) (by decide) d11_203 fun T114 h114 lo114 X114 e114 N114 W114 F114 => ?_
 have S114 : own_StK Z h0 h114 := S111.wr W114
 have Y114 : h0.size ≤ h114.size := Nat.le_trans Y111 (Nat.le_of_eq W114.size.symm)
 refine sA C X114 d11_206 ?_
 have f115 := ((f104.keep Kc111 (ninS ne_a11_0_b78 (ninS ne_a11_0_bx14_0_79 nin0))).other W114 (Or.inr (slot_ne (Or.inl (ow54 hw)) (Or.inl (ow75 hw)) (by decide) (t := .int) (t' := .int) (by decide) (by decide))))
 refine gA C X114 e114 f115 (ow53 C.w) d11_207 d11_208 fun T116 X116 e116 => ?_
 have f117 := (f112.wr W114)
 have f118 := (((((((((((((((((((Fend1.ext E3).ext E4).ext E6).other W22 (Or.inl ne_a11_0_b3)).other W27 (Or.inl ne_a11_0_b4)).other W32 (Or.inl ne_a11_0_b6)).other W46 (Or.inl ne_a11_0_b3)).other W51 (Or.inl ne_a11_0_b4)).other W56 (Or.inl ne_a11_0_b6)).other W68 (Or.inr (slot_ne (Or.inl (ow56 hw)) (Or.inl (ow18 hw)) (by decide) (t := .int) (t' := (.array .long)) (by decide) (by decide)))).other W71 (Or.inr (slot_ne (Or.inl (ow56 hw)) (Or.inl (ow20 hw)) (by decide) (t := .int) (t' := (.array .long)) (by decide) (by decide)))).other W74 (Or.inr (slot_ne (Or.inl (ow56 hw)) (Or.inl (ow22 hw)) (by decide) (t := .int) (t' := (.array .long)) (by decide) (by decide)))).ext E78).keep Kc79 (ninS ne_a11_0_b78 nin0)).other W92 (Or.inr (slot_ne (Or.inl (ow56 hw)) (Or.inl (ow47 hw)) (by decide) (t := .int) (t' := (.object oB)) (by decide) (by decide)))).ext E98).other W101 (Or.inr (slot_ne (Or.inl (ow56 hw)) (Or.inl (ow24 hw)) (by decide) (t := .int) (t' := (.array .long)) (by decide) (by decide)))).keep Kc111 (ninS ne_a11_0_b78 (ninS ne_a11_0_bx14_0_79 nin0))).other W114 (Or.inr (slot_ne (Or.inl (ow56 hw)) (Or.inl (ow75 hw)) (by decide) (t := .int) (t' := .int) (by decide) (by decide))))
 refine pF C X116 e116 N114 g0_1 f118 f117 (ty := .int) (ow55 C.w) (ow56 C.w) (ow8 C.w) (by decide) d11_211 fun T119 h119 lo119 X119 e119 N119 W119 F119 => ?_
 have S119 : own_StK Z h0 h119 := S114.wr W119
 have Y119 : h0.size ≤ h119.size := Nat.le_trans Y114 (Nat.le_of_eq W119.size.symm)
 have f120 := ((((V_b98.other W101 (Ne.symm ne_a11_0_b98)).keep Kc111 (ninS (Ne.symm ne_b78_b98) (ninS (Ne.symm ne_bx14_0_79_b98) nin0))).other W114 (Ne.symm ne_a11_0_b98)).other W119 (Ne.symm ne_a11_0_b98))
 have f121 := (f117.wr W119)
 have f122 := ((((((((((F68.other W71 (Or.inr (slot_ne (Or.inl (ow18 hw)) (Or.inl (ow20 hw)) (by decide) (t := (.array .long)) (t' := (.array .long)) (by decide) (by decide)))).other W74 (Or.inr (slot_ne (Or.inl (ow18 hw)) (Or.inl (ow22 hw)) (by decide) (t := (.array .long)) (t' := (.array .long)) (by decide) (by decide)))).ext E78).keep Kc79 (ninS ne_a11_0_b78 nin0)).other W92 (Or.inr (slot_ne (Or.inl (ow18 hw)) (Or.inl (ow47 hw)) (by decide) (t := (.array .long)) (t' := (.object oB)) (by decide) (by decide)))).ext E98).other W101 (Or.inr (slot_ne (Or.inl (ow18 hw)) (Or.inl (ow24 hw)) (by decide) (t := (.array .long)) (t' := (.array .long)) (by decide) (by decide)))).keep Kc111 (ninS ne_a11_0_b78 (ninS ne_a11_0_bx14_0_79 nin0))).other W114 (Or.inr (slot_ne (Or.inl (ow18 hw)) (Or.inl (ow75 hw)) (by decide) (t := (.array .long)) (t' := .int) (by decide) (by decide)))).other W119 (Or.inr (slot_ne (Or.inl (ow18 hw)) (Or.inl (ow56 hw)) (by decide) (t := (.array .long)) (t' := .int) (by decide) (by decide))))
 have f123 := (((((((((F71.other W74 (Or.inr (slot_ne (Or.inl (ow20 hw)) (Or.inl (ow22 hw)) (by decide) (t := (.array .long)) (t' := (.array .long)) (by decide) (by decide)))).ext E78).keep Kc79 (ninS ne_a11_0_b78 nin0)).other W92 (Or.inr (slot_ne (Or.inl (ow20 hw)) (Or.inl (ow47 hw)) (by decide) (t := (.array .long)) (t' := (.object oB)) (by decide) (by decide)))).ext E98).other W101 (Or.inr (slot_ne (Or.inl (ow20 hw)) (Or.inl (ow24 hw)) (by decide) (t := (.array .long)) (t' := (.array .long)) (by decide) (by decide)))).keep Kc111 (ninS ne_a11_0_b78 (ninS ne_a11_0_bx14_0_79 nin0))).other W114 (Or.inr (slot_ne (Or.inl (ow20 hw)) (Or.inl (ow75 hw)) (by decide) (t := (.array .long)) (t' := .int) (by decide) (by decide)))).other W119 (Or.inr (slot_ne (Or.inl (ow20 hw)) (Or.inl (ow56 hw)) (by decide) (t := (.array .long)) (t' := .int) (by decide) (by decide))))
 have f124 := ((((((((F74.ext E78).keep Kc79 (ninS ne_a11_0_b78 nin0)).other W92 (Or.inr (slot_ne (Or.inl (ow22 hw)) (Or.inl (ow47 hw)) (by decide) (t := (.array .long)) (t' := (.object oB)) (by decide) (by decide)))).ext E98).other W101 (Or.inr (slot_ne (Or.inl (ow22 hw)) (Or.inl (ow24 hw)) (by decide) (t := (.array .long)) (t' := (.array .long)) (by decide) (by decide)))).keep Kc111 (ninS ne_a11_0_b78 (ninS ne_a11_0_bx14_0_79 nin0))).other W114 (Or.inr (slot_ne (Or.inl (ow22 hw)) (Or.inl (ow75 hw)) (by decide) (t := (.array .long)) (t' := .int) (by decide) (by decide)))).other W119 (Or.inr (slot_ne (Or.inl (ow22 hw)) (Or.inl (ow56 hw)) (by decide) (t := (.array .long)) (t' := .int) (by decide) (by decide))))
 have f125 := (((F101.keep Kc111 (ninS ne_a11_0_b78 (ninS ne_a11_0_bx14_0_79 nin0))).other W114 (Or.inr (slot_ne (Or.inl (ow24 hw)) (Or.inl (ow75 hw)) (by decide) (t := (.array .long)) (t' := .int) (by decide) (by decide)))).other W119 (Or.inr (slot_ne (Or.inl (ow24 hw)) (Or.inl (ow56 hw)) (by decide) (t := (.array .long)) (t' := .int) (by decide) (by decide))))
 have f126 := (((f102.keep Kc111 (ninS ne_a11_0_b78 (ninS ne_a11_0_bx14_0_79 nin0))).other W114 (Or.inr (slot_ne (Or.inl (ow47 hw)) (Or.inl (ow75 hw)) (by decide) (t := (.object oB)) (t' := .int) (by decide) (by decide)))).other W119 (Or.inr (slot_ne (Or.inl (ow47 hw)) (Or.inl (ow56 hw)) (by decide) (t := (.object oB)) (t' := .int) (by decide) (by decide))))
 have f127 := (f115.other W119 (Or.inr (slot_ne (Or.inl (ow54 hw)) (Or.inl (ow56 hw)) (by decide) (t := .int) (t' := .int) (by decide) (by decide))))
 have f128 := (F114.other W119 (Or.inr (slot_ne (Or.inl (ow75 hw)) (Or.inl (ow56 hw)) (by decide) (t := .int) (t' := .int) (by decide) (by decide))))
 have f129 := ((((((((((((((((((((Fbase1.ext E3).ext E4).ext E6).other W22 (Or.inl ne_a11_0_b3)).other W27 (Or.inl ne_a11_0_b4)).other W32 (Or.inl ne_a11_0_b6)).other W46 (Or.inl ne_a11_0_b3)).other W51 (Or.inl ne_a11_0_b4)).other W56 (Or.inl ne_a11_0_b6)).other W68 (Or.inr (slot_ne (Or.inl (ow110 hw)) (Or.inl (ow18 hw)) (by decide) (t := .long) (t' := (.array .long)) (by decide) (by decide)))).other W71 (Or.inr (slot_ne (Or.inl (ow110 hw)) (Or.inl (ow20 hw)) (by decide) (t := .long) (t' := (.array .long)) (by decide) (by decide)))).other W74 (Or.inr (slot_ne (Or.inl (ow110 hw)) (Or.inl (ow22 hw)) (by decide) (t := .long) (t' := (.array .long)) (by decide) (by decide)))).ext E78).keep Kc79 (ninS ne_a11_0_b78 nin0)).other W92 (Or.inr (slot_ne (Or.inl (ow110 hw)) (Or.inl (ow47 hw)) (by decide) (t := .long) (t' := (.object oB)) (by decide) (by decide)))).ext E98).other W101 (Or.inr (slot_ne (Or.inl (ow110 hw)) (Or.inl (ow24 hw)) (by decide) (t := .long) (t' := (.array .long)) (by decide) (by decide)))).keep Kc111 (ninS ne_a11_0_b78 (ninS ne_a11_0_bx14_0_79 nin0))).other W114 (Or.inr (slot_ne (Or.inl (ow110 hw)) (Or.inl (ow75 hw)) (by decide) (t := .long) (t' := .int) (by decide) (by decide)))).other W119 (Or.inr (slot_ne (Or.inl (ow110 hw)) (Or.inl (ow56 hw)) (by decide) (t := .long) (t' := .int) (by decide) (by decide))))
 have f130 := ((P111_0.wr W114).wr W119)
 have f131 := ((P111_1.other W114 (Or.inl (Ne.symm ne_a11_0_b78))).other W119 (Or.inl (Ne.symm ne_a11_0_b78)))
 have f132 := ((P111_2.other W114 (Or.inl (Ne.symm ne_a11_0_b78))).other W119 (Or.inl (Ne.symm ne_a11_0_b78)))
 have f133 := ((P111_3.other W114 (Or.inl (Ne.symm ne_a11_0_b78))).other W119 (Or.inl (Ne.symm ne_a11_0_b78)))
 have f134 := (((((f93.ext E98).other W101 (Ne.symm ne_a11_0_b3)).keep Kc111 (ninS ne_b3_b78 (ninS ne_b3_bx14_0_79 nin0))).other W114 (Ne.symm ne_a11_0_b3)).other W119 (Ne.symm ne_a11_0_b3))
 have f135 := (((((f94.ext E98).other W101 (Ne.symm ne_a11_0_b4)).keep Kc111 (ninS ne_b4_b78 (ninS ne_b4_bx14_0_79 nin0))).other W114 (Ne.symm ne_a11_0_b4)).other W119 (Ne.symm ne_a11_0_b4))
 have f136 := (((((f95.ext E98).other W101 (Ne.symm ne_a11_0_b6)).keep Kc111 (ninS ne_b6_b78 (ninS ne_b6_bx14_0_79 nin0))).other W114 (Ne.symm ne_a11_0_b6)).other W119 (Ne.symm ne_a11_0_b6))
 have f137 := ((P111_4.other W114 (Ne.symm ne_a11_0_bx14_0_79)).other W119 (Ne.symm ne_a11_0_bx14_0_79))
 have Op138 : own_Obj Z h119 n0 a11_0 b3 b4 b6 b98 b78 bx14_0_79 k3 k4 k6 kx14_0_79 (0 : Int32) (2 : Int32) (2 : Int32) bs (1 : Int32) (1 : Int32) (3 : Int64) (8 : Int32) [(.long tm0), (.long tm1), oZ, oZ, oZ, oZ, oZ, oZ] [(.long fr0), (.long fr1), oZ, oZ, oZ, oZ, oZ, oZ] [(.long to0), (.long to1), oZ, oZ, oZ, oZ, oZ, oZ] := ⟨f121, f122, f123, f124, f125, f126, f127, F119, f128, f129, f130, f131, f132, f133, f134, f135, f136, f137, (S119 _ _ _ _ St1), g0_1, g_b3, g_b4, g_b6, g_b98, g_b78, g_bx14_0_79, ne_a11_0_b3, ne_a11_0_b4, ne_a11_0_b6, ne_a11_0_b98, ne_a11_0_b78, ne_a11_0_bx14_0_79, ne_b3_b4, ne_b3_b6, ne_b3_b98, ne_b3_b78, ne_b3_bx14_0_79, ne_b4_b6, ne_b4_b98, ne_b4_b78, ne_b4_bx14_0_79, ne_b6_b98, ne_b6_b78, ne_b6_bx14_0_79, (Ne.symm ne_b78_b98), (Ne.symm ne_bx14_0_79_b98), ne_b78_bx14_0_79⟩
 refine gA C X119 e119 Op138.Fspans (ow23 C.w) d11_214 d11_215 fun T139 X139 e139 => ?_
 refine sI C X139 d11_218 ?_
 refine sC C X139 d11_219 ?_
 refine sI C X139 d11_220 ?_
 refine sM C X139 d11_221 ?_
 refine kJ C X139 (ow98 C.w) d11_222 ?_
 refine cS C X139 e139 (rm17_2 l Z a0 C.w b98 k98 (0 : Int64) (0 : Int64) (0 : Int64) (0 : Int64) (0 : Int64) (0 : Int64) (0 : Int64) (0 : Int64) (0 : Int64) (0 : Int64) (0 : Int64) (0 : Int64) (0 : Int64) (0 : Int64) (0 : Int64) (0 : Int64) h119 n0 Op138.hsz f120 Op138.grS) (W := 0) (ow99 C.w) (ow100 C.w) (ow102 C.w) (ow101 C.w) (argsL := [(.ref b98), (.int (8 : Int32)), (.int (16 : Int32)), (.long oM)]) (lenOf pd___JIIJ_V rfl) d11_225 fun v140 T140 lo140 X140 hQ140 => ?_
 obtain ⟨rfl, Nq140, Kc140, Sc140, P140_0⟩ := hQ140
 have O140 := Op138.sp Kc140 Sc140
 refine sC C X140 d11_228 ?_
 refine wi C X140 #[oR a11_0, oI 8, oI 1, oR b3, oR b4, oR b6, oI 2, oI 1] d11_229 ?_
 refine si C X140 d11_231 ?_
 refine gA C X140 rfl O140.Fsize (ow53 C.w) d11_233 d11_234 fun T141 X141 e141 => ?_
 refine cN C X141 d11_237 ((tlt (by decide : (1 : Int32) < (2 : Int32))).2.1) ?_
 refine gA C X141 e141 O140.Fspans (ow23 C.w) d11_240 d11_241 fun T142 X142 e142 => ?_
 refine sI C X142 d11_244 ?_
 refine si C X142 d11_245 ?_
 refine sP C X142 d11_247 ?_
 refine gA C X142 e142 O140.Ftimes (ow17 C.w) d11_248 d11_249 fun T143 X143 e143 => ?_
 refine si C X143 d11_252 ?_
 refine lA C X143 e143 O140.Vt d11_254 ?_
 refine gA C X143 e143 O140.Ffroms (ow19 C.w) d11_255 d11_256 fun T144 X144 e144 => ?_
 refine si C X144 d11_259 ?_
 refine sC C X144 d11_261 ?_
 refine sS C X144 d11_262 ?_
 refine lA C X144 e144 O140.Vf d11_263 ?_
 refine tS C X144 d11_264 ?_
 refine sJ C X144 e144 (N119.app Nq140) O140.grS P140_0 _ d11_265 fun T145 h145 lo145 X145 e145 N145 W145 V145 => ?_
 have O145 := O140.wsp W145
 refine wc C X145 #[oR a11_0, oI 8, oI 1, oR b3, oR b4, oR b6, oI 2, oI 2] d11_266 ?_
 refine sG C X145 d11_269 231 ?_
 refine si C X145 d11_231 ?_
 refine gA C X145 e145 O145.Fsize (ow53 C.w) d11_233 d11_234 fun T146 X146 e146 => ?_
 refine cY C X146 d11_237 272 ((flt (by decide : ¬ ((2 : Int32) < (2 : Int32)))).2.1) ?_
 refine sI C X146 d11_272 ?_
 refine sC C X146 d11_273 ?_
 refine sS C X146 d11_274 ?_
 refine wi C X146 #[oR a11_0, oI 8, oI 1, oR b3, oR b4, oR b6, oI 2, oI 7] d11_275 ?_
 refine si C X146 d11_277 ?_
 refine bN C X146 d11_279 ((if0 _ _).trans (tlt (by decide : (0 : Int32) < (7 : Int32))).2.2.2) ?_
 refine gA C X146 e146 O145.Fspans (ow23 C.w) d11_282 d11_283 fun T147 X147 e147 => ?_
 refine si C X147 d11_286 ?_
 refine gA C X147 e147 O145.Fspans (ow23 C.w) d11_288 d11_289 fun T148 X148 e148 => ?_
 refine sC C X148 d11_292 ?_
 refine si C X148 d11_293 ?_
 refine sM C X148 d11_295 ?_
 refine lA C X148 e148 V145 d11_296 ?_
 refine gA C X148 e148 O145.Fspans (ow23 C.w) d11_297 d11_298 fun T149 X149 e149 => ?_
 refine sC C X149 d11_301 ?_
 refine si C X149 d11_302 ?_
 refine sM C X149 d11_304 ?_
 refine sC C X149 d11_305 ?_
 refine sP C X149 d11_306 ?_
 refine lA C X149 e149 V145 d11_307 ?_
 refine cS C X149 e149 (fun ws => rm19 l Z a0 C.w ws oM oM h145 n0 O145.hsz ) (W := 2) (ow106 C.w) (ow107 C.w) (ow108 C.w) (ow68 C.w) (argsL := [(.long oM), (.long oM)]) (lenOf pd__JJ_J rfl) d11_308 fun v150 T150 lo150 X150 hQ150 => ?_
 obtain ⟨rfl, Nq150, e150⟩ := hQ150
 rw [show (own_m oM oM) = oM from by decide +kernel]
 refine sJ C X150 e150 (N145.app Nq150) O145.grS V145 _ d11_311 fun T152 h152 lo152 X152 e152 N152 W152 V152 => ?_
 have O152 := O145.wsp W152
 refine wc C X152 #[oR a11_0, oI 8, oI 1, oR b3, oR b4, oR b6, oI 2, oI 6] d11_312 ?_
 refine sG C X152 d11_315 277 ?_
 refine si C X152 d11_277 ?_
 refine bN C X152 d11_279 ((if0 _ _).trans (tlt (by decide : (0 : Int32) < (6 : Int32))).2.2.2) ?_
 refine gA C X152 e152 O152.Fspans (ow23 C.w) d11_282 d11_283 fun T153 X153 e153 => ?_
 refine si C X153 d11_286 ?_
 refine gA C X153 e153 O152.Fspans (ow23 C.w) d11_288 d11_289 fun T154 X154 e154 => ?_
 refine sC C X154 d11_292 ?_
 refine si C X154 d11_293 ?_
 refine sM C X154 d11_295 ?_
 refine lA C X154 e154 V152 d11_296 ?_
 refine gA C X154 e154 O152.Fspans (ow23 C.w) d11_297 d11_298 fun T155 X155 e155 => ?_
 refine sC C X155 d11_301 ?_
 refine si C X155 d11_302 ?_
 refine sM C X155 d11_304 ?_
 refine sC C X155 d11_305 ?_
 refine sP C X155 d11_306 ?_
 refine lA C X155 e155 V152 d11_307 ?_
 refine cS C X155 e155 (fun ws => rm19 l Z a0 C.w ws oM oM h152 n0 O152.hsz ) (W := 2) (ow106 C.w) (ow107 C.w) (ow108 C.w) (ow68 C.w) (argsL := [(.long oM), (.long oM)]) (lenOf pd__JJ_J rfl) d11_308 fun v156 T156 lo156 X156 hQ156 => ?_
 obtain ⟨rfl, Nq156, e156⟩ := hQ156
 rw [show (own_m oM oM) = oM from by decide +kernel]
 refine sJ C X156 e156 (N152.app Nq156) O152.grS V152 _ d11_311 fun T158 h158 lo158 X158 e158 N158 W158 V158 => ?_
 have O158 := O152.wsp W158
 refine wc C X158 #[oR a11_0, oI 8, oI 1, oR b3, oR b4, oR b6, oI 2, oI 5] d11_312 ?_
 refine sG C X158 d11_315 277 ?_
 refine si C X158 d11_277 ?_
 refine bN C X158 d11_279 ((if0 _ _).trans (tlt (by decide : (0 : Int32) < (5 : Int32))).2.2.2) ?_
 refine gA C X158 e158 O158.Fspans (ow23 C.w) d11_282 d11_283 fun T159 X159 e159 => ?_
 refine si C X159 d11_286 ?_
 refine gA C X159 e159 O158.Fspans (ow23 C.w) d11_288 d11_289 fun T160 X160 e160 => ?_
 refine sC C X160 d11_292 ?_
 refine si C X160 d11_293 ?_
 refine sM C X160 d11_295 ?_
 refine lA C X160 e160 V158 d11_296 ?_
 refine gA C X160 e160 O158.Fspans (ow23 C.w) d11_297 d11_298 fun T161 X161 e161 => ?_
 refine sC C X161 d11_301 ?_
 refine si C X161 d11_302 ?_
 refine sM C X161 d11_304 ?_
 refine sC C X161 d11_305 ?_
 refine sP C X161 d11_306 ?_
 refine lA C X161 e161 V158 d11_307 ?_
 refine cS C X161 e161 (fun ws => rm19 l Z a0 C.w ws oM oM h158 n0 O158.hsz ) (W := 2) (ow106 C.w) (ow107 C.w) (ow108 C.w) (ow68 C.w) (argsL := [(.long oM), (.long oM)]) (lenOf pd__JJ_J rfl) d11_308 fun v162 T162 lo162 X162 hQ162 => ?_
 obtain ⟨rfl, Nq162, e162⟩ := hQ162
 rw [show (own_m oM oM) = oM from by decide +kernel]
 refine sJ C X162 e162 (N158.app Nq162) O158.grS V158 _ d11_311 fun T164 h164 lo164 X164 e164 N164 W164 V164 => ?_
 have O164 := O158.wsp W164
 refine wc C X164 #[oR a11_0, oI 8, oI 1, oR b3, oR b4, oR b6, oI 2, oI 4] d11_312 ?_
 refine sG C X164 d11_315 277 ?_
 refine si C X164 d11_277 ?_
 refine bN C X164 d11_279 ((if0 _ _).trans (tlt (by decide : (0 : Int32) < (4 : Int32))).2.2.2) ?_
 refine gA C X164 e164 O164.Fspans (ow23 C.w) d11_282 d11_283 fun T165 X165 e165 => ?_
 refine si C X165 d11_286 ?_
 refine gA C X165 e165 O164.Fspans (ow23 C.w) d11_288 d11_289 fun T166 X166 e166 => ?_
 refine sC C X166 d11_292 ?_
 refine si C X166 d11_293 ?_
 refine sM C X166 d11_295 ?_
 refine lA C X166 e166 V164 d11_296 ?_
 refine gA C X166 e166 O164.Fspans (ow23 C.w) d11_297 d11_298 fun T167 X167 e167 => ?_
 refine sC C X167 d11_301 ?_
 refine si C X167 d11_302 ?_
 refine sM C X167 d11_304 ?_
 refine sC C X167 d11_305 ?_
 refine sP C X167 d11_306 ?_
 refine lA C X167 e167 V164 d11_307 ?_
 refine cS C X167 e167 (fun ws => rm19 l Z a0 C.w ws oM (tm1 - fr0) h164 n0 O164.hsz ) (W := 2) (ow106 C.w) (ow107 C.w) (ow108 C.w) (ow68 C.w) (argsL := [(.long oM), (.long (tm1 - fr0))]) (lenOf pd__JJ_J rfl) d11_308 fun v168 T168 lo168 X168 hQ168 => ?_
 obtain ⟨rfl, Nq168, e168⟩ := hQ168
 refine sJ C X168 e168 (N164.app Nq168) O164.grS V164 _ d11_311 fun T169 h169 lo169 X169 e169 N169 W169 V169 => ?_
 have O169 := O164.wsp W169
 refine wc C X169 #[oR a11_0, oI 8, oI 1, oR b3, oR b4, oR b6, oI 2, oI 3] d11_312 ?_
 refine sG C X169 d11_315 277 ?_
 refine si C X169 d11_277 ?_
 refine bN C X169 d11_279 ((if0 _ _).trans (tlt (by decide : (0 : Int32) < (3 : Int32))).2.2.2) ?_
 refine gA C X169 e169 O169.Fspans (ow23 C.w) d11_282 d11_283 fun T170 X170 e170 => ?_
 refine si C X170 d11_286 ?_
 refine gA C X170 e170 O169.Fspans (ow23 C.w) d11_288 d11_289 fun T171 X171 e171 => ?_
 refine sC C X171 d11_292 ?_
 refine si C X171 d11_293 ?_
 refine sM C X171 d11_295 ?_
 refine lA C X171 e171 V169 d11_296 ?_
 refine gA C X171 e171 O169.Fspans (ow23 C.w) d11_297 d11_298 fun T172 X172 e172 => ?_
 refine sC C X172 d11_301 ?_
 refine si C X172 d11_302 ?_
 refine sM C X172 d11_304 ?_
 refine sC C X172 d11_305 ?_
 refine sP C X172 d11_306 ?_
 refine lA C X172 e172 V169 d11_307 ?_
 refine cS C X172 e172 (fun ws => rm19 l Z a0 C.w ws oM oM h169 n0 O169.hsz ) (W := 2) (ow106 C.w) (ow107 C.w) (ow108 C.w) (ow68 C.w) (argsL := [(.long oM), (.long oM)]) (lenOf pd__JJ_J rfl) d11_308 fun v173 T173 lo173 X173 hQ173 => ?_
 obtain ⟨rfl, Nq173, e173⟩ := hQ173
 rw [show (own_m oM oM) = oM from by decide +kernel]
 refine sJ C X173 e173 (N169.app Nq173) O169.grS V169 _ d11_311 fun T175 h175 lo175 X175 e175 N175 W175 V175 => ?_
 have O175 := O169.wsp W175
 refine wc C X175 #[oR a11_0, oI 8, oI 1, oR b3, oR b4, oR b6, oI 2, oI 2] d11_312 ?_
 refine sG C X175 d11_315 277 ?_
 refine si C X175 d11_277 ?_
 refine bN C X175 d11_279 ((if0 _ _).trans (tlt (by decide : (0 : Int32) < (2 : Int32))).2.2.2) ?_
 refine gA C X175 e175 O175.Fspans (ow23 C.w) d11_282 d11_283 fun T176 X176 e176 => ?_
 refine si C X176 d11_286 ?_
 refine gA C X176 e176 O175.Fspans (ow23 C.w) d11_288 d11_289 fun T177 X177 e177 => ?_
 refine sC C X177 d11_292 ?_
 refine si C X177 d11_293 ?_
 refine sM C X177 d11_295 ?_
 refine lA C X177 e177 V175 d11_296 ?_
 refine gA C X177 e177 O175.Fspans (ow23 C.w) d11_297 d11_298 fun T178 X178 e178 => ?_
 refine sC C X178 d11_301 ?_
 refine si C X178 d11_302 ?_
 refine sM C X178 d11_304 ?_
 refine sC C X178 d11_305 ?_
 refine sP C X178 d11_306 ?_
 refine lA C X178 e178 V175 d11_307 ?_
 refine cS C X178 e178 (fun ws => rm19 l Z a0 C.w ws (own_m oM (tm1 - fr0)) oM h175 n0 O175.hsz ) (W := 2) (ow106 C.w) (ow107 C.w) (ow108 C.w) (ow68 C.w) (argsL := [(.long (own_m oM (tm1 - fr0))), (.long oM)]) (lenOf pd__JJ_J rfl) d11_308 fun v179 T179 lo179 X179 hQ179 => ?_
 obtain ⟨rfl, Nq179, e179⟩ := hQ179
 refine sJ C X179 e179 (N175.app Nq179) O175.grS V175 _ d11_311 fun T180 h180 lo180 X180 e180 N180 W180 V180 => ?_
 have O180 := O175.wsp W180
 refine wc C X180 #[oR a11_0, oI 8, oI 1, oR b3, oR b4, oR b6, oI 2, oI 1] d11_312 ?_
 refine sG C X180 d11_315 277 ?_
 refine si C X180 d11_277 ?_
 refine bN C X180 d11_279 ((if0 _ _).trans (tlt (by decide : (0 : Int32) < (1 : Int32))).2.2.2) ?_
 refine gA C X180 e180 O180.Fspans (ow23 C.w) d11_282 d11_283 fun T181 X181 e181 => ?_
 refine si C X181 d11_286 ?_
 refine gA C X181 e181 O180.Fspans (ow23 C.w) d11_288 d11_289 fun T182 X182 e182 => ?_
 refine sC C X182 d11_292 ?_
 refine si C X182 d11_293 ?_
 refine sM C X182 d11_295 ?_
 refine lA C X182 e182 V180 d11_296 ?_
 refine gA C X182 e182 O180.Fspans (ow23 C.w) d11_297 d11_298 fun T183 X183 e183 => ?_
 refine sC C X183 d11_301 ?_
 refine si C X183 d11_302 ?_
 refine sM C X183 d11_304 ?_
 refine sC C X183 d11_305 ?_
 refine sP C X183 d11_306 ?_
 refine lA C X183 e183 V180 d11_307 ?_
 refine cS C X183 e183 (fun ws => rm19 l Z a0 C.w ws (own_m (own_m oM (tm1 - fr0)) oM) oM h180 n0 O180.hsz ) (W := 2) (ow106 C.w) (ow107 C.w) (ow108 C.w) (ow68 C.w) (argsL := [(.long (own_m (own_m oM (tm1 - fr0)) oM)), (.long oM)]) (lenOf pd__JJ_J rfl) d11_308 fun v184 T184 lo184 X184 hQ184 => ?_
 obtain ⟨rfl, Nq184, e184⟩ := hQ184
 refine sJ C X184 e184 (N180.app Nq184) O180.grS V180 _ d11_311 fun T185 h185 lo185 X185 e185 N185 W185 V185 => ?_
 have O185 := O180.wsp W185
 refine wc C X185 #[oR a11_0, oI 8, oI 1, oR b3, oR b4, oR b6, oI 2, oI 0] d11_312 ?_
 refine sG C X185 d11_315 277 ?_
 refine si C X185 d11_277 ?_
 refine bY C X185 d11_279 318 ((if0 _ _).trans (flt (by decide : ¬ ((0 : Int32) < (0 : Int32)))).2.2.2) ?_
 refine rV C X185 e185 hret d11_318 ?_
 exact ⟨rfl, N185, b3, b4, b6, b98, b78, bx14_0_79, k3, k4, k6, kx14_0_79, O185, ⟨_, own_arv V185 (own_cons rfl (own_cons (congrArg Value.long (by simp only [own_mMM])) (own_cons (congrArg Value.long (by simp only [own_mMM])) (own_cons (congrArg Value.long (by simp only [own_mMM])) (own_cons rfl (own_cons (congrArg Value.long (by simp only [own_mMM])) (own_cons (congrArg Value.long (by simp only [own_mMM])) (own_cons (congrArg Value.long (by simp only [own_mMM])) (own_cons rfl (own_cons rfl (own_cons rfl (own_cons rfl (own_cons rfl (own_cons rfl (own_cons rfl (own_cons rfl rfl))))))))))))))))⟩⟩
theorem ef_rm23_8_2 (m : MethodId) (y0 : Addr) (y2 : Int64) : entryFrame m #[(.ref y0), (.int (2 : Int32)), (.long y2)] 7 = mkF m 0 #[oR y0, oI 2, oJ y2, oD, oU, oU, oU] [] := by first | (simp [entryFrame, mkF, argsToLocals, Value.category]; done) | rfl
def Q_rm23_8_2 (Z : State) (a23_0 : Addr) (q23_2 : Int64) (wt : Addr) (kc_wt : ClassId) (t_wt_0 t_wt_1 t_wt_2 t_wt_3 t_wt_4 t_wt_5 t_wt_6 t_wt_7 : Int64) (ws : Addr) (l_ws_0 l_ws_1 l_ws_2 l_ws_3 l_ws_4 l_ws_5 l_ws_6 l_ws_7 : Int64) (h0 : Heap) (n0 : Nat) (v : Option Value) (h : Heap) (L : List Loc) : Prop := v = none ∧ Fr n0 L ∧ Keep h0 h [ws] ∧ own_StK Z h0 h ∧ own_Sp8 Z h ws l_ws_0 l_ws_1 q23_2 l_ws_3 l_ws_4 l_ws_5 l_ws_6 l_ws_7
theorem rm23_8_2 (l : Launch) (Z : State) (a0 : Array Value) (hw : own_T Z a0) (a23_0 : Addr) (q23_2 : Int64) (wt : Addr) (kc_wt : ClassId) (t_wt_0 t_wt_1 t_wt_2 t_wt_3 t_wt_4 t_wt_5 t_wt_6 t_wt_7 : Int64) (ws : Addr) (l_ws_0 l_ws_1 l_ws_2 l_ws_3 l_ws_4 l_ws_5 l_ws_6 l_ws_7 : Int64) (h0 : Heap) (n0 : Nat) (Z0 : n0 ≤ h0.size) (F_times : Fld Z h0 a23_0 oL "times" "[J" (.ref wt)) (V_wt : Arv Z h0 wt kc_wt .long (8 : Int32) [(.long t_wt_0), (.long t_wt_1), (.long t_wt_2), (.long t_wt_3), (.long t_wt_4), (.long t_wt_5), (.long t_wt_6), (.long t_wt_7)] oZ) (F_spans : Fld Z h0 a23_0 oL "spans" "[J" (.ref ws)) (T_ws : own_Sp8 Z h0 ws l_ws_0 l_ws_1 l_ws_2 l_ws_3 l_ws_4 l_ws_5 l_ws_6 l_ws_7) (g_ws : n0 ≤ ws) (ne_a23_0_ws : a23_0 ≠ ws) :
   own_Met l oy23 oc23 7 none ({ frames := 1, cells := 0, slots := 0, locals := 15 } : Room) Z h0 #[(.ref a23_0), (.int (2 : Int32)), (.long q23_2)] (Q_rm23_8_2 Z a23_0 q23_2 wt kc_wt t_wt_0 t_wt_1 t_wt_2 t_wt_3 t_wt_4 t_wt_5 t_wt_6 t_wt_7 ws l_ws_0 l_ws_1 l_ws_2 l_ws_3 l_ws_4 l_ws_5 l_ws_6 l_ws_7 h0 n0) := by
 refine own_go hw (plainFor_of_name pn_23) (fun m => ef_rm23_8_2 m a23_0 q23_2) fun p e s m below meth c T0 C hret X0 e0 => ?_
 have N0 := Fr.nil n0
 refine gA C X0 e0 F_times (ow17 C.w) d23_0 d23_1 fun T1 X1 e1 => ?_
 refine nA C X1 e1 V_wt d23_4 ?_
 refine sI C X1 d23_5 ?_
 refine sP C X1 d23_6 ?_
 refine wi C X1 #[oR a23_0, oI 2, oJ q23_2, oD, oI 10, oU, oU] d23_7 ?_
 refine gA C X1 e1 F_spans (ow23 C.w) d23_9 d23_10 fun T2 X2 e2 => ?_
 refine si C X2 d23_13 ?_
 refine sL C X2 d23_15 ?_
 obtain ⟨kq3, VT3⟩ := id T_ws
 obtain ⟨m3_7, hm3_7⟩ : ∃ z : Int64, z = (own_m l_ws_6 l_ws_7) := ⟨_, rfl⟩
 rw [← hm3_7] at VT3
 obtain ⟨m3_6, hm3_6⟩ : ∃ z : Int64, z = (own_m l_ws_4 l_ws_5) := ⟨_, rfl⟩
 rw [← hm3_6] at VT3
 obtain ⟨m3_5, hm3_5⟩ : ∃ z : Int64, z = (own_m l_ws_2 l_ws_3) := ⟨_, rfl⟩
 rw [← hm3_5] at VT3
 obtain ⟨m3_4, hm3_4⟩ : ∃ z : Int64, z = (own_m l_ws_0 l_ws_1) := ⟨_, rfl⟩
 rw [← hm3_4] at VT3
 obtain ⟨m3_3, hm3_3⟩ : ∃ z : Int64, z = (own_m m3_6 m3_7) := ⟨_, rfl⟩
 rw [← hm3_3] at VT3
 obtain ⟨m3_2, hm3_2⟩ : ∃ z : Int64, z = (own_m m3_4 m3_5) := ⟨_, rfl⟩
 rw [← hm3_2] at VT3
 obtain ⟨m3_1, hm3_1⟩ : ∃ z : Int64, z = (own_m m3_2 m3_3) := ⟨_, rfl⟩
 rw [← hm3_1] at VT3
 refine sJ C X2 e2 N0 g_ws VT3 _ d23_16 fun T4 h4 lo4 X4 e4 N4 W4 V4 => ?_
 have S4 : own_StK Z h0 h4 := (own_StK.refl Z h0).wr W4
 have K4 : Keep h0 h4 [ws] := (Keep.refl h0 [ws]).wr W4 (Or.inl (List.mem_of_getElem? (i := 0) rfl))
 have Z4 : n0 ≤ h4.size := Nat.le_trans Z0 K4.1
 refine si C X4 d23_17 ?_
 refine sC C X4 d23_19 ?_
 refine own_Fin.st (g' := (mkF m 21 #[oR a23_0, oI 2, oJ q23_2, oD, oI 10, oU, oU] [(.int (5 : Int32))])) ?_ (fun t k => XS.idiv X4.here C.1 rfl (C.d d23_20) rfl (by decide : ¬ ((2 : Int32) = (0 : Int32))) k)
 refine wi C X4 #[oR a23_0, oI 2, oJ q23_2, oD, oI 5, oU, oU] d23_21 ?_
 refine si C X4 d23_23 ?_
 refine bN C X4 d23_25 ((if0 _ _).trans (tlt (by decide : (0 : Int32) < (5 : Int32))).2.2.2) ?_
 have f5 := (F_spans.other W4 (Or.inl ne_a23_0_ws))
 refine gA C X4 e4 f5 (ow23 C.w) d23_28 d23_29 fun T6 X6 e6 => ?_
 refine sC C X6 d23_32 ?_
 refine si C X6 d23_33 ?_
 refine sM C X6 d23_35 ?_
 refine lA C X6 e6 V4 d23_36 ?_
 refine gA C X6 e6 f5 (ow23 C.w) d23_37 d23_38 fun T7 X7 e7 => ?_
 refine sC C X7 d23_41 ?_
 refine si C X7 d23_42 ?_
 refine sM C X7 d23_44 ?_
 refine sC C X7 d23_45 ?_
 refine sP C X7 d23_46 ?_
 refine lA C X7 e7 V4 d23_47 ?_
 refine cS C X7 e7 (fun ws => rm19 l Z a0 C.w ws q23_2 l_ws_3 h4 n0 Z4 ) (W := 0) (ow106 C.w) (ow107 C.w) (ow108 C.w) (ow68 C.w) (argsL := [(.long q23_2), (.long l_ws_3)]) (lenOf pd__JJ_J rfl) d23_48 fun v8 T8 lo8 X8 hQ8 => ?_
 obtain ⟨rfl, Nq8, e8⟩ := hQ8
 obtain ⟨x9, hx9⟩ : ∃ z : Int64, z = (own_m q23_2 l_ws_3) := ⟨_, rfl⟩
 rw [← hx9]
 refine wl C X8 #[oR a23_0, oI 2, oJ q23_2, oD, oI 5, oJ x9, oD] d23_51 ?_
 refine gA C X8 e8 f5 (ow23 C.w) d23_53 d23_54 fun T10 X10 e10 => ?_
 refine si C X10 d23_57 ?_
 refine lA C X10 e10 V4 d23_59 ?_
 refine sl C X10 d23_60 ?_
 refine tC C X10 d23_62 ?_
 by_cases h63_11 : m3_5 = x9
 · refine bN C X10 d23_63 ((if0 _ _).trans (teq ((lw_eq _ _).mpr h63_11)).2) ?_
   refine sG C X10 d23_66 87 ?_
   refine rV C X10 e10 hret d23_87 ?_
   subst hx9
   subst hm3_1
   subst hm3_2
   subst hm3_3
   subst hm3_4
   subst hm3_5
   subst hm3_6
   subst hm3_7
   exact ⟨rfl, (N4.app Nq8), K4, S4, ⟨_, own_arv V4 (own_cons rfl (own_cons (congrArg Value.long (by rw [h63_11])) (own_cons (congrArg Value.long (by rw [h63_11])) (own_cons rfl (own_cons rfl (own_cons (congrArg Value.long h63_11.symm) (own_cons rfl (own_cons rfl (own_cons rfl (own_cons rfl (own_cons rfl (own_cons rfl (own_cons rfl (own_cons rfl (own_cons rfl (own_cons rfl rfl))))))))))))))))⟩⟩
 refine bY C X10 d23_63 69 ((if0 _ _).trans (feq (fun q => h63_11 ((lw_eq _ _).mp q))).2) ?_
 refine gA C X10 e10 f5 (ow23 C.w) d23_69 d23_70 fun T12 X12 e12 => ?_
 refine si C X12 d23_73 ?_
 refine sl C X12 d23_75 ?_
 refine sJ C X12 e12 (N4.app Nq8) g_ws V4 _ d23_77 fun T13 h13 lo13 X13 e13 N13 W13 V13 => ?_
 have S13 : own_StK Z h0 h13 := S4.wr W13
 have K13 : Keep h0 h13 [ws] := K4.wr W13 (Or.inl (List.mem_of_getElem? (i := 0) rfl))
 have Z13 : n0 ≤ h13.size := Nat.le_trans Z0 K13.1
 refine si C X13 d23_78 ?_
 refine sC C X13 d23_80 ?_
 refine own_Fin.st (g' := (mkF m 82 #[oR a23_0, oI 2, oJ q23_2, oD, oI 5, oJ x9, oD] [(.int (2 : Int32))])) ?_ (fun t k => XS.idiv X13.here C.1 rfl (C.d d23_81) rfl (by decide : ¬ ((2 : Int32) = (0 : Int32))) k)
 refine wi C X13 #[oR a23_0, oI 2, oJ q23_2, oD, oI 2, oJ x9, oD] d23_82 ?_
 refine sG C X13 d23_84 23 ?_
 refine si C X13 d23_23 ?_
 refine bN C X13 d23_25 ((if0 _ _).trans (tlt (by decide : (0 : Int32) < (2 : Int32))).2.2.2) ?_
 have f14 := (f5.other W13 (Or.inl ne_a23_0_ws))
 refine gA C X13 e13 f14 (ow23 C.w) d23_28 d23_29 fun T15 X15 e15 => ?_
 refine sC C X15 d23_32 ?_
 refine si C X15 d23_33 ?_
 refine sM C X15 d23_35 ?_
 refine lA C X15 e15 V13 d23_36 ?_
 refine gA C X15 e15 f14 (ow23 C.w) d23_37 d23_38 fun T16 X16 e16 => ?_
 refine sC C X16 d23_41 ?_
 refine si C X16 d23_42 ?_
 refine sM C X16 d23_44 ?_
 refine sC C X16 d23_45 ?_
 refine sP C X16 d23_46 ?_
 refine lA C X16 e16 V13 d23_47 ?_
 refine cS C X16 e16 (fun ws => rm19 l Z a0 C.w ws m3_4 x9 h13 n0 Z13 ) (W := 0) (ow106 C.w) (ow107 C.w) (ow108 C.w) (ow68 C.w) (argsL := [(.long m3_4), (.long x9)]) (lenOf pd__JJ_J rfl) d23_48 fun v17 T17 lo17 X17 hQ17 => ?_
 obtain ⟨rfl, Nq17, e17⟩ := hQ17
 obtain ⟨x18, hx18⟩ : ∃ z : Int64, z = (own_m m3_4 x9) := ⟨_, rfl⟩
 rw [← hx18]
 refine wl C X17 #[oR a23_0, oI 2, oJ q23_2, oD, oI 2, oJ x18, oD] d23_51 ?_
 refine gA C X17 e17 f14 (ow23 C.w) d23_53 d23_54 fun T19 X19 e19 => ?_
 refine si C X19 d23_57 ?_
 refine lA C X19 e19 V13 d23_59 ?_
 refine sl C X19 d23_60 ?_
 refine tC C X19 d23_62 ?_
 by_cases h63_20 : m3_2 = x18
 · refine bN C X19 d23_63 ((if0 _ _).trans (teq ((lw_eq _ _).mpr h63_20)).2) ?_
   refine sG C X19 d23_66 87 ?_
   refine rV C X19 e19 hret d23_87 ?_
   subst hx18
   subst hx9
   subst hm3_1
   subst hm3_2
   subst hm3_3
   subst hm3_4
   subst hm3_5
   subst hm3_6
   subst hm3_7
   exact ⟨rfl, (N13.app Nq17), K13, S13, ⟨_, own_arv V13 (own_cons rfl (own_cons (congrArg Value.long (by rw [h63_20])) (own_cons (congrArg Value.long h63_20.symm) (own_cons rfl (own_cons rfl (own_cons rfl (own_cons rfl (own_cons rfl (own_cons rfl (own_cons rfl (own_cons rfl (own_cons rfl (own_cons rfl (own_cons rfl (own_cons rfl (own_cons rfl rfl))))))))))))))))⟩⟩
 refine bY C X19 d23_63 69 ((if0 _ _).trans (feq (fun q => h63_20 ((lw_eq _ _).mp q))).2) ?_
 refine gA C X19 e19 f14 (ow23 C.w) d23_69 d23_70 fun T21 X21 e21 => ?_
 refine si C X21 d23_73 ?_
 refine sl C X21 d23_75 ?_
 refine sJ C X21 e21 (N13.app Nq17) g_ws V13 _ d23_77 fun T22 h22 lo22 X22 e22 N22 W22 V22 => ?_
 have S22 : own_StK Z h0 h22 := S13.wr W22
 have K22 : Keep h0 h22 [ws] := K13.wr W22 (Or.inl (List.mem_of_getElem? (i := 0) rfl))
 have Z22 : n0 ≤ h22.size := Nat.le_trans Z0 K22.1
 refine si C X22 d23_78 ?_
 refine sC C X22 d23_80 ?_
 refine own_Fin.st (g' := (mkF m 82 #[oR a23_0, oI 2, oJ q23_2, oD, oI 2, oJ x18, oD] [(.int (1 : Int32))])) ?_ (fun t k => XS.idiv X22.here C.1 rfl (C.d d23_81) rfl (by decide : ¬ ((2 : Int32) = (0 : Int32))) k)
 refine wi C X22 #[oR a23_0, oI 2, oJ q23_2, oD, oI 1, oJ x18, oD] d23_82 ?_
 refine sG C X22 d23_84 23 ?_
 refine si C X22 d23_23 ?_
 refine bN C X22 d23_25 ((if0 _ _).trans (tlt (by decide : (0 : Int32) < (1 : Int32))).2.2.2) ?_
 have f23 := (f14.other W22 (Or.inl ne_a23_0_ws))
 refine gA C X22 e22 f23 (ow23 C.w) d23_28 d23_29 fun T24 X24 e24 => ?_
 refine sC C X24 d23_32 ?_
 refine si C X24 d23_33 ?_
 refine sM C X24 d23_35 ?_
 refine lA C X24 e24 V22 d23_36 ?_
 refine gA C X24 e24 f23 (ow23 C.w) d23_37 d23_38 fun T25 X25 e25 => ?_
 refine sC C X25 d23_41 ?_
 refine si C X25 d23_42 ?_
 refine sM C X25 d23_44 ?_
 refine sC C X25 d23_45 ?_
 refine sP C X25 d23_46 ?_
 refine lA C X25 e25 V22 d23_47 ?_
 refine cS C X25 e25 (fun ws => rm19 l Z a0 C.w ws x18 m3_3 h22 n0 Z22 ) (W := 0) (ow106 C.w) (ow107 C.w) (ow108 C.w) (ow68 C.w) (argsL := [(.long x18), (.long m3_3)]) (lenOf pd__JJ_J rfl) d23_48 fun v26 T26 lo26 X26 hQ26 => ?_
 obtain ⟨rfl, Nq26, e26⟩ := hQ26
 obtain ⟨x27, hx27⟩ : ∃ z : Int64, z = (own_m x18 m3_3) := ⟨_, rfl⟩
 rw [← hx27]
 refine wl C X26 #[oR a23_0, oI 2, oJ q23_2, oD, oI 1, oJ x27, oD] d23_51 ?_
 refine gA C X26 e26 f23 (ow23 C.w) d23_53 d23_54 fun T28 X28 e28 => ?_
 refine si C X28 d23_57 ?_
 refine lA C X28 e28 V22 d23_59 ?_
 refine sl C X28 d23_60 ?_
 refine tC C X28 d23_62 ?_
 by_cases h63_29 : m3_1 = x27
 · refine bN C X28 d23_63 ((if0 _ _).trans (teq ((lw_eq _ _).mpr h63_29)).2) ?_
   refine sG C X28 d23_66 87 ?_
   refine rV C X28 e28 hret d23_87 ?_
   subst hx27
   subst hx18
   subst hx9
   subst hm3_1
   subst hm3_2
   subst hm3_3
   subst hm3_4
   subst hm3_5
   subst hm3_6
   subst hm3_7
   exact ⟨rfl, (N22.app Nq26), K22, S22, ⟨_, own_arv V22 (own_cons rfl (own_cons (congrArg Value.long h63_29.symm) (own_cons rfl (own_cons rfl (own_cons rfl (own_cons rfl (own_cons rfl (own_cons rfl (own_cons rfl (own_cons rfl (own_cons rfl (own_cons rfl (own_cons rfl (own_cons rfl (own_cons rfl (own_cons rfl rfl))))))))))))))))⟩⟩
 refine bY C X28 d23_63 69 ((if0 _ _).trans (feq (fun q => h63_29 ((lw_eq _ _).mp q))).2) ?_
 refine gA C X28 e28 f23 (ow23 C.w) d23_69 d23_70 fun T30 X30 e30 => ?_
 refine si C X30 d23_73 ?_
 refine sl C X30 d23_75 ?_
 refine sJ C X30 e30 (N22.app Nq26) g_ws V22 _ d23_77 fun T31 h31 lo31 X31 e31 N31 W31 V31 => ?_
 have S31 : own_StK Z h0 h31 := S22.wr W31
 have K31 : Keep h0 h31 [ws] := K22.wr W31 (Or.inl (List.mem_of_getElem? (i := 0) rfl))
 have Z31 : n0 ≤ h31.size := Nat.le_trans Z0 K31.1
 refine si C X31 d23_78 ?_
 refine sC C X31 d23_80 ?_
 refine own_Fin.st (g' := (mkF m 82 #[oR a23_0, oI 2, oJ q23_2, oD, oI 1, oJ x27, oD] [(.int (0 : Int32))])) ?_ (fun t k => XS.idiv X31.here C.1 rfl (C.d d23_81) rfl (by decide : ¬ ((2 : Int32) = (0 : Int32))) k)
 refine wi C X31 #[oR a23_0, oI 2, oJ q23_2, oD, oI 0, oJ x27, oD] d23_82 ?_
 refine sG C X31 d23_84 23 ?_
 refine si C X31 d23_23 ?_
 refine bY C X31 d23_25 87 ((if0 _ _).trans (flt (by decide : ¬ ((0 : Int32) < (0 : Int32)))).2.2.2) ?_
 refine rV C X31 e31 hret d23_87 ?_
 subst hx27
 subst hx18
 subst hx9
 subst hm3_1
 subst hm3_2
 subst hm3_3
 subst hm3_4
 subst hm3_5
 subst hm3_6
 subst hm3_7
 exact ⟨rfl, N31, K31, S31, ⟨_, own_arv V31 (own_cons rfl (own_cons rfl (own_cons rfl (own_cons rfl (own_cons rfl (own_cons rfl (own_cons rfl (own_cons rfl (own_cons rfl (own_cons rfl (own_cons rfl (own_cons rfl (own_cons rfl (own_cons rfl (own_cons rfl (own_cons rfl rfl))))))))))))))))⟩⟩
def own_psb (p32_1 : Int32) (t_ww_0 : Int64) : Int32 := (if (t_ww_0 &&& (((-1 : Int64).toUInt64 >>> ((-(p32_1 + (1 : Int32))) &&& 0x3f).toInt64.toUInt64).toInt64)) = (0 : Int64) then (-1 : Int32) else ((63 : Int32) - (own_lnlz (t_ww_0 &&& (((-1 : Int64).toUInt64 >>> ((-(p32_1 + (1 : Int32))) &&& 0x3f).toInt64.toUInt64).toInt64)))))
theorem d32_38 : decode oc32 38 = .ok (.aload_n 0, 1):=by decide +kernel
theorem d32_39 : decode oc32 39 = .ok (.invokevirtual 56, 3):=by decide +kernel
theorem d32_42 : decode oc32 42 = .ok (.iload_n 1, 1):=by decide +kernel
theorem d32_43 : decode oc32 43 = .ok (.invokestatic 52, 3):=by decide +kernel
theorem d32_46 : decode oc32 46 = .ok (.istore_n 2, 1):=by decide +kernel
theorem d32_47 : decode oc32 47 = .ok (.iload_n 2, 1):=by decide +kernel
theorem d32_48 : decode oc32 48 = .ok (.aload_n 0, 1):=by decide +kernel
theorem d32_49 : decode oc32 49 = .ok (.getfield 7, 3):=by decide +kernel
theorem d32_52 : decode oc32 52 = .ok (.if_icmp .lt 10, 3):=by decide +kernel
theorem d32_62 : decode oc32 62 = .ok (.aload_n 0, 1):=by decide +kernel
theorem d32_63 : decode oc32 63 = .ok (.getfield 11, 3):=by decide +kernel
theorem d32_66 : decode oc32 66 = .ok (.iload_n 2, 1):=by decide +kernel
theorem d32_67 : decode oc32 67 = .ok (.laload, 1):=by decide +kernel
theorem d32_68 : decode oc32 68 = .ok (.ldc2_w 165, 3):=by decide +kernel
theorem d32_71 : decode oc32 71 = .ok (.iload_n 1, 1):=by decide +kernel
theorem d32_72 : decode oc32 72 = .ok (.iconst 1, 1):=by decide +kernel
theorem d32_73 : decode oc32 73 = .ok (.iadd, 1):=by decide +kernel
theorem d32_74 : decode oc32 74 = .ok (.ineg, 1):=by decide +kernel
theorem d32_75 : decode oc32 75 = .ok (.lushr, 1):=by decide +kernel
theorem d32_76 : decode oc32 76 = .ok (.land, 1):=by decide +kernel
theorem d32_77 : decode oc32 77 = .ok (.lstore_n 3, 1):=by decide +kernel
theorem d32_78 : decode oc32 78 = .ok (.lload_n 3, 1):=by decide +kernel
theorem d32_79 : decode oc32 79 = .ok (.lconst 0, 1):=by decide +kernel
theorem d32_80 : decode oc32 80 = .ok (.lcmp, 1):=by decide +kernel
theorem d32_81 : decode oc32 81 = .ok (.ifCond .eq 17, 3):=by decide +kernel
theorem d32_84 : decode oc32 84 = .ok (.iload_n 2, 1):=by decide +kernel
theorem d32_85 : decode oc32 85 = .ok (.iconst 1, 1):=by decide +kernel
theorem d32_86 : decode oc32 86 = .ok (.iadd, 1):=by decide +kernel
theorem d32_87 : decode oc32 87 = .ok (.bipush 64, 2):=by decide +kernel
theorem d32_89 : decode oc32 89 = .ok (.imul, 1):=by decide +kernel
theorem d32_90 : decode oc32 90 = .ok (.iconst 1, 1):=by decide +kernel
theorem d32_91 : decode oc32 91 = .ok (.isub, 1):=by decide +kernel
theorem d32_92 : decode oc32 92 = .ok (.lload_n 3, 1):=by decide +kernel
theorem d32_93 : decode oc32 93 = .ok (.invokestatic 190, 3):=by decide +kernel
theorem d32_96 : decode oc32 96 = .ok (.isub, 1):=by decide +kernel
theorem d32_97 : decode oc32 97 = .ok (.ireturn, 1):=by decide +kernel
theorem d32_98 : decode oc32 98 = .ok (.iload_n 2, 1):=by decide +kernel
theorem d32_99 : decode oc32 99 = .ok (.iinc 2 (-1), 3):=by decide +kernel
theorem d32_102 : decode oc32 102 = .ok (.ifCond .ne 5, 3):=by decide +kernel
theorem d32_105 : decode oc32 105 = .ok (.iconst (-1), 1):=by decide +kernel
theorem d32_106 : decode oc32 106 = .ok (.ireturn, 1):=by decide +kernel
theorem ef_rm32_2 (m : MethodId) (y0 : Addr) (y1 : Int32) : entryFrame m #[(.ref y0), (.int y1)] 5 = mkF m 0 #[oR y0, oI y1, oU, oU, oU] [] := by first | (simp [entryFrame, mkF, argsToLocals, Value.category]; done) | rfl
def Q_rm32_2 (Z : State) (a32_0 : Addr) (p32_1 : Int32) (ww : Addr) (kc_ww : ClassId) (t_ww_0 : Int64) (h0 : Heap) (n0 : Nat) (v : Option Value) (h : Heap) (L : List Loc) : Prop := v = some (.int (own_psb p32_1 t_ww_0)) ∧ Fr n0 L ∧ h = h0
theorem rm32_2 (l : Launch) (Z : State) (a0 : Array Value) (hw : own_T Z a0) (a32_0 : Addr) (p32_1 : Int32) (ww : Addr) (kc_ww : ClassId) (t_ww_0 : Int64) (h0 : Heap) (n0 : Nat) (Z0 : n0 ≤ h0.size) (hn : ¬ (p32_1 < (0 : Int32))) (hu : (p32_1 >>> ((6 : Int32) &&& 31)) = (0 : Int32)) (E_a : Exa Z h0 a32_0 oB) (F_wordsInUse : Fld Z h0 a32_0 oB "wordsInUse" "I" (.int (1 : Int32))) (F_sizeIsSticky : Fld Z h0 a32_0 oB "sizeIsSticky" "Z" (.int (1 : Int32))) (F_words : Fld Z h0 a32_0 oB "words" "[J" (.ref ww)) (V_ww : Arv Z h0 ww kc_ww .long (1 : Int32) [(.long t_ww_0)] oZ) (Sta1 : Sta Z h0 oB "$assertionsDisabled" "Z" (.int (1 : Int32))) :
   own_Met l (⟨oB, "previousSetBit", "(I)I"⟩ : MethodName) oc32 5 (some .int) ({ frames := 2, cells := 0, slots := 0, locals := 29 } : Room) Z h0 #[(.ref a32_0), (.int p32_1)] (Q_rm32_2 Z a32_0 p32_1 ww kc_ww t_ww_0 h0 n0) := by
 refine own_go hw (plainFor_of_name pn_32) (fun m => ef_rm32_2 m a32_0 p32_1) fun p e s m below meth c T0 C hret X0 e0 => ?_
 have N0 := Fr.nil n0
 refine sI C X0 d32_0 ?_
 refine bY C X0 d32_1 38 ((if0 _ _).trans (flt hn).2.1) ?_
 refine sA C X0 d32_38 ?_
 refine cP C X0 e0 (fun ws => rm13 l Z a0 C.w ws a32_0 h0 n0 Z0 Sta1) E_a (W := 0) (ow81 C.w) (ow82 C.w) (mvT C.z (ow84 C.w)) (ow83 C.w) (ow85 C.w) (ow27 C.w) (argsL := []) (lenOf pd___V rfl) d32_39 fun v1 T1 lo1 X1 hQ1 => ?_
 obtain ⟨rfl, Nq1, e1⟩ := hQ1
 refine sI C X1 d32_42 ?_
 refine cS C X1 e1 (fun ws => rm6 l Z a0 C.w ws p32_1 h0 n0 Z0 ) (W := 0) (ow41 C.w) (ow42 C.w) (ow43 C.w) (ow27 C.w) (argsL := [(.int p32_1)]) (lenOf pd__I_I rfl) d32_43 fun v2 T2 lo2 X2 hQ2 => ?_
 obtain ⟨rfl, Nq2, e2⟩ := hQ2
 rw [hu]
 refine wI C X2 #[oR a32_0, oI p32_1, oI 0, oU, oU] d32_46 ?_
 refine sI C X2 d32_47 ?_
 refine gA C X2 e2 F_wordsInUse (ow32 C.w) d32_48 d32_49 fun T3 X3 e3 => ?_
 refine cY C X3 d32_52 62 ((tlt (by decide : (0 : Int32) < (1 : Int32))).1) ?_
 refine gA C X3 e3 F_words (ow44 C.w) d32_62 d32_63 fun T4 X4 e4 => ?_
 refine sI C X4 d32_66 ?_
 refine lA C X4 e4 V_ww d32_67 ?_
 refine kJ C X4 (ow140 C.w) d32_68 ?_
 refine sI C X4 d32_71 ?_
 refine sC C X4 d32_72 ?_
 refine sP C X4 d32_73 ?_
 refine sE C X4 d32_74 ?_
 refine tU C X4 d32_75 ?_
 refine tA C X4 d32_76 ?_
 refine wL C X4 #[oR a32_0, oI p32_1, oI 0, oJ (t_ww_0 &&& (((-1 : Int64).toUInt64 >>> ((-(p32_1 + (1 : Int32))) &&& 0x3f).toInt64.toUInt64).toInt64)), oD] d32_77 ?_
 refine sL C X4 d32_78 ?_
 refine tK C X4 d32_79 ?_
 refine tC C X4 d32_80 ?_
 by_cases h81_5 : (t_ww_0 &&& (((-1 : Int64).toUInt64 >>> ((-(p32_1 + (1 : Int32))) &&& 0x3f).toInt64.toUInt64).toInt64)) = (0 : Int64)
 · refine bY C X4 d32_81 98 ((if0 _ _).trans (teq ((lw_eq _ _).mpr h81_5)).1) ?_
   refine sI C X4 d32_98 ?_
   refine wc C X4 #[oR a32_0, oI p32_1, oI (-1), oJ (t_ww_0 &&& (((-1 : Int64).toUInt64 >>> ((-(p32_1 + (1 : Int32))) &&& 0x3f).toInt64.toUInt64).toInt64)), oD] d32_99 ?_
   refine bN C X4 d32_102 ((if0 _ _).trans (teq (by decide : (0 : Int32) = (0 : Int32))).2) ?_
   refine sC C X4 d32_105 ?_
   refine rI C X4 e4 hret d32_106 ?_
   exact ⟨(congrArg (fun z => some (Value.int z)) (if_pos h81_5).symm), ((N0.app Nq1).app Nq2), rfl⟩
 refine bN C X4 d32_81 ((if0 _ _).trans (feq (fun q => h81_5 ((lw_eq _ _).mp q))).1) ?_
 refine sI C X4 d32_84 ?_
 refine sC C X4 d32_85 ?_
 refine sP C X4 d32_86 ?_
 refine sB C X4 d32_87 ?_
 refine sM C X4 d32_89 ?_
 refine sC C X4 d32_90 ?_
 refine sS C X4 d32_91 ?_
 refine sL C X4 d32_92 ?_
 refine cB C X4 e4 (W := 1) (Jvm.Free.JP.Long_numberOfLeadingZeros_J.pays (t_ww_0 &&& (((-1 : Int64).toUInt64 >>> ((-(p32_1 + (1 : Int32))) &&& 0x3f).toInt64.toUInt64).toInt64)) (own_tY C) (by decide) (by decide)) (ow173 C.w) (ow174 C.w) (ow175 C.w) (ow143 C.w) (argsL := [(.long (t_ww_0 &&& (((-1 : Int64).toUInt64 >>> ((-(p32_1 + (1 : Int32))) &&& 0x3f).toInt64.toUInt64).toInt64)))]) (lenOf pd__J_I rfl) (fun _ => ⟨rfl, trivial⟩) d32_93 fun T6 X6 e6 => ?_
 refine sS C X6 d32_96 ?_
 refine rI C X6 e6 hret d32_97 ?_
 exact ⟨(congrArg (fun z => some (Value.int z)) (if_neg h81_5).symm), ((N0.app Nq1).app Nq2), rfl⟩
def own_sh8 (l_ws_0 : Int64) (l_ws_1 : Int64) (l_ws_2 : Int64) (l_ws_3 : Int64) (l_ws_4 : Int64) (l_ws_5 : Int64) (l_ws_6 : Int64) (l_ws_7 : Int64) : Int32 := (if (own_m (own_m l_ws_4 l_ws_5) (own_m l_ws_6 l_ws_7)) < (own_m (own_m l_ws_0 l_ws_1) (own_m l_ws_2 l_ws_3)) then (if (own_m l_ws_6 l_ws_7) < (own_m l_ws_4 l_ws_5) then (if l_ws_7 < l_ws_6 then (7 : Int32) else (6 : Int32)) else (if l_ws_5 < l_ws_4 then (5 : Int32) else (4 : Int32))) else (if (own_m l_ws_2 l_ws_3) < (own_m l_ws_0 l_ws_1) then (if l_ws_3 < l_ws_2 then (3 : Int32) else (2 : Int32)) else (if l_ws_1 < l_ws_0 then (1 : Int32) else (0 : Int32))))
theorem d31_0 : decode oc31 0 = .ok (.aload_n 0, 1):=by decide +kernel
theorem d31_1 : decode oc31 1 = .ok (.getfield 9, 3):=by decide +kernel
theorem d31_4 : decode oc31 4 = .ok (.arraylength, 1):=by decide +kernel
theorem d31_5 : decode oc31 5 = .ok (.istore_n 1, 1):=by decide +kernel
theorem d31_6 : decode oc31 6 = .ok (.iconst 1, 1):=by decide +kernel
theorem d31_7 : decode oc31 7 = .ok (.istore_n 2, 1):=by decide +kernel
theorem d31_8 : decode oc31 8 = .ok (.iload_n 2, 1):=by decide +kernel
theorem d31_9 : decode oc31 9 = .ok (.iload_n 1, 1):=by decide +kernel
theorem d31_10 : decode oc31 10 = .ok (.if_icmp .ge 40, 3):=by decide +kernel
theorem d31_13 : decode oc31 13 = .ok (.aload_n 0, 1):=by decide +kernel
theorem d31_14 : decode oc31 14 = .ok (.getfield 21, 3):=by decide +kernel
theorem d31_17 : decode oc31 17 = .ok (.iconst 2, 1):=by decide +kernel
theorem d31_18 : decode oc31 18 = .ok (.iload_n 2, 1):=by decide +kernel
theorem d31_19 : decode oc31 19 = .ok (.imul, 1):=by decide +kernel
theorem d31_20 : decode oc31 20 = .ok (.laload, 1):=by decide +kernel
theorem d31_21 : decode oc31 21 = .ok (.aload_n 0, 1):=by decide +kernel
theorem d31_22 : decode oc31 22 = .ok (.getfield 21, 3):=by decide +kernel
theorem d31_25 : decode oc31 25 = .ok (.iconst 2, 1):=by decide +kernel
theorem d31_26 : decode oc31 26 = .ok (.iload_n 2, 1):=by decide +kernel
theorem d31_27 : decode oc31 27 = .ok (.imul, 1):=by decide +kernel
theorem d31_28 : decode oc31 28 = .ok (.iconst 1, 1):=by decide +kernel
theorem d31_29 : decode oc31 29 = .ok (.iadd, 1):=by decide +kernel
theorem d31_30 : decode oc31 30 = .ok (.laload, 1):=by decide +kernel
theorem d31_31 : decode oc31 31 = .ok (.lcmp, 1):=by decide +kernel
theorem d31_32 : decode oc31 32 = .ok (.ifCond .gt 9, 3):=by decide +kernel
theorem d31_35 : decode oc31 35 = .ok (.iconst 2, 1):=by decide +kernel
theorem d31_36 : decode oc31 36 = .ok (.iload_n 2, 1):=by decide +kernel
theorem d31_37 : decode oc31 37 = .ok (.imul, 1):=by decide +kernel
theorem d31_38 : decode oc31 38 = .ok (.goto 8, 3):=by decide +kernel
theorem d31_41 : decode oc31 41 = .ok (.iconst 2, 1):=by decide +kernel
theorem d31_42 : decode oc31 42 = .ok (.iload_n 2, 1):=by decide +kernel
theorem d31_43 : decode oc31 43 = .ok (.imul, 1):=by decide +kernel
theorem d31_44 : decode oc31 44 = .ok (.iconst 1, 1):=by decide +kernel
theorem d31_45 : decode oc31 45 = .ok (.iadd, 1):=by decide +kernel
theorem d31_46 : decode oc31 46 = .ok (.istore_n 2, 1):=by decide +kernel
theorem d31_47 : decode oc31 47 = .ok (.goto (-39), 3):=by decide +kernel
theorem d31_50 : decode oc31 50 = .ok (.iload_n 2, 1):=by decide +kernel
theorem d31_51 : decode oc31 51 = .ok (.iload_n 1, 1):=by decide +kernel
theorem d31_52 : decode oc31 52 = .ok (.isub, 1):=by decide +kernel
theorem d31_53 : decode oc31 53 = .ok (.ireturn, 1):=by decide +kernel
theorem pn_31 : plainName oL = true := by first | (simp [plainName, overriddenIn]; done) | decide +kernel
theorem ef_rm31_8 (m : MethodId) (y0 : Addr) : entryFrame m #[(.ref y0)] 3 = mkF m 0 #[oR y0, oU, oU] [] := by first | (simp [entryFrame, mkF, argsToLocals, Value.category]; done) | rfl
def Q_rm31_8 (Z : State) (a31_0 wt : Addr) (kc_wt : ClassId) (t_wt_0 t_wt_1 t_wt_2 t_wt_3 t_wt_4 t_wt_5 t_wt_6 t_wt_7 : Int64) (ws : Addr) (l_ws_0 l_ws_1 l_ws_2 l_ws_3 l_ws_4 l_ws_5 l_ws_6 l_ws_7 : Int64) (h0 : Heap) (n0 : Nat) (v : Option Value) (h : Heap) (L : List Loc) : Prop := v = some (.int (own_sh8 l_ws_0 l_ws_1 l_ws_2 l_ws_3 l_ws_4 l_ws_5 l_ws_6 l_ws_7)) ∧ Fr n0 L ∧ h = h0
theorem rm31_8 (l : Launch) (Z : State) (a0 : Array Value) (hw : own_T Z a0) (a31_0 wt : Addr) (kc_wt : ClassId) (t_wt_0 t_wt_1 t_wt_2 t_wt_3 t_wt_4 t_wt_5 t_wt_6 t_wt_7 : Int64) (ws : Addr) (l_ws_0 l_ws_1 l_ws_2 l_ws_3 l_ws_4 l_ws_5 l_ws_6 l_ws_7 : Int64) (h0 : Heap) (n0 : Nat) (Z0 : n0 ≤ h0.size) (F_times : Fld Z h0 a31_0 oL "times" "[J" (.ref wt)) (V_wt : Arv Z h0 wt kc_wt .long (8 : Int32) [(.long t_wt_0), (.long t_wt_1), (.long t_wt_2), (.long t_wt_3), (.long t_wt_4), (.long t_wt_5), (.long t_wt_6), (.long t_wt_7)] oZ) (F_spans : Fld Z h0 a31_0 oL "spans" "[J" (.ref ws)) (T_ws : own_Sp8 Z h0 ws l_ws_0 l_ws_1 l_ws_2 l_ws_3 l_ws_4 l_ws_5 l_ws_6 l_ws_7) :
   own_Met l oy31 oc31 3 (some .int) ({ frames := 0, cells := 0, slots := 0, locals := 0 } : Room) Z h0 #[(.ref a31_0)] (Q_rm31_8 Z a31_0 wt kc_wt t_wt_0 t_wt_1 t_wt_2 t_wt_3 t_wt_4 t_wt_5 t_wt_6 t_wt_7 ws l_ws_0 l_ws_1 l_ws_2 l_ws_3 l_ws_4 l_ws_5 l_ws_6 l_ws_7 h0 n0) := by
 refine own_go hw (plainFor_of_name pn_31) (fun m => ef_rm31_8 m a31_0) fun p e s m below meth c T0 C hret X0 e0 => ?_
 have N0 := Fr.nil n0
 refine gA C X0 e0 F_times (ow17 C.w) d31_0 d31_1 fun T1 X1 e1 => ?_
 refine nA C X1 e1 V_wt d31_4 ?_
 refine wI C X1 #[oR a31_0, oI 8, oU] d31_5 ?_
 refine sC C X1 d31_6 ?_
 refine wI C X1 #[oR a31_0, oI 8, oI 1] d31_7 ?_
 refine sI C X1 d31_8 ?_
 refine sI C X1 d31_9 ?_
 refine cN C X1 d31_10 ((tlt (by decide : (1 : Int32) < (8 : Int32))).2.1) ?_
 refine gA C X1 e1 F_spans (ow23 C.w) d31_13 d31_14 fun T2 X2 e2 => ?_
 refine sC C X2 d31_17 ?_
 refine sI C X2 d31_18 ?_
 refine sM C X2 d31_19 ?_
 obtain ⟨kq3, VT3⟩ := id T_ws
 obtain ⟨m3_7, hm3_7⟩ : ∃ z : Int64, z = (own_m l_ws_6 l_ws_7) := ⟨_, rfl⟩
 rw [← hm3_7] at VT3
 obtain ⟨m3_6, hm3_6⟩ : ∃ z : Int64, z = (own_m l_ws_4 l_ws_5) := ⟨_, rfl⟩
 rw [← hm3_6] at VT3
 obtain ⟨m3_5, hm3_5⟩ : ∃ z : Int64, z = (own_m l_ws_2 l_ws_3) := ⟨_, rfl⟩
 rw [← hm3_5] at VT3
 obtain ⟨m3_4, hm3_4⟩ : ∃ z : Int64, z = (own_m l_ws_0 l_ws_1) := ⟨_, rfl⟩
 rw [← hm3_4] at VT3
 obtain ⟨m3_3, hm3_3⟩ : ∃ z : Int64, z = (own_m m3_6 m3_7) := ⟨_, rfl⟩
 rw [← hm3_3] at VT3
 obtain ⟨m3_2, hm3_2⟩ : ∃ z : Int64, z = (own_m m3_4 m3_5) := ⟨_, rfl⟩
 rw [← hm3_2] at VT3
 obtain ⟨m3_1, hm3_1⟩ : ∃ z : Int64, z = (own_m m3_2 m3_3) := ⟨_, rfl⟩
 rw [← hm3_1] at VT3
 refine lA C X2 e2 VT3 d31_20 ?_
 refine gA C X2 e2 F_spans (ow23 C.w) d31_21 d31_22 fun T4 X4 e4 => ?_
 refine sC C X4 d31_25 ?_
 refine sI C X4 d31_26 ?_
 refine sM C X4 d31_27 ?_
 refine sC C X4 d31_28 ?_
 refine sP C X4 d31_29 ?_
 refine lA C X4 e4 VT3 d31_30 ?_
 refine tC C X4 d31_31 ?_
 by_cases h32_5 : m3_3 < m3_2
 · refine bY C X4 d31_32 41 ((if0 _ _).trans (tlt ((lw_gt _ _).mpr h32_5)).2.2.1) ?_
   refine sC C X4 d31_41 ?_
   refine sI C X4 d31_42 ?_
   refine sM C X4 d31_43 ?_
   refine sC C X4 d31_44 ?_
   refine sP C X4 d31_45 ?_
   refine wI C X4 #[oR a31_0, oI 8, oI 3] d31_46 ?_
   refine sG C X4 d31_47 8 ?_
   refine sI C X4 d31_8 ?_
   refine sI C X4 d31_9 ?_
   refine cN C X4 d31_10 ((tlt (by decide : (3 : Int32) < (8 : Int32))).2.1) ?_
   refine gA C X4 e4 F_spans (ow23 C.w) d31_13 d31_14 fun T6 X6 e6 => ?_
   refine sC C X6 d31_17 ?_
   refine sI C X6 d31_18 ?_
   refine sM C X6 d31_19 ?_
   refine lA C X6 e6 VT3 d31_20 ?_
   refine gA C X6 e6 F_spans (ow23 C.w) d31_21 d31_22 fun T7 X7 e7 => ?_
   refine sC C X7 d31_25 ?_
   refine sI C X7 d31_26 ?_
   refine sM C X7 d31_27 ?_
   refine sC C X7 d31_28 ?_
   refine sP C X7 d31_29 ?_
   refine lA C X7 e7 VT3 d31_30 ?_
   refine tC C X7 d31_31 ?_
   by_cases h32_8 : m3_7 < m3_6
   · refine bY C X7 d31_32 41 ((if0 _ _).trans (tlt ((lw_gt _ _).mpr h32_8)).2.2.1) ?_
     refine sC C X7 d31_41 ?_
     refine sI C X7 d31_42 ?_
     refine sM C X7 d31_43 ?_
     refine sC C X7 d31_44 ?_
     refine sP C X7 d31_45 ?_
     refine wI C X7 #[oR a31_0, oI 8, oI 7] d31_46 ?_
     refine sG C X7 d31_47 8 ?_
     refine sI C X7 d31_8 ?_
     refine sI C X7 d31_9 ?_
     refine cN C X7 d31_10 ((tlt (by decide : (7 : Int32) < (8 : Int32))).2.1) ?_
     refine gA C X7 e7 F_spans (ow23 C.w) d31_13 d31_14 fun T9 X9 e9 => ?_
     refine sC C X9 d31_17 ?_
     refine sI C X9 d31_18 ?_
     refine sM C X9 d31_19 ?_
     refine lA C X9 e9 VT3 d31_20 ?_
     refine gA C X9 e9 F_spans (ow23 C.w) d31_21 d31_22 fun T10 X10 e10 => ?_
     refine sC C X10 d31_25 ?_
     refine sI C X10 d31_26 ?_
     refine sM C X10 d31_27 ?_
     refine sC C X10 d31_28 ?_
     refine sP C X10 d31_29 ?_
     refine lA C X10 e10 VT3 d31_30 ?_
     refine tC C X10 d31_31 ?_
     by_cases h32_11 : l_ws_7 < l_ws_6
     · refine bY C X10 d31_32 41 ((if0 _ _).trans (tlt ((lw_gt _ _).mpr h32_11)).2.2.1) ?_
       refine sC C X10 d31_41 ?_
       refine sI C X10 d31_42 ?_
       refine sM C X10 d31_43 ?_
       refine sC C X10 d31_44 ?_
       refine sP C X10 d31_45 ?_
       refine wI C X10 #[oR a31_0, oI 8, oI 15] d31_46 ?_
       refine sG C X10 d31_47 8 ?_
       refine sI C X10 d31_8 ?_
       refine sI C X10 d31_9 ?_
       refine cY C X10 d31_10 50 ((flt (by decide : ¬ ((15 : Int32) < (8 : Int32)))).2.1) ?_
       refine sI C X10 d31_50 ?_
       refine sI C X10 d31_51 ?_
       refine sS C X10 d31_52 ?_
       refine rI C X10 e10 hret d31_53 ?_
       subst hm3_1
       subst hm3_2
       subst hm3_3
       subst hm3_4
       subst hm3_5
       subst hm3_6
       subst hm3_7
       exact ⟨(congrArg (fun z => some (Value.int z)) ((if_pos h32_5).trans ((if_pos h32_8).trans (if_pos h32_11))).symm), N0, rfl⟩
     refine bN C X10 d31_32 ((if0 _ _).trans (flt (fun q => h32_11 ((lw_gt _ _).mp q))).2.2.1) ?_
     refine sC C X10 d31_35 ?_
     refine sI C X10 d31_36 ?_
     refine sM C X10 d31_37 ?_
     refine sG C X10 d31_38 46 ?_
     refine wI C X10 #[oR a31_0, oI 8, oI 14] d31_46 ?_
     refine sG C X10 d31_47 8 ?_
     refine sI C X10 d31_8 ?_
     refine sI C X10 d31_9 ?_
     refine cY C X10 d31_10 50 ((flt (by decide : ¬ ((14 : Int32) < (8 : Int32)))).2.1) ?_
     refine sI C X10 d31_50 ?_
     refine sI C X10 d31_51 ?_
     refine sS C X10 d31_52 ?_
     refine rI C X10 e10 hret d31_53 ?_
     subst hm3_1
     subst hm3_2
     subst hm3_3
     subst hm3_4
     subst hm3_5
     subst hm3_6
     subst hm3_7
     exact ⟨(congrArg (fun z => some (Value.int z)) ((if_pos h32_5).trans ((if_pos h32_8).trans (if_neg h32_11))).symm), N0, rfl⟩
   refine bN C X7 d31_32 ((if0 _ _).trans (flt (fun q => h32_8 ((lw_gt _ _).mp q))).2.2.1) ?_
   refine sC C X7 d31_35 ?_
   refine sI C X7 d31_36 ?_
   refine sM C X7 d31_37 ?_
   refine sG C X7 d31_38 46 ?_
   refine wI C X7 #[oR a31_0, oI 8, oI 6] d31_46 ?_
   refine sG C X7 d31_47 8 ?_
   refine sI C X7 d31_8 ?_
   refine sI C X7 d31_9 ?_
   refine cN C X7 d31_10 ((tlt (by decide : (6 : Int32) < (8 : Int32))).2.1) ?_
   refine gA C X7 e7 F_spans (ow23 C.w) d31_13 d31_14 fun T12 X12 e12 => ?_
   refine sC C X12 d31_17 ?_
   refine sI C X12 d31_18 ?_
   refine sM C X12 d31_19 ?_
   refine lA C X12 e12 VT3 d31_20 ?_
   refine gA C X12 e12 F_spans (ow23 C.w) d31_21 d31_22 fun T13 X13 e13 => ?_
   refine sC C X13 d31_25 ?_
   refine sI C X13 d31_26 ?_
   refine sM C X13 d31_27 ?_
   refine sC C X13 d31_28 ?_
   refine sP C X13 d31_29 ?_
   refine lA C X13 e13 VT3 d31_30 ?_
   refine tC C X13 d31_31 ?_
   by_cases h32_14 : l_ws_5 < l_ws_4
   · refine bY C X13 d31_32 41 ((if0 _ _).trans (tlt ((lw_gt _ _).mpr h32_14)).2.2.1) ?_
     refine sC C X13 d31_41 ?_
     refine sI C X13 d31_42 ?_
     refine sM C X13 d31_43 ?_
     refine sC C X13 d31_44 ?_
     refine sP C X13 d31_45 ?_
     refine wI C X13 #[oR a31_0, oI 8, oI 13] d31_46 ?_
     refine sG C X13 d31_47 8 ?_
     refine sI C X13 d31_8 ?_
     refine sI C X13 d31_9 ?_
     refine cY C X13 d31_10 50 ((flt (by decide : ¬ ((13 : Int32) < (8 : Int32)))).2.1) ?_
     refine sI C X13 d31_50 ?_
     refine sI C X13 d31_51 ?_
     refine sS C X13 d31_52 ?_
     refine rI C X13 e13 hret d31_53 ?_
     subst hm3_1
     subst hm3_2
     subst hm3_3
     subst hm3_4
     subst hm3_5
     subst hm3_6
     subst hm3_7
     exact ⟨(congrArg (fun z => some (Value.int z)) ((if_pos h32_5).trans ((if_neg h32_8).trans (if_pos h32_14))).symm), N0, rfl⟩
   refine bN C X13 d31_32 ((if0 _ _).trans (flt (fun q => h32_14 ((lw_gt _ _).mp q))).2.2.1) ?_
   refine sC C X13 d31_35 ?_
   refine sI C X13 d31_36 ?_
   refine sM C X13 d31_37 ?_
   refine sG C X13 d31_38 46 ?_
   refine wI C X13 #[oR a31_0, oI 8, oI 12] d31_46 ?_
   refine sG C X13 d31_47 8 ?_
   refine sI C X13 d31_8 ?_
   refine sI C X13 d31_9 ?_
   refine cY C X13 d31_10 50 ((flt (by decide : ¬ ((12 : Int32) < (8 : Int32)))).2.1) ?_
   refine sI C X13 d31_50 ?_
   refine sI C X13 d31_51 ?_
   refine sS C X13 d31_52 ?_
   refine rI C X13 e13 hret d31_53 ?_
   subst hm3_1
   subst hm3_2
   subst hm3_3
   subst hm3_4
   subst hm3_5
   subst hm3_6
   subst hm3_7
   exact ⟨(congrArg (fun z => some (Value.int z)) ((if_pos h32_5).trans ((if_neg h32_8).trans (if_neg h32_14))).symm), N0, rfl⟩
 refine bN C X4 d31_32 ((if0 _ _).trans (flt (fun q => h32_5 ((lw_gt _ _).mp q))).2.2.1) ?_
 refine sC C X4 d31_35 ?_
 refine sI C X4 d31_36 ?_
 refine sM C X4 d31_37 ?_
 refine sG C X4 d31_38 46 ?_
 refine wI C X4 #[oR a31_0, oI 8, oI 2] d31_46 ?_
 refine sG C X4 d31_47 8 ?_
 refine sI C X4 d31_8 ?_
 refine sI C X4 d31_9 ?_
 refine cN C X4 d31_10 ((tlt (by decide : (2 : Int32) < (8 : Int32))).2.1) ?_
 refine gA C X4 e4 F_spans (ow23 C.w) d31_13 d31_14 fun T15 X15 e15 => ?_
 refine sC C X15 d31_17 ?_
 refine sI C X15 d31_18 ?_
 refine sM C X15 d31_19 ?_
 refine lA C X15 e15 VT3 d31_20 ?_
 refine gA C X15 e15 F_spans (ow23 C.w) d31_21 d31_22 fun T16 X16 e16 => ?_
 refine sC C X16 d31_25 ?_
 refine sI C X16 d31_26 ?_
 refine sM C X16 d31_27 ?_
 refine sC C X16 d31_28 ?_
 refine sP C X16 d31_29 ?_
 refine lA C X16 e16 VT3 d31_30 ?_
 refine tC C X16 d31_31 ?_
 by_cases h32_17 : m3_5 < m3_4
 · refine bY C X16 d31_32 41 ((if0 _ _).trans (tlt ((lw_gt _ _).mpr h32_17)).2.2.1) ?_
   refine sC C X16 d31_41 ?_
   refine sI C X16 d31_42 ?_
   refine sM C X16 d31_43 ?_
   refine sC C X16 d31_44 ?_
   refine sP C X16 d31_45 ?_
   refine wI C X16 #[oR a31_0, oI 8, oI 5] d31_46 ?_
   refine sG C X16 d31_47 8 ?_
   refine sI C X16 d31_8 ?_
   refine sI C X16 d31_9 ?_
   refine cN C X16 d31_10 ((tlt (by decide : (5 : Int32) < (8 : Int32))).2.1) ?_
   refine gA C X16 e16 F_spans (ow23 C.w) d31_13 d31_14 fun T18 X18 e18 => ?_
   refine sC C X18 d31_17 ?_
   refine sI C X18 d31_18 ?_
   refine sM C X18 d31_19 ?_
   refine lA C X18 e18 VT3 d31_20 ?_
   refine gA C X18 e18 F_spans (ow23 C.w) d31_21 d31_22 fun T19 X19 e19 => ?_
   refine sC C X19 d31_25 ?_
   refine sI C X19 d31_26 ?_
   refine sM C X19 d31_27 ?_
   refine sC C X19 d31_28 ?_
   refine sP C X19 d31_29 ?_
   refine lA C X19 e19 VT3 d31_30 ?_
   refine tC C X19 d31_31 ?_
   by_cases h32_20 : l_ws_3 < l_ws_2
   · refine bY C X19 d31_32 41 ((if0 _ _).trans (tlt ((lw_gt _ _).mpr h32_20)).2.2.1) ?_
     refine sC C X19 d31_41 ?_
     refine sI C X19 d31_42 ?_
     refine sM C X19 d31_43 ?_
     refine sC C X19 d31_44 ?_
     refine sP C X19 d31_45 ?_
     refine wI C X19 #[oR a31_0, oI 8, oI 11] d31_46 ?_
     refine sG C X19 d31_47 8 ?_
     refine sI C X19 d31_8 ?_
     refine sI C X19 d31_9 ?_
     refine cY C X19 d31_10 50 ((flt (by decide : ¬ ((11 : Int32) < (8 : Int32)))).2.1) ?_
     refine sI C X19 d31_50 ?_
     refine sI C X19 d31_51 ?_
     refine sS C X19 d31_52 ?_
     refine rI C X19 e19 hret d31_53 ?_
     subst hm3_1
     subst hm3_2
     subst hm3_3
     subst hm3_4
     subst hm3_5
     subst hm3_6
     subst hm3_7
     exact ⟨(congrArg (fun z => some (Value.int z)) ((if_neg h32_5).trans ((if_pos h32_17).trans (if_pos h32_20))).symm), N0, rfl⟩
   refine bN C X19 d31_32 ((if0 _ _).trans (flt (fun q => h32_20 ((lw_gt _ _).mp q))).2.2.1) ?_
   refine sC C X19 d31_35 ?_
   refine sI C X19 d31_36 ?_
   refine sM C X19 d31_37 ?_
   refine sG C X19 d31_38 46 ?_
   refine wI C X19 #[oR a31_0, oI 8, oI 10] d31_46 ?_
   refine sG C X19 d31_47 8 ?_
   refine sI C X19 d31_8 ?_
   refine sI C X19 d31_9 ?_
   refine cY C X19 d31_10 50 ((flt (by decide : ¬ ((10 : Int32) < (8 : Int32)))).2.1) ?_
   refine sI C X19 d31_50 ?_
   refine sI C X19 d31_51 ?_
   refine sS C X19 d31_52 ?_
   refine rI C X19 e19 hret d31_53 ?_
   subst hm3_1
   subst hm3_2
   subst hm3_3
   subst hm3_4
   subst hm3_5
   subst hm3_6
   subst hm3_7
   exact ⟨(congrArg (fun z => some (Value.int z)) ((if_neg h32_5).trans ((if_pos h32_17).trans (if_neg h32_20))).symm), N0, rfl⟩
 refine bN C X16 d31_32 ((if0 _ _).trans (flt (fun q => h32_17 ((lw_gt _ _).mp q))).2.2.1) ?_
 refine sC C X16 d31_35 ?_
 refine sI C X16 d31_36 ?_
 refine sM C X16 d31_37 ?_
 refine sG C X16 d31_38 46 ?_
 refine wI C X16 #[oR a31_0, oI 8, oI 4] d31_46 ?_
 refine sG C X16 d31_47 8 ?_
 refine sI C X16 d31_8 ?_
 refine sI C X16 d31_9 ?_
 refine cN C X16 d31_10 ((tlt (by decide : (4 : Int32) < (8 : Int32))).2.1) ?_
 refine gA C X16 e16 F_spans (ow23 C.w) d31_13 d31_14 fun T21 X21 e21 => ?_
 refine sC C X21 d31_17 ?_
 refine sI C X21 d31_18 ?_
 refine sM C X21 d31_19 ?_
 refine lA C X21 e21 VT3 d31_20 ?_
 refine gA C X21 e21 F_spans (ow23 C.w) d31_21 d31_22 fun T22 X22 e22 => ?_
 refine sC C X22 d31_25 ?_
 refine sI C X22 d31_26 ?_
 refine sM C X22 d31_27 ?_
 refine sC C X22 d31_28 ?_
 refine sP C X22 d31_29 ?_
 refine lA C X22 e22 VT3 d31_30 ?_
 refine tC C X22 d31_31 ?_
 by_cases h32_23 : l_ws_1 < l_ws_0
 · refine bY C X22 d31_32 41 ((if0 _ _).trans (tlt ((lw_gt _ _).mpr h32_23)).2.2.1) ?_
   refine sC C X22 d31_41 ?_
   refine sI C X22 d31_42 ?_
   refine sM C X22 d31_43 ?_
   refine sC C X22 d31_44 ?_
   refine sP C X22 d31_45 ?_
   refine wI C X22 #[oR a31_0, oI 8, oI 9] d31_46 ?_
   refine sG C X22 d31_47 8 ?_
   refine sI C X22 d31_8 ?_
   refine sI C X22 d31_9 ?_
   refine cY C X22 d31_10 50 ((flt (by decide : ¬ ((9 : Int32) < (8 : Int32)))).2.1) ?_
   refine sI C X22 d31_50 ?_
   refine sI C X22 d31_51 ?_
   refine sS C X22 d31_52 ?_
   refine rI C X22 e22 hret d31_53 ?_
   subst hm3_1
   subst hm3_2
   subst hm3_3
   subst hm3_4
   subst hm3_5
   subst hm3_6
   subst hm3_7
   exact ⟨(congrArg (fun z => some (Value.int z)) ((if_neg h32_5).trans ((if_neg h32_17).trans (if_pos h32_23))).symm), N0, rfl⟩
 refine bN C X22 d31_32 ((if0 _ _).trans (flt (fun q => h32_23 ((lw_gt _ _).mp q))).2.2.1) ?_
 refine sC C X22 d31_35 ?_
 refine sI C X22 d31_36 ?_
 refine sM C X22 d31_37 ?_
 refine sG C X22 d31_38 46 ?_
 refine wI C X22 #[oR a31_0, oI 8, oI 8] d31_46 ?_
 refine sG C X22 d31_47 8 ?_
 refine sI C X22 d31_8 ?_
 refine sI C X22 d31_9 ?_
 refine cY C X22 d31_10 50 ((flt (by decide : ¬ ((8 : Int32) < (8 : Int32)))).2.1) ?_
 refine sI C X22 d31_50 ?_
 refine sI C X22 d31_51 ?_
 refine sS C X22 d31_52 ?_
 refine rI C X22 e22 hret d31_53 ?_
 subst hm3_1
 subst hm3_2
 subst hm3_3
 subst hm3_4
 subst hm3_5
 subst hm3_6
 subst hm3_7
 exact ⟨(congrArg (fun z => some (Value.int z)) ((if_neg h32_5).trans ((if_neg h32_17).trans (if_neg h32_23))).symm), N0, rfl⟩
theorem pd___I : parseMethodDescriptor "()I" = some ⟨[], some .int⟩:=by decide +kernel
theorem own_shl_8_7 (x1 : Int64) (x2 : Int64) (h1 : x1 < oM) (h2 : x2 < oM) : (own_sh8 oM x1 x2 oM oM oM oM oM) = (1 : Int32) ∨ (own_sh8 oM x1 x2 oM oM oM oM oM) = (2 : Int32) := by
 unfold own_sh8
 rw [if_neg (own_nM (R := (own_m (own_m oM oM) (own_m oM oM))) (x := (own_m (own_m oM x1) (own_m x2 oM))) (by decide +kernel))]
 by_cases p2 : (own_m x2 oM) < (own_m oM x1)
 · rw [if_pos p2]
   rw [if_neg (own_nM (R := oM) (x := x2) (by decide +kernel))]
   first | done | decide
 · rw [if_neg p2]
   rw [if_pos (own_ltM (R := x1) (L := oM) (by decide +kernel) h1)]
   first | done | decide
theorem d29_0 : decode oc29 0 = .ok (.aload_n 0, 1):=by decide +kernel
theorem d29_1 : decode oc29 1 = .ok (.getfield 7, 3):=by decide +kernel
theorem d29_4 : decode oc29 4 = .ok (.iconst 1, 1):=by decide +kernel
theorem d29_5 : decode oc29 5 = .ok (.isub, 1):=by decide +kernel
theorem d29_6 : decode oc29 6 = .ok (.istore_n 1, 1):=by decide +kernel
theorem d29_7 : decode oc29 7 = .ok (.iload_n 1, 1):=by decide +kernel
theorem d29_8 : decode oc29 8 = .ok (.ifCond .lt 23, 3):=by decide +kernel
theorem d29_11 : decode oc29 11 = .ok (.aload_n 0, 1):=by decide +kernel
theorem d29_12 : decode oc29 12 = .ok (.getfield 11, 3):=by decide +kernel
theorem d29_15 : decode oc29 15 = .ok (.iload_n 1, 1):=by decide +kernel
theorem d29_16 : decode oc29 16 = .ok (.laload, 1):=by decide +kernel
theorem d29_17 : decode oc29 17 = .ok (.lconst 0, 1):=by decide +kernel
theorem d29_18 : decode oc29 18 = .ok (.lcmp, 1):=by decide +kernel
theorem d29_19 : decode oc29 19 = .ok (.ifCond .eq 6, 3):=by decide +kernel
theorem d29_22 : decode oc29 22 = .ok (.goto 9, 3):=by decide +kernel
theorem d29_25 : decode oc29 25 = .ok (.iinc 1 (-1), 3):=by decide +kernel
theorem d29_28 : decode oc29 28 = .ok (.goto (-21), 3):=by decide +kernel
theorem d29_31 : decode oc29 31 = .ok (.aload_n 0, 1):=by decide +kernel
theorem d29_32 : decode oc29 32 = .ok (.iload_n 1, 1):=by decide +kernel
theorem d29_33 : decode oc29 33 = .ok (.iconst 1, 1):=by decide +kernel
theorem d29_34 : decode oc29 34 = .ok (.iadd, 1):=by decide +kernel
theorem d29_35 : decode oc29 35 = .ok (.putfield 7, 3):=by decide +kernel
theorem d29_38 : decode oc29 38 = .ok (.return_, 1):=by decide +kernel
theorem pn_29 : plainName oB = true := by first | (simp [plainName, overriddenIn]; done) | decide +kernel
theorem ef_rm29_1 (m : MethodId) (y0 : Addr) : entryFrame m #[(.ref y0)] 2 = mkF m 0 #[oR y0, oU] [] := by first | (simp [entryFrame, mkF, argsToLocals, Value.category]; done) | rfl
def Q_rm29_1 (Z : State) (a29_0 ww : Addr) (kc_ww : ClassId) (t_ww_0 : Int64) (h0 : Heap) (n0 : Nat) (v : Option Value) (h : Heap) (L : List Loc) : Prop := v = none ∧ Fr n0 L ∧ Keep h0 h [a29_0] ∧ own_StK Z h0 h ∧ Exa Z h a29_0 oB ∧ Fld Z h a29_0 oB "wordsInUse" "I" (.int (if t_ww_0 = (0 : Int64) then (0 : Int32) else (1 : Int32))) ∧ Fld Z h a29_0 oB "sizeIsSticky" "Z" (.int (1 : Int32)) ∧ Fld Z h a29_0 oB "words" "[J" (.ref ww)
theorem rm29_1 (l : Launch) (Z : State) (a0 : Array Value) (hw : own_T Z a0) (a29_0 ww : Addr) (kc_ww : ClassId) (t_ww_0 : Int64) (h0 : Heap) (n0 : Nat) (Z0 : n0 ≤ h0.size) (E_a : Exa Z h0 a29_0 oB) (F_wordsInUse : Fld Z h0 a29_0 oB "wordsInUse" "I" (.int (1 : Int32))) (F_sizeIsSticky : Fld Z h0 a29_0 oB "sizeIsSticky" "Z" (.int (1 : Int32))) (F_words : Fld Z h0 a29_0 oB "words" "[J" (.ref ww)) (V_ww : Arv Z h0 ww kc_ww .long (1 : Int32) [(.long t_ww_0)] oZ) (g_a29_0 : n0 ≤ a29_0) :
   own_Met l (⟨oB, "recalculateWordsInUse", "()V"⟩ : MethodName) oc29 2 none ({ frames := 0, cells := 0, slots := 0, locals := 0 } : Room) Z h0 #[(.ref a29_0)] (Q_rm29_1 Z a29_0 ww kc_ww t_ww_0 h0 n0) := by
 refine own_go hw (plainFor_of_name pn_29) (fun m => ef_rm29_1 m a29_0) fun p e s m below meth c T0 C hret X0 e0 => ?_
 have N0 := Fr.nil n0
 refine gA C X0 e0 F_wordsInUse (ow32 C.w) d29_0 d29_1 fun T1 X1 e1 => ?_
 refine sC C X1 d29_4 ?_
 refine sS C X1 d29_5 ?_
 refine wI C X1 #[oR a29_0, oI 0] d29_6 ?_
 refine sI C X1 d29_7 ?_
 refine bN C X1 d29_8 ((if0 _ _).trans (flt (by decide : ¬ ((0 : Int32) < (0 : Int32)))).1) ?_
 refine gA C X1 e1 F_words (ow44 C.w) d29_11 d29_12 fun T2 X2 e2 => ?_
 refine sI C X2 d29_15 ?_
 refine lA C X2 e2 V_ww d29_16 ?_
 refine tK C X2 d29_17 ?_
 refine tC C X2 d29_18 ?_
 by_cases h19_3 : t_ww_0 = (0 : Int64)
 · refine bY C X2 d29_19 25 ((if0 _ _).trans (teq ((lw_eq _ _).mpr h19_3)).1) ?_
   refine wc C X2 #[oR a29_0, oI (-1)] d29_25 ?_
   refine sG C X2 d29_28 7 ?_
   refine sI C X2 d29_7 ?_
   refine bY C X2 d29_8 31 ((if0 _ _).trans (tlt (by decide : (-1 : Int32) < (0 : Int32))).1) ?_
   refine sA C X2 d29_31 ?_
   refine sI C X2 d29_32 ?_
   refine sC C X2 d29_33 ?_
   refine sP C X2 d29_34 ?_
   refine pF C X2 e2 N0 g_a29_0 F_wordsInUse E_a (ty := .int) (ow32 C.w) (ow33 C.w) (ow26 C.w) (by decide) d29_35 fun T4 h4 lo4 X4 e4 N4 W4 F4 => ?_
   have S4 : own_StK Z h0 h4 := (own_StK.refl Z h0).wr W4
   have K4 : Keep h0 h4 [a29_0] := (Keep.refl h0 [a29_0]).wr W4 (Or.inl (List.mem_of_getElem? (i := 0) rfl))
   have Z4 : n0 ≤ h4.size := Nat.le_trans Z0 K4.1
   have f6 := (E_a.wr W4)
   have f7 := (F_sizeIsSticky.other W4 (Or.inr (slot_ne (Or.inl (ow35 hw)) (Or.inl (ow33 hw)) (by decide) (t := .boolean) (t' := .int) (by decide) (by decide))))
   have f8 := (F_words.other W4 (Or.inr (slot_ne (Or.inl (ow45 hw)) (Or.inl (ow33 hw)) (by decide) (t := (.array .long)) (t' := .int) (by decide) (by decide))))
   refine rV C X4 e4 hret d29_38 ?_
   exact ⟨rfl, N4, K4, S4, f6, (own_fld F4 (congrArg Value.int (if_pos h19_3))), f7, f8⟩
 refine bN C X2 d29_19 ((if0 _ _).trans (feq (fun q => h19_3 ((lw_eq _ _).mp q))).1) ?_
 refine sG C X2 d29_22 31 ?_
 refine sA C X2 d29_31 ?_
 refine sI C X2 d29_32 ?_
 refine sC C X2 d29_33 ?_
 refine sP C X2 d29_34 ?_
 refine pF C X2 e2 N0 g_a29_0 F_wordsInUse E_a (ty := .int) (ow32 C.w) (ow33 C.w) (ow26 C.w) (by decide) d29_35 fun T5 h5 lo5 X5 e5 N5 W5 F5 => ?_
 have S5 : own_StK Z h0 h5 := (own_StK.refl Z h0).wr W5
 have K5 : Keep h0 h5 [a29_0] := (Keep.refl h0 [a29_0]).wr W5 (Or.inl (List.mem_of_getElem? (i := 0) rfl))
 have Z5 : n0 ≤ h5.size := Nat.le_trans Z0 K5.1
 have f9 := (E_a.wr W5)
 have f10 := (F_sizeIsSticky.other W5 (Or.inr (slot_ne (Or.inl (ow35 hw)) (Or.inl (ow33 hw)) (by decide) (t := .boolean) (t' := .int) (by decide) (by decide))))
 have f11 := (F_words.other W5 (Or.inr (slot_ne (Or.inl (ow45 hw)) (Or.inl (ow33 hw)) (by decide) (t := (.array .long)) (t' := .int) (by decide) (by decide))))
 refine rV C X5 e5 hret d29_38 ?_
 exact ⟨rfl, N5, K5, S5, f9, (own_fld F5 (congrArg Value.int (if_neg h19_3))), f10, f11⟩
theorem d28_0 : decode oc28 0 = .ok (.iload_n 1, 1):=by decide +kernel
theorem d28_1 : decode oc28 1 = .ok (.ifCond .ge 30, 3):=by decide +kernel
theorem d28_31 : decode oc28 31 = .ok (.iload_n 1, 1):=by decide +kernel
theorem d28_32 : decode oc28 32 = .ok (.invokestatic 52, 3):=by decide +kernel
theorem d28_35 : decode oc28 35 = .ok (.istore_n 2, 1):=by decide +kernel
theorem d28_36 : decode oc28 36 = .ok (.iload_n 2, 1):=by decide +kernel
theorem d28_37 : decode oc28 37 = .ok (.aload_n 0, 1):=by decide +kernel
theorem d28_38 : decode oc28 38 = .ok (.getfield 7, 3):=by decide +kernel
theorem d28_41 : decode oc28 41 = .ok (.if_icmp .lt 4, 3):=by decide +kernel
theorem d28_45 : decode oc28 45 = .ok (.aload_n 0, 1):=by decide +kernel
theorem d28_46 : decode oc28 46 = .ok (.getfield 11, 3):=by decide +kernel
theorem d28_49 : decode oc28 49 = .ok (.iload_n 2, 1):=by decide +kernel
theorem d28_50 : decode oc28 50 = .ok (.dup2, 1):=by decide +kernel
theorem d28_51 : decode oc28 51 = .ok (.laload, 1):=by decide +kernel
theorem d28_52 : decode oc28 52 = .ok (.lconst 1, 1):=by decide +kernel
theorem d28_53 : decode oc28 53 = .ok (.iload_n 1, 1):=by decide +kernel
theorem d28_54 : decode oc28 54 = .ok (.lshl, 1):=by decide +kernel
theorem d28_55 : decode oc28 55 = .ok (.ldc2_w 165, 3):=by decide +kernel
theorem d28_58 : decode oc28 58 = .ok (.lxor, 1):=by decide +kernel
theorem d28_59 : decode oc28 59 = .ok (.land, 1):=by decide +kernel
theorem d28_60 : decode oc28 60 = .ok (.lastore, 1):=by decide +kernel
theorem d28_61 : decode oc28 61 = .ok (.aload_n 0, 1):=by decide +kernel
theorem d28_62 : decode oc28 62 = .ok (.invokevirtual 158, 3):=by decide +kernel
theorem d28_65 : decode oc28 65 = .ok (.aload_n 0, 1):=by decide +kernel
theorem d28_66 : decode oc28 66 = .ok (.invokevirtual 56, 3):=by decide +kernel
theorem d28_69 : decode oc28 69 = .ok (.return_, 1):=by decide +kernel
theorem pn_28 : plainName oB = true := by first | (simp [plainName, overriddenIn]; done) | decide +kernel
theorem ef_rm28_1 (m : MethodId) (y0 : Addr) (y1 : Int32) : entryFrame m #[(.ref y0), (.int y1)] 3 = mkF m 0 #[oR y0, oI y1, oU] [] := by first | (simp [entryFrame, mkF, argsToLocals, Value.category]; done) | rfl
def Q_rm28_1 (Z : State) (a28_0 : Addr) (p28_1 : Int32) (ww : Addr) (kc_ww : ClassId) (t_ww_0 : Int64) (h0 : Heap) (n0 : Nat) (v : Option Value) (h : Heap) (L : List Loc) : Prop := v = none ∧ Fr n0 L ∧ Keep h0 h [ww, a28_0] ∧ own_StK Z h0 h ∧ Arv Z h ww kc_ww .long (1 : Int32) [(.long (t_ww_0 &&& (((1 : Int64) <<< (p28_1 &&& 0x3f).toInt64) ^^^ (-1 : Int64))))] oZ ∧ Exa Z h a28_0 oB ∧ Fld Z h a28_0 oB "wordsInUse" "I" (.int (if (t_ww_0 &&& (((1 : Int64) <<< (p28_1 &&& 0x3f).toInt64) ^^^ (-1 : Int64))) = (0 : Int64) then (0 : Int32) else (1 : Int32))) ∧ Fld Z h a28_0 oB "sizeIsSticky" "Z" (.int (1 : Int32)) ∧ Fld Z h a28_0 oB "words" "[J" (.ref ww)
theorem rm28_1 (l : Launch) (Z : State) (a0 : Array Value) (hw : own_T Z a0) (a28_0 : Addr) (p28_1 : Int32) (ww : Addr) (kc_ww : ClassId) (t_ww_0 : Int64) (h0 : Heap) (n0 : Nat) (Z0 : n0 ≤ h0.size) (hn : ¬ (p28_1 < (0 : Int32))) (hu : (p28_1 >>> ((6 : Int32) &&& 31)) = (0 : Int32)) (E_a : Exa Z h0 a28_0 oB) (F_wordsInUse : Fld Z h0 a28_0 oB "wordsInUse" "I" (.int (1 : Int32))) (F_sizeIsSticky : Fld Z h0 a28_0 oB "sizeIsSticky" "Z" (.int (1 : Int32))) (F_words : Fld Z h0 a28_0 oB "words" "[J" (.ref ww)) (V_ww : Arv Z h0 ww kc_ww .long (1 : Int32) [(.long t_ww_0)] oZ) (g_ww : n0 ≤ ww) (ne_a28_0_ww : a28_0 ≠ ww) (g_a28_0 : n0 ≤ a28_0) (Sta1 : Sta Z h0 oB "$assertionsDisabled" "Z" (.int (1 : Int32))) :
   own_Met l (⟨oB, "clear", "(I)V"⟩ : MethodName) oc28 3 none ({ frames := 1, cells := 0, slots := 0, locals := 13 } : Room) Z h0 #[(.ref a28_0), (.int p28_1)] (Q_rm28_1 Z a28_0 p28_1 ww kc_ww t_ww_0 h0 n0) := by
 refine own_go hw (plainFor_of_name pn_28) (fun m => ef_rm28_1 m a28_0 p28_1) fun p e s m below meth c T0 C hret X0 e0 => ?_
 have N0 := Fr.nil n0
 refine sI C X0 d28_0 ?_
 refine bY C X0 d28_1 31 ((if0 _ _).trans (flt hn).2.1) ?_
 refine sI C X0 d28_31 ?_
 refine cS C X0 e0 (fun ws => rm6 l Z a0 C.w ws p28_1 h0 n0 Z0 ) (W := 0) (ow41 C.w) (ow42 C.w) (ow43 C.w) (ow27 C.w) (argsL := [(.int p28_1)]) (lenOf pd__I_I rfl) d28_32 fun v1 T1 lo1 X1 hQ1 => ?_
 obtain ⟨rfl, Nq1, e1⟩ := hQ1
 rw [hu]
 refine wI C X1 #[oR a28_0, oI p28_1, oI 0] d28_35 ?_
 refine sI C X1 d28_36 ?_
 refine gA C X1 e1 F_wordsInUse (ow32 C.w) d28_37 d28_38 fun T2 X2 e2 => ?_
 refine cY C X2 d28_41 45 ((tlt (by decide : (0 : Int32) < (1 : Int32))).1) ?_
 refine gA C X2 e2 F_words (ow44 C.w) d28_45 d28_46 fun T3 X3 e3 => ?_
 refine sI C X3 d28_49 ?_
 show own_Fin p l e _ s m _ below meth c _ T3 (mkF m 50 #[oR a28_0, oI p28_1, oI 0] [(.int (0 : Int32)), (.ref ww)])
 refine own_Fin.st (g' := (mkF m 51 #[oR a28_0, oI p28_1, oI 0] [(.int (0 : Int32)), (.ref ww), (.int (0 : Int32)), (.ref ww)])) ?_ (fun t k => by jvm_step X3.here [X3.here.top, C.1, C.d d28_50, Value.category]; exact k)
 refine lA C X3 e3 V_ww d28_51 ?_
 refine tK C X3 d28_52 ?_
 refine sI C X3 d28_53 ?_
 refine tH C X3 d28_54 ?_
 refine kJ C X3 (ow140 C.w) d28_55 ?_
 refine tX C X3 d28_58 ?_
 refine tA C X3 d28_59 ?_
 refine sJ C X3 e3 (N0.app Nq1) g_ww V_ww _ d28_60 fun T4 h4 lo4 X4 e4 N4 W4 V4 => ?_
 have S4 : own_StK Z h0 h4 := (own_StK.refl Z h0).wr W4
 have K4 : Keep h0 h4 [ww, a28_0] := (Keep.refl h0 [ww, a28_0]).wr W4 (Or.inl (List.mem_of_getElem? (i := 0) rfl))
 have Z4 : n0 ≤ h4.size := Nat.le_trans Z0 K4.1
 refine sA C X4 d28_61 ?_
 have f5 := (E_a.wr W4)
 have f6 := (F_wordsInUse.other W4 (Or.inl ne_a28_0_ww))
 have f7 := (F_sizeIsSticky.other W4 (Or.inl ne_a28_0_ww))
 have f8 := (F_words.other W4 (Or.inl ne_a28_0_ww))
 refine cP C X4 e4 (rm29_1 l Z a0 C.w a28_0 ww kc_ww (t_ww_0 &&& (((1 : Int64) <<< (p28_1 &&& 0x3f).toInt64) ^^^ (-1 : Int64))) h4 n0 Z4 f5 f6 f7 f8 V4 g_a28_0) f5 (W := 0) (ow153 C.w) (ow154 C.w) (mvT C.z (ow156 C.w)) (ow155 C.w) (ow157 C.w) (ow27 C.w) (argsL := []) (lenOf pd___V rfl) d28_62 fun v9 T9 lo9 X9 hQ9 => ?_
 obtain ⟨rfl, Nq9, Kc9, Sc9, P9_0, P9_1, P9_2, P9_3⟩ := hQ9
 have S9 : own_StK Z h0 T9.heap := S4.tr Sc9
 have K9 : Keep h0 T9.heap [ww, a28_0] := Keep.trans K4 Kc9 (allS (P := fun x => x ∈ ([ww, a28_0] : List Addr) ∨ h0.size ≤ x) (Or.inl (List.mem_of_getElem? (i := 1) rfl)) all0)
 have Z9 : n0 ≤ T9.heap.size := Nat.le_trans Z0 K9.1
 refine sA C X9 d28_65 ?_
 refine cP C X9 rfl (fun ws => rm13 l Z a0 C.w ws a28_0 T9.heap n0 Z9 (S9 _ _ _ _ Sta1)) P9_0 (W := 0) (ow81 C.w) (ow82 C.w) (mvT C.z (ow84 C.w)) (ow83 C.w) (ow85 C.w) (ow27 C.w) (argsL := []) (lenOf pd___V rfl) d28_66 fun v10 T10 lo10 X10 hQ10 => ?_
 obtain ⟨rfl, Nq10, e10⟩ := hQ10
 have f11 := (V4.keep Kc9 (ninS (Ne.symm ne_a28_0_ww) nin0))
 refine rV C X10 e10 hret d28_69 ?_
 exact ⟨rfl, ((N4.app Nq9).app Nq10), K9, S9, f11, P9_0, P9_1, P9_2, P9_3⟩
def Q_rm23_8_0 (Z : State) (a23_0 : Addr) (q23_2 : Int64) (wt : Addr) (kc_wt : ClassId) (t_wt_0 t_wt_1 t_wt_2 t_wt_3 t_wt_4 t_wt_5 t_wt_6 t_wt_7 : Int64) (ws : Addr) (l_ws_0 l_ws_1 l_ws_2 l_ws_3 l_ws_4 l_ws_5 l_ws_6 l_ws_7 : Int64) (h0 : Heap) (n0 : Nat) (v : Option Value) (h : Heap) (L : List Loc) : Prop := v = none ∧ Fr n0 L ∧ Keep h0 h [ws] ∧ own_StK Z h0 h ∧ own_Sp8 Z h ws q23_2 l_ws_1 l_ws_2 l_ws_3 l_ws_4 l_ws_5 l_ws_6 l_ws_7
theorem rm23_8_0 (l : Launch) (Z : State) (a0 : Array Value) (hw : own_T Z a0) (a23_0 : Addr) (q23_2 : Int64) (wt : Addr) (kc_wt : ClassId) (t_wt_0 t_wt_1 t_wt_2 t_wt_3 t_wt_4 t_wt_5 t_wt_6 t_wt_7 : Int64) (ws : Addr) (l_ws_0 l_ws_1 l_ws_2 l_ws_3 l_ws_4 l_ws_5 l_ws_6 l_ws_7 : Int64) (h0 : Heap) (n0 : Nat) (Z0 : n0 ≤ h0.size) (F_times : Fld Z h0 a23_0 oL "times" "[J" (.ref wt)) (V_wt : Arv Z h0 wt kc_wt .long (8 : Int32) [(.long t_wt_0), (.long t_wt_1), (.long t_wt_2), (.long t_wt_3), (.long t_wt_4), (.long t_wt_5), (.long t_wt_6), (.long t_wt_7)] oZ) (F_spans : Fld Z h0 a23_0 oL "spans" "[J" (.ref ws)) (T_ws : own_Sp8 Z h0 ws l_ws_0 l_ws_1 l_ws_2 l_ws_3 l_ws_4 l_ws_5 l_ws_6 l_ws_7) (g_ws : n0 ≤ ws) (ne_a23_0_ws : a23_0 ≠ ws) :
   own_Met l oy23 oc23 7 none ({ frames := 1, cells := 0, slots := 0, locals := 15 } : Room) Z h0 #[(.ref a23_0), (.int (0 : Int32)), (.long q23_2)] (Q_rm23_8_0 Z a23_0 q23_2 wt kc_wt t_wt_0 t_wt_1 t_wt_2 t_wt_3 t_wt_4 t_wt_5 t_wt_6 t_wt_7 ws l_ws_0 l_ws_1 l_ws_2 l_ws_3 l_ws_4 l_ws_5 l_ws_6 l_ws_7 h0 n0) := by
 refine own_go hw (plainFor_of_name pn_23) (fun m => ef_rm23_2_0 m a23_0 q23_2) fun p e s m below meth c T0 C hret X0 e0 => ?_
 have N0 := Fr.nil n0
 refine gA C X0 e0 F_times (ow17 C.w) d23_0 d23_1 fun T1 X1 e1 => ?_
 refine nA C X1 e1 V_wt d23_4 ?_
 refine sI C X1 d23_5 ?_
 refine sP C X1 d23_6 ?_
 refine wi C X1 #[oR a23_0, oI 0, oJ q23_2, oD, oI 8, oU, oU] d23_7 ?_
 refine gA C X1 e1 F_spans (ow23 C.w) d23_9 d23_10 fun T2 X2 e2 => ?_
 refine si C X2 d23_13 ?_
 refine sL C X2 d23_15 ?_
 obtain ⟨kq3, VT3⟩ := id T_ws
 obtain ⟨m3_7, hm3_7⟩ : ∃ z : Int64, z = (own_m l_ws_6 l_ws_7) := ⟨_, rfl⟩
 rw [← hm3_7] at VT3
 obtain ⟨m3_6, hm3_6⟩ : ∃ z : Int64, z = (own_m l_ws_4 l_ws_5) := ⟨_, rfl⟩
 rw [← hm3_6] at VT3
 obtain ⟨m3_5, hm3_5⟩ : ∃ z : Int64, z = (own_m l_ws_2 l_ws_3) := ⟨_, rfl⟩
 rw [← hm3_5] at VT3
 obtain ⟨m3_4, hm3_4⟩ : ∃ z : Int64, z = (own_m l_ws_0 l_ws_1) := ⟨_, rfl⟩
 rw [← hm3_4] at VT3
 obtain ⟨m3_3, hm3_3⟩ : ∃ z : Int64, z = (own_m m3_6 m3_7) := ⟨_, rfl⟩
 rw [← hm3_3] at VT3
 obtain ⟨m3_2, hm3_2⟩ : ∃ z : Int64, z = (own_m m3_4 m3_5) := ⟨_, rfl⟩
 rw [← hm3_2] at VT3
 obtain ⟨m3_1, hm3_1⟩ : ∃ z : Int64, z = (own_m m3_2 m3_3) := ⟨_, rfl⟩
 rw [← hm3_1] at VT3
 refine sJ C X2 e2 N0 g_ws VT3 _ d23_16 fun T4 h4 lo4 X4 e4 N4 W4 V4 => ?_
 have S4 : own_StK Z h0 h4 := (own_StK.refl Z h0).wr W4
 have K4 : Keep h0 h4 [ws] := (Keep.refl h0 [ws]).wr W4 (Or.inl (List.mem_of_getElem? (i := 0) rfl))
 have Z4 : n0 ≤ h4.size := Nat.le_trans Z0 K4.1
 refine si C X4 d23_17 ?_
 refine sC C X4 d23_19 ?_
 refine own_Fin.st (g' := (mkF m 21 #[oR a23_0, oI 0, oJ q23_2, oD, oI 8, oU, oU] [(.int (4 : Int32))])) ?_ (fun t k => XS.idiv X4.here C.1 rfl (C.d d23_20) rfl (by decide : ¬ ((2 : Int32) = (0 : Int32))) k)
 refine wi C X4 #[oR a23_0, oI 0, oJ q23_2, oD, oI 4, oU, oU] d23_21 ?_
 refine si C X4 d23_23 ?_
 refine bN C X4 d23_25 ((if0 _ _).trans (tlt (by decide : (0 : Int32) < (4 : Int32))).2.2.2) ?_
 have f5 := (F_spans.other W4 (Or.inl ne_a23_0_ws))
 refine gA C X4 e4 f5 (ow23 C.w) d23_28 d23_29 fun T6 X6 e6 => ?_
 refine sC C X6 d23_32 ?_
 refine si C X6 d23_33 ?_
 refine sM C X6 d23_35 ?_
 refine lA C X6 e6 V4 d23_36 ?_
 refine gA C X6 e6 f5 (ow23 C.w) d23_37 d23_38 fun T7 X7 e7 => ?_
 refine sC C X7 d23_41 ?_
 refine si C X7 d23_42 ?_
 refine sM C X7 d23_44 ?_
 refine sC C X7 d23_45 ?_
 refine sP C X7 d23_46 ?_
 refine lA C X7 e7 V4 d23_47 ?_
 refine cS C X7 e7 (fun ws => rm19 l Z a0 C.w ws q23_2 l_ws_1 h4 n0 Z4 ) (W := 0) (ow106 C.w) (ow107 C.w) (ow108 C.w) (ow68 C.w) (argsL := [(.long q23_2), (.long l_ws_1)]) (lenOf pd__JJ_J rfl) d23_48 fun v8 T8 lo8 X8 hQ8 => ?_
 obtain ⟨rfl, Nq8, e8⟩ := hQ8
 obtain ⟨x9, hx9⟩ : ∃ z : Int64, z = (own_m q23_2 l_ws_1) := ⟨_, rfl⟩
 rw [← hx9]
 refine wl C X8 #[oR a23_0, oI 0, oJ q23_2, oD, oI 4, oJ x9, oD] d23_51 ?_
 refine gA C X8 e8 f5 (ow23 C.w) d23_53 d23_54 fun T10 X10 e10 => ?_
 refine si C X10 d23_57 ?_
 refine lA C X10 e10 V4 d23_59 ?_
 refine sl C X10 d23_60 ?_
 refine tC C X10 d23_62 ?_
 by_cases h63_11 : m3_4 = x9
 · refine bN C X10 d23_63 ((if0 _ _).trans (teq ((lw_eq _ _).mpr h63_11)).2) ?_
   refine sG C X10 d23_66 87 ?_
   refine rV C X10 e10 hret d23_87 ?_
   subst hx9
   subst hm3_1
   subst hm3_2
   subst hm3_3
   subst hm3_4
   subst hm3_5
   subst hm3_6
   subst hm3_7
   exact ⟨rfl, (N4.app Nq8), K4, S4, ⟨_, own_arv V4 (own_cons rfl (own_cons (congrArg Value.long (by rw [h63_11])) (own_cons (congrArg Value.long (by rw [h63_11])) (own_cons rfl (own_cons (congrArg Value.long h63_11.symm) (own_cons rfl (own_cons rfl (own_cons rfl (own_cons rfl (own_cons rfl (own_cons rfl (own_cons rfl (own_cons rfl (own_cons rfl (own_cons rfl (own_cons rfl rfl))))))))))))))))⟩⟩
 refine bY C X10 d23_63 69 ((if0 _ _).trans (feq (fun q => h63_11 ((lw_eq _ _).mp q))).2) ?_
 refine gA C X10 e10 f5 (ow23 C.w) d23_69 d23_70 fun T12 X12 e12 => ?_
 refine si C X12 d23_73 ?_
 refine sl C X12 d23_75 ?_
 refine sJ C X12 e12 (N4.app Nq8) g_ws V4 _ d23_77 fun T13 h13 lo13 X13 e13 N13 W13 V13 => ?_
 have S13 : own_StK Z h0 h13 := S4.wr W13
 have K13 : Keep h0 h13 [ws] := K4.wr W13 (Or.inl (List.mem_of_getElem? (i := 0) rfl))
 have Z13 : n0 ≤ h13.size := Nat.le_trans Z0 K13.1
 refine si C X13 d23_78 ?_
 refine sC C X13 d23_80 ?_
 refine own_Fin.st (g' := (mkF m 82 #[oR a23_0, oI 0, oJ q23_2, oD, oI 4, oJ x9, oD] [(.int (2 : Int32))])) ?_ (fun t k => XS.idiv X13.here C.1 rfl (C.d d23_81) rfl (by decide : ¬ ((2 : Int32) = (0 : Int32))) k)
 refine wi C X13 #[oR a23_0, oI 0, oJ q23_2, oD, oI 2, oJ x9, oD] d23_82 ?_
 refine sG C X13 d23_84 23 ?_
 refine si C X13 d23_23 ?_
 refine bN C X13 d23_25 ((if0 _ _).trans (tlt (by decide : (0 : Int32) < (2 : Int32))).2.2.2) ?_
 have f14 := (f5.other W13 (Or.inl ne_a23_0_ws))
 refine gA C X13 e13 f14 (ow23 C.w) d23_28 d23_29 fun T15 X15 e15 => ?_
 refine sC C X15 d23_32 ?_
 refine si C X15 d23_33 ?_
 refine sM C X15 d23_35 ?_
 refine lA C X15 e15 V13 d23_36 ?_
 refine gA C X15 e15 f14 (ow23 C.w) d23_37 d23_38 fun T16 X16 e16 => ?_
 refine sC C X16 d23_41 ?_
 refine si C X16 d23_42 ?_
 refine sM C X16 d23_44 ?_
 refine sC C X16 d23_45 ?_
 refine sP C X16 d23_46 ?_
 refine lA C X16 e16 V13 d23_47 ?_
 refine cS C X16 e16 (fun ws => rm19 l Z a0 C.w ws x9 m3_5 h13 n0 Z13 ) (W := 0) (ow106 C.w) (ow107 C.w) (ow108 C.w) (ow68 C.w) (argsL := [(.long x9), (.long m3_5)]) (lenOf pd__JJ_J rfl) d23_48 fun v17 T17 lo17 X17 hQ17 => ?_
 obtain ⟨rfl, Nq17, e17⟩ := hQ17
 obtain ⟨x18, hx18⟩ : ∃ z : Int64, z = (own_m x9 m3_5) := ⟨_, rfl⟩
 rw [← hx18]
 refine wl C X17 #[oR a23_0, oI 0, oJ q23_2, oD, oI 2, oJ x18, oD] d23_51 ?_
 refine gA C X17 e17 f14 (ow23 C.w) d23_53 d23_54 fun T19 X19 e19 => ?_
 refine si C X19 d23_57 ?_
 refine lA C X19 e19 V13 d23_59 ?_
 refine sl C X19 d23_60 ?_
 refine tC C X19 d23_62 ?_
 by_cases h63_20 : m3_2 = x18
 · refine bN C X19 d23_63 ((if0 _ _).trans (teq ((lw_eq _ _).mpr h63_20)).2) ?_
   refine sG C X19 d23_66 87 ?_
   refine rV C X19 e19 hret d23_87 ?_
   subst hx18
   subst hx9
   subst hm3_1
   subst hm3_2
   subst hm3_3
   subst hm3_4
   subst hm3_5
   subst hm3_6
   subst hm3_7
   exact ⟨rfl, (N13.app Nq17), K13, S13, ⟨_, own_arv V13 (own_cons rfl (own_cons (congrArg Value.long (by rw [h63_20])) (own_cons (congrArg Value.long h63_20.symm) (own_cons rfl (own_cons rfl (own_cons rfl (own_cons rfl (own_cons rfl (own_cons rfl (own_cons rfl (own_cons rfl (own_cons rfl (own_cons rfl (own_cons rfl (own_cons rfl (own_cons rfl rfl))))))))))))))))⟩⟩
 refine bY C X19 d23_63 69 ((if0 _ _).trans (feq (fun q => h63_20 ((lw_eq _ _).mp q))).2) ?_
 refine gA C X19 e19 f14 (ow23 C.w) d23_69 d23_70 fun T21 X21 e21 => ?_
 refine si C X21 d23_73 ?_
 refine sl C X21 d23_75 ?_
 refine sJ C X21 e21 (N13.app Nq17) g_ws V13 _ d23_77 fun T22 h22 lo22 X22 e22 N22 W22 V22 => ?_
 have S22 : own_StK Z h0 h22 := S13.wr W22
 have K22 : Keep h0 h22 [ws] := K13.wr W22 (Or.inl (List.mem_of_getElem? (i := 0) rfl))
 have Z22 : n0 ≤ h22.size := Nat.le_trans Z0 K22.1
 refine si C X22 d23_78 ?_
 refine sC C X22 d23_80 ?_
 refine own_Fin.st (g' := (mkF m 82 #[oR a23_0, oI 0, oJ q23_2, oD, oI 2, oJ x18, oD] [(.int (1 : Int32))])) ?_ (fun t k => XS.idiv X22.here C.1 rfl (C.d d23_81) rfl (by decide : ¬ ((2 : Int32) = (0 : Int32))) k)
 refine wi C X22 #[oR a23_0, oI 0, oJ q23_2, oD, oI 1, oJ x18, oD] d23_82 ?_
 refine sG C X22 d23_84 23 ?_
 refine si C X22 d23_23 ?_
 refine bN C X22 d23_25 ((if0 _ _).trans (tlt (by decide : (0 : Int32) < (1 : Int32))).2.2.2) ?_
 have f23 := (f14.other W22 (Or.inl ne_a23_0_ws))
 refine gA C X22 e22 f23 (ow23 C.w) d23_28 d23_29 fun T24 X24 e24 => ?_
 refine sC C X24 d23_32 ?_
 refine si C X24 d23_33 ?_
 refine sM C X24 d23_35 ?_
 refine lA C X24 e24 V22 d23_36 ?_
 refine gA C X24 e24 f23 (ow23 C.w) d23_37 d23_38 fun T25 X25 e25 => ?_
 refine sC C X25 d23_41 ?_
 refine si C X25 d23_42 ?_
 refine sM C X25 d23_44 ?_
 refine sC C X25 d23_45 ?_
 refine sP C X25 d23_46 ?_
 refine lA C X25 e25 V22 d23_47 ?_
 refine cS C X25 e25 (fun ws => rm19 l Z a0 C.w ws x18 m3_3 h22 n0 Z22 ) (W := 0) (ow106 C.w) (ow107 C.w) (ow108 C.w) (ow68 C.w) (argsL := [(.long x18), (.long m3_3)]) (lenOf pd__JJ_J rfl) d23_48 fun v26 T26 lo26 X26 hQ26 => ?_
 obtain ⟨rfl, Nq26, e26⟩ := hQ26
 obtain ⟨x27, hx27⟩ : ∃ z : Int64, z = (own_m x18 m3_3) := ⟨_, rfl⟩
 rw [← hx27]
 refine wl C X26 #[oR a23_0, oI 0, oJ q23_2, oD, oI 1, oJ x27, oD] d23_51 ?_
 refine gA C X26 e26 f23 (ow23 C.w) d23_53 d23_54 fun T28 X28 e28 => ?_
 refine si C X28 d23_57 ?_
 refine lA C X28 e28 V22 d23_59 ?_
 refine sl C X28 d23_60 ?_
 refine tC C X28 d23_62 ?_
 by_cases h63_29 : m3_1 = x27
 · refine bN C X28 d23_63 ((if0 _ _).trans (teq ((lw_eq _ _).mpr h63_29)).2) ?_
   refine sG C X28 d23_66 87 ?_
   refine rV C X28 e28 hret d23_87 ?_
   subst hx27
   subst hx18
   subst hx9
   subst hm3_1
   subst hm3_2
   subst hm3_3
   subst hm3_4
   subst hm3_5
   subst hm3_6
   subst hm3_7
   exact ⟨rfl, (N22.app Nq26), K22, S22, ⟨_, own_arv V22 (own_cons rfl (own_cons (congrArg Value.long h63_29.symm) (own_cons rfl (own_cons rfl (own_cons rfl (own_cons rfl (own_cons rfl (own_cons rfl (own_cons rfl (own_cons rfl (own_cons rfl (own_cons rfl (own_cons rfl (own_cons rfl (own_cons rfl (own_cons rfl rfl))))))))))))))))⟩⟩
 refine bY C X28 d23_63 69 ((if0 _ _).trans (feq (fun q => h63_29 ((lw_eq _ _).mp q))).2) ?_
 refine gA C X28 e28 f23 (ow23 C.w) d23_69 d23_70 fun T30 X30 e30 => ?_
 refine si C X30 d23_73 ?_
 refine sl C X30 d23_75 ?_
 refine sJ C X30 e30 (N22.app Nq26) g_ws V22 _ d23_77 fun T31 h31 lo31 X31 e31 N31 W31 V31 => ?_
 have S31 : own_StK Z h0 h31 := S22.wr W31
 have K31 : Keep h0 h31 [ws] := K22.wr W31 (Or.inl (List.mem_of_getElem? (i := 0) rfl))
 have Z31 : n0 ≤ h31.size := Nat.le_trans Z0 K31.1
 refine si C X31 d23_78 ?_
 refine sC C X31 d23_80 ?_
 refine own_Fin.st (g' := (mkF m 82 #[oR a23_0, oI 0, oJ q23_2, oD, oI 1, oJ x27, oD] [(.int (0 : Int32))])) ?_ (fun t k => XS.idiv X31.here C.1 rfl (C.d d23_81) rfl (by decide : ¬ ((2 : Int32) = (0 : Int32))) k)
 refine wi C X31 #[oR a23_0, oI 0, oJ q23_2, oD, oI 0, oJ x27, oD] d23_82 ?_
 refine sG C X31 d23_84 23 ?_
 refine si C X31 d23_23 ?_
 refine bY C X31 d23_25 87 ((if0 _ _).trans (flt (by decide : ¬ ((0 : Int32) < (0 : Int32)))).2.2.2) ?_
 refine rV C X31 e31 hret d23_87 ?_
 subst hx27
 subst hx18
 subst hx9
 subst hm3_1
 subst hm3_2
 subst hm3_3
 subst hm3_4
 subst hm3_5
 subst hm3_6
 subst hm3_7
 exact ⟨rfl, N31, K31, S31, ⟨_, own_arv V31 (own_cons rfl (own_cons rfl (own_cons rfl (own_cons rfl (own_cons rfl (own_cons rfl (own_cons rfl (own_cons rfl (own_cons rfl (own_cons rfl (own_cons rfl (own_cons rfl (own_cons rfl (own_cons rfl (own_cons rfl (own_cons rfl rfl))))))))))))))))⟩⟩
def Q_rm23_8_1 (Z : State) (a23_0 : Addr) (q23_2 : Int64) (wt : Addr) (kc_wt : ClassId) (t_wt_0 t_wt_1 t_wt_2 t_wt_3 t_wt_4 t_wt_5 t_wt_6 t_wt_7 : Int64) (ws : Addr) (l_ws_0 l_ws_1 l_ws_2 l_ws_3 l_ws_4 l_ws_5 l_ws_6 l_ws_7 : Int64) (h0 : Heap) (n0 : Nat) (v : Option Value) (h : Heap) (L : List Loc) : Prop := v = none ∧ Fr n0 L ∧ Keep h0 h [ws] ∧ own_StK Z h0 h ∧ own_Sp8 Z h ws l_ws_0 q23_2 l_ws_2 l_ws_3 l_ws_4 l_ws_5 l_ws_6 l_ws_7
theorem rm23_8_1 (l : Launch) (Z : State) (a0 : Array Value) (hw : own_T Z a0) (a23_0 : Addr) (q23_2 : Int64) (wt : Addr) (kc_wt : ClassId) (t_wt_0 t_wt_1 t_wt_2 t_wt_3 t_wt_4 t_wt_5 t_wt_6 t_wt_7 : Int64) (ws : Addr) (l_ws_0 l_ws_1 l_ws_2 l_ws_3 l_ws_4 l_ws_5 l_ws_6 l_ws_7 : Int64) (h0 : Heap) (n0 : Nat) (Z0 : n0 ≤ h0.size) (F_times : Fld Z h0 a23_0 oL "times" "[J" (.ref wt)) (V_wt : Arv Z h0 wt kc_wt .long (8 : Int32) [(.long t_wt_0), (.long t_wt_1), (.long t_wt_2), (.long t_wt_3), (.long t_wt_4), (.long t_wt_5), (.long t_wt_6), (.long t_wt_7)] oZ) (F_spans : Fld Z h0 a23_0 oL "spans" "[J" (.ref ws)) (T_ws : own_Sp8 Z h0 ws l_ws_0 l_ws_1 l_ws_2 l_ws_3 l_ws_4 l_ws_5 l_ws_6 l_ws_7) (g_ws : n0 ≤ ws) (ne_a23_0_ws : a23_0 ≠ ws) :
   own_Met l oy23 oc23 7 none ({ frames := 1, cells := 0, slots := 0, locals := 15 } : Room) Z h0 #[(.ref a23_0), (.int (1 : Int32)), (.long q23_2)] (Q_rm23_8_1 Z a23_0 q23_2 wt kc_wt t_wt_0 t_wt_1 t_wt_2 t_wt_3 t_wt_4 t_wt_5 t_wt_6 t_wt_7 ws l_ws_0 l_ws_1 l_ws_2 l_ws_3 l_ws_4 l_ws_5 l_ws_6 l_ws_7 h0 n0) := by
 refine own_go hw (plainFor_of_name pn_23) (fun m => ef_rm23_2_1 m a23_0 q23_2) fun p e s m below meth c T0 C hret X0 e0 => ?_
 have N0 := Fr.nil n0
 refine gA C X0 e0 F_times (ow17 C.w) d23_0 d23_1 fun T1 X1 e1 => ?_
 refine nA C X1 e1 V_wt d23_4 ?_
 refine sI C X1 d23_5 ?_
 refine sP C X1 d23_6 ?_
 refine wi C X1 #[oR a23_0, oI 1, oJ q23_2, oD, oI 9, oU, oU] d23_7 ?_
 refine gA C X1 e1 F_spans (ow23 C.w) d23_9 d23_10 fun T2 X2 e2 => ?_
 refine si C X2 d23_13 ?_
 refine sL C X2 d23_15 ?_
 obtain ⟨kq3, VT3⟩ := id T_ws
 obtain ⟨m3_7, hm3_7⟩ : ∃ z : Int64, z = (own_m l_ws_6 l_ws_7) := ⟨_, rfl⟩
 rw [← hm3_7] at VT3
 obtain ⟨m3_6, hm3_6⟩ : ∃ z : Int64, z = (own_m l_ws_4 l_ws_5) := ⟨_, rfl⟩
 rw [← hm3_6] at VT3
 obtain ⟨m3_5, hm3_5⟩ : ∃ z : Int64, z = (own_m l_ws_2 l_ws_3) := ⟨_, rfl⟩
 rw [← hm3_5] at VT3
 obtain ⟨m3_4, hm3_4⟩ : ∃ z : Int64, z = (own_m l_ws_0 l_ws_1) := ⟨_, rfl⟩
 rw [← hm3_4] at VT3
 obtain ⟨m3_3, hm3_3⟩ : ∃ z : Int64, z = (own_m m3_6 m3_7) := ⟨_, rfl⟩
 rw [← hm3_3] at VT3
 obtain ⟨m3_2, hm3_2⟩ : ∃ z : Int64, z = (own_m m3_4 m3_5) := ⟨_, rfl⟩
 rw [← hm3_2] at VT3
 obtain ⟨m3_1, hm3_1⟩ : ∃ z : Int64, z = (own_m m3_2 m3_3) := ⟨_, rfl⟩
 rw [← hm3_1] at VT3
 refine sJ C X2 e2 N0 g_ws VT3 _ d23_16 fun T4 h4 lo4 X4 e4 N4 W4 V4 => ?_
 have S4 : own_StK Z h0 h4 := (own_StK.refl Z h0).wr W4
 have K4 : Keep h0 h4 [ws] := (Keep.refl h0 [ws]).wr W4 (Or.inl (List.mem_of_getElem? (i := 0) rfl))
 have Z4 : n0 ≤ h4.size := Nat.le_trans Z0 K4.1
 refine si C X4 d23_17 ?_
 refine sC C X4 d23_19 ?_
 refine own_Fin.st (g' := (mkF m 21 #[oR a23_0, oI 1, oJ q23_2, oD, oI 9, oU, oU] [(.int (4 : Int32))])) ?_ (fun t k => XS.idiv X4.here C.1 rfl (C.d d23_20) rfl (by decide : ¬ ((2 : Int32) = (0 : Int32))) k)
 refine wi C X4 #[oR a23_0, oI 1, oJ q23_2, oD, oI 4, oU, oU] d23_21 ?_
 refine si C X4 d23_23 ?_
 refine bN C X4 d23_25 ((if0 _ _).trans (tlt (by decide : (0 : Int32) < (4 : Int32))).2.2.2) ?_
 have f5 := (F_spans.other W4 (Or.inl ne_a23_0_ws))
 refine gA C X4 e4 f5 (ow23 C.w) d23_28 d23_29 fun T6 X6 e6 => ?_
 refine sC C X6 d23_32 ?_
 refine si C X6 d23_33 ?_
 refine sM C X6 d23_35 ?_
 refine lA C X6 e6 V4 d23_36 ?_
 refine gA C X6 e6 f5 (ow23 C.w) d23_37 d23_38 fun T7 X7 e7 => ?_
 refine sC C X7 d23_41 ?_
 refine si C X7 d23_42 ?_
 refine sM C X7 d23_44 ?_
 refine sC C X7 d23_45 ?_
 refine sP C X7 d23_46 ?_
 refine lA C X7 e7 V4 d23_47 ?_
 refine cS C X7 e7 (fun ws => rm19 l Z a0 C.w ws l_ws_0 q23_2 h4 n0 Z4 ) (W := 0) (ow106 C.w) (ow107 C.w) (ow108 C.w) (ow68 C.w) (argsL := [(.long l_ws_0), (.long q23_2)]) (lenOf pd__JJ_J rfl) d23_48 fun v8 T8 lo8 X8 hQ8 => ?_
 obtain ⟨rfl, Nq8, e8⟩ := hQ8
 obtain ⟨x9, hx9⟩ : ∃ z : Int64, z = (own_m l_ws_0 q23_2) := ⟨_, rfl⟩
 rw [← hx9]
 refine wl C X8 #[oR a23_0, oI 1, oJ q23_2, oD, oI 4, oJ x9, oD] d23_51 ?_
 refine gA C X8 e8 f5 (ow23 C.w) d23_53 d23_54 fun T10 X10 e10 => ?_
 refine si C X10 d23_57 ?_
 refine lA C X10 e10 V4 d23_59 ?_
 refine sl C X10 d23_60 ?_
 refine tC C X10 d23_62 ?_
 by_cases h63_11 : m3_4 = x9
 · refine bN C X10 d23_63 ((if0 _ _).trans (teq ((lw_eq _ _).mpr h63_11)).2) ?_
   refine sG C X10 d23_66 87 ?_
   refine rV C X10 e10 hret d23_87 ?_
   subst hx9
   subst hm3_1
   subst hm3_2
   subst hm3_3
   subst hm3_4
   subst hm3_5
   subst hm3_6
   subst hm3_7
   exact ⟨rfl, (N4.app Nq8), K4, S4, ⟨_, own_arv V4 (own_cons rfl (own_cons (congrArg Value.long (by rw [h63_11])) (own_cons (congrArg Value.long (by rw [h63_11])) (own_cons rfl (own_cons (congrArg Value.long h63_11.symm) (own_cons rfl (own_cons rfl (own_cons rfl (own_cons rfl (own_cons rfl (own_cons rfl (own_cons rfl (own_cons rfl (own_cons rfl (own_cons rfl (own_cons rfl rfl))))))))))))))))⟩⟩
 refine bY C X10 d23_63 69 ((if0 _ _).trans (feq (fun q => h63_11 ((lw_eq _ _).mp q))).2) ?_
 refine gA C X10 e10 f5 (ow23 C.w) d23_69 d23_70 fun T12 X12 e12 => ?_
 refine si C X12 d23_73 ?_
 refine sl C X12 d23_75 ?_
 refine sJ C X12 e12 (N4.app Nq8) g_ws V4 _ d23_77 fun T13 h13 lo13 X13 e13 N13 W13 V13 => ?_
 have S13 : own_StK Z h0 h13 := S4.wr W13
 have K13 : Keep h0 h13 [ws] := K4.wr W13 (Or.inl (List.mem_of_getElem? (i := 0) rfl))
 have Z13 : n0 ≤ h13.size := Nat.le_trans Z0 K13.1
 refine si C X13 d23_78 ?_
 refine sC C X13 d23_80 ?_
 refine own_Fin.st (g' := (mkF m 82 #[oR a23_0, oI 1, oJ q23_2, oD, oI 4, oJ x9, oD] [(.int (2 : Int32))])) ?_ (fun t k => XS.idiv X13.here C.1 rfl (C.d d23_81) rfl (by decide : ¬ ((2 : Int32) = (0 : Int32))) k)
 refine wi C X13 #[oR a23_0, oI 1, oJ q23_2, oD, oI 2, oJ x9, oD] d23_82 ?_
 refine sG C X13 d23_84 23 ?_
 refine si C X13 d23_23 ?_
 refine bN C X13 d23_25 ((if0 _ _).trans (tlt (by decide : (0 : Int32) < (2 : Int32))).2.2.2) ?_
 have f14 := (f5.other W13 (Or.inl ne_a23_0_ws))
 refine gA C X13 e13 f14 (ow23 C.w) d23_28 d23_29 fun T15 X15 e15 => ?_
 refine sC C X15 d23_32 ?_
 refine si C X15 d23_33 ?_
 refine sM C X15 d23_35 ?_
 refine lA C X15 e15 V13 d23_36 ?_
 refine gA C X15 e15 f14 (ow23 C.w) d23_37 d23_38 fun T16 X16 e16 => ?_
 refine sC C X16 d23_41 ?_
 refine si C X16 d23_42 ?_
 refine sM C X16 d23_44 ?_
 refine sC C X16 d23_45 ?_
 refine sP C X16 d23_46 ?_
 refine lA C X16 e16 V13 d23_47 ?_
 refine cS C X16 e16 (fun ws => rm19 l Z a0 C.w ws x9 m3_5 h13 n0 Z13 ) (W := 0) (ow106 C.w) (ow107 C.w) (ow108 C.w) (ow68 C.w) (argsL := [(.long x9), (.long m3_5)]) (lenOf pd__JJ_J rfl) d23_48 fun v17 T17 lo17 X17 hQ17 => ?_
 obtain ⟨rfl, Nq17, e17⟩ := hQ17
 obtain ⟨x18, hx18⟩ : ∃ z : Int64, z = (own_m x9 m3_5) := ⟨_, rfl⟩
 rw [← hx18]
 refine wl C X17 #[oR a23_0, oI 1, oJ q23_2, oD, oI 2, oJ x18, oD] d23_51 ?_
 refine gA C X17 e17 f14 (ow23 C.w) d23_53 d23_54 fun T19 X19 e19 => ?_
 refine si C X19 d23_57 ?_
 refine lA C X19 e19 V13 d23_59 ?_
 refine sl C X19 d23_60 ?_
 refine tC C X19 d23_62 ?_
 by_cases h63_20 : m3_2 = x18
 · refine bN C X19 d23_63 ((if0 _ _).trans (teq ((lw_eq _ _).mpr h63_20)).2) ?_
   refine sG C X19 d23_66 87 ?_
   refine rV C X19 e19 hret d23_87 ?_
   subst hx18
   subst hx9
   subst hm3_1
   subst hm3_2
   subst hm3_3
   subst hm3_4
   subst hm3_5
   subst hm3_6
   subst hm3_7
   exact ⟨rfl, (N13.app Nq17), K13, S13, ⟨_, own_arv V13 (own_cons rfl (own_cons (congrArg Value.long (by rw [h63_20])) (own_cons (congrArg Value.long h63_20.symm) (own_cons rfl (own_cons rfl (own_cons rfl (own_cons rfl (own_cons rfl (own_cons rfl (own_cons rfl (own_cons rfl (own_cons rfl (own_cons rfl (own_cons rfl (own_cons rfl (own_cons rfl rfl))))))))))))))))⟩⟩
 refine bY C X19 d23_63 69 ((if0 _ _).trans (feq (fun q => h63_20 ((lw_eq _ _).mp q))).2) ?_
 refine gA C X19 e19 f14 (ow23 C.w) d23_69 d23_70 fun T21 X21 e21 => ?_
 refine si C X21 d23_73 ?_
 refine sl C X21 d23_75 ?_
 refine sJ C X21 e21 (N13.app Nq17) g_ws V13 _ d23_77 fun T22 h22 lo22 X22 e22 N22 W22 V22 => ?_
 have S22 : own_StK Z h0 h22 := S13.wr W22
 have K22 : Keep h0 h22 [ws] := K13.wr W22 (Or.inl (List.mem_of_getElem? (i := 0) rfl))
 have Z22 : n0 ≤ h22.size := Nat.le_trans Z0 K22.1
 refine si C X22 d23_78 ?_
 refine sC C X22 d23_80 ?_
 refine own_Fin.st (g' := (mkF m 82 #[oR a23_0, oI 1, oJ q23_2, oD, oI 2, oJ x18, oD] [(.int (1 : Int32))])) ?_ (fun t k => XS.idiv X22.here C.1 rfl (C.d d23_81) rfl (by decide : ¬ ((2 : Int32) = (0 : Int32))) k)
 refine wi C X22 #[oR a23_0, oI 1, oJ q23_2, oD, oI 1, oJ x18, oD] d23_82 ?_
 refine sG C X22 d23_84 23 ?_
 refine si C X22 d23_23 ?_
 refine bN C X22 d23_25 ((if0 _ _).trans (tlt (by decide : (0 : Int32) < (1 : Int32))).2.2.2) ?_
 have f23 := (f14.other W22 (Or.inl ne_a23_0_ws))
 refine gA C X22 e22 f23 (ow23 C.w) d23_28 d23_29 fun T24 X24 e24 => ?_
 refine sC C X24 d23_32 ?_
 refine si C X24 d23_33 ?_
 refine sM C X24 d23_35 ?_
 refine lA C X24 e24 V22 d23_36 ?_
 refine gA C X24 e24 f23 (ow23 C.w) d23_37 d23_38 fun T25 X25 e25 => ?_
 refine sC C X25 d23_41 ?_
 refine si C X25 d23_42 ?_
 refine sM C X25 d23_44 ?_
 refine sC C X25 d23_45 ?_
 refine sP C X25 d23_46 ?_
 refine lA C X25 e25 V22 d23_47 ?_
 refine cS C X25 e25 (fun ws => rm19 l Z a0 C.w ws x18 m3_3 h22 n0 Z22 ) (W := 0) (ow106 C.w) (ow107 C.w) (ow108 C.w) (ow68 C.w) (argsL := [(.long x18), (.long m3_3)]) (lenOf pd__JJ_J rfl) d23_48 fun v26 T26 lo26 X26 hQ26 => ?_
 obtain ⟨rfl, Nq26, e26⟩ := hQ26
 obtain ⟨x27, hx27⟩ : ∃ z : Int64, z = (own_m x18 m3_3) := ⟨_, rfl⟩
 rw [← hx27]
 refine wl C X26 #[oR a23_0, oI 1, oJ q23_2, oD, oI 1, oJ x27, oD] d23_51 ?_
 refine gA C X26 e26 f23 (ow23 C.w) d23_53 d23_54 fun T28 X28 e28 => ?_
 refine si C X28 d23_57 ?_
 refine lA C X28 e28 V22 d23_59 ?_
 refine sl C X28 d23_60 ?_
 refine tC C X28 d23_62 ?_
 by_cases h63_29 : m3_1 = x27
 · refine bN C X28 d23_63 ((if0 _ _).trans (teq ((lw_eq _ _).mpr h63_29)).2) ?_
   refine sG C X28 d23_66 87 ?_
   refine rV C X28 e28 hret d23_87 ?_
   subst hx27
   subst hx18
   subst hx9
   subst hm3_1
   subst hm3_2
   subst hm3_3
   subst hm3_4
   subst hm3_5
   subst hm3_6
   subst hm3_7
   exact ⟨rfl, (N22.app Nq26), K22, S22, ⟨_, own_arv V22 (own_cons rfl (own_cons (congrArg Value.long h63_29.symm) (own_cons rfl (own_cons rfl (own_cons rfl (own_cons rfl (own_cons rfl (own_cons rfl (own_cons rfl (own_cons rfl (own_cons rfl (own_cons rfl (own_cons rfl (own_cons rfl (own_cons rfl (own_cons rfl rfl))))))))))))))))⟩⟩
 refine bY C X28 d23_63 69 ((if0 _ _).trans (feq (fun q => h63_29 ((lw_eq _ _).mp q))).2) ?_
 refine gA C X28 e28 f23 (ow23 C.w) d23_69 d23_70 fun T30 X30 e30 => ?_
 refine si C X30 d23_73 ?_
 refine sl C X30 d23_75 ?_
 refine sJ C X30 e30 (N22.app Nq26) g_ws V22 _ d23_77 fun T31 h31 lo31 X31 e31 N31 W31 V31 => ?_
 have S31 : own_StK Z h0 h31 := S22.wr W31
 have K31 : Keep h0 h31 [ws] := K22.wr W31 (Or.inl (List.mem_of_getElem? (i := 0) rfl))
 have Z31 : n0 ≤ h31.size := Nat.le_trans Z0 K31.1
 refine si C X31 d23_78 ?_
 refine sC C X31 d23_80 ?_
 refine own_Fin.st (g' := (mkF m 82 #[oR a23_0, oI 1, oJ q23_2, oD, oI 1, oJ x27, oD] [(.int (0 : Int32))])) ?_ (fun t k => XS.idiv X31.here C.1 rfl (C.d d23_81) rfl (by decide : ¬ ((2 : Int32) = (0 : Int32))) k)
 refine wi C X31 #[oR a23_0, oI 1, oJ q23_2, oD, oI 0, oJ x27, oD] d23_82 ?_
 refine sG C X31 d23_84 23 ?_
 refine si C X31 d23_23 ?_
 refine bY C X31 d23_25 87 ((if0 _ _).trans (flt (by decide : ¬ ((0 : Int32) < (0 : Int32)))).2.2.2) ?_
 refine rV C X31 e31 hret d23_87 ?_
 subst hx27
 subst hx18
 subst hx9
 subst hm3_1
 subst hm3_2
 subst hm3_3
 subst hm3_4
 subst hm3_5
 subst hm3_6
 subst hm3_7
 exact ⟨rfl, N31, K31, S31, ⟨_, own_arv V31 (own_cons rfl (own_cons rfl (own_cons rfl (own_cons rfl (own_cons rfl (own_cons rfl (own_cons rfl (own_cons rfl (own_cons rfl (own_cons rfl (own_cons rfl (own_cons rfl (own_cons rfl (own_cons rfl (own_cons rfl (own_cons rfl rfl))))))))))))))))⟩⟩
theorem d30_0 : decode oc30 0 = .ok (.aload_n 0, 1):=by decide +kernel
theorem d30_1 : decode oc30 1 = .ok (.getfield 31, 3):=by decide +kernel
theorem d30_4 : decode oc30 4 = .ok (.iconst 1, 1):=by decide +kernel
theorem d30_5 : decode oc30 5 = .ok (.if_icmp .le 7, 3):=by decide +kernel
theorem d30_8 : decode oc30 8 = .ok (.iconst 1, 1):=by decide +kernel
theorem d30_9 : decode oc30 9 = .ok (.goto 4, 3):=by decide +kernel
theorem d30_13 : decode oc30 13 = .ok (.istore_n 1, 1):=by decide +kernel
theorem d30_14 : decode oc30 14 = .ok (.iload_n 1, 1):=by decide +kernel
theorem d30_15 : decode oc30 15 = .ok (.ifCond .eq 136, 3):=by decide +kernel
theorem d30_18 : decode oc30 18 = .ok (.aload_n 0, 1):=by decide +kernel
theorem d30_19 : decode oc30 19 = .ok (.invokevirtual 97, 3):=by decide +kernel
theorem d30_22 : decode oc30 22 = .ok (.istore_n 2, 1):=by decide +kernel
theorem d30_23 : decode oc30 23 = .ok (.aload_n 0, 1):=by decide +kernel
theorem d30_24 : decode oc30 24 = .ok (.getfield 27, 3):=by decide +kernel
theorem d30_27 : decode oc30 27 = .ok (.iload_n 2, 1):=by decide +kernel
theorem d30_28 : decode oc30 28 = .ok (.iconst 1, 1):=by decide +kernel
theorem d30_29 : decode oc30 29 = .ok (.isub, 1):=by decide +kernel
theorem d30_30 : decode oc30 30 = .ok (.invokevirtual 71, 3):=by decide +kernel
theorem d30_33 : decode oc30 33 = .ok (.istore_n 3, 1):=by decide +kernel
theorem d30_34 : decode oc30 34 = .ok (.aload_n 0, 1):=by decide +kernel
theorem d30_35 : decode oc30 35 = .ok (.getfield 27, 3):=by decide +kernel
theorem d30_38 : decode oc30 38 = .ok (.iload_n 3, 1):=by decide +kernel
theorem d30_39 : decode oc30 39 = .ok (.invokevirtual 61, 3):=by decide +kernel
theorem d30_42 : decode oc30 42 = .ok (.aload_n 0, 1):=by decide +kernel
theorem d30_43 : decode oc30 43 = .ok (.dup, 1):=by decide +kernel
theorem d30_44 : decode oc30 44 = .ok (.getfield 31, 3):=by decide +kernel
theorem d30_47 : decode oc30 47 = .ok (.iconst 1, 1):=by decide +kernel
theorem d30_48 : decode oc30 48 = .ok (.isub, 1):=by decide +kernel
theorem d30_49 : decode oc30 49 = .ok (.putfield 31, 3):=by decide +kernel
theorem d30_52 : decode oc30 52 = .ok (.aload_n 0, 1):=by decide +kernel
theorem d30_53 : decode oc30 53 = .ok (.iload_n 3, 1):=by decide +kernel
theorem d30_54 : decode oc30 54 = .ok (.ldc2_w 65, 3):=by decide +kernel
theorem d30_57 : decode oc30 57 = .ok (.invokevirtual 67, 3):=by decide +kernel
theorem d30_60 : decode oc30 60 = .ok (.aload_n 0, 1):=by decide +kernel
theorem d30_61 : decode oc30 61 = .ok (.getfield 15, 3):=by decide +kernel
theorem d30_64 : decode oc30 64 = .ok (.iload_n 2, 1):=by decide +kernel
theorem d30_65 : decode oc30 65 = .ok (.aload_n 0, 1):=by decide +kernel
theorem d30_66 : decode oc30 66 = .ok (.getfield 15, 3):=by decide +kernel
theorem d30_69 : decode oc30 69 = .ok (.iload_n 3, 1):=by decide +kernel
theorem d30_70 : decode oc30 70 = .ok (.laload, 1):=by decide +kernel
theorem d30_71 : decode oc30 71 = .ok (.lastore, 1):=by decide +kernel
theorem d30_72 : decode oc30 72 = .ok (.aload_n 0, 1):=by decide +kernel
theorem d30_73 : decode oc30 73 = .ok (.getfield 27, 3):=by decide +kernel
theorem d30_76 : decode oc30 76 = .ok (.iload_n 3, 1):=by decide +kernel
theorem d30_77 : decode oc30 77 = .ok (.iconst 1, 1):=by decide +kernel
theorem d30_78 : decode oc30 78 = .ok (.isub, 1):=by decide +kernel
theorem d30_79 : decode oc30 79 = .ok (.invokevirtual 71, 3):=by decide +kernel
theorem d30_82 : decode oc30 82 = .ok (.istore 4, 2):=by decide +kernel
theorem d30_84 : decode oc30 84 = .ok (.aload_n 0, 1):=by decide +kernel
theorem d30_85 : decode oc30 85 = .ok (.iload_n 2, 1):=by decide +kernel
theorem d30_86 : decode oc30 86 = .ok (.iload 4, 2):=by decide +kernel
theorem d30_88 : decode oc30 88 = .ok (.ifCond .ge 9, 3):=by decide +kernel
theorem d30_91 : decode oc30 91 = .ok (.ldc2_w 65, 3):=by decide +kernel
theorem d30_94 : decode oc30 94 = .ok (.goto 17, 3):=by decide +kernel
theorem d30_97 : decode oc30 97 = .ok (.aload_n 0, 1):=by decide +kernel
theorem d30_98 : decode oc30 98 = .ok (.getfield 9, 3):=by decide +kernel
theorem d30_101 : decode oc30 101 = .ok (.iload_n 2, 1):=by decide +kernel
theorem d30_102 : decode oc30 102 = .ok (.laload, 1):=by decide +kernel
theorem d30_103 : decode oc30 103 = .ok (.aload_n 0, 1):=by decide +kernel
theorem d30_104 : decode oc30 104 = .ok (.getfield 15, 3):=by decide +kernel
theorem d30_107 : decode oc30 107 = .ok (.iload 4, 2):=by decide +kernel
theorem d30_109 : decode oc30 109 = .ok (.laload, 1):=by decide +kernel
theorem d30_110 : decode oc30 110 = .ok (.lsub, 1):=by decide +kernel
theorem d30_111 : decode oc30 111 = .ok (.invokevirtual 67, 3):=by decide +kernel
theorem d30_114 : decode oc30 114 = .ok (.aload_n 0, 1):=by decide +kernel
theorem d30_115 : decode oc30 115 = .ok (.getfield 27, 3):=by decide +kernel
theorem d30_118 : decode oc30 118 = .ok (.iload_n 2, 1):=by decide +kernel
theorem d30_119 : decode oc30 119 = .ok (.iconst 1, 1):=by decide +kernel
theorem d30_120 : decode oc30 120 = .ok (.iadd, 1):=by decide +kernel
theorem d30_121 : decode oc30 121 = .ok (.invokevirtual 50, 3):=by decide +kernel
theorem d30_124 : decode oc30 124 = .ok (.istore 5, 2):=by decide +kernel
theorem d30_126 : decode oc30 126 = .ok (.iload 5, 2):=by decide +kernel
theorem d30_128 : decode oc30 128 = .ok (.ifCond .lt 23, 3):=by decide +kernel
theorem d30_131 : decode oc30 131 = .ok (.aload_n 0, 1):=by decide +kernel
theorem d30_132 : decode oc30 132 = .ok (.iload 5, 2):=by decide +kernel
theorem d30_134 : decode oc30 134 = .ok (.aload_n 0, 1):=by decide +kernel
theorem d30_135 : decode oc30 135 = .ok (.getfield 9, 3):=by decide +kernel
theorem d30_138 : decode oc30 138 = .ok (.iload 5, 2):=by decide +kernel
theorem d30_140 : decode oc30 140 = .ok (.laload, 1):=by decide +kernel
theorem d30_141 : decode oc30 141 = .ok (.aload_n 0, 1):=by decide +kernel
theorem d30_142 : decode oc30 142 = .ok (.getfield 15, 3):=by decide +kernel
theorem d30_145 : decode oc30 145 = .ok (.iload_n 2, 1):=by decide +kernel
theorem d30_146 : decode oc30 146 = .ok (.laload, 1):=by decide +kernel
theorem d30_147 : decode oc30 147 = .ok (.lsub, 1):=by decide +kernel
theorem d30_148 : decode oc30 148 = .ok (.invokevirtual 67, 3):=by decide +kernel
theorem d30_151 : decode oc30 151 = .ok (.iload_n 1, 1):=by decide +kernel
theorem d30_152 : decode oc30 152 = .ok (.ireturn, 1):=by decide +kernel
theorem pn_30 : plainName oL = true := by first | (simp [plainName, overriddenIn]; done) | decide +kernel
theorem ef_rm30_8_7 (m : MethodId) (y0 : Addr) : entryFrame m #[(.ref y0)] 6 = mkF m 0 #[oR y0, oU, oU, oU, oU, oU] [] := by first | (simp [entryFrame, mkF, argsToLocals, Value.category]; done) | rfl
def Q_rm30_8_7 (Z : State) (a30_0 : Addr) (rT : Addr) (rF : Addr) (rO : Addr) (rS : Addr) (rE : Addr) (rW : Addr) (kT : ClassId) (kF : ClassId) (kO : ClassId) (kW : ClassId) (fi : Int32) (en : Int32) (sz : Int32) (bs : Int64) (tm0 : Int64) (tm1 : Int64) (tm2 : Int64) (tm3 : Int64) (tm4 : Int64) (tm5 : Int64) (tm6 : Int64) (tm7 : Int64) (fr0 : Int64) (fr1 : Int64) (fr2 : Int64) (fr3 : Int64) (fr4 : Int64) (fr5 : Int64) (fr6 : Int64) (fr7 : Int64) (to0 : Int64) (to1 : Int64) (to2 : Int64) (to3 : Int64) (to4 : Int64) (to5 : Int64) (to6 : Int64) (to7 : Int64) (T : Int64) (h0 : Heap) (n0 : Nat) (v : Option Value) (h : Heap) (L : List Loc) : Prop := v = some (.int (1 : Int32)) ∧ Fr n0 L ∧ (((own_sh8 oM (tm1 - fr0) (tm2 - fr1) oM oM oM oM oM) = (1 : Int32) ∧ own_Obj Z h n0 a30_0 rT rF rO rS rE rW kT kF kO kW fi en (sz - (1 : Int32)) bs (1 : Int32) (1 : Int32) (6 : Int64) (8 : Int32) [(.long tm0), (.long tm1), (.long tm2), (.long tm3), (.long tm4), (.long tm5), (.long tm6), (.long tm7)] [(.long fr0), (.long fr0), (.long fr2), (.long fr3), (.long fr4), (.long fr5), (.long fr6), (.long fr7)] [(.long to0), (.long to1), (.long to2), (.long to3), (.long to4), (.long to5), (.long to6), (.long to7)] ∧ own_Sp8 Z h rS oM oM (tm2 - fr0) oM oM oM oM oM) ∨ ((own_sh8 oM (tm1 - fr0) (tm2 - fr1) oM oM oM oM oM) = (2 : Int32) ∧ own_Obj Z h n0 a30_0 rT rF rO rS rE rW kT kF kO kW fi en (sz - (1 : Int32)) bs (1 : Int32) (1 : Int32) (5 : Int64) (8 : Int32) [(.long tm0), (.long tm1), (.long tm2), (.long tm3), (.long tm4), (.long tm5), (.long tm6), (.long tm7)] [(.long fr0), (.long fr1), (.long fr1), (.long fr3), (.long fr4), (.long fr5), (.long fr6), (.long fr7)] [(.long to0), (.long to1), (.long to2), (.long to3), (.long to4), (.long to5), (.long to6), (.long to7)] ∧ own_Sp8 Z h rS oM oM (tm2 - fr0) oM oM oM oM oM))
theorem rm30_8_7 (l : Launch) (Z : State) (a0 : Array Value) (hw : own_T Z a0) (a30_0 rT rF rO rS rE rW : Addr) (kT kF kO kW : ClassId) (fi en sz : Int32) (bs tm0 tm1 tm2 tm3 tm4 tm5 tm6 tm7 fr0 fr1 fr2 fr3 fr4 fr5 fr6 fr7 to0 to1 to2 to3 to4 to5 to6 to7 T : Int64) (h0 : Heap) (n0 : Nat) (Z0 : n0 ≤ h0.size) (O : own_Obj Z h0 n0 a30_0 rT rF rO rS rE rW kT kF kO kW fi en sz bs (1 : Int32) (1 : Int32) (7 : Int64) (8 : Int32) [(.long tm0), (.long tm1), (.long tm2), (.long tm3), (.long tm4), (.long tm5), (.long tm6), (.long tm7)] [(.long fr0), (.long fr1), (.long fr2), (.long fr3), (.long fr4), (.long fr5), (.long fr6), (.long fr7)] [(.long to0), (.long to1), (.long to2), (.long to3), (.long to4), (.long to5), (.long to6), (.long to7)]) (SP : own_Sp8 Z h0 rS oM (tm1 - fr0) (tm2 - fr1) oM oM oM oM oM) (htm0 : own_near T tm0) (htm1 : own_near T tm1) (htm2 : own_near T tm2) (hfr0 : own_near T fr0) (hfr1 : own_near T fr1) (hfr2 : own_near T fr2) (hsz : (1 : Int32) < sz) :
   own_Met l oy30 oc30 6 (some .boolean) ({ frames := 5, cells := 0, slots := 0, locals := 120 } : Room) Z h0 #[(.ref a30_0)] (Q_rm30_8_7 Z a30_0 rT rF rO rS rE rW kT kF kO kW fi en sz bs tm0 tm1 tm2 tm3 tm4 tm5 tm6 tm7 fr0 fr1 fr2 fr3 fr4 fr5 fr6 fr7 to0 to1 to2 to3 to4 to5 to6 to7 T h0 n0) := by
 refine own_go hw (plainFor_of_name pn_30) (fun m => ef_rm30_8_7 m a30_0) fun p e s m below meth c T0 C hret X0 e0 => ?_
 have N0 := Fr.nil n0
 refine gA C X0 e0 O.Fsize (ow53 C.w) d30_0 d30_1 fun T1 X1 e1 => ?_
 refine sC C X1 d30_4 ?_
 refine cN C X1 d30_5 ((tlt hsz).2.2.2) ?_
 refine sC C X1 d30_8 ?_
 refine sG C X1 d30_9 13 ?_
 refine wI C X1 #[oR a30_0, oI 1, oU, oU, oU, oU] d30_13 ?_
 refine sI C X1 d30_14 ?_
 refine bN C X1 d30_15 ((if0 _ _).trans (feq (by decide : ¬ ((1 : Int32) = (0 : Int32)))).1) ?_
 refine sA C X1 d30_18 ?_
 refine cP C X1 e1 (rm31_8 l Z a0 C.w a30_0 rT kT tm0 tm1 tm2 tm3 tm4 tm5 tm6 tm7 rS oM (tm1 - fr0) (tm2 - fr1) oM oM oM oM oM h0 n0 O.hsz O.Ftimes O.Vt O.Fspans SP) O.Ea (W := 0) (ow164 C.w) (ow165 C.w) (own_selp (x := oy7) rfl (mvT (args := #[]) C.z (ow51 C.w)) (Cond.privateMethod_at (mvP C.z (ow166 C.w) (args := #[]))) (mvT C.z (ow165 C.w)) (by decide)) (ow166 C.w) (ow167 C.w) (ow9 C.w) (argsL := []) (lenOf pd___I rfl) d30_19 fun v2 T2 lo2 X2 hQ2 => ?_
 obtain ⟨rfl, Nq2, e2⟩ := hQ2
 obtain ⟨x3, hx3⟩ : ∃ z : Int32, z = (own_sh8 oM (tm1 - fr0) (tm2 - fr1) oM oM oM oM oM) := ⟨_, rfl⟩
 rw [← hx3]
 have hdx3 : x3 = (1 : Int32) ∨ x3 = (2 : Int32) := by rw [hx3]; exact (own_shl_8_7 (tm1 - fr0) (tm2 - fr1) (own_nlt htm1 hfr0) (own_nlt htm2 hfr1))
 rcases hdx3 with hc4 | hc5
 · rw [hc4]
   refine wI C X2 #[oR a30_0, oI 1, oI 1, oU, oU, oU] d30_22 ?_
   refine gA C X2 e2 O.Fentries (ow46 C.w) d30_23 d30_24 fun T6 X6 e6 => ?_
   refine sI C X6 d30_27 ?_
   refine sC C X6 d30_28 ?_
   refine sS C X6 d30_29 ?_
   refine cV C X6 e6 (rm32_2 l Z a0 C.w rE (0 : Int32) rW kW (7 : Int64) h0 n0 O.hsz (by decide +kernel) (by decide +kernel) O.Ee O.BwordsInUse O.BsizeIsSticky O.Bwords O.Vw O.St) O.Ee (W := 0) (ow168 C.w) (ow169 C.w) (ow171 C.w) (ow170 C.w) (ow172 C.w) (ow27 C.w) (argsL := [(.int (0 : Int32))]) (lenOf pd__I_I rfl) d30_30 fun v7 T7 lo7 X7 hQ7 => ?_
   obtain ⟨rfl, Nq7, e7⟩ := hQ7
   rw [show (own_psb (0 : Int32) (7 : Int64)) = (0 : Int32) from by decide +kernel]
   refine wI C X7 #[oR a30_0, oI 1, oI 1, oI 0, oU, oU] d30_33 ?_
   refine gA C X7 e7 O.Fentries (ow46 C.w) d30_34 d30_35 fun T9 X9 e9 => ?_
   refine sI C X9 d30_38 ?_
   refine cV C X9 e9 (rm28_1 l Z a0 C.w rE (0 : Int32) rW kW (7 : Int64) h0 n0 O.hsz (by decide +kernel) (by decide +kernel) O.Ee O.BwordsInUse O.BsizeIsSticky O.Bwords O.Vw O.grW O.n_rE_rW O.grE O.St) O.Ee (W := 0) (ow148 C.w) (ow149 C.w) (ow151 C.w) (ow150 C.w) (ow152 C.w) (ow27 C.w) (argsL := [(.int (0 : Int32))]) (lenOf pd__I_V rfl) d30_39 fun v10 T10 lo10 X10 hQ10 => ?_
   obtain ⟨rfl, Nq10, Kc10, Sc10, P10_0, P10_1, P10_2, P10_3, P10_4⟩ := hQ10
   rw [show ((7 : Int64) &&& (((1 : Int64) <<< ((0 : Int32) &&& 0x3f).toInt64) ^^^ (-1 : Int64))) = (6 : Int64) from by decide +kernel] at P10_0
   rw [show (if ((7 : Int64) &&& (((1 : Int64) <<< ((0 : Int32) &&& 0x3f).toInt64) ^^^ (-1 : Int64))) = (0 : Int64) then (0 : Int32) else (1 : Int32)) = (1 : Int32) from by decide +kernel] at P10_2
   have O10 := O.bits2 Kc10 Sc10 P10_1 P10_2 P10_3 P10_4 P10_0
   refine sA C X10 d30_42 ?_
   refine sD C X10 d30_43 ?_
   refine gF C X10 rfl O10.Fsize (ow53 C.w) d30_44 fun T11 X11 e11 => ?_
   refine sC C X11 d30_47 ?_
   refine sS C X11 d30_48 ?_
   refine pF C X11 e11 (((N0.app Nq2).app Nq7).app Nq10) O10.ga O10.Fsize O10.Ea (ty := .int) (ow53 C.w) (ow54 C.w) (ow8 C.w) (by decide) d30_49 fun T12 h12 lo12 X12 e12 N12 W12 F12 => ?_
   have O12 := own_Obj.put_size hw O10 W12 F12
   refine sA C X12 d30_52 ?_
   refine sI C X12 d30_53 ?_
   refine kJ C X12 (ow98 C.w) d30_54 ?_
   have f13 := ((SP.keep Kc10 (ninS O12.n_rS_rW (ninS O12.n_rS_rE nin0))).other W12 (Ne.symm O12.n_a_rS))
   refine cP C X12 e12 (rm23_8_0 l Z a0 C.w a30_0 oM rT kT tm0 tm1 tm2 tm3 tm4 tm5 tm6 tm7 rS oM (tm1 - fr0) (tm2 - fr1) oM oM oM oM oM h12 n0 O12.hsz O12.Ftimes O12.Vt O12.Fspans f13 O12.grS O12.n_a_rS) O12.Ea (W := 0) (ow126 C.w) (ow127 C.w) (own_selp (x := oy7) rfl (mvT (args := #[]) C.z (ow51 C.w)) (Cond.privateMethod_at (mvP C.z (ow128 C.w) (args := #[]))) (mvT C.z (ow127 C.w)) (by decide)) (ow128 C.w) (ow129 C.w) (ow9 C.w) (argsL := [(.int (0 : Int32)), (.long oM)]) (lenOf pd__IJ_V rfl) d30_57 fun v14 T14 lo14 X14 hQ14 => ?_
   obtain ⟨rfl, Nq14, Kc14, Sc14, P14_0⟩ := hQ14
   have O14 := O12.sp Kc14 Sc14
   refine gA C X14 rfl O14.Ffroms (ow19 C.w) d30_60 d30_61 fun T15 X15 e15 => ?_
   refine sI C X15 d30_64 ?_
   refine gA C X15 e15 O14.Ffroms (ow19 C.w) d30_65 d30_66 fun T16 X16 e16 => ?_
   refine sI C X16 d30_69 ?_
   refine lA C X16 e16 O14.Vf d30_70 ?_
   refine sJ C X16 e16 (N12.app Nq14) O14.grF O14.Vf _ d30_71 fun T17 h17 lo17 X17 e17 N17 W17 V17 => ?_
   have O17 := O14.setF W17 V17
   refine gA C X17 e17 O17.Fentries (ow46 C.w) d30_72 d30_73 fun T18 X18 e18 => ?_
   refine sI C X18 d30_76 ?_
   refine sC C X18 d30_77 ?_
   refine sS C X18 d30_78 ?_
   refine cV C X18 e18 (rm32_1 l Z a0 C.w rE rW kW (6 : Int64) h17 n0 O17.hsz O17.Ee O17.BwordsInUse O17.BsizeIsSticky O17.Bwords O17.Vw) O17.Ee (W := 0) (ow168 C.w) (ow169 C.w) (ow171 C.w) (ow170 C.w) (ow172 C.w) (ow27 C.w) (argsL := [(.int (-1 : Int32))]) (lenOf pd__I_I rfl) d30_79 fun v19 T19 lo19 X19 hQ19 => ?_
   obtain ⟨rfl, Nq19, e19⟩ := hQ19
   refine wi C X19 #[oR a30_0, oI 1, oI 1, oI 0, oI (-1), oU] d30_82 ?_
   refine sA C X19 d30_84 ?_
   refine sI C X19 d30_85 ?_
   refine si C X19 d30_86 ?_
   refine bN C X19 d30_88 ((if0 _ _).trans (tlt (by decide : (-1 : Int32) < (0 : Int32))).2.1) ?_
   refine kJ C X19 (ow98 C.w) d30_91 ?_
   refine sG C X19 d30_94 111 ?_
   have f20 := (P14_0.other W17 (Ne.symm O17.n_rF_rS))
   refine cP C X19 e19 (rm23_8_1 l Z a0 C.w a30_0 oM rT kT tm0 tm1 tm2 tm3 tm4 tm5 tm6 tm7 rS oM (tm1 - fr0) (tm2 - fr1) oM oM oM oM oM h17 n0 O17.hsz O17.Ftimes O17.Vt O17.Fspans f20 O17.grS O17.n_a_rS) O17.Ea (W := 0) (ow126 C.w) (ow127 C.w) (own_selp (x := oy7) rfl (mvT (args := #[]) C.z (ow51 C.w)) (Cond.privateMethod_at (mvP C.z (ow128 C.w) (args := #[]))) (mvT C.z (ow127 C.w)) (by decide)) (ow128 C.w) (ow129 C.w) (ow9 C.w) (argsL := [(.int (1 : Int32)), (.long oM)]) (lenOf pd__IJ_V rfl) d30_111 fun v21 T21 lo21 X21 hQ21 => ?_
   obtain ⟨rfl, Nq21, Kc21, Sc21, P21_0⟩ := hQ21
   have O21 := O17.sp Kc21 Sc21
   refine gA C X21 rfl O21.Fentries (ow46 C.w) d30_114 d30_115 fun T22 X22 e22 => ?_
   refine sI C X22 d30_118 ?_
   refine sC C X22 d30_119 ?_
   refine sP C X22 d30_120 ?_
   refine cV C X22 e22 (rm12_2 l Z a0 C.w rE (2 : Int32) rW kW (6 : Int64) T21.heap n0 O21.hsz (by decide +kernel) (by decide +kernel) O21.Ee O21.BwordsInUse O21.BsizeIsSticky O21.Bwords O21.Vw O21.St) O21.Ee (W := 0) (ow76 C.w) (ow77 C.w) (ow79 C.w) (ow78 C.w) (ow80 C.w) (ow27 C.w) (argsL := [(.int (2 : Int32))]) (lenOf pd__I_I rfl) d30_121 fun v23 T23 lo23 X23 hQ23 => ?_
   obtain ⟨rfl, Nq23, e23⟩ := hQ23
   rw [show (own_nsb (2 : Int32) (6 : Int64)) = (2 : Int32) from by decide +kernel]
   refine wi C X23 #[oR a30_0, oI 1, oI 1, oI 0, oI (-1), oI 2] d30_124 ?_
   refine si C X23 d30_126 ?_
   refine bN C X23 d30_128 ((if0 _ _).trans (flt (by decide : ¬ ((2 : Int32) < (0 : Int32)))).1) ?_
   refine sA C X23 d30_131 ?_
   refine si C X23 d30_132 ?_
   refine gA C X23 e23 O21.Ftimes (ow17 C.w) d30_134 d30_135 fun T25 X25 e25 => ?_
   refine si C X25 d30_138 ?_
   refine lA C X25 e25 O21.Vt d30_140 ?_
   refine gA C X25 e25 O21.Ffroms (ow19 C.w) d30_141 d30_142 fun T26 X26 e26 => ?_
   refine sI C X26 d30_145 ?_
   refine lA C X26 e26 O21.Vf d30_146 ?_
   refine tS C X26 d30_147 ?_
   refine cP C X26 e26 (rm23_8_2 l Z a0 C.w a30_0 (tm2 - fr0) rT kT tm0 tm1 tm2 tm3 tm4 tm5 tm6 tm7 rS oM oM (tm2 - fr1) oM oM oM oM oM T21.heap n0 O21.hsz O21.Ftimes O21.Vt O21.Fspans P21_0 O21.grS O21.n_a_rS) O21.Ea (W := 0) (ow126 C.w) (ow127 C.w) (own_selp (x := oy7) rfl (mvT (args := #[]) C.z (ow51 C.w)) (Cond.privateMethod_at (mvP C.z (ow128 C.w) (args := #[]))) (mvT C.z (ow127 C.w)) (by decide)) (ow128 C.w) (ow129 C.w) (ow9 C.w) (argsL := [(.int (2 : Int32)), (.long (tm2 - fr0))]) (lenOf pd__IJ_V rfl) d30_148 fun v27 T27 lo27 X27 hQ27 => ?_
   obtain ⟨rfl, Nq27, Kc27, Sc27, P27_0⟩ := hQ27
   have O27 := O21.sp Kc27 Sc27
   refine sI C X27 d30_151 ?_
   refine rZ C X27 rfl hret d30_152 ?_
   exact ⟨rfl, ((((N17.app Nq19).app Nq21).app Nq23).app Nq27), Or.inl ⟨hx3 ▸ hc4, O27, P27_0⟩⟩
 rw [hc5]
 refine wI C X2 #[oR a30_0, oI 1, oI 2, oU, oU, oU] d30_22 ?_
 refine gA C X2 e2 O.Fentries (ow46 C.w) d30_23 d30_24 fun T28 X28 e28 => ?_
 refine sI C X28 d30_27 ?_
 refine sC C X28 d30_28 ?_
 refine sS C X28 d30_29 ?_
 refine cV C X28 e28 (rm32_2 l Z a0 C.w rE (1 : Int32) rW kW (7 : Int64) h0 n0 O.hsz (by decide +kernel) (by decide +kernel) O.Ee O.BwordsInUse O.BsizeIsSticky O.Bwords O.Vw O.St) O.Ee (W := 0) (ow168 C.w) (ow169 C.w) (ow171 C.w) (ow170 C.w) (ow172 C.w) (ow27 C.w) (argsL := [(.int (1 : Int32))]) (lenOf pd__I_I rfl) d30_30 fun v29 T29 lo29 X29 hQ29 => ?_
 obtain ⟨rfl, Nq29, e29⟩ := hQ29
 rw [show (own_psb (1 : Int32) (7 : Int64)) = (1 : Int32) from by decide +kernel]
 refine wI C X29 #[oR a30_0, oI 1, oI 2, oI 1, oU, oU] d30_33 ?_
 refine gA C X29 e29 O.Fentries (ow46 C.w) d30_34 d30_35 fun T31 X31 e31 => ?_
 refine sI C X31 d30_38 ?_
 refine cV C X31 e31 (rm28_1 l Z a0 C.w rE (1 : Int32) rW kW (7 : Int64) h0 n0 O.hsz (by decide +kernel) (by decide +kernel) O.Ee O.BwordsInUse O.BsizeIsSticky O.Bwords O.Vw O.grW O.n_rE_rW O.grE O.St) O.Ee (W := 0) (ow148 C.w) (ow149 C.w) (ow151 C.w) (ow150 C.w) (ow152 C.w) (ow27 C.w) (argsL := [(.int (1 : Int32))]) (lenOf pd__I_V rfl) d30_39 fun v32 T32 lo32 X32 hQ32 => ?_
 obtain ⟨rfl, Nq32, Kc32, Sc32, P32_0, P32_1, P32_2, P32_3, P32_4⟩ := hQ32
 rw [show ((7 : Int64) &&& (((1 : Int64) <<< ((1 : Int32) &&& 0x3f).toInt64) ^^^ (-1 : Int64))) = (5 : Int64) from by decide +kernel] at P32_0
 rw [show (if ((7 : Int64) &&& (((1 : Int64) <<< ((1 : Int32) &&& 0x3f).toInt64) ^^^ (-1 : Int64))) = (0 : Int64) then (0 : Int32) else (1 : Int32)) = (1 : Int32) from by decide +kernel] at P32_2
 have O32 := O.bits2 Kc32 Sc32 P32_1 P32_2 P32_3 P32_4 P32_0
 refine sA C X32 d30_42 ?_
 refine sD C X32 d30_43 ?_
 refine gF C X32 rfl O32.Fsize (ow53 C.w) d30_44 fun T33 X33 e33 => ?_
 refine sC C X33 d30_47 ?_
 refine sS C X33 d30_48 ?_
 refine pF C X33 e33 (((N0.app Nq2).app Nq29).app Nq32) O32.ga O32.Fsize O32.Ea (ty := .int) (ow53 C.w) (ow54 C.w) (ow8 C.w) (by decide) d30_49 fun T34 h34 lo34 X34 e34 N34 W34 F34 => ?_
 have O34 := own_Obj.put_size hw O32 W34 F34
 refine sA C X34 d30_52 ?_
 refine sI C X34 d30_53 ?_
 refine kJ C X34 (ow98 C.w) d30_54 ?_
 have f35 := ((SP.keep Kc32 (ninS O34.n_rS_rW (ninS O34.n_rS_rE nin0))).other W34 (Ne.symm O34.n_a_rS))
 refine cP C X34 e34 (rm23_8_1 l Z a0 C.w a30_0 oM rT kT tm0 tm1 tm2 tm3 tm4 tm5 tm6 tm7 rS oM (tm1 - fr0) (tm2 - fr1) oM oM oM oM oM h34 n0 O34.hsz O34.Ftimes O34.Vt O34.Fspans f35 O34.grS O34.n_a_rS) O34.Ea (W := 0) (ow126 C.w) (ow127 C.w) (own_selp (x := oy7) rfl (mvT (args := #[]) C.z (ow51 C.w)) (Cond.privateMethod_at (mvP C.z (ow128 C.w) (args := #[]))) (mvT C.z (ow127 C.w)) (by decide)) (ow128 C.w) (ow129 C.w) (ow9 C.w) (argsL := [(.int (1 : Int32)), (.long oM)]) (lenOf pd__IJ_V rfl) d30_57 fun v36 T36 lo36 X36 hQ36 => ?_
 obtain ⟨rfl, Nq36, Kc36, Sc36, P36_0⟩ := hQ36
 have O36 := O34.sp Kc36 Sc36
 refine gA C X36 rfl O36.Ffroms (ow19 C.w) d30_60 d30_61 fun T37 X37 e37 => ?_
 refine sI C X37 d30_64 ?_
 refine gA C X37 e37 O36.Ffroms (ow19 C.w) d30_65 d30_66 fun T38 X38 e38 => ?_
 refine sI C X38 d30_69 ?_
 refine lA C X38 e38 O36.Vf d30_70 ?_
 refine sJ C X38 e38 (N34.app Nq36) O36.grF O36.Vf _ d30_71 fun T39 h39 lo39 X39 e39 N39 W39 V39 => ?_
 have O39 := O36.setF W39 V39
 refine gA C X39 e39 O39.Fentries (ow46 C.w) d30_72 d30_73 fun T40 X40 e40 => ?_
 refine sI C X40 d30_76 ?_
 refine sC C X40 d30_77 ?_
 refine sS C X40 d30_78 ?_
 refine cV C X40 e40 (rm32_2 l Z a0 C.w rE (0 : Int32) rW kW (5 : Int64) h39 n0 O39.hsz (by decide +kernel) (by decide +kernel) O39.Ee O39.BwordsInUse O39.BsizeIsSticky O39.Bwords O39.Vw O39.St) O39.Ee (W := 0) (ow168 C.w) (ow169 C.w) (ow171 C.w) (ow170 C.w) (ow172 C.w) (ow27 C.w) (argsL := [(.int (0 : Int32))]) (lenOf pd__I_I rfl) d30_79 fun v41 T41 lo41 X41 hQ41 => ?_
 obtain ⟨rfl, Nq41, e41⟩ := hQ41
 rw [show (own_psb (0 : Int32) (5 : Int64)) = (0 : Int32) from by decide +kernel]
 refine wi C X41 #[oR a30_0, oI 1, oI 2, oI 1, oI 0, oU] d30_82 ?_
 refine sA C X41 d30_84 ?_
 refine sI C X41 d30_85 ?_
 refine si C X41 d30_86 ?_
 refine bY C X41 d30_88 97 ((if0 _ _).trans (flt (by decide : ¬ ((0 : Int32) < (0 : Int32)))).2.1) ?_
 refine gA C X41 e41 O39.Ftimes (ow17 C.w) d30_97 d30_98 fun T43 X43 e43 => ?_
 refine sI C X43 d30_101 ?_
 refine lA C X43 e43 O39.Vt d30_102 ?_
 refine gA C X43 e43 O39.Ffroms (ow19 C.w) d30_103 d30_104 fun T44 X44 e44 => ?_
 refine si C X44 d30_107 ?_
 refine lA C X44 e44 O39.Vf d30_109 ?_
 refine tS C X44 d30_110 ?_
 have f45 := (P36_0.other W39 (Ne.symm O39.n_rF_rS))
 refine cP C X44 e44 (rm23_8_2 l Z a0 C.w a30_0 (tm2 - fr0) rT kT tm0 tm1 tm2 tm3 tm4 tm5 tm6 tm7 rS oM oM (tm2 - fr1) oM oM oM oM oM h39 n0 O39.hsz O39.Ftimes O39.Vt O39.Fspans f45 O39.grS O39.n_a_rS) O39.Ea (W := 0) (ow126 C.w) (ow127 C.w) (own_selp (x := oy7) rfl (mvT (args := #[]) C.z (ow51 C.w)) (Cond.privateMethod_at (mvP C.z (ow128 C.w) (args := #[]))) (mvT C.z (ow127 C.w)) (by decide)) (ow128 C.w) (ow129 C.w) (ow9 C.w) (argsL := [(.int (2 : Int32)), (.long (tm2 - fr0))]) (lenOf pd__IJ_V rfl) d30_111 fun v46 T46 lo46 X46 hQ46 => ?_
 obtain ⟨rfl, Nq46, Kc46, Sc46, P46_0⟩ := hQ46
 have O46 := O39.sp Kc46 Sc46
 refine gA C X46 rfl O46.Fentries (ow46 C.w) d30_114 d30_115 fun T47 X47 e47 => ?_
 refine sI C X47 d30_118 ?_
 refine sC C X47 d30_119 ?_
 refine sP C X47 d30_120 ?_
 refine cV C X47 e47 (rm12_2 l Z a0 C.w rE (3 : Int32) rW kW (5 : Int64) T46.heap n0 O46.hsz (by decide +kernel) (by decide +kernel) O46.Ee O46.BwordsInUse O46.BsizeIsSticky O46.Bwords O46.Vw O46.St) O46.Ee (W := 0) (ow76 C.w) (ow77 C.w) (ow79 C.w) (ow78 C.w) (ow80 C.w) (ow27 C.w) (argsL := [(.int (3 : Int32))]) (lenOf pd__I_I rfl) d30_121 fun v48 T48 lo48 X48 hQ48 => ?_
 obtain ⟨rfl, Nq48, e48⟩ := hQ48
 rw [show (own_nsb (3 : Int32) (5 : Int64)) = (-1 : Int32) from by decide +kernel]
 refine wi C X48 #[oR a30_0, oI 1, oI 2, oI 1, oI 0, oI (-1)] d30_124 ?_
 refine si C X48 d30_126 ?_
 refine bY C X48 d30_128 151 ((if0 _ _).trans (tlt (by decide : (-1 : Int32) < (0 : Int32))).1) ?_
 refine sI C X48 d30_151 ?_
 refine rZ C X48 e48 hret d30_152 ?_
 exact ⟨rfl, (((N39.app Nq41).app Nq46).app Nq48), Or.inr (⟨hx3 ▸ hc5, O46, P46_0⟩)⟩
theorem pd___Z : parseMethodDescriptor "()Z" = some ⟨[], some .boolean⟩:=by decide +kernel
theorem own_shn_8_7_2 (x1 : Int64) (x2 : Int64) (h1 : x1 < oM) (h2 : x2 < oM) (hmin : ¬ (x2 < (own_m oM x1))) : ¬ (own_sh8 oM x1 x2 oM oM oM oM oM = (2 : Int32)) := by
 intro hc
 unfold own_sh8 at hc
 by_cases p1 : (own_m (own_m oM oM) (own_m oM oM)) < (own_m (own_m oM x1) (own_m x2 oM))
 · rw [if_pos p1] at hc
   by_cases p3 : (own_m oM oM) < (own_m oM oM)
   · rw [if_pos p3] at hc
     by_cases p7 : oM < oM
     · rw [if_pos p7] at hc
       exact absurd hc (by decide)
     · rw [if_neg p7] at hc
       exact absurd hc (by decide)
   · rw [if_neg p3] at hc
     by_cases p6 : oM < oM
     · rw [if_pos p6] at hc
       exact absurd hc (by decide)
     · rw [if_neg p6] at hc
       exact absurd hc (by decide)
 · rw [if_neg p1] at hc
   by_cases p2 : (own_m x2 oM) < (own_m oM x1)
   · rw [if_pos p2] at hc
     by_cases p5 : oM < x2
     · rw [if_pos p5] at hc
       exact absurd hc (by decide)
     · rw [if_neg p5] at hc
       have m0 := own_m_c oM x1
       have m1 := own_m_c (own_m oM oM) (own_m oM oM)
       have m2 := own_m_c oM oM
       have m3 := own_m_c (own_m oM x1) (own_m x2 oM)
       have m4 := own_m_c x2 oM
       have g1 := h1
       have g2 := h2
       rw [Int64.lt_iff_toInt_lt] at hmin
       rw [Int64.lt_iff_toInt_lt] at p1
       rw [Int64.lt_iff_toInt_lt] at p2
       rw [Int64.lt_iff_toInt_lt] at p5
       rw [Int64.lt_iff_toInt_lt] at g1
       rw [Int64.lt_iff_toInt_lt] at g2
       rw [own_max] at *
       omega
   · rw [if_neg p2] at hc
     by_cases p4 : x1 < oM
     · rw [if_pos p4] at hc
       exact absurd hc (by decide)
     · rw [if_neg p4] at hc
       exact absurd hc (by decide)
def own_S_8_0_3_3_7 (Z : State) (h : Heap) (n0 : Nat) (a : Addr) (T t : Int64) : Prop := ∃ rT : Addr, ∃ rF : Addr, ∃ rO : Addr, ∃ rS : Addr, ∃ rE : Addr, ∃ rW : Addr, ∃ kT : ClassId, ∃ kF : ClassId, ∃ kO : ClassId, ∃ kW : ClassId, ∃ bs : Int64, ∃ tm0 : Int64, ∃ tm1 : Int64, ∃ tm3 : Int64, ∃ tm4 : Int64, ∃ tm5 : Int64, ∃ tm6 : Int64, ∃ tm7 : Int64, ∃ fr0 : Int64, ∃ fr1 : Int64, ∃ fr2 : Int64, ∃ fr3 : Int64, ∃ fr4 : Int64, ∃ fr5 : Int64, ∃ fr6 : Int64, ∃ fr7 : Int64, ∃ to0 : Int64, ∃ to1 : Int64, ∃ to2 : Int64, ∃ to3 : Int64, ∃ to4 : Int64, ∃ to5 : Int64, ∃ to6 : Int64, ∃ to7 : Int64, own_Obj Z h n0 a rT rF rO rS rE rW kT kF kO kW (0 : Int32) (3 : Int32) (3 : Int32) bs (1 : Int32) (1 : Int32) (7 : Int64) (8 : Int32) [(.long tm0), (.long tm1), (.long t), (.long tm3), (.long tm4), (.long tm5), (.long tm6), (.long tm7)] [(.long fr0), (.long fr1), (.long fr2), (.long fr3), (.long fr4), (.long fr5), (.long fr6), (.long fr7)] [(.long to0), (.long to1), (.long to2), (.long to3), (.long to4), (.long to5), (.long to6), (.long to7)] ∧ own_Sp8 Z h rS oM (tm1 - fr0) (t - fr1) oM oM oM oM oM ∧ own_near T tm0 ∧ own_near T tm1 ∧ own_near T t ∧ own_near T fr0 ∧ own_near T fr1 ∧ own_near T fr2
def own_S_8_0_3_2_6 (Z : State) (h : Heap) (n0 : Nat) (a : Addr) (T t : Int64) : Prop := ∃ rT : Addr, ∃ rF : Addr, ∃ rO : Addr, ∃ rS : Addr, ∃ rE : Addr, ∃ rW : Addr, ∃ kT : ClassId, ∃ kF : ClassId, ∃ kO : ClassId, ∃ kW : ClassId, ∃ bs : Int64, ∃ tm0 : Int64, ∃ tm1 : Int64, ∃ tm3 : Int64, ∃ tm4 : Int64, ∃ tm5 : Int64, ∃ tm6 : Int64, ∃ tm7 : Int64, ∃ fr0 : Int64, ∃ fr1 : Int64, ∃ fr2 : Int64, ∃ fr3 : Int64, ∃ fr4 : Int64, ∃ fr5 : Int64, ∃ fr6 : Int64, ∃ fr7 : Int64, ∃ to0 : Int64, ∃ to1 : Int64, ∃ to2 : Int64, ∃ to3 : Int64, ∃ to4 : Int64, ∃ to5 : Int64, ∃ to6 : Int64, ∃ to7 : Int64, own_Obj Z h n0 a rT rF rO rS rE rW kT kF kO kW (0 : Int32) (3 : Int32) (2 : Int32) bs (1 : Int32) (1 : Int32) (6 : Int64) (8 : Int32) [(.long tm0), (.long tm1), (.long t), (.long tm3), (.long tm4), (.long tm5), (.long tm6), (.long tm7)] [(.long fr0), (.long fr1), (.long fr2), (.long fr3), (.long fr4), (.long fr5), (.long fr6), (.long fr7)] [(.long to0), (.long to1), (.long to2), (.long to3), (.long to4), (.long to5), (.long to6), (.long to7)] ∧ own_Sp8 Z h rS oM oM (t - fr1) oM oM oM oM oM ∧ own_near T tm1 ∧ own_near T t ∧ own_near T fr1 ∧ own_near T fr2
theorem d7_133 : decode oc7 133 = .ok (.lload_n 1, 1):=by decide +kernel
theorem d7_134 : decode oc7 134 = .ok (.aload_n 0, 1):=by decide +kernel
theorem d7_135 : decode oc7 135 = .ok (.getfield 15, 3):=by decide +kernel
theorem d7_138 : decode oc7 138 = .ok (.iload 6, 2):=by decide +kernel
theorem d7_140 : decode oc7 140 = .ok (.laload, 1):=by decide +kernel
theorem d7_141 : decode oc7 141 = .ok (.lsub, 1):=by decide +kernel
theorem d7_343 : decode oc7 343 = .ok (.aload_n 0, 1):=by decide +kernel
theorem d7_344 : decode oc7 344 = .ok (.invokevirtual 93, 3):=by decide +kernel
theorem d7_347 : decode oc7 347 = .ok (.pop, 1):=by decide +kernel
def Q_rm7_3 (Z : State) (a7_0 : Addr) (q7_1 : Int64) (q7_2 : Int64) (p7_3 : Int32) (rT : Addr) (rF : Addr) (rO : Addr) (rS : Addr) (rE : Addr) (rW : Addr) (kT : ClassId) (kF : ClassId) (kO : ClassId) (kW : ClassId) (bs : Int64) (tm0 : Int64) (tm1 : Int64) (fr0 : Int64) (fr1 : Int64) (to0 : Int64) (to1 : Int64) (T : Int64) (h0 : Heap) (n0 : Nat) (v : Option Value) (h : Heap) (L : List Loc) : Prop := v = none ∧ Fr n0 L ∧ (own_S_2_0_2_2_3 Z h n0 a7_0 T q7_1 ∨ own_S_8_0_3_3_7 Z h n0 a7_0 T q7_1 ∨ own_S_8_0_3_2_6 Z h n0 a7_0 T q7_1)
theorem rm7_3 (l : Launch) (Z : State) (a0 : Array Value) (hw : own_T Z a0) (a7_0 : Addr) (q7_1 q7_2 : Int64) (p7_3 : Int32) (rT rF rO rS rE rW : Addr) (kT kF kO kW : ClassId) (bs tm0 tm1 fr0 fr1 to0 to1 T : Int64) (h0 : Heap) (n0 : Nat) (Z0 : n0 ≤ h0.size) (O : own_Obj Z h0 n0 a7_0 rT rF rO rS rE rW kT kF kO kW (0 : Int32) (2 : Int32) (2 : Int32) bs (1 : Int32) (1 : Int32) (3 : Int64) (2 : Int32) [(.long tm0), (.long tm1)] [(.long fr0), (.long fr1)] [(.long to0), (.long to1)]) (SP : own_Sp2 Z h0 rS oM (tm1 - fr0)) (htm0 : own_near T tm0) (htm1 : own_near T tm1) (hfr0 : own_near T fr0) (hfr1 : own_near T fr1) (hs_q7_1 : own_near T q7_1) (hm : (0 : Int32) < p7_3) :
   own_Met l oy7 oc7 9 none ({ frames := 6, cells := 6, slots := 44, locals := 150 } : Room) Z h0 #[(.ref a7_0), (.long q7_1), (.long q7_2), (.int p7_3)] (Q_rm7_3 Z a7_0 q7_1 q7_2 p7_3 rT rF rO rS rE rW kT kF kO kW bs tm0 tm1 fr0 fr1 to0 to1 T h0 n0) := by
 refine own_go hw (plainFor_of_name pn_7) (fun m => ef_rm7_1 m a7_0 q7_1 q7_2 p7_3) fun p e s m below meth c T0 C hret X0 e0 => ?_
 have N0 := Fr.nil n0
 refine gA C X0 e0 O.Fsize (ow53 C.w) d7_0 d7_1 fun T1 X1 e1 => ?_
 refine bN C X1 d7_4 ((if0 _ _).trans (tlt (by decide : (0 : Int32) < (2 : Int32))).2.2.2) ?_
 refine gA C X1 e1 O.Ftimes (ow17 C.w) d7_7 d7_8 fun T2 X2 e2 => ?_
 refine gA C X2 e2 O.Fend (ow55 C.w) d7_11 d7_12 fun T3 X3 e3 => ?_
 refine sC C X3 d7_15 ?_
 refine sS C X3 d7_16 ?_
 refine lA C X3 e3 O.Vt d7_17 ?_
 refine sL C X3 d7_18 ?_
 refine tC C X3 d7_19 ?_
 by_cases h20_4 : tm1 = q7_1
 · have fw5 := O
   rw [h20_4] at fw5
   have fw6 := SP
   rw [h20_4] at fw6
   refine bN C X3 d7_20 ((if0 _ _).trans (teq ((lw_eq _ _).mpr h20_4)).2) ?_
   refine gA C X3 e3 fw5.Ftotals (ow21 C.w) d7_23 d7_24 fun T7 X7 e7 => ?_
   refine gA C X7 e7 fw5.Fend (ow55 C.w) d7_27 d7_28 fun T8 X8 e8 => ?_
   refine sC C X8 d7_31 ?_
   refine sS C X8 d7_32 ?_
   show own_Fin p l e _ s m _ below meth c _ T8 (mkF m 33 #[oR a7_0, oJ q7_1, oD, oJ q7_2, oD, oI p7_3, oU, oU, oU] [(.int (1 : Int32)), (.ref rO)])
   refine own_Fin.st (g' := (mkF m 34 #[oR a7_0, oJ q7_1, oD, oJ q7_2, oD, oI p7_3, oU, oU, oU] [(.int (1 : Int32)), (.ref rO), (.int (1 : Int32)), (.ref rO)])) ?_ (fun t k => by jvm_step X8.here [X8.here.top, C.1, C.d d7_33, Value.category]; exact k)
   refine lA C X8 e8 fw5.Vo d7_34 ?_
   refine sL C X8 d7_35 ?_
   refine tP C X8 d7_36 ?_
   refine sJ C X8 e8 N0 fw5.grO fw5.Vo _ d7_37 fun T9 h9 lo9 X9 e9 N9 W9 V9 => ?_
   have O9 := fw5.setO W9 V9
   refine sG C X9 d7_38 348 ?_
   have f102 := (fw6.other W9 (Ne.symm O9.n_rO_rS))
   refine rV C X9 e9 hret d7_348 ?_
   exact ⟨rfl, N9, Or.inl ⟨rT, rF, rO, rS, rE, rW, kT, kF, kO, kW, bs, tm0, fr0, fr1, to0, (to1 + q7_2), O9, f102, htm0, hs_q7_1, hfr0, hfr1⟩⟩
 refine bY C X3 d7_20 41 ((if0 _ _).trans (feq (fun q => h20_4 ((lw_eq _ _).mp q))).2) ?_
 refine gA C X3 e3 O.Fsize (ow53 C.w) d7_41 d7_42 fun T10 X10 e10 => ?_
 refine si C X10 d7_45 ?_
 by_cases h47_11 : (2 : Int32) < p7_3
 · refine cY C X10 d7_47 148 ((tlt h47_11).1) ?_
   refine gA C X10 e10 O.Ftimes (ow17 C.w) d7_148 d7_149 fun T12 X12 e12 => ?_
   refine nA C X12 e12 O.Vt d7_152 ?_
   refine wi C X12 #[oR a7_0, oJ q7_1, oD, oJ q7_2, oD, oI p7_3, oI 2, oU, oU] d7_153 ?_
   refine gA C X12 e12 O.Fend (ow55 C.w) d7_155 d7_156 fun T13 X13 e13 => ?_
   refine si C X13 d7_159 ?_
   refine cY C X13 d7_161 188 ((teq (by decide : (2 : Int32) = (2 : Int32))).1) ?_
   refine sA C X13 d7_188 ?_
   refine sC C X13 d7_189 ?_
   refine sC C X13 d7_190 ?_
   refine gA C X13 e13 O.Fsize (ow53 C.w) d7_191 d7_192 fun T14 X14 e14 => ?_
   refine sM C X14 d7_195 ?_
   refine sC C X14 d7_196 ?_
   refine sP C X14 d7_197 ?_
   refine cB C X14 e14 (W := 2) (Jvm.Free.JP.Integer_highestOneBit_I.pays (5 : Int32) (own_tH C) (by decide) (by decide)) (ow57 C.w) (ow58 C.w) (ow60 C.w) (ow59 C.w) (argsL := [(.int (5 : Int32))]) (lenOf pd__I_I rfl) (fun _ => ⟨rfl, trivial⟩) d7_198 fun T15 X15 e15 => ?_
   have cz16 : Jvm.Free.JP.Integer_highestOneBit_I.val (5 : Int32) = (4 : Int32):=by decide +kernel
   rw [cz16]
   refine sC C X15 d7_201 ?_
   refine sH C X15 d7_202 ?_
   refine cS C X15 e15 (fun ws => rm10 l Z a0 C.w ws (2 : Int32) (8 : Int32) h0 n0 O.hsz ) (W := 1) (ow66 C.w) (ow67 C.w) (ow69 C.w) (ow68 C.w) (argsL := [(.int (2 : Int32)), (.int (8 : Int32))]) (lenOf pd__II_I rfl) d7_203 fun v17 T17 lo17 X17 hQ17 => ?_
   obtain ⟨rfl, Nq17, e17⟩ := hQ17
   rw [show (if (2 : Int32) < (8 : Int32) then (8 : Int32) else (2 : Int32)) = (8 : Int32) from by decide +kernel]
   refine cP C X17 e17 (rm11_2 l Z a0 C.w a7_0 rT rF rO rS rE rW kT kF kO kW bs tm0 tm1 fr0 fr1 to0 to1 T h0 n0 O.hsz O SP htm0 htm1 hfr0 hfr1) O.Ea (W := 0) (ow70 C.w) (ow71 C.w) (own_selp (x := oy7) rfl (mvT (args := #[]) C.z (ow51 C.w)) (Cond.privateMethod_at (mvP C.z (ow72 C.w) (args := #[]))) (mvT C.z (ow71 C.w)) (by decide)) (ow72 C.w) (ow73 C.w) (ow9 C.w) (argsL := [(.int (8 : Int32))]) (lenOf pd__I_V rfl) d7_206 fun v19 T19 lo19 X19 hQ19 => ?_
   obtain ⟨rfl, Nq19, rT_19, rF_19, rO_19, rS_19, rE_19, rW_19, kT_19, kF_19, kO_19, kW_19, O19, SP19⟩ := hQ19
   refine gA C X19 rfl O19.Fsize (ow53 C.w) d7_209 d7_210 fun T20 X20 e20 => ?_
   refine bN C X20 d7_213 ((if0 _ _).trans (tlt (by decide : (0 : Int32) < (2 : Int32))).2.2.2) ?_
   refine gA C X20 e20 O19.Ftotals (ow21 C.w) d7_216 d7_217 fun T21 X21 e21 => ?_
   refine gA C X21 e21 O19.Fend (ow55 C.w) d7_220 d7_221 fun T22 X22 e22 => ?_
   refine sC C X22 d7_224 ?_
   refine sS C X22 d7_225 ?_
   refine lA C X22 e22 O19.Vo d7_226 ?_
   refine sG C X22 d7_227 234 ?_
   refine wl C X22 #[oR a7_0, oJ q7_1, oD, oJ q7_2, oD, oI p7_3, oI 2, oJ to1, oD] d7_234 ?_
   refine gA C X22 e22 O19.Ftimes (ow17 C.w) d7_236 d7_237 fun T23 X23 e23 => ?_
   refine gA C X23 e23 O19.Fend (ow55 C.w) d7_240 d7_241 fun T24 X24 e24 => ?_
   refine sL C X24 d7_244 ?_
   refine sJ C X24 e24 ((N0.app Nq17).app Nq19) O19.grT O19.Vt _ d7_245 fun T25 h25 lo25 X25 e25 N25 W25 V25 => ?_
   have O25 := O19.setT W25 V25
   refine gA C X25 e25 O25.Ffroms (ow19 C.w) d7_246 d7_247 fun T26 X26 e26 => ?_
   refine gA C X26 e26 O25.Fend (ow55 C.w) d7_250 d7_251 fun T27 X27 e27 => ?_
   refine sL C X27 d7_254 ?_
   refine sJ C X27 e27 N25 O25.grF O25.Vf _ d7_255 fun T28 h28 lo28 X28 e28 N28 W28 V28 => ?_
   have O28 := O25.setF W28 V28
   refine gA C X28 e28 O28.Ftotals (ow21 C.w) d7_256 d7_257 fun T29 X29 e29 => ?_
   refine gA C X29 e29 O28.Fend (ow55 C.w) d7_260 d7_261 fun T30 X30 e30 => ?_
   refine sl C X30 d7_264 ?_
   refine sL C X30 d7_266 ?_
   refine tP C X30 d7_267 ?_
   refine sJ C X30 e30 N28 O28.grO O28.Vo _ d7_268 fun T31 h31 lo31 X31 e31 N31 W31 V31 => ?_
   have O31 := O28.setO W31 V31
   refine gA C X31 e31 O31.Fentries (ow46 C.w) d7_269 d7_270 fun T32 X32 e32 => ?_
   refine gA C X32 e32 O31.Fend (ow55 C.w) d7_273 d7_274 fun T33 X33 e33 => ?_
   refine cV C X33 e33 (rm20_2 l Z a0 C.w rE_19 (2 : Int32) rW_19 kW_19 (3 : Int64) h31 n0 O31.hsz (by decide +kernel) (by decide +kernel) O31.Ee O31.BwordsInUse O31.BsizeIsSticky O31.Bwords O31.Vw O31.grW O31.St) O31.Ee (W := 0) (ow111 C.w) (ow112 C.w) (ow114 C.w) (ow113 C.w) (ow115 C.w) (ow27 C.w) (argsL := [(.int (2 : Int32))]) (lenOf pd__I_V rfl) d7_277 fun v34 T34 lo34 X34 hQ34 => ?_
   obtain ⟨rfl, Nq34, Kc34, Sc34, P34_0⟩ := hQ34
   rw [show ((3 : Int64) ||| ((1 : Int64) <<< ((2 : Int32) &&& 0x3f).toInt64)) = (7 : Int64) from by decide +kernel] at P34_0
   have O34 := O31.bit1 Kc34 Sc34 P34_0
   refine sA C X34 d7_280 ?_
   refine gA C X34 rfl O34.Fend (ow55 C.w) d7_281 d7_282 fun T35 X35 e35 => ?_
   refine gA C X35 e35 O34.Fsize (ow53 C.w) d7_285 d7_286 fun T36 X36 e36 => ?_
   refine bN C X36 d7_289 ((if0 _ _).trans (tlt (by decide : (0 : Int32) < (2 : Int32))).2.2.2) ?_
   refine sL C X36 d7_292 ?_
   refine gA C X36 e36 O34.Ffroms (ow19 C.w) d7_293 d7_294 fun T37 X37 e37 => ?_
   refine gA C X37 e37 O34.Fend (ow55 C.w) d7_297 d7_298 fun T38 X38 e38 => ?_
   refine sC C X38 d7_301 ?_
   refine sS C X38 d7_302 ?_
   refine lA C X38 e38 O34.Vf d7_303 ?_
   refine tS C X38 d7_304 ?_
   refine sG C X38 d7_305 311 ?_
   have f39 := ((((SP19.other W25 (Ne.symm O34.n_rT_rS)).other W28 (Ne.symm O34.n_rF_rS)).other W31 (Ne.symm O34.n_rO_rS)).keep Kc34 (ninS O34.n_rS_rW nin0))
   refine cP C X38 e38 (rm23_8_2 l Z a0 C.w a7_0 (q7_1 - fr1) rT_19 kT_19 tm0 tm1 q7_1 (0 : Int64) (0 : Int64) (0 : Int64) (0 : Int64) (0 : Int64) rS_19 oM (tm1 - fr0) oM oM oM oM oM oM T34.heap n0 O34.hsz O34.Ftimes O34.Vt O34.Fspans f39 O34.grS O34.n_a_rS) O34.Ea (W := 0) (ow126 C.w) (ow127 C.w) (own_selp (x := oy7) rfl (mvT (args := #[]) C.z (ow51 C.w)) (Cond.privateMethod_at (mvP C.z (ow128 C.w) (args := #[]))) (mvT C.z (ow127 C.w)) (by decide)) (ow128 C.w) (ow129 C.w) (ow9 C.w) (argsL := [(.int (2 : Int32)), (.long (q7_1 - fr1))]) (lenOf pd__IJ_V rfl) d7_311 fun v40 T40 lo40 X40 hQ40 => ?_
   obtain ⟨rfl, Nq40, Kc40, Sc40, P40_0⟩ := hQ40
   have O40 := O34.sp Kc40 Sc40
   refine sA C X40 d7_314 ?_
   refine sD C X40 d7_315 ?_
   refine gF C X40 rfl O40.Fend (ow55 C.w) d7_316 fun T41 X41 e41 => ?_
   refine sC C X41 d7_319 ?_
   refine sP C X41 d7_320 ?_
   refine pF C X41 e41 ((N31.app Nq34).app Nq40) O40.ga O40.Fend O40.Ea (ty := .int) (ow55 C.w) (ow56 C.w) (ow8 C.w) (by decide) d7_321 fun T42 h42 lo42 X42 e42 N42 W42 F42 => ?_
   have O42 := own_Obj.put_end hw O40 W42 F42
   refine sA C X42 d7_324 ?_
   refine sD C X42 d7_325 ?_
   refine gF C X42 e42 O42.Fsize (ow53 C.w) d7_326 fun T43 X43 e43 => ?_
   refine sC C X43 d7_329 ?_
   refine sP C X43 d7_330 ?_
   refine pF C X43 e43 N42 O42.ga O42.Fsize O42.Ea (ty := .int) (ow53 C.w) (ow54 C.w) (ow8 C.w) (by decide) d7_331 fun T44 h44 lo44 X44 e44 N44 W44 F44 => ?_
   have O44 := own_Obj.put_size hw O42 W44 F44
   refine gA C X44 e44 O44.Fsize (ow53 C.w) d7_334 d7_335 fun T45 X45 e45 => ?_
   refine si C X45 d7_338 ?_
   refine cY C X45 d7_340 348 ((flt (own_ilt (2 : Int32) (3 : Int32) h47_11 (by decide))).2.2.2) ?_
   have f103 := ((P40_0.other W42 (Ne.symm O44.n_a_rS)).other W44 (Ne.symm O44.n_a_rS))
   refine rV C X45 e45 hret d7_348 ?_
   exact ⟨rfl, N44, Or.inr (Or.inl ⟨rT_19, rF_19, rO_19, rS_19, rE_19, rW_19, kT_19, kF_19, kO_19, kW_19, bs, tm0, tm1, (0 : Int64), (0 : Int64), (0 : Int64), (0 : Int64), (0 : Int64), fr0, fr1, q7_1, (0 : Int64), (0 : Int64), (0 : Int64), (0 : Int64), (0 : Int64), to0, to1, (to1 + q7_2), (0 : Int64), (0 : Int64), (0 : Int64), (0 : Int64), (0 : Int64), O44, f103, htm0, htm1, hs_q7_1, hfr0, hfr1, hs_q7_1⟩)⟩
 refine cN C X10 d7_47 ((flt h47_11).1) ?_
 refine sL C X10 d7_50 ?_
 refine gA C X10 e10 O.Ffroms (ow19 C.w) d7_51 d7_52 fun T46 X46 e46 => ?_
 refine gA C X46 e46 O.Fend (ow55 C.w) d7_55 d7_56 fun T47 X47 e47 => ?_
 refine sC C X47 d7_59 ?_
 refine sS C X47 d7_60 ?_
 refine lA C X47 e47 O.Vf d7_61 ?_
 refine tS C X47 d7_62 ?_
 refine gA C X47 e47 O.Fspans (ow23 C.w) d7_63 d7_64 fun T48 X48 e48 => ?_
 refine sC C X48 d7_67 ?_
 obtain ⟨kq49, VT49⟩ := id SP
 refine lA C X48 e48 VT49 d7_68 ?_
 refine tC C X48 d7_69 ?_
 by_cases h70_50 : (q7_1 - fr1) < (own_m oM (tm1 - fr0))
 · refine bN C X48 d7_70 ((if0 _ _).trans (tlt ((lw_lt _ _).mpr h70_50)).2.1) ?_
   refine gA C X48 e48 O.Ftimes (ow17 C.w) d7_73 d7_74 fun T51 X51 e51 => ?_
   refine gA C X51 e51 O.Fend (ow55 C.w) d7_77 d7_78 fun T52 X52 e52 => ?_
   refine sC C X52 d7_81 ?_
   refine sS C X52 d7_82 ?_
   refine sL C X52 d7_83 ?_
   refine sJ C X52 e52 N0 O.grT O.Vt _ d7_84 fun T53 h53 lo53 X53 e53 N53 W53 V53 => ?_
   have O53 := O.setT W53 V53
   refine gA C X53 e53 O53.Ftotals (ow21 C.w) d7_85 d7_86 fun T54 X54 e54 => ?_
   refine gA C X54 e54 O53.Fend (ow55 C.w) d7_89 d7_90 fun T55 X55 e55 => ?_
   refine sC C X55 d7_93 ?_
   refine sS C X55 d7_94 ?_
   show own_Fin p l e _ s m _ below meth c _ T55 (mkF m 95 #[oR a7_0, oJ q7_1, oD, oJ q7_2, oD, oI p7_3, oU, oU, oU] [(.int (1 : Int32)), (.ref rO)])
   refine own_Fin.st (g' := (mkF m 96 #[oR a7_0, oJ q7_1, oD, oJ q7_2, oD, oI p7_3, oU, oU, oU] [(.int (1 : Int32)), (.ref rO), (.int (1 : Int32)), (.ref rO)])) ?_ (fun t k => by jvm_step X55.here [X55.here.top, C.1, C.d d7_95, Value.category]; exact k)
   refine lA C X55 e55 O53.Vo d7_96 ?_
   refine sL C X55 d7_97 ?_
   refine tP C X55 d7_98 ?_
   refine sJ C X55 e55 N53 O53.grO O53.Vo _ d7_99 fun T56 h56 lo56 X56 e56 N56 W56 V56 => ?_
   have O56 := O53.setO W56 V56
   refine gA C X56 e56 O56.Fentries (ow46 C.w) d7_100 d7_101 fun T57 X57 e57 => ?_
   refine gA C X57 e57 O56.Fend (ow55 C.w) d7_104 d7_105 fun T58 X58 e58 => ?_
   refine sC C X58 d7_108 ?_
   refine sS C X58 d7_109 ?_
   refine cV C X58 e58 (rm32_2 l Z a0 C.w rE (0 : Int32) rW kW (3 : Int64) h56 n0 O56.hsz (by decide +kernel) (by decide +kernel) O56.Ee O56.BwordsInUse O56.BsizeIsSticky O56.Bwords O56.Vw O56.St) O56.Ee (W := 0) (ow168 C.w) (ow169 C.w) (ow171 C.w) (ow170 C.w) (ow172 C.w) (ow27 C.w) (argsL := [(.int (0 : Int32))]) (lenOf pd__I_I rfl) d7_110 fun v59 T59 lo59 X59 hQ59 => ?_
   obtain ⟨rfl, Nq59, e59⟩ := hQ59
   rw [show (own_psb (0 : Int32) (3 : Int64)) = (0 : Int32) from by decide +kernel]
   refine wi C X59 #[oR a7_0, oJ q7_1, oD, oJ q7_2, oD, oI p7_3, oI 0, oU, oU] d7_113 ?_
   refine sA C X59 d7_115 ?_
   refine gA C X59 e59 O56.Fend (ow55 C.w) d7_116 d7_117 fun T61 X61 e61 => ?_
   refine sC C X61 d7_120 ?_
   refine sS C X61 d7_121 ?_
   refine si C X61 d7_122 ?_
   refine bY C X61 d7_124 133 ((if0 _ _).trans (flt (by decide : ¬ ((0 : Int32) < (0 : Int32)))).2.1) ?_
   refine sL C X61 d7_133 ?_
   refine gA C X61 e61 O56.Ffroms (ow19 C.w) d7_134 d7_135 fun T62 X62 e62 => ?_
   refine si C X62 d7_138 ?_
   refine lA C X62 e62 O56.Vf d7_140 ?_
   refine tS C X62 d7_141 ?_
   have f63 := ((SP.other W53 (Ne.symm O56.n_rT_rS)).other W56 (Ne.symm O56.n_rO_rS))
   refine cP C X62 e62 (rm23_2_1 l Z a0 C.w a7_0 (q7_1 - fr0) rT kT tm0 q7_1 rS oM (tm1 - fr0) h56 n0 O56.hsz O56.Ftimes O56.Vt O56.Fspans f63 O56.grS O56.n_a_rS) O56.Ea (W := 0) (ow126 C.w) (ow127 C.w) (own_selp (x := oy7) rfl (mvT (args := #[]) C.z (ow51 C.w)) (Cond.privateMethod_at (mvP C.z (ow128 C.w) (args := #[]))) (mvT C.z (ow127 C.w)) (by decide)) (ow128 C.w) (ow129 C.w) (ow9 C.w) (argsL := [(.int (1 : Int32)), (.long (q7_1 - fr0))]) (lenOf pd__IJ_V rfl) d7_142 fun v64 T64 lo64 X64 hQ64 => ?_
   obtain ⟨rfl, Nq64, Kc64, Sc64, P64_0⟩ := hQ64
   have O64 := O56.sp Kc64 Sc64
   refine sG C X64 d7_145 348 ?_
   refine rV C X64 rfl hret d7_348 ?_
   exact ⟨rfl, ((N56.app Nq59).app Nq64), Or.inl ⟨rT, rF, rO, rS, rE, rW, kT, kF, kO, kW, bs, tm0, fr0, fr1, to0, (to1 + q7_2), O64, P64_0, htm0, hs_q7_1, hfr0, hfr1⟩⟩
 refine bY C X48 d7_70 148 ((if0 _ _).trans (flt (fun q => h70_50 ((lw_lt _ _).mp q))).2.1) ?_
 refine gA C X48 e48 O.Ftimes (ow17 C.w) d7_148 d7_149 fun T65 X65 e65 => ?_
 refine nA C X65 e65 O.Vt d7_152 ?_
 refine wi C X65 #[oR a7_0, oJ q7_1, oD, oJ q7_2, oD, oI p7_3, oI 2, oU, oU] d7_153 ?_
 refine gA C X65 e65 O.Fend (ow55 C.w) d7_155 d7_156 fun T66 X66 e66 => ?_
 refine si C X66 d7_159 ?_
 refine cY C X66 d7_161 188 ((teq (by decide : (2 : Int32) = (2 : Int32))).1) ?_
 refine sA C X66 d7_188 ?_
 refine sC C X66 d7_189 ?_
 refine sC C X66 d7_190 ?_
 refine gA C X66 e66 O.Fsize (ow53 C.w) d7_191 d7_192 fun T67 X67 e67 => ?_
 refine sM C X67 d7_195 ?_
 refine sC C X67 d7_196 ?_
 refine sP C X67 d7_197 ?_
 refine cB C X67 e67 (W := 2) (Jvm.Free.JP.Integer_highestOneBit_I.pays (5 : Int32) (own_tH C) (by decide) (by decide)) (ow57 C.w) (ow58 C.w) (ow60 C.w) (ow59 C.w) (argsL := [(.int (5 : Int32))]) (lenOf pd__I_I rfl) (fun _ => ⟨rfl, trivial⟩) d7_198 fun T68 X68 e68 => ?_
 have cz69 : Jvm.Free.JP.Integer_highestOneBit_I.val (5 : Int32) = (4 : Int32):=by decide +kernel
 rw [cz69]
 refine sC C X68 d7_201 ?_
 refine sH C X68 d7_202 ?_
 refine cS C X68 e68 (fun ws => rm10 l Z a0 C.w ws (2 : Int32) (8 : Int32) h0 n0 O.hsz ) (W := 1) (ow66 C.w) (ow67 C.w) (ow69 C.w) (ow68 C.w) (argsL := [(.int (2 : Int32)), (.int (8 : Int32))]) (lenOf pd__II_I rfl) d7_203 fun v70 T70 lo70 X70 hQ70 => ?_
 obtain ⟨rfl, Nq70, e70⟩ := hQ70
 rw [show (if (2 : Int32) < (8 : Int32) then (8 : Int32) else (2 : Int32)) = (8 : Int32) from by decide +kernel]
 refine cP C X70 e70 (rm11_2 l Z a0 C.w a7_0 rT rF rO rS rE rW kT kF kO kW bs tm0 tm1 fr0 fr1 to0 to1 T h0 n0 O.hsz O SP htm0 htm1 hfr0 hfr1) O.Ea (W := 0) (ow70 C.w) (ow71 C.w) (own_selp (x := oy7) rfl (mvT (args := #[]) C.z (ow51 C.w)) (Cond.privateMethod_at (mvP C.z (ow72 C.w) (args := #[]))) (mvT C.z (ow71 C.w)) (by decide)) (ow72 C.w) (ow73 C.w) (ow9 C.w) (argsL := [(.int (8 : Int32))]) (lenOf pd__I_V rfl) d7_206 fun v72 T72 lo72 X72 hQ72 => ?_
 obtain ⟨rfl, Nq72, rT_72, rF_72, rO_72, rS_72, rE_72, rW_72, kT_72, kF_72, kO_72, kW_72, O72, SP72⟩ := hQ72
 refine gA C X72 rfl O72.Fsize (ow53 C.w) d7_209 d7_210 fun T73 X73 e73 => ?_
 refine bN C X73 d7_213 ((if0 _ _).trans (tlt (by decide : (0 : Int32) < (2 : Int32))).2.2.2) ?_
 refine gA C X73 e73 O72.Ftotals (ow21 C.w) d7_216 d7_217 fun T74 X74 e74 => ?_
 refine gA C X74 e74 O72.Fend (ow55 C.w) d7_220 d7_221 fun T75 X75 e75 => ?_
 refine sC C X75 d7_224 ?_
 refine sS C X75 d7_225 ?_
 refine lA C X75 e75 O72.Vo d7_226 ?_
 refine sG C X75 d7_227 234 ?_
 refine wl C X75 #[oR a7_0, oJ q7_1, oD, oJ q7_2, oD, oI p7_3, oI 2, oJ to1, oD] d7_234 ?_
 refine gA C X75 e75 O72.Ftimes (ow17 C.w) d7_236 d7_237 fun T76 X76 e76 => ?_
 refine gA C X76 e76 O72.Fend (ow55 C.w) d7_240 d7_241 fun T77 X77 e77 => ?_
 refine sL C X77 d7_244 ?_
 refine sJ C X77 e77 ((N0.app Nq70).app Nq72) O72.grT O72.Vt _ d7_245 fun T78 h78 lo78 X78 e78 N78 W78 V78 => ?_
 have O78 := O72.setT W78 V78
 refine gA C X78 e78 O78.Ffroms (ow19 C.w) d7_246 d7_247 fun T79 X79 e79 => ?_
 refine gA C X79 e79 O78.Fend (ow55 C.w) d7_250 d7_251 fun T80 X80 e80 => ?_
 refine sL C X80 d7_254 ?_
 refine sJ C X80 e80 N78 O78.grF O78.Vf _ d7_255 fun T81 h81 lo81 X81 e81 N81 W81 V81 => ?_
 have O81 := O78.setF W81 V81
 refine gA C X81 e81 O81.Ftotals (ow21 C.w) d7_256 d7_257 fun T82 X82 e82 => ?_
 refine gA C X82 e82 O81.Fend (ow55 C.w) d7_260 d7_261 fun T83 X83 e83 => ?_
 refine sl C X83 d7_264 ?_
 refine sL C X83 d7_266 ?_
 refine tP C X83 d7_267 ?_
 refine sJ C X83 e83 N81 O81.grO O81.Vo _ d7_268 fun T84 h84 lo84 X84 e84 N84 W84 V84 => ?_
 have O84 := O81.setO W84 V84
 refine gA C X84 e84 O84.Fentries (ow46 C.w) d7_269 d7_270 fun T85 X85 e85 => ?_
 refine gA C X85 e85 O84.Fend (ow55 C.w) d7_273 d7_274 fun T86 X86 e86 => ?_
 refine cV C X86 e86 (rm20_2 l Z a0 C.w rE_72 (2 : Int32) rW_72 kW_72 (3 : Int64) h84 n0 O84.hsz (by decide +kernel) (by decide +kernel) O84.Ee O84.BwordsInUse O84.BsizeIsSticky O84.Bwords O84.Vw O84.grW O84.St) O84.Ee (W := 0) (ow111 C.w) (ow112 C.w) (ow114 C.w) (ow113 C.w) (ow115 C.w) (ow27 C.w) (argsL := [(.int (2 : Int32))]) (lenOf pd__I_V rfl) d7_277 fun v87 T87 lo87 X87 hQ87 => ?_
 obtain ⟨rfl, Nq87, Kc87, Sc87, P87_0⟩ := hQ87
 rw [show ((3 : Int64) ||| ((1 : Int64) <<< ((2 : Int32) &&& 0x3f).toInt64)) = (7 : Int64) from by decide +kernel] at P87_0
 have O87 := O84.bit1 Kc87 Sc87 P87_0
 refine sA C X87 d7_280 ?_
 refine gA C X87 rfl O87.Fend (ow55 C.w) d7_281 d7_282 fun T88 X88 e88 => ?_
 refine gA C X88 e88 O87.Fsize (ow53 C.w) d7_285 d7_286 fun T89 X89 e89 => ?_
 refine bN C X89 d7_289 ((if0 _ _).trans (tlt (by decide : (0 : Int32) < (2 : Int32))).2.2.2) ?_
 refine sL C X89 d7_292 ?_
 refine gA C X89 e89 O87.Ffroms (ow19 C.w) d7_293 d7_294 fun T90 X90 e90 => ?_
 refine gA C X90 e90 O87.Fend (ow55 C.w) d7_297 d7_298 fun T91 X91 e91 => ?_
 refine sC C X91 d7_301 ?_
 refine sS C X91 d7_302 ?_
 refine lA C X91 e91 O87.Vf d7_303 ?_
 refine tS C X91 d7_304 ?_
 refine sG C X91 d7_305 311 ?_
 have f92 := ((((SP72.other W78 (Ne.symm O87.n_rT_rS)).other W81 (Ne.symm O87.n_rF_rS)).other W84 (Ne.symm O87.n_rO_rS)).keep Kc87 (ninS O87.n_rS_rW nin0))
 refine cP C X91 e91 (rm23_8_2 l Z a0 C.w a7_0 (q7_1 - fr1) rT_72 kT_72 tm0 tm1 q7_1 (0 : Int64) (0 : Int64) (0 : Int64) (0 : Int64) (0 : Int64) rS_72 oM (tm1 - fr0) oM oM oM oM oM oM T87.heap n0 O87.hsz O87.Ftimes O87.Vt O87.Fspans f92 O87.grS O87.n_a_rS) O87.Ea (W := 0) (ow126 C.w) (ow127 C.w) (own_selp (x := oy7) rfl (mvT (args := #[]) C.z (ow51 C.w)) (Cond.privateMethod_at (mvP C.z (ow128 C.w) (args := #[]))) (mvT C.z (ow127 C.w)) (by decide)) (ow128 C.w) (ow129 C.w) (ow9 C.w) (argsL := [(.int (2 : Int32)), (.long (q7_1 - fr1))]) (lenOf pd__IJ_V rfl) d7_311 fun v93 T93 lo93 X93 hQ93 => ?_
 obtain ⟨rfl, Nq93, Kc93, Sc93, P93_0⟩ := hQ93
 have O93 := O87.sp Kc93 Sc93
 refine sA C X93 d7_314 ?_
 refine sD C X93 d7_315 ?_
 refine gF C X93 rfl O93.Fend (ow55 C.w) d7_316 fun T94 X94 e94 => ?_
 refine sC C X94 d7_319 ?_
 refine sP C X94 d7_320 ?_
 refine pF C X94 e94 ((N84.app Nq87).app Nq93) O93.ga O93.Fend O93.Ea (ty := .int) (ow55 C.w) (ow56 C.w) (ow8 C.w) (by decide) d7_321 fun T95 h95 lo95 X95 e95 N95 W95 F95 => ?_
 have O95 := own_Obj.put_end hw O93 W95 F95
 refine sA C X95 d7_324 ?_
 refine sD C X95 d7_325 ?_
 refine gF C X95 e95 O95.Fsize (ow53 C.w) d7_326 fun T96 X96 e96 => ?_
 refine sC C X96 d7_329 ?_
 refine sP C X96 d7_330 ?_
 refine pF C X96 e96 N95 O95.ga O95.Fsize O95.Ea (ty := .int) (ow53 C.w) (ow54 C.w) (ow8 C.w) (by decide) d7_331 fun T97 h97 lo97 X97 e97 N97 W97 F97 => ?_
 have O97 := own_Obj.put_size hw O95 W97 F97
 refine gA C X97 e97 O97.Fsize (ow53 C.w) d7_334 d7_335 fun T98 X98 e98 => ?_
 refine si C X98 d7_338 ?_
 refine cN C X98 d7_340 ((tlt (own_igt (2 : Int32) (3 : Int32) h47_11 (by decide))).2.2.2) ?_
 refine sA C X98 d7_343 ?_
 have f99 := ((P93_0.other W95 (Ne.symm O97.n_a_rS)).other W97 (Ne.symm O97.n_a_rS))
 refine cV C X98 e98 (rm30_8_7 l Z a0 C.w a7_0 rT_72 rF_72 rO_72 rS_72 rE_72 rW_72 kT_72 kF_72 kO_72 kW_72 (0 : Int32) (3 : Int32) (3 : Int32) bs tm0 tm1 q7_1 (0 : Int64) (0 : Int64) (0 : Int64) (0 : Int64) (0 : Int64) fr0 fr1 q7_1 (0 : Int64) (0 : Int64) (0 : Int64) (0 : Int64) (0 : Int64) to0 to1 (to1 + q7_2) (0 : Int64) (0 : Int64) (0 : Int64) (0 : Int64) (0 : Int64) T h97 n0 O97.hsz O97 f99 htm0 htm1 hs_q7_1 hfr0 hfr1 hs_q7_1 (by decide)) O97.Ea (W := 0) (ow177 C.w) (ow160 C.w) (ow162 C.w) (ow161 C.w) (ow163 C.w) (ow9 C.w) (argsL := []) (lenOf pd___Z rfl) d7_344 fun v100 T100 lo100 X100 hQ100 => ?_
 obtain ⟨rfl, Nq100, J100⟩ := hQ100
 rcases J100 with ⟨hk100_0, O100_0, SP100_0⟩ | ⟨hk100_1, O100_1, SP100_1⟩
 · have own_t101 : True := trivial
   rw [show ((3 : Int32) - (1 : Int32)) = (2 : Int32) from by decide] at O100_0
   refine sO C X100 d7_347 ?_
   refine rV C X100 rfl hret d7_348 ?_
   exact ⟨rfl, (N97.app Nq100), Or.inr (Or.inr (⟨rT_72, rF_72, rO_72, rS_72, rE_72, rW_72, kT_72, kF_72, kO_72, kW_72, bs, tm0, tm1, (0 : Int64), (0 : Int64), (0 : Int64), (0 : Int64), (0 : Int64), fr0, fr0, q7_1, (0 : Int64), (0 : Int64), (0 : Int64), (0 : Int64), (0 : Int64), to0, to1, (to1 + q7_2), (0 : Int64), (0 : Int64), (0 : Int64), (0 : Int64), (0 : Int64), O100_0, SP100_0, htm1, hs_q7_1, hfr0, hs_q7_1⟩))⟩
 exact absurd hk100_1 (own_shn_8_7_2 (tm1 - fr0) (q7_1 - fr1) (own_nlt htm1 hfr0) (own_nlt hs_q7_1 hfr1) h70_50)
def own_S_8_x_3_3_7 (Z : State) (h : Heap) (n0 : Nat) (a : Addr) (T t : Int64) : Prop := ∃ rT : Addr, ∃ rF : Addr, ∃ rO : Addr, ∃ rS : Addr, ∃ rE : Addr, ∃ rW : Addr, ∃ kT : ClassId, ∃ kF : ClassId, ∃ kO : ClassId, ∃ kW : ClassId, ∃ fi : Int32, ∃ bs : Int64, ∃ tm0 : Int64, ∃ tm1 : Int64, ∃ tm3 : Int64, ∃ tm4 : Int64, ∃ tm5 : Int64, ∃ tm6 : Int64, ∃ tm7 : Int64, ∃ fr0 : Int64, ∃ fr1 : Int64, ∃ fr2 : Int64, ∃ fr3 : Int64, ∃ fr4 : Int64, ∃ fr5 : Int64, ∃ fr6 : Int64, ∃ fr7 : Int64, ∃ to0 : Int64, ∃ to1 : Int64, ∃ to2 : Int64, ∃ to3 : Int64, ∃ to4 : Int64, ∃ to5 : Int64, ∃ to6 : Int64, ∃ to7 : Int64, own_Obj Z h n0 a rT rF rO rS rE rW kT kF kO kW fi (3 : Int32) (3 : Int32) bs (1 : Int32) (1 : Int32) (7 : Int64) (8 : Int32) [(.long tm0), (.long tm1), (.long t), (.long tm3), (.long tm4), (.long tm5), (.long tm6), (.long tm7)] [(.long fr0), (.long fr1), (.long fr2), (.long fr3), (.long fr4), (.long fr5), (.long fr6), (.long fr7)] [(.long to0), (.long to1), (.long to2), (.long to3), (.long to4), (.long to5), (.long to6), (.long to7)] ∧ own_Sp8 Z h rS oM (tm1 - fr0) (t - fr1) oM oM oM oM oM ∧ own_near T tm0 ∧ own_near T tm1 ∧ own_near T t ∧ own_near T fr0 ∧ own_near T fr1 ∧ own_near T fr2
def own_S_8_x_3_2_6 (Z : State) (h : Heap) (n0 : Nat) (a : Addr) (T t : Int64) : Prop := ∃ rT : Addr, ∃ rF : Addr, ∃ rO : Addr, ∃ rS : Addr, ∃ rE : Addr, ∃ rW : Addr, ∃ kT : ClassId, ∃ kF : ClassId, ∃ kO : ClassId, ∃ kW : ClassId, ∃ fi : Int32, ∃ bs : Int64, ∃ tm0 : Int64, ∃ tm1 : Int64, ∃ tm3 : Int64, ∃ tm4 : Int64, ∃ tm5 : Int64, ∃ tm6 : Int64, ∃ tm7 : Int64, ∃ fr0 : Int64, ∃ fr1 : Int64, ∃ fr2 : Int64, ∃ fr3 : Int64, ∃ fr4 : Int64, ∃ fr5 : Int64, ∃ fr6 : Int64, ∃ fr7 : Int64, ∃ to0 : Int64, ∃ to1 : Int64, ∃ to2 : Int64, ∃ to3 : Int64, ∃ to4 : Int64, ∃ to5 : Int64, ∃ to6 : Int64, ∃ to7 : Int64, own_Obj Z h n0 a rT rF rO rS rE rW kT kF kO kW fi (3 : Int32) (2 : Int32) bs (1 : Int32) (1 : Int32) (6 : Int64) (8 : Int32) [(.long tm0), (.long tm1), (.long t), (.long tm3), (.long tm4), (.long tm5), (.long tm6), (.long tm7)] [(.long fr0), (.long fr1), (.long fr2), (.long fr3), (.long fr4), (.long fr5), (.long fr6), (.long fr7)] [(.long to0), (.long to1), (.long to2), (.long to3), (.long to4), (.long to5), (.long to6), (.long to7)] ∧ own_Sp8 Z h rS oM oM (t - fr1) oM oM oM oM oM ∧ own_near T tm1 ∧ own_near T t ∧ own_near T fr1 ∧ own_near T fr2
theorem d25_0 : decode oc25 0 = .ok (.aload_n 0, 1):=by decide +kernel
theorem d25_1 : decode oc25 1 = .ok (.getfield 27, 3):=by decide +kernel
theorem d25_4 : decode oc25 4 = .ok (.aload_n 0, 1):=by decide +kernel
theorem d25_5 : decode oc25 5 = .ok (.getfield 54, 3):=by decide +kernel
theorem d25_8 : decode oc25 8 = .ok (.invokevirtual 50, 3):=by decide +kernel
theorem d25_11 : decode oc25 11 = .ok (.istore_n 3, 1):=by decide +kernel
theorem d25_12 : decode oc25 12 = .ok (.iload_n 3, 1):=by decide +kernel
theorem d25_13 : decode oc25 13 = .ok (.ifCond .lt 68, 3):=by decide +kernel
theorem d25_16 : decode oc25 16 = .ok (.aload_n 0, 1):=by decide +kernel
theorem d25_17 : decode oc25 17 = .ok (.getfield 9, 3):=by decide +kernel
theorem d25_20 : decode oc25 20 = .ok (.iload_n 3, 1):=by decide +kernel
theorem d25_21 : decode oc25 21 = .ok (.laload, 1):=by decide +kernel
theorem d25_22 : decode oc25 22 = .ok (.lload_n 1, 1):=by decide +kernel
theorem d25_23 : decode oc25 23 = .ok (.lcmp, 1):=by decide +kernel
theorem d25_24 : decode oc25 24 = .ok (.ifCond .gt 57, 3):=by decide +kernel
theorem d25_81 : decode oc25 81 = .ok (.aload_n 0, 1):=by decide +kernel
theorem d25_82 : decode oc25 82 = .ok (.iload_n 3, 1):=by decide +kernel
theorem d25_83 : decode oc25 83 = .ok (.ifCond .ge 10, 3):=by decide +kernel
theorem d25_93 : decode oc25 93 = .ok (.iload_n 3, 1):=by decide +kernel
theorem d25_94 : decode oc25 94 = .ok (.putfield 54, 3):=by decide +kernel
theorem d25_97 : decode oc25 97 = .ok (.return_, 1):=by decide +kernel
theorem pn_25 : plainName oL = true := by first | (simp [plainName, overriddenIn]; done) | decide +kernel
theorem ef_rm25_1 (m : MethodId) (y0 : Addr) (y1 : Int64) : entryFrame m #[(.ref y0), (.long y1)] 4 = mkF m 0 #[oR y0, oJ y1, oD, oU] [] := by first | (simp [entryFrame, mkF, argsToLocals, Value.category]; done) | rfl
def Q_rm25_1 (Z : State) (a25_0 : Addr) (q25_1 : Int64) (rT : Addr) (rF : Addr) (rO : Addr) (rS : Addr) (rE : Addr) (rW : Addr) (kT : ClassId) (kF : ClassId) (kO : ClassId) (kW : ClassId) (bs : Int64) (tm0 : Int64) (tm1 : Int64) (fr0 : Int64) (fr1 : Int64) (to0 : Int64) (to1 : Int64) (T : Int64) (h0 : Heap) (n0 : Nat) (v : Option Value) (h : Heap) (L : List Loc) : Prop := v = none ∧ Fr n0 L ∧ (own_S_2_0_1_1_1 Z h n0 a25_0 T tm0)
theorem rm25_1 (l : Launch) (Z : State) (a0 : Array Value) (hw : own_T Z a0) (a25_0 : Addr) (q25_1 : Int64) (rT rF rO rS rE rW : Addr) (kT kF kO kW : ClassId) (bs tm0 tm1 fr0 fr1 to0 to1 T : Int64) (h0 : Heap) (n0 : Nat) (Z0 : n0 ≤ h0.size) (O : own_Obj Z h0 n0 a25_0 rT rF rO rS rE rW kT kF kO kW (0 : Int32) (1 : Int32) (1 : Int32) bs (1 : Int32) (1 : Int32) (1 : Int64) (2 : Int32) [(.long tm0), (.long tm1)] [(.long fr0), (.long fr1)] [(.long to0), (.long to1)]) (SP : own_Sp2 Z h0 rS oM oM) (htm0 : own_near T tm0) (hfr0 : own_near T fr0) (hq : q25_1 < tm0) :
   own_Met l oy25 oc25 4 none ({ frames := 5, cells := 0, slots := 0, locals := 120 } : Room) Z h0 #[(.ref a25_0), (.long q25_1)] (Q_rm25_1 Z a25_0 q25_1 rT rF rO rS rE rW kT kF kO kW bs tm0 tm1 fr0 fr1 to0 to1 T h0 n0) := by
 refine own_go hw (plainFor_of_name pn_25) (fun m => ef_rm25_1 m a25_0 q25_1) fun p e s m below meth c T0 C hret X0 e0 => ?_
 have N0 := Fr.nil n0
 refine gA C X0 e0 O.Fentries (ow46 C.w) d25_0 d25_1 fun T1 X1 e1 => ?_
 refine gA C X1 e1 O.Ffirst (ow74 C.w) d25_4 d25_5 fun T2 X2 e2 => ?_
 refine cV C X2 e2 (rm12_2 l Z a0 C.w rE (0 : Int32) rW kW (1 : Int64) h0 n0 O.hsz (by decide +kernel) (by decide +kernel) O.Ee O.BwordsInUse O.BsizeIsSticky O.Bwords O.Vw O.St) O.Ee (W := 0) (ow76 C.w) (ow77 C.w) (ow79 C.w) (ow78 C.w) (ow80 C.w) (ow27 C.w) (argsL := [(.int (0 : Int32))]) (lenOf pd__I_I rfl) d25_8 fun v3 T3 lo3 X3 hQ3 => ?_
 obtain ⟨rfl, Nq3, e3⟩ := hQ3
 rw [show (own_nsb (0 : Int32) (1 : Int64)) = (0 : Int32) from by decide +kernel]
 refine wI C X3 #[oR a25_0, oJ q25_1, oD, oI 0] d25_11 ?_
 refine sI C X3 d25_12 ?_
 refine bN C X3 d25_13 ((if0 _ _).trans (flt (by decide : ¬ ((0 : Int32) < (0 : Int32)))).1) ?_
 refine gA C X3 e3 O.Ftimes (ow17 C.w) d25_16 d25_17 fun T5 X5 e5 => ?_
 refine sI C X5 d25_20 ?_
 refine lA C X5 e5 O.Vt d25_21 ?_
 refine sL C X5 d25_22 ?_
 refine tC C X5 d25_23 ?_
 refine bY C X5 d25_24 81 ((if0 _ _).trans (tlt ((lw_gt _ _).mpr hq)).2.2.1) ?_
 refine sA C X5 d25_81 ?_
 refine sI C X5 d25_82 ?_
 refine bY C X5 d25_83 93 ((if0 _ _).trans (flt (by decide : ¬ ((0 : Int32) < (0 : Int32)))).2.1) ?_
 refine sI C X5 d25_93 ?_
 refine pF C X5 e5 (N0.app Nq3) O.ga O.Ffirst O.Ea (ty := .int) (ow74 C.w) (ow75 C.w) (ow8 C.w) (by decide) d25_94 fun T6 h6 lo6 X6 e6 N6 W6 F6 => ?_
 have O6 := own_Obj.put_first hw O W6 F6
 have f7 := (SP.other W6 (Ne.symm O6.n_a_rS))
 refine rV C X6 e6 hret d25_97 ?_
 exact ⟨rfl, N6, ⟨rT, rF, rO, rS, rE, rW, kT, kF, kO, kW, bs, tm1, fr0, fr1, to0, to1, O6, f7, htm0, hfr0⟩⟩
def own_S_2_1_2_1_2 (Z : State) (h : Heap) (n0 : Nat) (a : Addr) (T t : Int64) : Prop := ∃ rT : Addr, ∃ rF : Addr, ∃ rO : Addr, ∃ rS : Addr, ∃ rE : Addr, ∃ rW : Addr, ∃ kT : ClassId, ∃ kF : ClassId, ∃ kO : ClassId, ∃ kW : ClassId, ∃ bs : Int64, ∃ tm0 : Int64, ∃ fr0 : Int64, ∃ fr1 : Int64, ∃ to0 : Int64, ∃ to1 : Int64, own_Obj Z h n0 a rT rF rO rS rE rW kT kF kO kW (1 : Int32) (2 : Int32) (1 : Int32) bs (1 : Int32) (1 : Int32) (2 : Int64) (2 : Int32) [(.long tm0), (.long t)] [(.long fr0), (.long fr1)] [(.long to0), (.long to1)] ∧ own_Sp2 Z h rS oM oM ∧ own_near T t ∧ own_near T fr1
theorem d25_27 : decode oc25 27 = .ok (.aload_n 0, 1):=by decide +kernel
theorem d25_28 : decode oc25 28 = .ok (.aload_n 0, 1):=by decide +kernel
theorem d25_29 : decode oc25 29 = .ok (.getfield 18, 3):=by decide +kernel
theorem d25_32 : decode oc25 32 = .ok (.iload_n 3, 1):=by decide +kernel
theorem d25_33 : decode oc25 33 = .ok (.laload, 1):=by decide +kernel
theorem d25_34 : decode oc25 34 = .ok (.putfield 57, 3):=by decide +kernel
theorem d25_37 : decode oc25 37 = .ok (.aload_n 0, 1):=by decide +kernel
theorem d25_38 : decode oc25 38 = .ok (.getfield 27, 3):=by decide +kernel
theorem d25_41 : decode oc25 41 = .ok (.iload_n 3, 1):=by decide +kernel
theorem d25_42 : decode oc25 42 = .ok (.invokevirtual 61, 3):=by decide +kernel
theorem d25_45 : decode oc25 45 = .ok (.aload_n 0, 1):=by decide +kernel
theorem d25_46 : decode oc25 46 = .ok (.dup, 1):=by decide +kernel
theorem d25_47 : decode oc25 47 = .ok (.getfield 31, 3):=by decide +kernel
theorem d25_50 : decode oc25 50 = .ok (.iconst 1, 1):=by decide +kernel
theorem d25_51 : decode oc25 51 = .ok (.isub, 1):=by decide +kernel
theorem d25_52 : decode oc25 52 = .ok (.putfield 31, 3):=by decide +kernel
theorem d25_55 : decode oc25 55 = .ok (.aload_n 0, 1):=by decide +kernel
theorem d25_56 : decode oc25 56 = .ok (.getfield 27, 3):=by decide +kernel
theorem d25_59 : decode oc25 59 = .ok (.iload_n 3, 1):=by decide +kernel
theorem d25_60 : decode oc25 60 = .ok (.iconst 1, 1):=by decide +kernel
theorem d25_61 : decode oc25 61 = .ok (.iadd, 1):=by decide +kernel
theorem d25_62 : decode oc25 62 = .ok (.invokevirtual 50, 3):=by decide +kernel
theorem d25_65 : decode oc25 65 = .ok (.istore_n 3, 1):=by decide +kernel
theorem d25_66 : decode oc25 66 = .ok (.iload_n 3, 1):=by decide +kernel
theorem d25_67 : decode oc25 67 = .ok (.ifCond .lt (-55), 3):=by decide +kernel
theorem d25_70 : decode oc25 70 = .ok (.aload_n 0, 1):=by decide +kernel
theorem d25_71 : decode oc25 71 = .ok (.iload_n 3, 1):=by decide +kernel
theorem d25_72 : decode oc25 72 = .ok (.ldc2_w 65, 3):=by decide +kernel
theorem d25_75 : decode oc25 75 = .ok (.invokevirtual 67, 3):=by decide +kernel
theorem d25_78 : decode oc25 78 = .ok (.goto (-66), 3):=by decide +kernel
def Q_rm25_2 (Z : State) (a25_0 : Addr) (q25_1 : Int64) (rT : Addr) (rF : Addr) (rO : Addr) (rS : Addr) (rE : Addr) (rW : Addr) (kT : ClassId) (kF : ClassId) (kO : ClassId) (kW : ClassId) (bs : Int64) (tm0 : Int64) (tm1 : Int64) (fr0 : Int64) (fr1 : Int64) (to0 : Int64) (to1 : Int64) (T : Int64) (h0 : Heap) (n0 : Nat) (v : Option Value) (h : Heap) (L : List Loc) : Prop := v = none ∧ Fr n0 L ∧ (own_S_2_0_2_2_3 Z h n0 a25_0 T tm1 ∨ own_S_2_1_2_1_2 Z h n0 a25_0 T tm1)
theorem rm25_2 (l : Launch) (Z : State) (a0 : Array Value) (hw : own_T Z a0) (a25_0 : Addr) (q25_1 : Int64) (rT rF rO rS rE rW : Addr) (kT kF kO kW : ClassId) (bs tm0 tm1 fr0 fr1 to0 to1 T : Int64) (h0 : Heap) (n0 : Nat) (Z0 : n0 ≤ h0.size) (O : own_Obj Z h0 n0 a25_0 rT rF rO rS rE rW kT kF kO kW (0 : Int32) (2 : Int32) (2 : Int32) bs (1 : Int32) (1 : Int32) (3 : Int64) (2 : Int32) [(.long tm0), (.long tm1)] [(.long fr0), (.long fr1)] [(.long to0), (.long to1)]) (SP : own_Sp2 Z h0 rS oM (tm1 - fr0)) (htm0 : own_near T tm0) (htm1 : own_near T tm1) (hfr0 : own_near T fr0) (hfr1 : own_near T fr1) (hq : q25_1 < tm1) :
   own_Met l oy25 oc25 4 none ({ frames := 5, cells := 0, slots := 0, locals := 120 } : Room) Z h0 #[(.ref a25_0), (.long q25_1)] (Q_rm25_2 Z a25_0 q25_1 rT rF rO rS rE rW kT kF kO kW bs tm0 tm1 fr0 fr1 to0 to1 T h0 n0) := by
 refine own_go hw (plainFor_of_name pn_25) (fun m => ef_rm25_1 m a25_0 q25_1) fun p e s m below meth c T0 C hret X0 e0 => ?_
 have N0 := Fr.nil n0
 refine gA C X0 e0 O.Fentries (ow46 C.w) d25_0 d25_1 fun T1 X1 e1 => ?_
 refine gA C X1 e1 O.Ffirst (ow74 C.w) d25_4 d25_5 fun T2 X2 e2 => ?_
 refine cV C X2 e2 (rm12_2 l Z a0 C.w rE (0 : Int32) rW kW (3 : Int64) h0 n0 O.hsz (by decide +kernel) (by decide +kernel) O.Ee O.BwordsInUse O.BsizeIsSticky O.Bwords O.Vw O.St) O.Ee (W := 0) (ow76 C.w) (ow77 C.w) (ow79 C.w) (ow78 C.w) (ow80 C.w) (ow27 C.w) (argsL := [(.int (0 : Int32))]) (lenOf pd__I_I rfl) d25_8 fun v3 T3 lo3 X3 hQ3 => ?_
 obtain ⟨rfl, Nq3, e3⟩ := hQ3
 rw [show (own_nsb (0 : Int32) (3 : Int64)) = (0 : Int32) from by decide +kernel]
 refine wI C X3 #[oR a25_0, oJ q25_1, oD, oI 0] d25_11 ?_
 refine sI C X3 d25_12 ?_
 refine bN C X3 d25_13 ((if0 _ _).trans (flt (by decide : ¬ ((0 : Int32) < (0 : Int32)))).1) ?_
 refine gA C X3 e3 O.Ftimes (ow17 C.w) d25_16 d25_17 fun T5 X5 e5 => ?_
 refine sI C X5 d25_20 ?_
 refine lA C X5 e5 O.Vt d25_21 ?_
 refine sL C X5 d25_22 ?_
 refine tC C X5 d25_23 ?_
 by_cases h24_6 : q25_1 < tm0
 · refine bY C X5 d25_24 81 ((if0 _ _).trans (tlt ((lw_gt _ _).mpr h24_6)).2.2.1) ?_
   refine sA C X5 d25_81 ?_
   refine sI C X5 d25_82 ?_
   refine bY C X5 d25_83 93 ((if0 _ _).trans (flt (by decide : ¬ ((0 : Int32) < (0 : Int32)))).2.1) ?_
   refine sI C X5 d25_93 ?_
   refine pF C X5 e5 (N0.app Nq3) O.ga O.Ffirst O.Ea (ty := .int) (ow74 C.w) (ow75 C.w) (ow8 C.w) (by decide) d25_94 fun T7 h7 lo7 X7 e7 N7 W7 F7 => ?_
   have O7 := own_Obj.put_first hw O W7 F7
   have f21 := (SP.other W7 (Ne.symm O7.n_a_rS))
   refine rV C X7 e7 hret d25_97 ?_
   exact ⟨rfl, N7, Or.inl ⟨rT, rF, rO, rS, rE, rW, kT, kF, kO, kW, bs, tm0, fr0, fr1, to0, to1, O7, f21, htm0, htm1, hfr0, hfr1⟩⟩
 refine bN C X5 d25_24 ((if0 _ _).trans (flt (fun q => h24_6 ((lw_gt _ _).mp q))).2.2.1) ?_
 refine sA C X5 d25_27 ?_
 refine gA C X5 e5 O.Ftotals (ow21 C.w) d25_28 d25_29 fun T8 X8 e8 => ?_
 refine sI C X8 d25_32 ?_
 refine lA C X8 e8 O.Vo d25_33 ?_
 refine pF C X8 e8 (N0.app Nq3) O.ga O.Fbase O.Ea (ty := .long) (ow109 C.w) (ow110 C.w) (ow8 C.w) (by decide) d25_34 fun T9 h9 lo9 X9 e9 N9 W9 F9 => ?_
 have O9 := own_Obj.put_base hw O W9 F9
 refine gA C X9 e9 O9.Fentries (ow46 C.w) d25_37 d25_38 fun T10 X10 e10 => ?_
 refine sI C X10 d25_41 ?_
 refine cV C X10 e10 (rm28_1 l Z a0 C.w rE (0 : Int32) rW kW (3 : Int64) h9 n0 O9.hsz (by decide +kernel) (by decide +kernel) O9.Ee O9.BwordsInUse O9.BsizeIsSticky O9.Bwords O9.Vw O9.grW O9.n_rE_rW O9.grE O9.St) O9.Ee (W := 0) (ow148 C.w) (ow149 C.w) (ow151 C.w) (ow150 C.w) (ow152 C.w) (ow27 C.w) (argsL := [(.int (0 : Int32))]) (lenOf pd__I_V rfl) d25_42 fun v11 T11 lo11 X11 hQ11 => ?_
 obtain ⟨rfl, Nq11, Kc11, Sc11, P11_0, P11_1, P11_2, P11_3, P11_4⟩ := hQ11
 rw [show ((3 : Int64) &&& (((1 : Int64) <<< ((0 : Int32) &&& 0x3f).toInt64) ^^^ (-1 : Int64))) = (2 : Int64) from by decide +kernel] at P11_0
 rw [show (if ((3 : Int64) &&& (((1 : Int64) <<< ((0 : Int32) &&& 0x3f).toInt64) ^^^ (-1 : Int64))) = (0 : Int64) then (0 : Int32) else (1 : Int32)) = (1 : Int32) from by decide +kernel] at P11_2
 have O11 := O9.bits2 Kc11 Sc11 P11_1 P11_2 P11_3 P11_4 P11_0
 refine sA C X11 d25_45 ?_
 refine sD C X11 d25_46 ?_
 refine gF C X11 rfl O11.Fsize (ow53 C.w) d25_47 fun T12 X12 e12 => ?_
 refine sC C X12 d25_50 ?_
 refine sS C X12 d25_51 ?_
 refine pF C X12 e12 (N9.app Nq11) O11.ga O11.Fsize O11.Ea (ty := .int) (ow53 C.w) (ow54 C.w) (ow8 C.w) (by decide) d25_52 fun T13 h13 lo13 X13 e13 N13 W13 F13 => ?_
 have O13 := own_Obj.put_size hw O11 W13 F13
 refine gA C X13 e13 O13.Fentries (ow46 C.w) d25_55 d25_56 fun T14 X14 e14 => ?_
 refine sI C X14 d25_59 ?_
 refine sC C X14 d25_60 ?_
 refine sP C X14 d25_61 ?_
 refine cV C X14 e14 (rm12_2 l Z a0 C.w rE (1 : Int32) rW kW (2 : Int64) h13 n0 O13.hsz (by decide +kernel) (by decide +kernel) O13.Ee O13.BwordsInUse O13.BsizeIsSticky O13.Bwords O13.Vw O13.St) O13.Ee (W := 0) (ow76 C.w) (ow77 C.w) (ow79 C.w) (ow78 C.w) (ow80 C.w) (ow27 C.w) (argsL := [(.int (1 : Int32))]) (lenOf pd__I_I rfl) d25_62 fun v15 T15 lo15 X15 hQ15 => ?_
 obtain ⟨rfl, Nq15, e15⟩ := hQ15
 rw [show (own_nsb (1 : Int32) (2 : Int64)) = (1 : Int32) from by decide +kernel]
 refine wI C X15 #[oR a25_0, oJ q25_1, oD, oI 1] d25_65 ?_
 refine sI C X15 d25_66 ?_
 refine bN C X15 d25_67 ((if0 _ _).trans (flt (by decide : ¬ ((1 : Int32) < (0 : Int32)))).1) ?_
 refine sA C X15 d25_70 ?_
 refine sI C X15 d25_71 ?_
 refine kJ C X15 (ow98 C.w) d25_72 ?_
 have f17 := (((SP.other W9 (Ne.symm O13.n_a_rS)).keep Kc11 (ninS O13.n_rS_rW (ninS O13.n_rS_rE nin0))).other W13 (Ne.symm O13.n_a_rS))
 refine cP C X15 e15 (rm23_2_1 l Z a0 C.w a25_0 oM rT kT tm0 tm1 rS oM (tm1 - fr0) h13 n0 O13.hsz O13.Ftimes O13.Vt O13.Fspans f17 O13.grS O13.n_a_rS) O13.Ea (W := 0) (ow126 C.w) (ow127 C.w) (own_selp (x := oy7) rfl (mvT (args := #[]) C.z (ow51 C.w)) (Cond.privateMethod_at (mvP C.z (ow128 C.w) (args := #[]))) (mvT C.z (ow127 C.w)) (by decide)) (ow128 C.w) (ow129 C.w) (ow9 C.w) (argsL := [(.int (1 : Int32)), (.long oM)]) (lenOf pd__IJ_V rfl) d25_75 fun v18 T18 lo18 X18 hQ18 => ?_
 obtain ⟨rfl, Nq18, Kc18, Sc18, P18_0⟩ := hQ18
 have O18 := O13.sp Kc18 Sc18
 refine sG C X18 d25_78 12 ?_
 refine sI C X18 d25_12 ?_
 refine bN C X18 d25_13 ((if0 _ _).trans (flt (by decide : ¬ ((1 : Int32) < (0 : Int32)))).1) ?_
 refine gA C X18 rfl O18.Ftimes (ow17 C.w) d25_16 d25_17 fun T19 X19 e19 => ?_
 refine sI C X19 d25_20 ?_
 refine lA C X19 e19 O18.Vt d25_21 ?_
 refine sL C X19 d25_22 ?_
 refine tC C X19 d25_23 ?_
 refine bY C X19 d25_24 81 ((if0 _ _).trans (tlt ((lw_gt _ _).mpr hq)).2.2.1) ?_
 refine sA C X19 d25_81 ?_
 refine sI C X19 d25_82 ?_
 refine bY C X19 d25_83 93 ((if0 _ _).trans (flt (by decide : ¬ ((1 : Int32) < (0 : Int32)))).2.1) ?_
 refine sI C X19 d25_93 ?_
 refine pF C X19 e19 ((N13.app Nq15).app Nq18) O18.ga O18.Ffirst O18.Ea (ty := .int) (ow74 C.w) (ow75 C.w) (ow8 C.w) (by decide) d25_94 fun T20 h20 lo20 X20 e20 N20 W20 F20 => ?_
 have O20 := own_Obj.put_first hw O18 W20 F20
 have f22 := (P18_0.other W20 (Ne.symm O20.n_a_rS))
 refine rV C X20 e20 hret d25_97 ?_
 exact ⟨rfl, N20, Or.inr (⟨rT, rF, rO, rS, rE, rW, kT, kF, kO, kW, to0, tm0, fr0, fr1, to0, to1, O20, f22, htm1, hfr1⟩)⟩
def own_S_8_x_3_1_4 (Z : State) (h : Heap) (n0 : Nat) (a : Addr) (T t : Int64) : Prop := ∃ rT : Addr, ∃ rF : Addr, ∃ rO : Addr, ∃ rS : Addr, ∃ rE : Addr, ∃ rW : Addr, ∃ kT : ClassId, ∃ kF : ClassId, ∃ kO : ClassId, ∃ kW : ClassId, ∃ fi : Int32, ∃ bs : Int64, ∃ tm0 : Int64, ∃ tm1 : Int64, ∃ tm3 : Int64, ∃ tm4 : Int64, ∃ tm5 : Int64, ∃ tm6 : Int64, ∃ tm7 : Int64, ∃ fr0 : Int64, ∃ fr1 : Int64, ∃ fr2 : Int64, ∃ fr3 : Int64, ∃ fr4 : Int64, ∃ fr5 : Int64, ∃ fr6 : Int64, ∃ fr7 : Int64, ∃ to0 : Int64, ∃ to1 : Int64, ∃ to2 : Int64, ∃ to3 : Int64, ∃ to4 : Int64, ∃ to5 : Int64, ∃ to6 : Int64, ∃ to7 : Int64, own_Obj Z h n0 a rT rF rO rS rE rW kT kF kO kW fi (3 : Int32) (1 : Int32) bs (1 : Int32) (1 : Int32) (4 : Int64) (8 : Int32) [(.long tm0), (.long tm1), (.long t), (.long tm3), (.long tm4), (.long tm5), (.long tm6), (.long tm7)] [(.long fr0), (.long fr1), (.long fr2), (.long fr3), (.long fr4), (.long fr5), (.long fr6), (.long fr7)] [(.long to0), (.long to1), (.long to2), (.long to3), (.long to4), (.long to5), (.long to6), (.long to7)] ∧ own_Sp8 Z h rS oM oM oM oM oM oM oM oM ∧ own_near T t ∧ own_near T fr2
def Q_rm25_3 (Z : State) (a25_0 : Addr) (q25_1 : Int64) (rT : Addr) (rF : Addr) (rO : Addr) (rS : Addr) (rE : Addr) (rW : Addr) (kT : ClassId) (kF : ClassId) (kO : ClassId) (kW : ClassId) (bs : Int64) (tm0 : Int64) (tm1 : Int64) (tm2 : Int64) (tm3 : Int64) (tm4 : Int64) (tm5 : Int64) (tm6 : Int64) (tm7 : Int64) (fr0 : Int64) (fr1 : Int64) (fr2 : Int64) (fr3 : Int64) (fr4 : Int64) (fr5 : Int64) (fr6 : Int64) (fr7 : Int64) (to0 : Int64) (to1 : Int64) (to2 : Int64) (to3 : Int64) (to4 : Int64) (to5 : Int64) (to6 : Int64) (to7 : Int64) (T : Int64) (h0 : Heap) (n0 : Nat) (v : Option Value) (h : Heap) (L : List Loc) : Prop := v = none ∧ Fr n0 L ∧ (own_S_8_x_3_3_7 Z h n0 a25_0 T tm2 ∨ own_S_8_x_3_2_6 Z h n0 a25_0 T tm2 ∨ own_S_8_x_3_1_4 Z h n0 a25_0 T tm2)
theorem rm25_3 (l : Launch) (Z : State) (a0 : Array Value) (hw : own_T Z a0) (a25_0 : Addr) (q25_1 : Int64) (rT rF rO rS rE rW : Addr) (kT kF kO kW : ClassId) (bs tm0 tm1 tm2 tm3 tm4 tm5 tm6 tm7 fr0 fr1 fr2 fr3 fr4 fr5 fr6 fr7 to0 to1 to2 to3 to4 to5 to6 to7 T : Int64) (h0 : Heap) (n0 : Nat) (Z0 : n0 ≤ h0.size) (O : own_Obj Z h0 n0 a25_0 rT rF rO rS rE rW kT kF kO kW (0 : Int32) (3 : Int32) (3 : Int32) bs (1 : Int32) (1 : Int32) (7 : Int64) (8 : Int32) [(.long tm0), (.long tm1), (.long tm2), (.long tm3), (.long tm4), (.long tm5), (.long tm6), (.long tm7)] [(.long fr0), (.long fr1), (.long fr2), (.long fr3), (.long fr4), (.long fr5), (.long fr6), (.long fr7)] [(.long to0), (.long to1), (.long to2), (.long to3), (.long to4), (.long to5), (.long to6), (.long to7)]) (SP : own_Sp8 Z h0 rS oM (tm1 - fr0) (tm2 - fr1) oM oM oM oM oM) (htm0 : own_near T tm0) (htm1 : own_near T tm1) (htm2 : own_near T tm2) (hfr0 : own_near T fr0) (hfr1 : own_near T fr1) (hfr2 : own_near T fr2) (hq : q25_1 < tm2) :
   own_Met l oy25 oc25 4 none ({ frames := 5, cells := 0, slots := 0, locals := 120 } : Room) Z h0 #[(.ref a25_0), (.long q25_1)] (Q_rm25_3 Z a25_0 q25_1 rT rF rO rS rE rW kT kF kO kW bs tm0 tm1 tm2 tm3 tm4 tm5 tm6 tm7 fr0 fr1 fr2 fr3 fr4 fr5 fr6 fr7 to0 to1 to2 to3 to4 to5 to6 to7 T h0 n0) := by
 refine own_go hw (plainFor_of_name pn_25) (fun m => ef_rm25_1 m a25_0 q25_1) fun p e s m below meth c T0 C hret X0 e0 => ?_
 have N0 := Fr.nil n0
 refine gA C X0 e0 O.Fentries (ow46 C.w) d25_0 d25_1 fun T1 X1 e1 => ?_
 refine gA C X1 e1 O.Ffirst (ow74 C.w) d25_4 d25_5 fun T2 X2 e2 => ?_
 refine cV C X2 e2 (rm12_2 l Z a0 C.w rE (0 : Int32) rW kW (7 : Int64) h0 n0 O.hsz (by decide +kernel) (by decide +kernel) O.Ee O.BwordsInUse O.BsizeIsSticky O.Bwords O.Vw O.St) O.Ee (W := 0) (ow76 C.w) (ow77 C.w) (ow79 C.w) (ow78 C.w) (ow80 C.w) (ow27 C.w) (argsL := [(.int (0 : Int32))]) (lenOf pd__I_I rfl) d25_8 fun v3 T3 lo3 X3 hQ3 => ?_
 obtain ⟨rfl, Nq3, e3⟩ := hQ3
 rw [show (own_nsb (0 : Int32) (7 : Int64)) = (0 : Int32) from by decide +kernel]
 refine wI C X3 #[oR a25_0, oJ q25_1, oD, oI 0] d25_11 ?_
 refine sI C X3 d25_12 ?_
 refine bN C X3 d25_13 ((if0 _ _).trans (flt (by decide : ¬ ((0 : Int32) < (0 : Int32)))).1) ?_
 refine gA C X3 e3 O.Ftimes (ow17 C.w) d25_16 d25_17 fun T5 X5 e5 => ?_
 refine sI C X5 d25_20 ?_
 refine lA C X5 e5 O.Vt d25_21 ?_
 refine sL C X5 d25_22 ?_
 refine tC C X5 d25_23 ?_
 by_cases h24_6 : q25_1 < tm0
 · refine bY C X5 d25_24 81 ((if0 _ _).trans (tlt ((lw_gt _ _).mpr h24_6)).2.2.1) ?_
   refine sA C X5 d25_81 ?_
   refine sI C X5 d25_82 ?_
   refine bY C X5 d25_83 93 ((if0 _ _).trans (flt (by decide : ¬ ((0 : Int32) < (0 : Int32)))).2.1) ?_
   refine sI C X5 d25_93 ?_
   refine pF C X5 e5 (N0.app Nq3) O.ga O.Ffirst O.Ea (ty := .int) (ow74 C.w) (ow75 C.w) (ow8 C.w) (by decide) d25_94 fun T7 h7 lo7 X7 e7 N7 W7 F7 => ?_
   have O7 := own_Obj.put_first hw O W7 F7
   have f35 := (SP.other W7 (Ne.symm O7.n_a_rS))
   refine rV C X7 e7 hret d25_97 ?_
   exact ⟨rfl, N7, Or.inl ⟨rT, rF, rO, rS, rE, rW, kT, kF, kO, kW, (0 : Int32), bs, tm0, tm1, tm3, tm4, tm5, tm6, tm7, fr0, fr1, fr2, fr3, fr4, fr5, fr6, fr7, to0, to1, to2, to3, to4, to5, to6, to7, O7, f35, htm0, htm1, htm2, hfr0, hfr1, hfr2⟩⟩
 refine bN C X5 d25_24 ((if0 _ _).trans (flt (fun q => h24_6 ((lw_gt _ _).mp q))).2.2.1) ?_
 refine sA C X5 d25_27 ?_
 refine gA C X5 e5 O.Ftotals (ow21 C.w) d25_28 d25_29 fun T8 X8 e8 => ?_
 refine sI C X8 d25_32 ?_
 refine lA C X8 e8 O.Vo d25_33 ?_
 refine pF C X8 e8 (N0.app Nq3) O.ga O.Fbase O.Ea (ty := .long) (ow109 C.w) (ow110 C.w) (ow8 C.w) (by decide) d25_34 fun T9 h9 lo9 X9 e9 N9 W9 F9 => ?_
 have O9 := own_Obj.put_base hw O W9 F9
 refine gA C X9 e9 O9.Fentries (ow46 C.w) d25_37 d25_38 fun T10 X10 e10 => ?_
 refine sI C X10 d25_41 ?_
 refine cV C X10 e10 (rm28_1 l Z a0 C.w rE (0 : Int32) rW kW (7 : Int64) h9 n0 O9.hsz (by decide +kernel) (by decide +kernel) O9.Ee O9.BwordsInUse O9.BsizeIsSticky O9.Bwords O9.Vw O9.grW O9.n_rE_rW O9.grE O9.St) O9.Ee (W := 0) (ow148 C.w) (ow149 C.w) (ow151 C.w) (ow150 C.w) (ow152 C.w) (ow27 C.w) (argsL := [(.int (0 : Int32))]) (lenOf pd__I_V rfl) d25_42 fun v11 T11 lo11 X11 hQ11 => ?_
 obtain ⟨rfl, Nq11, Kc11, Sc11, P11_0, P11_1, P11_2, P11_3, P11_4⟩ := hQ11
 rw [show ((7 : Int64) &&& (((1 : Int64) <<< ((0 : Int32) &&& 0x3f).toInt64) ^^^ (-1 : Int64))) = (6 : Int64) from by decide +kernel] at P11_0
 rw [show (if ((7 : Int64) &&& (((1 : Int64) <<< ((0 : Int32) &&& 0x3f).toInt64) ^^^ (-1 : Int64))) = (0 : Int64) then (0 : Int32) else (1 : Int32)) = (1 : Int32) from by decide +kernel] at P11_2
 have O11 := O9.bits2 Kc11 Sc11 P11_1 P11_2 P11_3 P11_4 P11_0
 refine sA C X11 d25_45 ?_
 refine sD C X11 d25_46 ?_
 refine gF C X11 rfl O11.Fsize (ow53 C.w) d25_47 fun T12 X12 e12 => ?_
 refine sC C X12 d25_50 ?_
 refine sS C X12 d25_51 ?_
 refine pF C X12 e12 (N9.app Nq11) O11.ga O11.Fsize O11.Ea (ty := .int) (ow53 C.w) (ow54 C.w) (ow8 C.w) (by decide) d25_52 fun T13 h13 lo13 X13 e13 N13 W13 F13 => ?_
 have O13 := own_Obj.put_size hw O11 W13 F13
 refine gA C X13 e13 O13.Fentries (ow46 C.w) d25_55 d25_56 fun T14 X14 e14 => ?_
 refine sI C X14 d25_59 ?_
 refine sC C X14 d25_60 ?_
 refine sP C X14 d25_61 ?_
 refine cV C X14 e14 (rm12_2 l Z a0 C.w rE (1 : Int32) rW kW (6 : Int64) h13 n0 O13.hsz (by decide +kernel) (by decide +kernel) O13.Ee O13.BwordsInUse O13.BsizeIsSticky O13.Bwords O13.Vw O13.St) O13.Ee (W := 0) (ow76 C.w) (ow77 C.w) (ow79 C.w) (ow78 C.w) (ow80 C.w) (ow27 C.w) (argsL := [(.int (1 : Int32))]) (lenOf pd__I_I rfl) d25_62 fun v15 T15 lo15 X15 hQ15 => ?_
 obtain ⟨rfl, Nq15, e15⟩ := hQ15
 rw [show (own_nsb (1 : Int32) (6 : Int64)) = (1 : Int32) from by decide +kernel]
 refine wI C X15 #[oR a25_0, oJ q25_1, oD, oI 1] d25_65 ?_
 refine sI C X15 d25_66 ?_
 refine bN C X15 d25_67 ((if0 _ _).trans (flt (by decide : ¬ ((1 : Int32) < (0 : Int32)))).1) ?_
 refine sA C X15 d25_70 ?_
 refine sI C X15 d25_71 ?_
 refine kJ C X15 (ow98 C.w) d25_72 ?_
 have f17 := (((SP.other W9 (Ne.symm O13.n_a_rS)).keep Kc11 (ninS O13.n_rS_rW (ninS O13.n_rS_rE nin0))).other W13 (Ne.symm O13.n_a_rS))
 refine cP C X15 e15 (rm23_8_1 l Z a0 C.w a25_0 oM rT kT tm0 tm1 tm2 tm3 tm4 tm5 tm6 tm7 rS oM (tm1 - fr0) (tm2 - fr1) oM oM oM oM oM h13 n0 O13.hsz O13.Ftimes O13.Vt O13.Fspans f17 O13.grS O13.n_a_rS) O13.Ea (W := 0) (ow126 C.w) (ow127 C.w) (own_selp (x := oy7) rfl (mvT (args := #[]) C.z (ow51 C.w)) (Cond.privateMethod_at (mvP C.z (ow128 C.w) (args := #[]))) (mvT C.z (ow127 C.w)) (by decide)) (ow128 C.w) (ow129 C.w) (ow9 C.w) (argsL := [(.int (1 : Int32)), (.long oM)]) (lenOf pd__IJ_V rfl) d25_75 fun v18 T18 lo18 X18 hQ18 => ?_
 obtain ⟨rfl, Nq18, Kc18, Sc18, P18_0⟩ := hQ18
 have O18 := O13.sp Kc18 Sc18
 refine sG C X18 d25_78 12 ?_
 refine sI C X18 d25_12 ?_
 refine bN C X18 d25_13 ((if0 _ _).trans (flt (by decide : ¬ ((1 : Int32) < (0 : Int32)))).1) ?_
 refine gA C X18 rfl O18.Ftimes (ow17 C.w) d25_16 d25_17 fun T19 X19 e19 => ?_
 refine sI C X19 d25_20 ?_
 refine lA C X19 e19 O18.Vt d25_21 ?_
 refine sL C X19 d25_22 ?_
 refine tC C X19 d25_23 ?_
 by_cases h24_20 : q25_1 < tm1
 · refine bY C X19 d25_24 81 ((if0 _ _).trans (tlt ((lw_gt _ _).mpr h24_20)).2.2.1) ?_
   refine sA C X19 d25_81 ?_
   refine sI C X19 d25_82 ?_
   refine bY C X19 d25_83 93 ((if0 _ _).trans (flt (by decide : ¬ ((1 : Int32) < (0 : Int32)))).2.1) ?_
   refine sI C X19 d25_93 ?_
   refine pF C X19 e19 ((N13.app Nq15).app Nq18) O18.ga O18.Ffirst O18.Ea (ty := .int) (ow74 C.w) (ow75 C.w) (ow8 C.w) (by decide) d25_94 fun T21 h21 lo21 X21 e21 N21 W21 F21 => ?_
   have O21 := own_Obj.put_first hw O18 W21 F21
   have f36 := (P18_0.other W21 (Ne.symm O21.n_a_rS))
   refine rV C X21 e21 hret d25_97 ?_
   exact ⟨rfl, N21, Or.inr (Or.inl ⟨rT, rF, rO, rS, rE, rW, kT, kF, kO, kW, (1 : Int32), to0, tm0, tm1, tm3, tm4, tm5, tm6, tm7, fr0, fr1, fr2, fr3, fr4, fr5, fr6, fr7, to0, to1, to2, to3, to4, to5, to6, to7, O21, f36, htm1, htm2, hfr1, hfr2⟩)⟩
 refine bN C X19 d25_24 ((if0 _ _).trans (flt (fun q => h24_20 ((lw_gt _ _).mp q))).2.2.1) ?_
 refine sA C X19 d25_27 ?_
 refine gA C X19 e19 O18.Ftotals (ow21 C.w) d25_28 d25_29 fun T22 X22 e22 => ?_
 refine sI C X22 d25_32 ?_
 refine lA C X22 e22 O18.Vo d25_33 ?_
 refine pF C X22 e22 ((N13.app Nq15).app Nq18) O18.ga O18.Fbase O18.Ea (ty := .long) (ow109 C.w) (ow110 C.w) (ow8 C.w) (by decide) d25_34 fun T23 h23 lo23 X23 e23 N23 W23 F23 => ?_
 have O23 := own_Obj.put_base hw O18 W23 F23
 refine gA C X23 e23 O23.Fentries (ow46 C.w) d25_37 d25_38 fun T24 X24 e24 => ?_
 refine sI C X24 d25_41 ?_
 refine cV C X24 e24 (rm28_1 l Z a0 C.w rE (1 : Int32) rW kW (6 : Int64) h23 n0 O23.hsz (by decide +kernel) (by decide +kernel) O23.Ee O23.BwordsInUse O23.BsizeIsSticky O23.Bwords O23.Vw O23.grW O23.n_rE_rW O23.grE O23.St) O23.Ee (W := 0) (ow148 C.w) (ow149 C.w) (ow151 C.w) (ow150 C.w) (ow152 C.w) (ow27 C.w) (argsL := [(.int (1 : Int32))]) (lenOf pd__I_V rfl) d25_42 fun v25 T25 lo25 X25 hQ25 => ?_
 obtain ⟨rfl, Nq25, Kc25, Sc25, P25_0, P25_1, P25_2, P25_3, P25_4⟩ := hQ25
 rw [show ((6 : Int64) &&& (((1 : Int64) <<< ((1 : Int32) &&& 0x3f).toInt64) ^^^ (-1 : Int64))) = (4 : Int64) from by decide +kernel] at P25_0
 rw [show (if ((6 : Int64) &&& (((1 : Int64) <<< ((1 : Int32) &&& 0x3f).toInt64) ^^^ (-1 : Int64))) = (0 : Int64) then (0 : Int32) else (1 : Int32)) = (1 : Int32) from by decide +kernel] at P25_2
 have O25 := O23.bits2 Kc25 Sc25 P25_1 P25_2 P25_3 P25_4 P25_0
 refine sA C X25 d25_45 ?_
 refine sD C X25 d25_46 ?_
 refine gF C X25 rfl O25.Fsize (ow53 C.w) d25_47 fun T26 X26 e26 => ?_
 refine sC C X26 d25_50 ?_
 refine sS C X26 d25_51 ?_
 refine pF C X26 e26 (N23.app Nq25) O25.ga O25.Fsize O25.Ea (ty := .int) (ow53 C.w) (ow54 C.w) (ow8 C.w) (by decide) d25_52 fun T27 h27 lo27 X27 e27 N27 W27 F27 => ?_
 have O27 := own_Obj.put_size hw O25 W27 F27
 refine gA C X27 e27 O27.Fentries (ow46 C.w) d25_55 d25_56 fun T28 X28 e28 => ?_
 refine sI C X28 d25_59 ?_
 refine sC C X28 d25_60 ?_
 refine sP C X28 d25_61 ?_
 refine cV C X28 e28 (rm12_2 l Z a0 C.w rE (2 : Int32) rW kW (4 : Int64) h27 n0 O27.hsz (by decide +kernel) (by decide +kernel) O27.Ee O27.BwordsInUse O27.BsizeIsSticky O27.Bwords O27.Vw O27.St) O27.Ee (W := 0) (ow76 C.w) (ow77 C.w) (ow79 C.w) (ow78 C.w) (ow80 C.w) (ow27 C.w) (argsL := [(.int (2 : Int32))]) (lenOf pd__I_I rfl) d25_62 fun v29 T29 lo29 X29 hQ29 => ?_
 obtain ⟨rfl, Nq29, e29⟩ := hQ29
 rw [show (own_nsb (2 : Int32) (4 : Int64)) = (2 : Int32) from by decide +kernel]
 refine wI C X29 #[oR a25_0, oJ q25_1, oD, oI 2] d25_65 ?_
 refine sI C X29 d25_66 ?_
 refine bN C X29 d25_67 ((if0 _ _).trans (flt (by decide : ¬ ((2 : Int32) < (0 : Int32)))).1) ?_
 refine sA C X29 d25_70 ?_
 refine sI C X29 d25_71 ?_
 refine kJ C X29 (ow98 C.w) d25_72 ?_
 have f31 := (((P18_0.other W23 (Ne.symm O27.n_a_rS)).keep Kc25 (ninS O27.n_rS_rW (ninS O27.n_rS_rE nin0))).other W27 (Ne.symm O27.n_a_rS))
 refine cP C X29 e29 (rm23_8_2 l Z a0 C.w a25_0 oM rT kT tm0 tm1 tm2 tm3 tm4 tm5 tm6 tm7 rS oM oM (tm2 - fr1) oM oM oM oM oM h27 n0 O27.hsz O27.Ftimes O27.Vt O27.Fspans f31 O27.grS O27.n_a_rS) O27.Ea (W := 0) (ow126 C.w) (ow127 C.w) (own_selp (x := oy7) rfl (mvT (args := #[]) C.z (ow51 C.w)) (Cond.privateMethod_at (mvP C.z (ow128 C.w) (args := #[]))) (mvT C.z (ow127 C.w)) (by decide)) (ow128 C.w) (ow129 C.w) (ow9 C.w) (argsL := [(.int (2 : Int32)), (.long oM)]) (lenOf pd__IJ_V rfl) d25_75 fun v32 T32 lo32 X32 hQ32 => ?_
 obtain ⟨rfl, Nq32, Kc32, Sc32, P32_0⟩ := hQ32
 have O32 := O27.sp Kc32 Sc32
 refine sG C X32 d25_78 12 ?_
 refine sI C X32 d25_12 ?_
 refine bN C X32 d25_13 ((if0 _ _).trans (flt (by decide : ¬ ((2 : Int32) < (0 : Int32)))).1) ?_
 refine gA C X32 rfl O32.Ftimes (ow17 C.w) d25_16 d25_17 fun T33 X33 e33 => ?_
 refine sI C X33 d25_20 ?_
 refine lA C X33 e33 O32.Vt d25_21 ?_
 refine sL C X33 d25_22 ?_
 refine tC C X33 d25_23 ?_
 refine bY C X33 d25_24 81 ((if0 _ _).trans (tlt ((lw_gt _ _).mpr hq)).2.2.1) ?_
 refine sA C X33 d25_81 ?_
 refine sI C X33 d25_82 ?_
 refine bY C X33 d25_83 93 ((if0 _ _).trans (flt (by decide : ¬ ((2 : Int32) < (0 : Int32)))).2.1) ?_
 refine sI C X33 d25_93 ?_
 refine pF C X33 e33 ((N27.app Nq29).app Nq32) O32.ga O32.Ffirst O32.Ea (ty := .int) (ow74 C.w) (ow75 C.w) (ow8 C.w) (by decide) d25_94 fun T34 h34 lo34 X34 e34 N34 W34 F34 => ?_
 have O34 := own_Obj.put_first hw O32 W34 F34
 have f37 := (P32_0.other W34 (Ne.symm O34.n_a_rS))
 refine rV C X34 e34 hret d25_97 ?_
 exact ⟨rfl, N34, Or.inr (Or.inr (⟨rT, rF, rO, rS, rE, rW, kT, kF, kO, kW, (2 : Int32), to1, tm0, tm1, tm3, tm4, tm5, tm6, tm7, fr0, fr1, fr2, fr3, fr4, fr5, fr6, fr7, to0, to1, to2, to3, to4, to5, to6, to7, O34, f37, htm2, hfr2⟩))⟩
def Q_rm25_4 (Z : State) (a25_0 : Addr) (q25_1 : Int64) (rT : Addr) (rF : Addr) (rO : Addr) (rS : Addr) (rE : Addr) (rW : Addr) (kT : ClassId) (kF : ClassId) (kO : ClassId) (kW : ClassId) (bs : Int64) (tm0 : Int64) (tm1 : Int64) (tm2 : Int64) (tm3 : Int64) (tm4 : Int64) (tm5 : Int64) (tm6 : Int64) (tm7 : Int64) (fr0 : Int64) (fr1 : Int64) (fr2 : Int64) (fr3 : Int64) (fr4 : Int64) (fr5 : Int64) (fr6 : Int64) (fr7 : Int64) (to0 : Int64) (to1 : Int64) (to2 : Int64) (to3 : Int64) (to4 : Int64) (to5 : Int64) (to6 : Int64) (to7 : Int64) (T : Int64) (h0 : Heap) (n0 : Nat) (v : Option Value) (h : Heap) (L : List Loc) : Prop := v = none ∧ Fr n0 L ∧ (own_S_8_x_3_2_6 Z h n0 a25_0 T tm2 ∨ own_S_8_x_3_1_4 Z h n0 a25_0 T tm2)
theorem rm25_4 (l : Launch) (Z : State) (a0 : Array Value) (hw : own_T Z a0) (a25_0 : Addr) (q25_1 : Int64) (rT rF rO rS rE rW : Addr) (kT kF kO kW : ClassId) (bs tm0 tm1 tm2 tm3 tm4 tm5 tm6 tm7 fr0 fr1 fr2 fr3 fr4 fr5 fr6 fr7 to0 to1 to2 to3 to4 to5 to6 to7 T : Int64) (h0 : Heap) (n0 : Nat) (Z0 : n0 ≤ h0.size) (O : own_Obj Z h0 n0 a25_0 rT rF rO rS rE rW kT kF kO kW (0 : Int32) (3 : Int32) (2 : Int32) bs (1 : Int32) (1 : Int32) (6 : Int64) (8 : Int32) [(.long tm0), (.long tm1), (.long tm2), (.long tm3), (.long tm4), (.long tm5), (.long tm6), (.long tm7)] [(.long fr0), (.long fr1), (.long fr2), (.long fr3), (.long fr4), (.long fr5), (.long fr6), (.long fr7)] [(.long to0), (.long to1), (.long to2), (.long to3), (.long to4), (.long to5), (.long to6), (.long to7)]) (SP : own_Sp8 Z h0 rS oM oM (tm2 - fr1) oM oM oM oM oM) (htm1 : own_near T tm1) (htm2 : own_near T tm2) (hfr1 : own_near T fr1) (hfr2 : own_near T fr2) (hq : q25_1 < tm2) :
   own_Met l oy25 oc25 4 none ({ frames := 5, cells := 0, slots := 0, locals := 120 } : Room) Z h0 #[(.ref a25_0), (.long q25_1)] (Q_rm25_4 Z a25_0 q25_1 rT rF rO rS rE rW kT kF kO kW bs tm0 tm1 tm2 tm3 tm4 tm5 tm6 tm7 fr0 fr1 fr2 fr3 fr4 fr5 fr6 fr7 to0 to1 to2 to3 to4 to5 to6 to7 T h0 n0) := by
 refine own_go hw (plainFor_of_name pn_25) (fun m => ef_rm25_1 m a25_0 q25_1) fun p e s m below meth c T0 C hret X0 e0 => ?_
 have N0 := Fr.nil n0
 refine gA C X0 e0 O.Fentries (ow46 C.w) d25_0 d25_1 fun T1 X1 e1 => ?_
 refine gA C X1 e1 O.Ffirst (ow74 C.w) d25_4 d25_5 fun T2 X2 e2 => ?_
 refine cV C X2 e2 (rm12_2 l Z a0 C.w rE (0 : Int32) rW kW (6 : Int64) h0 n0 O.hsz (by decide +kernel) (by decide +kernel) O.Ee O.BwordsInUse O.BsizeIsSticky O.Bwords O.Vw O.St) O.Ee (W := 0) (ow76 C.w) (ow77 C.w) (ow79 C.w) (ow78 C.w) (ow80 C.w) (ow27 C.w) (argsL := [(.int (0 : Int32))]) (lenOf pd__I_I rfl) d25_8 fun v3 T3 lo3 X3 hQ3 => ?_
 obtain ⟨rfl, Nq3, e3⟩ := hQ3
 rw [show (own_nsb (0 : Int32) (6 : Int64)) = (1 : Int32) from by decide +kernel]
 refine wI C X3 #[oR a25_0, oJ q25_1, oD, oI 1] d25_11 ?_
 refine sI C X3 d25_12 ?_
 refine bN C X3 d25_13 ((if0 _ _).trans (flt (by decide : ¬ ((1 : Int32) < (0 : Int32)))).1) ?_
 refine gA C X3 e3 O.Ftimes (ow17 C.w) d25_16 d25_17 fun T5 X5 e5 => ?_
 refine sI C X5 d25_20 ?_
 refine lA C X5 e5 O.Vt d25_21 ?_
 refine sL C X5 d25_22 ?_
 refine tC C X5 d25_23 ?_
 by_cases h24_6 : q25_1 < tm1
 · refine bY C X5 d25_24 81 ((if0 _ _).trans (tlt ((lw_gt _ _).mpr h24_6)).2.2.1) ?_
   refine sA C X5 d25_81 ?_
   refine sI C X5 d25_82 ?_
   refine bY C X5 d25_83 93 ((if0 _ _).trans (flt (by decide : ¬ ((1 : Int32) < (0 : Int32)))).2.1) ?_
   refine sI C X5 d25_93 ?_
   refine pF C X5 e5 (N0.app Nq3) O.ga O.Ffirst O.Ea (ty := .int) (ow74 C.w) (ow75 C.w) (ow8 C.w) (by decide) d25_94 fun T7 h7 lo7 X7 e7 N7 W7 F7 => ?_
   have O7 := own_Obj.put_first hw O W7 F7
   have f21 := (SP.other W7 (Ne.symm O7.n_a_rS))
   refine rV C X7 e7 hret d25_97 ?_
   exact ⟨rfl, N7, Or.inl ⟨rT, rF, rO, rS, rE, rW, kT, kF, kO, kW, (1 : Int32), bs, tm0, tm1, tm3, tm4, tm5, tm6, tm7, fr0, fr1, fr2, fr3, fr4, fr5, fr6, fr7, to0, to1, to2, to3, to4, to5, to6, to7, O7, f21, htm1, htm2, hfr1, hfr2⟩⟩
 refine bN C X5 d25_24 ((if0 _ _).trans (flt (fun q => h24_6 ((lw_gt _ _).mp q))).2.2.1) ?_
 refine sA C X5 d25_27 ?_
 refine gA C X5 e5 O.Ftotals (ow21 C.w) d25_28 d25_29 fun T8 X8 e8 => ?_
 refine sI C X8 d25_32 ?_
 refine lA C X8 e8 O.Vo d25_33 ?_
 refine pF C X8 e8 (N0.app Nq3) O.ga O.Fbase O.Ea (ty := .long) (ow109 C.w) (ow110 C.w) (ow8 C.w) (by decide) d25_34 fun T9 h9 lo9 X9 e9 N9 W9 F9 => ?_
 have O9 := own_Obj.put_base hw O W9 F9
 refine gA C X9 e9 O9.Fentries (ow46 C.w) d25_37 d25_38 fun T10 X10 e10 => ?_
 refine sI C X10 d25_41 ?_
 refine cV C X10 e10 (rm28_1 l Z a0 C.w rE (1 : Int32) rW kW (6 : Int64) h9 n0 O9.hsz (by decide +kernel) (by decide +kernel) O9.Ee O9.BwordsInUse O9.BsizeIsSticky O9.Bwords O9.Vw O9.grW O9.n_rE_rW O9.grE O9.St) O9.Ee (W := 0) (ow148 C.w) (ow149 C.w) (ow151 C.w) (ow150 C.w) (ow152 C.w) (ow27 C.w) (argsL := [(.int (1 : Int32))]) (lenOf pd__I_V rfl) d25_42 fun v11 T11 lo11 X11 hQ11 => ?_
 obtain ⟨rfl, Nq11, Kc11, Sc11, P11_0, P11_1, P11_2, P11_3, P11_4⟩ := hQ11
 rw [show ((6 : Int64) &&& (((1 : Int64) <<< ((1 : Int32) &&& 0x3f).toInt64) ^^^ (-1 : Int64))) = (4 : Int64) from by decide +kernel] at P11_0
 rw [show (if ((6 : Int64) &&& (((1 : Int64) <<< ((1 : Int32) &&& 0x3f).toInt64) ^^^ (-1 : Int64))) = (0 : Int64) then (0 : Int32) else (1 : Int32)) = (1 : Int32) from by decide +kernel] at P11_2
 have O11 := O9.bits2 Kc11 Sc11 P11_1 P11_2 P11_3 P11_4 P11_0
 refine sA C X11 d25_45 ?_
 refine sD C X11 d25_46 ?_
 refine gF C X11 rfl O11.Fsize (ow53 C.w) d25_47 fun T12 X12 e12 => ?_
 refine sC C X12 d25_50 ?_
 refine sS C X12 d25_51 ?_
 refine pF C X12 e12 (N9.app Nq11) O11.ga O11.Fsize O11.Ea (ty := .int) (ow53 C.w) (ow54 C.w) (ow8 C.w) (by decide) d25_52 fun T13 h13 lo13 X13 e13 N13 W13 F13 => ?_
 have O13 := own_Obj.put_size hw O11 W13 F13
 refine gA C X13 e13 O13.Fentries (ow46 C.w) d25_55 d25_56 fun T14 X14 e14 => ?_
 refine sI C X14 d25_59 ?_
 refine sC C X14 d25_60 ?_
 refine sP C X14 d25_61 ?_
 refine cV C X14 e14 (rm12_2 l Z a0 C.w rE (2 : Int32) rW kW (4 : Int64) h13 n0 O13.hsz (by decide +kernel) (by decide +kernel) O13.Ee O13.BwordsInUse O13.BsizeIsSticky O13.Bwords O13.Vw O13.St) O13.Ee (W := 0) (ow76 C.w) (ow77 C.w) (ow79 C.w) (ow78 C.w) (ow80 C.w) (ow27 C.w) (argsL := [(.int (2 : Int32))]) (lenOf pd__I_I rfl) d25_62 fun v15 T15 lo15 X15 hQ15 => ?_
 obtain ⟨rfl, Nq15, e15⟩ := hQ15
 rw [show (own_nsb (2 : Int32) (4 : Int64)) = (2 : Int32) from by decide +kernel]
 refine wI C X15 #[oR a25_0, oJ q25_1, oD, oI 2] d25_65 ?_
 refine sI C X15 d25_66 ?_
 refine bN C X15 d25_67 ((if0 _ _).trans (flt (by decide : ¬ ((2 : Int32) < (0 : Int32)))).1) ?_
 refine sA C X15 d25_70 ?_
 refine sI C X15 d25_71 ?_
 refine kJ C X15 (ow98 C.w) d25_72 ?_
 have f17 := (((SP.other W9 (Ne.symm O13.n_a_rS)).keep Kc11 (ninS O13.n_rS_rW (ninS O13.n_rS_rE nin0))).other W13 (Ne.symm O13.n_a_rS))
 refine cP C X15 e15 (rm23_8_2 l Z a0 C.w a25_0 oM rT kT tm0 tm1 tm2 tm3 tm4 tm5 tm6 tm7 rS oM oM (tm2 - fr1) oM oM oM oM oM h13 n0 O13.hsz O13.Ftimes O13.Vt O13.Fspans f17 O13.grS O13.n_a_rS) O13.Ea (W := 0) (ow126 C.w) (ow127 C.w) (own_selp (x := oy7) rfl (mvT (args := #[]) C.z (ow51 C.w)) (Cond.privateMethod_at (mvP C.z (ow128 C.w) (args := #[]))) (mvT C.z (ow127 C.w)) (by decide)) (ow128 C.w) (ow129 C.w) (ow9 C.w) (argsL := [(.int (2 : Int32)), (.long oM)]) (lenOf pd__IJ_V rfl) d25_75 fun v18 T18 lo18 X18 hQ18 => ?_
 obtain ⟨rfl, Nq18, Kc18, Sc18, P18_0⟩ := hQ18
 have O18 := O13.sp Kc18 Sc18
 refine sG C X18 d25_78 12 ?_
 refine sI C X18 d25_12 ?_
 refine bN C X18 d25_13 ((if0 _ _).trans (flt (by decide : ¬ ((2 : Int32) < (0 : Int32)))).1) ?_
 refine gA C X18 rfl O18.Ftimes (ow17 C.w) d25_16 d25_17 fun T19 X19 e19 => ?_
 refine sI C X19 d25_20 ?_
 refine lA C X19 e19 O18.Vt d25_21 ?_
 refine sL C X19 d25_22 ?_
 refine tC C X19 d25_23 ?_
 refine bY C X19 d25_24 81 ((if0 _ _).trans (tlt ((lw_gt _ _).mpr hq)).2.2.1) ?_
 refine sA C X19 d25_81 ?_
 refine sI C X19 d25_82 ?_
 refine bY C X19 d25_83 93 ((if0 _ _).trans (flt (by decide : ¬ ((2 : Int32) < (0 : Int32)))).2.1) ?_
 refine sI C X19 d25_93 ?_
 refine pF C X19 e19 ((N13.app Nq15).app Nq18) O18.ga O18.Ffirst O18.Ea (ty := .int) (ow74 C.w) (ow75 C.w) (ow8 C.w) (by decide) d25_94 fun T20 h20 lo20 X20 e20 N20 W20 F20 => ?_
 have O20 := own_Obj.put_first hw O18 W20 F20
 have f22 := (P18_0.other W20 (Ne.symm O20.n_a_rS))
 refine rV C X20 e20 hret d25_97 ?_
 exact ⟨rfl, N20, Or.inr (⟨rT, rF, rO, rS, rE, rW, kT, kF, kO, kW, (2 : Int32), to1, tm0, tm1, tm3, tm4, tm5, tm6, tm7, fr0, fr1, fr2, fr3, fr4, fr5, fr6, fr7, to0, to1, to2, to3, to4, to5, to6, to7, O20, f22, htm2, hfr2⟩)⟩
theorem ef_rm23_8_3 (m : MethodId) (y0 : Addr) (y2 : Int64) : entryFrame m #[(.ref y0), (.int (3 : Int32)), (.long y2)] 7 = mkF m 0 #[oR y0, oI 3, oJ y2, oD, oU, oU, oU] [] := by first | (simp [entryFrame, mkF, argsToLocals, Value.category]; done) | rfl
def Q_rm23_8_3 (Z : State) (a23_0 : Addr) (q23_2 : Int64) (wt : Addr) (kc_wt : ClassId) (t_wt_0 t_wt_1 t_wt_2 t_wt_3 t_wt_4 t_wt_5 t_wt_6 t_wt_7 : Int64) (ws : Addr) (l_ws_0 l_ws_1 l_ws_2 l_ws_3 l_ws_4 l_ws_5 l_ws_6 l_ws_7 : Int64) (h0 : Heap) (n0 : Nat) (v : Option Value) (h : Heap) (L : List Loc) : Prop := v = none ∧ Fr n0 L ∧ Keep h0 h [ws] ∧ own_StK Z h0 h ∧ own_Sp8 Z h ws l_ws_0 l_ws_1 l_ws_2 q23_2 l_ws_4 l_ws_5 l_ws_6 l_ws_7
theorem rm23_8_3 (l : Launch) (Z : State) (a0 : Array Value) (hw : own_T Z a0) (a23_0 : Addr) (q23_2 : Int64) (wt : Addr) (kc_wt : ClassId) (t_wt_0 t_wt_1 t_wt_2 t_wt_3 t_wt_4 t_wt_5 t_wt_6 t_wt_7 : Int64) (ws : Addr) (l_ws_0 l_ws_1 l_ws_2 l_ws_3 l_ws_4 l_ws_5 l_ws_6 l_ws_7 : Int64) (h0 : Heap) (n0 : Nat) (Z0 : n0 ≤ h0.size) (F_times : Fld Z h0 a23_0 oL "times" "[J" (.ref wt)) (V_wt : Arv Z h0 wt kc_wt .long (8 : Int32) [(.long t_wt_0), (.long t_wt_1), (.long t_wt_2), (.long t_wt_3), (.long t_wt_4), (.long t_wt_5), (.long t_wt_6), (.long t_wt_7)] oZ) (F_spans : Fld Z h0 a23_0 oL "spans" "[J" (.ref ws)) (T_ws : own_Sp8 Z h0 ws l_ws_0 l_ws_1 l_ws_2 l_ws_3 l_ws_4 l_ws_5 l_ws_6 l_ws_7) (g_ws : n0 ≤ ws) (ne_a23_0_ws : a23_0 ≠ ws) :
   own_Met l oy23 oc23 7 none ({ frames := 1, cells := 0, slots := 0, locals := 15 } : Room) Z h0 #[(.ref a23_0), (.int (3 : Int32)), (.long q23_2)] (Q_rm23_8_3 Z a23_0 q23_2 wt kc_wt t_wt_0 t_wt_1 t_wt_2 t_wt_3 t_wt_4 t_wt_5 t_wt_6 t_wt_7 ws l_ws_0 l_ws_1 l_ws_2 l_ws_3 l_ws_4 l_ws_5 l_ws_6 l_ws_7 h0 n0) := by
 refine own_go hw (plainFor_of_name pn_23) (fun m => ef_rm23_8_3 m a23_0 q23_2) fun p e s m below meth c T0 C hret X0 e0 => ?_
 have N0 := Fr.nil n0
 refine gA C X0 e0 F_times (ow17 C.w) d23_0 d23_1 fun T1 X1 e1 => ?_
 refine nA C X1 e1 V_wt d23_4 ?_
 refine sI C X1 d23_5 ?_
 refine sP C X1 d23_6 ?_
 refine wi C X1 #[oR a23_0, oI 3, oJ q23_2, oD, oI 11, oU, oU] d23_7 ?_
 refine gA C X1 e1 F_spans (ow23 C.w) d23_9 d23_10 fun T2 X2 e2 => ?_
 refine si C X2 d23_13 ?_
 refine sL C X2 d23_15 ?_
 obtain ⟨kq3, VT3⟩ := id T_ws
 obtain ⟨m3_7, hm3_7⟩ : ∃ z : Int64, z = (own_m l_ws_6 l_ws_7) := ⟨_, rfl⟩
 rw [← hm3_7] at VT3
 obtain ⟨m3_6, hm3_6⟩ : ∃ z : Int64, z = (own_m l_ws_4 l_ws_5) := ⟨_, rfl⟩
 rw [← hm3_6] at VT3
 obtain ⟨m3_5, hm3_5⟩ : ∃ z : Int64, z = (own_m l_ws_2 l_ws_3) := ⟨_, rfl⟩
 rw [← hm3_5] at VT3
 obtain ⟨m3_4, hm3_4⟩ : ∃ z : Int64, z = (own_m l_ws_0 l_ws_1) := ⟨_, rfl⟩
 rw [← hm3_4] at VT3
 obtain ⟨m3_3, hm3_3⟩ : ∃ z : Int64, z = (own_m m3_6 m3_7) := ⟨_, rfl⟩
 rw [← hm3_3] at VT3
 obtain ⟨m3_2, hm3_2⟩ : ∃ z : Int64, z = (own_m m3_4 m3_5) := ⟨_, rfl⟩
 rw [← hm3_2] at VT3
 obtain ⟨m3_1, hm3_1⟩ : ∃ z : Int64, z = (own_m m3_2 m3_3) := ⟨_, rfl⟩
 rw [← hm3_1] at VT3
 refine sJ C X2 e2 N0 g_ws VT3 _ d23_16 fun T4 h4 lo4 X4 e4 N4 W4 V4 => ?_
 have S4 : own_StK Z h0 h4 := (own_StK.refl Z h0).wr W4
 have K4 : Keep h0 h4 [ws] := (Keep.refl h0 [ws]).wr W4 (Or.inl (List.mem_of_getElem? (i := 0) rfl))
 have Z4 : n0 ≤ h4.size := Nat.le_trans Z0 K4.1
 refine si C X4 d23_17 ?_
 refine sC C X4 d23_19 ?_
 refine own_Fin.st (g' := (mkF m 21 #[oR a23_0, oI 3, oJ q23_2, oD, oI 11, oU, oU] [(.int (5 : Int32))])) ?_ (fun t k => XS.idiv X4.here C.1 rfl (C.d d23_20) rfl (by decide : ¬ ((2 : Int32) = (0 : Int32))) k)
 refine wi C X4 #[oR a23_0, oI 3, oJ q23_2, oD, oI 5, oU, oU] d23_21 ?_
 refine si C X4 d23_23 ?_
 refine bN C X4 d23_25 ((if0 _ _).trans (tlt (by decide : (0 : Int32) < (5 : Int32))).2.2.2) ?_
 have f5 := (F_spans.other W4 (Or.inl ne_a23_0_ws))
 refine gA C X4 e4 f5 (ow23 C.w) d23_28 d23_29 fun T6 X6 e6 => ?_
 refine sC C X6 d23_32 ?_
 refine si C X6 d23_33 ?_
 refine sM C X6 d23_35 ?_
 refine lA C X6 e6 V4 d23_36 ?_
 refine gA C X6 e6 f5 (ow23 C.w) d23_37 d23_38 fun T7 X7 e7 => ?_
 refine sC C X7 d23_41 ?_
 refine si C X7 d23_42 ?_
 refine sM C X7 d23_44 ?_
 refine sC C X7 d23_45 ?_
 refine sP C X7 d23_46 ?_
 refine lA C X7 e7 V4 d23_47 ?_
 refine cS C X7 e7 (fun ws => rm19 l Z a0 C.w ws l_ws_2 q23_2 h4 n0 Z4 ) (W := 0) (ow106 C.w) (ow107 C.w) (ow108 C.w) (ow68 C.w) (argsL := [(.long l_ws_2), (.long q23_2)]) (lenOf pd__JJ_J rfl) d23_48 fun v8 T8 lo8 X8 hQ8 => ?_
 obtain ⟨rfl, Nq8, e8⟩ := hQ8
 obtain ⟨x9, hx9⟩ : ∃ z : Int64, z = (own_m l_ws_2 q23_2) := ⟨_, rfl⟩
 rw [← hx9]
 refine wl C X8 #[oR a23_0, oI 3, oJ q23_2, oD, oI 5, oJ x9, oD] d23_51 ?_
 refine gA C X8 e8 f5 (ow23 C.w) d23_53 d23_54 fun T10 X10 e10 => ?_
 refine si C X10 d23_57 ?_
 refine lA C X10 e10 V4 d23_59 ?_
 refine sl C X10 d23_60 ?_
 refine tC C X10 d23_62 ?_
 by_cases h63_11 : m3_5 = x9
 · refine bN C X10 d23_63 ((if0 _ _).trans (teq ((lw_eq _ _).mpr h63_11)).2) ?_
   refine sG C X10 d23_66 87 ?_
   refine rV C X10 e10 hret d23_87 ?_
   subst hx9
   subst hm3_1
   subst hm3_2
   subst hm3_3
   subst hm3_4
   subst hm3_5
   subst hm3_6
   subst hm3_7
   exact ⟨rfl, (N4.app Nq8), K4, S4, ⟨_, own_arv V4 (own_cons rfl (own_cons (congrArg Value.long (by rw [h63_11])) (own_cons (congrArg Value.long (by rw [h63_11])) (own_cons rfl (own_cons rfl (own_cons (congrArg Value.long h63_11.symm) (own_cons rfl (own_cons rfl (own_cons rfl (own_cons rfl (own_cons rfl (own_cons rfl (own_cons rfl (own_cons rfl (own_cons rfl (own_cons rfl rfl))))))))))))))))⟩⟩
 refine bY C X10 d23_63 69 ((if0 _ _).trans (feq (fun q => h63_11 ((lw_eq _ _).mp q))).2) ?_
 refine gA C X10 e10 f5 (ow23 C.w) d23_69 d23_70 fun T12 X12 e12 => ?_
 refine si C X12 d23_73 ?_
 refine sl C X12 d23_75 ?_
 refine sJ C X12 e12 (N4.app Nq8) g_ws V4 _ d23_77 fun T13 h13 lo13 X13 e13 N13 W13 V13 => ?_
 have S13 : own_StK Z h0 h13 := S4.wr W13
 have K13 : Keep h0 h13 [ws] := K4.wr W13 (Or.inl (List.mem_of_getElem? (i := 0) rfl))
 have Z13 : n0 ≤ h13.size := Nat.le_trans Z0 K13.1
 refine si C X13 d23_78 ?_
 refine sC C X13 d23_80 ?_
 refine own_Fin.st (g' := (mkF m 82 #[oR a23_0, oI 3, oJ q23_2, oD, oI 5, oJ x9, oD] [(.int (2 : Int32))])) ?_ (fun t k => XS.idiv X13.here C.1 rfl (C.d d23_81) rfl (by decide : ¬ ((2 : Int32) = (0 : Int32))) k)
 refine wi C X13 #[oR a23_0, oI 3, oJ q23_2, oD, oI 2, oJ x9, oD] d23_82 ?_
 refine sG C X13 d23_84 23 ?_
 refine si C X13 d23_23 ?_
 refine bN C X13 d23_25 ((if0 _ _).trans (tlt (by decide : (0 : Int32) < (2 : Int32))).2.2.2) ?_
 have f14 := (f5.other W13 (Or.inl ne_a23_0_ws))
 refine gA C X13 e13 f14 (ow23 C.w) d23_28 d23_29 fun T15 X15 e15 => ?_
 refine sC C X15 d23_32 ?_
 refine si C X15 d23_33 ?_
 refine sM C X15 d23_35 ?_
 refine lA C X15 e15 V13 d23_36 ?_
 refine gA C X15 e15 f14 (ow23 C.w) d23_37 d23_38 fun T16 X16 e16 => ?_
 refine sC C X16 d23_41 ?_
 refine si C X16 d23_42 ?_
 refine sM C X16 d23_44 ?_
 refine sC C X16 d23_45 ?_
 refine sP C X16 d23_46 ?_
 refine lA C X16 e16 V13 d23_47 ?_
 refine cS C X16 e16 (fun ws => rm19 l Z a0 C.w ws m3_4 x9 h13 n0 Z13 ) (W := 0) (ow106 C.w) (ow107 C.w) (ow108 C.w) (ow68 C.w) (argsL := [(.long m3_4), (.long x9)]) (lenOf pd__JJ_J rfl) d23_48 fun v17 T17 lo17 X17 hQ17 => ?_
 obtain ⟨rfl, Nq17, e17⟩ := hQ17
 obtain ⟨x18, hx18⟩ : ∃ z : Int64, z = (own_m m3_4 x9) := ⟨_, rfl⟩
 rw [← hx18]
 refine wl C X17 #[oR a23_0, oI 3, oJ q23_2, oD, oI 2, oJ x18, oD] d23_51 ?_
 refine gA C X17 e17 f14 (ow23 C.w) d23_53 d23_54 fun T19 X19 e19 => ?_
 refine si C X19 d23_57 ?_
 refine lA C X19 e19 V13 d23_59 ?_
 refine sl C X19 d23_60 ?_
 refine tC C X19 d23_62 ?_
 by_cases h63_20 : m3_2 = x18
 · refine bN C X19 d23_63 ((if0 _ _).trans (teq ((lw_eq _ _).mpr h63_20)).2) ?_
   refine sG C X19 d23_66 87 ?_
   refine rV C X19 e19 hret d23_87 ?_
   subst hx18
   subst hx9
   subst hm3_1
   subst hm3_2
   subst hm3_3
   subst hm3_4
   subst hm3_5
   subst hm3_6
   subst hm3_7
   exact ⟨rfl, (N13.app Nq17), K13, S13, ⟨_, own_arv V13 (own_cons rfl (own_cons (congrArg Value.long (by rw [h63_20])) (own_cons (congrArg Value.long h63_20.symm) (own_cons rfl (own_cons rfl (own_cons rfl (own_cons rfl (own_cons rfl (own_cons rfl (own_cons rfl (own_cons rfl (own_cons rfl (own_cons rfl (own_cons rfl (own_cons rfl (own_cons rfl rfl))))))))))))))))⟩⟩
 refine bY C X19 d23_63 69 ((if0 _ _).trans (feq (fun q => h63_20 ((lw_eq _ _).mp q))).2) ?_
 refine gA C X19 e19 f14 (ow23 C.w) d23_69 d23_70 fun T21 X21 e21 => ?_
 refine si C X21 d23_73 ?_
 refine sl C X21 d23_75 ?_
 refine sJ C X21 e21 (N13.app Nq17) g_ws V13 _ d23_77 fun T22 h22 lo22 X22 e22 N22 W22 V22 => ?_
 have S22 : own_StK Z h0 h22 := S13.wr W22
 have K22 : Keep h0 h22 [ws] := K13.wr W22 (Or.inl (List.mem_of_getElem? (i := 0) rfl))
 have Z22 : n0 ≤ h22.size := Nat.le_trans Z0 K22.1
 refine si C X22 d23_78 ?_
 refine sC C X22 d23_80 ?_
 refine own_Fin.st (g' := (mkF m 82 #[oR a23_0, oI 3, oJ q23_2, oD, oI 2, oJ x18, oD] [(.int (1 : Int32))])) ?_ (fun t k => XS.idiv X22.here C.1 rfl (C.d d23_81) rfl (by decide : ¬ ((2 : Int32) = (0 : Int32))) k)
 refine wi C X22 #[oR a23_0, oI 3, oJ q23_2, oD, oI 1, oJ x18, oD] d23_82 ?_
 refine sG C X22 d23_84 23 ?_
 refine si C X22 d23_23 ?_
 refine bN C X22 d23_25 ((if0 _ _).trans (tlt (by decide : (0 : Int32) < (1 : Int32))).2.2.2) ?_
 have f23 := (f14.other W22 (Or.inl ne_a23_0_ws))
 refine gA C X22 e22 f23 (ow23 C.w) d23_28 d23_29 fun T24 X24 e24 => ?_
 refine sC C X24 d23_32 ?_
 refine si C X24 d23_33 ?_
 refine sM C X24 d23_35 ?_
 refine lA C X24 e24 V22 d23_36 ?_
 refine gA C X24 e24 f23 (ow23 C.w) d23_37 d23_38 fun T25 X25 e25 => ?_
 refine sC C X25 d23_41 ?_
 refine si C X25 d23_42 ?_
 refine sM C X25 d23_44 ?_
 refine sC C X25 d23_45 ?_
 refine sP C X25 d23_46 ?_
 refine lA C X25 e25 V22 d23_47 ?_
 refine cS C X25 e25 (fun ws => rm19 l Z a0 C.w ws x18 m3_3 h22 n0 Z22 ) (W := 0) (ow106 C.w) (ow107 C.w) (ow108 C.w) (ow68 C.w) (argsL := [(.long x18), (.long m3_3)]) (lenOf pd__JJ_J rfl) d23_48 fun v26 T26 lo26 X26 hQ26 => ?_
 obtain ⟨rfl, Nq26, e26⟩ := hQ26
 obtain ⟨x27, hx27⟩ : ∃ z : Int64, z = (own_m x18 m3_3) := ⟨_, rfl⟩
 rw [← hx27]
 refine wl C X26 #[oR a23_0, oI 3, oJ q23_2, oD, oI 1, oJ x27, oD] d23_51 ?_
 refine gA C X26 e26 f23 (ow23 C.w) d23_53 d23_54 fun T28 X28 e28 => ?_
 refine si C X28 d23_57 ?_
 refine lA C X28 e28 V22 d23_59 ?_
 refine sl C X28 d23_60 ?_
 refine tC C X28 d23_62 ?_
 by_cases h63_29 : m3_1 = x27
 · refine bN C X28 d23_63 ((if0 _ _).trans (teq ((lw_eq _ _).mpr h63_29)).2) ?_
   refine sG C X28 d23_66 87 ?_
   refine rV C X28 e28 hret d23_87 ?_
   subst hx27
   subst hx18
   subst hx9
   subst hm3_1
   subst hm3_2
   subst hm3_3
   subst hm3_4
   subst hm3_5
   subst hm3_6
   subst hm3_7
   exact ⟨rfl, (N22.app Nq26), K22, S22, ⟨_, own_arv V22 (own_cons rfl (own_cons (congrArg Value.long h63_29.symm) (own_cons rfl (own_cons rfl (own_cons rfl (own_cons rfl (own_cons rfl (own_cons rfl (own_cons rfl (own_cons rfl (own_cons rfl (own_cons rfl (own_cons rfl (own_cons rfl (own_cons rfl (own_cons rfl rfl))))))))))))))))⟩⟩
 refine bY C X28 d23_63 69 ((if0 _ _).trans (feq (fun q => h63_29 ((lw_eq _ _).mp q))).2) ?_
 refine gA C X28 e28 f23 (ow23 C.w) d23_69 d23_70 fun T30 X30 e30 => ?_
 refine si C X30 d23_73 ?_
 refine sl C X30 d23_75 ?_
 refine sJ C X30 e30 (N22.app Nq26) g_ws V22 _ d23_77 fun T31 h31 lo31 X31 e31 N31 W31 V31 => ?_
 have S31 : own_StK Z h0 h31 := S22.wr W31
 have K31 : Keep h0 h31 [ws] := K22.wr W31 (Or.inl (List.mem_of_getElem? (i := 0) rfl))
 have Z31 : n0 ≤ h31.size := Nat.le_trans Z0 K31.1
 refine si C X31 d23_78 ?_
 refine sC C X31 d23_80 ?_
 refine own_Fin.st (g' := (mkF m 82 #[oR a23_0, oI 3, oJ q23_2, oD, oI 1, oJ x27, oD] [(.int (0 : Int32))])) ?_ (fun t k => XS.idiv X31.here C.1 rfl (C.d d23_81) rfl (by decide : ¬ ((2 : Int32) = (0 : Int32))) k)
 refine wi C X31 #[oR a23_0, oI 3, oJ q23_2, oD, oI 0, oJ x27, oD] d23_82 ?_
 refine sG C X31 d23_84 23 ?_
 refine si C X31 d23_23 ?_
 refine bY C X31 d23_25 87 ((if0 _ _).trans (flt (by decide : ¬ ((0 : Int32) < (0 : Int32)))).2.2.2) ?_
 refine rV C X31 e31 hret d23_87 ?_
 subst hx27
 subst hx18
 subst hx9
 subst hm3_1
 subst hm3_2
 subst hm3_3
 subst hm3_4
 subst hm3_5
 subst hm3_6
 subst hm3_7
 exact ⟨rfl, N31, K31, S31, ⟨_, own_arv V31 (own_cons rfl (own_cons rfl (own_cons rfl (own_cons rfl (own_cons rfl (own_cons rfl (own_cons rfl (own_cons rfl (own_cons rfl (own_cons rfl (own_cons rfl (own_cons rfl (own_cons rfl (own_cons rfl (own_cons rfl (own_cons rfl rfl))))))))))))))))⟩⟩
theorem own_shl_8_15 (x1 : Int64) (x2 : Int64) (x3 : Int64) (h1 : x1 < oM) (h2 : x2 < oM) (h3 : x3 < oM) : (own_sh8 oM x1 x2 x3 oM oM oM oM) = (1 : Int32) ∨ (own_sh8 oM x1 x2 x3 oM oM oM oM) = (2 : Int32) ∨ (own_sh8 oM x1 x2 x3 oM oM oM oM) = (3 : Int32) := by
 unfold own_sh8
 rw [if_neg (own_nM (R := (own_m (own_m oM oM) (own_m oM oM))) (x := (own_m (own_m oM x1) (own_m x2 x3))) (by decide +kernel))]
 by_cases p2 : (own_m x2 x3) < (own_m oM x1)
 · rw [if_pos p2]
   by_cases p5 : x3 < x2
   · rw [if_pos p5]
     first | done | decide
   · rw [if_neg p5]
     first | done | decide
 · rw [if_neg p2]
   rw [if_pos (own_ltM (R := x1) (L := oM) (by decide +kernel) h1)]
   first | done | decide
def Q_rm30_8_15 (Z : State) (a30_0 : Addr) (rT : Addr) (rF : Addr) (rO : Addr) (rS : Addr) (rE : Addr) (rW : Addr) (kT : ClassId) (kF : ClassId) (kO : ClassId) (kW : ClassId) (fi : Int32) (en : Int32) (sz : Int32) (bs : Int64) (tm0 : Int64) (tm1 : Int64) (tm2 : Int64) (tm3 : Int64) (tm4 : Int64) (tm5 : Int64) (tm6 : Int64) (tm7 : Int64) (fr0 : Int64) (fr1 : Int64) (fr2 : Int64) (fr3 : Int64) (fr4 : Int64) (fr5 : Int64) (fr6 : Int64) (fr7 : Int64) (to0 : Int64) (to1 : Int64) (to2 : Int64) (to3 : Int64) (to4 : Int64) (to5 : Int64) (to6 : Int64) (to7 : Int64) (T : Int64) (h0 : Heap) (n0 : Nat) (v : Option Value) (h : Heap) (L : List Loc) : Prop := v = some (.int (1 : Int32)) ∧ Fr n0 L ∧ (((own_sh8 oM (tm1 - fr0) (tm2 - fr1) (tm3 - fr2) oM oM oM oM) = (1 : Int32) ∧ own_Obj Z h n0 a30_0 rT rF rO rS rE rW kT kF kO kW fi en (sz - (1 : Int32)) bs (1 : Int32) (1 : Int32) (14 : Int64) (8 : Int32) [(.long tm0), (.long tm1), (.long tm2), (.long tm3), (.long tm4), (.long tm5), (.long tm6), (.long tm7)] [(.long fr0), (.long fr0), (.long fr2), (.long fr3), (.long fr4), (.long fr5), (.long fr6), (.long fr7)] [(.long to0), (.long to1), (.long to2), (.long to3), (.long to4), (.long to5), (.long to6), (.long to7)] ∧ own_Sp8 Z h rS oM oM (tm2 - fr0) (tm3 - fr2) oM oM oM oM) ∨ ((own_sh8 oM (tm1 - fr0) (tm2 - fr1) (tm3 - fr2) oM oM oM oM) = (2 : Int32) ∧ own_Obj Z h n0 a30_0 rT rF rO rS rE rW kT kF kO kW fi en (sz - (1 : Int32)) bs (1 : Int32) (1 : Int32) (13 : Int64) (8 : Int32) [(.long tm0), (.long tm1), (.long tm2), (.long tm3), (.long tm4), (.long tm5), (.long tm6), (.long tm7)] [(.long fr0), (.long fr1), (.long fr1), (.long fr3), (.long fr4), (.long fr5), (.long fr6), (.long fr7)] [(.long to0), (.long to1), (.long to2), (.long to3), (.long to4), (.long to5), (.long to6), (.long to7)] ∧ own_Sp8 Z h rS oM oM (tm2 - fr0) (tm3 - fr1) oM oM oM oM) ∨ ((own_sh8 oM (tm1 - fr0) (tm2 - fr1) (tm3 - fr2) oM oM oM oM) = (3 : Int32) ∧ own_Obj Z h n0 a30_0 rT rF rO rS rE rW kT kF kO kW fi en (sz - (1 : Int32)) bs (1 : Int32) (1 : Int32) (11 : Int64) (8 : Int32) [(.long tm0), (.long tm1), (.long tm2), (.long tm3), (.long tm4), (.long tm5), (.long tm6), (.long tm7)] [(.long fr0), (.long fr1), (.long fr2), (.long fr2), (.long fr4), (.long fr5), (.long fr6), (.long fr7)] [(.long to0), (.long to1), (.long to2), (.long to3), (.long to4), (.long to5), (.long to6), (.long to7)] ∧ own_Sp8 Z h rS oM (tm1 - fr0) oM (tm3 - fr1) oM oM oM oM))
theorem rm30_8_15 (l : Launch) (Z : State) (a0 : Array Value) (hw : own_T Z a0) (a30_0 rT rF rO rS rE rW : Addr) (kT kF kO kW : ClassId) (fi en sz : Int32) (bs tm0 tm1 tm2 tm3 tm4 tm5 tm6 tm7 fr0 fr1 fr2 fr3 fr4 fr5 fr6 fr7 to0 to1 to2 to3 to4 to5 to6 to7 T : Int64) (h0 : Heap) (n0 : Nat) (Z0 : n0 ≤ h0.size) (O : own_Obj Z h0 n0 a30_0 rT rF rO rS rE rW kT kF kO kW fi en sz bs (1 : Int32) (1 : Int32) (15 : Int64) (8 : Int32) [(.long tm0), (.long tm1), (.long tm2), (.long tm3), (.long tm4), (.long tm5), (.long tm6), (.long tm7)] [(.long fr0), (.long fr1), (.long fr2), (.long fr3), (.long fr4), (.long fr5), (.long fr6), (.long fr7)] [(.long to0), (.long to1), (.long to2), (.long to3), (.long to4), (.long to5), (.long to6), (.long to7)]) (SP : own_Sp8 Z h0 rS oM (tm1 - fr0) (tm2 - fr1) (tm3 - fr2) oM oM oM oM) (htm0 : own_near T tm0) (htm1 : own_near T tm1) (htm2 : own_near T tm2) (htm3 : own_near T tm3) (hfr0 : own_near T fr0) (hfr1 : own_near T fr1) (hfr2 : own_near T fr2) (hfr3 : own_near T fr3) (hsz : (1 : Int32) < sz) :
   own_Met l oy30 oc30 6 (some .boolean) ({ frames := 5, cells := 0, slots := 0, locals := 120 } : Room) Z h0 #[(.ref a30_0)] (Q_rm30_8_15 Z a30_0 rT rF rO rS rE rW kT kF kO kW fi en sz bs tm0 tm1 tm2 tm3 tm4 tm5 tm6 tm7 fr0 fr1 fr2 fr3 fr4 fr5 fr6 fr7 to0 to1 to2 to3 to4 to5 to6 to7 T h0 n0) := by
 refine own_go hw (plainFor_of_name pn_30) (fun m => ef_rm30_8_7 m a30_0) fun p e s m below meth c T0 C hret X0 e0 => ?_
 have N0 := Fr.nil n0
 refine gA C X0 e0 O.Fsize (ow53 C.w) d30_0 d30_1 fun T1 X1 e1 => ?_
 refine sC C X1 d30_4 ?_
 refine cN C X1 d30_5 ((tlt hsz).2.2.2) ?_
 refine sC C X1 d30_8 ?_
 refine sG C X1 d30_9 13 ?_
 refine wI C X1 #[oR a30_0, oI 1, oU, oU, oU, oU] d30_13 ?_
 refine sI C X1 d30_14 ?_
 refine bN C X1 d30_15 ((if0 _ _).trans (feq (by decide : ¬ ((1 : Int32) = (0 : Int32)))).1) ?_
 refine sA C X1 d30_18 ?_
 refine cP C X1 e1 (rm31_8 l Z a0 C.w a30_0 rT kT tm0 tm1 tm2 tm3 tm4 tm5 tm6 tm7 rS oM (tm1 - fr0) (tm2 - fr1) (tm3 - fr2) oM oM oM oM h0 n0 O.hsz O.Ftimes O.Vt O.Fspans SP) O.Ea (W := 0) (ow164 C.w) (ow165 C.w) (own_selp (x := oy7) rfl (mvT (args := #[]) C.z (ow51 C.w)) (Cond.privateMethod_at (mvP C.z (ow166 C.w) (args := #[]))) (mvT C.z (ow165 C.w)) (by decide)) (ow166 C.w) (ow167 C.w) (ow9 C.w) (argsL := []) (lenOf pd___I rfl) d30_19 fun v2 T2 lo2 X2 hQ2 => ?_
 obtain ⟨rfl, Nq2, e2⟩ := hQ2
 obtain ⟨x3, hx3⟩ : ∃ z : Int32, z = (own_sh8 oM (tm1 - fr0) (tm2 - fr1) (tm3 - fr2) oM oM oM oM) := ⟨_, rfl⟩
 rw [← hx3]
 have hdx3 : x3 = (1 : Int32) ∨ x3 = (2 : Int32) ∨ x3 = (3 : Int32) := by rw [hx3]; exact (own_shl_8_15 (tm1 - fr0) (tm2 - fr1) (tm3 - fr2) (own_nlt htm1 hfr0) (own_nlt htm2 hfr1) (own_nlt htm3 hfr2))
 rcases hdx3 with hc4 | hc5 | hc6
 · rw [hc4]
   refine wI C X2 #[oR a30_0, oI 1, oI 1, oU, oU, oU] d30_22 ?_
   refine gA C X2 e2 O.Fentries (ow46 C.w) d30_23 d30_24 fun T7 X7 e7 => ?_
   refine sI C X7 d30_27 ?_
   refine sC C X7 d30_28 ?_
   refine sS C X7 d30_29 ?_
   refine cV C X7 e7 (rm32_2 l Z a0 C.w rE (0 : Int32) rW kW (15 : Int64) h0 n0 O.hsz (by decide +kernel) (by decide +kernel) O.Ee O.BwordsInUse O.BsizeIsSticky O.Bwords O.Vw O.St) O.Ee (W := 0) (ow168 C.w) (ow169 C.w) (ow171 C.w) (ow170 C.w) (ow172 C.w) (ow27 C.w) (argsL := [(.int (0 : Int32))]) (lenOf pd__I_I rfl) d30_30 fun v8 T8 lo8 X8 hQ8 => ?_
   obtain ⟨rfl, Nq8, e8⟩ := hQ8
   rw [show (own_psb (0 : Int32) (15 : Int64)) = (0 : Int32) from by decide +kernel]
   refine wI C X8 #[oR a30_0, oI 1, oI 1, oI 0, oU, oU] d30_33 ?_
   refine gA C X8 e8 O.Fentries (ow46 C.w) d30_34 d30_35 fun T10 X10 e10 => ?_
   refine sI C X10 d30_38 ?_
   refine cV C X10 e10 (rm28_1 l Z a0 C.w rE (0 : Int32) rW kW (15 : Int64) h0 n0 O.hsz (by decide +kernel) (by decide +kernel) O.Ee O.BwordsInUse O.BsizeIsSticky O.Bwords O.Vw O.grW O.n_rE_rW O.grE O.St) O.Ee (W := 0) (ow148 C.w) (ow149 C.w) (ow151 C.w) (ow150 C.w) (ow152 C.w) (ow27 C.w) (argsL := [(.int (0 : Int32))]) (lenOf pd__I_V rfl) d30_39 fun v11 T11 lo11 X11 hQ11 => ?_
   obtain ⟨rfl, Nq11, Kc11, Sc11, P11_0, P11_1, P11_2, P11_3, P11_4⟩ := hQ11
   rw [show ((15 : Int64) &&& (((1 : Int64) <<< ((0 : Int32) &&& 0x3f).toInt64) ^^^ (-1 : Int64))) = (14 : Int64) from by decide +kernel] at P11_0
   rw [show (if ((15 : Int64) &&& (((1 : Int64) <<< ((0 : Int32) &&& 0x3f).toInt64) ^^^ (-1 : Int64))) = (0 : Int64) then (0 : Int32) else (1 : Int32)) = (1 : Int32) from by decide +kernel] at P11_2
   have O11 := O.bits2 Kc11 Sc11 P11_1 P11_2 P11_3 P11_4 P11_0
   refine sA C X11 d30_42 ?_
   refine sD C X11 d30_43 ?_
   refine gF C X11 rfl O11.Fsize (ow53 C.w) d30_44 fun T12 X12 e12 => ?_
   refine sC C X12 d30_47 ?_
   refine sS C X12 d30_48 ?_
   refine pF C X12 e12 (((N0.app Nq2).app Nq8).app Nq11) O11.ga O11.Fsize O11.Ea (ty := .int) (ow53 C.w) (ow54 C.w) (ow8 C.w) (by decide) d30_49 fun T13 h13 lo13 X13 e13 N13 W13 F13 => ?_
   have O13 := own_Obj.put_size hw O11 W13 F13
   refine sA C X13 d30_52 ?_
   refine sI C X13 d30_53 ?_
   refine kJ C X13 (ow98 C.w) d30_54 ?_
   have f14 := ((SP.keep Kc11 (ninS O13.n_rS_rW (ninS O13.n_rS_rE nin0))).other W13 (Ne.symm O13.n_a_rS))
   refine cP C X13 e13 (rm23_8_0 l Z a0 C.w a30_0 oM rT kT tm0 tm1 tm2 tm3 tm4 tm5 tm6 tm7 rS oM (tm1 - fr0) (tm2 - fr1) (tm3 - fr2) oM oM oM oM h13 n0 O13.hsz O13.Ftimes O13.Vt O13.Fspans f14 O13.grS O13.n_a_rS) O13.Ea (W := 0) (ow126 C.w) (ow127 C.w) (own_selp (x := oy7) rfl (mvT (args := #[]) C.z (ow51 C.w)) (Cond.privateMethod_at (mvP C.z (ow128 C.w) (args := #[]))) (mvT C.z (ow127 C.w)) (by decide)) (ow128 C.w) (ow129 C.w) (ow9 C.w) (argsL := [(.int (0 : Int32)), (.long oM)]) (lenOf pd__IJ_V rfl) d30_57 fun v15 T15 lo15 X15 hQ15 => ?_
   obtain ⟨rfl, Nq15, Kc15, Sc15, P15_0⟩ := hQ15
   have O15 := O13.sp Kc15 Sc15
   refine gA C X15 rfl O15.Ffroms (ow19 C.w) d30_60 d30_61 fun T16 X16 e16 => ?_
   refine sI C X16 d30_64 ?_
   refine gA C X16 e16 O15.Ffroms (ow19 C.w) d30_65 d30_66 fun T17 X17 e17 => ?_
   refine sI C X17 d30_69 ?_
   refine lA C X17 e17 O15.Vf d30_70 ?_
   refine sJ C X17 e17 (N13.app Nq15) O15.grF O15.Vf _ d30_71 fun T18 h18 lo18 X18 e18 N18 W18 V18 => ?_
   have O18 := O15.setF W18 V18
   refine gA C X18 e18 O18.Fentries (ow46 C.w) d30_72 d30_73 fun T19 X19 e19 => ?_
   refine sI C X19 d30_76 ?_
   refine sC C X19 d30_77 ?_
   refine sS C X19 d30_78 ?_
   refine cV C X19 e19 (rm32_1 l Z a0 C.w rE rW kW (14 : Int64) h18 n0 O18.hsz O18.Ee O18.BwordsInUse O18.BsizeIsSticky O18.Bwords O18.Vw) O18.Ee (W := 0) (ow168 C.w) (ow169 C.w) (ow171 C.w) (ow170 C.w) (ow172 C.w) (ow27 C.w) (argsL := [(.int (-1 : Int32))]) (lenOf pd__I_I rfl) d30_79 fun v20 T20 lo20 X20 hQ20 => ?_
   obtain ⟨rfl, Nq20, e20⟩ := hQ20
   refine wi C X20 #[oR a30_0, oI 1, oI 1, oI 0, oI (-1), oU] d30_82 ?_
   refine sA C X20 d30_84 ?_
   refine sI C X20 d30_85 ?_
   refine si C X20 d30_86 ?_
   refine bN C X20 d30_88 ((if0 _ _).trans (tlt (by decide : (-1 : Int32) < (0 : Int32))).2.1) ?_
   refine kJ C X20 (ow98 C.w) d30_91 ?_
   refine sG C X20 d30_94 111 ?_
   have f21 := (P15_0.other W18 (Ne.symm O18.n_rF_rS))
   refine cP C X20 e20 (rm23_8_1 l Z a0 C.w a30_0 oM rT kT tm0 tm1 tm2 tm3 tm4 tm5 tm6 tm7 rS oM (tm1 - fr0) (tm2 - fr1) (tm3 - fr2) oM oM oM oM h18 n0 O18.hsz O18.Ftimes O18.Vt O18.Fspans f21 O18.grS O18.n_a_rS) O18.Ea (W := 0) (ow126 C.w) (ow127 C.w) (own_selp (x := oy7) rfl (mvT (args := #[]) C.z (ow51 C.w)) (Cond.privateMethod_at (mvP C.z (ow128 C.w) (args := #[]))) (mvT C.z (ow127 C.w)) (by decide)) (ow128 C.w) (ow129 C.w) (ow9 C.w) (argsL := [(.int (1 : Int32)), (.long oM)]) (lenOf pd__IJ_V rfl) d30_111 fun v22 T22 lo22 X22 hQ22 => ?_
   obtain ⟨rfl, Nq22, Kc22, Sc22, P22_0⟩ := hQ22
   have O22 := O18.sp Kc22 Sc22
   refine gA C X22 rfl O22.Fentries (ow46 C.w) d30_114 d30_115 fun T23 X23 e23 => ?_
   refine sI C X23 d30_118 ?_
   refine sC C X23 d30_119 ?_
   refine sP C X23 d30_120 ?_
   refine cV C X23 e23 (rm12_2 l Z a0 C.w rE (2 : Int32) rW kW (14 : Int64) T22.heap n0 O22.hsz (by decide +kernel) (by decide +kernel) O22.Ee O22.BwordsInUse O22.BsizeIsSticky O22.Bwords O22.Vw O22.St) O22.Ee (W := 0) (ow76 C.w) (ow77 C.w) (ow79 C.w) (ow78 C.w) (ow80 C.w) (ow27 C.w) (argsL := [(.int (2 : Int32))]) (lenOf pd__I_I rfl) d30_121 fun v24 T24 lo24 X24 hQ24 => ?_
   obtain ⟨rfl, Nq24, e24⟩ := hQ24
   rw [show (own_nsb (2 : Int32) (14 : Int64)) = (2 : Int32) from by decide +kernel]
   refine wi C X24 #[oR a30_0, oI 1, oI 1, oI 0, oI (-1), oI 2] d30_124 ?_
   refine si C X24 d30_126 ?_
   refine bN C X24 d30_128 ((if0 _ _).trans (flt (by decide : ¬ ((2 : Int32) < (0 : Int32)))).1) ?_
   refine sA C X24 d30_131 ?_
   refine si C X24 d30_132 ?_
   refine gA C X24 e24 O22.Ftimes (ow17 C.w) d30_134 d30_135 fun T26 X26 e26 => ?_
   refine si C X26 d30_138 ?_
   refine lA C X26 e26 O22.Vt d30_140 ?_
   refine gA C X26 e26 O22.Ffroms (ow19 C.w) d30_141 d30_142 fun T27 X27 e27 => ?_
   refine sI C X27 d30_145 ?_
   refine lA C X27 e27 O22.Vf d30_146 ?_
   refine tS C X27 d30_147 ?_
   refine cP C X27 e27 (rm23_8_2 l Z a0 C.w a30_0 (tm2 - fr0) rT kT tm0 tm1 tm2 tm3 tm4 tm5 tm6 tm7 rS oM oM (tm2 - fr1) (tm3 - fr2) oM oM oM oM T22.heap n0 O22.hsz O22.Ftimes O22.Vt O22.Fspans P22_0 O22.grS O22.n_a_rS) O22.Ea (W := 0) (ow126 C.w) (ow127 C.w) (own_selp (x := oy7) rfl (mvT (args := #[]) C.z (ow51 C.w)) (Cond.privateMethod_at (mvP C.z (ow128 C.w) (args := #[]))) (mvT C.z (ow127 C.w)) (by decide)) (ow128 C.w) (ow129 C.w) (ow9 C.w) (argsL := [(.int (2 : Int32)), (.long (tm2 - fr0))]) (lenOf pd__IJ_V rfl) d30_148 fun v28 T28 lo28 X28 hQ28 => ?_
   obtain ⟨rfl, Nq28, Kc28, Sc28, P28_0⟩ := hQ28
   have O28 := O22.sp Kc28 Sc28
   refine sI C X28 d30_151 ?_
   refine rZ C X28 rfl hret d30_152 ?_
   exact ⟨rfl, ((((N18.app Nq20).app Nq22).app Nq24).app Nq28), Or.inl ⟨hx3 ▸ hc4, O28, P28_0⟩⟩
 · rw [hc5]
   refine wI C X2 #[oR a30_0, oI 1, oI 2, oU, oU, oU] d30_22 ?_
   refine gA C X2 e2 O.Fentries (ow46 C.w) d30_23 d30_24 fun T29 X29 e29 => ?_
   refine sI C X29 d30_27 ?_
   refine sC C X29 d30_28 ?_
   refine sS C X29 d30_29 ?_
   refine cV C X29 e29 (rm32_2 l Z a0 C.w rE (1 : Int32) rW kW (15 : Int64) h0 n0 O.hsz (by decide +kernel) (by decide +kernel) O.Ee O.BwordsInUse O.BsizeIsSticky O.Bwords O.Vw O.St) O.Ee (W := 0) (ow168 C.w) (ow169 C.w) (ow171 C.w) (ow170 C.w) (ow172 C.w) (ow27 C.w) (argsL := [(.int (1 : Int32))]) (lenOf pd__I_I rfl) d30_30 fun v30 T30 lo30 X30 hQ30 => ?_
   obtain ⟨rfl, Nq30, e30⟩ := hQ30
   rw [show (own_psb (1 : Int32) (15 : Int64)) = (1 : Int32) from by decide +kernel]
   refine wI C X30 #[oR a30_0, oI 1, oI 2, oI 1, oU, oU] d30_33 ?_
   refine gA C X30 e30 O.Fentries (ow46 C.w) d30_34 d30_35 fun T32 X32 e32 => ?_
   refine sI C X32 d30_38 ?_
   refine cV C X32 e32 (rm28_1 l Z a0 C.w rE (1 : Int32) rW kW (15 : Int64) h0 n0 O.hsz (by decide +kernel) (by decide +kernel) O.Ee O.BwordsInUse O.BsizeIsSticky O.Bwords O.Vw O.grW O.n_rE_rW O.grE O.St) O.Ee (W := 0) (ow148 C.w) (ow149 C.w) (ow151 C.w) (ow150 C.w) (ow152 C.w) (ow27 C.w) (argsL := [(.int (1 : Int32))]) (lenOf pd__I_V rfl) d30_39 fun v33 T33 lo33 X33 hQ33 => ?_
   obtain ⟨rfl, Nq33, Kc33, Sc33, P33_0, P33_1, P33_2, P33_3, P33_4⟩ := hQ33
   rw [show ((15 : Int64) &&& (((1 : Int64) <<< ((1 : Int32) &&& 0x3f).toInt64) ^^^ (-1 : Int64))) = (13 : Int64) from by decide +kernel] at P33_0
   rw [show (if ((15 : Int64) &&& (((1 : Int64) <<< ((1 : Int32) &&& 0x3f).toInt64) ^^^ (-1 : Int64))) = (0 : Int64) then (0 : Int32) else (1 : Int32)) = (1 : Int32) from by decide +kernel] at P33_2
   have O33 := O.bits2 Kc33 Sc33 P33_1 P33_2 P33_3 P33_4 P33_0
   refine sA C X33 d30_42 ?_
   refine sD C X33 d30_43 ?_
   refine gF C X33 rfl O33.Fsize (ow53 C.w) d30_44 fun T34 X34 e34 => ?_
   refine sC C X34 d30_47 ?_
   refine sS C X34 d30_48 ?_
   refine pF C X34 e34 (((N0.app Nq2).app Nq30).app Nq33) O33.ga O33.Fsize O33.Ea (ty := .int) (ow53 C.w) (ow54 C.w) (ow8 C.w) (by decide) d30_49 fun T35 h35 lo35 X35 e35 N35 W35 F35 => ?_
   have O35 := own_Obj.put_size hw O33 W35 F35
   refine sA C X35 d30_52 ?_
   refine sI C X35 d30_53 ?_
   refine kJ C X35 (ow98 C.w) d30_54 ?_
   have f36 := ((SP.keep Kc33 (ninS O35.n_rS_rW (ninS O35.n_rS_rE nin0))).other W35 (Ne.symm O35.n_a_rS))
   refine cP C X35 e35 (rm23_8_1 l Z a0 C.w a30_0 oM rT kT tm0 tm1 tm2 tm3 tm4 tm5 tm6 tm7 rS oM (tm1 - fr0) (tm2 - fr1) (tm3 - fr2) oM oM oM oM h35 n0 O35.hsz O35.Ftimes O35.Vt O35.Fspans f36 O35.grS O35.n_a_rS) O35.Ea (W := 0) (ow126 C.w) (ow127 C.w) (own_selp (x := oy7) rfl (mvT (args := #[]) C.z (ow51 C.w)) (Cond.privateMethod_at (mvP C.z (ow128 C.w) (args := #[]))) (mvT C.z (ow127 C.w)) (by decide)) (ow128 C.w) (ow129 C.w) (ow9 C.w) (argsL := [(.int (1 : Int32)), (.long oM)]) (lenOf pd__IJ_V rfl) d30_57 fun v37 T37 lo37 X37 hQ37 => ?_
   obtain ⟨rfl, Nq37, Kc37, Sc37, P37_0⟩ := hQ37
   have O37 := O35.sp Kc37 Sc37
   refine gA C X37 rfl O37.Ffroms (ow19 C.w) d30_60 d30_61 fun T38 X38 e38 => ?_
   refine sI C X38 d30_64 ?_
   refine gA C X38 e38 O37.Ffroms (ow19 C.w) d30_65 d30_66 fun T39 X39 e39 => ?_
   refine sI C X39 d30_69 ?_
   refine lA C X39 e39 O37.Vf d30_70 ?_
   refine sJ C X39 e39 (N35.app Nq37) O37.grF O37.Vf _ d30_71 fun T40 h40 lo40 X40 e40 N40 W40 V40 => ?_
   have O40 := O37.setF W40 V40
   refine gA C X40 e40 O40.Fentries (ow46 C.w) d30_72 d30_73 fun T41 X41 e41 => ?_
   refine sI C X41 d30_76 ?_
   refine sC C X41 d30_77 ?_
   refine sS C X41 d30_78 ?_
   refine cV C X41 e41 (rm32_2 l Z a0 C.w rE (0 : Int32) rW kW (13 : Int64) h40 n0 O40.hsz (by decide +kernel) (by decide +kernel) O40.Ee O40.BwordsInUse O40.BsizeIsSticky O40.Bwords O40.Vw O40.St) O40.Ee (W := 0) (ow168 C.w) (ow169 C.w) (ow171 C.w) (ow170 C.w) (ow172 C.w) (ow27 C.w) (argsL := [(.int (0 : Int32))]) (lenOf pd__I_I rfl) d30_79 fun v42 T42 lo42 X42 hQ42 => ?_
   obtain ⟨rfl, Nq42, e42⟩ := hQ42
   rw [show (own_psb (0 : Int32) (13 : Int64)) = (0 : Int32) from by decide +kernel]
   refine wi C X42 #[oR a30_0, oI 1, oI 2, oI 1, oI 0, oU] d30_82 ?_
   refine sA C X42 d30_84 ?_
   refine sI C X42 d30_85 ?_
   refine si C X42 d30_86 ?_
   refine bY C X42 d30_88 97 ((if0 _ _).trans (flt (by decide : ¬ ((0 : Int32) < (0 : Int32)))).2.1) ?_
   refine gA C X42 e42 O40.Ftimes (ow17 C.w) d30_97 d30_98 fun T44 X44 e44 => ?_
   refine sI C X44 d30_101 ?_
   refine lA C X44 e44 O40.Vt d30_102 ?_
   refine gA C X44 e44 O40.Ffroms (ow19 C.w) d30_103 d30_104 fun T45 X45 e45 => ?_
   refine si C X45 d30_107 ?_
   refine lA C X45 e45 O40.Vf d30_109 ?_
   refine tS C X45 d30_110 ?_
   have f46 := (P37_0.other W40 (Ne.symm O40.n_rF_rS))
   refine cP C X45 e45 (rm23_8_2 l Z a0 C.w a30_0 (tm2 - fr0) rT kT tm0 tm1 tm2 tm3 tm4 tm5 tm6 tm7 rS oM oM (tm2 - fr1) (tm3 - fr2) oM oM oM oM h40 n0 O40.hsz O40.Ftimes O40.Vt O40.Fspans f46 O40.grS O40.n_a_rS) O40.Ea (W := 0) (ow126 C.w) (ow127 C.w) (own_selp (x := oy7) rfl (mvT (args := #[]) C.z (ow51 C.w)) (Cond.privateMethod_at (mvP C.z (ow128 C.w) (args := #[]))) (mvT C.z (ow127 C.w)) (by decide)) (ow128 C.w) (ow129 C.w) (ow9 C.w) (argsL := [(.int (2 : Int32)), (.long (tm2 - fr0))]) (lenOf pd__IJ_V rfl) d30_111 fun v47 T47 lo47 X47 hQ47 => ?_
   obtain ⟨rfl, Nq47, Kc47, Sc47, P47_0⟩ := hQ47
   have O47 := O40.sp Kc47 Sc47
   refine gA C X47 rfl O47.Fentries (ow46 C.w) d30_114 d30_115 fun T48 X48 e48 => ?_
   refine sI C X48 d30_118 ?_
   refine sC C X48 d30_119 ?_
   refine sP C X48 d30_120 ?_
   refine cV C X48 e48 (rm12_2 l Z a0 C.w rE (3 : Int32) rW kW (13 : Int64) T47.heap n0 O47.hsz (by decide +kernel) (by decide +kernel) O47.Ee O47.BwordsInUse O47.BsizeIsSticky O47.Bwords O47.Vw O47.St) O47.Ee (W := 0) (ow76 C.w) (ow77 C.w) (ow79 C.w) (ow78 C.w) (ow80 C.w) (ow27 C.w) (argsL := [(.int (3 : Int32))]) (lenOf pd__I_I rfl) d30_121 fun v49 T49 lo49 X49 hQ49 => ?_
   obtain ⟨rfl, Nq49, e49⟩ := hQ49
   rw [show (own_nsb (3 : Int32) (13 : Int64)) = (3 : Int32) from by decide +kernel]
   refine wi C X49 #[oR a30_0, oI 1, oI 2, oI 1, oI 0, oI 3] d30_124 ?_
   refine si C X49 d30_126 ?_
   refine bN C X49 d30_128 ((if0 _ _).trans (flt (by decide : ¬ ((3 : Int32) < (0 : Int32)))).1) ?_
   refine sA C X49 d30_131 ?_
   refine si C X49 d30_132 ?_
   refine gA C X49 e49 O47.Ftimes (ow17 C.w) d30_134 d30_135 fun T51 X51 e51 => ?_
   refine si C X51 d30_138 ?_
   refine lA C X51 e51 O47.Vt d30_140 ?_
   refine gA C X51 e51 O47.Ffroms (ow19 C.w) d30_141 d30_142 fun T52 X52 e52 => ?_
   refine sI C X52 d30_145 ?_
   refine lA C X52 e52 O47.Vf d30_146 ?_
   refine tS C X52 d30_147 ?_
   refine cP C X52 e52 (rm23_8_3 l Z a0 C.w a30_0 (tm3 - fr1) rT kT tm0 tm1 tm2 tm3 tm4 tm5 tm6 tm7 rS oM oM (tm2 - fr0) (tm3 - fr2) oM oM oM oM T47.heap n0 O47.hsz O47.Ftimes O47.Vt O47.Fspans P47_0 O47.grS O47.n_a_rS) O47.Ea (W := 0) (ow126 C.w) (ow127 C.w) (own_selp (x := oy7) rfl (mvT (args := #[]) C.z (ow51 C.w)) (Cond.privateMethod_at (mvP C.z (ow128 C.w) (args := #[]))) (mvT C.z (ow127 C.w)) (by decide)) (ow128 C.w) (ow129 C.w) (ow9 C.w) (argsL := [(.int (3 : Int32)), (.long (tm3 - fr1))]) (lenOf pd__IJ_V rfl) d30_148 fun v53 T53 lo53 X53 hQ53 => ?_
   obtain ⟨rfl, Nq53, Kc53, Sc53, P53_0⟩ := hQ53
   have O53 := O47.sp Kc53 Sc53
   refine sI C X53 d30_151 ?_
   refine rZ C X53 rfl hret d30_152 ?_
   exact ⟨rfl, ((((N40.app Nq42).app Nq47).app Nq49).app Nq53), Or.inr (Or.inl ⟨hx3 ▸ hc5, O53, P53_0⟩)⟩
 rw [hc6]
 refine wI C X2 #[oR a30_0, oI 1, oI 3, oU, oU, oU] d30_22 ?_
 refine gA C X2 e2 O.Fentries (ow46 C.w) d30_23 d30_24 fun T54 X54 e54 => ?_
 refine sI C X54 d30_27 ?_
 refine sC C X54 d30_28 ?_
 refine sS C X54 d30_29 ?_
 refine cV C X54 e54 (rm32_2 l Z a0 C.w rE (2 : Int32) rW kW (15 : Int64) h0 n0 O.hsz (by decide +kernel) (by decide +kernel) O.Ee O.BwordsInUse O.BsizeIsSticky O.Bwords O.Vw O.St) O.Ee (W := 0) (ow168 C.w) (ow169 C.w) (ow171 C.w) (ow170 C.w) (ow172 C.w) (ow27 C.w) (argsL := [(.int (2 : Int32))]) (lenOf pd__I_I rfl) d30_30 fun v55 T55 lo55 X55 hQ55 => ?_
 obtain ⟨rfl, Nq55, e55⟩ := hQ55
 rw [show (own_psb (2 : Int32) (15 : Int64)) = (2 : Int32) from by decide +kernel]
 refine wI C X55 #[oR a30_0, oI 1, oI 3, oI 2, oU, oU] d30_33 ?_
 refine gA C X55 e55 O.Fentries (ow46 C.w) d30_34 d30_35 fun T57 X57 e57 => ?_
 refine sI C X57 d30_38 ?_
 refine cV C X57 e57 (rm28_1 l Z a0 C.w rE (2 : Int32) rW kW (15 : Int64) h0 n0 O.hsz (by decide +kernel) (by decide +kernel) O.Ee O.BwordsInUse O.BsizeIsSticky O.Bwords O.Vw O.grW O.n_rE_rW O.grE O.St) O.Ee (W := 0) (ow148 C.w) (ow149 C.w) (ow151 C.w) (ow150 C.w) (ow152 C.w) (ow27 C.w) (argsL := [(.int (2 : Int32))]) (lenOf pd__I_V rfl) d30_39 fun v58 T58 lo58 X58 hQ58 => ?_
 obtain ⟨rfl, Nq58, Kc58, Sc58, P58_0, P58_1, P58_2, P58_3, P58_4⟩ := hQ58
 rw [show ((15 : Int64) &&& (((1 : Int64) <<< ((2 : Int32) &&& 0x3f).toInt64) ^^^ (-1 : Int64))) = (11 : Int64) from by decide +kernel] at P58_0
 rw [show (if ((15 : Int64) &&& (((1 : Int64) <<< ((2 : Int32) &&& 0x3f).toInt64) ^^^ (-1 : Int64))) = (0 : Int64) then (0 : Int32) else (1 : Int32)) = (1 : Int32) from by decide +kernel] at P58_2
 have O58 := O.bits2 Kc58 Sc58 P58_1 P58_2 P58_3 P58_4 P58_0
 refine sA C X58 d30_42 ?_
 refine sD C X58 d30_43 ?_
 refine gF C X58 rfl O58.Fsize (ow53 C.w) d30_44 fun T59 X59 e59 => ?_
 refine sC C X59 d30_47 ?_
 refine sS C X59 d30_48 ?_
 refine pF C X59 e59 (((N0.app Nq2).app Nq55).app Nq58) O58.ga O58.Fsize O58.Ea (ty := .int) (ow53 C.w) (ow54 C.w) (ow8 C.w) (by decide) d30_49 fun T60 h60 lo60 X60 e60 N60 W60 F60 => ?_
 have O60 := own_Obj.put_size hw O58 W60 F60
 refine sA C X60 d30_52 ?_
 refine sI C X60 d30_53 ?_
 refine kJ C X60 (ow98 C.w) d30_54 ?_
 have f61 := ((SP.keep Kc58 (ninS O60.n_rS_rW (ninS O60.n_rS_rE nin0))).other W60 (Ne.symm O60.n_a_rS))
 refine cP C X60 e60 (rm23_8_2 l Z a0 C.w a30_0 oM rT kT tm0 tm1 tm2 tm3 tm4 tm5 tm6 tm7 rS oM (tm1 - fr0) (tm2 - fr1) (tm3 - fr2) oM oM oM oM h60 n0 O60.hsz O60.Ftimes O60.Vt O60.Fspans f61 O60.grS O60.n_a_rS) O60.Ea (W := 0) (ow126 C.w) (ow127 C.w) (own_selp (x := oy7) rfl (mvT (args := #[]) C.z (ow51 C.w)) (Cond.privateMethod_at (mvP C.z (ow128 C.w) (args := #[]))) (mvT C.z (ow127 C.w)) (by decide)) (ow128 C.w) (ow129 C.w) (ow9 C.w) (argsL := [(.int (2 : Int32)), (.long oM)]) (lenOf pd__IJ_V rfl) d30_57 fun v62 T62 lo62 X62 hQ62 => ?_
 obtain ⟨rfl, Nq62, Kc62, Sc62, P62_0⟩ := hQ62
 have O62 := O60.sp Kc62 Sc62
 refine gA C X62 rfl O62.Ffroms (ow19 C.w) d30_60 d30_61 fun T63 X63 e63 => ?_
 refine sI C X63 d30_64 ?_
 refine gA C X63 e63 O62.Ffroms (ow19 C.w) d30_65 d30_66 fun T64 X64 e64 => ?_
 refine sI C X64 d30_69 ?_
 refine lA C X64 e64 O62.Vf d30_70 ?_
 refine sJ C X64 e64 (N60.app Nq62) O62.grF O62.Vf _ d30_71 fun T65 h65 lo65 X65 e65 N65 W65 V65 => ?_
 have O65 := O62.setF W65 V65
 refine gA C X65 e65 O65.Fentries (ow46 C.w) d30_72 d30_73 fun T66 X66 e66 => ?_
 refine sI C X66 d30_76 ?_
 refine sC C X66 d30_77 ?_
 refine sS C X66 d30_78 ?_
 refine cV C X66 e66 (rm32_2 l Z a0 C.w rE (1 : Int32) rW kW (11 : Int64) h65 n0 O65.hsz (by decide +kernel) (by decide +kernel) O65.Ee O65.BwordsInUse O65.BsizeIsSticky O65.Bwords O65.Vw O65.St) O65.Ee (W := 0) (ow168 C.w) (ow169 C.w) (ow171 C.w) (ow170 C.w) (ow172 C.w) (ow27 C.w) (argsL := [(.int (1 : Int32))]) (lenOf pd__I_I rfl) d30_79 fun v67 T67 lo67 X67 hQ67 => ?_
 obtain ⟨rfl, Nq67, e67⟩ := hQ67
 rw [show (own_psb (1 : Int32) (11 : Int64)) = (1 : Int32) from by decide +kernel]
 refine wi C X67 #[oR a30_0, oI 1, oI 3, oI 2, oI 1, oU] d30_82 ?_
 refine sA C X67 d30_84 ?_
 refine sI C X67 d30_85 ?_
 refine si C X67 d30_86 ?_
 refine bY C X67 d30_88 97 ((if0 _ _).trans (flt (by decide : ¬ ((1 : Int32) < (0 : Int32)))).2.1) ?_
 refine gA C X67 e67 O65.Ftimes (ow17 C.w) d30_97 d30_98 fun T69 X69 e69 => ?_
 refine sI C X69 d30_101 ?_
 refine lA C X69 e69 O65.Vt d30_102 ?_
 refine gA C X69 e69 O65.Ffroms (ow19 C.w) d30_103 d30_104 fun T70 X70 e70 => ?_
 refine si C X70 d30_107 ?_
 refine lA C X70 e70 O65.Vf d30_109 ?_
 refine tS C X70 d30_110 ?_
 have f71 := (P62_0.other W65 (Ne.symm O65.n_rF_rS))
 refine cP C X70 e70 (rm23_8_3 l Z a0 C.w a30_0 (tm3 - fr1) rT kT tm0 tm1 tm2 tm3 tm4 tm5 tm6 tm7 rS oM (tm1 - fr0) oM (tm3 - fr2) oM oM oM oM h65 n0 O65.hsz O65.Ftimes O65.Vt O65.Fspans f71 O65.grS O65.n_a_rS) O65.Ea (W := 0) (ow126 C.w) (ow127 C.w) (own_selp (x := oy7) rfl (mvT (args := #[]) C.z (ow51 C.w)) (Cond.privateMethod_at (mvP C.z (ow128 C.w) (args := #[]))) (mvT C.z (ow127 C.w)) (by decide)) (ow128 C.w) (ow129 C.w) (ow9 C.w) (argsL := [(.int (3 : Int32)), (.long (tm3 - fr1))]) (lenOf pd__IJ_V rfl) d30_111 fun v72 T72 lo72 X72 hQ72 => ?_
 obtain ⟨rfl, Nq72, Kc72, Sc72, P72_0⟩ := hQ72
 have O72 := O65.sp Kc72 Sc72
 refine gA C X72 rfl O72.Fentries (ow46 C.w) d30_114 d30_115 fun T73 X73 e73 => ?_
 refine sI C X73 d30_118 ?_
 refine sC C X73 d30_119 ?_
 refine sP C X73 d30_120 ?_
 refine cV C X73 e73 (rm12_2 l Z a0 C.w rE (4 : Int32) rW kW (11 : Int64) T72.heap n0 O72.hsz (by decide +kernel) (by decide +kernel) O72.Ee O72.BwordsInUse O72.BsizeIsSticky O72.Bwords O72.Vw O72.St) O72.Ee (W := 0) (ow76 C.w) (ow77 C.w) (ow79 C.w) (ow78 C.w) (ow80 C.w) (ow27 C.w) (argsL := [(.int (4 : Int32))]) (lenOf pd__I_I rfl) d30_121 fun v74 T74 lo74 X74 hQ74 => ?_
 obtain ⟨rfl, Nq74, e74⟩ := hQ74
 rw [show (own_nsb (4 : Int32) (11 : Int64)) = (-1 : Int32) from by decide +kernel]
 refine wi C X74 #[oR a30_0, oI 1, oI 3, oI 2, oI 1, oI (-1)] d30_124 ?_
 refine si C X74 d30_126 ?_
 refine bY C X74 d30_128 151 ((if0 _ _).trans (tlt (by decide : (-1 : Int32) < (0 : Int32))).1) ?_
 refine sI C X74 d30_151 ?_
 refine rZ C X74 e74 hret d30_152 ?_
 exact ⟨rfl, (((N65.app Nq67).app Nq72).app Nq74), Or.inr (Or.inr (⟨hx3 ▸ hc6, O72, P72_0⟩))⟩
theorem own_shn_8_15_8 (x1 : Int64) (x2 : Int64) (x3 : Int64) (h1 : x1 < oM) (h2 : x2 < oM) (h3 : x3 < oM) (hmin : ¬ (x3 < (own_m (own_m (own_m oM x1) (own_m x2 oM)) (own_m (own_m oM oM) (own_m oM oM))))) : ¬ (own_sh8 oM x1 x2 x3 oM oM oM oM = (3 : Int32)) := by
 intro hc
 unfold own_sh8 at hc
 by_cases p1 : (own_m (own_m oM oM) (own_m oM oM)) < (own_m (own_m oM x1) (own_m x2 x3))
 · rw [if_pos p1] at hc
   by_cases p3 : (own_m oM oM) < (own_m oM oM)
   · rw [if_pos p3] at hc
     by_cases p7 : oM < oM
     · rw [if_pos p7] at hc
       exact absurd hc (by decide)
     · rw [if_neg p7] at hc
       exact absurd hc (by decide)
   · rw [if_neg p3] at hc
     by_cases p6 : oM < oM
     · rw [if_pos p6] at hc
       exact absurd hc (by decide)
     · rw [if_neg p6] at hc
       exact absurd hc (by decide)
 · rw [if_neg p1] at hc
   by_cases p2 : (own_m x2 x3) < (own_m oM x1)
   · rw [if_pos p2] at hc
     by_cases p5 : x3 < x2
     · rw [if_pos p5] at hc
       have m0 := own_m_c (own_m (own_m oM x1) (own_m x2 oM)) (own_m (own_m oM oM) (own_m oM oM))
       have m1 := own_m_c (own_m oM x1) (own_m x2 oM)
       have m2 := own_m_c oM x1
       have m3 := own_m_c x2 oM
       have m4 := own_m_c (own_m oM oM) (own_m oM oM)
       have m5 := own_m_c oM oM
       have m6 := own_m_c (own_m oM x1) (own_m x2 x3)
       have m7 := own_m_c x2 x3
       have g1 := h1
       have g2 := h2
       have g3 := h3
       rw [Int64.lt_iff_toInt_lt] at hmin
       rw [Int64.lt_iff_toInt_lt] at p1
       rw [Int64.lt_iff_toInt_lt] at p2
       rw [Int64.lt_iff_toInt_lt] at p5
       rw [Int64.lt_iff_toInt_lt] at g1
       rw [Int64.lt_iff_toInt_lt] at g2
       rw [Int64.lt_iff_toInt_lt] at g3
       rw [own_max] at *
       omega
     · rw [if_neg p5] at hc
       exact absurd hc (by decide)
   · rw [if_neg p2] at hc
     by_cases p4 : x1 < oM
     · rw [if_pos p4] at hc
       exact absurd hc (by decide)
     · rw [if_neg p4] at hc
       exact absurd hc (by decide)
def own_S_8_x_4_4_15 (Z : State) (h : Heap) (n0 : Nat) (a : Addr) (T t : Int64) : Prop := ∃ rT : Addr, ∃ rF : Addr, ∃ rO : Addr, ∃ rS : Addr, ∃ rE : Addr, ∃ rW : Addr, ∃ kT : ClassId, ∃ kF : ClassId, ∃ kO : ClassId, ∃ kW : ClassId, ∃ fi : Int32, ∃ bs : Int64, ∃ tm0 : Int64, ∃ tm1 : Int64, ∃ tm2 : Int64, ∃ tm4 : Int64, ∃ tm5 : Int64, ∃ tm6 : Int64, ∃ tm7 : Int64, ∃ fr0 : Int64, ∃ fr1 : Int64, ∃ fr2 : Int64, ∃ fr3 : Int64, ∃ fr4 : Int64, ∃ fr5 : Int64, ∃ fr6 : Int64, ∃ fr7 : Int64, ∃ to0 : Int64, ∃ to1 : Int64, ∃ to2 : Int64, ∃ to3 : Int64, ∃ to4 : Int64, ∃ to5 : Int64, ∃ to6 : Int64, ∃ to7 : Int64, own_Obj Z h n0 a rT rF rO rS rE rW kT kF kO kW fi (4 : Int32) (4 : Int32) bs (1 : Int32) (1 : Int32) (15 : Int64) (8 : Int32) [(.long tm0), (.long tm1), (.long tm2), (.long t), (.long tm4), (.long tm5), (.long tm6), (.long tm7)] [(.long fr0), (.long fr1), (.long fr2), (.long fr3), (.long fr4), (.long fr5), (.long fr6), (.long fr7)] [(.long to0), (.long to1), (.long to2), (.long to3), (.long to4), (.long to5), (.long to6), (.long to7)] ∧ own_Sp8 Z h rS oM (tm1 - fr0) (tm2 - fr1) (t - fr2) oM oM oM oM ∧ own_near T tm0 ∧ own_near T tm1 ∧ own_near T tm2 ∧ own_near T t ∧ own_near T fr0 ∧ own_near T fr1 ∧ own_near T fr2 ∧ own_near T fr3
def own_S_8_x_4_3_14 (Z : State) (h : Heap) (n0 : Nat) (a : Addr) (T t : Int64) : Prop := ∃ rT : Addr, ∃ rF : Addr, ∃ rO : Addr, ∃ rS : Addr, ∃ rE : Addr, ∃ rW : Addr, ∃ kT : ClassId, ∃ kF : ClassId, ∃ kO : ClassId, ∃ kW : ClassId, ∃ fi : Int32, ∃ bs : Int64, ∃ tm0 : Int64, ∃ tm1 : Int64, ∃ tm2 : Int64, ∃ tm4 : Int64, ∃ tm5 : Int64, ∃ tm6 : Int64, ∃ tm7 : Int64, ∃ fr0 : Int64, ∃ fr1 : Int64, ∃ fr2 : Int64, ∃ fr3 : Int64, ∃ fr4 : Int64, ∃ fr5 : Int64, ∃ fr6 : Int64, ∃ fr7 : Int64, ∃ to0 : Int64, ∃ to1 : Int64, ∃ to2 : Int64, ∃ to3 : Int64, ∃ to4 : Int64, ∃ to5 : Int64, ∃ to6 : Int64, ∃ to7 : Int64, own_Obj Z h n0 a rT rF rO rS rE rW kT kF kO kW fi (4 : Int32) (3 : Int32) bs (1 : Int32) (1 : Int32) (14 : Int64) (8 : Int32) [(.long tm0), (.long tm1), (.long tm2), (.long t), (.long tm4), (.long tm5), (.long tm6), (.long tm7)] [(.long fr0), (.long fr1), (.long fr2), (.long fr3), (.long fr4), (.long fr5), (.long fr6), (.long fr7)] [(.long to0), (.long to1), (.long to2), (.long to3), (.long to4), (.long to5), (.long to6), (.long to7)] ∧ own_Sp8 Z h rS oM oM (tm2 - fr1) (t - fr2) oM oM oM oM ∧ own_near T tm1 ∧ own_near T tm2 ∧ own_near T t ∧ own_near T fr1 ∧ own_near T fr2 ∧ own_near T fr3
def own_S_8_x_4_3_13 (Z : State) (h : Heap) (n0 : Nat) (a : Addr) (T t : Int64) : Prop := ∃ rT : Addr, ∃ rF : Addr, ∃ rO : Addr, ∃ rS : Addr, ∃ rE : Addr, ∃ rW : Addr, ∃ kT : ClassId, ∃ kF : ClassId, ∃ kO : ClassId, ∃ kW : ClassId, ∃ fi : Int32, ∃ bs : Int64, ∃ tm0 : Int64, ∃ tm1 : Int64, ∃ tm2 : Int64, ∃ tm4 : Int64, ∃ tm5 : Int64, ∃ tm6 : Int64, ∃ tm7 : Int64, ∃ fr0 : Int64, ∃ fr1 : Int64, ∃ fr2 : Int64, ∃ fr3 : Int64, ∃ fr4 : Int64, ∃ fr5 : Int64, ∃ fr6 : Int64, ∃ fr7 : Int64, ∃ to0 : Int64, ∃ to1 : Int64, ∃ to2 : Int64, ∃ to3 : Int64, ∃ to4 : Int64, ∃ to5 : Int64, ∃ to6 : Int64, ∃ to7 : Int64, own_Obj Z h n0 a rT rF rO rS rE rW kT kF kO kW fi (4 : Int32) (3 : Int32) bs (1 : Int32) (1 : Int32) (13 : Int64) (8 : Int32) [(.long tm0), (.long tm1), (.long tm2), (.long t), (.long tm4), (.long tm5), (.long tm6), (.long tm7)] [(.long fr0), (.long fr1), (.long fr2), (.long fr3), (.long fr4), (.long fr5), (.long fr6), (.long fr7)] [(.long to0), (.long to1), (.long to2), (.long to3), (.long to4), (.long to5), (.long to6), (.long to7)] ∧ own_Sp8 Z h rS oM oM (tm2 - fr0) (t - fr2) oM oM oM oM ∧ own_near T tm0 ∧ own_near T tm2 ∧ own_near T t ∧ own_near T fr0 ∧ own_near T fr2 ∧ own_near T fr3
theorem d7_170 : decode oc7 170 = .ok (.ldc2_w 74, 3):=by decide +kernel
theorem d7_173 : decode oc7 173 = .ok (.aload_n 0, 1):=by decide +kernel
theorem d7_174 : decode oc7 174 = .ok (.getfield 31, 3):=by decide +kernel
theorem d7_177 : decode oc7 177 = .ok (.iconst 1, 1):=by decide +kernel
theorem d7_178 : decode oc7 178 = .ok (.iadd, 1):=by decide +kernel
theorem d7_179 : decode oc7 179 = .ok (.i2l, 1):=by decide +kernel
theorem d7_180 : decode oc7 180 = .ok (.lmul, 1):=by decide +kernel
theorem d7_181 : decode oc7 181 = .ok (.iload 6, 2):=by decide +kernel
theorem d7_183 : decode oc7 183 = .ok (.i2l, 1):=by decide +kernel
theorem d7_184 : decode oc7 184 = .ok (.lcmp, 1):=by decide +kernel
theorem d7_185 : decode oc7 185 = .ok (.ifCond .gt 24, 3):=by decide +kernel
def Q_rm7_4 (Z : State) (a7_0 : Addr) (q7_1 : Int64) (q7_2 : Int64) (p7_3 : Int32) (rT : Addr) (rF : Addr) (rO : Addr) (rS : Addr) (rE : Addr) (rW : Addr) (kT : ClassId) (kF : ClassId) (kO : ClassId) (kW : ClassId) (fi : Int32) (bs : Int64) (tm0 : Int64) (tm1 : Int64) (tm2 : Int64) (tm3 : Int64) (tm4 : Int64) (tm5 : Int64) (tm6 : Int64) (tm7 : Int64) (fr0 : Int64) (fr1 : Int64) (fr2 : Int64) (fr3 : Int64) (fr4 : Int64) (fr5 : Int64) (fr6 : Int64) (fr7 : Int64) (to0 : Int64) (to1 : Int64) (to2 : Int64) (to3 : Int64) (to4 : Int64) (to5 : Int64) (to6 : Int64) (to7 : Int64) (T : Int64) (h0 : Heap) (n0 : Nat) (v : Option Value) (h : Heap) (L : List Loc) : Prop := v = none ∧ Fr n0 L ∧ (own_S_8_x_3_3_7 Z h n0 a7_0 T q7_1 ∨ own_S_8_x_4_4_15 Z h n0 a7_0 T q7_1 ∨ own_S_8_x_4_3_14 Z h n0 a7_0 T q7_1 ∨ own_S_8_x_4_3_13 Z h n0 a7_0 T q7_1)
theorem rm7_4 (l : Launch) (Z : State) (a0 : Array Value) (hw : own_T Z a0) (a7_0 : Addr) (q7_1 q7_2 : Int64) (p7_3 : Int32) (rT rF rO rS rE rW : Addr) (kT kF kO kW : ClassId) (fi : Int32) (bs tm0 tm1 tm2 tm3 tm4 tm5 tm6 tm7 fr0 fr1 fr2 fr3 fr4 fr5 fr6 fr7 to0 to1 to2 to3 to4 to5 to6 to7 T : Int64) (h0 : Heap) (n0 : Nat) (Z0 : n0 ≤ h0.size) (O : own_Obj Z h0 n0 a7_0 rT rF rO rS rE rW kT kF kO kW fi (3 : Int32) (3 : Int32) bs (1 : Int32) (1 : Int32) (7 : Int64) (8 : Int32) [(.long tm0), (.long tm1), (.long tm2), (.long tm3), (.long tm4), (.long tm5), (.long tm6), (.long tm7)] [(.long fr0), (.long fr1), (.long fr2), (.long fr3), (.long fr4), (.long fr5), (.long fr6), (.long fr7)] [(.long to0), (.long to1), (.long to2), (.long to3), (.long to4), (.long to5), (.long to6), (.long to7)]) (SP : own_Sp8 Z h0 rS oM (tm1 - fr0) (tm2 - fr1) oM oM oM oM oM) (htm0 : own_near T tm0) (htm1 : own_near T tm1) (htm2 : own_near T tm2) (hfr0 : own_near T fr0) (hfr1 : own_near T fr1) (hfr2 : own_near T fr2) (hs_q7_1 : own_near T q7_1) (hm : (0 : Int32) < p7_3) :
   own_Met l oy7 oc7 9 none ({ frames := 6, cells := 6, slots := 44, locals := 150 } : Room) Z h0 #[(.ref a7_0), (.long q7_1), (.long q7_2), (.int p7_3)] (Q_rm7_4 Z a7_0 q7_1 q7_2 p7_3 rT rF rO rS rE rW kT kF kO kW fi bs tm0 tm1 tm2 tm3 tm4 tm5 tm6 tm7 fr0 fr1 fr2 fr3 fr4 fr5 fr6 fr7 to0 to1 to2 to3 to4 to5 to6 to7 T h0 n0) := by
 refine own_go hw (plainFor_of_name pn_7) (fun m => ef_rm7_1 m a7_0 q7_1 q7_2 p7_3) fun p e s m below meth c T0 C hret X0 e0 => ?_
 have N0 := Fr.nil n0
 refine gA C X0 e0 O.Fsize (ow53 C.w) d7_0 d7_1 fun T1 X1 e1 => ?_
 refine bN C X1 d7_4 ((if0 _ _).trans (tlt (by decide : (0 : Int32) < (3 : Int32))).2.2.2) ?_
 refine gA C X1 e1 O.Ftimes (ow17 C.w) d7_7 d7_8 fun T2 X2 e2 => ?_
 refine gA C X2 e2 O.Fend (ow55 C.w) d7_11 d7_12 fun T3 X3 e3 => ?_
 refine sC C X3 d7_15 ?_
 refine sS C X3 d7_16 ?_
 refine lA C X3 e3 O.Vt d7_17 ?_
 refine sL C X3 d7_18 ?_
 refine tC C X3 d7_19 ?_
 by_cases h20_4 : tm2 = q7_1
 · have fw5 := O
   rw [h20_4] at fw5
   have fw6 := SP
   rw [h20_4] at fw6
   refine bN C X3 d7_20 ((if0 _ _).trans (teq ((lw_eq _ _).mpr h20_4)).2) ?_
   refine gA C X3 e3 fw5.Ftotals (ow21 C.w) d7_23 d7_24 fun T7 X7 e7 => ?_
   refine gA C X7 e7 fw5.Fend (ow55 C.w) d7_27 d7_28 fun T8 X8 e8 => ?_
   refine sC C X8 d7_31 ?_
   refine sS C X8 d7_32 ?_
   show own_Fin p l e _ s m _ below meth c _ T8 (mkF m 33 #[oR a7_0, oJ q7_1, oD, oJ q7_2, oD, oI p7_3, oU, oU, oU] [(.int (2 : Int32)), (.ref rO)])
   refine own_Fin.st (g' := (mkF m 34 #[oR a7_0, oJ q7_1, oD, oJ q7_2, oD, oI p7_3, oU, oU, oU] [(.int (2 : Int32)), (.ref rO), (.int (2 : Int32)), (.ref rO)])) ?_ (fun t k => by jvm_step X8.here [X8.here.top, C.1, C.d d7_33, Value.category]; exact k)
   refine lA C X8 e8 fw5.Vo d7_34 ?_
   refine sL C X8 d7_35 ?_
   refine tP C X8 d7_36 ?_
   refine sJ C X8 e8 N0 fw5.grO fw5.Vo _ d7_37 fun T9 h9 lo9 X9 e9 N9 W9 V9 => ?_
   have O9 := fw5.setO W9 V9
   refine sG C X9 d7_38 348 ?_
   have f93 := (fw6.other W9 (Ne.symm O9.n_rO_rS))
   refine rV C X9 e9 hret d7_348 ?_
   exact ⟨rfl, N9, Or.inl ⟨rT, rF, rO, rS, rE, rW, kT, kF, kO, kW, fi, bs, tm0, tm1, tm3, tm4, tm5, tm6, tm7, fr0, fr1, fr2, fr3, fr4, fr5, fr6, fr7, to0, to1, (to2 + q7_2), to3, to4, to5, to6, to7, O9, f93, htm0, htm1, hs_q7_1, hfr0, hfr1, hfr2⟩⟩
 refine bY C X3 d7_20 41 ((if0 _ _).trans (feq (fun q => h20_4 ((lw_eq _ _).mp q))).2) ?_
 refine gA C X3 e3 O.Fsize (ow53 C.w) d7_41 d7_42 fun T10 X10 e10 => ?_
 refine si C X10 d7_45 ?_
 by_cases h47_11 : (3 : Int32) < p7_3
 · refine cY C X10 d7_47 148 ((tlt h47_11).1) ?_
   refine gA C X10 e10 O.Ftimes (ow17 C.w) d7_148 d7_149 fun T12 X12 e12 => ?_
   refine nA C X12 e12 O.Vt d7_152 ?_
   refine wi C X12 #[oR a7_0, oJ q7_1, oD, oJ q7_2, oD, oI p7_3, oI 8, oU, oU] d7_153 ?_
   refine gA C X12 e12 O.Fend (ow55 C.w) d7_155 d7_156 fun T13 X13 e13 => ?_
   refine si C X13 d7_159 ?_
   refine cN C X13 d7_161 ((feq (by decide : ¬ ((3 : Int32) = (8 : Int32)))).1) ?_
   refine si C X13 d7_164 ?_
   refine sC C X13 d7_166 ?_
   refine cN C X13 d7_167 ((tlt (by decide : (2 : Int32) < (8 : Int32))).2.2.2) ?_
   refine kJ C X13 (ow158 C.w) d7_170 ?_
   refine gA C X13 e13 O.Fsize (ow53 C.w) d7_173 d7_174 fun T14 X14 e14 => ?_
   refine sC C X14 d7_177 ?_
   refine sP C X14 d7_178 ?_
   refine tI C X14 d7_179 ?_
   refine own_Fin.st (g' := (mkF m 181 #[oR a7_0, oJ q7_1, oD, oJ q7_2, oD, oI p7_3, oI 8, oU, oU] [(.long (32 : Int64))])) ?_ (fun t k => XS.lmul X14.here C.1 rfl (C.d d7_180) rfl k)
   refine si C X14 d7_181 ?_
   refine tI C X14 d7_183 ?_
   refine tC C X14 d7_184 ?_
   refine bY C X14 d7_185 209 ((if0 _ _).trans (tlt ((lw_gt _ _).mpr (by decide : (8 : Int64) < (32 : Int64)))).2.2.1) ?_
   refine gA C X14 e14 O.Fsize (ow53 C.w) d7_209 d7_210 fun T15 X15 e15 => ?_
   refine bN C X15 d7_213 ((if0 _ _).trans (tlt (by decide : (0 : Int32) < (3 : Int32))).2.2.2) ?_
   refine gA C X15 e15 O.Ftotals (ow21 C.w) d7_216 d7_217 fun T16 X16 e16 => ?_
   refine gA C X16 e16 O.Fend (ow55 C.w) d7_220 d7_221 fun T17 X17 e17 => ?_
   refine sC C X17 d7_224 ?_
   refine sS C X17 d7_225 ?_
   refine lA C X17 e17 O.Vo d7_226 ?_
   refine sG C X17 d7_227 234 ?_
   refine wl C X17 #[oR a7_0, oJ q7_1, oD, oJ q7_2, oD, oI p7_3, oI 8, oJ to2, oD] d7_234 ?_
   refine gA C X17 e17 O.Ftimes (ow17 C.w) d7_236 d7_237 fun T18 X18 e18 => ?_
   refine gA C X18 e18 O.Fend (ow55 C.w) d7_240 d7_241 fun T19 X19 e19 => ?_
   refine sL C X19 d7_244 ?_
   refine sJ C X19 e19 N0 O.grT O.Vt _ d7_245 fun T20 h20 lo20 X20 e20 N20 W20 V20 => ?_
   have O20 := O.setT W20 V20
   refine gA C X20 e20 O20.Ffroms (ow19 C.w) d7_246 d7_247 fun T21 X21 e21 => ?_
   refine gA C X21 e21 O20.Fend (ow55 C.w) d7_250 d7_251 fun T22 X22 e22 => ?_
   refine sL C X22 d7_254 ?_
   refine sJ C X22 e22 N20 O20.grF O20.Vf _ d7_255 fun T23 h23 lo23 X23 e23 N23 W23 V23 => ?_
   have O23 := O20.setF W23 V23
   refine gA C X23 e23 O23.Ftotals (ow21 C.w) d7_256 d7_257 fun T24 X24 e24 => ?_
   refine gA C X24 e24 O23.Fend (ow55 C.w) d7_260 d7_261 fun T25 X25 e25 => ?_
   refine sl C X25 d7_264 ?_
   refine sL C X25 d7_266 ?_
   refine tP C X25 d7_267 ?_
   refine sJ C X25 e25 N23 O23.grO O23.Vo _ d7_268 fun T26 h26 lo26 X26 e26 N26 W26 V26 => ?_
   have O26 := O23.setO W26 V26
   refine gA C X26 e26 O26.Fentries (ow46 C.w) d7_269 d7_270 fun T27 X27 e27 => ?_
   refine gA C X27 e27 O26.Fend (ow55 C.w) d7_273 d7_274 fun T28 X28 e28 => ?_
   refine cV C X28 e28 (rm20_2 l Z a0 C.w rE (3 : Int32) rW kW (7 : Int64) h26 n0 O26.hsz (by decide +kernel) (by decide +kernel) O26.Ee O26.BwordsInUse O26.BsizeIsSticky O26.Bwords O26.Vw O26.grW O26.St) O26.Ee (W := 0) (ow111 C.w) (ow112 C.w) (ow114 C.w) (ow113 C.w) (ow115 C.w) (ow27 C.w) (argsL := [(.int (3 : Int32))]) (lenOf pd__I_V rfl) d7_277 fun v29 T29 lo29 X29 hQ29 => ?_
   obtain ⟨rfl, Nq29, Kc29, Sc29, P29_0⟩ := hQ29
   rw [show ((7 : Int64) ||| ((1 : Int64) <<< ((3 : Int32) &&& 0x3f).toInt64)) = (15 : Int64) from by decide +kernel] at P29_0
   have O29 := O26.bit1 Kc29 Sc29 P29_0
   refine sA C X29 d7_280 ?_
   refine gA C X29 rfl O29.Fend (ow55 C.w) d7_281 d7_282 fun T30 X30 e30 => ?_
   refine gA C X30 e30 O29.Fsize (ow53 C.w) d7_285 d7_286 fun T31 X31 e31 => ?_
   refine bN C X31 d7_289 ((if0 _ _).trans (tlt (by decide : (0 : Int32) < (3 : Int32))).2.2.2) ?_
   refine sL C X31 d7_292 ?_
   refine gA C X31 e31 O29.Ffroms (ow19 C.w) d7_293 d7_294 fun T32 X32 e32 => ?_
   refine gA C X32 e32 O29.Fend (ow55 C.w) d7_297 d7_298 fun T33 X33 e33 => ?_
   refine sC C X33 d7_301 ?_
   refine sS C X33 d7_302 ?_
   refine lA C X33 e33 O29.Vf d7_303 ?_
   refine tS C X33 d7_304 ?_
   refine sG C X33 d7_305 311 ?_
   have f34 := ((((SP.other W20 (Ne.symm O29.n_rT_rS)).other W23 (Ne.symm O29.n_rF_rS)).other W26 (Ne.symm O29.n_rO_rS)).keep Kc29 (ninS O29.n_rS_rW nin0))
   refine cP C X33 e33 (rm23_8_3 l Z a0 C.w a7_0 (q7_1 - fr2) rT kT tm0 tm1 tm2 q7_1 tm4 tm5 tm6 tm7 rS oM (tm1 - fr0) (tm2 - fr1) oM oM oM oM oM T29.heap n0 O29.hsz O29.Ftimes O29.Vt O29.Fspans f34 O29.grS O29.n_a_rS) O29.Ea (W := 0) (ow126 C.w) (ow127 C.w) (own_selp (x := oy7) rfl (mvT (args := #[]) C.z (ow51 C.w)) (Cond.privateMethod_at (mvP C.z (ow128 C.w) (args := #[]))) (mvT C.z (ow127 C.w)) (by decide)) (ow128 C.w) (ow129 C.w) (ow9 C.w) (argsL := [(.int (3 : Int32)), (.long (q7_1 - fr2))]) (lenOf pd__IJ_V rfl) d7_311 fun v35 T35 lo35 X35 hQ35 => ?_
   obtain ⟨rfl, Nq35, Kc35, Sc35, P35_0⟩ := hQ35
   have O35 := O29.sp Kc35 Sc35
   refine sA C X35 d7_314 ?_
   refine sD C X35 d7_315 ?_
   refine gF C X35 rfl O35.Fend (ow55 C.w) d7_316 fun T36 X36 e36 => ?_
   refine sC C X36 d7_319 ?_
   refine sP C X36 d7_320 ?_
   refine pF C X36 e36 ((N26.app Nq29).app Nq35) O35.ga O35.Fend O35.Ea (ty := .int) (ow55 C.w) (ow56 C.w) (ow8 C.w) (by decide) d7_321 fun T37 h37 lo37 X37 e37 N37 W37 F37 => ?_
   have O37 := own_Obj.put_end hw O35 W37 F37
   refine sA C X37 d7_324 ?_
   refine sD C X37 d7_325 ?_
   refine gF C X37 e37 O37.Fsize (ow53 C.w) d7_326 fun T38 X38 e38 => ?_
   refine sC C X38 d7_329 ?_
   refine sP C X38 d7_330 ?_
   refine pF C X38 e38 N37 O37.ga O37.Fsize O37.Ea (ty := .int) (ow53 C.w) (ow54 C.w) (ow8 C.w) (by decide) d7_331 fun T39 h39 lo39 X39 e39 N39 W39 F39 => ?_
   have O39 := own_Obj.put_size hw O37 W39 F39
   refine gA C X39 e39 O39.Fsize (ow53 C.w) d7_334 d7_335 fun T40 X40 e40 => ?_
   refine si C X40 d7_338 ?_
   refine cY C X40 d7_340 348 ((flt (own_ilt (3 : Int32) (4 : Int32) h47_11 (by decide))).2.2.2) ?_
   have f94 := ((P35_0.other W37 (Ne.symm O39.n_a_rS)).other W39 (Ne.symm O39.n_a_rS))
   refine rV C X40 e40 hret d7_348 ?_
   exact ⟨rfl, N39, Or.inr (Or.inl ⟨rT, rF, rO, rS, rE, rW, kT, kF, kO, kW, fi, bs, tm0, tm1, tm2, tm4, tm5, tm6, tm7, fr0, fr1, fr2, q7_1, fr4, fr5, fr6, fr7, to0, to1, to2, (to2 + q7_2), to4, to5, to6, to7, O39, f94, htm0, htm1, htm2, hs_q7_1, hfr0, hfr1, hfr2, hs_q7_1⟩)⟩
 refine cN C X10 d7_47 ((flt h47_11).1) ?_
 refine sL C X10 d7_50 ?_
 refine gA C X10 e10 O.Ffroms (ow19 C.w) d7_51 d7_52 fun T41 X41 e41 => ?_
 refine gA C X41 e41 O.Fend (ow55 C.w) d7_55 d7_56 fun T42 X42 e42 => ?_
 refine sC C X42 d7_59 ?_
 refine sS C X42 d7_60 ?_
 refine lA C X42 e42 O.Vf d7_61 ?_
 refine tS C X42 d7_62 ?_
 refine gA C X42 e42 O.Fspans (ow23 C.w) d7_63 d7_64 fun T43 X43 e43 => ?_
 refine sC C X43 d7_67 ?_
 obtain ⟨kq44, VT44⟩ := id SP
 refine lA C X43 e43 VT44 d7_68 ?_
 refine tC C X43 d7_69 ?_
 by_cases h70_45 : (q7_1 - fr2) < (own_m (own_m (own_m oM (tm1 - fr0)) (own_m (tm2 - fr1) oM)) (own_m (own_m oM oM) (own_m oM oM)))
 · refine bN C X43 d7_70 ((if0 _ _).trans (tlt ((lw_lt _ _).mpr h70_45)).2.1) ?_
   refine gA C X43 e43 O.Ftimes (ow17 C.w) d7_73 d7_74 fun T46 X46 e46 => ?_
   refine gA C X46 e46 O.Fend (ow55 C.w) d7_77 d7_78 fun T47 X47 e47 => ?_
   refine sC C X47 d7_81 ?_
   refine sS C X47 d7_82 ?_
   refine sL C X47 d7_83 ?_
   refine sJ C X47 e47 N0 O.grT O.Vt _ d7_84 fun T48 h48 lo48 X48 e48 N48 W48 V48 => ?_
   have O48 := O.setT W48 V48
   refine gA C X48 e48 O48.Ftotals (ow21 C.w) d7_85 d7_86 fun T49 X49 e49 => ?_
   refine gA C X49 e49 O48.Fend (ow55 C.w) d7_89 d7_90 fun T50 X50 e50 => ?_
   refine sC C X50 d7_93 ?_
   refine sS C X50 d7_94 ?_
   show own_Fin p l e _ s m _ below meth c _ T50 (mkF m 95 #[oR a7_0, oJ q7_1, oD, oJ q7_2, oD, oI p7_3, oU, oU, oU] [(.int (2 : Int32)), (.ref rO)])
   refine own_Fin.st (g' := (mkF m 96 #[oR a7_0, oJ q7_1, oD, oJ q7_2, oD, oI p7_3, oU, oU, oU] [(.int (2 : Int32)), (.ref rO), (.int (2 : Int32)), (.ref rO)])) ?_ (fun t k => by jvm_step X50.here [X50.here.top, C.1, C.d d7_95, Value.category]; exact k)
   refine lA C X50 e50 O48.Vo d7_96 ?_
   refine sL C X50 d7_97 ?_
   refine tP C X50 d7_98 ?_
   refine sJ C X50 e50 N48 O48.grO O48.Vo _ d7_99 fun T51 h51 lo51 X51 e51 N51 W51 V51 => ?_
   have O51 := O48.setO W51 V51
   refine gA C X51 e51 O51.Fentries (ow46 C.w) d7_100 d7_101 fun T52 X52 e52 => ?_
   refine gA C X52 e52 O51.Fend (ow55 C.w) d7_104 d7_105 fun T53 X53 e53 => ?_
   refine sC C X53 d7_108 ?_
   refine sS C X53 d7_109 ?_
   refine cV C X53 e53 (rm32_2 l Z a0 C.w rE (1 : Int32) rW kW (7 : Int64) h51 n0 O51.hsz (by decide +kernel) (by decide +kernel) O51.Ee O51.BwordsInUse O51.BsizeIsSticky O51.Bwords O51.Vw O51.St) O51.Ee (W := 0) (ow168 C.w) (ow169 C.w) (ow171 C.w) (ow170 C.w) (ow172 C.w) (ow27 C.w) (argsL := [(.int (1 : Int32))]) (lenOf pd__I_I rfl) d7_110 fun v54 T54 lo54 X54 hQ54 => ?_
   obtain ⟨rfl, Nq54, e54⟩ := hQ54
   rw [show (own_psb (1 : Int32) (7 : Int64)) = (1 : Int32) from by decide +kernel]
   refine wi C X54 #[oR a7_0, oJ q7_1, oD, oJ q7_2, oD, oI p7_3, oI 1, oU, oU] d7_113 ?_
   refine sA C X54 d7_115 ?_
   refine gA C X54 e54 O51.Fend (ow55 C.w) d7_116 d7_117 fun T56 X56 e56 => ?_
   refine sC C X56 d7_120 ?_
   refine sS C X56 d7_121 ?_
   refine si C X56 d7_122 ?_
   refine bY C X56 d7_124 133 ((if0 _ _).trans (flt (by decide : ¬ ((1 : Int32) < (0 : Int32)))).2.1) ?_
   refine sL C X56 d7_133 ?_
   refine gA C X56 e56 O51.Ffroms (ow19 C.w) d7_134 d7_135 fun T57 X57 e57 => ?_
   refine si C X57 d7_138 ?_
   refine lA C X57 e57 O51.Vf d7_140 ?_
   refine tS C X57 d7_141 ?_
   have f58 := ((SP.other W48 (Ne.symm O51.n_rT_rS)).other W51 (Ne.symm O51.n_rO_rS))
   refine cP C X57 e57 (rm23_8_2 l Z a0 C.w a7_0 (q7_1 - fr1) rT kT tm0 tm1 q7_1 tm3 tm4 tm5 tm6 tm7 rS oM (tm1 - fr0) (tm2 - fr1) oM oM oM oM oM h51 n0 O51.hsz O51.Ftimes O51.Vt O51.Fspans f58 O51.grS O51.n_a_rS) O51.Ea (W := 0) (ow126 C.w) (ow127 C.w) (own_selp (x := oy7) rfl (mvT (args := #[]) C.z (ow51 C.w)) (Cond.privateMethod_at (mvP C.z (ow128 C.w) (args := #[]))) (mvT C.z (ow127 C.w)) (by decide)) (ow128 C.w) (ow129 C.w) (ow9 C.w) (argsL := [(.int (2 : Int32)), (.long (q7_1 - fr1))]) (lenOf pd__IJ_V rfl) d7_142 fun v59 T59 lo59 X59 hQ59 => ?_
   obtain ⟨rfl, Nq59, Kc59, Sc59, P59_0⟩ := hQ59
   have O59 := O51.sp Kc59 Sc59
   refine sG C X59 d7_145 348 ?_
   refine rV C X59 rfl hret d7_348 ?_
   exact ⟨rfl, ((N51.app Nq54).app Nq59), Or.inl ⟨rT, rF, rO, rS, rE, rW, kT, kF, kO, kW, fi, bs, tm0, tm1, tm3, tm4, tm5, tm6, tm7, fr0, fr1, fr2, fr3, fr4, fr5, fr6, fr7, to0, to1, (to2 + q7_2), to3, to4, to5, to6, to7, O59, P59_0, htm0, htm1, hs_q7_1, hfr0, hfr1, hfr2⟩⟩
 refine bY C X43 d7_70 148 ((if0 _ _).trans (flt (fun q => h70_45 ((lw_lt _ _).mp q))).2.1) ?_
 refine gA C X43 e43 O.Ftimes (ow17 C.w) d7_148 d7_149 fun T60 X60 e60 => ?_
 refine nA C X60 e60 O.Vt d7_152 ?_
 refine wi C X60 #[oR a7_0, oJ q7_1, oD, oJ q7_2, oD, oI p7_3, oI 8, oU, oU] d7_153 ?_
 refine gA C X60 e60 O.Fend (ow55 C.w) d7_155 d7_156 fun T61 X61 e61 => ?_
 refine si C X61 d7_159 ?_
 refine cN C X61 d7_161 ((feq (by decide : ¬ ((3 : Int32) = (8 : Int32)))).1) ?_
 refine si C X61 d7_164 ?_
 refine sC C X61 d7_166 ?_
 refine cN C X61 d7_167 ((tlt (by decide : (2 : Int32) < (8 : Int32))).2.2.2) ?_
 refine kJ C X61 (ow158 C.w) d7_170 ?_
 refine gA C X61 e61 O.Fsize (ow53 C.w) d7_173 d7_174 fun T62 X62 e62 => ?_
 refine sC C X62 d7_177 ?_
 refine sP C X62 d7_178 ?_
 refine tI C X62 d7_179 ?_
 refine own_Fin.st (g' := (mkF m 181 #[oR a7_0, oJ q7_1, oD, oJ q7_2, oD, oI p7_3, oI 8, oU, oU] [(.long (32 : Int64))])) ?_ (fun t k => XS.lmul X62.here C.1 rfl (C.d d7_180) rfl k)
 refine si C X62 d7_181 ?_
 refine tI C X62 d7_183 ?_
 refine tC C X62 d7_184 ?_
 refine bY C X62 d7_185 209 ((if0 _ _).trans (tlt ((lw_gt _ _).mpr (by decide : (8 : Int64) < (32 : Int64)))).2.2.1) ?_
 refine gA C X62 e62 O.Fsize (ow53 C.w) d7_209 d7_210 fun T63 X63 e63 => ?_
 refine bN C X63 d7_213 ((if0 _ _).trans (tlt (by decide : (0 : Int32) < (3 : Int32))).2.2.2) ?_
 refine gA C X63 e63 O.Ftotals (ow21 C.w) d7_216 d7_217 fun T64 X64 e64 => ?_
 refine gA C X64 e64 O.Fend (ow55 C.w) d7_220 d7_221 fun T65 X65 e65 => ?_
 refine sC C X65 d7_224 ?_
 refine sS C X65 d7_225 ?_
 refine lA C X65 e65 O.Vo d7_226 ?_
 refine sG C X65 d7_227 234 ?_
 refine wl C X65 #[oR a7_0, oJ q7_1, oD, oJ q7_2, oD, oI p7_3, oI 8, oJ to2, oD] d7_234 ?_
 refine gA C X65 e65 O.Ftimes (ow17 C.w) d7_236 d7_237 fun T66 X66 e66 => ?_
 refine gA C X66 e66 O.Fend (ow55 C.w) d7_240 d7_241 fun T67 X67 e67 => ?_
 refine sL C X67 d7_244 ?_
 refine sJ C X67 e67 N0 O.grT O.Vt _ d7_245 fun T68 h68 lo68 X68 e68 N68 W68 V68 => ?_
 have O68 := O.setT W68 V68
 refine gA C X68 e68 O68.Ffroms (ow19 C.w) d7_246 d7_247 fun T69 X69 e69 => ?_
 refine gA C X69 e69 O68.Fend (ow55 C.w) d7_250 d7_251 fun T70 X70 e70 => ?_
 refine sL C X70 d7_254 ?_
 refine sJ C X70 e70 N68 O68.grF O68.Vf _ d7_255 fun T71 h71 lo71 X71 e71 N71 W71 V71 => ?_
 have O71 := O68.setF W71 V71
 refine gA C X71 e71 O71.Ftotals (ow21 C.w) d7_256 d7_257 fun T72 X72 e72 => ?_
 refine gA C X72 e72 O71.Fend (ow55 C.w) d7_260 d7_261 fun T73 X73 e73 => ?_
 refine sl C X73 d7_264 ?_
 refine sL C X73 d7_266 ?_
 refine tP C X73 d7_267 ?_
 refine sJ C X73 e73 N71 O71.grO O71.Vo _ d7_268 fun T74 h74 lo74 X74 e74 N74 W74 V74 => ?_
 have O74 := O71.setO W74 V74
 refine gA C X74 e74 O74.Fentries (ow46 C.w) d7_269 d7_270 fun T75 X75 e75 => ?_
 refine gA C X75 e75 O74.Fend (ow55 C.w) d7_273 d7_274 fun T76 X76 e76 => ?_
 refine cV C X76 e76 (rm20_2 l Z a0 C.w rE (3 : Int32) rW kW (7 : Int64) h74 n0 O74.hsz (by decide +kernel) (by decide +kernel) O74.Ee O74.BwordsInUse O74.BsizeIsSticky O74.Bwords O74.Vw O74.grW O74.St) O74.Ee (W := 0) (ow111 C.w) (ow112 C.w) (ow114 C.w) (ow113 C.w) (ow115 C.w) (ow27 C.w) (argsL := [(.int (3 : Int32))]) (lenOf pd__I_V rfl) d7_277 fun v77 T77 lo77 X77 hQ77 => ?_
 obtain ⟨rfl, Nq77, Kc77, Sc77, P77_0⟩ := hQ77
 rw [show ((7 : Int64) ||| ((1 : Int64) <<< ((3 : Int32) &&& 0x3f).toInt64)) = (15 : Int64) from by decide +kernel] at P77_0
 have O77 := O74.bit1 Kc77 Sc77 P77_0
 refine sA C X77 d7_280 ?_
 refine gA C X77 rfl O77.Fend (ow55 C.w) d7_281 d7_282 fun T78 X78 e78 => ?_
 refine gA C X78 e78 O77.Fsize (ow53 C.w) d7_285 d7_286 fun T79 X79 e79 => ?_
 refine bN C X79 d7_289 ((if0 _ _).trans (tlt (by decide : (0 : Int32) < (3 : Int32))).2.2.2) ?_
 refine sL C X79 d7_292 ?_
 refine gA C X79 e79 O77.Ffroms (ow19 C.w) d7_293 d7_294 fun T80 X80 e80 => ?_
 refine gA C X80 e80 O77.Fend (ow55 C.w) d7_297 d7_298 fun T81 X81 e81 => ?_
 refine sC C X81 d7_301 ?_
 refine sS C X81 d7_302 ?_
 refine lA C X81 e81 O77.Vf d7_303 ?_
 refine tS C X81 d7_304 ?_
 refine sG C X81 d7_305 311 ?_
 have f82 := ((((SP.other W68 (Ne.symm O77.n_rT_rS)).other W71 (Ne.symm O77.n_rF_rS)).other W74 (Ne.symm O77.n_rO_rS)).keep Kc77 (ninS O77.n_rS_rW nin0))
 refine cP C X81 e81 (rm23_8_3 l Z a0 C.w a7_0 (q7_1 - fr2) rT kT tm0 tm1 tm2 q7_1 tm4 tm5 tm6 tm7 rS oM (tm1 - fr0) (tm2 - fr1) oM oM oM oM oM T77.heap n0 O77.hsz O77.Ftimes O77.Vt O77.Fspans f82 O77.grS O77.n_a_rS) O77.Ea (W := 0) (ow126 C.w) (ow127 C.w) (own_selp (x := oy7) rfl (mvT (args := #[]) C.z (ow51 C.w)) (Cond.privateMethod_at (mvP C.z (ow128 C.w) (args := #[]))) (mvT C.z (ow127 C.w)) (by decide)) (ow128 C.w) (ow129 C.w) (ow9 C.w) (argsL := [(.int (3 : Int32)), (.long (q7_1 - fr2))]) (lenOf pd__IJ_V rfl) d7_311 fun v83 T83 lo83 X83 hQ83 => ?_
 obtain ⟨rfl, Nq83, Kc83, Sc83, P83_0⟩ := hQ83
 have O83 := O77.sp Kc83 Sc83
 refine sA C X83 d7_314 ?_
 refine sD C X83 d7_315 ?_
 refine gF C X83 rfl O83.Fend (ow55 C.w) d7_316 fun T84 X84 e84 => ?_
 refine sC C X84 d7_319 ?_
 refine sP C X84 d7_320 ?_
 refine pF C X84 e84 ((N74.app Nq77).app Nq83) O83.ga O83.Fend O83.Ea (ty := .int) (ow55 C.w) (ow56 C.w) (ow8 C.w) (by decide) d7_321 fun T85 h85 lo85 X85 e85 N85 W85 F85 => ?_
 have O85 := own_Obj.put_end hw O83 W85 F85
 refine sA C X85 d7_324 ?_
 refine sD C X85 d7_325 ?_
 refine gF C X85 e85 O85.Fsize (ow53 C.w) d7_326 fun T86 X86 e86 => ?_
 refine sC C X86 d7_329 ?_
 refine sP C X86 d7_330 ?_
 refine pF C X86 e86 N85 O85.ga O85.Fsize O85.Ea (ty := .int) (ow53 C.w) (ow54 C.w) (ow8 C.w) (by decide) d7_331 fun T87 h87 lo87 X87 e87 N87 W87 F87 => ?_
 have O87 := own_Obj.put_size hw O85 W87 F87
 refine gA C X87 e87 O87.Fsize (ow53 C.w) d7_334 d7_335 fun T88 X88 e88 => ?_
 refine si C X88 d7_338 ?_
 refine cN C X88 d7_340 ((tlt (own_igt (3 : Int32) (4 : Int32) h47_11 (by decide))).2.2.2) ?_
 refine sA C X88 d7_343 ?_
 have f89 := ((P83_0.other W85 (Ne.symm O87.n_a_rS)).other W87 (Ne.symm O87.n_a_rS))
 refine cV C X88 e88 (rm30_8_15 l Z a0 C.w a7_0 rT rF rO rS rE rW kT kF kO kW fi (4 : Int32) (4 : Int32) bs tm0 tm1 tm2 q7_1 tm4 tm5 tm6 tm7 fr0 fr1 fr2 q7_1 fr4 fr5 fr6 fr7 to0 to1 to2 (to2 + q7_2) to4 to5 to6 to7 T h87 n0 O87.hsz O87 f89 htm0 htm1 htm2 hs_q7_1 hfr0 hfr1 hfr2 hs_q7_1 (by decide)) O87.Ea (W := 0) (ow177 C.w) (ow160 C.w) (ow162 C.w) (ow161 C.w) (ow163 C.w) (ow9 C.w) (argsL := []) (lenOf pd___Z rfl) d7_344 fun v90 T90 lo90 X90 hQ90 => ?_
 obtain ⟨rfl, Nq90, J90⟩ := hQ90
 rcases J90 with ⟨hk90_0, O90_0, SP90_0⟩ | ⟨hk90_1, O90_1, SP90_1⟩ | ⟨hk90_2, O90_2, SP90_2⟩
 · have own_t91 : True := trivial
   rw [show ((4 : Int32) - (1 : Int32)) = (3 : Int32) from by decide] at O90_0
   refine sO C X90 d7_347 ?_
   refine rV C X90 rfl hret d7_348 ?_
   exact ⟨rfl, (N87.app Nq90), Or.inr (Or.inr (Or.inl ⟨rT, rF, rO, rS, rE, rW, kT, kF, kO, kW, fi, bs, tm0, tm1, tm2, tm4, tm5, tm6, tm7, fr0, fr0, fr2, q7_1, fr4, fr5, fr6, fr7, to0, to1, to2, (to2 + q7_2), to4, to5, to6, to7, O90_0, SP90_0, htm1, htm2, hs_q7_1, hfr0, hfr2, hs_q7_1⟩))⟩
 · have own_t92 : True := trivial
   rw [show ((4 : Int32) - (1 : Int32)) = (3 : Int32) from by decide] at O90_1
   refine sO C X90 d7_347 ?_
   refine rV C X90 rfl hret d7_348 ?_
   exact ⟨rfl, (N87.app Nq90), Or.inr (Or.inr (Or.inr (⟨rT, rF, rO, rS, rE, rW, kT, kF, kO, kW, fi, bs, tm0, tm1, tm2, tm4, tm5, tm6, tm7, fr0, fr1, fr1, q7_1, fr4, fr5, fr6, fr7, to0, to1, to2, (to2 + q7_2), to4, to5, to6, to7, O90_1, SP90_1, htm0, htm2, hs_q7_1, hfr0, hfr1, hs_q7_1⟩)))⟩
 exact absurd hk90_2 (own_shn_8_15_8 (tm1 - fr0) (tm2 - fr1) (q7_1 - fr2) (own_nlt htm1 hfr0) (own_nlt htm2 hfr1) (own_nlt hs_q7_1 hfr2) h70_45)
theorem own_shl_8_14 (x2 : Int64) (x3 : Int64) (h2 : x2 < oM) (h3 : x3 < oM) : (own_sh8 oM oM x2 x3 oM oM oM oM) = (2 : Int32) ∨ (own_sh8 oM oM x2 x3 oM oM oM oM) = (3 : Int32) := by
 unfold own_sh8
 rw [if_neg (own_nM (R := (own_m (own_m oM oM) (own_m oM oM))) (x := (own_m (own_m oM oM) (own_m x2 x3))) (by decide +kernel))]
 rw [if_pos (own_ltM (R := (own_m x2 x3)) (L := (own_m oM oM)) (by decide +kernel) (own_ml h2))]
 by_cases p5 : x3 < x2
 · rw [if_pos p5]
   first | done | decide
 · rw [if_neg p5]
   first | done | decide
def Q_rm30_8_14 (Z : State) (a30_0 : Addr) (rT : Addr) (rF : Addr) (rO : Addr) (rS : Addr) (rE : Addr) (rW : Addr) (kT : ClassId) (kF : ClassId) (kO : ClassId) (kW : ClassId) (fi : Int32) (en : Int32) (sz : Int32) (bs : Int64) (tm0 : Int64) (tm1 : Int64) (tm2 : Int64) (tm3 : Int64) (tm4 : Int64) (tm5 : Int64) (tm6 : Int64) (tm7 : Int64) (fr0 : Int64) (fr1 : Int64) (fr2 : Int64) (fr3 : Int64) (fr4 : Int64) (fr5 : Int64) (fr6 : Int64) (fr7 : Int64) (to0 : Int64) (to1 : Int64) (to2 : Int64) (to3 : Int64) (to4 : Int64) (to5 : Int64) (to6 : Int64) (to7 : Int64) (T : Int64) (h0 : Heap) (n0 : Nat) (v : Option Value) (h : Heap) (L : List Loc) : Prop := v = some (.int (1 : Int32)) ∧ Fr n0 L ∧ (((own_sh8 oM oM (tm2 - fr1) (tm3 - fr2) oM oM oM oM) = (2 : Int32) ∧ own_Obj Z h n0 a30_0 rT rF rO rS rE rW kT kF kO kW fi en (sz - (1 : Int32)) bs (1 : Int32) (1 : Int32) (12 : Int64) (8 : Int32) [(.long tm0), (.long tm1), (.long tm2), (.long tm3), (.long tm4), (.long tm5), (.long tm6), (.long tm7)] [(.long fr0), (.long fr1), (.long fr1), (.long fr3), (.long fr4), (.long fr5), (.long fr6), (.long fr7)] [(.long to0), (.long to1), (.long to2), (.long to3), (.long to4), (.long to5), (.long to6), (.long to7)] ∧ own_Sp8 Z h rS oM oM oM (tm3 - fr1) oM oM oM oM) ∨ ((own_sh8 oM oM (tm2 - fr1) (tm3 - fr2) oM oM oM oM) = (3 : Int32) ∧ own_Obj Z h n0 a30_0 rT rF rO rS rE rW kT kF kO kW fi en (sz - (1 : Int32)) bs (1 : Int32) (1 : Int32) (10 : Int64) (8 : Int32) [(.long tm0), (.long tm1), (.long tm2), (.long tm3), (.long tm4), (.long tm5), (.long tm6), (.long tm7)] [(.long fr0), (.long fr1), (.long fr2), (.long fr2), (.long fr4), (.long fr5), (.long fr6), (.long fr7)] [(.long to0), (.long to1), (.long to2), (.long to3), (.long to4), (.long to5), (.long to6), (.long to7)] ∧ own_Sp8 Z h rS oM oM oM (tm3 - fr1) oM oM oM oM))
theorem rm30_8_14 (l : Launch) (Z : State) (a0 : Array Value) (hw : own_T Z a0) (a30_0 rT rF rO rS rE rW : Addr) (kT kF kO kW : ClassId) (fi en sz : Int32) (bs tm0 tm1 tm2 tm3 tm4 tm5 tm6 tm7 fr0 fr1 fr2 fr3 fr4 fr5 fr6 fr7 to0 to1 to2 to3 to4 to5 to6 to7 T : Int64) (h0 : Heap) (n0 : Nat) (Z0 : n0 ≤ h0.size) (O : own_Obj Z h0 n0 a30_0 rT rF rO rS rE rW kT kF kO kW fi en sz bs (1 : Int32) (1 : Int32) (14 : Int64) (8 : Int32) [(.long tm0), (.long tm1), (.long tm2), (.long tm3), (.long tm4), (.long tm5), (.long tm6), (.long tm7)] [(.long fr0), (.long fr1), (.long fr2), (.long fr3), (.long fr4), (.long fr5), (.long fr6), (.long fr7)] [(.long to0), (.long to1), (.long to2), (.long to3), (.long to4), (.long to5), (.long to6), (.long to7)]) (SP : own_Sp8 Z h0 rS oM oM (tm2 - fr1) (tm3 - fr2) oM oM oM oM) (htm1 : own_near T tm1) (htm2 : own_near T tm2) (htm3 : own_near T tm3) (hfr1 : own_near T fr1) (hfr2 : own_near T fr2) (hfr3 : own_near T fr3) (hsz : (1 : Int32) < sz) :
   own_Met l oy30 oc30 6 (some .boolean) ({ frames := 5, cells := 0, slots := 0, locals := 120 } : Room) Z h0 #[(.ref a30_0)] (Q_rm30_8_14 Z a30_0 rT rF rO rS rE rW kT kF kO kW fi en sz bs tm0 tm1 tm2 tm3 tm4 tm5 tm6 tm7 fr0 fr1 fr2 fr3 fr4 fr5 fr6 fr7 to0 to1 to2 to3 to4 to5 to6 to7 T h0 n0) := by
 refine own_go hw (plainFor_of_name pn_30) (fun m => ef_rm30_8_7 m a30_0) fun p e s m below meth c T0 C hret X0 e0 => ?_
 have N0 := Fr.nil n0
 refine gA C X0 e0 O.Fsize (ow53 C.w) d30_0 d30_1 fun T1 X1 e1 => ?_
 refine sC C X1 d30_4 ?_
 refine cN C X1 d30_5 ((tlt hsz).2.2.2) ?_
 refine sC C X1 d30_8 ?_
 refine sG C X1 d30_9 13 ?_
 refine wI C X1 #[oR a30_0, oI 1, oU, oU, oU, oU] d30_13 ?_
 refine sI C X1 d30_14 ?_
 refine bN C X1 d30_15 ((if0 _ _).trans (feq (by decide : ¬ ((1 : Int32) = (0 : Int32)))).1) ?_
 refine sA C X1 d30_18 ?_
 refine cP C X1 e1 (rm31_8 l Z a0 C.w a30_0 rT kT tm0 tm1 tm2 tm3 tm4 tm5 tm6 tm7 rS oM oM (tm2 - fr1) (tm3 - fr2) oM oM oM oM h0 n0 O.hsz O.Ftimes O.Vt O.Fspans SP) O.Ea (W := 0) (ow164 C.w) (ow165 C.w) (own_selp (x := oy7) rfl (mvT (args := #[]) C.z (ow51 C.w)) (Cond.privateMethod_at (mvP C.z (ow166 C.w) (args := #[]))) (mvT C.z (ow165 C.w)) (by decide)) (ow166 C.w) (ow167 C.w) (ow9 C.w) (argsL := []) (lenOf pd___I rfl) d30_19 fun v2 T2 lo2 X2 hQ2 => ?_
 obtain ⟨rfl, Nq2, e2⟩ := hQ2
 obtain ⟨x3, hx3⟩ : ∃ z : Int32, z = (own_sh8 oM oM (tm2 - fr1) (tm3 - fr2) oM oM oM oM) := ⟨_, rfl⟩
 rw [← hx3]
 have hdx3 : x3 = (2 : Int32) ∨ x3 = (3 : Int32) := by rw [hx3]; exact (own_shl_8_14 (tm2 - fr1) (tm3 - fr2) (own_nlt htm2 hfr1) (own_nlt htm3 hfr2))
 rcases hdx3 with hc4 | hc5
 · rw [hc4]
   refine wI C X2 #[oR a30_0, oI 1, oI 2, oU, oU, oU] d30_22 ?_
   refine gA C X2 e2 O.Fentries (ow46 C.w) d30_23 d30_24 fun T6 X6 e6 => ?_
   refine sI C X6 d30_27 ?_
   refine sC C X6 d30_28 ?_
   refine sS C X6 d30_29 ?_
   refine cV C X6 e6 (rm32_2 l Z a0 C.w rE (1 : Int32) rW kW (14 : Int64) h0 n0 O.hsz (by decide +kernel) (by decide +kernel) O.Ee O.BwordsInUse O.BsizeIsSticky O.Bwords O.Vw O.St) O.Ee (W := 0) (ow168 C.w) (ow169 C.w) (ow171 C.w) (ow170 C.w) (ow172 C.w) (ow27 C.w) (argsL := [(.int (1 : Int32))]) (lenOf pd__I_I rfl) d30_30 fun v7 T7 lo7 X7 hQ7 => ?_
   obtain ⟨rfl, Nq7, e7⟩ := hQ7
   rw [show (own_psb (1 : Int32) (14 : Int64)) = (1 : Int32) from by decide +kernel]
   refine wI C X7 #[oR a30_0, oI 1, oI 2, oI 1, oU, oU] d30_33 ?_
   refine gA C X7 e7 O.Fentries (ow46 C.w) d30_34 d30_35 fun T9 X9 e9 => ?_
   refine sI C X9 d30_38 ?_
   refine cV C X9 e9 (rm28_1 l Z a0 C.w rE (1 : Int32) rW kW (14 : Int64) h0 n0 O.hsz (by decide +kernel) (by decide +kernel) O.Ee O.BwordsInUse O.BsizeIsSticky O.Bwords O.Vw O.grW O.n_rE_rW O.grE O.St) O.Ee (W := 0) (ow148 C.w) (ow149 C.w) (ow151 C.w) (ow150 C.w) (ow152 C.w) (ow27 C.w) (argsL := [(.int (1 : Int32))]) (lenOf pd__I_V rfl) d30_39 fun v10 T10 lo10 X10 hQ10 => ?_
   obtain ⟨rfl, Nq10, Kc10, Sc10, P10_0, P10_1, P10_2, P10_3, P10_4⟩ := hQ10
   rw [show ((14 : Int64) &&& (((1 : Int64) <<< ((1 : Int32) &&& 0x3f).toInt64) ^^^ (-1 : Int64))) = (12 : Int64) from by decide +kernel] at P10_0
   rw [show (if ((14 : Int64) &&& (((1 : Int64) <<< ((1 : Int32) &&& 0x3f).toInt64) ^^^ (-1 : Int64))) = (0 : Int64) then (0 : Int32) else (1 : Int32)) = (1 : Int32) from by decide +kernel] at P10_2
   have O10 := O.bits2 Kc10 Sc10 P10_1 P10_2 P10_3 P10_4 P10_0
   refine sA C X10 d30_42 ?_
   refine sD C X10 d30_43 ?_
   refine gF C X10 rfl O10.Fsize (ow53 C.w) d30_44 fun T11 X11 e11 => ?_
   refine sC C X11 d30_47 ?_
   refine sS C X11 d30_48 ?_
   refine pF C X11 e11 (((N0.app Nq2).app Nq7).app Nq10) O10.ga O10.Fsize O10.Ea (ty := .int) (ow53 C.w) (ow54 C.w) (ow8 C.w) (by decide) d30_49 fun T12 h12 lo12 X12 e12 N12 W12 F12 => ?_
   have O12 := own_Obj.put_size hw O10 W12 F12
   refine sA C X12 d30_52 ?_
   refine sI C X12 d30_53 ?_
   refine kJ C X12 (ow98 C.w) d30_54 ?_
   have f13 := ((SP.keep Kc10 (ninS O12.n_rS_rW (ninS O12.n_rS_rE nin0))).other W12 (Ne.symm O12.n_a_rS))
   refine cP C X12 e12 (rm23_8_1 l Z a0 C.w a30_0 oM rT kT tm0 tm1 tm2 tm3 tm4 tm5 tm6 tm7 rS oM oM (tm2 - fr1) (tm3 - fr2) oM oM oM oM h12 n0 O12.hsz O12.Ftimes O12.Vt O12.Fspans f13 O12.grS O12.n_a_rS) O12.Ea (W := 0) (ow126 C.w) (ow127 C.w) (own_selp (x := oy7) rfl (mvT (args := #[]) C.z (ow51 C.w)) (Cond.privateMethod_at (mvP C.z (ow128 C.w) (args := #[]))) (mvT C.z (ow127 C.w)) (by decide)) (ow128 C.w) (ow129 C.w) (ow9 C.w) (argsL := [(.int (1 : Int32)), (.long oM)]) (lenOf pd__IJ_V rfl) d30_57 fun v14 T14 lo14 X14 hQ14 => ?_
   obtain ⟨rfl, Nq14, Kc14, Sc14, P14_0⟩ := hQ14
   have O14 := O12.sp Kc14 Sc14
   refine gA C X14 rfl O14.Ffroms (ow19 C.w) d30_60 d30_61 fun T15 X15 e15 => ?_
   refine sI C X15 d30_64 ?_
   refine gA C X15 e15 O14.Ffroms (ow19 C.w) d30_65 d30_66 fun T16 X16 e16 => ?_
   refine sI C X16 d30_69 ?_
   refine lA C X16 e16 O14.Vf d30_70 ?_
   refine sJ C X16 e16 (N12.app Nq14) O14.grF O14.Vf _ d30_71 fun T17 h17 lo17 X17 e17 N17 W17 V17 => ?_
   have O17 := O14.setF W17 V17
   refine gA C X17 e17 O17.Fentries (ow46 C.w) d30_72 d30_73 fun T18 X18 e18 => ?_
   refine sI C X18 d30_76 ?_
   refine sC C X18 d30_77 ?_
   refine sS C X18 d30_78 ?_
   refine cV C X18 e18 (rm32_2 l Z a0 C.w rE (0 : Int32) rW kW (12 : Int64) h17 n0 O17.hsz (by decide +kernel) (by decide +kernel) O17.Ee O17.BwordsInUse O17.BsizeIsSticky O17.Bwords O17.Vw O17.St) O17.Ee (W := 0) (ow168 C.w) (ow169 C.w) (ow171 C.w) (ow170 C.w) (ow172 C.w) (ow27 C.w) (argsL := [(.int (0 : Int32))]) (lenOf pd__I_I rfl) d30_79 fun v19 T19 lo19 X19 hQ19 => ?_
   obtain ⟨rfl, Nq19, e19⟩ := hQ19
   rw [show (own_psb (0 : Int32) (12 : Int64)) = (-1 : Int32) from by decide +kernel]
   refine wi C X19 #[oR a30_0, oI 1, oI 2, oI 1, oI (-1), oU] d30_82 ?_
   refine sA C X19 d30_84 ?_
   refine sI C X19 d30_85 ?_
   refine si C X19 d30_86 ?_
   refine bN C X19 d30_88 ((if0 _ _).trans (tlt (by decide : (-1 : Int32) < (0 : Int32))).2.1) ?_
   refine kJ C X19 (ow98 C.w) d30_91 ?_
   refine sG C X19 d30_94 111 ?_
   have f21 := (P14_0.other W17 (Ne.symm O17.n_rF_rS))
   refine cP C X19 e19 (rm23_8_2 l Z a0 C.w a30_0 oM rT kT tm0 tm1 tm2 tm3 tm4 tm5 tm6 tm7 rS oM oM (tm2 - fr1) (tm3 - fr2) oM oM oM oM h17 n0 O17.hsz O17.Ftimes O17.Vt O17.Fspans f21 O17.grS O17.n_a_rS) O17.Ea (W := 0) (ow126 C.w) (ow127 C.w) (own_selp (x := oy7) rfl (mvT (args := #[]) C.z (ow51 C.w)) (Cond.privateMethod_at (mvP C.z (ow128 C.w) (args := #[]))) (mvT C.z (ow127 C.w)) (by decide)) (ow128 C.w) (ow129 C.w) (ow9 C.w) (argsL := [(.int (2 : Int32)), (.long oM)]) (lenOf pd__IJ_V rfl) d30_111 fun v22 T22 lo22 X22 hQ22 => ?_
   obtain ⟨rfl, Nq22, Kc22, Sc22, P22_0⟩ := hQ22
   have O22 := O17.sp Kc22 Sc22
   refine gA C X22 rfl O22.Fentries (ow46 C.w) d30_114 d30_115 fun T23 X23 e23 => ?_
   refine sI C X23 d30_118 ?_
   refine sC C X23 d30_119 ?_
   refine sP C X23 d30_120 ?_
   refine cV C X23 e23 (rm12_2 l Z a0 C.w rE (3 : Int32) rW kW (12 : Int64) T22.heap n0 O22.hsz (by decide +kernel) (by decide +kernel) O22.Ee O22.BwordsInUse O22.BsizeIsSticky O22.Bwords O22.Vw O22.St) O22.Ee (W := 0) (ow76 C.w) (ow77 C.w) (ow79 C.w) (ow78 C.w) (ow80 C.w) (ow27 C.w) (argsL := [(.int (3 : Int32))]) (lenOf pd__I_I rfl) d30_121 fun v24 T24 lo24 X24 hQ24 => ?_
   obtain ⟨rfl, Nq24, e24⟩ := hQ24
   rw [show (own_nsb (3 : Int32) (12 : Int64)) = (3 : Int32) from by decide +kernel]
   refine wi C X24 #[oR a30_0, oI 1, oI 2, oI 1, oI (-1), oI 3] d30_124 ?_
   refine si C X24 d30_126 ?_
   refine bN C X24 d30_128 ((if0 _ _).trans (flt (by decide : ¬ ((3 : Int32) < (0 : Int32)))).1) ?_
   refine sA C X24 d30_131 ?_
   refine si C X24 d30_132 ?_
   refine gA C X24 e24 O22.Ftimes (ow17 C.w) d30_134 d30_135 fun T26 X26 e26 => ?_
   refine si C X26 d30_138 ?_
   refine lA C X26 e26 O22.Vt d30_140 ?_
   refine gA C X26 e26 O22.Ffroms (ow19 C.w) d30_141 d30_142 fun T27 X27 e27 => ?_
   refine sI C X27 d30_145 ?_
   refine lA C X27 e27 O22.Vf d30_146 ?_
   refine tS C X27 d30_147 ?_
   refine cP C X27 e27 (rm23_8_3 l Z a0 C.w a30_0 (tm3 - fr1) rT kT tm0 tm1 tm2 tm3 tm4 tm5 tm6 tm7 rS oM oM oM (tm3 - fr2) oM oM oM oM T22.heap n0 O22.hsz O22.Ftimes O22.Vt O22.Fspans P22_0 O22.grS O22.n_a_rS) O22.Ea (W := 0) (ow126 C.w) (ow127 C.w) (own_selp (x := oy7) rfl (mvT (args := #[]) C.z (ow51 C.w)) (Cond.privateMethod_at (mvP C.z (ow128 C.w) (args := #[]))) (mvT C.z (ow127 C.w)) (by decide)) (ow128 C.w) (ow129 C.w) (ow9 C.w) (argsL := [(.int (3 : Int32)), (.long (tm3 - fr1))]) (lenOf pd__IJ_V rfl) d30_148 fun v28 T28 lo28 X28 hQ28 => ?_
   obtain ⟨rfl, Nq28, Kc28, Sc28, P28_0⟩ := hQ28
   have O28 := O22.sp Kc28 Sc28
   refine sI C X28 d30_151 ?_
   refine rZ C X28 rfl hret d30_152 ?_
   exact ⟨rfl, ((((N17.app Nq19).app Nq22).app Nq24).app Nq28), Or.inl ⟨hx3 ▸ hc4, O28, P28_0⟩⟩
 rw [hc5]
 refine wI C X2 #[oR a30_0, oI 1, oI 3, oU, oU, oU] d30_22 ?_
 refine gA C X2 e2 O.Fentries (ow46 C.w) d30_23 d30_24 fun T29 X29 e29 => ?_
 refine sI C X29 d30_27 ?_
 refine sC C X29 d30_28 ?_
 refine sS C X29 d30_29 ?_
 refine cV C X29 e29 (rm32_2 l Z a0 C.w rE (2 : Int32) rW kW (14 : Int64) h0 n0 O.hsz (by decide +kernel) (by decide +kernel) O.Ee O.BwordsInUse O.BsizeIsSticky O.Bwords O.Vw O.St) O.Ee (W := 0) (ow168 C.w) (ow169 C.w) (ow171 C.w) (ow170 C.w) (ow172 C.w) (ow27 C.w) (argsL := [(.int (2 : Int32))]) (lenOf pd__I_I rfl) d30_30 fun v30 T30 lo30 X30 hQ30 => ?_
 obtain ⟨rfl, Nq30, e30⟩ := hQ30
 rw [show (own_psb (2 : Int32) (14 : Int64)) = (2 : Int32) from by decide +kernel]
 refine wI C X30 #[oR a30_0, oI 1, oI 3, oI 2, oU, oU] d30_33 ?_
 refine gA C X30 e30 O.Fentries (ow46 C.w) d30_34 d30_35 fun T32 X32 e32 => ?_
 refine sI C X32 d30_38 ?_
 refine cV C X32 e32 (rm28_1 l Z a0 C.w rE (2 : Int32) rW kW (14 : Int64) h0 n0 O.hsz (by decide +kernel) (by decide +kernel) O.Ee O.BwordsInUse O.BsizeIsSticky O.Bwords O.Vw O.grW O.n_rE_rW O.grE O.St) O.Ee (W := 0) (ow148 C.w) (ow149 C.w) (ow151 C.w) (ow150 C.w) (ow152 C.w) (ow27 C.w) (argsL := [(.int (2 : Int32))]) (lenOf pd__I_V rfl) d30_39 fun v33 T33 lo33 X33 hQ33 => ?_
 obtain ⟨rfl, Nq33, Kc33, Sc33, P33_0, P33_1, P33_2, P33_3, P33_4⟩ := hQ33
 rw [show ((14 : Int64) &&& (((1 : Int64) <<< ((2 : Int32) &&& 0x3f).toInt64) ^^^ (-1 : Int64))) = (10 : Int64) from by decide +kernel] at P33_0
 rw [show (if ((14 : Int64) &&& (((1 : Int64) <<< ((2 : Int32) &&& 0x3f).toInt64) ^^^ (-1 : Int64))) = (0 : Int64) then (0 : Int32) else (1 : Int32)) = (1 : Int32) from by decide +kernel] at P33_2
 have O33 := O.bits2 Kc33 Sc33 P33_1 P33_2 P33_3 P33_4 P33_0
 refine sA C X33 d30_42 ?_
 refine sD C X33 d30_43 ?_
 refine gF C X33 rfl O33.Fsize (ow53 C.w) d30_44 fun T34 X34 e34 => ?_
 refine sC C X34 d30_47 ?_
 refine sS C X34 d30_48 ?_
 refine pF C X34 e34 (((N0.app Nq2).app Nq30).app Nq33) O33.ga O33.Fsize O33.Ea (ty := .int) (ow53 C.w) (ow54 C.w) (ow8 C.w) (by decide) d30_49 fun T35 h35 lo35 X35 e35 N35 W35 F35 => ?_
 have O35 := own_Obj.put_size hw O33 W35 F35
 refine sA C X35 d30_52 ?_
 refine sI C X35 d30_53 ?_
 refine kJ C X35 (ow98 C.w) d30_54 ?_
 have f36 := ((SP.keep Kc33 (ninS O35.n_rS_rW (ninS O35.n_rS_rE nin0))).other W35 (Ne.symm O35.n_a_rS))
 refine cP C X35 e35 (rm23_8_2 l Z a0 C.w a30_0 oM rT kT tm0 tm1 tm2 tm3 tm4 tm5 tm6 tm7 rS oM oM (tm2 - fr1) (tm3 - fr2) oM oM oM oM h35 n0 O35.hsz O35.Ftimes O35.Vt O35.Fspans f36 O35.grS O35.n_a_rS) O35.Ea (W := 0) (ow126 C.w) (ow127 C.w) (own_selp (x := oy7) rfl (mvT (args := #[]) C.z (ow51 C.w)) (Cond.privateMethod_at (mvP C.z (ow128 C.w) (args := #[]))) (mvT C.z (ow127 C.w)) (by decide)) (ow128 C.w) (ow129 C.w) (ow9 C.w) (argsL := [(.int (2 : Int32)), (.long oM)]) (lenOf pd__IJ_V rfl) d30_57 fun v37 T37 lo37 X37 hQ37 => ?_
 obtain ⟨rfl, Nq37, Kc37, Sc37, P37_0⟩ := hQ37
 have O37 := O35.sp Kc37 Sc37
 refine gA C X37 rfl O37.Ffroms (ow19 C.w) d30_60 d30_61 fun T38 X38 e38 => ?_
 refine sI C X38 d30_64 ?_
 refine gA C X38 e38 O37.Ffroms (ow19 C.w) d30_65 d30_66 fun T39 X39 e39 => ?_
 refine sI C X39 d30_69 ?_
 refine lA C X39 e39 O37.Vf d30_70 ?_
 refine sJ C X39 e39 (N35.app Nq37) O37.grF O37.Vf _ d30_71 fun T40 h40 lo40 X40 e40 N40 W40 V40 => ?_
 have O40 := O37.setF W40 V40
 refine gA C X40 e40 O40.Fentries (ow46 C.w) d30_72 d30_73 fun T41 X41 e41 => ?_
 refine sI C X41 d30_76 ?_
 refine sC C X41 d30_77 ?_
 refine sS C X41 d30_78 ?_
 refine cV C X41 e41 (rm32_2 l Z a0 C.w rE (1 : Int32) rW kW (10 : Int64) h40 n0 O40.hsz (by decide +kernel) (by decide +kernel) O40.Ee O40.BwordsInUse O40.BsizeIsSticky O40.Bwords O40.Vw O40.St) O40.Ee (W := 0) (ow168 C.w) (ow169 C.w) (ow171 C.w) (ow170 C.w) (ow172 C.w) (ow27 C.w) (argsL := [(.int (1 : Int32))]) (lenOf pd__I_I rfl) d30_79 fun v42 T42 lo42 X42 hQ42 => ?_
 obtain ⟨rfl, Nq42, e42⟩ := hQ42
 rw [show (own_psb (1 : Int32) (10 : Int64)) = (1 : Int32) from by decide +kernel]
 refine wi C X42 #[oR a30_0, oI 1, oI 3, oI 2, oI 1, oU] d30_82 ?_
 refine sA C X42 d30_84 ?_
 refine sI C X42 d30_85 ?_
 refine si C X42 d30_86 ?_
 refine bY C X42 d30_88 97 ((if0 _ _).trans (flt (by decide : ¬ ((1 : Int32) < (0 : Int32)))).2.1) ?_
 refine gA C X42 e42 O40.Ftimes (ow17 C.w) d30_97 d30_98 fun T44 X44 e44 => ?_
 refine sI C X44 d30_101 ?_
 refine lA C X44 e44 O40.Vt d30_102 ?_
 refine gA C X44 e44 O40.Ffroms (ow19 C.w) d30_103 d30_104 fun T45 X45 e45 => ?_
 refine si C X45 d30_107 ?_
 refine lA C X45 e45 O40.Vf d30_109 ?_
 refine tS C X45 d30_110 ?_
 have f46 := (P37_0.other W40 (Ne.symm O40.n_rF_rS))
 refine cP C X45 e45 (rm23_8_3 l Z a0 C.w a30_0 (tm3 - fr1) rT kT tm0 tm1 tm2 tm3 tm4 tm5 tm6 tm7 rS oM oM oM (tm3 - fr2) oM oM oM oM h40 n0 O40.hsz O40.Ftimes O40.Vt O40.Fspans f46 O40.grS O40.n_a_rS) O40.Ea (W := 0) (ow126 C.w) (ow127 C.w) (own_selp (x := oy7) rfl (mvT (args := #[]) C.z (ow51 C.w)) (Cond.privateMethod_at (mvP C.z (ow128 C.w) (args := #[]))) (mvT C.z (ow127 C.w)) (by decide)) (ow128 C.w) (ow129 C.w) (ow9 C.w) (argsL := [(.int (3 : Int32)), (.long (tm3 - fr1))]) (lenOf pd__IJ_V rfl) d30_111 fun v47 T47 lo47 X47 hQ47 => ?_
 obtain ⟨rfl, Nq47, Kc47, Sc47, P47_0⟩ := hQ47
 have O47 := O40.sp Kc47 Sc47
 refine gA C X47 rfl O47.Fentries (ow46 C.w) d30_114 d30_115 fun T48 X48 e48 => ?_
 refine sI C X48 d30_118 ?_
 refine sC C X48 d30_119 ?_
 refine sP C X48 d30_120 ?_
 refine cV C X48 e48 (rm12_2 l Z a0 C.w rE (4 : Int32) rW kW (10 : Int64) T47.heap n0 O47.hsz (by decide +kernel) (by decide +kernel) O47.Ee O47.BwordsInUse O47.BsizeIsSticky O47.Bwords O47.Vw O47.St) O47.Ee (W := 0) (ow76 C.w) (ow77 C.w) (ow79 C.w) (ow78 C.w) (ow80 C.w) (ow27 C.w) (argsL := [(.int (4 : Int32))]) (lenOf pd__I_I rfl) d30_121 fun v49 T49 lo49 X49 hQ49 => ?_
 obtain ⟨rfl, Nq49, e49⟩ := hQ49
 rw [show (own_nsb (4 : Int32) (10 : Int64)) = (-1 : Int32) from by decide +kernel]
 refine wi C X49 #[oR a30_0, oI 1, oI 3, oI 2, oI 1, oI (-1)] d30_124 ?_
 refine si C X49 d30_126 ?_
 refine bY C X49 d30_128 151 ((if0 _ _).trans (tlt (by decide : (-1 : Int32) < (0 : Int32))).1) ?_
 refine sI C X49 d30_151 ?_
 refine rZ C X49 e49 hret d30_152 ?_
 exact ⟨rfl, (((N40.app Nq42).app Nq47).app Nq49), Or.inr (⟨hx3 ▸ hc5, O47, P47_0⟩)⟩
theorem own_shn_8_14_8 (x2 : Int64) (x3 : Int64) (h2 : x2 < oM) (h3 : x3 < oM) (hmin : ¬ (x3 < (own_m (own_m (own_m oM oM) (own_m x2 oM)) (own_m (own_m oM oM) (own_m oM oM))))) : ¬ (own_sh8 oM oM x2 x3 oM oM oM oM = (3 : Int32)) := by
 intro hc
 unfold own_sh8 at hc
 by_cases p1 : (own_m (own_m oM oM) (own_m oM oM)) < (own_m (own_m oM oM) (own_m x2 x3))
 · rw [if_pos p1] at hc
   by_cases p3 : (own_m oM oM) < (own_m oM oM)
   · rw [if_pos p3] at hc
     by_cases p7 : oM < oM
     · rw [if_pos p7] at hc
       exact absurd hc (by decide)
     · rw [if_neg p7] at hc
       exact absurd hc (by decide)
   · rw [if_neg p3] at hc
     by_cases p6 : oM < oM
     · rw [if_pos p6] at hc
       exact absurd hc (by decide)
     · rw [if_neg p6] at hc
       exact absurd hc (by decide)
 · rw [if_neg p1] at hc
   by_cases p2 : (own_m x2 x3) < (own_m oM oM)
   · rw [if_pos p2] at hc
     by_cases p5 : x3 < x2
     · rw [if_pos p5] at hc
       have m0 := own_m_c (own_m (own_m oM oM) (own_m x2 oM)) (own_m (own_m oM oM) (own_m oM oM))
       have m1 := own_m_c (own_m oM oM) (own_m x2 oM)
       have m2 := own_m_c oM oM
       have m3 := own_m_c x2 oM
       have m4 := own_m_c (own_m oM oM) (own_m oM oM)
       have m5 := own_m_c (own_m oM oM) (own_m x2 x3)
       have m6 := own_m_c x2 x3
       have g2 := h2
       have g3 := h3
       rw [Int64.lt_iff_toInt_lt] at hmin
       rw [Int64.lt_iff_toInt_lt] at p1
       rw [Int64.lt_iff_toInt_lt] at p2
       rw [Int64.lt_iff_toInt_lt] at p5
       rw [Int64.lt_iff_toInt_lt] at g2
       rw [Int64.lt_iff_toInt_lt] at g3
       rw [own_max] at *
       omega
     · rw [if_neg p5] at hc
       exact absurd hc (by decide)
   · rw [if_neg p2] at hc
     by_cases p4 : oM < oM
     · rw [if_pos p4] at hc
       exact absurd hc (by decide)
     · rw [if_neg p4] at hc
       exact absurd hc (by decide)
def own_S_8_x_4_2_12 (Z : State) (h : Heap) (n0 : Nat) (a : Addr) (T t : Int64) : Prop := ∃ rT : Addr, ∃ rF : Addr, ∃ rO : Addr, ∃ rS : Addr, ∃ rE : Addr, ∃ rW : Addr, ∃ kT : ClassId, ∃ kF : ClassId, ∃ kO : ClassId, ∃ kW : ClassId, ∃ fi : Int32, ∃ bs : Int64, ∃ tm0 : Int64, ∃ tm1 : Int64, ∃ tm2 : Int64, ∃ tm4 : Int64, ∃ tm5 : Int64, ∃ tm6 : Int64, ∃ tm7 : Int64, ∃ fr0 : Int64, ∃ fr1 : Int64, ∃ fr2 : Int64, ∃ fr3 : Int64, ∃ fr4 : Int64, ∃ fr5 : Int64, ∃ fr6 : Int64, ∃ fr7 : Int64, ∃ to0 : Int64, ∃ to1 : Int64, ∃ to2 : Int64, ∃ to3 : Int64, ∃ to4 : Int64, ∃ to5 : Int64, ∃ to6 : Int64, ∃ to7 : Int64, own_Obj Z h n0 a rT rF rO rS rE rW kT kF kO kW fi (4 : Int32) (2 : Int32) bs (1 : Int32) (1 : Int32) (12 : Int64) (8 : Int32) [(.long tm0), (.long tm1), (.long tm2), (.long t), (.long tm4), (.long tm5), (.long tm6), (.long tm7)] [(.long fr0), (.long fr1), (.long fr2), (.long fr3), (.long fr4), (.long fr5), (.long fr6), (.long fr7)] [(.long to0), (.long to1), (.long to2), (.long to3), (.long to4), (.long to5), (.long to6), (.long to7)] ∧ own_Sp8 Z h rS oM oM oM (t - fr2) oM oM oM oM ∧ own_near T tm2 ∧ own_near T t ∧ own_near T fr2 ∧ own_near T fr3
def Q_rm7_5 (Z : State) (a7_0 : Addr) (q7_1 : Int64) (q7_2 : Int64) (p7_3 : Int32) (rT : Addr) (rF : Addr) (rO : Addr) (rS : Addr) (rE : Addr) (rW : Addr) (kT : ClassId) (kF : ClassId) (kO : ClassId) (kW : ClassId) (fi : Int32) (bs : Int64) (tm0 : Int64) (tm1 : Int64) (tm2 : Int64) (tm3 : Int64) (tm4 : Int64) (tm5 : Int64) (tm6 : Int64) (tm7 : Int64) (fr0 : Int64) (fr1 : Int64) (fr2 : Int64) (fr3 : Int64) (fr4 : Int64) (fr5 : Int64) (fr6 : Int64) (fr7 : Int64) (to0 : Int64) (to1 : Int64) (to2 : Int64) (to3 : Int64) (to4 : Int64) (to5 : Int64) (to6 : Int64) (to7 : Int64) (T : Int64) (h0 : Heap) (n0 : Nat) (v : Option Value) (h : Heap) (L : List Loc) : Prop := v = none ∧ Fr n0 L ∧ (own_S_8_x_3_2_6 Z h n0 a7_0 T q7_1 ∨ own_S_8_x_4_3_14 Z h n0 a7_0 T q7_1 ∨ own_S_8_x_4_2_12 Z h n0 a7_0 T q7_1)
theorem rm7_5 (l : Launch) (Z : State) (a0 : Array Value) (hw : own_T Z a0) (a7_0 : Addr) (q7_1 q7_2 : Int64) (p7_3 : Int32) (rT rF rO rS rE rW : Addr) (kT kF kO kW : ClassId) (fi : Int32) (bs tm0 tm1 tm2 tm3 tm4 tm5 tm6 tm7 fr0 fr1 fr2 fr3 fr4 fr5 fr6 fr7 to0 to1 to2 to3 to4 to5 to6 to7 T : Int64) (h0 : Heap) (n0 : Nat) (Z0 : n0 ≤ h0.size) (O : own_Obj Z h0 n0 a7_0 rT rF rO rS rE rW kT kF kO kW fi (3 : Int32) (2 : Int32) bs (1 : Int32) (1 : Int32) (6 : Int64) (8 : Int32) [(.long tm0), (.long tm1), (.long tm2), (.long tm3), (.long tm4), (.long tm5), (.long tm6), (.long tm7)] [(.long fr0), (.long fr1), (.long fr2), (.long fr3), (.long fr4), (.long fr5), (.long fr6), (.long fr7)] [(.long to0), (.long to1), (.long to2), (.long to3), (.long to4), (.long to5), (.long to6), (.long to7)]) (SP : own_Sp8 Z h0 rS oM oM (tm2 - fr1) oM oM oM oM oM) (htm1 : own_near T tm1) (htm2 : own_near T tm2) (hfr1 : own_near T fr1) (hfr2 : own_near T fr2) (hs_q7_1 : own_near T q7_1) (hm : (0 : Int32) < p7_3) :
   own_Met l oy7 oc7 9 none ({ frames := 6, cells := 6, slots := 44, locals := 150 } : Room) Z h0 #[(.ref a7_0), (.long q7_1), (.long q7_2), (.int p7_3)] (Q_rm7_5 Z a7_0 q7_1 q7_2 p7_3 rT rF rO rS rE rW kT kF kO kW fi bs tm0 tm1 tm2 tm3 tm4 tm5 tm6 tm7 fr0 fr1 fr2 fr3 fr4 fr5 fr6 fr7 to0 to1 to2 to3 to4 to5 to6 to7 T h0 n0) := by
 refine own_go hw (plainFor_of_name pn_7) (fun m => ef_rm7_1 m a7_0 q7_1 q7_2 p7_3) fun p e s m below meth c T0 C hret X0 e0 => ?_
 have N0 := Fr.nil n0
 refine gA C X0 e0 O.Fsize (ow53 C.w) d7_0 d7_1 fun T1 X1 e1 => ?_
 refine bN C X1 d7_4 ((if0 _ _).trans (tlt (by decide : (0 : Int32) < (2 : Int32))).2.2.2) ?_
 refine gA C X1 e1 O.Ftimes (ow17 C.w) d7_7 d7_8 fun T2 X2 e2 => ?_
 refine gA C X2 e2 O.Fend (ow55 C.w) d7_11 d7_12 fun T3 X3 e3 => ?_
 refine sC C X3 d7_15 ?_
 refine sS C X3 d7_16 ?_
 refine lA C X3 e3 O.Vt d7_17 ?_
 refine sL C X3 d7_18 ?_
 refine tC C X3 d7_19 ?_
 by_cases h20_4 : tm2 = q7_1
 · have fw5 := O
   rw [h20_4] at fw5
   have fw6 := SP
   rw [h20_4] at fw6
   refine bN C X3 d7_20 ((if0 _ _).trans (teq ((lw_eq _ _).mpr h20_4)).2) ?_
   refine gA C X3 e3 fw5.Ftotals (ow21 C.w) d7_23 d7_24 fun T7 X7 e7 => ?_
   refine gA C X7 e7 fw5.Fend (ow55 C.w) d7_27 d7_28 fun T8 X8 e8 => ?_
   refine sC C X8 d7_31 ?_
   refine sS C X8 d7_32 ?_
   show own_Fin p l e _ s m _ below meth c _ T8 (mkF m 33 #[oR a7_0, oJ q7_1, oD, oJ q7_2, oD, oI p7_3, oU, oU, oU] [(.int (2 : Int32)), (.ref rO)])
   refine own_Fin.st (g' := (mkF m 34 #[oR a7_0, oJ q7_1, oD, oJ q7_2, oD, oI p7_3, oU, oU, oU] [(.int (2 : Int32)), (.ref rO), (.int (2 : Int32)), (.ref rO)])) ?_ (fun t k => by jvm_step X8.here [X8.here.top, C.1, C.d d7_33, Value.category]; exact k)
   refine lA C X8 e8 fw5.Vo d7_34 ?_
   refine sL C X8 d7_35 ?_
   refine tP C X8 d7_36 ?_
   refine sJ C X8 e8 N0 fw5.grO fw5.Vo _ d7_37 fun T9 h9 lo9 X9 e9 N9 W9 V9 => ?_
   have O9 := fw5.setO W9 V9
   refine sG C X9 d7_38 348 ?_
   have f92 := (fw6.other W9 (Ne.symm O9.n_rO_rS))
   refine rV C X9 e9 hret d7_348 ?_
   exact ⟨rfl, N9, Or.inl ⟨rT, rF, rO, rS, rE, rW, kT, kF, kO, kW, fi, bs, tm0, tm1, tm3, tm4, tm5, tm6, tm7, fr0, fr1, fr2, fr3, fr4, fr5, fr6, fr7, to0, to1, (to2 + q7_2), to3, to4, to5, to6, to7, O9, f92, htm1, hs_q7_1, hfr1, hfr2⟩⟩
 refine bY C X3 d7_20 41 ((if0 _ _).trans (feq (fun q => h20_4 ((lw_eq _ _).mp q))).2) ?_
 refine gA C X3 e3 O.Fsize (ow53 C.w) d7_41 d7_42 fun T10 X10 e10 => ?_
 refine si C X10 d7_45 ?_
 by_cases h47_11 : (2 : Int32) < p7_3
 · refine cY C X10 d7_47 148 ((tlt h47_11).1) ?_
   refine gA C X10 e10 O.Ftimes (ow17 C.w) d7_148 d7_149 fun T12 X12 e12 => ?_
   refine nA C X12 e12 O.Vt d7_152 ?_
   refine wi C X12 #[oR a7_0, oJ q7_1, oD, oJ q7_2, oD, oI p7_3, oI 8, oU, oU] d7_153 ?_
   refine gA C X12 e12 O.Fend (ow55 C.w) d7_155 d7_156 fun T13 X13 e13 => ?_
   refine si C X13 d7_159 ?_
   refine cN C X13 d7_161 ((feq (by decide : ¬ ((3 : Int32) = (8 : Int32)))).1) ?_
   refine si C X13 d7_164 ?_
   refine sC C X13 d7_166 ?_
   refine cN C X13 d7_167 ((tlt (by decide : (2 : Int32) < (8 : Int32))).2.2.2) ?_
   refine kJ C X13 (ow158 C.w) d7_170 ?_
   refine gA C X13 e13 O.Fsize (ow53 C.w) d7_173 d7_174 fun T14 X14 e14 => ?_
   refine sC C X14 d7_177 ?_
   refine sP C X14 d7_178 ?_
   refine tI C X14 d7_179 ?_
   refine own_Fin.st (g' := (mkF m 181 #[oR a7_0, oJ q7_1, oD, oJ q7_2, oD, oI p7_3, oI 8, oU, oU] [(.long (24 : Int64))])) ?_ (fun t k => XS.lmul X14.here C.1 rfl (C.d d7_180) rfl k)
   refine si C X14 d7_181 ?_
   refine tI C X14 d7_183 ?_
   refine tC C X14 d7_184 ?_
   refine bY C X14 d7_185 209 ((if0 _ _).trans (tlt ((lw_gt _ _).mpr (by decide : (8 : Int64) < (24 : Int64)))).2.2.1) ?_
   refine gA C X14 e14 O.Fsize (ow53 C.w) d7_209 d7_210 fun T15 X15 e15 => ?_
   refine bN C X15 d7_213 ((if0 _ _).trans (tlt (by decide : (0 : Int32) < (2 : Int32))).2.2.2) ?_
   refine gA C X15 e15 O.Ftotals (ow21 C.w) d7_216 d7_217 fun T16 X16 e16 => ?_
   refine gA C X16 e16 O.Fend (ow55 C.w) d7_220 d7_221 fun T17 X17 e17 => ?_
   refine sC C X17 d7_224 ?_
   refine sS C X17 d7_225 ?_
   refine lA C X17 e17 O.Vo d7_226 ?_
   refine sG C X17 d7_227 234 ?_
   refine wl C X17 #[oR a7_0, oJ q7_1, oD, oJ q7_2, oD, oI p7_3, oI 8, oJ to2, oD] d7_234 ?_
   refine gA C X17 e17 O.Ftimes (ow17 C.w) d7_236 d7_237 fun T18 X18 e18 => ?_
   refine gA C X18 e18 O.Fend (ow55 C.w) d7_240 d7_241 fun T19 X19 e19 => ?_
   refine sL C X19 d7_244 ?_
   refine sJ C X19 e19 N0 O.grT O.Vt _ d7_245 fun T20 h20 lo20 X20 e20 N20 W20 V20 => ?_
   have O20 := O.setT W20 V20
   refine gA C X20 e20 O20.Ffroms (ow19 C.w) d7_246 d7_247 fun T21 X21 e21 => ?_
   refine gA C X21 e21 O20.Fend (ow55 C.w) d7_250 d7_251 fun T22 X22 e22 => ?_
   refine sL C X22 d7_254 ?_
   refine sJ C X22 e22 N20 O20.grF O20.Vf _ d7_255 fun T23 h23 lo23 X23 e23 N23 W23 V23 => ?_
   have O23 := O20.setF W23 V23
   refine gA C X23 e23 O23.Ftotals (ow21 C.w) d7_256 d7_257 fun T24 X24 e24 => ?_
   refine gA C X24 e24 O23.Fend (ow55 C.w) d7_260 d7_261 fun T25 X25 e25 => ?_
   refine sl C X25 d7_264 ?_
   refine sL C X25 d7_266 ?_
   refine tP C X25 d7_267 ?_
   refine sJ C X25 e25 N23 O23.grO O23.Vo _ d7_268 fun T26 h26 lo26 X26 e26 N26 W26 V26 => ?_
   have O26 := O23.setO W26 V26
   refine gA C X26 e26 O26.Fentries (ow46 C.w) d7_269 d7_270 fun T27 X27 e27 => ?_
   refine gA C X27 e27 O26.Fend (ow55 C.w) d7_273 d7_274 fun T28 X28 e28 => ?_
   refine cV C X28 e28 (rm20_2 l Z a0 C.w rE (3 : Int32) rW kW (6 : Int64) h26 n0 O26.hsz (by decide +kernel) (by decide +kernel) O26.Ee O26.BwordsInUse O26.BsizeIsSticky O26.Bwords O26.Vw O26.grW O26.St) O26.Ee (W := 0) (ow111 C.w) (ow112 C.w) (ow114 C.w) (ow113 C.w) (ow115 C.w) (ow27 C.w) (argsL := [(.int (3 : Int32))]) (lenOf pd__I_V rfl) d7_277 fun v29 T29 lo29 X29 hQ29 => ?_
   obtain ⟨rfl, Nq29, Kc29, Sc29, P29_0⟩ := hQ29
   rw [show ((6 : Int64) ||| ((1 : Int64) <<< ((3 : Int32) &&& 0x3f).toInt64)) = (14 : Int64) from by decide +kernel] at P29_0
   have O29 := O26.bit1 Kc29 Sc29 P29_0
   refine sA C X29 d7_280 ?_
   refine gA C X29 rfl O29.Fend (ow55 C.w) d7_281 d7_282 fun T30 X30 e30 => ?_
   refine gA C X30 e30 O29.Fsize (ow53 C.w) d7_285 d7_286 fun T31 X31 e31 => ?_
   refine bN C X31 d7_289 ((if0 _ _).trans (tlt (by decide : (0 : Int32) < (2 : Int32))).2.2.2) ?_
   refine sL C X31 d7_292 ?_
   refine gA C X31 e31 O29.Ffroms (ow19 C.w) d7_293 d7_294 fun T32 X32 e32 => ?_
   refine gA C X32 e32 O29.Fend (ow55 C.w) d7_297 d7_298 fun T33 X33 e33 => ?_
   refine sC C X33 d7_301 ?_
   refine sS C X33 d7_302 ?_
   refine lA C X33 e33 O29.Vf d7_303 ?_
   refine tS C X33 d7_304 ?_
   refine sG C X33 d7_305 311 ?_
   have f34 := ((((SP.other W20 (Ne.symm O29.n_rT_rS)).other W23 (Ne.symm O29.n_rF_rS)).other W26 (Ne.symm O29.n_rO_rS)).keep Kc29 (ninS O29.n_rS_rW nin0))
   refine cP C X33 e33 (rm23_8_3 l Z a0 C.w a7_0 (q7_1 - fr2) rT kT tm0 tm1 tm2 q7_1 tm4 tm5 tm6 tm7 rS oM oM (tm2 - fr1) oM oM oM oM oM T29.heap n0 O29.hsz O29.Ftimes O29.Vt O29.Fspans f34 O29.grS O29.n_a_rS) O29.Ea (W := 0) (ow126 C.w) (ow127 C.w) (own_selp (x := oy7) rfl (mvT (args := #[]) C.z (ow51 C.w)) (Cond.privateMethod_at (mvP C.z (ow128 C.w) (args := #[]))) (mvT C.z (ow127 C.w)) (by decide)) (ow128 C.w) (ow129 C.w) (ow9 C.w) (argsL := [(.int (3 : Int32)), (.long (q7_1 - fr2))]) (lenOf pd__IJ_V rfl) d7_311 fun v35 T35 lo35 X35 hQ35 => ?_
   obtain ⟨rfl, Nq35, Kc35, Sc35, P35_0⟩ := hQ35
   have O35 := O29.sp Kc35 Sc35
   refine sA C X35 d7_314 ?_
   refine sD C X35 d7_315 ?_
   refine gF C X35 rfl O35.Fend (ow55 C.w) d7_316 fun T36 X36 e36 => ?_
   refine sC C X36 d7_319 ?_
   refine sP C X36 d7_320 ?_
   refine pF C X36 e36 ((N26.app Nq29).app Nq35) O35.ga O35.Fend O35.Ea (ty := .int) (ow55 C.w) (ow56 C.w) (ow8 C.w) (by decide) d7_321 fun T37 h37 lo37 X37 e37 N37 W37 F37 => ?_
   have O37 := own_Obj.put_end hw O35 W37 F37
   refine sA C X37 d7_324 ?_
   refine sD C X37 d7_325 ?_
   refine gF C X37 e37 O37.Fsize (ow53 C.w) d7_326 fun T38 X38 e38 => ?_
   refine sC C X38 d7_329 ?_
   refine sP C X38 d7_330 ?_
   refine pF C X38 e38 N37 O37.ga O37.Fsize O37.Ea (ty := .int) (ow53 C.w) (ow54 C.w) (ow8 C.w) (by decide) d7_331 fun T39 h39 lo39 X39 e39 N39 W39 F39 => ?_
   have O39 := own_Obj.put_size hw O37 W39 F39
   refine gA C X39 e39 O39.Fsize (ow53 C.w) d7_334 d7_335 fun T40 X40 e40 => ?_
   refine si C X40 d7_338 ?_
   refine cY C X40 d7_340 348 ((flt (own_ilt (2 : Int32) (3 : Int32) h47_11 (by decide))).2.2.2) ?_
   have f93 := ((P35_0.other W37 (Ne.symm O39.n_a_rS)).other W39 (Ne.symm O39.n_a_rS))
   refine rV C X40 e40 hret d7_348 ?_
   exact ⟨rfl, N39, Or.inr (Or.inl ⟨rT, rF, rO, rS, rE, rW, kT, kF, kO, kW, fi, bs, tm0, tm1, tm2, tm4, tm5, tm6, tm7, fr0, fr1, fr2, q7_1, fr4, fr5, fr6, fr7, to0, to1, to2, (to2 + q7_2), to4, to5, to6, to7, O39, f93, htm1, htm2, hs_q7_1, hfr1, hfr2, hs_q7_1⟩)⟩
 refine cN C X10 d7_47 ((flt h47_11).1) ?_
 refine sL C X10 d7_50 ?_
 refine gA C X10 e10 O.Ffroms (ow19 C.w) d7_51 d7_52 fun T41 X41 e41 => ?_
 refine gA C X41 e41 O.Fend (ow55 C.w) d7_55 d7_56 fun T42 X42 e42 => ?_
 refine sC C X42 d7_59 ?_
 refine sS C X42 d7_60 ?_
 refine lA C X42 e42 O.Vf d7_61 ?_
 refine tS C X42 d7_62 ?_
 refine gA C X42 e42 O.Fspans (ow23 C.w) d7_63 d7_64 fun T43 X43 e43 => ?_
 refine sC C X43 d7_67 ?_
 obtain ⟨kq44, VT44⟩ := id SP
 refine lA C X43 e43 VT44 d7_68 ?_
 refine tC C X43 d7_69 ?_
 by_cases h70_45 : (q7_1 - fr2) < (own_m (own_m (own_m oM oM) (own_m (tm2 - fr1) oM)) (own_m (own_m oM oM) (own_m oM oM)))
 · refine bN C X43 d7_70 ((if0 _ _).trans (tlt ((lw_lt _ _).mpr h70_45)).2.1) ?_
   refine gA C X43 e43 O.Ftimes (ow17 C.w) d7_73 d7_74 fun T46 X46 e46 => ?_
   refine gA C X46 e46 O.Fend (ow55 C.w) d7_77 d7_78 fun T47 X47 e47 => ?_
   refine sC C X47 d7_81 ?_
   refine sS C X47 d7_82 ?_
   refine sL C X47 d7_83 ?_
   refine sJ C X47 e47 N0 O.grT O.Vt _ d7_84 fun T48 h48 lo48 X48 e48 N48 W48 V48 => ?_
   have O48 := O.setT W48 V48
   refine gA C X48 e48 O48.Ftotals (ow21 C.w) d7_85 d7_86 fun T49 X49 e49 => ?_
   refine gA C X49 e49 O48.Fend (ow55 C.w) d7_89 d7_90 fun T50 X50 e50 => ?_
   refine sC C X50 d7_93 ?_
   refine sS C X50 d7_94 ?_
   show own_Fin p l e _ s m _ below meth c _ T50 (mkF m 95 #[oR a7_0, oJ q7_1, oD, oJ q7_2, oD, oI p7_3, oU, oU, oU] [(.int (2 : Int32)), (.ref rO)])
   refine own_Fin.st (g' := (mkF m 96 #[oR a7_0, oJ q7_1, oD, oJ q7_2, oD, oI p7_3, oU, oU, oU] [(.int (2 : Int32)), (.ref rO), (.int (2 : Int32)), (.ref rO)])) ?_ (fun t k => by jvm_step X50.here [X50.here.top, C.1, C.d d7_95, Value.category]; exact k)
   refine lA C X50 e50 O48.Vo d7_96 ?_
   refine sL C X50 d7_97 ?_
   refine tP C X50 d7_98 ?_
   refine sJ C X50 e50 N48 O48.grO O48.Vo _ d7_99 fun T51 h51 lo51 X51 e51 N51 W51 V51 => ?_
   have O51 := O48.setO W51 V51
   refine gA C X51 e51 O51.Fentries (ow46 C.w) d7_100 d7_101 fun T52 X52 e52 => ?_
   refine gA C X52 e52 O51.Fend (ow55 C.w) d7_104 d7_105 fun T53 X53 e53 => ?_
   refine sC C X53 d7_108 ?_
   refine sS C X53 d7_109 ?_
   refine cV C X53 e53 (rm32_2 l Z a0 C.w rE (1 : Int32) rW kW (6 : Int64) h51 n0 O51.hsz (by decide +kernel) (by decide +kernel) O51.Ee O51.BwordsInUse O51.BsizeIsSticky O51.Bwords O51.Vw O51.St) O51.Ee (W := 0) (ow168 C.w) (ow169 C.w) (ow171 C.w) (ow170 C.w) (ow172 C.w) (ow27 C.w) (argsL := [(.int (1 : Int32))]) (lenOf pd__I_I rfl) d7_110 fun v54 T54 lo54 X54 hQ54 => ?_
   obtain ⟨rfl, Nq54, e54⟩ := hQ54
   rw [show (own_psb (1 : Int32) (6 : Int64)) = (1 : Int32) from by decide +kernel]
   refine wi C X54 #[oR a7_0, oJ q7_1, oD, oJ q7_2, oD, oI p7_3, oI 1, oU, oU] d7_113 ?_
   refine sA C X54 d7_115 ?_
   refine gA C X54 e54 O51.Fend (ow55 C.w) d7_116 d7_117 fun T56 X56 e56 => ?_
   refine sC C X56 d7_120 ?_
   refine sS C X56 d7_121 ?_
   refine si C X56 d7_122 ?_
   refine bY C X56 d7_124 133 ((if0 _ _).trans (flt (by decide : ¬ ((1 : Int32) < (0 : Int32)))).2.1) ?_
   refine sL C X56 d7_133 ?_
   refine gA C X56 e56 O51.Ffroms (ow19 C.w) d7_134 d7_135 fun T57 X57 e57 => ?_
   refine si C X57 d7_138 ?_
   refine lA C X57 e57 O51.Vf d7_140 ?_
   refine tS C X57 d7_141 ?_
   have f58 := ((SP.other W48 (Ne.symm O51.n_rT_rS)).other W51 (Ne.symm O51.n_rO_rS))
   refine cP C X57 e57 (rm23_8_2 l Z a0 C.w a7_0 (q7_1 - fr1) rT kT tm0 tm1 q7_1 tm3 tm4 tm5 tm6 tm7 rS oM oM (tm2 - fr1) oM oM oM oM oM h51 n0 O51.hsz O51.Ftimes O51.Vt O51.Fspans f58 O51.grS O51.n_a_rS) O51.Ea (W := 0) (ow126 C.w) (ow127 C.w) (own_selp (x := oy7) rfl (mvT (args := #[]) C.z (ow51 C.w)) (Cond.privateMethod_at (mvP C.z (ow128 C.w) (args := #[]))) (mvT C.z (ow127 C.w)) (by decide)) (ow128 C.w) (ow129 C.w) (ow9 C.w) (argsL := [(.int (2 : Int32)), (.long (q7_1 - fr1))]) (lenOf pd__IJ_V rfl) d7_142 fun v59 T59 lo59 X59 hQ59 => ?_
   obtain ⟨rfl, Nq59, Kc59, Sc59, P59_0⟩ := hQ59
   have O59 := O51.sp Kc59 Sc59
   refine sG C X59 d7_145 348 ?_
   refine rV C X59 rfl hret d7_348 ?_
   exact ⟨rfl, ((N51.app Nq54).app Nq59), Or.inl ⟨rT, rF, rO, rS, rE, rW, kT, kF, kO, kW, fi, bs, tm0, tm1, tm3, tm4, tm5, tm6, tm7, fr0, fr1, fr2, fr3, fr4, fr5, fr6, fr7, to0, to1, (to2 + q7_2), to3, to4, to5, to6, to7, O59, P59_0, htm1, hs_q7_1, hfr1, hfr2⟩⟩
 refine bY C X43 d7_70 148 ((if0 _ _).trans (flt (fun q => h70_45 ((lw_lt _ _).mp q))).2.1) ?_
 refine gA C X43 e43 O.Ftimes (ow17 C.w) d7_148 d7_149 fun T60 X60 e60 => ?_
 refine nA C X60 e60 O.Vt d7_152 ?_
 refine wi C X60 #[oR a7_0, oJ q7_1, oD, oJ q7_2, oD, oI p7_3, oI 8, oU, oU] d7_153 ?_
 refine gA C X60 e60 O.Fend (ow55 C.w) d7_155 d7_156 fun T61 X61 e61 => ?_
 refine si C X61 d7_159 ?_
 refine cN C X61 d7_161 ((feq (by decide : ¬ ((3 : Int32) = (8 : Int32)))).1) ?_
 refine si C X61 d7_164 ?_
 refine sC C X61 d7_166 ?_
 refine cN C X61 d7_167 ((tlt (by decide : (2 : Int32) < (8 : Int32))).2.2.2) ?_
 refine kJ C X61 (ow158 C.w) d7_170 ?_
 refine gA C X61 e61 O.Fsize (ow53 C.w) d7_173 d7_174 fun T62 X62 e62 => ?_
 refine sC C X62 d7_177 ?_
 refine sP C X62 d7_178 ?_
 refine tI C X62 d7_179 ?_
 refine own_Fin.st (g' := (mkF m 181 #[oR a7_0, oJ q7_1, oD, oJ q7_2, oD, oI p7_3, oI 8, oU, oU] [(.long (24 : Int64))])) ?_ (fun t k => XS.lmul X62.here C.1 rfl (C.d d7_180) rfl k)
 refine si C X62 d7_181 ?_
 refine tI C X62 d7_183 ?_
 refine tC C X62 d7_184 ?_
 refine bY C X62 d7_185 209 ((if0 _ _).trans (tlt ((lw_gt _ _).mpr (by decide : (8 : Int64) < (24 : Int64)))).2.2.1) ?_
 refine gA C X62 e62 O.Fsize (ow53 C.w) d7_209 d7_210 fun T63 X63 e63 => ?_
 refine bN C X63 d7_213 ((if0 _ _).trans (tlt (by decide : (0 : Int32) < (2 : Int32))).2.2.2) ?_
 refine gA C X63 e63 O.Ftotals (ow21 C.w) d7_216 d7_217 fun T64 X64 e64 => ?_
 refine gA C X64 e64 O.Fend (ow55 C.w) d7_220 d7_221 fun T65 X65 e65 => ?_
 refine sC C X65 d7_224 ?_
 refine sS C X65 d7_225 ?_
 refine lA C X65 e65 O.Vo d7_226 ?_
 refine sG C X65 d7_227 234 ?_
 refine wl C X65 #[oR a7_0, oJ q7_1, oD, oJ q7_2, oD, oI p7_3, oI 8, oJ to2, oD] d7_234 ?_
 refine gA C X65 e65 O.Ftimes (ow17 C.w) d7_236 d7_237 fun T66 X66 e66 => ?_
 refine gA C X66 e66 O.Fend (ow55 C.w) d7_240 d7_241 fun T67 X67 e67 => ?_
 refine sL C X67 d7_244 ?_
 refine sJ C X67 e67 N0 O.grT O.Vt _ d7_245 fun T68 h68 lo68 X68 e68 N68 W68 V68 => ?_
 have O68 := O.setT W68 V68
 refine gA C X68 e68 O68.Ffroms (ow19 C.w) d7_246 d7_247 fun T69 X69 e69 => ?_
 refine gA C X69 e69 O68.Fend (ow55 C.w) d7_250 d7_251 fun T70 X70 e70 => ?_
 refine sL C X70 d7_254 ?_
 refine sJ C X70 e70 N68 O68.grF O68.Vf _ d7_255 fun T71 h71 lo71 X71 e71 N71 W71 V71 => ?_
 have O71 := O68.setF W71 V71
 refine gA C X71 e71 O71.Ftotals (ow21 C.w) d7_256 d7_257 fun T72 X72 e72 => ?_
 refine gA C X72 e72 O71.Fend (ow55 C.w) d7_260 d7_261 fun T73 X73 e73 => ?_
 refine sl C X73 d7_264 ?_
 refine sL C X73 d7_266 ?_
 refine tP C X73 d7_267 ?_
 refine sJ C X73 e73 N71 O71.grO O71.Vo _ d7_268 fun T74 h74 lo74 X74 e74 N74 W74 V74 => ?_
 have O74 := O71.setO W74 V74
 refine gA C X74 e74 O74.Fentries (ow46 C.w) d7_269 d7_270 fun T75 X75 e75 => ?_
 refine gA C X75 e75 O74.Fend (ow55 C.w) d7_273 d7_274 fun T76 X76 e76 => ?_
 refine cV C X76 e76 (rm20_2 l Z a0 C.w rE (3 : Int32) rW kW (6 : Int64) h74 n0 O74.hsz (by decide +kernel) (by decide +kernel) O74.Ee O74.BwordsInUse O74.BsizeIsSticky O74.Bwords O74.Vw O74.grW O74.St) O74.Ee (W := 0) (ow111 C.w) (ow112 C.w) (ow114 C.w) (ow113 C.w) (ow115 C.w) (ow27 C.w) (argsL := [(.int (3 : Int32))]) (lenOf pd__I_V rfl) d7_277 fun v77 T77 lo77 X77 hQ77 => ?_
 obtain ⟨rfl, Nq77, Kc77, Sc77, P77_0⟩ := hQ77
 rw [show ((6 : Int64) ||| ((1 : Int64) <<< ((3 : Int32) &&& 0x3f).toInt64)) = (14 : Int64) from by decide +kernel] at P77_0
 have O77 := O74.bit1 Kc77 Sc77 P77_0
 refine sA C X77 d7_280 ?_
 refine gA C X77 rfl O77.Fend (ow55 C.w) d7_281 d7_282 fun T78 X78 e78 => ?_
 refine gA C X78 e78 O77.Fsize (ow53 C.w) d7_285 d7_286 fun T79 X79 e79 => ?_
 refine bN C X79 d7_289 ((if0 _ _).trans (tlt (by decide : (0 : Int32) < (2 : Int32))).2.2.2) ?_
 refine sL C X79 d7_292 ?_
 refine gA C X79 e79 O77.Ffroms (ow19 C.w) d7_293 d7_294 fun T80 X80 e80 => ?_
 refine gA C X80 e80 O77.Fend (ow55 C.w) d7_297 d7_298 fun T81 X81 e81 => ?_
 refine sC C X81 d7_301 ?_
 refine sS C X81 d7_302 ?_
 refine lA C X81 e81 O77.Vf d7_303 ?_
 refine tS C X81 d7_304 ?_
 refine sG C X81 d7_305 311 ?_
 have f82 := ((((SP.other W68 (Ne.symm O77.n_rT_rS)).other W71 (Ne.symm O77.n_rF_rS)).other W74 (Ne.symm O77.n_rO_rS)).keep Kc77 (ninS O77.n_rS_rW nin0))
 refine cP C X81 e81 (rm23_8_3 l Z a0 C.w a7_0 (q7_1 - fr2) rT kT tm0 tm1 tm2 q7_1 tm4 tm5 tm6 tm7 rS oM oM (tm2 - fr1) oM oM oM oM oM T77.heap n0 O77.hsz O77.Ftimes O77.Vt O77.Fspans f82 O77.grS O77.n_a_rS) O77.Ea (W := 0) (ow126 C.w) (ow127 C.w) (own_selp (x := oy7) rfl (mvT (args := #[]) C.z (ow51 C.w)) (Cond.privateMethod_at (mvP C.z (ow128 C.w) (args := #[]))) (mvT C.z (ow127 C.w)) (by decide)) (ow128 C.w) (ow129 C.w) (ow9 C.w) (argsL := [(.int (3 : Int32)), (.long (q7_1 - fr2))]) (lenOf pd__IJ_V rfl) d7_311 fun v83 T83 lo83 X83 hQ83 => ?_
 obtain ⟨rfl, Nq83, Kc83, Sc83, P83_0⟩ := hQ83
 have O83 := O77.sp Kc83 Sc83
 refine sA C X83 d7_314 ?_
 refine sD C X83 d7_315 ?_
 refine gF C X83 rfl O83.Fend (ow55 C.w) d7_316 fun T84 X84 e84 => ?_
 refine sC C X84 d7_319 ?_
 refine sP C X84 d7_320 ?_
 refine pF C X84 e84 ((N74.app Nq77).app Nq83) O83.ga O83.Fend O83.Ea (ty := .int) (ow55 C.w) (ow56 C.w) (ow8 C.w) (by decide) d7_321 fun T85 h85 lo85 X85 e85 N85 W85 F85 => ?_
 have O85 := own_Obj.put_end hw O83 W85 F85
 refine sA C X85 d7_324 ?_
 refine sD C X85 d7_325 ?_
 refine gF C X85 e85 O85.Fsize (ow53 C.w) d7_326 fun T86 X86 e86 => ?_
 refine sC C X86 d7_329 ?_
 refine sP C X86 d7_330 ?_
 refine pF C X86 e86 N85 O85.ga O85.Fsize O85.Ea (ty := .int) (ow53 C.w) (ow54 C.w) (ow8 C.w) (by decide) d7_331 fun T87 h87 lo87 X87 e87 N87 W87 F87 => ?_
 have O87 := own_Obj.put_size hw O85 W87 F87
 refine gA C X87 e87 O87.Fsize (ow53 C.w) d7_334 d7_335 fun T88 X88 e88 => ?_
 refine si C X88 d7_338 ?_
 refine cN C X88 d7_340 ((tlt (own_igt (2 : Int32) (3 : Int32) h47_11 (by decide))).2.2.2) ?_
 refine sA C X88 d7_343 ?_
 have f89 := ((P83_0.other W85 (Ne.symm O87.n_a_rS)).other W87 (Ne.symm O87.n_a_rS))
 refine cV C X88 e88 (rm30_8_14 l Z a0 C.w a7_0 rT rF rO rS rE rW kT kF kO kW fi (4 : Int32) (3 : Int32) bs tm0 tm1 tm2 q7_1 tm4 tm5 tm6 tm7 fr0 fr1 fr2 q7_1 fr4 fr5 fr6 fr7 to0 to1 to2 (to2 + q7_2) to4 to5 to6 to7 T h87 n0 O87.hsz O87 f89 htm1 htm2 hs_q7_1 hfr1 hfr2 hs_q7_1 (by decide)) O87.Ea (W := 0) (ow177 C.w) (ow160 C.w) (ow162 C.w) (ow161 C.w) (ow163 C.w) (ow9 C.w) (argsL := []) (lenOf pd___Z rfl) d7_344 fun v90 T90 lo90 X90 hQ90 => ?_
 obtain ⟨rfl, Nq90, J90⟩ := hQ90
 rcases J90 with ⟨hk90_0, O90_0, SP90_0⟩ | ⟨hk90_1, O90_1, SP90_1⟩
 · have own_t91 : True := trivial
   rw [show ((3 : Int32) - (1 : Int32)) = (2 : Int32) from by decide] at O90_0
   refine sO C X90 d7_347 ?_
   refine rV C X90 rfl hret d7_348 ?_
   exact ⟨rfl, (N87.app Nq90), Or.inr (Or.inr (⟨rT, rF, rO, rS, rE, rW, kT, kF, kO, kW, fi, bs, tm0, tm1, tm2, tm4, tm5, tm6, tm7, fr0, fr1, fr1, q7_1, fr4, fr5, fr6, fr7, to0, to1, to2, (to2 + q7_2), to4, to5, to6, to7, O90_0, SP90_0, htm2, hs_q7_1, hfr1, hs_q7_1⟩))⟩
 exact absurd hk90_1 (own_shn_8_14_8 (tm2 - fr1) (q7_1 - fr2) (own_nlt htm2 hfr1) (own_nlt hs_q7_1 hfr2) h70_45)
theorem ef_rm5_4 (m : MethodId) (y0 : Addr) : entryFrame m #[(.ref y0), (.int (4 : Int32))] 2 = mkF m 0 #[oR y0, oI 4] [] := by first | (simp [entryFrame, mkF, argsToLocals, Value.category]; done) | rfl
def Q_rm5_4 (Z : State) (a5_0 : Addr) (h0 : Heap) (n0 : Nat) (v : Option Value) (h : Heap) (L : List Loc) : Prop := ∃ bx5_0 : Addr, ∃ kx5_0 : ClassId, v = none ∧ Fr n0 L ∧ Keep h0 h [a5_0] ∧ own_StK Z h0 h ∧ h0.size ≤ bx5_0 ∧ Exa Z h a5_0 oB ∧ Fld Z h a5_0 oB "wordsInUse" "I" (.int (0 : Int32)) ∧ Fld Z h a5_0 oB "sizeIsSticky" "Z" (.int (0 : Int32)) ∧ Fld Z h a5_0 oB "words" "[J" (.ref bx5_0) ∧ Arv Z h bx5_0 kx5_0 .long (1 : Int32) [oZ] oZ
theorem rm5_4 (l : Launch) (Z : State) (a0 : Array Value) (hw : own_T Z a0) (a5_0 : Addr) (h0 : Heap) (n0 : Nat) (Z0 : n0 ≤ h0.size) (E_a : Exa Z h0 a5_0 oB) (F_wordsInUse : Fld Z h0 a5_0 oB "wordsInUse" "I" (.int (0 : Int32))) (F_sizeIsSticky : Fld Z h0 a5_0 oB "sizeIsSticky" "Z" (.int (0 : Int32))) (F_words : Fld Z h0 a5_0 oB "words" "[J" .null) (g_a5_0 : n0 ≤ a5_0) :
   own_Met l oy5 oc5 2 none ({ frames := 1, cells := 1, slots := 1, locals := 13 } : Room) Z h0 #[(.ref a5_0), (.int (4 : Int32))] (Q_rm5_4 Z a5_0 h0 n0) := by
 refine own_go hw (plainFor_of_name pn_5) (fun m => ef_rm5_4 m a5_0) fun p e s m below meth c T0 C hret X0 e0 => ?_
 have N0 := Fr.nil n0
 refine sA C X0 d5_0 ?_
 refine sI C X0 d5_1 ?_
 refine sC C X0 d5_2 ?_
 refine sS C X0 d5_3 ?_
 refine cS C X0 e0 (fun ws => rm6 l Z a0 C.w ws (3 : Int32) h0 n0 Z0 ) (W := 1) (ow41 C.w) (ow42 C.w) (ow43 C.w) (ow27 C.w) (argsL := [(.int (3 : Int32))]) (lenOf pd__I_I rfl) d5_4 fun v1 T1 lo1 X1 hQ1 => ?_
 obtain ⟨rfl, Nq1, e1⟩ := hQ1
 rw [show ((3 : Int32) >>> ((6 : Int32) &&& 31)) = (0 : Int32) from by decide +kernel]
 refine sC C X1 d5_7 ?_
 refine sP C X1 d5_8 ?_
 refine nP C X1 e1 (n := (1 : Int32)) 1 [oZ] (ow16 C.w) d5_9 fun T3 h3 k3 b3 g3 X3 e3 E3 V_b3 => ?_
 have ne_a5_0_b3 : a5_0 ≠ b3 := Nat.ne_of_lt (Nat.lt_of_lt_of_le E_a.lt (Nat.le_of_eq g3.symm))
 have g_b3 : n0 ≤ b3 := Nat.le_trans Z0 (Nat.le_of_eq g3.symm)
 have sz_b3 : h0.size ≤ b3 := Nat.le_trans (Nat.le_refl _) (Nat.le_of_eq g3.symm)
 have S3 : own_StK Z h0 h3 := (own_StK.refl Z h0).ext E3
 have K3 : Keep h0 h3 [a5_0] := (Keep.refl h0 [a5_0]).ext E3
 have Z3 : n0 ≤ h3.size := Nat.le_trans Z0 K3.1
 have f4 := (E_a.ext E3)
 have f5 := (F_words.ext E3)
 refine pF C X3 e3 (N0.app Nq1) g_a5_0 f5 f4 (ty := (.array .long)) (ow44 C.w) (ow45 C.w) (ow26 C.w) (by decide) d5_11 fun T6 h6 lo6 X6 e6 N6 W6 F6 => ?_
 have S6 : own_StK Z h0 h6 := S3.wr W6
 have K6 : Keep h0 h6 [a5_0] := K3.wr W6 (Or.inl (List.mem_of_getElem? (i := 0) rfl))
 have Z6 : n0 ≤ h6.size := Nat.le_trans Z0 K6.1
 have f7 := (f4.wr W6)
 have f8 := ((F_wordsInUse.ext E3).other W6 (Or.inr (slot_ne (Or.inl (ow33 hw)) (Or.inl (ow45 hw)) (by decide) (t := .int) (t' := (.array .long)) (by decide) (by decide))))
 have f9 := ((F_sizeIsSticky.ext E3).other W6 (Or.inr (slot_ne (Or.inl (ow35 hw)) (Or.inl (ow45 hw)) (by decide) (t := .boolean) (t' := (.array .long)) (by decide) (by decide))))
 have f10 := (V_b3.other W6 (Ne.symm ne_a5_0_b3))
 refine rV C X6 e6 hret d5_14 ?_
 exact ⟨b3, k3, rfl, N6, K6, S6, sz_b3, f7, f8, f9, F6, f10⟩
theorem ef_rm14_3 (m : MethodId) (y0 : Addr) : entryFrame m #[(.ref y0), (.int (4 : Int32))] 2 = mkF m 0 #[oR y0, oI 4] [] := by first | (simp [entryFrame, mkF, argsToLocals, Value.category]; done) | rfl
def Q_rm14_3 (Z : State) (a14_0 : Addr) (h0 : Heap) (n0 : Nat) (v : Option Value) (h : Heap) (L : List Loc) : Prop := ∃ bx14_0 : Addr, ∃ kx14_0 : ClassId, v = none ∧ Fr n0 L ∧ Keep h0 h [a14_0] ∧ own_StK Z h0 h ∧ h0.size ≤ bx14_0 ∧ Exa Z h a14_0 oB ∧ Fld Z h a14_0 oB "wordsInUse" "I" (.int (0 : Int32)) ∧ Fld Z h a14_0 oB "sizeIsSticky" "Z" (.int (1 : Int32)) ∧ Fld Z h a14_0 oB "words" "[J" (.ref bx14_0) ∧ Arv Z h bx14_0 kx14_0 .long (1 : Int32) [oZ] oZ
theorem rm14_3 (l : Launch) (Z : State) (a0 : Array Value) (hw : own_T Z a0) (a14_0 : Addr) (h0 : Heap) (n0 : Nat) (Z0 : n0 ≤ h0.size) (E_a : Exa Z h0 a14_0 oB) (F_wordsInUse : Fld Z h0 a14_0 oB "wordsInUse" "I" (.int (0 : Int32))) (F_sizeIsSticky : Fld Z h0 a14_0 oB "sizeIsSticky" "Z" (.int (0 : Int32))) (F_words : Fld Z h0 a14_0 oB "words" "[J" .null) (g_a14_0 : n0 ≤ a14_0) :
   own_Met l oy14 oc14 2 none ({ frames := 2, cells := 1, slots := 1, locals := 26 } : Room) Z h0 #[(.ref a14_0), (.int (4 : Int32))] (Q_rm14_3 Z a14_0 h0 n0) := by
 refine own_go hw (plainFor_of_name pn_14) (fun m => ef_rm14_3 m a14_0) fun p e s m below meth c T0 C hret X0 e0 => ?_
 have N0 := Fr.nil n0
 refine sA C X0 d14_0 ?_
 refine iO C X0 e0 (W := 0) (ow31 C.w) (ow14 C.w) (ow15 C.w) d14_1 fun T1 X1 e1 => ?_
 refine sA C X1 d14_4 ?_
 refine sC C X1 d14_5 ?_
 refine pF C X1 e1 N0 g_a14_0 F_wordsInUse E_a (ty := .int) (ow32 C.w) (ow33 C.w) (ow26 C.w) (by decide) d14_6 fun T2 h2 lo2 X2 e2 N2 W2 F2 => ?_
 have S2 : own_StK Z h0 h2 := (own_StK.refl Z h0).wr W2
 have K2 : Keep h0 h2 [a14_0] := (Keep.refl h0 [a14_0]).wr W2 (Or.inl (List.mem_of_getElem? (i := 0) rfl))
 have Z2 : n0 ≤ h2.size := Nat.le_trans Z0 K2.1
 refine sA C X2 d14_9 ?_
 refine sC C X2 d14_10 ?_
 have f3 := (E_a.wr W2)
 have f4 := (F_sizeIsSticky.other W2 (Or.inr (slot_ne (Or.inl (ow35 hw)) (Or.inl (ow33 hw)) (by decide) (t := .boolean) (t' := .int) (by decide) (by decide))))
 refine pF C X2 e2 N2 g_a14_0 f4 f3 (ty := .boolean) (ow34 C.w) (ow35 C.w) (ow26 C.w) (by decide) d14_11 fun T5 h5 lo5 X5 e5 N5 W5 F5 => ?_
 have S5 : own_StK Z h0 h5 := S2.wr W5
 have K5 : Keep h0 h5 [a14_0] := K2.wr W5 (Or.inl (List.mem_of_getElem? (i := 0) rfl))
 have Z5 : n0 ≤ h5.size := Nat.le_trans Z0 K5.1
 refine sI C X5 d14_14 ?_
 refine bY C X5 d14_15 45 ((if0 _ _).trans (flt (by decide : ¬ ((4 : Int32) < (0 : Int32)))).2.1) ?_
 refine sA C X5 d14_45 ?_
 refine sI C X5 d14_46 ?_
 have f6 := (f3.wr W5)
 have f7 := (F2.other W5 (Or.inr (slot_ne (Or.inl (ow33 hw)) (Or.inl (ow35 hw)) (by decide) (t := .int) (t' := .boolean) (by decide) (by decide))))
 have f8 := ((F_words.other W2 (Or.inr (slot_ne (Or.inl (ow45 hw)) (Or.inl (ow33 hw)) (by decide) (t := (.array .long)) (t' := .int) (by decide) (by decide)))).other W5 (Or.inr (slot_ne (Or.inl (ow45 hw)) (Or.inl (ow35 hw)) (by decide) (t := (.array .long)) (t' := .boolean) (by decide) (by decide))))
 refine cP C X5 e5 (rm5_4 l Z a0 C.w a14_0 h5 n0 Z5 f6 f7 F5 f8 g_a14_0) f6 (W := 0) (ow36 C.w) (ow37 C.w) (mvT C.z (ow39 C.w)) (ow38 C.w) (ow40 C.w) (ow27 C.w) (argsL := [(.int (4 : Int32))]) (lenOf pd__I_V rfl) d14_47 fun v9 T9 lo9 X9 hQ9 => ?_
 obtain ⟨bx5_0_9, kx5_0_9, rfl, Nq9, Kc9, Sc9, P9_0, P9_1, P9_2, P9_3, P9_4, P9_5⟩ := hQ9
 have S9 : own_StK Z h0 T9.heap := S5.tr Sc9
 have K9 : Keep h0 T9.heap [a14_0] := Keep.trans K5 Kc9 (allS (P := fun x => x ∈ ([a14_0] : List Addr) ∨ h0.size ≤ x) (Or.inl (List.mem_of_getElem? (i := 0) rfl)) all0)
 have Z9 : n0 ≤ T9.heap.size := Nat.le_trans Z0 K9.1
 have g_bx5_0_9 : n0 ≤ bx5_0_9 := Nat.le_trans Z5 P9_0
 have sz_bx5_0_9 : h0.size ≤ bx5_0_9 := Nat.le_trans K5.1 P9_0
 have ne_a14_0_bx5_0_9 : a14_0 ≠ bx5_0_9 := Nat.ne_of_lt (Nat.lt_of_lt_of_le f6.lt P9_0)
 refine sA C X9 d14_50 ?_
 refine sC C X9 d14_51 ?_
 refine pF C X9 rfl (N5.app Nq9) g_a14_0 P9_3 P9_1 (ty := .boolean) (ow34 C.w) (ow35 C.w) (ow26 C.w) (by decide) d14_52 fun T10 h10 lo10 X10 e10 N10 W10 F10 => ?_
 have S10 : own_StK Z h0 h10 := S9.wr W10
 have K10 : Keep h0 h10 [a14_0] := K9.wr W10 (Or.inl (List.mem_of_getElem? (i := 0) rfl))
 have Z10 : n0 ≤ h10.size := Nat.le_trans Z0 K10.1
 have f11 := (P9_1.wr W10)
 have f12 := (P9_2.other W10 (Or.inr (slot_ne (Or.inl (ow33 hw)) (Or.inl (ow35 hw)) (by decide) (t := .int) (t' := .boolean) (by decide) (by decide))))
 have f13 := (P9_4.other W10 (Or.inr (slot_ne (Or.inl (ow45 hw)) (Or.inl (ow35 hw)) (by decide) (t := (.array .long)) (t' := .boolean) (by decide) (by decide))))
 have f14 := (P9_5.other W10 (Ne.symm ne_a14_0_bx5_0_9))
 refine rV C X10 e10 hret d14_55 ?_
 exact ⟨bx5_0_9, kx5_0_9, rfl, N10, K10, S10, sz_bx5_0_9, f11, f12, F10, f13, f14⟩
theorem ef_rm16_3 (m : MethodId)  : entryFrame m #[(.int (0 : Int32)), (.int (1 : Int32))] 2 = mkF m 0 #[oI 0, oI 1] [] := by first | (simp [entryFrame, mkF, argsToLocals, Value.category]; done) | rfl
def Q_rm16_3 (Z : State)  (h0 : Heap) (n0 : Nat) (v : Option Value) (h : Heap) (L : List Loc) : Prop := v = none ∧ Fr n0 L ∧ h = h0
theorem rm16_3 (l : Launch) (Z : State) (a0 : Array Value) (hw : own_T Z a0)  (h0 : Heap) (n0 : Nat) (Z0 : n0 ≤ h0.size) :
   own_Met l oy16 oc16 2 none ({ frames := 0, cells := 0, slots := 0, locals := 0 } : Room) Z h0 #[(.int (0 : Int32)), (.int (1 : Int32))] (Q_rm16_3 Z  h0 n0) := by
 refine own_go hw (plainFor_of_name pn_16) (fun m => ef_rm16_3 m) fun p e s m below meth c T0 C hret X0 e0 => ?_
 have N0 := Fr.nil n0
 refine sI C X0 d16_0 ?_
 refine bY C X0 d16_1 31 ((if0 _ _).trans (flt (by decide : ¬ ((0 : Int32) < (0 : Int32)))).2.1) ?_
 refine sI C X0 d16_31 ?_
 refine bY C X0 d16_32 62 ((if0 _ _).trans (flt (by decide : ¬ ((1 : Int32) < (0 : Int32)))).2.1) ?_
 refine sI C X0 d16_62 ?_
 refine sI C X0 d16_63 ?_
 refine cY C X0 d16_64 103 ((flt (by decide : ¬ ((1 : Int32) < (0 : Int32)))).2.2.2) ?_
 refine rV C X0 e0 hret d16_103 ?_
 exact ⟨rfl, N0, rfl⟩
theorem ef_rm15_3 (m : MethodId) (y0 : Addr) : entryFrame m #[(.ref y0), (.int (0 : Int32)), (.int (1 : Int32))] 10 = mkF m 0 #[oR y0, oI 0, oI 1, oU, oU, oU, oU, oU, oU, oU] [] := by first | (simp [entryFrame, mkF, argsToLocals, Value.category]; done) | rfl
def Q_rm15_3 (Z : State) (a15_0 ww : Addr) (kc_ww : ClassId) (t_ww_0 : Int64) (h0 : Heap) (n0 : Nat) (v : Option Value) (h : Heap) (L : List Loc) : Prop := v = none ∧ Fr n0 L ∧ Keep h0 h [a15_0, ww] ∧ own_StK Z h0 h ∧ Exa Z h a15_0 oB ∧ Fld Z h a15_0 oB "wordsInUse" "I" (.int (1 : Int32)) ∧ Fld Z h a15_0 oB "sizeIsSticky" "Z" (.int (1 : Int32)) ∧ Fld Z h a15_0 oB "words" "[J" (.ref ww) ∧ Arv Z h ww kc_ww .long (1 : Int32) [(.long (t_ww_0 ||| (1 : Int64)))] oZ
theorem rm15_3 (l : Launch) (Z : State) (a0 : Array Value) (hw : own_T Z a0) (a15_0 ww : Addr) (kc_ww : ClassId) (t_ww_0 : Int64) (h0 : Heap) (n0 : Nat) (Z0 : n0 ≤ h0.size) (E_a : Exa Z h0 a15_0 oB) (F_wordsInUse : Fld Z h0 a15_0 oB "wordsInUse" "I" (.int (0 : Int32))) (F_sizeIsSticky : Fld Z h0 a15_0 oB "sizeIsSticky" "Z" (.int (1 : Int32))) (F_words : Fld Z h0 a15_0 oB "words" "[J" (.ref ww)) (V_ww : Arv Z h0 ww kc_ww .long (1 : Int32) [(.long t_ww_0)] oZ) (g_a15_0 : n0 ≤ a15_0) (ne_ww_a15_0 : ww ≠ a15_0) (g_ww : n0 ≤ ww) (Sta1 : Sta Z h0 oB "$assertionsDisabled" "Z" (.int (1 : Int32))) :
   own_Met l oy15 oc15 10 none ({ frames := 2, cells := 0, slots := 0, locals := 28 } : Room) Z h0 #[(.ref a15_0), (.int (0 : Int32)), (.int (1 : Int32))] (Q_rm15_3 Z a15_0 ww kc_ww t_ww_0 h0 n0) := by
 refine own_go hw (plainFor_of_name pn_15) (fun m => ef_rm15_3 m a15_0) fun p e s m below meth c T0 C hret X0 e0 => ?_
 have N0 := Fr.nil n0
 refine sI C X0 d15_0 ?_
 refine sI C X0 d15_1 ?_
 refine cS C X0 e0 (rm16_3 l Z a0 C.w  h0 n0 Z0 ) (W := 0) (ow95 C.w) (ow96 C.w) (ow97 C.w) (ow27 C.w) (argsL := [(.int (0 : Int32)), (.int (1 : Int32))]) (lenOf pd__II_V rfl) d15_2 fun v1 T1 lo1 X1 hQ1 => ?_
 obtain ⟨rfl, Nq1, e1⟩ := hQ1
 refine sI C X1 d15_5 ?_
 refine sI C X1 d15_6 ?_
 refine cY C X1 d15_7 11 ((feq (by decide : ¬ ((0 : Int32) = (1 : Int32)))).2) ?_
 refine sI C X1 d15_11 ?_
 refine cS C X1 e1 (fun ws => rm6 l Z a0 C.w ws (0 : Int32) h0 n0 Z0 ) (W := 0) (ow41 C.w) (ow42 C.w) (ow43 C.w) (ow27 C.w) (argsL := [(.int (0 : Int32))]) (lenOf pd__I_I rfl) d15_12 fun v2 T2 lo2 X2 hQ2 => ?_
 obtain ⟨rfl, Nq2, e2⟩ := hQ2
 rw [show ((0 : Int32) >>> ((6 : Int32) &&& 31)) = (0 : Int32) from by decide +kernel]
 refine wI C X2 #[oR a15_0, oI 0, oI 1, oI 0, oU, oU, oU, oU, oU, oU] d15_15 ?_
 refine sI C X2 d15_16 ?_
 refine sC C X2 d15_17 ?_
 refine sS C X2 d15_18 ?_
 refine cS C X2 e2 (fun ws => rm6 l Z a0 C.w ws (0 : Int32) h0 n0 Z0 ) (W := 0) (ow41 C.w) (ow42 C.w) (ow43 C.w) (ow27 C.w) (argsL := [(.int (0 : Int32))]) (lenOf pd__I_I rfl) d15_19 fun v4 T4 lo4 X4 hQ4 => ?_
 obtain ⟨rfl, Nq4, e4⟩ := hQ4
 rw [show ((0 : Int32) >>> ((6 : Int32) &&& 31)) = (0 : Int32) from by decide +kernel]
 refine wi C X4 #[oR a15_0, oI 0, oI 1, oI 0, oI 0, oU, oU, oU, oU, oU] d15_22 ?_
 refine sA C X4 d15_24 ?_
 refine si C X4 d15_25 ?_
 refine cP C X4 e4 (rm21_1 l Z a0 C.w a15_0 ww kc_ww t_ww_0 h0 n0 Z0 E_a F_wordsInUse F_sizeIsSticky F_words V_ww g_a15_0) E_a (W := 0) (ow116 C.w) (ow117 C.w) (mvT C.z (ow119 C.w)) (ow118 C.w) (ow120 C.w) (ow27 C.w) (argsL := [(.int (0 : Int32))]) (lenOf pd__I_V rfl) d15_27 fun v6 T6 lo6 X6 hQ6 => ?_
 obtain ⟨rfl, Nq6, Kc6, Sc6, P6_0, P6_1, P6_2, P6_3⟩ := hQ6
 have S6 : own_StK Z h0 T6.heap := (own_StK.refl Z h0).tr Sc6
 have K6 : Keep h0 T6.heap [a15_0, ww] := Keep.trans (Keep.refl h0 [a15_0, ww]) Kc6 (allS (P := fun x => x ∈ ([a15_0, ww] : List Addr) ∨ h0.size ≤ x) (Or.inl (List.mem_of_getElem? (i := 0) rfl)) all0)
 have Z6 : n0 ≤ T6.heap.size := Nat.le_trans Z0 K6.1
 refine kJ C X6 (ow140 C.w) d15_30 ?_
 refine sI C X6 d15_33 ?_
 refine tH C X6 d15_34 ?_
 refine wl C X6 #[oR a15_0, oI 0, oI 1, oI 0, oI 0, oJ (-1), oD, oU, oU, oU] d15_35 ?_
 refine kJ C X6 (ow140 C.w) d15_37 ?_
 refine sI C X6 d15_40 ?_
 refine sE C X6 d15_41 ?_
 refine tU C X6 d15_42 ?_
 refine wl C X6 #[oR a15_0, oI 0, oI 1, oI 0, oI 0, oJ (-1), oD, oJ 1, oD, oU] d15_43 ?_
 refine sI C X6 d15_45 ?_
 refine si C X6 d15_46 ?_
 refine cN C X6 d15_48 ((teq (by decide : (0 : Int32) = (0 : Int32))).2) ?_
 refine gA C X6 rfl P6_3 (ow44 C.w) d15_51 d15_52 fun T7 X7 e7 => ?_
 refine sI C X7 d15_55 ?_
 show own_Fin p l e _ s m _ below meth c _ T7 (mkF m 56 #[oR a15_0, oI 0, oI 1, oI 0, oI 0, oJ (-1), oD, oJ 1, oD, oU] [(.int (0 : Int32)), (.ref ww)])
 refine own_Fin.st (g' := (mkF m 57 #[oR a15_0, oI 0, oI 1, oI 0, oI 0, oJ (-1), oD, oJ 1, oD, oU] [(.int (0 : Int32)), (.ref ww), (.int (0 : Int32)), (.ref ww)])) ?_ (fun t k => by jvm_step X7.here [X7.here.top, C.1, C.d d15_56, Value.category]; exact k)
 have f8 := (V_ww.keep Kc6 (ninS ne_ww_a15_0 nin0))
 refine lA C X7 e7 f8 d15_57 ?_
 refine sl C X7 d15_58 ?_
 refine sl C X7 d15_60 ?_
 refine tA C X7 d15_62 ?_
 refine tO C X7 d15_63 ?_
 refine sJ C X7 e7 ((((N0.app Nq1).app Nq2).app Nq4).app Nq6) g_ww f8 _ d15_64 fun T9 h9 lo9 X9 e9 N9 W9 V9 => ?_
 have S9 : own_StK Z h0 h9 := S6.wr W9
 have K9 : Keep h0 h9 [a15_0, ww] := K6.wr W9 (Or.inl (List.mem_of_getElem? (i := 1) rfl))
 have Z9 : n0 ≤ h9.size := Nat.le_trans Z0 K9.1
 refine sG C X9 d15_65 119 ?_
 refine sA C X9 d15_119 ?_
 have f11 := (P6_0.wr W9)
 refine cP C X9 e9 (fun ws => rm13 l Z a0 C.w ws a15_0 h9 n0 Z9 (S9 _ _ _ _ Sta1)) f11 (W := 0) (ow81 C.w) (ow82 C.w) (mvT C.z (ow84 C.w)) (ow83 C.w) (ow85 C.w) (ow27 C.w) (argsL := []) (lenOf pd___V rfl) d15_120 fun v10 T10 lo10 X10 hQ10 => ?_
 obtain ⟨rfl, Nq10, e10⟩ := hQ10
 have f12 := (P6_1.other W9 (Or.inl (Ne.symm ne_ww_a15_0)))
 have f13 := (P6_2.other W9 (Or.inl (Ne.symm ne_ww_a15_0)))
 have f14 := (P6_3.other W9 (Or.inl (Ne.symm ne_ww_a15_0)))
 refine rV C X10 e10 hret d15_123 ?_
 exact ⟨rfl, (N9.app Nq10), K9, S9, f11, f12, f13, f14, V9⟩
theorem ef_rm18_3 (m : MethodId)  : entryFrame m #[(.int (8 : Int32)), (.int (4 : Int32)), (.int (8 : Int32))] 3 = mkF m 0 #[oI 8, oI 4, oI 8] [] := by first | (simp [entryFrame, mkF, argsToLocals, Value.category]; done) | rfl
def Q_rm18_3 (Z : State)  (h0 : Heap) (n0 : Nat) (v : Option Value) (h : Heap) (L : List Loc) : Prop := v = none ∧ Fr n0 L ∧ h = h0
theorem rm18_3 (l : Launch) (Z : State) (a0 : Array Value) (hw : own_T Z a0)  (h0 : Heap) (n0 : Nat) (Z0 : n0 ≤ h0.size) :
   own_Met l oy18 oc18 3 none ({ frames := 0, cells := 0, slots := 0, locals := 0 } : Room) Z h0 #[(.int (8 : Int32)), (.int (4 : Int32)), (.int (8 : Int32))] (Q_rm18_3 Z  h0 n0) := by
 refine own_go hw (plainFor_of_name pn_18) (fun m => ef_rm18_3 m) fun p e s m below meth c T0 C hret X0 e0 => ?_
 have N0 := Fr.nil n0
 refine sI C X0 d18_0 ?_
 refine sI C X0 d18_1 ?_
 refine cY C X0 d18_2 46 ((flt (by decide : ¬ ((8 : Int32) < (4 : Int32)))).2.2.2) ?_
 refine sI C X0 d18_46 ?_
 refine bY C X0 d18_47 59 ((if0 _ _).trans (flt (by decide : ¬ ((4 : Int32) < (0 : Int32)))).2.1) ?_
 refine sI C X0 d18_59 ?_
 refine sI C X0 d18_60 ?_
 refine cY C X0 d18_61 73 ((flt (by decide : ¬ ((8 : Int32) < (8 : Int32)))).2.2.2) ?_
 refine rV C X0 e0 hret d18_73 ?_
 exact ⟨rfl, N0, rfl⟩
theorem ef_rm17_3 (m : MethodId) (y0 : Addr) : entryFrame m #[(.ref y0), (.int (4 : Int32)), (.int (8 : Int32)), (.long oM)] 6 = mkF m 0 #[oR y0, oI 4, oI 8, oJ 9223372036854775807, oD, oU] [] := by first | (simp [entryFrame, mkF, argsToLocals, Value.category]; done) | rfl
def Q_rm17_3 (Z : State) (a17_0 : Addr) (kc_a17_0 : ClassId) (t_a17_0_0 t_a17_0_1 t_a17_0_2 t_a17_0_3 t_a17_0_4 t_a17_0_5 t_a17_0_6 t_a17_0_7 : Int64) (h0 : Heap) (n0 : Nat) (v : Option Value) (h : Heap) (L : List Loc) : Prop := v = none ∧ Fr n0 L ∧ Keep h0 h [a17_0] ∧ own_StK Z h0 h ∧ Arv Z h a17_0 kc_a17_0 .long (8 : Int32) [(.long t_a17_0_0), (.long t_a17_0_1), (.long t_a17_0_2), (.long t_a17_0_3), (.long oM), (.long oM), (.long oM), (.long oM)] oZ
theorem rm17_3 (l : Launch) (Z : State) (a0 : Array Value) (hw : own_T Z a0) (a17_0 : Addr) (kc_a17_0 : ClassId) (t_a17_0_0 t_a17_0_1 t_a17_0_2 t_a17_0_3 t_a17_0_4 t_a17_0_5 t_a17_0_6 t_a17_0_7 : Int64) (h0 : Heap) (n0 : Nat) (Z0 : n0 ≤ h0.size) (V_a17_0 : Arv Z h0 a17_0 kc_a17_0 .long (8 : Int32) [(.long t_a17_0_0), (.long t_a17_0_1), (.long t_a17_0_2), (.long t_a17_0_3), (.long t_a17_0_4), (.long t_a17_0_5), (.long t_a17_0_6), (.long t_a17_0_7)] oZ) (g_a17_0 : n0 ≤ a17_0) :
   own_Met l oy17 oc17 6 none ({ frames := 1, cells := 0, slots := 0, locals := 14 } : Room) Z h0 #[(.ref a17_0), (.int (4 : Int32)), (.int (8 : Int32)), (.long oM)] (Q_rm17_3 Z a17_0 kc_a17_0 t_a17_0_0 t_a17_0_1 t_a17_0_2 t_a17_0_3 t_a17_0_4 t_a17_0_5 t_a17_0_6 t_a17_0_7 h0 n0) := by
 refine own_go hw (plainFor_of_name pn_17) (fun m => ef_rm17_3 m a17_0) fun p e s m below meth c T0 C hret X0 e0 => ?_
 have N0 := Fr.nil n0
 refine sA C X0 d17_0 ?_
 refine nA C X0 e0 V_a17_0 d17_1 ?_
 refine sI C X0 d17_2 ?_
 refine sI C X0 d17_3 ?_
 refine cS C X0 e0 (rm18_3 l Z a0 C.w  h0 n0 Z0 ) (W := 0) (ow103 C.w) (ow104 C.w) (ow105 C.w) (ow101 C.w) (argsL := [(.int (8 : Int32)), (.int (4 : Int32)), (.int (8 : Int32))]) (lenOf pd__III_V rfl) d17_4 fun v1 T1 lo1 X1 hQ1 => ?_
 obtain ⟨rfl, Nq1, e1⟩ := hQ1
 refine sI C X1 d17_7 ?_
 refine wi C X1 #[oR a17_0, oI 4, oI 8, oJ 9223372036854775807, oD, oI 4] d17_8 ?_
 refine si C X1 d17_10 ?_
 refine sI C X1 d17_12 ?_
 refine cN C X1 d17_13 ((tlt (by decide : (4 : Int32) < (8 : Int32))).2.1) ?_
 refine sA C X1 d17_16 ?_
 refine si C X1 d17_17 ?_
 refine sL C X1 d17_19 ?_
 refine sJ C X1 e1 (N0.app Nq1) g_a17_0 V_a17_0 _ d17_20 fun T2 h2 lo2 X2 e2 N2 W2 V2 => ?_
 have S2 : own_StK Z h0 h2 := (own_StK.refl Z h0).wr W2
 have K2 : Keep h0 h2 [a17_0] := (Keep.refl h0 [a17_0]).wr W2 (Or.inl (List.mem_of_getElem? (i := 0) rfl))
 have Z2 : n0 ≤ h2.size := Nat.le_trans Z0 K2.1
 refine wc C X2 #[oR a17_0, oI 4, oI 8, oJ 9223372036854775807, oD, oI 5] d17_21 ?_
 refine sG C X2 d17_24 10 ?_
 refine si C X2 d17_10 ?_
 refine sI C X2 d17_12 ?_
 refine cN C X2 d17_13 ((tlt (by decide : (5 : Int32) < (8 : Int32))).2.1) ?_
 refine sA C X2 d17_16 ?_
 refine si C X2 d17_17 ?_
 refine sL C X2 d17_19 ?_
 refine sJ C X2 e2 N2 g_a17_0 V2 _ d17_20 fun T3 h3 lo3 X3 e3 N3 W3 V3 => ?_
 have S3 : own_StK Z h0 h3 := S2.wr W3
 have K3 : Keep h0 h3 [a17_0] := K2.wr W3 (Or.inl (List.mem_of_getElem? (i := 0) rfl))
 have Z3 : n0 ≤ h3.size := Nat.le_trans Z0 K3.1
 refine wc C X3 #[oR a17_0, oI 4, oI 8, oJ 9223372036854775807, oD, oI 6] d17_21 ?_
 refine sG C X3 d17_24 10 ?_
 refine si C X3 d17_10 ?_
 refine sI C X3 d17_12 ?_
 refine cN C X3 d17_13 ((tlt (by decide : (6 : Int32) < (8 : Int32))).2.1) ?_
 refine sA C X3 d17_16 ?_
 refine si C X3 d17_17 ?_
 refine sL C X3 d17_19 ?_
 refine sJ C X3 e3 N3 g_a17_0 V3 _ d17_20 fun T4 h4 lo4 X4 e4 N4 W4 V4 => ?_
 have S4 : own_StK Z h0 h4 := S3.wr W4
 have K4 : Keep h0 h4 [a17_0] := K3.wr W4 (Or.inl (List.mem_of_getElem? (i := 0) rfl))
 have Z4 : n0 ≤ h4.size := Nat.le_trans Z0 K4.1
 refine wc C X4 #[oR a17_0, oI 4, oI 8, oJ 9223372036854775807, oD, oI 7] d17_21 ?_
 refine sG C X4 d17_24 10 ?_
 refine si C X4 d17_10 ?_
 refine sI C X4 d17_12 ?_
 refine cN C X4 d17_13 ((tlt (by decide : (7 : Int32) < (8 : Int32))).2.1) ?_
 refine sA C X4 d17_16 ?_
 refine si C X4 d17_17 ?_
 refine sL C X4 d17_19 ?_
 refine sJ C X4 e4 N4 g_a17_0 V4 _ d17_20 fun T5 h5 lo5 X5 e5 N5 W5 V5 => ?_
 have S5 : own_StK Z h0 h5 := S4.wr W5
 have K5 : Keep h0 h5 [a17_0] := K4.wr W5 (Or.inl (List.mem_of_getElem? (i := 0) rfl))
 have Z5 : n0 ≤ h5.size := Nat.le_trans Z0 K5.1
 refine wc C X5 #[oR a17_0, oI 4, oI 8, oJ 9223372036854775807, oD, oI 8] d17_21 ?_
 refine sG C X5 d17_24 10 ?_
 refine si C X5 d17_10 ?_
 refine sI C X5 d17_12 ?_
 refine cY C X5 d17_13 27 ((flt (by decide : ¬ ((8 : Int32) < (8 : Int32)))).2.1) ?_
 refine rV C X5 e5 hret d17_27 ?_
 exact ⟨rfl, N5, K5, S5, V5⟩
theorem ef_rm11_3 (m : MethodId) (y0 : Addr) : entryFrame m #[(.ref y0), (.int (4 : Int32))] 8 = mkF m 0 #[oR y0, oI 4, oU, oU, oU, oU, oU, oU] [] := by first | (simp [entryFrame, mkF, argsToLocals, Value.category]; done) | rfl
def Q_rm11_3 (Z : State) (a11_0 : Addr) (rT : Addr) (rF : Addr) (rO : Addr) (rS : Addr) (rE : Addr) (rW : Addr) (kT : ClassId) (kF : ClassId) (kO : ClassId) (kW : ClassId) (bs : Int64) (tm0 : Int64) (tm1 : Int64) (fr0 : Int64) (fr1 : Int64) (to0 : Int64) (to1 : Int64) (T : Int64) (h0 : Heap) (n0 : Nat) (v : Option Value) (h : Heap) (L : List Loc) : Prop := v = none ∧ Fr n0 L ∧ ∃ rT' : Addr, ∃ rF' : Addr, ∃ rO' : Addr, ∃ rS' : Addr, ∃ rE' : Addr, ∃ rW' : Addr, ∃ kT' : ClassId, ∃ kF' : ClassId, ∃ kO' : ClassId, ∃ kW' : ClassId, own_Obj Z h n0 a11_0 rT' rF' rO' rS' rE' rW' kT' kF' kO' kW' (0 : Int32) (1 : Int32) (1 : Int32) bs (1 : Int32) (1 : Int32) (1 : Int64) (4 : Int32) [(.long tm1), oZ, oZ, oZ] [(.long fr1), oZ, oZ, oZ] [(.long to1), oZ, oZ, oZ] ∧ own_Sp4 Z h rS' oM oM oM oM
theorem rm11_3 (l : Launch) (Z : State) (a0 : Array Value) (hw : own_T Z a0) (a11_0 rT rF rO rS rE rW : Addr) (kT kF kO kW : ClassId) (bs tm0 tm1 fr0 fr1 to0 to1 T : Int64) (h0 : Heap) (n0 : Nat) (Z0 : n0 ≤ h0.size) (O : own_Obj Z h0 n0 a11_0 rT rF rO rS rE rW kT kF kO kW (1 : Int32) (2 : Int32) (1 : Int32) bs (1 : Int32) (1 : Int32) (2 : Int64) (2 : Int32) [(.long tm0), (.long tm1)] [(.long fr0), (.long fr1)] [(.long to0), (.long to1)]) (SP : own_Sp2 Z h0 rS oM oM) (htm1 : own_near T tm1) (hfr1 : own_near T fr1) :
   own_Met l oy11 oc11 8 none ({ frames := 3, cells := 6, slots := 24, locals := 49 } : Room) Z h0 #[(.ref a11_0), (.int (4 : Int32))] (Q_rm11_3 Z a11_0 rT rF rO rS rE rW kT kF kO kW bs tm0 tm1 fr0 fr1 to0 to1 T h0 n0) := by
 refine own_go hw (plainFor_of_name pn_11) (fun m => ef_rm11_3 m a11_0) fun p e s m below meth c T0 C hret X0 e0 => ?_
 have N0 := Fr.nil n0
 obtain ⟨Ea1, Ftimes1, Ffroms1, Ftotals1, Fspans1, Fentries1, Fsize1, Fend1, Ffirst1, Fbase1, Ee1, BwordsInUse1, BsizeIsSticky1, Bwords1, Vt1, Vf1, Vo1, Vw1, St1, g0_1, g1_1, g2_1, g3_1, g4_1, g5_1, g6_1, n0_1, n1_1, n2_1, n3_1, n4_1, n5_1, n6_1, n7_1, n8_1, n9_1, n10_1, n11_1, n12_1, n13_1, n14_1, n15_1, n16_1, n17_1, n18_1, n19_1, n20_1⟩ := O
 refine sI C X0 d11_0 ?_
 refine gA C X0 e0 Ftimes1 (ow17 C.w) d11_1 d11_2 fun T2 X2 e2 => ?_
 refine nA C X2 e2 Vt1 d11_5 ?_
 refine cN C X2 d11_6 ((feq (by decide : ¬ ((4 : Int32) = (2 : Int32)))).1) ?_
 refine sC C X2 d11_9 ?_
 refine sG C X2 d11_10 14 ?_
 refine wI C X2 #[oR a11_0, oI 4, oI 1, oU, oU, oU, oU, oU] d11_14 ?_
 refine sI C X2 d11_15 ?_
 refine bN C X2 d11_16 ((if0 _ _).trans (feq (by decide : ¬ ((1 : Int32) = (0 : Int32)))).1) ?_
 refine sI C X2 d11_19 ?_
 refine nP C X2 e2 (n := (4 : Int32)) 4 [oZ, oZ, oZ, oZ] (ow16 C.w) d11_20 fun T3 h3 k3 b3 g3 X3 e3 E3 V_b3 => ?_
 have ne_a11_0_b3 : a11_0 ≠ b3 := Nat.ne_of_lt (Nat.lt_of_lt_of_le (Nat.lt_of_lt_of_le Ea1.lt (Nat.le_refl _)) (Nat.le_of_eq g3.symm))
 have ne_rE_b3 : rE ≠ b3 := Nat.ne_of_lt (Nat.lt_of_lt_of_le (Nat.lt_of_lt_of_le Ee1.lt (Nat.le_refl _)) (Nat.le_of_eq g3.symm))
 have ne_rT_b3 : rT ≠ b3 := Nat.ne_of_lt (Nat.lt_of_lt_of_le (Nat.lt_of_lt_of_le Vt1.lt (Nat.le_refl _)) (Nat.le_of_eq g3.symm))
 have ne_rF_b3 : rF ≠ b3 := Nat.ne_of_lt (Nat.lt_of_lt_of_le (Nat.lt_of_lt_of_le Vf1.lt (Nat.le_refl _)) (Nat.le_of_eq g3.symm))
 have ne_rO_b3 : rO ≠ b3 := Nat.ne_of_lt (Nat.lt_of_lt_of_le (Nat.lt_of_lt_of_le Vo1.lt (Nat.le_refl _)) (Nat.le_of_eq g3.symm))
 have ne_rW_b3 : rW ≠ b3 := Nat.ne_of_lt (Nat.lt_of_lt_of_le (Nat.lt_of_lt_of_le Vw1.lt (Nat.le_refl _)) (Nat.le_of_eq g3.symm))
 have ne_rS_b3 : rS ≠ b3 := Nat.ne_of_lt (Nat.lt_of_lt_of_le (Nat.lt_of_lt_of_le SP.lt (Nat.le_refl _)) (Nat.le_of_eq g3.symm))
 have g_b3 : n0 ≤ b3 := Nat.le_trans Z0 (Nat.le_of_eq g3.symm)
 have S3 : own_StK Z h0 h3 := (own_StK.refl Z h0).ext E3
 have Y3 : h0.size ≤ h3.size := Nat.le_trans (Nat.le_refl _) E3.1
 refine sG C X3 d11_22 29 ?_
 refine wA C X3 #[oR a11_0, oI 4, oI 1, oR b3, oU, oU, oU, oU] d11_29 ?_
 refine sI C X3 d11_30 ?_
 refine bN C X3 d11_31 ((if0 _ _).trans (feq (by decide : ¬ ((1 : Int32) = (0 : Int32)))).1) ?_
 refine sI C X3 d11_34 ?_
 refine nP C X3 e3 (n := (4 : Int32)) 4 [oZ, oZ, oZ, oZ] (ow16 C.w) d11_35 fun T4 h4 k4 b4 g4 X4 e4 E4 V_b4 => ?_
 have ne_a11_0_b4 : a11_0 ≠ b4 := Nat.ne_of_lt (Nat.lt_of_lt_of_le (Nat.lt_of_lt_of_le Ea1.lt Y3) (Nat.le_of_eq g4.symm))
 have ne_rE_b4 : rE ≠ b4 := Nat.ne_of_lt (Nat.lt_of_lt_of_le (Nat.lt_of_lt_of_le Ee1.lt Y3) (Nat.le_of_eq g4.symm))
 have ne_rT_b4 : rT ≠ b4 := Nat.ne_of_lt (Nat.lt_of_lt_of_le (Nat.lt_of_lt_of_le Vt1.lt Y3) (Nat.le_of_eq g4.symm))
 have ne_rF_b4 : rF ≠ b4 := Nat.ne_of_lt (Nat.lt_of_lt_of_le (Nat.lt_of_lt_of_le Vf1.lt Y3) (Nat.le_of_eq g4.symm))
 have ne_rO_b4 : rO ≠ b4 := Nat.ne_of_lt (Nat.lt_of_lt_of_le (Nat.lt_of_lt_of_le Vo1.lt Y3) (Nat.le_of_eq g4.symm))
 have ne_rW_b4 : rW ≠ b4 := Nat.ne_of_lt (Nat.lt_of_lt_of_le (Nat.lt_of_lt_of_le Vw1.lt Y3) (Nat.le_of_eq g4.symm))
 have ne_rS_b4 : rS ≠ b4 := Nat.ne_of_lt (Nat.lt_of_lt_of_le (Nat.lt_of_lt_of_le SP.lt Y3) (Nat.le_of_eq g4.symm))
 have ne_b3_b4 : b3 ≠ b4 := Nat.ne_of_lt (Nat.lt_of_lt_of_le V_b3.lt (Nat.le_of_eq g4.symm))
 have g_b4 : n0 ≤ b4 := Nat.le_trans (Nat.le_trans Z0 Y3) (Nat.le_of_eq g4.symm)
 have S4 : own_StK Z h0 h4 := S3.ext E4
 have Y4 : h0.size ≤ h4.size := Nat.le_trans Y3 E4.1
 refine sG C X4 d11_37 44 ?_
 refine wa C X4 #[oR a11_0, oI 4, oI 1, oR b3, oR b4, oU, oU, oU] d11_44 ?_
 refine sI C X4 d11_46 ?_
 refine bN C X4 d11_47 ((if0 _ _).trans (feq (by decide : ¬ ((1 : Int32) = (0 : Int32)))).1) ?_
 refine sI C X4 d11_50 ?_
 have f5 := (V_b3.ext E4)
 refine nP C X4 e4 (n := (4 : Int32)) 4 [oZ, oZ, oZ, oZ] (ow16 C.w) d11_51 fun T6 h6 k6 b6 g6 X6 e6 E6 V_b6 => ?_
 have ne_a11_0_b6 : a11_0 ≠ b6 := Nat.ne_of_lt (Nat.lt_of_lt_of_le (Nat.lt_of_lt_of_le Ea1.lt Y4) (Nat.le_of_eq g6.symm))
 have ne_rE_b6 : rE ≠ b6 := Nat.ne_of_lt (Nat.lt_of_lt_of_le (Nat.lt_of_lt_of_le Ee1.lt Y4) (Nat.le_of_eq g6.symm))
 have ne_rT_b6 : rT ≠ b6 := Nat.ne_of_lt (Nat.lt_of_lt_of_le (Nat.lt_of_lt_of_le Vt1.lt Y4) (Nat.le_of_eq g6.symm))
 have ne_rF_b6 : rF ≠ b6 := Nat.ne_of_lt (Nat.lt_of_lt_of_le (Nat.lt_of_lt_of_le Vf1.lt Y4) (Nat.le_of_eq g6.symm))
 have ne_rO_b6 : rO ≠ b6 := Nat.ne_of_lt (Nat.lt_of_lt_of_le (Nat.lt_of_lt_of_le Vo1.lt Y4) (Nat.le_of_eq g6.symm))
 have ne_rW_b6 : rW ≠ b6 := Nat.ne_of_lt (Nat.lt_of_lt_of_le (Nat.lt_of_lt_of_le Vw1.lt Y4) (Nat.le_of_eq g6.symm))
 have ne_rS_b6 : rS ≠ b6 := Nat.ne_of_lt (Nat.lt_of_lt_of_le (Nat.lt_of_lt_of_le SP.lt Y4) (Nat.le_of_eq g6.symm))
 have ne_b3_b6 : b3 ≠ b6 := Nat.ne_of_lt (Nat.lt_of_lt_of_le f5.lt (Nat.le_of_eq g6.symm))
 have ne_b4_b6 : b4 ≠ b6 := Nat.ne_of_lt (Nat.lt_of_lt_of_le V_b4.lt (Nat.le_of_eq g6.symm))
 have g_b6 : n0 ≤ b6 := Nat.le_trans (Nat.le_trans Z0 Y4) (Nat.le_of_eq g6.symm)
 have S6 : own_StK Z h0 h6 := S4.ext E6
 have Y6 : h0.size ≤ h6.size := Nat.le_trans Y4 E6.1
 refine sG C X6 d11_53 60 ?_
 refine wa C X6 #[oR a11_0, oI 4, oI 1, oR b3, oR b4, oR b6, oU, oU] d11_60 ?_
 refine sC C X6 d11_62 ?_
 refine wi C X6 #[oR a11_0, oI 4, oI 1, oR b3, oR b4, oR b6, oI 0, oU] d11_63 ?_
 have f7 := (((Fentries1.ext E3).ext E4).ext E6)
 refine gA C X6 e6 f7 (ow46 C.w) d11_65 d11_66 fun T8 X8 e8 => ?_
 have f9 := (((Ffirst1.ext E3).ext E4).ext E6)
 refine gA C X8 e8 f9 (ow74 C.w) d11_69 d11_70 fun T10 X10 e10 => ?_
 have f11 := (((Vw1.ext E3).ext E4).ext E6)
 have f12 := (((Ee1.ext E3).ext E4).ext E6)
 have f13 := (((BwordsInUse1.ext E3).ext E4).ext E6)
 have f14 := (((BsizeIsSticky1.ext E3).ext E4).ext E6)
 have f15 := (((Bwords1.ext E3).ext E4).ext E6)
 refine cV C X10 e10 (rm12_2 l Z a0 C.w rE (1 : Int32) rW kW (2 : Int64) h6 n0 (Nat.le_trans Z0 Y6) (by decide +kernel) (by decide +kernel) f12 f13 f14 f15 f11 (S6 _ _ _ _ St1)) f12 (W := 0) (ow76 C.w) (ow77 C.w) (ow79 C.w) (ow78 C.w) (ow80 C.w) (ow27 C.w) (argsL := [(.int (1 : Int32))]) (lenOf pd__I_I rfl) d11_73 fun v16 T16 lo16 X16 hQ16 => ?_
 obtain ⟨rfl, Nq16, e16⟩ := hQ16
 rw [show (own_nsb (1 : Int32) (2 : Int64)) = (1 : Int32) from by decide +kernel]
 refine wi C X16 #[oR a11_0, oI 4, oI 1, oR b3, oR b4, oR b6, oI 0, oI 1] d11_76 ?_
 refine si C X16 d11_78 ?_
 refine bN C X16 d11_80 ((if0 _ _).trans (flt (by decide : ¬ ((1 : Int32) < (0 : Int32)))).1) ?_
 refine sA C X16 d11_83 ?_
 refine si C X16 d11_84 ?_
 have f18 := (((Ftimes1.ext E3).ext E4).ext E6)
 refine gA C X16 e16 f18 (ow17 C.w) d11_86 d11_87 fun T19 X19 e19 => ?_
 refine si C X19 d11_90 ?_
 have f20 := (((Vt1.ext E3).ext E4).ext E6)
 refine lA C X19 e19 f20 d11_92 ?_
 have f21 := (f5.ext E6)
 refine sJ C X19 e19 (N0.app Nq16) g_b3 f21 _ d11_93 fun T22 h22 lo22 X22 e22 N22 W22 V22 => ?_
 have S22 : own_StK Z h0 h22 := S6.wr W22
 have Y22 : h0.size ≤ h22.size := Nat.le_trans Y6 (Nat.le_of_eq W22.size.symm)
 refine sa C X22 d11_94 ?_
 refine si C X22 d11_96 ?_
 have f23 := ((((Ffroms1.ext E3).ext E4).ext E6).other W22 (Or.inl ne_a11_0_b3))
 refine gA C X22 e22 f23 (ow19 C.w) d11_98 d11_99 fun T24 X24 e24 => ?_
 refine si C X24 d11_102 ?_
 have f25 := ((((Vf1.ext E3).ext E4).ext E6).other W22 ne_rF_b3)
 refine lA C X24 e24 f25 d11_104 ?_
 have f26 := ((V_b4.ext E6).other W22 (Ne.symm ne_b3_b4))
 refine sJ C X24 e24 N22 g_b4 f26 _ d11_105 fun T27 h27 lo27 X27 e27 N27 W27 V27 => ?_
 have S27 : own_StK Z h0 h27 := S22.wr W27
 have Y27 : h0.size ≤ h27.size := Nat.le_trans Y22 (Nat.le_of_eq W27.size.symm)
 refine sa C X27 d11_106 ?_
 refine si C X27 d11_108 ?_
 have f28 := (((((Ftotals1.ext E3).ext E4).ext E6).other W22 (Or.inl ne_a11_0_b3)).other W27 (Or.inl ne_a11_0_b4))
 refine gA C X27 e27 f28 (ow21 C.w) d11_110 d11_111 fun T29 X29 e29 => ?_
 refine si C X29 d11_114 ?_
 have f30 := (((((Vo1.ext E3).ext E4).ext E6).other W22 ne_rO_b3).other W27 ne_rO_b4)
 refine lA C X29 e29 f30 d11_116 ?_
 have f31 := ((V_b6.other W22 (Ne.symm ne_b3_b6)).other W27 (Ne.symm ne_b4_b6))
 refine sJ C X29 e29 N27 g_b6 f31 _ d11_117 fun T32 h32 lo32 X32 e32 N32 W32 V32 => ?_
 have S32 : own_StK Z h0 h32 := S27.wr W32
 have Y32 : h0.size ≤ h32.size := Nat.le_trans Y27 (Nat.le_of_eq W32.size.symm)
 refine wc C X32 #[oR a11_0, oI 4, oI 1, oR b3, oR b4, oR b6, oI 1, oI 1] d11_118 ?_
 have f33 := (((f7.other W22 (Or.inl ne_a11_0_b3)).other W27 (Or.inl ne_a11_0_b4)).other W32 (Or.inl ne_a11_0_b6))
 refine gA C X32 e32 f33 (ow46 C.w) d11_121 d11_122 fun T34 X34 e34 => ?_
 refine si C X34 d11_125 ?_
 refine sC C X34 d11_127 ?_
 refine sP C X34 d11_128 ?_
 have f35 := (((f11.other W22 ne_rW_b3).other W27 ne_rW_b4).other W32 ne_rW_b6)
 have f36 := (((f12.wr W22).wr W27).wr W32)
 have f37 := (((f13.other W22 (Or.inl ne_rE_b3)).other W27 (Or.inl ne_rE_b4)).other W32 (Or.inl ne_rE_b6))
 have f38 := (((f14.other W22 (Or.inl ne_rE_b3)).other W27 (Or.inl ne_rE_b4)).other W32 (Or.inl ne_rE_b6))
 have f39 := (((f15.other W22 (Or.inl ne_rE_b3)).other W27 (Or.inl ne_rE_b4)).other W32 (Or.inl ne_rE_b6))
 refine cV C X34 e34 (rm12_2 l Z a0 C.w rE (2 : Int32) rW kW (2 : Int64) h32 n0 (Nat.le_trans Z0 Y32) (by decide +kernel) (by decide +kernel) f36 f37 f38 f39 f35 (S32 _ _ _ _ St1)) f36 (W := 0) (ow76 C.w) (ow77 C.w) (ow79 C.w) (ow78 C.w) (ow80 C.w) (ow27 C.w) (argsL := [(.int (2 : Int32))]) (lenOf pd__I_I rfl) d11_129 fun v40 T40 lo40 X40 hQ40 => ?_
 obtain ⟨rfl, Nq40, e40⟩ := hQ40
 rw [show (own_nsb (2 : Int32) (2 : Int64)) = (-1 : Int32) from by decide +kernel]
 refine wi C X40 #[oR a11_0, oI 4, oI 1, oR b3, oR b4, oR b6, oI 1, oI (-1)] d11_132 ?_
 refine sG C X40 d11_134 78 ?_
 refine si C X40 d11_78 ?_
 refine bY C X40 d11_80 137 ((if0 _ _).trans (tlt (by decide : (-1 : Int32) < (0 : Int32))).1) ?_
 refine sA C X40 d11_137 ?_
 refine sA C X40 d11_138 ?_
 have f42 := ((((((Ea1.ext E3).ext E4).ext E6).wr W22).wr W27).wr W32)
 have f43 := (((f18.other W22 (Or.inl ne_a11_0_b3)).other W27 (Or.inl ne_a11_0_b4)).other W32 (Or.inl ne_a11_0_b6))
 refine pF C X40 e40 (N32.app Nq40) g0_1 f43 f42 (ty := (.array .long)) (ow17 C.w) (ow18 C.w) (ow8 C.w) (by decide) d11_139 fun T44 h44 lo44 X44 e44 N44 W44 F44 => ?_
 have S44 : own_StK Z h0 h44 := S32.wr W44
 have Y44 : h0.size ≤ h44.size := Nat.le_trans Y32 (Nat.le_of_eq W44.size.symm)
 refine sA C X44 d11_142 ?_
 refine sa C X44 d11_143 ?_
 have f45 := (f42.wr W44)
 have f46 := (((f23.other W27 (Or.inl ne_a11_0_b4)).other W32 (Or.inl ne_a11_0_b6)).other W44 (Or.inr (slot_ne (Or.inl (ow20 hw)) (Or.inl (ow18 hw)) (by decide) (t := (.array .long)) (t' := (.array .long)) (by decide) (by decide))))
 refine pF C X44 e44 N44 g0_1 f46 f45 (ty := (.array .long)) (ow19 C.w) (ow20 C.w) (ow8 C.w) (by decide) d11_145 fun T47 h47 lo47 X47 e47 N47 W47 F47 => ?_
 have S47 : own_StK Z h0 h47 := S44.wr W47
 have Y47 : h0.size ≤ h47.size := Nat.le_trans Y44 (Nat.le_of_eq W47.size.symm)
 refine sA C X47 d11_148 ?_
 refine sa C X47 d11_149 ?_
 have f48 := (f45.wr W47)
 have f49 := (((f28.other W32 (Or.inl ne_a11_0_b6)).other W44 (Or.inr (slot_ne (Or.inl (ow22 hw)) (Or.inl (ow18 hw)) (by decide) (t := (.array .long)) (t' := (.array .long)) (by decide) (by decide)))).other W47 (Or.inr (slot_ne (Or.inl (ow22 hw)) (Or.inl (ow20 hw)) (by decide) (t := (.array .long)) (t' := (.array .long)) (by decide) (by decide))))
 refine pF C X47 e47 N47 g0_1 f49 f48 (ty := (.array .long)) (ow21 C.w) (ow22 C.w) (ow8 C.w) (by decide) d11_151 fun T50 h50 lo50 X50 e50 N50 W50 F50 => ?_
 have S50 : own_StK Z h0 h50 := S47.wr W50
 have Y50 : h0.size ≤ h50.size := Nat.le_trans Y47 (Nat.le_of_eq W50.size.symm)
 refine sI C X50 d11_154 ?_
 refine bN C X50 d11_155 ((if0 _ _).trans (feq (by decide : ¬ ((1 : Int32) = (0 : Int32)))).1) ?_
 refine sA C X50 d11_158 ?_
 have f51 := (((((V22.other W27 ne_b3_b4).other W32 ne_b3_b6).other W44 (Ne.symm ne_a11_0_b3)).other W47 (Ne.symm ne_a11_0_b3)).other W50 (Ne.symm ne_a11_0_b3))
 have f52 := ((((V27.other W32 ne_b4_b6).other W44 (Ne.symm ne_a11_0_b4)).other W47 (Ne.symm ne_a11_0_b4)).other W50 (Ne.symm ne_a11_0_b4))
 have f53 := (((V32.other W44 (Ne.symm ne_a11_0_b6)).other W47 (Ne.symm ne_a11_0_b6)).other W50 (Ne.symm ne_a11_0_b6))
 refine nO C X50 e50 (ow25 C.w) (ow26 C.w) (ow27 C.w) d11_159 fun T54 h54 b54 g54 X54 e54 E54 A54 D54 => ?_
 have ne_a11_0_b54 : a11_0 ≠ b54 := Nat.ne_of_lt (Nat.lt_of_lt_of_le (Nat.lt_of_lt_of_le Ea1.lt Y50) (Nat.le_of_eq g54.symm))
 have ne_rE_b54 : rE ≠ b54 := Nat.ne_of_lt (Nat.lt_of_lt_of_le (Nat.lt_of_lt_of_le Ee1.lt Y50) (Nat.le_of_eq g54.symm))
 have ne_rT_b54 : rT ≠ b54 := Nat.ne_of_lt (Nat.lt_of_lt_of_le (Nat.lt_of_lt_of_le Vt1.lt Y50) (Nat.le_of_eq g54.symm))
 have ne_rF_b54 : rF ≠ b54 := Nat.ne_of_lt (Nat.lt_of_lt_of_le (Nat.lt_of_lt_of_le Vf1.lt Y50) (Nat.le_of_eq g54.symm))
 have ne_rO_b54 : rO ≠ b54 := Nat.ne_of_lt (Nat.lt_of_lt_of_le (Nat.lt_of_lt_of_le Vo1.lt Y50) (Nat.le_of_eq g54.symm))
 have ne_rW_b54 : rW ≠ b54 := Nat.ne_of_lt (Nat.lt_of_lt_of_le (Nat.lt_of_lt_of_le Vw1.lt Y50) (Nat.le_of_eq g54.symm))
 have ne_rS_b54 : rS ≠ b54 := Nat.ne_of_lt (Nat.lt_of_lt_of_le (Nat.lt_of_lt_of_le SP.lt Y50) (Nat.le_of_eq g54.symm))
 have ne_b3_b54 : b3 ≠ b54 := Nat.ne_of_lt (Nat.lt_of_lt_of_le f51.lt (Nat.le_of_eq g54.symm))
 have ne_b4_b54 : b4 ≠ b54 := Nat.ne_of_lt (Nat.lt_of_lt_of_le f52.lt (Nat.le_of_eq g54.symm))
 have ne_b6_b54 : b6 ≠ b54 := Nat.ne_of_lt (Nat.lt_of_lt_of_le f53.lt (Nat.le_of_eq g54.symm))
 have F_wordsInUse_b54 : Fld Z h54 b54 oB "wordsInUse" "I" (.int (0 : Int32)) := D54 (Or.inl (ow33 hw)) (ty := .int) (by decide)
 have F_sizeIsSticky_b54 : Fld Z h54 b54 oB "sizeIsSticky" "Z" (.int (0 : Int32)) := D54 (Or.inl (ow35 hw)) (ty := .boolean) (by decide)
 have F_words_b54 : Fld Z h54 b54 oB "words" "[J" .null := D54 (Or.inl (ow45 hw)) (ty := (.array .long)) (by decide)
 have g_b54 : n0 ≤ b54 := Nat.le_trans (Nat.le_trans Z0 Y50) (Nat.le_of_eq g54.symm)
 have S54 : own_StK Z h0 h54 := S50.ext E54
 have Y54 : h0.size ≤ h54.size := Nat.le_trans Y50 E54.1
 refine sD C X54 d11_162 ?_
 refine sI C X54 d11_163 ?_
 have f56 := ((f48.wr W50).ext E54)
 have f57 := ((((f36.wr W44).wr W47).wr W50).ext E54)
 have f58 := (((((((f20.other W22 ne_rT_b3).other W27 ne_rT_b4).other W32 ne_rT_b6).other W44 (Ne.symm n0_1)).other W47 (Ne.symm n0_1)).other W50 (Ne.symm n0_1)).ext E54)
 have f59 := ((((((f25.other W27 ne_rF_b4).other W32 ne_rF_b6).other W44 (Ne.symm n1_1)).other W47 (Ne.symm n1_1)).other W50 (Ne.symm n1_1)).ext E54)
 have f60 := (((((f30.other W32 ne_rO_b6).other W44 (Ne.symm n2_1)).other W47 (Ne.symm n2_1)).other W50 (Ne.symm n2_1)).ext E54)
 have f61 := ((((f35.other W44 (Ne.symm n5_1)).other W47 (Ne.symm n5_1)).other W50 (Ne.symm n5_1)).ext E54)
 have f62 := ((((((((((SP.ext E3).ext E4).ext E6).other W22 ne_rS_b3).other W27 ne_rS_b4).other W32 ne_rS_b6).other W44 (Ne.symm n3_1)).other W47 (Ne.symm n3_1)).other W50 (Ne.symm n3_1)).ext E54)
 have f63 := (f51.ext E54)
 have f64 := (f52.ext E54)
 have f65 := (f53.ext E54)
 refine cI C X54 e54 (rm14_3 l Z a0 C.w b54 h54 n0 (Nat.le_trans Z0 Y54) A54 F_wordsInUse_b54 F_sizeIsSticky_b54 F_words_b54 g_b54) (W := 2) (ow87 C.w) (ow88 C.w) (ow89 C.w) (ow27 C.w) (argsL := [(.int (4 : Int32))]) (lenOf pd__I_V rfl) d11_164 fun v55 T55 lo55 X55 hQ55 => ?_
 obtain ⟨bx14_0_55, kx14_0_55, rfl, Nq55, Kc55, Sc55, P55_0, P55_1, P55_2, P55_3, P55_4, P55_5⟩ := hQ55
 have S55 : own_StK Z h0 T55.heap := S54.tr Sc55
 have Y55 : h0.size ≤ T55.heap.size := Nat.le_trans Y54 Kc55.1
 have g_bx14_0_55 : n0 ≤ bx14_0_55 := Nat.le_trans (Nat.le_trans Z0 Y54) P55_0
 have ne_a11_0_bx14_0_55 : a11_0 ≠ bx14_0_55 := Nat.ne_of_lt (Nat.lt_of_lt_of_le f56.lt P55_0)
 have ne_rE_bx14_0_55 : rE ≠ bx14_0_55 := Nat.ne_of_lt (Nat.lt_of_lt_of_le f57.lt P55_0)
 have ne_rT_bx14_0_55 : rT ≠ bx14_0_55 := Nat.ne_of_lt (Nat.lt_of_lt_of_le f58.lt P55_0)
 have ne_rF_bx14_0_55 : rF ≠ bx14_0_55 := Nat.ne_of_lt (Nat.lt_of_lt_of_le f59.lt P55_0)
 have ne_rO_bx14_0_55 : rO ≠ bx14_0_55 := Nat.ne_of_lt (Nat.lt_of_lt_of_le f60.lt P55_0)
 have ne_rW_bx14_0_55 : rW ≠ bx14_0_55 := Nat.ne_of_lt (Nat.lt_of_lt_of_le f61.lt P55_0)
 have ne_rS_bx14_0_55 : rS ≠ bx14_0_55 := Nat.ne_of_lt (Nat.lt_of_lt_of_le f62.lt P55_0)
 have ne_b3_bx14_0_55 : b3 ≠ bx14_0_55 := Nat.ne_of_lt (Nat.lt_of_lt_of_le f63.lt P55_0)
 have ne_b4_bx14_0_55 : b4 ≠ bx14_0_55 := Nat.ne_of_lt (Nat.lt_of_lt_of_le f64.lt P55_0)
 have ne_b6_bx14_0_55 : b6 ≠ bx14_0_55 := Nat.ne_of_lt (Nat.lt_of_lt_of_le f65.lt P55_0)
 have ne_b54_bx14_0_55 : b54 ≠ bx14_0_55 := Nat.ne_of_lt (Nat.lt_of_lt_of_le A54.lt P55_0)
 have f66 := (f56.keep Kc55)
 have f67 := (((((f33.other W44 (Or.inr (slot_ne (Or.inl (ow47 hw)) (Or.inl (ow18 hw)) (by decide) (t := (.object oB)) (t' := (.array .long)) (by decide) (by decide)))).other W47 (Or.inr (slot_ne (Or.inl (ow47 hw)) (Or.inl (ow20 hw)) (by decide) (t := (.object oB)) (t' := (.array .long)) (by decide) (by decide)))).other W50 (Or.inr (slot_ne (Or.inl (ow47 hw)) (Or.inl (ow22 hw)) (by decide) (t := (.object oB)) (t' := (.array .long)) (by decide) (by decide)))).ext E54).keep Kc55 (ninS ne_a11_0_b54 nin0))
 refine pF C X55 rfl (N50.app Nq55) g0_1 f67 f66 (ty := (.object oB)) (ow46 C.w) (ow47 C.w) (ow8 C.w) (by decide) d11_167 fun T68 h68 lo68 X68 e68 N68 W68 F68 => ?_
 have S68 : own_StK Z h0 h68 := S55.wr W68
 have Y68 : h0.size ≤ h68.size := Nat.le_trans Y55 (Nat.le_of_eq W68.size.symm)
 refine sA C X68 d11_170 ?_
 refine sC C X68 d11_171 ?_
 refine sI C X68 d11_172 ?_
 refine sM C X68 d11_173 ?_
 have f69 := ((f63.keep Kc55 (ninS ne_b3_b54 nin0)).other W68 (Ne.symm ne_a11_0_b3))
 have f70 := ((f64.keep Kc55 (ninS ne_b4_b54 nin0)).other W68 (Ne.symm ne_a11_0_b4))
 have f71 := ((f65.keep Kc55 (ninS ne_b6_b54 nin0)).other W68 (Ne.symm ne_a11_0_b6))
 have f72 := (P55_1.wr W68)
 have f73 := (P55_5.other W68 (Ne.symm ne_a11_0_bx14_0_55))
 refine nP C X68 e68 (n := (8 : Int32)) 8 [oZ, oZ, oZ, oZ, oZ, oZ, oZ, oZ] (ow16 C.w) d11_174 fun T74 h74 k74 b74 g74 X74 e74 E74 V_b74 => ?_
 have ne_a11_0_b74 : a11_0 ≠ b74 := Nat.ne_of_lt (Nat.lt_of_lt_of_le (Nat.lt_of_lt_of_le Ea1.lt Y68) (Nat.le_of_eq g74.symm))
 have ne_rE_b74 : rE ≠ b74 := Nat.ne_of_lt (Nat.lt_of_lt_of_le (Nat.lt_of_lt_of_le Ee1.lt Y68) (Nat.le_of_eq g74.symm))
 have ne_rT_b74 : rT ≠ b74 := Nat.ne_of_lt (Nat.lt_of_lt_of_le (Nat.lt_of_lt_of_le Vt1.lt Y68) (Nat.le_of_eq g74.symm))
 have ne_rF_b74 : rF ≠ b74 := Nat.ne_of_lt (Nat.lt_of_lt_of_le (Nat.lt_of_lt_of_le Vf1.lt Y68) (Nat.le_of_eq g74.symm))
 have ne_rO_b74 : rO ≠ b74 := Nat.ne_of_lt (Nat.lt_of_lt_of_le (Nat.lt_of_lt_of_le Vo1.lt Y68) (Nat.le_of_eq g74.symm))
 have ne_rW_b74 : rW ≠ b74 := Nat.ne_of_lt (Nat.lt_of_lt_of_le (Nat.lt_of_lt_of_le Vw1.lt Y68) (Nat.le_of_eq g74.symm))
 have ne_rS_b74 : rS ≠ b74 := Nat.ne_of_lt (Nat.lt_of_lt_of_le (Nat.lt_of_lt_of_le SP.lt Y68) (Nat.le_of_eq g74.symm))
 have ne_b3_b74 : b3 ≠ b74 := Nat.ne_of_lt (Nat.lt_of_lt_of_le f69.lt (Nat.le_of_eq g74.symm))
 have ne_b4_b74 : b4 ≠ b74 := Nat.ne_of_lt (Nat.lt_of_lt_of_le f70.lt (Nat.le_of_eq g74.symm))
 have ne_b6_b74 : b6 ≠ b74 := Nat.ne_of_lt (Nat.lt_of_lt_of_le f71.lt (Nat.le_of_eq g74.symm))
 have ne_b54_b74 : b54 ≠ b74 := Nat.ne_of_lt (Nat.lt_of_lt_of_le f72.lt (Nat.le_of_eq g74.symm))
 have ne_bx14_0_55_b74 : bx14_0_55 ≠ b74 := Nat.ne_of_lt (Nat.lt_of_lt_of_le f73.lt (Nat.le_of_eq g74.symm))
 have g_b74 : n0 ≤ b74 := Nat.le_trans (Nat.le_trans Z0 Y68) (Nat.le_of_eq g74.symm)
 have S74 : own_StK Z h0 h74 := S68.ext E74
 have Y74 : h0.size ≤ h74.size := Nat.le_trans Y68 E74.1
 have f75 := ((f66.wr W68).ext E74)
 have f76 := (((((((((((((Fspans1.ext E3).ext E4).ext E6).other W22 (Or.inl ne_a11_0_b3)).other W27 (Or.inl ne_a11_0_b4)).other W32 (Or.inl ne_a11_0_b6)).other W44 (Or.inr (slot_ne (Or.inl (ow24 hw)) (Or.inl (ow18 hw)) (by decide) (t := (.array .long)) (t' := (.array .long)) (by decide) (by decide)))).other W47 (Or.inr (slot_ne (Or.inl (ow24 hw)) (Or.inl (ow20 hw)) (by decide) (t := (.array .long)) (t' := (.array .long)) (by decide) (by decide)))).other W50 (Or.inr (slot_ne (Or.inl (ow24 hw)) (Or.inl (ow22 hw)) (by decide) (t := (.array .long)) (t' := (.array .long)) (by decide) (by decide)))).ext E54).keep Kc55 (ninS ne_a11_0_b54 nin0)).other W68 (Or.inr (slot_ne (Or.inl (ow24 hw)) (Or.inl (ow47 hw)) (by decide) (t := (.array .long)) (t' := (.object oB)) (by decide) (by decide)))).ext E74)
 refine pF C X74 e74 N68 g0_1 f76 f75 (ty := (.array .long)) (ow23 C.w) (ow24 C.w) (ow8 C.w) (by decide) d11_176 fun T77 h77 lo77 X77 e77 N77 W77 F77 => ?_
 have S77 : own_StK Z h0 h77 := S74.wr W77
 have Y77 : h0.size ≤ h77.size := Nat.le_trans Y74 (Nat.le_of_eq W77.size.symm)
 refine sG C X77 d11_179 189 ?_
 have f78 := ((F68.ext E74).other W77 (Or.inr (slot_ne (Or.inl (ow47 hw)) (Or.inl (ow24 hw)) (by decide) (t := (.object oB)) (t' := (.array .long)) (by decide) (by decide))))
 refine gA C X77 e77 f78 (ow46 C.w) d11_189 d11_190 fun T79 X79 e79 => ?_
 refine sC C X79 d11_193 ?_
 have f80 := ((((((((((((((Fsize1.ext E3).ext E4).ext E6).other W22 (Or.inl ne_a11_0_b3)).other W27 (Or.inl ne_a11_0_b4)).other W32 (Or.inl ne_a11_0_b6)).other W44 (Or.inr (slot_ne (Or.inl (ow54 hw)) (Or.inl (ow18 hw)) (by decide) (t := .int) (t' := (.array .long)) (by decide) (by decide)))).other W47 (Or.inr (slot_ne (Or.inl (ow54 hw)) (Or.inl (ow20 hw)) (by decide) (t := .int) (t' := (.array .long)) (by decide) (by decide)))).other W50 (Or.inr (slot_ne (Or.inl (ow54 hw)) (Or.inl (ow22 hw)) (by decide) (t := .int) (t' := (.array .long)) (by decide) (by decide)))).ext E54).keep Kc55 (ninS ne_a11_0_b54 nin0)).other W68 (Or.inr (slot_ne (Or.inl (ow54 hw)) (Or.inl (ow47 hw)) (by decide) (t := .int) (t' := (.object oB)) (by decide) (by decide)))).ext E74).other W77 (Or.inr (slot_ne (Or.inl (ow54 hw)) (Or.inl (ow24 hw)) (by decide) (t := .int) (t' := (.array .long)) (by decide) (by decide))))
 refine gA C X79 e79 f80 (ow53 C.w) d11_194 d11_195 fun T81 X81 e81 => ?_
 have f82 := ((f73.ext E74).other W77 (Ne.symm ne_a11_0_bx14_0_55))
 have f83 := ((f72.ext E74).wr W77)
 have f84 := (((P55_2.other W68 (Or.inl (Ne.symm ne_a11_0_b54))).ext E74).other W77 (Or.inl (Ne.symm ne_a11_0_b54)))
 have f85 := (((P55_3.other W68 (Or.inl (Ne.symm ne_a11_0_b54))).ext E74).other W77 (Or.inl (Ne.symm ne_a11_0_b54)))
 have f86 := (((P55_4.other W68 (Or.inl (Ne.symm ne_a11_0_b54))).ext E74).other W77 (Or.inl (Ne.symm ne_a11_0_b54)))
 refine cV C X81 e81 (rm15_3 l Z a0 C.w b54 bx14_0_55 kx14_0_55 (0 : Int64) h77 n0 (Nat.le_trans Z0 Y77) f83 f84 f85 f86 f82 g_b54 (Ne.symm ne_b54_bx14_0_55) g_bx14_0_55 (S77 _ _ _ _ St1)) f83 (W := 0) (ow90 C.w) (ow91 C.w) (ow93 C.w) (ow92 C.w) (ow94 C.w) (ow27 C.w) (argsL := [(.int (0 : Int32)), (.int (1 : Int32))]) (lenOf pd__II_V rfl) d11_198 fun v87 T87 lo87 X87 hQ87 => ?_
 obtain ⟨rfl, Nq87, Kc87, Sc87, P87_0, P87_1, P87_2, P87_3, P87_4⟩ := hQ87
 have S87 : own_StK Z h0 T87.heap := S77.tr Sc87
 have Y87 : h0.size ≤ T87.heap.size := Nat.le_trans Y77 Kc87.1
 rw [show ((0 : Int64) ||| (1 : Int64)) = (1 : Int64) from by decide +kernel] at P87_4
 refine sA C X87 d11_201 ?_
 refine sC C X87 d11_202 ?_
 have f88 := ((f75.wr W77).keep Kc87)
 have f89 := ((((((((((((f9.other W22 (Or.inl ne_a11_0_b3)).other W27 (Or.inl ne_a11_0_b4)).other W32 (Or.inl ne_a11_0_b6)).other W44 (Or.inr (slot_ne (Or.inl (ow75 hw)) (Or.inl (ow18 hw)) (by decide) (t := .int) (t' := (.array .long)) (by decide) (by decide)))).other W47 (Or.inr (slot_ne (Or.inl (ow75 hw)) (Or.inl (ow20 hw)) (by decide) (t := .int) (t' := (.array .long)) (by decide) (by decide)))).other W50 (Or.inr (slot_ne (Or.inl (ow75 hw)) (Or.inl (ow22 hw)) (by decide) (t := .int) (t' := (.array .long)) (by decide) (by decide)))).ext E54).keep Kc55 (ninS ne_a11_0_b54 nin0)).other W68 (Or.inr (slot_ne (Or.inl (ow75 hw)) (Or.inl (ow47 hw)) (by decide) (t := .int) (t' := (.object oB)) (by decide) (by decide)))).ext E74).other W77 (Or.inr (slot_ne (Or.inl (ow75 hw)) (Or.inl (ow24 hw)) (by decide) (t := .int) (t' := (.array .long)) (by decide) (by decide)))).keep Kc87 (ninS ne_a11_0_b54 (ninS ne_a11_0_bx14_0_55 nin0)))
 refine pF C X87 rfl (N77.app Nq87) g0_1 f89 f88 (ty := .int) (ow74 C.w) (ow75 C.w) (ow8 C.w) (by decide) d11_203 fun T90 h90 lo90 X90 e90 N90 W90 F90 => ?_
 have S90 : own_StK Z h0 h90 := S87.wr W90
 have Y90 : h0.size ≤ h90.size := Nat.le_trans Y87 (Nat.le_of_eq W90.size.symm)
 refine sA C X90 d11_206 ?_
 have f91 := ((f80.keep Kc87 (ninS ne_a11_0_b54 (ninS ne_a11_0_bx14_0_55 nin0))).other W90 (Or.inr (slot_ne (Or.inl (ow54 hw)) (Or.inl (ow75 hw)) (by decide) (t := .int) (t' := .int) (by decide) (by decide))))
 refine gA C X90 e90 f91 (ow53 C.w) d11_207 d11_208 fun T92 X92 e92 => ?_
 have f93 := (f88.wr W90)
 have f94 := ((((((((((((((((Fend1.ext E3).ext E4).ext E6).other W22 (Or.inl ne_a11_0_b3)).other W27 (Or.inl ne_a11_0_b4)).other W32 (Or.inl ne_a11_0_b6)).other W44 (Or.inr (slot_ne (Or.inl (ow56 hw)) (Or.inl (ow18 hw)) (by decide) (t := .int) (t' := (.array .long)) (by decide) (by decide)))).other W47 (Or.inr (slot_ne (Or.inl (ow56 hw)) (Or.inl (ow20 hw)) (by decide) (t := .int) (t' := (.array .long)) (by decide) (by decide)))).other W50 (Or.inr (slot_ne (Or.inl (ow56 hw)) (Or.inl (ow22 hw)) (by decide) (t := .int) (t' := (.array .long)) (by decide) (by decide)))).ext E54).keep Kc55 (ninS ne_a11_0_b54 nin0)).other W68 (Or.inr (slot_ne (Or.inl (ow56 hw)) (Or.inl (ow47 hw)) (by decide) (t := .int) (t' := (.object oB)) (by decide) (by decide)))).ext E74).other W77 (Or.inr (slot_ne (Or.inl (ow56 hw)) (Or.inl (ow24 hw)) (by decide) (t := .int) (t' := (.array .long)) (by decide) (by decide)))).keep Kc87 (ninS ne_a11_0_b54 (ninS ne_a11_0_bx14_0_55 nin0))).other W90 (Or.inr (slot_ne (Or.inl (ow56 hw)) (Or.inl (ow75 hw)) (by decide) (t := .int) (t' := .int) (by decide) (by decide))))
 refine pF C X92 e92 N90 g0_1 f94 f93 (ty := .int) (ow55 C.w) (ow56 C.w) (ow8 C.w) (by decide) d11_211 fun T95 h95 lo95 X95 e95 N95 W95 F95 => ?_
 have S95 : own_StK Z h0 h95 := S90.wr W95
 have Y95 : h0.size ≤ h95.size := Nat.le_trans Y90 (Nat.le_of_eq W95.size.symm)
 have f96 := ((((V_b74.other W77 (Ne.symm ne_a11_0_b74)).keep Kc87 (ninS (Ne.symm ne_b54_b74) (ninS (Ne.symm ne_bx14_0_55_b74) nin0))).other W90 (Ne.symm ne_a11_0_b74)).other W95 (Ne.symm ne_a11_0_b74))
 have f97 := (f93.wr W95)
 have f98 := ((((((((((F44.other W47 (Or.inr (slot_ne (Or.inl (ow18 hw)) (Or.inl (ow20 hw)) (by decide) (t := (.array .long)) (t' := (.array .long)) (by decide) (by decide)))).other W50 (Or.inr (slot_ne (Or.inl (ow18 hw)) (Or.inl (ow22 hw)) (by decide) (t := (.array .long)) (t' := (.array .long)) (by decide) (by decide)))).ext E54).keep Kc55 (ninS ne_a11_0_b54 nin0)).other W68 (Or.inr (slot_ne (Or.inl (ow18 hw)) (Or.inl (ow47 hw)) (by decide) (t := (.array .long)) (t' := (.object oB)) (by decide) (by decide)))).ext E74).other W77 (Or.inr (slot_ne (Or.inl (ow18 hw)) (Or.inl (ow24 hw)) (by decide) (t := (.array .long)) (t' := (.array .long)) (by decide) (by decide)))).keep Kc87 (ninS ne_a11_0_b54 (ninS ne_a11_0_bx14_0_55 nin0))).other W90 (Or.inr (slot_ne (Or.inl (ow18 hw)) (Or.inl (ow75 hw)) (by decide) (t := (.array .long)) (t' := .int) (by decide) (by decide)))).other W95 (Or.inr (slot_ne (Or.inl (ow18 hw)) (Or.inl (ow56 hw)) (by decide) (t := (.array .long)) (t' := .int) (by decide) (by decide))))
 have f99 := (((((((((F47.other W50 (Or.inr (slot_ne (Or.inl (ow20 hw)) (Or.inl (ow22 hw)) (by decide) (t := (.array .long)) (t' := (.array .long)) (by decide) (by decide)))).ext E54).keep Kc55 (ninS ne_a11_0_b54 nin0)).other W68 (Or.inr (slot_ne (Or.inl (ow20 hw)) (Or.inl (ow47 hw)) (by decide) (t := (.array .long)) (t' := (.object oB)) (by decide) (by decide)))).ext E74).other W77 (Or.inr (slot_ne (Or.inl (ow20 hw)) (Or.inl (ow24 hw)) (by decide) (t := (.array .long)) (t' := (.array .long)) (by decide) (by decide)))).keep Kc87 (ninS ne_a11_0_b54 (ninS ne_a11_0_bx14_0_55 nin0))).other W90 (Or.inr (slot_ne (Or.inl (ow20 hw)) (Or.inl (ow75 hw)) (by decide) (t := (.array .long)) (t' := .int) (by decide) (by decide)))).other W95 (Or.inr (slot_ne (Or.inl (ow20 hw)) (Or.inl (ow56 hw)) (by decide) (t := (.array .long)) (t' := .int) (by decide) (by decide))))
 have f100 := ((((((((F50.ext E54).keep Kc55 (ninS ne_a11_0_b54 nin0)).other W68 (Or.inr (slot_ne (Or.inl (ow22 hw)) (Or.inl (ow47 hw)) (by decide) (t := (.array .long)) (t' := (.object oB)) (by decide) (by decide)))).ext E74).other W77 (Or.inr (slot_ne (Or.inl (ow22 hw)) (Or.inl (ow24 hw)) (by decide) (t := (.array .long)) (t' := (.array .long)) (by decide) (by decide)))).keep Kc87 (ninS ne_a11_0_b54 (ninS ne_a11_0_bx14_0_55 nin0))).other W90 (Or.inr (slot_ne (Or.inl (ow22 hw)) (Or.inl (ow75 hw)) (by decide) (t := (.array .long)) (t' := .int) (by decide) (by decide)))).other W95 (Or.inr (slot_ne (Or.inl (ow22 hw)) (Or.inl (ow56 hw)) (by decide) (t := (.array .long)) (t' := .int) (by decide) (by decide))))
 have f101 := (((F77.keep Kc87 (ninS ne_a11_0_b54 (ninS ne_a11_0_bx14_0_55 nin0))).other W90 (Or.inr (slot_ne (Or.inl (ow24 hw)) (Or.inl (ow75 hw)) (by decide) (t := (.array .long)) (t' := .int) (by decide) (by decide)))).other W95 (Or.inr (slot_ne (Or.inl (ow24 hw)) (Or.inl (ow56 hw)) (by decide) (t := (.array .long)) (t' := .int) (by decide) (by decide))))
 have f102 := (((f78.keep Kc87 (ninS ne_a11_0_b54 (ninS ne_a11_0_bx14_0_55 nin0))).other W90 (Or.inr (slot_ne (Or.inl (ow47 hw)) (Or.inl (ow75 hw)) (by decide) (t := (.object oB)) (t' := .int) (by decide) (by decide)))).other W95 (Or.inr (slot_ne (Or.inl (ow47 hw)) (Or.inl (ow56 hw)) (by decide) (t := (.object oB)) (t' := .int) (by decide) (by decide))))
 have f103 := (f91.other W95 (Or.inr (slot_ne (Or.inl (ow54 hw)) (Or.inl (ow56 hw)) (by decide) (t := .int) (t' := .int) (by decide) (by decide))))
 have f104 := (F90.other W95 (Or.inr (slot_ne (Or.inl (ow75 hw)) (Or.inl (ow56 hw)) (by decide) (t := .int) (t' := .int) (by decide) (by decide))))
 have f105 := (((((((((((((((((Fbase1.ext E3).ext E4).ext E6).other W22 (Or.inl ne_a11_0_b3)).other W27 (Or.inl ne_a11_0_b4)).other W32 (Or.inl ne_a11_0_b6)).other W44 (Or.inr (slot_ne (Or.inl (ow110 hw)) (Or.inl (ow18 hw)) (by decide) (t := .long) (t' := (.array .long)) (by decide) (by decide)))).other W47 (Or.inr (slot_ne (Or.inl (ow110 hw)) (Or.inl (ow20 hw)) (by decide) (t := .long) (t' := (.array .long)) (by decide) (by decide)))).other W50 (Or.inr (slot_ne (Or.inl (ow110 hw)) (Or.inl (ow22 hw)) (by decide) (t := .long) (t' := (.array .long)) (by decide) (by decide)))).ext E54).keep Kc55 (ninS ne_a11_0_b54 nin0)).other W68 (Or.inr (slot_ne (Or.inl (ow110 hw)) (Or.inl (ow47 hw)) (by decide) (t := .long) (t' := (.object oB)) (by decide) (by decide)))).ext E74).other W77 (Or.inr (slot_ne (Or.inl (ow110 hw)) (Or.inl (ow24 hw)) (by decide) (t := .long) (t' := (.array .long)) (by decide) (by decide)))).keep Kc87 (ninS ne_a11_0_b54 (ninS ne_a11_0_bx14_0_55 nin0))).other W90 (Or.inr (slot_ne (Or.inl (ow110 hw)) (Or.inl (ow75 hw)) (by decide) (t := .long) (t' := .int) (by decide) (by decide)))).other W95 (Or.inr (slot_ne (Or.inl (ow110 hw)) (Or.inl (ow56 hw)) (by decide) (t := .long) (t' := .int) (by decide) (by decide))))
 have f106 := ((P87_0.wr W90).wr W95)
 have f107 := ((P87_1.other W90 (Or.inl (Ne.symm ne_a11_0_b54))).other W95 (Or.inl (Ne.symm ne_a11_0_b54)))
 have f108 := ((P87_2.other W90 (Or.inl (Ne.symm ne_a11_0_b54))).other W95 (Or.inl (Ne.symm ne_a11_0_b54)))
 have f109 := ((P87_3.other W90 (Or.inl (Ne.symm ne_a11_0_b54))).other W95 (Or.inl (Ne.symm ne_a11_0_b54)))
 have f110 := (((((f69.ext E74).other W77 (Ne.symm ne_a11_0_b3)).keep Kc87 (ninS ne_b3_b54 (ninS ne_b3_bx14_0_55 nin0))).other W90 (Ne.symm ne_a11_0_b3)).other W95 (Ne.symm ne_a11_0_b3))
 have f111 := (((((f70.ext E74).other W77 (Ne.symm ne_a11_0_b4)).keep Kc87 (ninS ne_b4_b54 (ninS ne_b4_bx14_0_55 nin0))).other W90 (Ne.symm ne_a11_0_b4)).other W95 (Ne.symm ne_a11_0_b4))
 have f112 := (((((f71.ext E74).other W77 (Ne.symm ne_a11_0_b6)).keep Kc87 (ninS ne_b6_b54 (ninS ne_b6_bx14_0_55 nin0))).other W90 (Ne.symm ne_a11_0_b6)).other W95 (Ne.symm ne_a11_0_b6))
 have f113 := ((P87_4.other W90 (Ne.symm ne_a11_0_bx14_0_55)).other W95 (Ne.symm ne_a11_0_bx14_0_55))
 have Op114 : own_Obj Z h95 n0 a11_0 b3 b4 b6 b74 b54 bx14_0_55 k3 k4 k6 kx14_0_55 (0 : Int32) (1 : Int32) (1 : Int32) bs (1 : Int32) (1 : Int32) (1 : Int64) (4 : Int32) [(.long tm1), oZ, oZ, oZ] [(.long fr1), oZ, oZ, oZ] [(.long to1), oZ, oZ, oZ] := ⟨f97, f98, f99, f100, f101, f102, f103, F95, f104, f105, f106, f107, f108, f109, f110, f111, f112, f113, (S95 _ _ _ _ St1), g0_1, g_b3, g_b4, g_b6, g_b74, g_b54, g_bx14_0_55, ne_a11_0_b3, ne_a11_0_b4, ne_a11_0_b6, ne_a11_0_b74, ne_a11_0_b54, ne_a11_0_bx14_0_55, ne_b3_b4, ne_b3_b6, ne_b3_b74, ne_b3_b54, ne_b3_bx14_0_55, ne_b4_b6, ne_b4_b74, ne_b4_b54, ne_b4_bx14_0_55, ne_b6_b74, ne_b6_b54, ne_b6_bx14_0_55, (Ne.symm ne_b54_b74), (Ne.symm ne_bx14_0_55_b74), ne_b54_bx14_0_55⟩
 refine gA C X95 e95 Op114.Fspans (ow23 C.w) d11_214 d11_215 fun T115 X115 e115 => ?_
 refine sI C X115 d11_218 ?_
 refine sC C X115 d11_219 ?_
 refine sI C X115 d11_220 ?_
 refine sM C X115 d11_221 ?_
 refine kJ C X115 (ow98 C.w) d11_222 ?_
 refine cS C X115 e115 (rm17_3 l Z a0 C.w b74 k74 (0 : Int64) (0 : Int64) (0 : Int64) (0 : Int64) (0 : Int64) (0 : Int64) (0 : Int64) (0 : Int64) h95 n0 Op114.hsz f96 Op114.grS) (W := 0) (ow99 C.w) (ow100 C.w) (ow102 C.w) (ow101 C.w) (argsL := [(.ref b74), (.int (4 : Int32)), (.int (8 : Int32)), (.long oM)]) (lenOf pd___JIIJ_V rfl) d11_225 fun v116 T116 lo116 X116 hQ116 => ?_
 obtain ⟨rfl, Nq116, Kc116, Sc116, P116_0⟩ := hQ116
 have O116 := Op114.sp Kc116 Sc116
 refine sC C X116 d11_228 ?_
 refine wi C X116 #[oR a11_0, oI 4, oI 1, oR b3, oR b4, oR b6, oI 1, oI 1] d11_229 ?_
 refine si C X116 d11_231 ?_
 refine gA C X116 rfl O116.Fsize (ow53 C.w) d11_233 d11_234 fun T117 X117 e117 => ?_
 refine cY C X117 d11_237 272 ((flt (by decide : ¬ ((1 : Int32) < (1 : Int32)))).2.1) ?_
 refine sI C X117 d11_272 ?_
 refine sC C X117 d11_273 ?_
 refine sS C X117 d11_274 ?_
 refine wi C X117 #[oR a11_0, oI 4, oI 1, oR b3, oR b4, oR b6, oI 1, oI 3] d11_275 ?_
 refine si C X117 d11_277 ?_
 refine bN C X117 d11_279 ((if0 _ _).trans (tlt (by decide : (0 : Int32) < (3 : Int32))).2.2.2) ?_
 refine gA C X117 e117 O116.Fspans (ow23 C.w) d11_282 d11_283 fun T118 X118 e118 => ?_
 refine si C X118 d11_286 ?_
 refine gA C X118 e118 O116.Fspans (ow23 C.w) d11_288 d11_289 fun T119 X119 e119 => ?_
 refine sC C X119 d11_292 ?_
 refine si C X119 d11_293 ?_
 refine sM C X119 d11_295 ?_
 refine lA C X119 e119 P116_0 d11_296 ?_
 refine gA C X119 e119 O116.Fspans (ow23 C.w) d11_297 d11_298 fun T120 X120 e120 => ?_
 refine sC C X120 d11_301 ?_
 refine si C X120 d11_302 ?_
 refine sM C X120 d11_304 ?_
 refine sC C X120 d11_305 ?_
 refine sP C X120 d11_306 ?_
 refine lA C X120 e120 P116_0 d11_307 ?_
 refine cS C X120 e120 (fun ws => rm19 l Z a0 C.w ws oM oM T116.heap n0 O116.hsz ) (W := 2) (ow106 C.w) (ow107 C.w) (ow108 C.w) (ow68 C.w) (argsL := [(.long oM), (.long oM)]) (lenOf pd__JJ_J rfl) d11_308 fun v121 T121 lo121 X121 hQ121 => ?_
 obtain ⟨rfl, Nq121, e121⟩ := hQ121
 rw [show (own_m oM oM) = oM from by decide +kernel]
 refine sJ C X121 e121 ((N95.app Nq116).app Nq121) O116.grS P116_0 _ d11_311 fun T123 h123 lo123 X123 e123 N123 W123 V123 => ?_
 have O123 := O116.wsp W123
 refine wc C X123 #[oR a11_0, oI 4, oI 1, oR b3, oR b4, oR b6, oI 1, oI 2] d11_312 ?_
 refine sG C X123 d11_315 277 ?_
 refine si C X123 d11_277 ?_
 refine bN C X123 d11_279 ((if0 _ _).trans (tlt (by decide : (0 : Int32) < (2 : Int32))).2.2.2) ?_
 refine gA C X123 e123 O123.Fspans (ow23 C.w) d11_282 d11_283 fun T124 X124 e124 => ?_
 refine si C X124 d11_286 ?_
 refine gA C X124 e124 O123.Fspans (ow23 C.w) d11_288 d11_289 fun T125 X125 e125 => ?_
 refine sC C X125 d11_292 ?_
 refine si C X125 d11_293 ?_
 refine sM C X125 d11_295 ?_
 refine lA C X125 e125 V123 d11_296 ?_
 refine gA C X125 e125 O123.Fspans (ow23 C.w) d11_297 d11_298 fun T126 X126 e126 => ?_
 refine sC C X126 d11_301 ?_
 refine si C X126 d11_302 ?_
 refine sM C X126 d11_304 ?_
 refine sC C X126 d11_305 ?_
 refine sP C X126 d11_306 ?_
 refine lA C X126 e126 V123 d11_307 ?_
 refine cS C X126 e126 (fun ws => rm19 l Z a0 C.w ws oM oM h123 n0 O123.hsz ) (W := 2) (ow106 C.w) (ow107 C.w) (ow108 C.w) (ow68 C.w) (argsL := [(.long oM), (.long oM)]) (lenOf pd__JJ_J rfl) d11_308 fun v127 T127 lo127 X127 hQ127 => ?_
 obtain ⟨rfl, Nq127, e127⟩ := hQ127
 rw [show (own_m oM oM) = oM from by decide +kernel]
 refine sJ C X127 e127 (N123.app Nq127) O123.grS V123 _ d11_311 fun T129 h129 lo129 X129 e129 N129 W129 V129 => ?_
 have O129 := O123.wsp W129
 refine wc C X129 #[oR a11_0, oI 4, oI 1, oR b3, oR b4, oR b6, oI 1, oI 1] d11_312 ?_
 refine sG C X129 d11_315 277 ?_
 refine si C X129 d11_277 ?_
 refine bN C X129 d11_279 ((if0 _ _).trans (tlt (by decide : (0 : Int32) < (1 : Int32))).2.2.2) ?_
 refine gA C X129 e129 O129.Fspans (ow23 C.w) d11_282 d11_283 fun T130 X130 e130 => ?_
 refine si C X130 d11_286 ?_
 refine gA C X130 e130 O129.Fspans (ow23 C.w) d11_288 d11_289 fun T131 X131 e131 => ?_
 refine sC C X131 d11_292 ?_
 refine si C X131 d11_293 ?_
 refine sM C X131 d11_295 ?_
 refine lA C X131 e131 V129 d11_296 ?_
 refine gA C X131 e131 O129.Fspans (ow23 C.w) d11_297 d11_298 fun T132 X132 e132 => ?_
 refine sC C X132 d11_301 ?_
 refine si C X132 d11_302 ?_
 refine sM C X132 d11_304 ?_
 refine sC C X132 d11_305 ?_
 refine sP C X132 d11_306 ?_
 refine lA C X132 e132 V129 d11_307 ?_
 refine cS C X132 e132 (fun ws => rm19 l Z a0 C.w ws oM oM h129 n0 O129.hsz ) (W := 2) (ow106 C.w) (ow107 C.w) (ow108 C.w) (ow68 C.w) (argsL := [(.long oM), (.long oM)]) (lenOf pd__JJ_J rfl) d11_308 fun v133 T133 lo133 X133 hQ133 => ?_
 obtain ⟨rfl, Nq133, e133⟩ := hQ133
 rw [show (own_m oM oM) = oM from by decide +kernel]
 refine sJ C X133 e133 (N129.app Nq133) O129.grS V129 _ d11_311 fun T135 h135 lo135 X135 e135 N135 W135 V135 => ?_
 have O135 := O129.wsp W135
 refine wc C X135 #[oR a11_0, oI 4, oI 1, oR b3, oR b4, oR b6, oI 1, oI 0] d11_312 ?_
 refine sG C X135 d11_315 277 ?_
 refine si C X135 d11_277 ?_
 refine bY C X135 d11_279 318 ((if0 _ _).trans (flt (by decide : ¬ ((0 : Int32) < (0 : Int32)))).2.2.2) ?_
 refine rV C X135 e135 hret d11_318 ?_
 exact ⟨rfl, N135, b3, b4, b6, b74, b54, bx14_0_55, k3, k4, k6, kx14_0_55, O135, ⟨_, own_arv V135 (own_cons rfl (own_cons (congrArg Value.long (by simp only [own_mMM])) (own_cons (congrArg Value.long (by simp only [own_mMM])) (own_cons (congrArg Value.long (by simp only [own_mMM])) (own_cons rfl (own_cons rfl (own_cons rfl (own_cons rfl rfl))))))))⟩⟩
def Q_rm23_4_1 (Z : State) (a23_0 : Addr) (q23_2 : Int64) (wt : Addr) (kc_wt : ClassId) (t_wt_0 t_wt_1 t_wt_2 t_wt_3 : Int64) (ws : Addr) (l_ws_0 l_ws_1 l_ws_2 l_ws_3 : Int64) (h0 : Heap) (n0 : Nat) (v : Option Value) (h : Heap) (L : List Loc) : Prop := v = none ∧ Fr n0 L ∧ Keep h0 h [ws] ∧ own_StK Z h0 h ∧ own_Sp4 Z h ws l_ws_0 q23_2 l_ws_2 l_ws_3
theorem rm23_4_1 (l : Launch) (Z : State) (a0 : Array Value) (hw : own_T Z a0) (a23_0 : Addr) (q23_2 : Int64) (wt : Addr) (kc_wt : ClassId) (t_wt_0 t_wt_1 t_wt_2 t_wt_3 : Int64) (ws : Addr) (l_ws_0 l_ws_1 l_ws_2 l_ws_3 : Int64) (h0 : Heap) (n0 : Nat) (Z0 : n0 ≤ h0.size) (F_times : Fld Z h0 a23_0 oL "times" "[J" (.ref wt)) (V_wt : Arv Z h0 wt kc_wt .long (4 : Int32) [(.long t_wt_0), (.long t_wt_1), (.long t_wt_2), (.long t_wt_3)] oZ) (F_spans : Fld Z h0 a23_0 oL "spans" "[J" (.ref ws)) (T_ws : own_Sp4 Z h0 ws l_ws_0 l_ws_1 l_ws_2 l_ws_3) (g_ws : n0 ≤ ws) (ne_a23_0_ws : a23_0 ≠ ws) :
   own_Met l oy23 oc23 7 none ({ frames := 1, cells := 0, slots := 0, locals := 15 } : Room) Z h0 #[(.ref a23_0), (.int (1 : Int32)), (.long q23_2)] (Q_rm23_4_1 Z a23_0 q23_2 wt kc_wt t_wt_0 t_wt_1 t_wt_2 t_wt_3 ws l_ws_0 l_ws_1 l_ws_2 l_ws_3 h0 n0) := by
 refine own_go hw (plainFor_of_name pn_23) (fun m => ef_rm23_2_1 m a23_0 q23_2) fun p e s m below meth c T0 C hret X0 e0 => ?_
 have N0 := Fr.nil n0
 refine gA C X0 e0 F_times (ow17 C.w) d23_0 d23_1 fun T1 X1 e1 => ?_
 refine nA C X1 e1 V_wt d23_4 ?_
 refine sI C X1 d23_5 ?_
 refine sP C X1 d23_6 ?_
 refine wi C X1 #[oR a23_0, oI 1, oJ q23_2, oD, oI 5, oU, oU] d23_7 ?_
 refine gA C X1 e1 F_spans (ow23 C.w) d23_9 d23_10 fun T2 X2 e2 => ?_
 refine si C X2 d23_13 ?_
 refine sL C X2 d23_15 ?_
 obtain ⟨kq3, VT3⟩ := id T_ws
 obtain ⟨m3_3, hm3_3⟩ : ∃ z : Int64, z = (own_m l_ws_2 l_ws_3) := ⟨_, rfl⟩
 rw [← hm3_3] at VT3
 obtain ⟨m3_2, hm3_2⟩ : ∃ z : Int64, z = (own_m l_ws_0 l_ws_1) := ⟨_, rfl⟩
 rw [← hm3_2] at VT3
 obtain ⟨m3_1, hm3_1⟩ : ∃ z : Int64, z = (own_m m3_2 m3_3) := ⟨_, rfl⟩
 rw [← hm3_1] at VT3
 refine sJ C X2 e2 N0 g_ws VT3 _ d23_16 fun T4 h4 lo4 X4 e4 N4 W4 V4 => ?_
 have S4 : own_StK Z h0 h4 := (own_StK.refl Z h0).wr W4
 have K4 : Keep h0 h4 [ws] := (Keep.refl h0 [ws]).wr W4 (Or.inl (List.mem_of_getElem? (i := 0) rfl))
 have Z4 : n0 ≤ h4.size := Nat.le_trans Z0 K4.1
 refine si C X4 d23_17 ?_
 refine sC C X4 d23_19 ?_
 refine own_Fin.st (g' := (mkF m 21 #[oR a23_0, oI 1, oJ q23_2, oD, oI 5, oU, oU] [(.int (2 : Int32))])) ?_ (fun t k => XS.idiv X4.here C.1 rfl (C.d d23_20) rfl (by decide : ¬ ((2 : Int32) = (0 : Int32))) k)
 refine wi C X4 #[oR a23_0, oI 1, oJ q23_2, oD, oI 2, oU, oU] d23_21 ?_
 refine si C X4 d23_23 ?_
 refine bN C X4 d23_25 ((if0 _ _).trans (tlt (by decide : (0 : Int32) < (2 : Int32))).2.2.2) ?_
 have f5 := (F_spans.other W4 (Or.inl ne_a23_0_ws))
 refine gA C X4 e4 f5 (ow23 C.w) d23_28 d23_29 fun T6 X6 e6 => ?_
 refine sC C X6 d23_32 ?_
 refine si C X6 d23_33 ?_
 refine sM C X6 d23_35 ?_
 refine lA C X6 e6 V4 d23_36 ?_
 refine gA C X6 e6 f5 (ow23 C.w) d23_37 d23_38 fun T7 X7 e7 => ?_
 refine sC C X7 d23_41 ?_
 refine si C X7 d23_42 ?_
 refine sM C X7 d23_44 ?_
 refine sC C X7 d23_45 ?_
 refine sP C X7 d23_46 ?_
 refine lA C X7 e7 V4 d23_47 ?_
 refine cS C X7 e7 (fun ws => rm19 l Z a0 C.w ws l_ws_0 q23_2 h4 n0 Z4 ) (W := 0) (ow106 C.w) (ow107 C.w) (ow108 C.w) (ow68 C.w) (argsL := [(.long l_ws_0), (.long q23_2)]) (lenOf pd__JJ_J rfl) d23_48 fun v8 T8 lo8 X8 hQ8 => ?_
 obtain ⟨rfl, Nq8, e8⟩ := hQ8
 obtain ⟨x9, hx9⟩ : ∃ z : Int64, z = (own_m l_ws_0 q23_2) := ⟨_, rfl⟩
 rw [← hx9]
 refine wl C X8 #[oR a23_0, oI 1, oJ q23_2, oD, oI 2, oJ x9, oD] d23_51 ?_
 refine gA C X8 e8 f5 (ow23 C.w) d23_53 d23_54 fun T10 X10 e10 => ?_
 refine si C X10 d23_57 ?_
 refine lA C X10 e10 V4 d23_59 ?_
 refine sl C X10 d23_60 ?_
 refine tC C X10 d23_62 ?_
 by_cases h63_11 : m3_2 = x9
 · refine bN C X10 d23_63 ((if0 _ _).trans (teq ((lw_eq _ _).mpr h63_11)).2) ?_
   refine sG C X10 d23_66 87 ?_
   refine rV C X10 e10 hret d23_87 ?_
   subst hx9
   subst hm3_1
   subst hm3_2
   subst hm3_3
   exact ⟨rfl, (N4.app Nq8), K4, S4, ⟨_, own_arv V4 (own_cons rfl (own_cons (congrArg Value.long (by rw [h63_11])) (own_cons (congrArg Value.long h63_11.symm) (own_cons rfl (own_cons rfl (own_cons rfl (own_cons rfl (own_cons rfl rfl))))))))⟩⟩
 refine bY C X10 d23_63 69 ((if0 _ _).trans (feq (fun q => h63_11 ((lw_eq _ _).mp q))).2) ?_
 refine gA C X10 e10 f5 (ow23 C.w) d23_69 d23_70 fun T12 X12 e12 => ?_
 refine si C X12 d23_73 ?_
 refine sl C X12 d23_75 ?_
 refine sJ C X12 e12 (N4.app Nq8) g_ws V4 _ d23_77 fun T13 h13 lo13 X13 e13 N13 W13 V13 => ?_
 have S13 : own_StK Z h0 h13 := S4.wr W13
 have K13 : Keep h0 h13 [ws] := K4.wr W13 (Or.inl (List.mem_of_getElem? (i := 0) rfl))
 have Z13 : n0 ≤ h13.size := Nat.le_trans Z0 K13.1
 refine si C X13 d23_78 ?_
 refine sC C X13 d23_80 ?_
 refine own_Fin.st (g' := (mkF m 82 #[oR a23_0, oI 1, oJ q23_2, oD, oI 2, oJ x9, oD] [(.int (1 : Int32))])) ?_ (fun t k => XS.idiv X13.here C.1 rfl (C.d d23_81) rfl (by decide : ¬ ((2 : Int32) = (0 : Int32))) k)
 refine wi C X13 #[oR a23_0, oI 1, oJ q23_2, oD, oI 1, oJ x9, oD] d23_82 ?_
 refine sG C X13 d23_84 23 ?_
 refine si C X13 d23_23 ?_
 refine bN C X13 d23_25 ((if0 _ _).trans (tlt (by decide : (0 : Int32) < (1 : Int32))).2.2.2) ?_
 have f14 := (f5.other W13 (Or.inl ne_a23_0_ws))
 refine gA C X13 e13 f14 (ow23 C.w) d23_28 d23_29 fun T15 X15 e15 => ?_
 refine sC C X15 d23_32 ?_
 refine si C X15 d23_33 ?_
 refine sM C X15 d23_35 ?_
 refine lA C X15 e15 V13 d23_36 ?_
 refine gA C X15 e15 f14 (ow23 C.w) d23_37 d23_38 fun T16 X16 e16 => ?_
 refine sC C X16 d23_41 ?_
 refine si C X16 d23_42 ?_
 refine sM C X16 d23_44 ?_
 refine sC C X16 d23_45 ?_
 refine sP C X16 d23_46 ?_
 refine lA C X16 e16 V13 d23_47 ?_
 refine cS C X16 e16 (fun ws => rm19 l Z a0 C.w ws x9 m3_3 h13 n0 Z13 ) (W := 0) (ow106 C.w) (ow107 C.w) (ow108 C.w) (ow68 C.w) (argsL := [(.long x9), (.long m3_3)]) (lenOf pd__JJ_J rfl) d23_48 fun v17 T17 lo17 X17 hQ17 => ?_
 obtain ⟨rfl, Nq17, e17⟩ := hQ17
 obtain ⟨x18, hx18⟩ : ∃ z : Int64, z = (own_m x9 m3_3) := ⟨_, rfl⟩
 rw [← hx18]
 refine wl C X17 #[oR a23_0, oI 1, oJ q23_2, oD, oI 1, oJ x18, oD] d23_51 ?_
 refine gA C X17 e17 f14 (ow23 C.w) d23_53 d23_54 fun T19 X19 e19 => ?_
 refine si C X19 d23_57 ?_
 refine lA C X19 e19 V13 d23_59 ?_
 refine sl C X19 d23_60 ?_
 refine tC C X19 d23_62 ?_
 by_cases h63_20 : m3_1 = x18
 · refine bN C X19 d23_63 ((if0 _ _).trans (teq ((lw_eq _ _).mpr h63_20)).2) ?_
   refine sG C X19 d23_66 87 ?_
   refine rV C X19 e19 hret d23_87 ?_
   subst hx18
   subst hx9
   subst hm3_1
   subst hm3_2
   subst hm3_3
   exact ⟨rfl, (N13.app Nq17), K13, S13, ⟨_, own_arv V13 (own_cons rfl (own_cons (congrArg Value.long h63_20.symm) (own_cons rfl (own_cons rfl (own_cons rfl (own_cons rfl (own_cons rfl (own_cons rfl rfl))))))))⟩⟩
 refine bY C X19 d23_63 69 ((if0 _ _).trans (feq (fun q => h63_20 ((lw_eq _ _).mp q))).2) ?_
 refine gA C X19 e19 f14 (ow23 C.w) d23_69 d23_70 fun T21 X21 e21 => ?_
 refine si C X21 d23_73 ?_
 refine sl C X21 d23_75 ?_
 refine sJ C X21 e21 (N13.app Nq17) g_ws V13 _ d23_77 fun T22 h22 lo22 X22 e22 N22 W22 V22 => ?_
 have S22 : own_StK Z h0 h22 := S13.wr W22
 have K22 : Keep h0 h22 [ws] := K13.wr W22 (Or.inl (List.mem_of_getElem? (i := 0) rfl))
 have Z22 : n0 ≤ h22.size := Nat.le_trans Z0 K22.1
 refine si C X22 d23_78 ?_
 refine sC C X22 d23_80 ?_
 refine own_Fin.st (g' := (mkF m 82 #[oR a23_0, oI 1, oJ q23_2, oD, oI 1, oJ x18, oD] [(.int (0 : Int32))])) ?_ (fun t k => XS.idiv X22.here C.1 rfl (C.d d23_81) rfl (by decide : ¬ ((2 : Int32) = (0 : Int32))) k)
 refine wi C X22 #[oR a23_0, oI 1, oJ q23_2, oD, oI 0, oJ x18, oD] d23_82 ?_
 refine sG C X22 d23_84 23 ?_
 refine si C X22 d23_23 ?_
 refine bY C X22 d23_25 87 ((if0 _ _).trans (flt (by decide : ¬ ((0 : Int32) < (0 : Int32)))).2.2.2) ?_
 refine rV C X22 e22 hret d23_87 ?_
 subst hx18
 subst hx9
 subst hm3_1
 subst hm3_2
 subst hm3_3
 exact ⟨rfl, N22, K22, S22, ⟨_, own_arv V22 (own_cons rfl (own_cons rfl (own_cons rfl (own_cons rfl (own_cons rfl (own_cons rfl (own_cons rfl (own_cons rfl rfl))))))))⟩⟩
def own_S_4_0_2_2_3 (Z : State) (h : Heap) (n0 : Nat) (a : Addr) (T t : Int64) : Prop := ∃ rT : Addr, ∃ rF : Addr, ∃ rO : Addr, ∃ rS : Addr, ∃ rE : Addr, ∃ rW : Addr, ∃ kT : ClassId, ∃ kF : ClassId, ∃ kO : ClassId, ∃ kW : ClassId, ∃ bs : Int64, ∃ tm0 : Int64, ∃ tm2 : Int64, ∃ tm3 : Int64, ∃ fr0 : Int64, ∃ fr1 : Int64, ∃ fr2 : Int64, ∃ fr3 : Int64, ∃ to0 : Int64, ∃ to1 : Int64, ∃ to2 : Int64, ∃ to3 : Int64, own_Obj Z h n0 a rT rF rO rS rE rW kT kF kO kW (0 : Int32) (2 : Int32) (2 : Int32) bs (1 : Int32) (1 : Int32) (3 : Int64) (4 : Int32) [(.long tm0), (.long t), (.long tm2), (.long tm3)] [(.long fr0), (.long fr1), (.long fr2), (.long fr3)] [(.long to0), (.long to1), (.long to2), (.long to3)] ∧ own_Sp4 Z h rS oM (t - fr0) oM oM ∧ own_near T tm0 ∧ own_near T t ∧ own_near T fr0 ∧ own_near T fr1
def Q_rm7_6 (Z : State) (a7_0 : Addr) (q7_1 : Int64) (q7_2 : Int64) (p7_3 : Int32) (rT : Addr) (rF : Addr) (rO : Addr) (rS : Addr) (rE : Addr) (rW : Addr) (kT : ClassId) (kF : ClassId) (kO : ClassId) (kW : ClassId) (bs : Int64) (tm0 : Int64) (tm1 : Int64) (fr0 : Int64) (fr1 : Int64) (to0 : Int64) (to1 : Int64) (T : Int64) (h0 : Heap) (n0 : Nat) (v : Option Value) (h : Heap) (L : List Loc) : Prop := v = none ∧ Fr n0 L ∧ (own_S_2_1_2_1_2 Z h n0 a7_0 T q7_1 ∨ own_S_4_0_2_2_3 Z h n0 a7_0 T q7_1)
theorem rm7_6 (l : Launch) (Z : State) (a0 : Array Value) (hw : own_T Z a0) (a7_0 : Addr) (q7_1 q7_2 : Int64) (p7_3 : Int32) (rT rF rO rS rE rW : Addr) (kT kF kO kW : ClassId) (bs tm0 tm1 fr0 fr1 to0 to1 T : Int64) (h0 : Heap) (n0 : Nat) (Z0 : n0 ≤ h0.size) (O : own_Obj Z h0 n0 a7_0 rT rF rO rS rE rW kT kF kO kW (1 : Int32) (2 : Int32) (1 : Int32) bs (1 : Int32) (1 : Int32) (2 : Int64) (2 : Int32) [(.long tm0), (.long tm1)] [(.long fr0), (.long fr1)] [(.long to0), (.long to1)]) (SP : own_Sp2 Z h0 rS oM oM) (htm1 : own_near T tm1) (hfr1 : own_near T fr1) (hs_q7_1 : own_near T q7_1) (hm : (0 : Int32) < p7_3) :
   own_Met l oy7 oc7 9 none ({ frames := 6, cells := 6, slots := 44, locals := 150 } : Room) Z h0 #[(.ref a7_0), (.long q7_1), (.long q7_2), (.int p7_3)] (Q_rm7_6 Z a7_0 q7_1 q7_2 p7_3 rT rF rO rS rE rW kT kF kO kW bs tm0 tm1 fr0 fr1 to0 to1 T h0 n0) := by
 refine own_go hw (plainFor_of_name pn_7) (fun m => ef_rm7_1 m a7_0 q7_1 q7_2 p7_3) fun p e s m below meth c T0 C hret X0 e0 => ?_
 have N0 := Fr.nil n0
 refine gA C X0 e0 O.Fsize (ow53 C.w) d7_0 d7_1 fun T1 X1 e1 => ?_
 refine bN C X1 d7_4 ((if0 _ _).trans (tlt (by decide : (0 : Int32) < (1 : Int32))).2.2.2) ?_
 refine gA C X1 e1 O.Ftimes (ow17 C.w) d7_7 d7_8 fun T2 X2 e2 => ?_
 refine gA C X2 e2 O.Fend (ow55 C.w) d7_11 d7_12 fun T3 X3 e3 => ?_
 refine sC C X3 d7_15 ?_
 refine sS C X3 d7_16 ?_
 refine lA C X3 e3 O.Vt d7_17 ?_
 refine sL C X3 d7_18 ?_
 refine tC C X3 d7_19 ?_
 by_cases h20_4 : tm1 = q7_1
 · have fw5 := O
   rw [h20_4] at fw5
   have fw6 := SP
   refine bN C X3 d7_20 ((if0 _ _).trans (teq ((lw_eq _ _).mpr h20_4)).2) ?_
   refine gA C X3 e3 fw5.Ftotals (ow21 C.w) d7_23 d7_24 fun T7 X7 e7 => ?_
   refine gA C X7 e7 fw5.Fend (ow55 C.w) d7_27 d7_28 fun T8 X8 e8 => ?_
   refine sC C X8 d7_31 ?_
   refine sS C X8 d7_32 ?_
   show own_Fin p l e _ s m _ below meth c _ T8 (mkF m 33 #[oR a7_0, oJ q7_1, oD, oJ q7_2, oD, oI p7_3, oU, oU, oU] [(.int (1 : Int32)), (.ref rO)])
   refine own_Fin.st (g' := (mkF m 34 #[oR a7_0, oJ q7_1, oD, oJ q7_2, oD, oI p7_3, oU, oU, oU] [(.int (1 : Int32)), (.ref rO), (.int (1 : Int32)), (.ref rO)])) ?_ (fun t k => by jvm_step X8.here [X8.here.top, C.1, C.d d7_33, Value.category]; exact k)
   refine lA C X8 e8 fw5.Vo d7_34 ?_
   refine sL C X8 d7_35 ?_
   refine tP C X8 d7_36 ?_
   refine sJ C X8 e8 N0 fw5.grO fw5.Vo _ d7_37 fun T9 h9 lo9 X9 e9 N9 W9 V9 => ?_
   have O9 := fw5.setO W9 V9
   refine sG C X9 d7_38 348 ?_
   have f63 := (fw6.other W9 (Ne.symm O9.n_rO_rS))
   refine rV C X9 e9 hret d7_348 ?_
   exact ⟨rfl, N9, Or.inl ⟨rT, rF, rO, rS, rE, rW, kT, kF, kO, kW, bs, tm0, fr0, fr1, to0, (to1 + q7_2), O9, f63, hs_q7_1, hfr1⟩⟩
 refine bY C X3 d7_20 41 ((if0 _ _).trans (feq (fun q => h20_4 ((lw_eq _ _).mp q))).2) ?_
 refine gA C X3 e3 O.Fsize (ow53 C.w) d7_41 d7_42 fun T10 X10 e10 => ?_
 refine si C X10 d7_45 ?_
 by_cases h47_11 : (1 : Int32) < p7_3
 · refine cY C X10 d7_47 148 ((tlt h47_11).1) ?_
   refine gA C X10 e10 O.Ftimes (ow17 C.w) d7_148 d7_149 fun T12 X12 e12 => ?_
   refine nA C X12 e12 O.Vt d7_152 ?_
   refine wi C X12 #[oR a7_0, oJ q7_1, oD, oJ q7_2, oD, oI p7_3, oI 2, oU, oU] d7_153 ?_
   refine gA C X12 e12 O.Fend (ow55 C.w) d7_155 d7_156 fun T13 X13 e13 => ?_
   refine si C X13 d7_159 ?_
   refine cY C X13 d7_161 188 ((teq (by decide : (2 : Int32) = (2 : Int32))).1) ?_
   refine sA C X13 d7_188 ?_
   refine sC C X13 d7_189 ?_
   refine sC C X13 d7_190 ?_
   refine gA C X13 e13 O.Fsize (ow53 C.w) d7_191 d7_192 fun T14 X14 e14 => ?_
   refine sM C X14 d7_195 ?_
   refine sC C X14 d7_196 ?_
   refine sP C X14 d7_197 ?_
   refine cB C X14 e14 (W := 2) (Jvm.Free.JP.Integer_highestOneBit_I.pays (3 : Int32) (own_tH C) (by decide) (by decide)) (ow57 C.w) (ow58 C.w) (ow60 C.w) (ow59 C.w) (argsL := [(.int (3 : Int32))]) (lenOf pd__I_I rfl) (fun _ => ⟨rfl, trivial⟩) d7_198 fun T15 X15 e15 => ?_
   have cz16 : Jvm.Free.JP.Integer_highestOneBit_I.val (3 : Int32) = (2 : Int32):=by decide +kernel
   rw [cz16]
   refine sC C X15 d7_201 ?_
   refine sH C X15 d7_202 ?_
   refine cS C X15 e15 (fun ws => rm10 l Z a0 C.w ws (2 : Int32) (4 : Int32) h0 n0 O.hsz ) (W := 1) (ow66 C.w) (ow67 C.w) (ow69 C.w) (ow68 C.w) (argsL := [(.int (2 : Int32)), (.int (4 : Int32))]) (lenOf pd__II_I rfl) d7_203 fun v17 T17 lo17 X17 hQ17 => ?_
   obtain ⟨rfl, Nq17, e17⟩ := hQ17
   rw [show (if (2 : Int32) < (4 : Int32) then (4 : Int32) else (2 : Int32)) = (4 : Int32) from by decide +kernel]
   refine cP C X17 e17 (rm11_3 l Z a0 C.w a7_0 rT rF rO rS rE rW kT kF kO kW bs tm0 tm1 fr0 fr1 to0 to1 T h0 n0 O.hsz O SP htm1 hfr1) O.Ea (W := 0) (ow70 C.w) (ow71 C.w) (own_selp (x := oy7) rfl (mvT (args := #[]) C.z (ow51 C.w)) (Cond.privateMethod_at (mvP C.z (ow72 C.w) (args := #[]))) (mvT C.z (ow71 C.w)) (by decide)) (ow72 C.w) (ow73 C.w) (ow9 C.w) (argsL := [(.int (4 : Int32))]) (lenOf pd__I_V rfl) d7_206 fun v19 T19 lo19 X19 hQ19 => ?_
   obtain ⟨rfl, Nq19, rT_19, rF_19, rO_19, rS_19, rE_19, rW_19, kT_19, kF_19, kO_19, kW_19, O19, SP19⟩ := hQ19
   refine gA C X19 rfl O19.Fsize (ow53 C.w) d7_209 d7_210 fun T20 X20 e20 => ?_
   refine bN C X20 d7_213 ((if0 _ _).trans (tlt (by decide : (0 : Int32) < (1 : Int32))).2.2.2) ?_
   refine gA C X20 e20 O19.Ftotals (ow21 C.w) d7_216 d7_217 fun T21 X21 e21 => ?_
   refine gA C X21 e21 O19.Fend (ow55 C.w) d7_220 d7_221 fun T22 X22 e22 => ?_
   refine sC C X22 d7_224 ?_
   refine sS C X22 d7_225 ?_
   refine lA C X22 e22 O19.Vo d7_226 ?_
   refine sG C X22 d7_227 234 ?_
   refine wl C X22 #[oR a7_0, oJ q7_1, oD, oJ q7_2, oD, oI p7_3, oI 2, oJ to1, oD] d7_234 ?_
   refine gA C X22 e22 O19.Ftimes (ow17 C.w) d7_236 d7_237 fun T23 X23 e23 => ?_
   refine gA C X23 e23 O19.Fend (ow55 C.w) d7_240 d7_241 fun T24 X24 e24 => ?_
   refine sL C X24 d7_244 ?_
   refine sJ C X24 e24 ((N0.app Nq17).app Nq19) O19.grT O19.Vt _ d7_245 fun T25 h25 lo25 X25 e25 N25 W25 V25 => ?_
   have O25 := O19.setT W25 V25
   refine gA C X25 e25 O25.Ffroms (ow19 C.w) d7_246 d7_247 fun T26 X26 e26 => ?_
   refine gA C X26 e26 O25.Fend (ow55 C.w) d7_250 d7_251 fun T27 X27 e27 => ?_
   refine sL C X27 d7_254 ?_
   refine sJ C X27 e27 N25 O25.grF O25.Vf _ d7_255 fun T28 h28 lo28 X28 e28 N28 W28 V28 => ?_
   have O28 := O25.setF W28 V28
   refine gA C X28 e28 O28.Ftotals (ow21 C.w) d7_256 d7_257 fun T29 X29 e29 => ?_
   refine gA C X29 e29 O28.Fend (ow55 C.w) d7_260 d7_261 fun T30 X30 e30 => ?_
   refine sl C X30 d7_264 ?_
   refine sL C X30 d7_266 ?_
   refine tP C X30 d7_267 ?_
   refine sJ C X30 e30 N28 O28.grO O28.Vo _ d7_268 fun T31 h31 lo31 X31 e31 N31 W31 V31 => ?_
   have O31 := O28.setO W31 V31
   refine gA C X31 e31 O31.Fentries (ow46 C.w) d7_269 d7_270 fun T32 X32 e32 => ?_
   refine gA C X32 e32 O31.Fend (ow55 C.w) d7_273 d7_274 fun T33 X33 e33 => ?_
   refine cV C X33 e33 (rm20_2 l Z a0 C.w rE_19 (1 : Int32) rW_19 kW_19 (1 : Int64) h31 n0 O31.hsz (by decide +kernel) (by decide +kernel) O31.Ee O31.BwordsInUse O31.BsizeIsSticky O31.Bwords O31.Vw O31.grW O31.St) O31.Ee (W := 0) (ow111 C.w) (ow112 C.w) (ow114 C.w) (ow113 C.w) (ow115 C.w) (ow27 C.w) (argsL := [(.int (1 : Int32))]) (lenOf pd__I_V rfl) d7_277 fun v34 T34 lo34 X34 hQ34 => ?_
   obtain ⟨rfl, Nq34, Kc34, Sc34, P34_0⟩ := hQ34
   rw [show ((1 : Int64) ||| ((1 : Int64) <<< ((1 : Int32) &&& 0x3f).toInt64)) = (3 : Int64) from by decide +kernel] at P34_0
   have O34 := O31.bit1 Kc34 Sc34 P34_0
   refine sA C X34 d7_280 ?_
   refine gA C X34 rfl O34.Fend (ow55 C.w) d7_281 d7_282 fun T35 X35 e35 => ?_
   refine gA C X35 e35 O34.Fsize (ow53 C.w) d7_285 d7_286 fun T36 X36 e36 => ?_
   refine bN C X36 d7_289 ((if0 _ _).trans (tlt (by decide : (0 : Int32) < (1 : Int32))).2.2.2) ?_
   refine sL C X36 d7_292 ?_
   refine gA C X36 e36 O34.Ffroms (ow19 C.w) d7_293 d7_294 fun T37 X37 e37 => ?_
   refine gA C X37 e37 O34.Fend (ow55 C.w) d7_297 d7_298 fun T38 X38 e38 => ?_
   refine sC C X38 d7_301 ?_
   refine sS C X38 d7_302 ?_
   refine lA C X38 e38 O34.Vf d7_303 ?_
   refine tS C X38 d7_304 ?_
   refine sG C X38 d7_305 311 ?_
   have f39 := ((((SP19.other W25 (Ne.symm O34.n_rT_rS)).other W28 (Ne.symm O34.n_rF_rS)).other W31 (Ne.symm O34.n_rO_rS)).keep Kc34 (ninS O34.n_rS_rW nin0))
   refine cP C X38 e38 (rm23_4_1 l Z a0 C.w a7_0 (q7_1 - fr1) rT_19 kT_19 tm1 q7_1 (0 : Int64) (0 : Int64) rS_19 oM oM oM oM T34.heap n0 O34.hsz O34.Ftimes O34.Vt O34.Fspans f39 O34.grS O34.n_a_rS) O34.Ea (W := 0) (ow126 C.w) (ow127 C.w) (own_selp (x := oy7) rfl (mvT (args := #[]) C.z (ow51 C.w)) (Cond.privateMethod_at (mvP C.z (ow128 C.w) (args := #[]))) (mvT C.z (ow127 C.w)) (by decide)) (ow128 C.w) (ow129 C.w) (ow9 C.w) (argsL := [(.int (1 : Int32)), (.long (q7_1 - fr1))]) (lenOf pd__IJ_V rfl) d7_311 fun v40 T40 lo40 X40 hQ40 => ?_
   obtain ⟨rfl, Nq40, Kc40, Sc40, P40_0⟩ := hQ40
   have O40 := O34.sp Kc40 Sc40
   refine sA C X40 d7_314 ?_
   refine sD C X40 d7_315 ?_
   refine gF C X40 rfl O40.Fend (ow55 C.w) d7_316 fun T41 X41 e41 => ?_
   refine sC C X41 d7_319 ?_
   refine sP C X41 d7_320 ?_
   refine pF C X41 e41 ((N31.app Nq34).app Nq40) O40.ga O40.Fend O40.Ea (ty := .int) (ow55 C.w) (ow56 C.w) (ow8 C.w) (by decide) d7_321 fun T42 h42 lo42 X42 e42 N42 W42 F42 => ?_
   have O42 := own_Obj.put_end hw O40 W42 F42
   refine sA C X42 d7_324 ?_
   refine sD C X42 d7_325 ?_
   refine gF C X42 e42 O42.Fsize (ow53 C.w) d7_326 fun T43 X43 e43 => ?_
   refine sC C X43 d7_329 ?_
   refine sP C X43 d7_330 ?_
   refine pF C X43 e43 N42 O42.ga O42.Fsize O42.Ea (ty := .int) (ow53 C.w) (ow54 C.w) (ow8 C.w) (by decide) d7_331 fun T44 h44 lo44 X44 e44 N44 W44 F44 => ?_
   have O44 := own_Obj.put_size hw O42 W44 F44
   refine gA C X44 e44 O44.Fsize (ow53 C.w) d7_334 d7_335 fun T45 X45 e45 => ?_
   refine si C X45 d7_338 ?_
   refine cY C X45 d7_340 348 ((flt (own_ilt (1 : Int32) (2 : Int32) h47_11 (by decide))).2.2.2) ?_
   have f64 := ((P40_0.other W42 (Ne.symm O44.n_a_rS)).other W44 (Ne.symm O44.n_a_rS))
   refine rV C X45 e45 hret d7_348 ?_
   exact ⟨rfl, N44, Or.inr (⟨rT_19, rF_19, rO_19, rS_19, rE_19, rW_19, kT_19, kF_19, kO_19, kW_19, bs, tm1, (0 : Int64), (0 : Int64), fr1, q7_1, (0 : Int64), (0 : Int64), to1, (to1 + q7_2), (0 : Int64), (0 : Int64), O44, f64, htm1, hs_q7_1, hfr1, hs_q7_1⟩)⟩
 refine cN C X10 d7_47 ((flt h47_11).1) ?_
 refine sL C X10 d7_50 ?_
 refine gA C X10 e10 O.Ffroms (ow19 C.w) d7_51 d7_52 fun T46 X46 e46 => ?_
 refine gA C X46 e46 O.Fend (ow55 C.w) d7_55 d7_56 fun T47 X47 e47 => ?_
 refine sC C X47 d7_59 ?_
 refine sS C X47 d7_60 ?_
 refine lA C X47 e47 O.Vf d7_61 ?_
 refine tS C X47 d7_62 ?_
 refine gA C X47 e47 O.Fspans (ow23 C.w) d7_63 d7_64 fun T48 X48 e48 => ?_
 refine sC C X48 d7_67 ?_
 obtain ⟨kq49, VT49⟩ := id SP
 refine lA C X48 e48 VT49 d7_68 ?_
 refine tC C X48 d7_69 ?_
 refine bN C X48 d7_70 ((if0 _ _).trans (tlt ((lw_lt _ _).mpr (own_ltM (by decide +kernel : (own_m oM oM) = oM) (own_nlt hs_q7_1 hfr1)))).2.1) ?_
 refine gA C X48 e48 O.Ftimes (ow17 C.w) d7_73 d7_74 fun T50 X50 e50 => ?_
 refine gA C X50 e50 O.Fend (ow55 C.w) d7_77 d7_78 fun T51 X51 e51 => ?_
 refine sC C X51 d7_81 ?_
 refine sS C X51 d7_82 ?_
 refine sL C X51 d7_83 ?_
 refine sJ C X51 e51 N0 O.grT O.Vt _ d7_84 fun T52 h52 lo52 X52 e52 N52 W52 V52 => ?_
 have O52 := O.setT W52 V52
 refine gA C X52 e52 O52.Ftotals (ow21 C.w) d7_85 d7_86 fun T53 X53 e53 => ?_
 refine gA C X53 e53 O52.Fend (ow55 C.w) d7_89 d7_90 fun T54 X54 e54 => ?_
 refine sC C X54 d7_93 ?_
 refine sS C X54 d7_94 ?_
 show own_Fin p l e _ s m _ below meth c _ T54 (mkF m 95 #[oR a7_0, oJ q7_1, oD, oJ q7_2, oD, oI p7_3, oU, oU, oU] [(.int (1 : Int32)), (.ref rO)])
 refine own_Fin.st (g' := (mkF m 96 #[oR a7_0, oJ q7_1, oD, oJ q7_2, oD, oI p7_3, oU, oU, oU] [(.int (1 : Int32)), (.ref rO), (.int (1 : Int32)), (.ref rO)])) ?_ (fun t k => by jvm_step X54.here [X54.here.top, C.1, C.d d7_95, Value.category]; exact k)
 refine lA C X54 e54 O52.Vo d7_96 ?_
 refine sL C X54 d7_97 ?_
 refine tP C X54 d7_98 ?_
 refine sJ C X54 e54 N52 O52.grO O52.Vo _ d7_99 fun T55 h55 lo55 X55 e55 N55 W55 V55 => ?_
 have O55 := O52.setO W55 V55
 refine gA C X55 e55 O55.Fentries (ow46 C.w) d7_100 d7_101 fun T56 X56 e56 => ?_
 refine gA C X56 e56 O55.Fend (ow55 C.w) d7_104 d7_105 fun T57 X57 e57 => ?_
 refine sC C X57 d7_108 ?_
 refine sS C X57 d7_109 ?_
 refine cV C X57 e57 (rm32_2 l Z a0 C.w rE (0 : Int32) rW kW (2 : Int64) h55 n0 O55.hsz (by decide +kernel) (by decide +kernel) O55.Ee O55.BwordsInUse O55.BsizeIsSticky O55.Bwords O55.Vw O55.St) O55.Ee (W := 0) (ow168 C.w) (ow169 C.w) (ow171 C.w) (ow170 C.w) (ow172 C.w) (ow27 C.w) (argsL := [(.int (0 : Int32))]) (lenOf pd__I_I rfl) d7_110 fun v58 T58 lo58 X58 hQ58 => ?_
 obtain ⟨rfl, Nq58, e58⟩ := hQ58
 rw [show (own_psb (0 : Int32) (2 : Int64)) = (-1 : Int32) from by decide +kernel]
 refine wi C X58 #[oR a7_0, oJ q7_1, oD, oJ q7_2, oD, oI p7_3, oI (-1), oU, oU] d7_113 ?_
 refine sA C X58 d7_115 ?_
 refine gA C X58 e58 O55.Fend (ow55 C.w) d7_116 d7_117 fun T60 X60 e60 => ?_
 refine sC C X60 d7_120 ?_
 refine sS C X60 d7_121 ?_
 refine si C X60 d7_122 ?_
 refine bN C X60 d7_124 ((if0 _ _).trans (tlt (by decide : (-1 : Int32) < (0 : Int32))).2.1) ?_
 refine kJ C X60 (ow98 C.w) d7_127 ?_
 refine sG C X60 d7_130 142 ?_
 have f61 := ((SP.other W52 (Ne.symm O55.n_rT_rS)).other W55 (Ne.symm O55.n_rO_rS))
 refine cP C X60 e60 (rm23_2_1 l Z a0 C.w a7_0 oM rT kT tm0 q7_1 rS oM oM h55 n0 O55.hsz O55.Ftimes O55.Vt O55.Fspans f61 O55.grS O55.n_a_rS) O55.Ea (W := 0) (ow126 C.w) (ow127 C.w) (own_selp (x := oy7) rfl (mvT (args := #[]) C.z (ow51 C.w)) (Cond.privateMethod_at (mvP C.z (ow128 C.w) (args := #[]))) (mvT C.z (ow127 C.w)) (by decide)) (ow128 C.w) (ow129 C.w) (ow9 C.w) (argsL := [(.int (1 : Int32)), (.long oM)]) (lenOf pd__IJ_V rfl) d7_142 fun v62 T62 lo62 X62 hQ62 => ?_
 obtain ⟨rfl, Nq62, Kc62, Sc62, P62_0⟩ := hQ62
 have O62 := O55.sp Kc62 Sc62
 refine sG C X62 d7_145 348 ?_
 refine rV C X62 rfl hret d7_348 ?_
 exact ⟨rfl, ((N55.app Nq58).app Nq62), Or.inl ⟨rT, rF, rO, rS, rE, rW, kT, kF, kO, kW, bs, tm0, fr0, fr1, to0, (to1 + q7_2), O62, P62_0, hs_q7_1, hfr1⟩⟩
def Q_rm7_7 (Z : State) (a7_0 : Addr) (q7_1 : Int64) (q7_2 : Int64) (p7_3 : Int32) (rT : Addr) (rF : Addr) (rO : Addr) (rS : Addr) (rE : Addr) (rW : Addr) (kT : ClassId) (kF : ClassId) (kO : ClassId) (kW : ClassId) (fi : Int32) (bs : Int64) (tm0 : Int64) (tm1 : Int64) (tm2 : Int64) (tm3 : Int64) (tm4 : Int64) (tm5 : Int64) (tm6 : Int64) (tm7 : Int64) (fr0 : Int64) (fr1 : Int64) (fr2 : Int64) (fr3 : Int64) (fr4 : Int64) (fr5 : Int64) (fr6 : Int64) (fr7 : Int64) (to0 : Int64) (to1 : Int64) (to2 : Int64) (to3 : Int64) (to4 : Int64) (to5 : Int64) (to6 : Int64) (to7 : Int64) (T : Int64) (h0 : Heap) (n0 : Nat) (v : Option Value) (h : Heap) (L : List Loc) : Prop := v = none ∧ Fr n0 L ∧ (own_S_8_x_3_1_4 Z h n0 a7_0 T q7_1 ∨ own_S_8_x_4_2_12 Z h n0 a7_0 T q7_1)
theorem rm7_7 (l : Launch) (Z : State) (a0 : Array Value) (hw : own_T Z a0) (a7_0 : Addr) (q7_1 q7_2 : Int64) (p7_3 : Int32) (rT rF rO rS rE rW : Addr) (kT kF kO kW : ClassId) (fi : Int32) (bs tm0 tm1 tm2 tm3 tm4 tm5 tm6 tm7 fr0 fr1 fr2 fr3 fr4 fr5 fr6 fr7 to0 to1 to2 to3 to4 to5 to6 to7 T : Int64) (h0 : Heap) (n0 : Nat) (Z0 : n0 ≤ h0.size) (O : own_Obj Z h0 n0 a7_0 rT rF rO rS rE rW kT kF kO kW fi (3 : Int32) (1 : Int32) bs (1 : Int32) (1 : Int32) (4 : Int64) (8 : Int32) [(.long tm0), (.long tm1), (.long tm2), (.long tm3), (.long tm4), (.long tm5), (.long tm6), (.long tm7)] [(.long fr0), (.long fr1), (.long fr2), (.long fr3), (.long fr4), (.long fr5), (.long fr6), (.long fr7)] [(.long to0), (.long to1), (.long to2), (.long to3), (.long to4), (.long to5), (.long to6), (.long to7)]) (SP : own_Sp8 Z h0 rS oM oM oM oM oM oM oM oM) (htm2 : own_near T tm2) (hfr2 : own_near T fr2) (hs_q7_1 : own_near T q7_1) (hm : (0 : Int32) < p7_3) :
   own_Met l oy7 oc7 9 none ({ frames := 6, cells := 6, slots := 44, locals := 150 } : Room) Z h0 #[(.ref a7_0), (.long q7_1), (.long q7_2), (.int p7_3)] (Q_rm7_7 Z a7_0 q7_1 q7_2 p7_3 rT rF rO rS rE rW kT kF kO kW fi bs tm0 tm1 tm2 tm3 tm4 tm5 tm6 tm7 fr0 fr1 fr2 fr3 fr4 fr5 fr6 fr7 to0 to1 to2 to3 to4 to5 to6 to7 T h0 n0) := by
 refine own_go hw (plainFor_of_name pn_7) (fun m => ef_rm7_1 m a7_0 q7_1 q7_2 p7_3) fun p e s m below meth c T0 C hret X0 e0 => ?_
 have N0 := Fr.nil n0
 refine gA C X0 e0 O.Fsize (ow53 C.w) d7_0 d7_1 fun T1 X1 e1 => ?_
 refine bN C X1 d7_4 ((if0 _ _).trans (tlt (by decide : (0 : Int32) < (1 : Int32))).2.2.2) ?_
 refine gA C X1 e1 O.Ftimes (ow17 C.w) d7_7 d7_8 fun T2 X2 e2 => ?_
 refine gA C X2 e2 O.Fend (ow55 C.w) d7_11 d7_12 fun T3 X3 e3 => ?_
 refine sC C X3 d7_15 ?_
 refine sS C X3 d7_16 ?_
 refine lA C X3 e3 O.Vt d7_17 ?_
 refine sL C X3 d7_18 ?_
 refine tC C X3 d7_19 ?_
 by_cases h20_4 : tm2 = q7_1
 · have fw5 := O
   rw [h20_4] at fw5
   have fw6 := SP
   refine bN C X3 d7_20 ((if0 _ _).trans (teq ((lw_eq _ _).mpr h20_4)).2) ?_
   refine gA C X3 e3 fw5.Ftotals (ow21 C.w) d7_23 d7_24 fun T7 X7 e7 => ?_
   refine gA C X7 e7 fw5.Fend (ow55 C.w) d7_27 d7_28 fun T8 X8 e8 => ?_
   refine sC C X8 d7_31 ?_
   refine sS C X8 d7_32 ?_
   show own_Fin p l e _ s m _ below meth c _ T8 (mkF m 33 #[oR a7_0, oJ q7_1, oD, oJ q7_2, oD, oI p7_3, oU, oU, oU] [(.int (2 : Int32)), (.ref rO)])
   refine own_Fin.st (g' := (mkF m 34 #[oR a7_0, oJ q7_1, oD, oJ q7_2, oD, oI p7_3, oU, oU, oU] [(.int (2 : Int32)), (.ref rO), (.int (2 : Int32)), (.ref rO)])) ?_ (fun t k => by jvm_step X8.here [X8.here.top, C.1, C.d d7_33, Value.category]; exact k)
   refine lA C X8 e8 fw5.Vo d7_34 ?_
   refine sL C X8 d7_35 ?_
   refine tP C X8 d7_36 ?_
   refine sJ C X8 e8 N0 fw5.grO fw5.Vo _ d7_37 fun T9 h9 lo9 X9 e9 N9 W9 V9 => ?_
   have O9 := fw5.setO W9 V9
   refine sG C X9 d7_38 348 ?_
   have f58 := (fw6.other W9 (Ne.symm O9.n_rO_rS))
   refine rV C X9 e9 hret d7_348 ?_
   exact ⟨rfl, N9, Or.inl ⟨rT, rF, rO, rS, rE, rW, kT, kF, kO, kW, fi, bs, tm0, tm1, tm3, tm4, tm5, tm6, tm7, fr0, fr1, fr2, fr3, fr4, fr5, fr6, fr7, to0, to1, (to2 + q7_2), to3, to4, to5, to6, to7, O9, f58, hs_q7_1, hfr2⟩⟩
 refine bY C X3 d7_20 41 ((if0 _ _).trans (feq (fun q => h20_4 ((lw_eq _ _).mp q))).2) ?_
 refine gA C X3 e3 O.Fsize (ow53 C.w) d7_41 d7_42 fun T10 X10 e10 => ?_
 refine si C X10 d7_45 ?_
 by_cases h47_11 : (1 : Int32) < p7_3
 · refine cY C X10 d7_47 148 ((tlt h47_11).1) ?_
   refine gA C X10 e10 O.Ftimes (ow17 C.w) d7_148 d7_149 fun T12 X12 e12 => ?_
   refine nA C X12 e12 O.Vt d7_152 ?_
   refine wi C X12 #[oR a7_0, oJ q7_1, oD, oJ q7_2, oD, oI p7_3, oI 8, oU, oU] d7_153 ?_
   refine gA C X12 e12 O.Fend (ow55 C.w) d7_155 d7_156 fun T13 X13 e13 => ?_
   refine si C X13 d7_159 ?_
   refine cN C X13 d7_161 ((feq (by decide : ¬ ((3 : Int32) = (8 : Int32)))).1) ?_
   refine si C X13 d7_164 ?_
   refine sC C X13 d7_166 ?_
   refine cN C X13 d7_167 ((tlt (by decide : (2 : Int32) < (8 : Int32))).2.2.2) ?_
   refine kJ C X13 (ow158 C.w) d7_170 ?_
   refine gA C X13 e13 O.Fsize (ow53 C.w) d7_173 d7_174 fun T14 X14 e14 => ?_
   refine sC C X14 d7_177 ?_
   refine sP C X14 d7_178 ?_
   refine tI C X14 d7_179 ?_
   refine own_Fin.st (g' := (mkF m 181 #[oR a7_0, oJ q7_1, oD, oJ q7_2, oD, oI p7_3, oI 8, oU, oU] [(.long (16 : Int64))])) ?_ (fun t k => XS.lmul X14.here C.1 rfl (C.d d7_180) rfl k)
   refine si C X14 d7_181 ?_
   refine tI C X14 d7_183 ?_
   refine tC C X14 d7_184 ?_
   refine bY C X14 d7_185 209 ((if0 _ _).trans (tlt ((lw_gt _ _).mpr (by decide : (8 : Int64) < (16 : Int64)))).2.2.1) ?_
   refine gA C X14 e14 O.Fsize (ow53 C.w) d7_209 d7_210 fun T15 X15 e15 => ?_
   refine bN C X15 d7_213 ((if0 _ _).trans (tlt (by decide : (0 : Int32) < (1 : Int32))).2.2.2) ?_
   refine gA C X15 e15 O.Ftotals (ow21 C.w) d7_216 d7_217 fun T16 X16 e16 => ?_
   refine gA C X16 e16 O.Fend (ow55 C.w) d7_220 d7_221 fun T17 X17 e17 => ?_
   refine sC C X17 d7_224 ?_
   refine sS C X17 d7_225 ?_
   refine lA C X17 e17 O.Vo d7_226 ?_
   refine sG C X17 d7_227 234 ?_
   refine wl C X17 #[oR a7_0, oJ q7_1, oD, oJ q7_2, oD, oI p7_3, oI 8, oJ to2, oD] d7_234 ?_
   refine gA C X17 e17 O.Ftimes (ow17 C.w) d7_236 d7_237 fun T18 X18 e18 => ?_
   refine gA C X18 e18 O.Fend (ow55 C.w) d7_240 d7_241 fun T19 X19 e19 => ?_
   refine sL C X19 d7_244 ?_
   refine sJ C X19 e19 N0 O.grT O.Vt _ d7_245 fun T20 h20 lo20 X20 e20 N20 W20 V20 => ?_
   have O20 := O.setT W20 V20
   refine gA C X20 e20 O20.Ffroms (ow19 C.w) d7_246 d7_247 fun T21 X21 e21 => ?_
   refine gA C X21 e21 O20.Fend (ow55 C.w) d7_250 d7_251 fun T22 X22 e22 => ?_
   refine sL C X22 d7_254 ?_
   refine sJ C X22 e22 N20 O20.grF O20.Vf _ d7_255 fun T23 h23 lo23 X23 e23 N23 W23 V23 => ?_
   have O23 := O20.setF W23 V23
   refine gA C X23 e23 O23.Ftotals (ow21 C.w) d7_256 d7_257 fun T24 X24 e24 => ?_
   refine gA C X24 e24 O23.Fend (ow55 C.w) d7_260 d7_261 fun T25 X25 e25 => ?_
   refine sl C X25 d7_264 ?_
   refine sL C X25 d7_266 ?_
   refine tP C X25 d7_267 ?_
   refine sJ C X25 e25 N23 O23.grO O23.Vo _ d7_268 fun T26 h26 lo26 X26 e26 N26 W26 V26 => ?_
   have O26 := O23.setO W26 V26
   refine gA C X26 e26 O26.Fentries (ow46 C.w) d7_269 d7_270 fun T27 X27 e27 => ?_
   refine gA C X27 e27 O26.Fend (ow55 C.w) d7_273 d7_274 fun T28 X28 e28 => ?_
   refine cV C X28 e28 (rm20_2 l Z a0 C.w rE (3 : Int32) rW kW (4 : Int64) h26 n0 O26.hsz (by decide +kernel) (by decide +kernel) O26.Ee O26.BwordsInUse O26.BsizeIsSticky O26.Bwords O26.Vw O26.grW O26.St) O26.Ee (W := 0) (ow111 C.w) (ow112 C.w) (ow114 C.w) (ow113 C.w) (ow115 C.w) (ow27 C.w) (argsL := [(.int (3 : Int32))]) (lenOf pd__I_V rfl) d7_277 fun v29 T29 lo29 X29 hQ29 => ?_
   obtain ⟨rfl, Nq29, Kc29, Sc29, P29_0⟩ := hQ29
   rw [show ((4 : Int64) ||| ((1 : Int64) <<< ((3 : Int32) &&& 0x3f).toInt64)) = (12 : Int64) from by decide +kernel] at P29_0
   have O29 := O26.bit1 Kc29 Sc29 P29_0
   refine sA C X29 d7_280 ?_
   refine gA C X29 rfl O29.Fend (ow55 C.w) d7_281 d7_282 fun T30 X30 e30 => ?_
   refine gA C X30 e30 O29.Fsize (ow53 C.w) d7_285 d7_286 fun T31 X31 e31 => ?_
   refine bN C X31 d7_289 ((if0 _ _).trans (tlt (by decide : (0 : Int32) < (1 : Int32))).2.2.2) ?_
   refine sL C X31 d7_292 ?_
   refine gA C X31 e31 O29.Ffroms (ow19 C.w) d7_293 d7_294 fun T32 X32 e32 => ?_
   refine gA C X32 e32 O29.Fend (ow55 C.w) d7_297 d7_298 fun T33 X33 e33 => ?_
   refine sC C X33 d7_301 ?_
   refine sS C X33 d7_302 ?_
   refine lA C X33 e33 O29.Vf d7_303 ?_
   refine tS C X33 d7_304 ?_
   refine sG C X33 d7_305 311 ?_
   have f34 := ((((SP.other W20 (Ne.symm O29.n_rT_rS)).other W23 (Ne.symm O29.n_rF_rS)).other W26 (Ne.symm O29.n_rO_rS)).keep Kc29 (ninS O29.n_rS_rW nin0))
   refine cP C X33 e33 (rm23_8_3 l Z a0 C.w a7_0 (q7_1 - fr2) rT kT tm0 tm1 tm2 q7_1 tm4 tm5 tm6 tm7 rS oM oM oM oM oM oM oM oM T29.heap n0 O29.hsz O29.Ftimes O29.Vt O29.Fspans f34 O29.grS O29.n_a_rS) O29.Ea (W := 0) (ow126 C.w) (ow127 C.w) (own_selp (x := oy7) rfl (mvT (args := #[]) C.z (ow51 C.w)) (Cond.privateMethod_at (mvP C.z (ow128 C.w) (args := #[]))) (mvT C.z (ow127 C.w)) (by decide)) (ow128 C.w) (ow129 C.w) (ow9 C.w) (argsL := [(.int (3 : Int32)), (.long (q7_1 - fr2))]) (lenOf pd__IJ_V rfl) d7_311 fun v35 T35 lo35 X35 hQ35 => ?_
   obtain ⟨rfl, Nq35, Kc35, Sc35, P35_0⟩ := hQ35
   have O35 := O29.sp Kc35 Sc35
   refine sA C X35 d7_314 ?_
   refine sD C X35 d7_315 ?_
   refine gF C X35 rfl O35.Fend (ow55 C.w) d7_316 fun T36 X36 e36 => ?_
   refine sC C X36 d7_319 ?_
   refine sP C X36 d7_320 ?_
   refine pF C X36 e36 ((N26.app Nq29).app Nq35) O35.ga O35.Fend O35.Ea (ty := .int) (ow55 C.w) (ow56 C.w) (ow8 C.w) (by decide) d7_321 fun T37 h37 lo37 X37 e37 N37 W37 F37 => ?_
   have O37 := own_Obj.put_end hw O35 W37 F37
   refine sA C X37 d7_324 ?_
   refine sD C X37 d7_325 ?_
   refine gF C X37 e37 O37.Fsize (ow53 C.w) d7_326 fun T38 X38 e38 => ?_
   refine sC C X38 d7_329 ?_
   refine sP C X38 d7_330 ?_
   refine pF C X38 e38 N37 O37.ga O37.Fsize O37.Ea (ty := .int) (ow53 C.w) (ow54 C.w) (ow8 C.w) (by decide) d7_331 fun T39 h39 lo39 X39 e39 N39 W39 F39 => ?_
   have O39 := own_Obj.put_size hw O37 W39 F39
   refine gA C X39 e39 O39.Fsize (ow53 C.w) d7_334 d7_335 fun T40 X40 e40 => ?_
   refine si C X40 d7_338 ?_
   refine cY C X40 d7_340 348 ((flt (own_ilt (1 : Int32) (2 : Int32) h47_11 (by decide))).2.2.2) ?_
   have f59 := ((P35_0.other W37 (Ne.symm O39.n_a_rS)).other W39 (Ne.symm O39.n_a_rS))
   refine rV C X40 e40 hret d7_348 ?_
   exact ⟨rfl, N39, Or.inr (⟨rT, rF, rO, rS, rE, rW, kT, kF, kO, kW, fi, bs, tm0, tm1, tm2, tm4, tm5, tm6, tm7, fr0, fr1, fr2, q7_1, fr4, fr5, fr6, fr7, to0, to1, to2, (to2 + q7_2), to4, to5, to6, to7, O39, f59, htm2, hs_q7_1, hfr2, hs_q7_1⟩)⟩
 refine cN C X10 d7_47 ((flt h47_11).1) ?_
 refine sL C X10 d7_50 ?_
 refine gA C X10 e10 O.Ffroms (ow19 C.w) d7_51 d7_52 fun T41 X41 e41 => ?_
 refine gA C X41 e41 O.Fend (ow55 C.w) d7_55 d7_56 fun T42 X42 e42 => ?_
 refine sC C X42 d7_59 ?_
 refine sS C X42 d7_60 ?_
 refine lA C X42 e42 O.Vf d7_61 ?_
 refine tS C X42 d7_62 ?_
 refine gA C X42 e42 O.Fspans (ow23 C.w) d7_63 d7_64 fun T43 X43 e43 => ?_
 refine sC C X43 d7_67 ?_
 obtain ⟨kq44, VT44⟩ := id SP
 refine lA C X43 e43 VT44 d7_68 ?_
 refine tC C X43 d7_69 ?_
 refine bN C X43 d7_70 ((if0 _ _).trans (tlt ((lw_lt _ _).mpr (own_ltM (by decide +kernel : (own_m (own_m (own_m oM oM) (own_m oM oM)) (own_m (own_m oM oM) (own_m oM oM))) = oM) (own_nlt hs_q7_1 hfr2)))).2.1) ?_
 refine gA C X43 e43 O.Ftimes (ow17 C.w) d7_73 d7_74 fun T45 X45 e45 => ?_
 refine gA C X45 e45 O.Fend (ow55 C.w) d7_77 d7_78 fun T46 X46 e46 => ?_
 refine sC C X46 d7_81 ?_
 refine sS C X46 d7_82 ?_
 refine sL C X46 d7_83 ?_
 refine sJ C X46 e46 N0 O.grT O.Vt _ d7_84 fun T47 h47 lo47 X47 e47 N47 W47 V47 => ?_
 have O47 := O.setT W47 V47
 refine gA C X47 e47 O47.Ftotals (ow21 C.w) d7_85 d7_86 fun T48 X48 e48 => ?_
 refine gA C X48 e48 O47.Fend (ow55 C.w) d7_89 d7_90 fun T49 X49 e49 => ?_
 refine sC C X49 d7_93 ?_
 refine sS C X49 d7_94 ?_
 show own_Fin p l e _ s m _ below meth c _ T49 (mkF m 95 #[oR a7_0, oJ q7_1, oD, oJ q7_2, oD, oI p7_3, oU, oU, oU] [(.int (2 : Int32)), (.ref rO)])
 refine own_Fin.st (g' := (mkF m 96 #[oR a7_0, oJ q7_1, oD, oJ q7_2, oD, oI p7_3, oU, oU, oU] [(.int (2 : Int32)), (.ref rO), (.int (2 : Int32)), (.ref rO)])) ?_ (fun t k => by jvm_step X49.here [X49.here.top, C.1, C.d d7_95, Value.category]; exact k)
 refine lA C X49 e49 O47.Vo d7_96 ?_
 refine sL C X49 d7_97 ?_
 refine tP C X49 d7_98 ?_
 refine sJ C X49 e49 N47 O47.grO O47.Vo _ d7_99 fun T50 h50 lo50 X50 e50 N50 W50 V50 => ?_
 have O50 := O47.setO W50 V50
 refine gA C X50 e50 O50.Fentries (ow46 C.w) d7_100 d7_101 fun T51 X51 e51 => ?_
 refine gA C X51 e51 O50.Fend (ow55 C.w) d7_104 d7_105 fun T52 X52 e52 => ?_
 refine sC C X52 d7_108 ?_
 refine sS C X52 d7_109 ?_
 refine cV C X52 e52 (rm32_2 l Z a0 C.w rE (1 : Int32) rW kW (4 : Int64) h50 n0 O50.hsz (by decide +kernel) (by decide +kernel) O50.Ee O50.BwordsInUse O50.BsizeIsSticky O50.Bwords O50.Vw O50.St) O50.Ee (W := 0) (ow168 C.w) (ow169 C.w) (ow171 C.w) (ow170 C.w) (ow172 C.w) (ow27 C.w) (argsL := [(.int (1 : Int32))]) (lenOf pd__I_I rfl) d7_110 fun v53 T53 lo53 X53 hQ53 => ?_
 obtain ⟨rfl, Nq53, e53⟩ := hQ53
 rw [show (own_psb (1 : Int32) (4 : Int64)) = (-1 : Int32) from by decide +kernel]
 refine wi C X53 #[oR a7_0, oJ q7_1, oD, oJ q7_2, oD, oI p7_3, oI (-1), oU, oU] d7_113 ?_
 refine sA C X53 d7_115 ?_
 refine gA C X53 e53 O50.Fend (ow55 C.w) d7_116 d7_117 fun T55 X55 e55 => ?_
 refine sC C X55 d7_120 ?_
 refine sS C X55 d7_121 ?_
 refine si C X55 d7_122 ?_
 refine bN C X55 d7_124 ((if0 _ _).trans (tlt (by decide : (-1 : Int32) < (0 : Int32))).2.1) ?_
 refine kJ C X55 (ow98 C.w) d7_127 ?_
 refine sG C X55 d7_130 142 ?_
 have f56 := ((SP.other W47 (Ne.symm O50.n_rT_rS)).other W50 (Ne.symm O50.n_rO_rS))
 refine cP C X55 e55 (rm23_8_2 l Z a0 C.w a7_0 oM rT kT tm0 tm1 q7_1 tm3 tm4 tm5 tm6 tm7 rS oM oM oM oM oM oM oM oM h50 n0 O50.hsz O50.Ftimes O50.Vt O50.Fspans f56 O50.grS O50.n_a_rS) O50.Ea (W := 0) (ow126 C.w) (ow127 C.w) (own_selp (x := oy7) rfl (mvT (args := #[]) C.z (ow51 C.w)) (Cond.privateMethod_at (mvP C.z (ow128 C.w) (args := #[]))) (mvT C.z (ow127 C.w)) (by decide)) (ow128 C.w) (ow129 C.w) (ow9 C.w) (argsL := [(.int (2 : Int32)), (.long oM)]) (lenOf pd__IJ_V rfl) d7_142 fun v57 T57 lo57 X57 hQ57 => ?_
 obtain ⟨rfl, Nq57, Kc57, Sc57, P57_0⟩ := hQ57
 have O57 := O50.sp Kc57 Sc57
 refine sG C X57 d7_145 348 ?_
 refine rV C X57 rfl hret d7_348 ?_
 exact ⟨rfl, ((N50.app Nq53).app Nq57), Or.inl ⟨rT, rF, rO, rS, rE, rW, kT, kF, kO, kW, fi, bs, tm0, tm1, tm3, tm4, tm5, tm6, tm7, fr0, fr1, fr2, fr3, fr4, fr5, fr6, fr7, to0, to1, (to2 + q7_2), to3, to4, to5, to6, to7, O57, P57_0, hs_q7_1, hfr2⟩⟩
def own_L0 (Z : State) (h : Heap) (n0 : Nat) (a : Addr) (T t : Int64) : Prop := own_S_0_0_0_0_0 Z h n0 a T t
def own_L1 (Z : State) (h : Heap) (n0 : Nat) (a : Addr) (T t : Int64) : Prop := own_S_2_0_1_1_1 Z h n0 a T t
def own_L2 (Z : State) (h : Heap) (n0 : Nat) (a : Addr) (T t : Int64) : Prop := own_S_2_0_1_1_1 Z h n0 a T t ∨ own_S_2_0_2_2_3 Z h n0 a T t
def own_L3 (Z : State) (h : Heap) (n0 : Nat) (a : Addr) (T t : Int64) : Prop := own_S_2_0_1_1_1 Z h n0 a T t ∨ own_S_2_0_2_2_3 Z h n0 a T t ∨ own_S_8_0_3_3_7 Z h n0 a T t ∨ own_S_8_0_3_2_6 Z h n0 a T t
def own_L3d (Z : State) (h : Heap) (n0 : Nat) (a : Addr) (T t : Int64) : Prop := own_S_2_0_1_1_1 Z h n0 a T t ∨ own_S_2_0_2_2_3 Z h n0 a T t ∨ own_S_8_x_3_3_7 Z h n0 a T t ∨ own_S_8_x_3_2_6 Z h n0 a T t ∨ own_S_2_1_2_1_2 Z h n0 a T t ∨ own_S_8_x_3_1_4 Z h n0 a T t
def own_L4 (Z : State) (h : Heap) (n0 : Nat) (a : Addr) (T t : Int64) : Prop := own_S_2_0_1_1_1 Z h n0 a T t ∨ own_S_2_0_2_2_3 Z h n0 a T t ∨ own_S_8_0_3_3_7 Z h n0 a T t ∨ own_S_8_0_3_2_6 Z h n0 a T t ∨ own_S_8_x_3_3_7 Z h n0 a T t ∨ own_S_8_x_4_4_15 Z h n0 a T t ∨ own_S_8_x_4_3_14 Z h n0 a T t ∨ own_S_8_x_4_3_13 Z h n0 a T t ∨ own_S_8_x_3_2_6 Z h n0 a T t ∨ own_S_8_x_4_2_12 Z h n0 a T t ∨ own_S_2_1_2_1_2 Z h n0 a T t ∨ own_S_4_0_2_2_3 Z h n0 a T t ∨ own_S_8_x_3_1_4 Z h n0 a T t
theorem own_weakM {l : Launch} {y : MethodName} {code : ByteArray} {ml : Nat} {ret : Option FieldType} {rm : Room} {Z : State} {h0 : Heap} {as : Array Value} {Q Q' : Option Value → Heap → List Loc → Prop} (h : own_Met l y code ml ret rm Z h0 as Q) (q : ∀ v h L, Q v h L → Q' v h L) : own_Met l y code ml ret rm Z h0 as Q' :=
 fun ws => own_weak (h ws) fun _ _ _ _ r => by
   obtain ⟨v, L, e, q1, f⟩ := r
   exact ⟨v, L, e, q _ _ _ q1, f⟩
def own_W (Z : State) (h : Heap) (a : Addr) (t : Int64) : Prop := ∃ (rT : Addr) (k : ClassId) (en n : Int32) (ts : List Value), Exa Z h a oL ∧ Fld Z h a oL "times" "[J" (.ref rT) ∧ Fld Z h a oL "end" "I" (.int en) ∧ Arv Z h rT k .long n ts oZ ∧ (¬ (en - Int32.ofInt 1) < 0 ∧ (en - Int32.ofInt 1) < n) ∧ ts.getD (en - Int32.ofInt 1).toNatClampNeg oZ = .long t
theorem own_add_0 (l : Launch) (Z : State) (a0 : Array Value) (hw : own_T Z a0) (a : Addr) (time permits : Int64) (most : Int32) (T t : Int64) (h0 : Heap) (n0 : Nat) (Z0 : n0 ≤ h0.size) (I : own_L0 Z h0 n0 a T t) (hs : own_near T time) (hm : (0 : Int32) < most) : own_Met l oy7 oc7 9 none ({ frames := 6, cells := 6, slots := 44, locals := 150 } : Room) Z h0 #[(.ref a), (.long time), (.long permits), (.int most)] (fun v h L => v = none ∧ Fr n0 L ∧ own_L1 Z h n0 a T time) := by
 rcases I with ⟨rT, rF, rO, rS, rE, rW, kT, kF, kO, kW, bs, O, SP⟩
 exact own_weakM (rm7_1 l Z a0 hw a time permits most rT rF rO rS rE rW kT kF kO kW bs T h0 n0 Z0 O SP  hs hm) fun v h L q => ⟨q.1, q.2.1, q.2.2⟩
theorem own_add_1 (l : Launch) (Z : State) (a0 : Array Value) (hw : own_T Z a0) (a : Addr) (time permits : Int64) (most : Int32) (T t : Int64) (h0 : Heap) (n0 : Nat) (Z0 : n0 ≤ h0.size) (I : own_L1 Z h0 n0 a T t) (hs : own_near T time) (hm : (0 : Int32) < most) : own_Met l oy7 oc7 9 none ({ frames := 6, cells := 6, slots := 44, locals := 150 } : Room) Z h0 #[(.ref a), (.long time), (.long permits), (.int most)] (fun v h L => v = none ∧ Fr n0 L ∧ own_L2 Z h n0 a T time) := by
 rcases I with ⟨rT, rF, rO, rS, rE, rW, kT, kF, kO, kW, bs, tm1, fr0, fr1, to0, to1, O, SP, htm0, hfr0⟩
 exact own_weakM (rm7_2 l Z a0 hw a time permits most rT rF rO rS rE rW kT kF kO kW bs t tm1 fr0 fr1 to0 to1 T h0 n0 Z0 O SP htm0 hfr0 hs hm) fun v h L q => ⟨q.1, q.2.1, (q.2.2.elim (fun i => (Or.inl i)) (fun j => (Or.inr j)))⟩
theorem own_add_2 (l : Launch) (Z : State) (a0 : Array Value) (hw : own_T Z a0) (a : Addr) (time permits : Int64) (most : Int32) (T t : Int64) (h0 : Heap) (n0 : Nat) (Z0 : n0 ≤ h0.size) (I : own_L2 Z h0 n0 a T t) (hs : own_near T time) (hm : (0 : Int32) < most) : own_Met l oy7 oc7 9 none ({ frames := 6, cells := 6, slots := 44, locals := 150 } : Room) Z h0 #[(.ref a), (.long time), (.long permits), (.int most)] (fun v h L => v = none ∧ Fr n0 L ∧ own_L3 Z h n0 a T time) := by
 rcases I with ⟨rT, rF, rO, rS, rE, rW, kT, kF, kO, kW, bs, tm1, fr0, fr1, to0, to1, O, SP, htm0, hfr0⟩ | ⟨rT, rF, rO, rS, rE, rW, kT, kF, kO, kW, bs, tm0, fr0, fr1, to0, to1, O, SP, htm0, htm1, hfr0, hfr1⟩
 · exact own_weakM (rm7_2 l Z a0 hw a time permits most rT rF rO rS rE rW kT kF kO kW bs t tm1 fr0 fr1 to0 to1 T h0 n0 Z0 O SP htm0 hfr0 hs hm) fun v h L q => ⟨q.1, q.2.1, (q.2.2.elim (fun i => (Or.inl i)) (fun j => (Or.inr (Or.inl j))))⟩
 · exact own_weakM (rm7_3 l Z a0 hw a time permits most rT rF rO rS rE rW kT kF kO kW bs tm0 t fr0 fr1 to0 to1 T h0 n0 Z0 O SP htm0 htm1 hfr0 hfr1 hs hm) fun v h L q => ⟨q.1, q.2.1, (q.2.2.elim (fun i => (Or.inr (Or.inl i))) (fun j => (j.elim (fun i => (Or.inr (Or.inr (Or.inl i)))) (fun j => (Or.inr (Or.inr (Or.inr j)))))))⟩
theorem own_add_3d (l : Launch) (Z : State) (a0 : Array Value) (hw : own_T Z a0) (a : Addr) (time permits : Int64) (most : Int32) (T t : Int64) (h0 : Heap) (n0 : Nat) (Z0 : n0 ≤ h0.size) (I : own_L3d Z h0 n0 a T t) (hs : own_near T time) (hm : (0 : Int32) < most) : own_Met l oy7 oc7 9 none ({ frames := 6, cells := 6, slots := 44, locals := 150 } : Room) Z h0 #[(.ref a), (.long time), (.long permits), (.int most)] (fun v h L => v = none ∧ Fr n0 L ∧ own_L4 Z h n0 a T time) := by
 rcases I with ⟨rT, rF, rO, rS, rE, rW, kT, kF, kO, kW, bs, tm1, fr0, fr1, to0, to1, O, SP, htm0, hfr0⟩ | ⟨rT, rF, rO, rS, rE, rW, kT, kF, kO, kW, bs, tm0, fr0, fr1, to0, to1, O, SP, htm0, htm1, hfr0, hfr1⟩ | ⟨rT, rF, rO, rS, rE, rW, kT, kF, kO, kW, fi, bs, tm0, tm1, tm3, tm4, tm5, tm6, tm7, fr0, fr1, fr2, fr3, fr4, fr5, fr6, fr7, to0, to1, to2, to3, to4, to5, to6, to7, O, SP, htm0, htm1, htm2, hfr0, hfr1, hfr2⟩ | ⟨rT, rF, rO, rS, rE, rW, kT, kF, kO, kW, fi, bs, tm0, tm1, tm3, tm4, tm5, tm6, tm7, fr0, fr1, fr2, fr3, fr4, fr5, fr6, fr7, to0, to1, to2, to3, to4, to5, to6, to7, O, SP, htm1, htm2, hfr1, hfr2⟩ | ⟨rT, rF, rO, rS, rE, rW, kT, kF, kO, kW, bs, tm0, fr0, fr1, to0, to1, O, SP, htm1, hfr1⟩ | ⟨rT, rF, rO, rS, rE, rW, kT, kF, kO, kW, fi, bs, tm0, tm1, tm3, tm4, tm5, tm6, tm7, fr0, fr1, fr2, fr3, fr4, fr5, fr6, fr7, to0, to1, to2, to3, to4, to5, to6, to7, O, SP, htm2, hfr2⟩
 · exact own_weakM (rm7_2 l Z a0 hw a time permits most rT rF rO rS rE rW kT kF kO kW bs t tm1 fr0 fr1 to0 to1 T h0 n0 Z0 O SP htm0 hfr0 hs hm) fun v h L q => ⟨q.1, q.2.1, (q.2.2.elim (fun i => (Or.inl i)) (fun j => (Or.inr (Or.inl j))))⟩
 · exact own_weakM (rm7_3 l Z a0 hw a time permits most rT rF rO rS rE rW kT kF kO kW bs tm0 t fr0 fr1 to0 to1 T h0 n0 Z0 O SP htm0 htm1 hfr0 hfr1 hs hm) fun v h L q => ⟨q.1, q.2.1, (q.2.2.elim (fun i => (Or.inr (Or.inl i))) (fun j => (j.elim (fun i => (Or.inr (Or.inr (Or.inl i)))) (fun j => (Or.inr (Or.inr (Or.inr (Or.inl j))))))))⟩
 · exact own_weakM (rm7_4 l Z a0 hw a time permits most rT rF rO rS rE rW kT kF kO kW fi bs tm0 tm1 t tm3 tm4 tm5 tm6 tm7 fr0 fr1 fr2 fr3 fr4 fr5 fr6 fr7 to0 to1 to2 to3 to4 to5 to6 to7 T h0 n0 Z0 O SP htm0 htm1 htm2 hfr0 hfr1 hfr2 hs hm) fun v h L q => ⟨q.1, q.2.1, (q.2.2.elim (fun i => (Or.inr (Or.inr (Or.inr (Or.inr (Or.inl i)))))) (fun j => (j.elim (fun i => (Or.inr (Or.inr (Or.inr (Or.inr (Or.inr (Or.inl i))))))) (fun j => (j.elim (fun i => (Or.inr (Or.inr (Or.inr (Or.inr (Or.inr (Or.inr (Or.inl i)))))))) (fun j => (Or.inr (Or.inr (Or.inr (Or.inr (Or.inr (Or.inr (Or.inr (Or.inl j))))))))))))))⟩
 · exact own_weakM (rm7_5 l Z a0 hw a time permits most rT rF rO rS rE rW kT kF kO kW fi bs tm0 tm1 t tm3 tm4 tm5 tm6 tm7 fr0 fr1 fr2 fr3 fr4 fr5 fr6 fr7 to0 to1 to2 to3 to4 to5 to6 to7 T h0 n0 Z0 O SP htm1 htm2 hfr1 hfr2 hs hm) fun v h L q => ⟨q.1, q.2.1, (q.2.2.elim (fun i => (Or.inr (Or.inr (Or.inr (Or.inr (Or.inr (Or.inr (Or.inr (Or.inr (Or.inl i)))))))))) (fun j => (j.elim (fun i => (Or.inr (Or.inr (Or.inr (Or.inr (Or.inr (Or.inr (Or.inl i)))))))) (fun j => (Or.inr (Or.inr (Or.inr (Or.inr (Or.inr (Or.inr (Or.inr (Or.inr (Or.inr (Or.inl j))))))))))))))⟩
 · exact own_weakM (rm7_6 l Z a0 hw a time permits most rT rF rO rS rE rW kT kF kO kW bs tm0 t fr0 fr1 to0 to1 T h0 n0 Z0 O SP htm1 hfr1 hs hm) fun v h L q => ⟨q.1, q.2.1, (q.2.2.elim (fun i => (Or.inr (Or.inr (Or.inr (Or.inr (Or.inr (Or.inr (Or.inr (Or.inr (Or.inr (Or.inr (Or.inl i)))))))))))) (fun j => (Or.inr (Or.inr (Or.inr (Or.inr (Or.inr (Or.inr (Or.inr (Or.inr (Or.inr (Or.inr (Or.inr (Or.inl j))))))))))))))⟩
 · exact own_weakM (rm7_7 l Z a0 hw a time permits most rT rF rO rS rE rW kT kF kO kW fi bs tm0 tm1 t tm3 tm4 tm5 tm6 tm7 fr0 fr1 fr2 fr3 fr4 fr5 fr6 fr7 to0 to1 to2 to3 to4 to5 to6 to7 T h0 n0 Z0 O SP htm2 hfr2 hs hm) fun v h L q => ⟨q.1, q.2.1, (q.2.2.elim (fun i => (Or.inr (Or.inr (Or.inr (Or.inr (Or.inr (Or.inr (Or.inr (Or.inr (Or.inr (Or.inr (Or.inr (Or.inr i))))))))))))) (fun j => (Or.inr (Or.inr (Or.inr (Or.inr (Or.inr (Or.inr (Or.inr (Or.inr (Or.inr (Or.inl j))))))))))))⟩
theorem own_drop (l : Launch) (Z : State) (a0 : Array Value) (hw : own_T Z a0) (a : Addr) (q : Int64) (T t : Int64) (h0 : Heap) (n0 : Nat) (Z0 : n0 ≤ h0.size) (I : own_L3 Z h0 n0 a T t) (hq : q < t) : own_Met l oy25 oc25 4 none ({ frames := 5, cells := 0, slots := 0, locals := 120 } : Room) Z h0 #[(.ref a), (.long q)] (fun v h L => v = none ∧ Fr n0 L ∧ own_L3d Z h n0 a T t) := by
 rcases I with ⟨rT, rF, rO, rS, rE, rW, kT, kF, kO, kW, bs, tm1, fr0, fr1, to0, to1, O, SP, htm0, hfr0⟩ | ⟨rT, rF, rO, rS, rE, rW, kT, kF, kO, kW, bs, tm0, fr0, fr1, to0, to1, O, SP, htm0, htm1, hfr0, hfr1⟩ | ⟨rT, rF, rO, rS, rE, rW, kT, kF, kO, kW, bs, tm0, tm1, tm3, tm4, tm5, tm6, tm7, fr0, fr1, fr2, fr3, fr4, fr5, fr6, fr7, to0, to1, to2, to3, to4, to5, to6, to7, O, SP, htm0, htm1, htm2, hfr0, hfr1, hfr2⟩ | ⟨rT, rF, rO, rS, rE, rW, kT, kF, kO, kW, bs, tm0, tm1, tm3, tm4, tm5, tm6, tm7, fr0, fr1, fr2, fr3, fr4, fr5, fr6, fr7, to0, to1, to2, to3, to4, to5, to6, to7, O, SP, htm1, htm2, hfr1, hfr2⟩
 · exact own_weakM (rm25_1 l Z a0 hw a q rT rF rO rS rE rW kT kF kO kW bs t tm1 fr0 fr1 to0 to1 T h0 n0 Z0 O SP htm0 hfr0 hq) fun v h L q => ⟨q.1, q.2.1, (Or.inl q.2.2)⟩
 · exact own_weakM (rm25_2 l Z a0 hw a q rT rF rO rS rE rW kT kF kO kW bs tm0 t fr0 fr1 to0 to1 T h0 n0 Z0 O SP htm0 htm1 hfr0 hfr1 hq) fun v h L q => ⟨q.1, q.2.1, (q.2.2.elim (fun i => (Or.inr (Or.inl i))) (fun j => (Or.inr (Or.inr (Or.inr (Or.inr (Or.inl j)))))))⟩
 · exact own_weakM (rm25_3 l Z a0 hw a q rT rF rO rS rE rW kT kF kO kW bs tm0 tm1 t tm3 tm4 tm5 tm6 tm7 fr0 fr1 fr2 fr3 fr4 fr5 fr6 fr7 to0 to1 to2 to3 to4 to5 to6 to7 T h0 n0 Z0 O SP htm0 htm1 htm2 hfr0 hfr1 hfr2 hq) fun v h L q => ⟨q.1, q.2.1, (q.2.2.elim (fun i => (Or.inr (Or.inr (Or.inl i)))) (fun j => (j.elim (fun i => (Or.inr (Or.inr (Or.inr (Or.inl i))))) (fun j => (Or.inr (Or.inr (Or.inr (Or.inr (Or.inr j)))))))))⟩
 · exact own_weakM (rm25_4 l Z a0 hw a q rT rF rO rS rE rW kT kF kO kW bs tm0 tm1 t tm3 tm4 tm5 tm6 tm7 fr0 fr1 fr2 fr3 fr4 fr5 fr6 fr7 to0 to1 to2 to3 to4 to5 to6 to7 T h0 n0 Z0 O SP htm1 htm2 hfr1 hfr2 hq) fun v h L q => ⟨q.1, q.2.1, (q.2.2.elim (fun i => (Or.inr (Or.inr (Or.inr (Or.inl i))))) (fun j => (Or.inr (Or.inr (Or.inr (Or.inr (Or.inr j)))))))⟩
theorem own_L3_3d {Z : State} {h : Heap} {n0 : Nat} {a : Addr} {T t : Int64} (I : own_L3 Z h n0 a T t) : own_L3d Z h n0 a T t := by
 rcases I with ⟨rT, rF, rO, rS, rE, rW, kT, kF, kO, kW, bs, tm1, fr0, fr1, to0, to1, O, SP, htm0, hfr0⟩ | ⟨rT, rF, rO, rS, rE, rW, kT, kF, kO, kW, bs, tm0, fr0, fr1, to0, to1, O, SP, htm0, htm1, hfr0, hfr1⟩ | ⟨rT, rF, rO, rS, rE, rW, kT, kF, kO, kW, bs, tm0, tm1, tm3, tm4, tm5, tm6, tm7, fr0, fr1, fr2, fr3, fr4, fr5, fr6, fr7, to0, to1, to2, to3, to4, to5, to6, to7, O, SP, htm0, htm1, htm2, hfr0, hfr1, hfr2⟩ | ⟨rT, rF, rO, rS, rE, rW, kT, kF, kO, kW, bs, tm0, tm1, tm3, tm4, tm5, tm6, tm7, fr0, fr1, fr2, fr3, fr4, fr5, fr6, fr7, to0, to1, to2, to3, to4, to5, to6, to7, O, SP, htm1, htm2, hfr1, hfr2⟩
 · exact (Or.inl ⟨rT, rF, rO, rS, rE, rW, kT, kF, kO, kW, bs, tm1, fr0, fr1, to0, to1, O, SP, htm0, hfr0⟩)
 · exact (Or.inr (Or.inl ⟨rT, rF, rO, rS, rE, rW, kT, kF, kO, kW, bs, tm0, fr0, fr1, to0, to1, O, SP, htm0, htm1, hfr0, hfr1⟩))
 · exact (Or.inr (Or.inr (Or.inl ⟨rT, rF, rO, rS, rE, rW, kT, kF, kO, kW, (0 : Int32), bs, tm0, tm1, tm3, tm4, tm5, tm6, tm7, fr0, fr1, fr2, fr3, fr4, fr5, fr6, fr7, to0, to1, to2, to3, to4, to5, to6, to7, O, SP, htm0, htm1, htm2, hfr0, hfr1, hfr2⟩)))
 · exact (Or.inr (Or.inr (Or.inr (Or.inl ⟨rT, rF, rO, rS, rE, rW, kT, kF, kO, kW, (0 : Int32), bs, tm0, tm1, tm3, tm4, tm5, tm6, tm7, fr0, fr1, fr2, fr3, fr4, fr5, fr6, fr7, to0, to1, to2, to3, to4, to5, to6, to7, O, SP, htm1, htm2, hfr1, hfr2⟩))))
theorem own_L0_E {Z : State} {h : Heap} {n0 : Nat} {a : Addr} {T t : Int64} (I : own_L0 Z h n0 a T t) : Exa Z h a oL := by
 rcases I with ⟨rT, rF, rO, rS, rE, rW, kT, kF, kO, kW, bs, O, SP⟩
 exact O.Ea
theorem own_L1_E {Z : State} {h : Heap} {n0 : Nat} {a : Addr} {T t : Int64} (I : own_L1 Z h n0 a T t) : Exa Z h a oL := by
 rcases I with ⟨rT, rF, rO, rS, rE, rW, kT, kF, kO, kW, bs, tm1, fr0, fr1, to0, to1, O, SP, htm0, hfr0⟩
 exact O.Ea
theorem own_L2_E {Z : State} {h : Heap} {n0 : Nat} {a : Addr} {T t : Int64} (I : own_L2 Z h n0 a T t) : Exa Z h a oL := by
 rcases I with ⟨rT, rF, rO, rS, rE, rW, kT, kF, kO, kW, bs, tm1, fr0, fr1, to0, to1, O, SP, htm0, hfr0⟩ | ⟨rT, rF, rO, rS, rE, rW, kT, kF, kO, kW, bs, tm0, fr0, fr1, to0, to1, O, SP, htm0, htm1, hfr0, hfr1⟩
 · exact O.Ea
 · exact O.Ea
theorem own_L3_E {Z : State} {h : Heap} {n0 : Nat} {a : Addr} {T t : Int64} (I : own_L3 Z h n0 a T t) : Exa Z h a oL := by
 rcases I with ⟨rT, rF, rO, rS, rE, rW, kT, kF, kO, kW, bs, tm1, fr0, fr1, to0, to1, O, SP, htm0, hfr0⟩ | ⟨rT, rF, rO, rS, rE, rW, kT, kF, kO, kW, bs, tm0, fr0, fr1, to0, to1, O, SP, htm0, htm1, hfr0, hfr1⟩ | ⟨rT, rF, rO, rS, rE, rW, kT, kF, kO, kW, bs, tm0, tm1, tm3, tm4, tm5, tm6, tm7, fr0, fr1, fr2, fr3, fr4, fr5, fr6, fr7, to0, to1, to2, to3, to4, to5, to6, to7, O, SP, htm0, htm1, htm2, hfr0, hfr1, hfr2⟩ | ⟨rT, rF, rO, rS, rE, rW, kT, kF, kO, kW, bs, tm0, tm1, tm3, tm4, tm5, tm6, tm7, fr0, fr1, fr2, fr3, fr4, fr5, fr6, fr7, to0, to1, to2, to3, to4, to5, to6, to7, O, SP, htm1, htm2, hfr1, hfr2⟩
 · exact O.Ea
 · exact O.Ea
 · exact O.Ea
 · exact O.Ea
theorem own_L3d_E {Z : State} {h : Heap} {n0 : Nat} {a : Addr} {T t : Int64} (I : own_L3d Z h n0 a T t) : Exa Z h a oL := by
 rcases I with ⟨rT, rF, rO, rS, rE, rW, kT, kF, kO, kW, bs, tm1, fr0, fr1, to0, to1, O, SP, htm0, hfr0⟩ | ⟨rT, rF, rO, rS, rE, rW, kT, kF, kO, kW, bs, tm0, fr0, fr1, to0, to1, O, SP, htm0, htm1, hfr0, hfr1⟩ | ⟨rT, rF, rO, rS, rE, rW, kT, kF, kO, kW, fi, bs, tm0, tm1, tm3, tm4, tm5, tm6, tm7, fr0, fr1, fr2, fr3, fr4, fr5, fr6, fr7, to0, to1, to2, to3, to4, to5, to6, to7, O, SP, htm0, htm1, htm2, hfr0, hfr1, hfr2⟩ | ⟨rT, rF, rO, rS, rE, rW, kT, kF, kO, kW, fi, bs, tm0, tm1, tm3, tm4, tm5, tm6, tm7, fr0, fr1, fr2, fr3, fr4, fr5, fr6, fr7, to0, to1, to2, to3, to4, to5, to6, to7, O, SP, htm1, htm2, hfr1, hfr2⟩ | ⟨rT, rF, rO, rS, rE, rW, kT, kF, kO, kW, bs, tm0, fr0, fr1, to0, to1, O, SP, htm1, hfr1⟩ | ⟨rT, rF, rO, rS, rE, rW, kT, kF, kO, kW, fi, bs, tm0, tm1, tm3, tm4, tm5, tm6, tm7, fr0, fr1, fr2, fr3, fr4, fr5, fr6, fr7, to0, to1, to2, to3, to4, to5, to6, to7, O, SP, htm2, hfr2⟩
 · exact O.Ea
 · exact O.Ea
 · exact O.Ea
 · exact O.Ea
 · exact O.Ea
 · exact O.Ea
theorem own_L4_E {Z : State} {h : Heap} {n0 : Nat} {a : Addr} {T t : Int64} (I : own_L4 Z h n0 a T t) : Exa Z h a oL := by
 rcases I with ⟨rT, rF, rO, rS, rE, rW, kT, kF, kO, kW, bs, tm1, fr0, fr1, to0, to1, O, SP, htm0, hfr0⟩ | ⟨rT, rF, rO, rS, rE, rW, kT, kF, kO, kW, bs, tm0, fr0, fr1, to0, to1, O, SP, htm0, htm1, hfr0, hfr1⟩ | ⟨rT, rF, rO, rS, rE, rW, kT, kF, kO, kW, bs, tm0, tm1, tm3, tm4, tm5, tm6, tm7, fr0, fr1, fr2, fr3, fr4, fr5, fr6, fr7, to0, to1, to2, to3, to4, to5, to6, to7, O, SP, htm0, htm1, htm2, hfr0, hfr1, hfr2⟩ | ⟨rT, rF, rO, rS, rE, rW, kT, kF, kO, kW, bs, tm0, tm1, tm3, tm4, tm5, tm6, tm7, fr0, fr1, fr2, fr3, fr4, fr5, fr6, fr7, to0, to1, to2, to3, to4, to5, to6, to7, O, SP, htm1, htm2, hfr1, hfr2⟩ | ⟨rT, rF, rO, rS, rE, rW, kT, kF, kO, kW, fi, bs, tm0, tm1, tm3, tm4, tm5, tm6, tm7, fr0, fr1, fr2, fr3, fr4, fr5, fr6, fr7, to0, to1, to2, to3, to4, to5, to6, to7, O, SP, htm0, htm1, htm2, hfr0, hfr1, hfr2⟩ | ⟨rT, rF, rO, rS, rE, rW, kT, kF, kO, kW, fi, bs, tm0, tm1, tm2, tm4, tm5, tm6, tm7, fr0, fr1, fr2, fr3, fr4, fr5, fr6, fr7, to0, to1, to2, to3, to4, to5, to6, to7, O, SP, htm0, htm1, htm2, htm3, hfr0, hfr1, hfr2, hfr3⟩ | ⟨rT, rF, rO, rS, rE, rW, kT, kF, kO, kW, fi, bs, tm0, tm1, tm2, tm4, tm5, tm6, tm7, fr0, fr1, fr2, fr3, fr4, fr5, fr6, fr7, to0, to1, to2, to3, to4, to5, to6, to7, O, SP, htm1, htm2, htm3, hfr1, hfr2, hfr3⟩ | ⟨rT, rF, rO, rS, rE, rW, kT, kF, kO, kW, fi, bs, tm0, tm1, tm2, tm4, tm5, tm6, tm7, fr0, fr1, fr2, fr3, fr4, fr5, fr6, fr7, to0, to1, to2, to3, to4, to5, to6, to7, O, SP, htm0, htm2, htm3, hfr0, hfr2, hfr3⟩ | ⟨rT, rF, rO, rS, rE, rW, kT, kF, kO, kW, fi, bs, tm0, tm1, tm3, tm4, tm5, tm6, tm7, fr0, fr1, fr2, fr3, fr4, fr5, fr6, fr7, to0, to1, to2, to3, to4, to5, to6, to7, O, SP, htm1, htm2, hfr1, hfr2⟩ | ⟨rT, rF, rO, rS, rE, rW, kT, kF, kO, kW, fi, bs, tm0, tm1, tm2, tm4, tm5, tm6, tm7, fr0, fr1, fr2, fr3, fr4, fr5, fr6, fr7, to0, to1, to2, to3, to4, to5, to6, to7, O, SP, htm2, htm3, hfr2, hfr3⟩ | ⟨rT, rF, rO, rS, rE, rW, kT, kF, kO, kW, bs, tm0, fr0, fr1, to0, to1, O, SP, htm1, hfr1⟩ | ⟨rT, rF, rO, rS, rE, rW, kT, kF, kO, kW, bs, tm0, tm2, tm3, fr0, fr1, fr2, fr3, to0, to1, to2, to3, O, SP, htm0, htm1, hfr0, hfr1⟩ | ⟨rT, rF, rO, rS, rE, rW, kT, kF, kO, kW, fi, bs, tm0, tm1, tm3, tm4, tm5, tm6, tm7, fr0, fr1, fr2, fr3, fr4, fr5, fr6, fr7, to0, to1, to2, to3, to4, to5, to6, to7, O, SP, htm2, hfr2⟩
 · exact O.Ea
 · exact O.Ea
 · exact O.Ea
 · exact O.Ea
 · exact O.Ea
 · exact O.Ea
 · exact O.Ea
 · exact O.Ea
 · exact O.Ea
 · exact O.Ea
 · exact O.Ea
 · exact O.Ea
 · exact O.Ea
theorem own_L3_W {Z : State} {h : Heap} {n0 : Nat} {a : Addr} {T t : Int64} (I : own_L3 Z h n0 a T t) : own_W Z h a t := by
 rcases I with ⟨rT, rF, rO, rS, rE, rW, kT, kF, kO, kW, bs, tm1, fr0, fr1, to0, to1, O, SP, htm0, hfr0⟩ | ⟨rT, rF, rO, rS, rE, rW, kT, kF, kO, kW, bs, tm0, fr0, fr1, to0, to1, O, SP, htm0, htm1, hfr0, hfr1⟩ | ⟨rT, rF, rO, rS, rE, rW, kT, kF, kO, kW, bs, tm0, tm1, tm3, tm4, tm5, tm6, tm7, fr0, fr1, fr2, fr3, fr4, fr5, fr6, fr7, to0, to1, to2, to3, to4, to5, to6, to7, O, SP, htm0, htm1, htm2, hfr0, hfr1, hfr2⟩ | ⟨rT, rF, rO, rS, rE, rW, kT, kF, kO, kW, bs, tm0, tm1, tm3, tm4, tm5, tm6, tm7, fr0, fr1, fr2, fr3, fr4, fr5, fr6, fr7, to0, to1, to2, to3, to4, to5, to6, to7, O, SP, htm1, htm2, hfr1, hfr2⟩
 · exact ⟨_, _, _, _, _, O.Ea, O.Ftimes, O.Fend, O.Vt, by decide, rfl⟩
 · exact ⟨_, _, _, _, _, O.Ea, O.Ftimes, O.Fend, O.Vt, by decide, rfl⟩
 · exact ⟨_, _, _, _, _, O.Ea, O.Ftimes, O.Fend, O.Vt, by decide, rfl⟩
 · exact ⟨_, _, _, _, _, O.Ea, O.Ftimes, O.Fend, O.Vt, by decide, rfl⟩
theorem own_L3d_W {Z : State} {h : Heap} {n0 : Nat} {a : Addr} {T t : Int64} (I : own_L3d Z h n0 a T t) : own_W Z h a t := by
 rcases I with ⟨rT, rF, rO, rS, rE, rW, kT, kF, kO, kW, bs, tm1, fr0, fr1, to0, to1, O, SP, htm0, hfr0⟩ | ⟨rT, rF, rO, rS, rE, rW, kT, kF, kO, kW, bs, tm0, fr0, fr1, to0, to1, O, SP, htm0, htm1, hfr0, hfr1⟩ | ⟨rT, rF, rO, rS, rE, rW, kT, kF, kO, kW, fi, bs, tm0, tm1, tm3, tm4, tm5, tm6, tm7, fr0, fr1, fr2, fr3, fr4, fr5, fr6, fr7, to0, to1, to2, to3, to4, to5, to6, to7, O, SP, htm0, htm1, htm2, hfr0, hfr1, hfr2⟩ | ⟨rT, rF, rO, rS, rE, rW, kT, kF, kO, kW, fi, bs, tm0, tm1, tm3, tm4, tm5, tm6, tm7, fr0, fr1, fr2, fr3, fr4, fr5, fr6, fr7, to0, to1, to2, to3, to4, to5, to6, to7, O, SP, htm1, htm2, hfr1, hfr2⟩ | ⟨rT, rF, rO, rS, rE, rW, kT, kF, kO, kW, bs, tm0, fr0, fr1, to0, to1, O, SP, htm1, hfr1⟩ | ⟨rT, rF, rO, rS, rE, rW, kT, kF, kO, kW, fi, bs, tm0, tm1, tm3, tm4, tm5, tm6, tm7, fr0, fr1, fr2, fr3, fr4, fr5, fr6, fr7, to0, to1, to2, to3, to4, to5, to6, to7, O, SP, htm2, hfr2⟩
 · exact ⟨_, _, _, _, _, O.Ea, O.Ftimes, O.Fend, O.Vt, by decide, rfl⟩
 · exact ⟨_, _, _, _, _, O.Ea, O.Ftimes, O.Fend, O.Vt, by decide, rfl⟩
 · exact ⟨_, _, _, _, _, O.Ea, O.Ftimes, O.Fend, O.Vt, by decide, rfl⟩
 · exact ⟨_, _, _, _, _, O.Ea, O.Ftimes, O.Fend, O.Vt, by decide, rfl⟩
 · exact ⟨_, _, _, _, _, O.Ea, O.Ftimes, O.Fend, O.Vt, by decide, rfl⟩
 · exact ⟨_, _, _, _, _, O.Ea, O.Ftimes, O.Fend, O.Vt, by decide, rfl⟩
theorem own_L4_W {Z : State} {h : Heap} {n0 : Nat} {a : Addr} {T t : Int64} (I : own_L4 Z h n0 a T t) : own_W Z h a t := by
 rcases I with ⟨rT, rF, rO, rS, rE, rW, kT, kF, kO, kW, bs, tm1, fr0, fr1, to0, to1, O, SP, htm0, hfr0⟩ | ⟨rT, rF, rO, rS, rE, rW, kT, kF, kO, kW, bs, tm0, fr0, fr1, to0, to1, O, SP, htm0, htm1, hfr0, hfr1⟩ | ⟨rT, rF, rO, rS, rE, rW, kT, kF, kO, kW, bs, tm0, tm1, tm3, tm4, tm5, tm6, tm7, fr0, fr1, fr2, fr3, fr4, fr5, fr6, fr7, to0, to1, to2, to3, to4, to5, to6, to7, O, SP, htm0, htm1, htm2, hfr0, hfr1, hfr2⟩ | ⟨rT, rF, rO, rS, rE, rW, kT, kF, kO, kW, bs, tm0, tm1, tm3, tm4, tm5, tm6, tm7, fr0, fr1, fr2, fr3, fr4, fr5, fr6, fr7, to0, to1, to2, to3, to4, to5, to6, to7, O, SP, htm1, htm2, hfr1, hfr2⟩ | ⟨rT, rF, rO, rS, rE, rW, kT, kF, kO, kW, fi, bs, tm0, tm1, tm3, tm4, tm5, tm6, tm7, fr0, fr1, fr2, fr3, fr4, fr5, fr6, fr7, to0, to1, to2, to3, to4, to5, to6, to7, O, SP, htm0, htm1, htm2, hfr0, hfr1, hfr2⟩ | ⟨rT, rF, rO, rS, rE, rW, kT, kF, kO, kW, fi, bs, tm0, tm1, tm2, tm4, tm5, tm6, tm7, fr0, fr1, fr2, fr3, fr4, fr5, fr6, fr7, to0, to1, to2, to3, to4, to5, to6, to7, O, SP, htm0, htm1, htm2, htm3, hfr0, hfr1, hfr2, hfr3⟩ | ⟨rT, rF, rO, rS, rE, rW, kT, kF, kO, kW, fi, bs, tm0, tm1, tm2, tm4, tm5, tm6, tm7, fr0, fr1, fr2, fr3, fr4, fr5, fr6, fr7, to0, to1, to2, to3, to4, to5, to6, to7, O, SP, htm1, htm2, htm3, hfr1, hfr2, hfr3⟩ | ⟨rT, rF, rO, rS, rE, rW, kT, kF, kO, kW, fi, bs, tm0, tm1, tm2, tm4, tm5, tm6, tm7, fr0, fr1, fr2, fr3, fr4, fr5, fr6, fr7, to0, to1, to2, to3, to4, to5, to6, to7, O, SP, htm0, htm2, htm3, hfr0, hfr2, hfr3⟩ | ⟨rT, rF, rO, rS, rE, rW, kT, kF, kO, kW, fi, bs, tm0, tm1, tm3, tm4, tm5, tm6, tm7, fr0, fr1, fr2, fr3, fr4, fr5, fr6, fr7, to0, to1, to2, to3, to4, to5, to6, to7, O, SP, htm1, htm2, hfr1, hfr2⟩ | ⟨rT, rF, rO, rS, rE, rW, kT, kF, kO, kW, fi, bs, tm0, tm1, tm2, tm4, tm5, tm6, tm7, fr0, fr1, fr2, fr3, fr4, fr5, fr6, fr7, to0, to1, to2, to3, to4, to5, to6, to7, O, SP, htm2, htm3, hfr2, hfr3⟩ | ⟨rT, rF, rO, rS, rE, rW, kT, kF, kO, kW, bs, tm0, fr0, fr1, to0, to1, O, SP, htm1, hfr1⟩ | ⟨rT, rF, rO, rS, rE, rW, kT, kF, kO, kW, bs, tm0, tm2, tm3, fr0, fr1, fr2, fr3, to0, to1, to2, to3, O, SP, htm0, htm1, hfr0, hfr1⟩ | ⟨rT, rF, rO, rS, rE, rW, kT, kF, kO, kW, fi, bs, tm0, tm1, tm3, tm4, tm5, tm6, tm7, fr0, fr1, fr2, fr3, fr4, fr5, fr6, fr7, to0, to1, to2, to3, to4, to5, to6, to7, O, SP, htm2, hfr2⟩
 · exact ⟨_, _, _, _, _, O.Ea, O.Ftimes, O.Fend, O.Vt, by decide, rfl⟩
 · exact ⟨_, _, _, _, _, O.Ea, O.Ftimes, O.Fend, O.Vt, by decide, rfl⟩
 · exact ⟨_, _, _, _, _, O.Ea, O.Ftimes, O.Fend, O.Vt, by decide, rfl⟩
 · exact ⟨_, _, _, _, _, O.Ea, O.Ftimes, O.Fend, O.Vt, by decide, rfl⟩
 · exact ⟨_, _, _, _, _, O.Ea, O.Ftimes, O.Fend, O.Vt, by decide, rfl⟩
 · exact ⟨_, _, _, _, _, O.Ea, O.Ftimes, O.Fend, O.Vt, by decide, rfl⟩
 · exact ⟨_, _, _, _, _, O.Ea, O.Ftimes, O.Fend, O.Vt, by decide, rfl⟩
 · exact ⟨_, _, _, _, _, O.Ea, O.Ftimes, O.Fend, O.Vt, by decide, rfl⟩
 · exact ⟨_, _, _, _, _, O.Ea, O.Ftimes, O.Fend, O.Vt, by decide, rfl⟩
 · exact ⟨_, _, _, _, _, O.Ea, O.Ftimes, O.Fend, O.Vt, by decide, rfl⟩
 · exact ⟨_, _, _, _, _, O.Ea, O.Ftimes, O.Fend, O.Vt, by decide, rfl⟩
 · exact ⟨_, _, _, _, _, O.Ea, O.Ftimes, O.Fend, O.Vt, by decide, rfl⟩
 · exact ⟨_, _, _, _, _, O.Ea, O.Ftimes, O.Fend, O.Vt, by decide, rfl⟩
theorem d24_0 : decode oc24 0 = .ok (.aload_n 0, 1):=by decide +kernel
theorem d24_1 : decode oc24 1 = .ok (.getfield 9, 3):=by decide +kernel
theorem d24_4 : decode oc24 4 = .ok (.aload_n 0, 1):=by decide +kernel
theorem d24_5 : decode oc24 5 = .ok (.getfield 35, 3):=by decide +kernel
theorem d24_8 : decode oc24 8 = .ok (.iconst 1, 1):=by decide +kernel
theorem d24_9 : decode oc24 9 = .ok (.isub, 1):=by decide +kernel
theorem d24_10 : decode oc24 10 = .ok (.laload, 1):=by decide +kernel
theorem d24_11 : decode oc24 11 = .ok (.lreturn, 1):=by decide +kernel
theorem pn_24 : plainName oL = true := by first | (simp [plainName, overriddenIn]; done) | decide +kernel
theorem ef_rm24_t (m : MethodId) (y0 : Addr) : entryFrame m #[(.ref y0)] 1 = mkF m 0 #[oR y0] [] := by first | (simp [entryFrame, mkF, argsToLocals, Value.category]; done) | rfl
def Q_rm24_t (Z : State) (a24_0 wt : Addr) (kc_wt : ClassId) (t_wt_0 : Int64) (h0 : Heap) (n0 : Nat) (v : Option Value) (h : Heap) (L : List Loc) : Prop := v = some (.long t_wt_0) ∧ Fr n0 L ∧ h = h0
theorem rm24_t (l : Launch) (Z : State) (a0 : Array Value) (hw : own_T Z a0) (a24_0 wt : Addr) (kc_wt : ClassId) (t_wt_0 : Int64) (h0 : Heap) (n0 : Nat) (Z0 : n0 ≤ h0.size) (F_times : Fld Z h0 a24_0 oL "times" "[J" (.ref wt)) (F_end : Fld Z h0 a24_0 oL "end" "I" (.int (1 : Int32))) (V_wt : Arv Z h0 wt kc_wt .long (1 : Int32) [(.long t_wt_0)] oZ) :
   own_Met l (⟨oL, "newestTime", "()J"⟩ : MethodName) oc24 1 (some .long) ({ frames := 0, cells := 0, slots := 0, locals := 0 } : Room) Z h0 #[(.ref a24_0)] (Q_rm24_t Z a24_0 wt kc_wt t_wt_0 h0 n0) := by
 refine own_go hw (plainFor_of_name pn_24) (fun m => ef_rm24_t m a24_0) fun p e s m below meth c T0 C hret X0 e0 => ?_
 have N0 := Fr.nil n0
 refine gA C X0 e0 F_times (ow17 C.w) d24_0 d24_1 fun T1 X1 e1 => ?_
 refine gA C X1 e1 F_end (ow55 C.w) d24_4 d24_5 fun T2 X2 e2 => ?_
 refine sC C X2 d24_8 ?_
 refine sS C X2 d24_9 ?_
 refine lA C X2 e2 V_wt d24_10 ?_
 refine rJ C X2 e2 hret d24_11 ?_
 exact ⟨rfl, N0, rfl⟩
theorem own_newest (l : Launch) (Z : State) (a0 : Array Value) (hw : own_T Z a0) (a : Addr) (t : Int64) (h0 : Heap) (n0 : Nat) (Z0 : n0 ≤ h0.size) (I : own_W Z h0 a t) : own_Met l (⟨oL, "newestTime", "()J"⟩ : MethodName) oc24 1 (some .long) ({ frames := 0, cells := 0, slots := 0, locals := 0 } : Room) Z h0 #[(.ref a)] (fun v h L => v = some (.long t) ∧ Fr n0 L ∧ h = h0) := by
 obtain ⟨rT, k, en, n, ts, E, F1, F2, Vt, h1, h2⟩ := I
 refine own_go hw (plainFor_of_name pn_24) (fun m => ef_rm24_t m a) fun p e s m below meth c T0 C hret X0 e0 => ?_
 refine gA C X0 e0 F1 (ow17 C.w) d24_0 d24_1 fun T1 X1 e1 => ?_
 refine gA C X1 e1 F2 (ow55 C.w) d24_4 d24_5 fun T2 X2 e2 => ?_
 refine sC C X2 d24_8 ?_
 refine sS C X2 d24_9 ?_
 refine lA C X2 e2 Vt d24_10 ?_ rfl h1 h2
 exact rJ C X2 e2 hret d24_11 ⟨rfl, Fr.nil n0, rfl⟩
theorem d30_12 : decode oc30 12 = .ok (.iconst 0, 1):=by decide +kernel
def Q_rm30_0 (Z : State) (a30_0 : Addr) (h0 : Heap) (n0 : Nat) (v : Option Value) (h : Heap) (L : List Loc) : Prop := v = some (.int (0 : Int32)) ∧ Fr n0 L ∧ h = h0
theorem rm30_0 (l : Launch) (Z : State) (a0 : Array Value) (hw : own_T Z a0) (a30_0 : Addr) (h0 : Heap) (n0 : Nat) (Z0 : n0 ≤ h0.size) (F_size : Fld Z h0 a30_0 oL "size" "I" (.int (1 : Int32))) :
   own_Met l oy30 oc30 6 (some .boolean) ({ frames := 5, cells := 0, slots := 0, locals := 120 } : Room) Z h0 #[(.ref a30_0)] (Q_rm30_0 Z a30_0 h0 n0) := by
 refine own_go hw (plainFor_of_name pn_30) (fun m => ef_rm30_8_7 m a30_0) fun p e s m below meth c T0 C hret X0 e0 => ?_
 have N0 := Fr.nil n0
 refine gA C X0 e0 F_size (ow53 C.w) d30_0 d30_1 fun T1 X1 e1 => ?_
 refine sC C X1 d30_4 ?_
 refine cY C X1 d30_5 12 ((flt (by decide : ¬ ((1 : Int32) < (1 : Int32)))).2.2.2) ?_
 refine sC C X1 d30_12 ?_
 refine wI C X1 #[oR a30_0, oI 0, oU, oU, oU, oU] d30_13 ?_
 refine sI C X1 d30_14 ?_
 refine bY C X1 d30_15 151 ((if0 _ _).trans (teq (by decide : (0 : Int32) = (0 : Int32))).1) ?_
 refine sI C X1 d30_151 ?_
 refine rZ C X1 e1 hret d30_152 ?_
 exact ⟨rfl, N0, rfl⟩
def own_sh2 (l_ws_0 : Int64) (l_ws_1 : Int64) : Int32 := (if l_ws_1 < l_ws_0 then (1 : Int32) else (0 : Int32))
def Q_rm31_2 (Z : State) (a31_0 wt : Addr) (kc_wt : ClassId) (t_wt_0 t_wt_1 : Int64) (ws : Addr) (l_ws_0 l_ws_1 : Int64) (h0 : Heap) (n0 : Nat) (v : Option Value) (h : Heap) (L : List Loc) : Prop := v = some (.int (own_sh2 l_ws_0 l_ws_1)) ∧ Fr n0 L ∧ h = h0
theorem rm31_2 (l : Launch) (Z : State) (a0 : Array Value) (hw : own_T Z a0) (a31_0 wt : Addr) (kc_wt : ClassId) (t_wt_0 t_wt_1 : Int64) (ws : Addr) (l_ws_0 l_ws_1 : Int64) (h0 : Heap) (n0 : Nat) (Z0 : n0 ≤ h0.size) (F_times : Fld Z h0 a31_0 oL "times" "[J" (.ref wt)) (V_wt : Arv Z h0 wt kc_wt .long (2 : Int32) [(.long t_wt_0), (.long t_wt_1)] oZ) (F_spans : Fld Z h0 a31_0 oL "spans" "[J" (.ref ws)) (T_ws : own_Sp2 Z h0 ws l_ws_0 l_ws_1) :
   own_Met l oy31 oc31 3 (some .int) ({ frames := 0, cells := 0, slots := 0, locals := 0 } : Room) Z h0 #[(.ref a31_0)] (Q_rm31_2 Z a31_0 wt kc_wt t_wt_0 t_wt_1 ws l_ws_0 l_ws_1 h0 n0) := by
 refine own_go hw (plainFor_of_name pn_31) (fun m => ef_rm31_8 m a31_0) fun p e s m below meth c T0 C hret X0 e0 => ?_
 have N0 := Fr.nil n0
 refine gA C X0 e0 F_times (ow17 C.w) d31_0 d31_1 fun T1 X1 e1 => ?_
 refine nA C X1 e1 V_wt d31_4 ?_
 refine wI C X1 #[oR a31_0, oI 2, oU] d31_5 ?_
 refine sC C X1 d31_6 ?_
 refine wI C X1 #[oR a31_0, oI 2, oI 1] d31_7 ?_
 refine sI C X1 d31_8 ?_
 refine sI C X1 d31_9 ?_
 refine cN C X1 d31_10 ((tlt (by decide : (1 : Int32) < (2 : Int32))).2.1) ?_
 refine gA C X1 e1 F_spans (ow23 C.w) d31_13 d31_14 fun T2 X2 e2 => ?_
 refine sC C X2 d31_17 ?_
 refine sI C X2 d31_18 ?_
 refine sM C X2 d31_19 ?_
 obtain ⟨kq3, VT3⟩ := id T_ws
 obtain ⟨m3_1, hm3_1⟩ : ∃ z : Int64, z = (own_m l_ws_0 l_ws_1) := ⟨_, rfl⟩
 rw [← hm3_1] at VT3
 refine lA C X2 e2 VT3 d31_20 ?_
 refine gA C X2 e2 F_spans (ow23 C.w) d31_21 d31_22 fun T4 X4 e4 => ?_
 refine sC C X4 d31_25 ?_
 refine sI C X4 d31_26 ?_
 refine sM C X4 d31_27 ?_
 refine sC C X4 d31_28 ?_
 refine sP C X4 d31_29 ?_
 refine lA C X4 e4 VT3 d31_30 ?_
 refine tC C X4 d31_31 ?_
 by_cases h32_5 : l_ws_1 < l_ws_0
 · refine bY C X4 d31_32 41 ((if0 _ _).trans (tlt ((lw_gt _ _).mpr h32_5)).2.2.1) ?_
   refine sC C X4 d31_41 ?_
   refine sI C X4 d31_42 ?_
   refine sM C X4 d31_43 ?_
   refine sC C X4 d31_44 ?_
   refine sP C X4 d31_45 ?_
   refine wI C X4 #[oR a31_0, oI 2, oI 3] d31_46 ?_
   refine sG C X4 d31_47 8 ?_
   refine sI C X4 d31_8 ?_
   refine sI C X4 d31_9 ?_
   refine cY C X4 d31_10 50 ((flt (by decide : ¬ ((3 : Int32) < (2 : Int32)))).2.1) ?_
   refine sI C X4 d31_50 ?_
   refine sI C X4 d31_51 ?_
   refine sS C X4 d31_52 ?_
   refine rI C X4 e4 hret d31_53 ?_
   subst hm3_1
   exact ⟨(congrArg (fun z => some (Value.int z)) (if_pos h32_5).symm), N0, rfl⟩
 refine bN C X4 d31_32 ((if0 _ _).trans (flt (fun q => h32_5 ((lw_gt _ _).mp q))).2.2.1) ?_
 refine sC C X4 d31_35 ?_
 refine sI C X4 d31_36 ?_
 refine sM C X4 d31_37 ?_
 refine sG C X4 d31_38 46 ?_
 refine wI C X4 #[oR a31_0, oI 2, oI 2] d31_46 ?_
 refine sG C X4 d31_47 8 ?_
 refine sI C X4 d31_8 ?_
 refine sI C X4 d31_9 ?_
 refine cY C X4 d31_10 50 ((flt (by decide : ¬ ((2 : Int32) < (2 : Int32)))).2.1) ?_
 refine sI C X4 d31_50 ?_
 refine sI C X4 d31_51 ?_
 refine sS C X4 d31_52 ?_
 refine rI C X4 e4 hret d31_53 ?_
 subst hm3_1
 exact ⟨(congrArg (fun z => some (Value.int z)) (if_neg h32_5).symm), N0, rfl⟩
theorem own_shl_2_3 (x1 : Int64) (h1 : x1 < oM) : (own_sh2 oM x1) = (1 : Int32) := by
 unfold own_sh2
 rw [if_pos (own_ltM (R := x1) (L := oM) (by decide +kernel) h1)]
 first | done | decide
def Q_rm30_2_3 (Z : State) (a30_0 : Addr) (rT : Addr) (rF : Addr) (rO : Addr) (rS : Addr) (rE : Addr) (rW : Addr) (kT : ClassId) (kF : ClassId) (kO : ClassId) (kW : ClassId) (fi : Int32) (en : Int32) (sz : Int32) (bs : Int64) (tm0 : Int64) (tm1 : Int64) (fr0 : Int64) (fr1 : Int64) (to0 : Int64) (to1 : Int64) (T : Int64) (h0 : Heap) (n0 : Nat) (v : Option Value) (h : Heap) (L : List Loc) : Prop := v = some (.int (1 : Int32)) ∧ Fr n0 L ∧ (((own_sh2 oM (tm1 - fr0)) = (1 : Int32) ∧ own_Obj Z h n0 a30_0 rT rF rO rS rE rW kT kF kO kW fi en (sz - (1 : Int32)) bs (1 : Int32) (1 : Int32) (2 : Int64) (2 : Int32) [(.long tm0), (.long tm1)] [(.long fr0), (.long fr0)] [(.long to0), (.long to1)] ∧ own_Sp2 Z h rS oM oM))
theorem rm30_2_3 (l : Launch) (Z : State) (a0 : Array Value) (hw : own_T Z a0) (a30_0 rT rF rO rS rE rW : Addr) (kT kF kO kW : ClassId) (fi en sz : Int32) (bs tm0 tm1 fr0 fr1 to0 to1 T : Int64) (h0 : Heap) (n0 : Nat) (Z0 : n0 ≤ h0.size) (O : own_Obj Z h0 n0 a30_0 rT rF rO rS rE rW kT kF kO kW fi en sz bs (1 : Int32) (1 : Int32) (3 : Int64) (2 : Int32) [(.long tm0), (.long tm1)] [(.long fr0), (.long fr1)] [(.long to0), (.long to1)]) (SP : own_Sp2 Z h0 rS oM (tm1 - fr0)) (htm0 : own_near T tm0) (htm1 : own_near T tm1) (hfr0 : own_near T fr0) (hfr1 : own_near T fr1) (hsz : (1 : Int32) < sz) :
   own_Met l oy30 oc30 6 (some .boolean) ({ frames := 5, cells := 0, slots := 0, locals := 120 } : Room) Z h0 #[(.ref a30_0)] (Q_rm30_2_3 Z a30_0 rT rF rO rS rE rW kT kF kO kW fi en sz bs tm0 tm1 fr0 fr1 to0 to1 T h0 n0) := by
 refine own_go hw (plainFor_of_name pn_30) (fun m => ef_rm30_8_7 m a30_0) fun p e s m below meth c T0 C hret X0 e0 => ?_
 have N0 := Fr.nil n0
 refine gA C X0 e0 O.Fsize (ow53 C.w) d30_0 d30_1 fun T1 X1 e1 => ?_
 refine sC C X1 d30_4 ?_
 refine cN C X1 d30_5 ((tlt hsz).2.2.2) ?_
 refine sC C X1 d30_8 ?_
 refine sG C X1 d30_9 13 ?_
 refine wI C X1 #[oR a30_0, oI 1, oU, oU, oU, oU] d30_13 ?_
 refine sI C X1 d30_14 ?_
 refine bN C X1 d30_15 ((if0 _ _).trans (feq (by decide : ¬ ((1 : Int32) = (0 : Int32)))).1) ?_
 refine sA C X1 d30_18 ?_
 refine cP C X1 e1 (rm31_2 l Z a0 C.w a30_0 rT kT tm0 tm1 rS oM (tm1 - fr0) h0 n0 O.hsz O.Ftimes O.Vt O.Fspans SP) O.Ea (W := 0) (ow164 C.w) (ow165 C.w) (own_selp (x := oy7) rfl (mvT (args := #[]) C.z (ow51 C.w)) (Cond.privateMethod_at (mvP C.z (ow166 C.w) (args := #[]))) (mvT C.z (ow165 C.w)) (by decide)) (ow166 C.w) (ow167 C.w) (ow9 C.w) (argsL := []) (lenOf pd___I rfl) d30_19 fun v2 T2 lo2 X2 hQ2 => ?_
 obtain ⟨rfl, Nq2, e2⟩ := hQ2
 obtain ⟨x3, hx3⟩ : ∃ z : Int32, z = (own_sh2 oM (tm1 - fr0)) := ⟨_, rfl⟩
 rw [← hx3]
 have hdx3 : x3 = (1 : Int32) := by rw [hx3]; exact (own_shl_2_3 (tm1 - fr0) (own_nlt htm1 hfr0))
 have hc4 := hdx3
 rw [hc4]
 refine wI C X2 #[oR a30_0, oI 1, oI 1, oU, oU, oU] d30_22 ?_
 refine gA C X2 e2 O.Fentries (ow46 C.w) d30_23 d30_24 fun T5 X5 e5 => ?_
 refine sI C X5 d30_27 ?_
 refine sC C X5 d30_28 ?_
 refine sS C X5 d30_29 ?_
 refine cV C X5 e5 (rm32_2 l Z a0 C.w rE (0 : Int32) rW kW (3 : Int64) h0 n0 O.hsz (by decide +kernel) (by decide +kernel) O.Ee O.BwordsInUse O.BsizeIsSticky O.Bwords O.Vw O.St) O.Ee (W := 0) (ow168 C.w) (ow169 C.w) (ow171 C.w) (ow170 C.w) (ow172 C.w) (ow27 C.w) (argsL := [(.int (0 : Int32))]) (lenOf pd__I_I rfl) d30_30 fun v6 T6 lo6 X6 hQ6 => ?_
 obtain ⟨rfl, Nq6, e6⟩ := hQ6
 rw [show (own_psb (0 : Int32) (3 : Int64)) = (0 : Int32) from by decide +kernel]
 refine wI C X6 #[oR a30_0, oI 1, oI 1, oI 0, oU, oU] d30_33 ?_
 refine gA C X6 e6 O.Fentries (ow46 C.w) d30_34 d30_35 fun T8 X8 e8 => ?_
 refine sI C X8 d30_38 ?_
 refine cV C X8 e8 (rm28_1 l Z a0 C.w rE (0 : Int32) rW kW (3 : Int64) h0 n0 O.hsz (by decide +kernel) (by decide +kernel) O.Ee O.BwordsInUse O.BsizeIsSticky O.Bwords O.Vw O.grW O.n_rE_rW O.grE O.St) O.Ee (W := 0) (ow148 C.w) (ow149 C.w) (ow151 C.w) (ow150 C.w) (ow152 C.w) (ow27 C.w) (argsL := [(.int (0 : Int32))]) (lenOf pd__I_V rfl) d30_39 fun v9 T9 lo9 X9 hQ9 => ?_
 obtain ⟨rfl, Nq9, Kc9, Sc9, P9_0, P9_1, P9_2, P9_3, P9_4⟩ := hQ9
 rw [show ((3 : Int64) &&& (((1 : Int64) <<< ((0 : Int32) &&& 0x3f).toInt64) ^^^ (-1 : Int64))) = (2 : Int64) from by decide +kernel] at P9_0
 rw [show (if ((3 : Int64) &&& (((1 : Int64) <<< ((0 : Int32) &&& 0x3f).toInt64) ^^^ (-1 : Int64))) = (0 : Int64) then (0 : Int32) else (1 : Int32)) = (1 : Int32) from by decide +kernel] at P9_2
 have O9 := O.bits2 Kc9 Sc9 P9_1 P9_2 P9_3 P9_4 P9_0
 refine sA C X9 d30_42 ?_
 refine sD C X9 d30_43 ?_
 refine gF C X9 rfl O9.Fsize (ow53 C.w) d30_44 fun T10 X10 e10 => ?_
 refine sC C X10 d30_47 ?_
 refine sS C X10 d30_48 ?_
 refine pF C X10 e10 (((N0.app Nq2).app Nq6).app Nq9) O9.ga O9.Fsize O9.Ea (ty := .int) (ow53 C.w) (ow54 C.w) (ow8 C.w) (by decide) d30_49 fun T11 h11 lo11 X11 e11 N11 W11 F11 => ?_
 have O11 := own_Obj.put_size hw O9 W11 F11
 refine sA C X11 d30_52 ?_
 refine sI C X11 d30_53 ?_
 refine kJ C X11 (ow98 C.w) d30_54 ?_
 have f12 := ((SP.keep Kc9 (ninS O11.n_rS_rW (ninS O11.n_rS_rE nin0))).other W11 (Ne.symm O11.n_a_rS))
 refine cP C X11 e11 (rm23_2_0 l Z a0 C.w a30_0 oM rT kT tm0 tm1 rS oM (tm1 - fr0) h11 n0 O11.hsz O11.Ftimes O11.Vt O11.Fspans f12 O11.grS O11.n_a_rS) O11.Ea (W := 0) (ow126 C.w) (ow127 C.w) (own_selp (x := oy7) rfl (mvT (args := #[]) C.z (ow51 C.w)) (Cond.privateMethod_at (mvP C.z (ow128 C.w) (args := #[]))) (mvT C.z (ow127 C.w)) (by decide)) (ow128 C.w) (ow129 C.w) (ow9 C.w) (argsL := [(.int (0 : Int32)), (.long oM)]) (lenOf pd__IJ_V rfl) d30_57 fun v13 T13 lo13 X13 hQ13 => ?_
 obtain ⟨rfl, Nq13, Kc13, Sc13, P13_0⟩ := hQ13
 have O13 := O11.sp Kc13 Sc13
 refine gA C X13 rfl O13.Ffroms (ow19 C.w) d30_60 d30_61 fun T14 X14 e14 => ?_
 refine sI C X14 d30_64 ?_
 refine gA C X14 e14 O13.Ffroms (ow19 C.w) d30_65 d30_66 fun T15 X15 e15 => ?_
 refine sI C X15 d30_69 ?_
 refine lA C X15 e15 O13.Vf d30_70 ?_
 refine sJ C X15 e15 (N11.app Nq13) O13.grF O13.Vf _ d30_71 fun T16 h16 lo16 X16 e16 N16 W16 V16 => ?_
 have O16 := O13.setF W16 V16
 refine gA C X16 e16 O16.Fentries (ow46 C.w) d30_72 d30_73 fun T17 X17 e17 => ?_
 refine sI C X17 d30_76 ?_
 refine sC C X17 d30_77 ?_
 refine sS C X17 d30_78 ?_
 refine cV C X17 e17 (rm32_1 l Z a0 C.w rE rW kW (2 : Int64) h16 n0 O16.hsz O16.Ee O16.BwordsInUse O16.BsizeIsSticky O16.Bwords O16.Vw) O16.Ee (W := 0) (ow168 C.w) (ow169 C.w) (ow171 C.w) (ow170 C.w) (ow172 C.w) (ow27 C.w) (argsL := [(.int (-1 : Int32))]) (lenOf pd__I_I rfl) d30_79 fun v18 T18 lo18 X18 hQ18 => ?_
 obtain ⟨rfl, Nq18, e18⟩ := hQ18
 refine wi C X18 #[oR a30_0, oI 1, oI 1, oI 0, oI (-1), oU] d30_82 ?_
 refine sA C X18 d30_84 ?_
 refine sI C X18 d30_85 ?_
 refine si C X18 d30_86 ?_
 refine bN C X18 d30_88 ((if0 _ _).trans (tlt (by decide : (-1 : Int32) < (0 : Int32))).2.1) ?_
 refine kJ C X18 (ow98 C.w) d30_91 ?_
 refine sG C X18 d30_94 111 ?_
 have f19 := (P13_0.other W16 (Ne.symm O16.n_rF_rS))
 refine cP C X18 e18 (rm23_2_1 l Z a0 C.w a30_0 oM rT kT tm0 tm1 rS oM (tm1 - fr0) h16 n0 O16.hsz O16.Ftimes O16.Vt O16.Fspans f19 O16.grS O16.n_a_rS) O16.Ea (W := 0) (ow126 C.w) (ow127 C.w) (own_selp (x := oy7) rfl (mvT (args := #[]) C.z (ow51 C.w)) (Cond.privateMethod_at (mvP C.z (ow128 C.w) (args := #[]))) (mvT C.z (ow127 C.w)) (by decide)) (ow128 C.w) (ow129 C.w) (ow9 C.w) (argsL := [(.int (1 : Int32)), (.long oM)]) (lenOf pd__IJ_V rfl) d30_111 fun v20 T20 lo20 X20 hQ20 => ?_
 obtain ⟨rfl, Nq20, Kc20, Sc20, P20_0⟩ := hQ20
 have O20 := O16.sp Kc20 Sc20
 refine gA C X20 rfl O20.Fentries (ow46 C.w) d30_114 d30_115 fun T21 X21 e21 => ?_
 refine sI C X21 d30_118 ?_
 refine sC C X21 d30_119 ?_
 refine sP C X21 d30_120 ?_
 refine cV C X21 e21 (rm12_2 l Z a0 C.w rE (2 : Int32) rW kW (2 : Int64) T20.heap n0 O20.hsz (by decide +kernel) (by decide +kernel) O20.Ee O20.BwordsInUse O20.BsizeIsSticky O20.Bwords O20.Vw O20.St) O20.Ee (W := 0) (ow76 C.w) (ow77 C.w) (ow79 C.w) (ow78 C.w) (ow80 C.w) (ow27 C.w) (argsL := [(.int (2 : Int32))]) (lenOf pd__I_I rfl) d30_121 fun v22 T22 lo22 X22 hQ22 => ?_
 obtain ⟨rfl, Nq22, e22⟩ := hQ22
 rw [show (own_nsb (2 : Int32) (2 : Int64)) = (-1 : Int32) from by decide +kernel]
 refine wi C X22 #[oR a30_0, oI 1, oI 1, oI 0, oI (-1), oI (-1)] d30_124 ?_
 refine si C X22 d30_126 ?_
 refine bY C X22 d30_128 151 ((if0 _ _).trans (tlt (by decide : (-1 : Int32) < (0 : Int32))).1) ?_
 refine sI C X22 d30_151 ?_
 refine rZ C X22 e22 hret d30_152 ?_
 exact ⟨rfl, (((N16.app Nq18).app Nq20).app Nq22), ⟨hx3 ▸ hc4, O20, P20_0⟩⟩
theorem own_shl_8_6 (x2 : Int64) (h2 : x2 < oM) : (own_sh8 oM oM x2 oM oM oM oM oM) = (2 : Int32) := by
 unfold own_sh8
 rw [if_neg (own_nM (R := (own_m (own_m oM oM) (own_m oM oM))) (x := (own_m (own_m oM oM) (own_m x2 oM))) (by decide +kernel))]
 rw [if_pos (own_ltM (R := (own_m x2 oM)) (L := (own_m oM oM)) (by decide +kernel) (own_ml h2))]
 rw [if_neg (own_nM (R := oM) (x := x2) (by decide +kernel))]
 first | done | decide
def Q_rm30_8_6 (Z : State) (a30_0 : Addr) (rT : Addr) (rF : Addr) (rO : Addr) (rS : Addr) (rE : Addr) (rW : Addr) (kT : ClassId) (kF : ClassId) (kO : ClassId) (kW : ClassId) (fi : Int32) (en : Int32) (sz : Int32) (bs : Int64) (tm0 : Int64) (tm1 : Int64) (tm2 : Int64) (tm3 : Int64) (tm4 : Int64) (tm5 : Int64) (tm6 : Int64) (tm7 : Int64) (fr0 : Int64) (fr1 : Int64) (fr2 : Int64) (fr3 : Int64) (fr4 : Int64) (fr5 : Int64) (fr6 : Int64) (fr7 : Int64) (to0 : Int64) (to1 : Int64) (to2 : Int64) (to3 : Int64) (to4 : Int64) (to5 : Int64) (to6 : Int64) (to7 : Int64) (T : Int64) (h0 : Heap) (n0 : Nat) (v : Option Value) (h : Heap) (L : List Loc) : Prop := v = some (.int (1 : Int32)) ∧ Fr n0 L ∧ (((own_sh8 oM oM (tm2 - fr1) oM oM oM oM oM) = (2 : Int32) ∧ own_Obj Z h n0 a30_0 rT rF rO rS rE rW kT kF kO kW fi en (sz - (1 : Int32)) bs (1 : Int32) (1 : Int32) (4 : Int64) (8 : Int32) [(.long tm0), (.long tm1), (.long tm2), (.long tm3), (.long tm4), (.long tm5), (.long tm6), (.long tm7)] [(.long fr0), (.long fr1), (.long fr1), (.long fr3), (.long fr4), (.long fr5), (.long fr6), (.long fr7)] [(.long to0), (.long to1), (.long to2), (.long to3), (.long to4), (.long to5), (.long to6), (.long to7)] ∧ own_Sp8 Z h rS oM oM oM oM oM oM oM oM))
theorem rm30_8_6 (l : Launch) (Z : State) (a0 : Array Value) (hw : own_T Z a0) (a30_0 rT rF rO rS rE rW : Addr) (kT kF kO kW : ClassId) (fi en sz : Int32) (bs tm0 tm1 tm2 tm3 tm4 tm5 tm6 tm7 fr0 fr1 fr2 fr3 fr4 fr5 fr6 fr7 to0 to1 to2 to3 to4 to5 to6 to7 T : Int64) (h0 : Heap) (n0 : Nat) (Z0 : n0 ≤ h0.size) (O : own_Obj Z h0 n0 a30_0 rT rF rO rS rE rW kT kF kO kW fi en sz bs (1 : Int32) (1 : Int32) (6 : Int64) (8 : Int32) [(.long tm0), (.long tm1), (.long tm2), (.long tm3), (.long tm4), (.long tm5), (.long tm6), (.long tm7)] [(.long fr0), (.long fr1), (.long fr2), (.long fr3), (.long fr4), (.long fr5), (.long fr6), (.long fr7)] [(.long to0), (.long to1), (.long to2), (.long to3), (.long to4), (.long to5), (.long to6), (.long to7)]) (SP : own_Sp8 Z h0 rS oM oM (tm2 - fr1) oM oM oM oM oM) (htm1 : own_near T tm1) (htm2 : own_near T tm2) (hfr1 : own_near T fr1) (hfr2 : own_near T fr2) (hsz : (1 : Int32) < sz) :
   own_Met l oy30 oc30 6 (some .boolean) ({ frames := 5, cells := 0, slots := 0, locals := 120 } : Room) Z h0 #[(.ref a30_0)] (Q_rm30_8_6 Z a30_0 rT rF rO rS rE rW kT kF kO kW fi en sz bs tm0 tm1 tm2 tm3 tm4 tm5 tm6 tm7 fr0 fr1 fr2 fr3 fr4 fr5 fr6 fr7 to0 to1 to2 to3 to4 to5 to6 to7 T h0 n0) := by
 refine own_go hw (plainFor_of_name pn_30) (fun m => ef_rm30_8_7 m a30_0) fun p e s m below meth c T0 C hret X0 e0 => ?_
 have N0 := Fr.nil n0
 refine gA C X0 e0 O.Fsize (ow53 C.w) d30_0 d30_1 fun T1 X1 e1 => ?_
 refine sC C X1 d30_4 ?_
 refine cN C X1 d30_5 ((tlt hsz).2.2.2) ?_
 refine sC C X1 d30_8 ?_
 refine sG C X1 d30_9 13 ?_
 refine wI C X1 #[oR a30_0, oI 1, oU, oU, oU, oU] d30_13 ?_
 refine sI C X1 d30_14 ?_
 refine bN C X1 d30_15 ((if0 _ _).trans (feq (by decide : ¬ ((1 : Int32) = (0 : Int32)))).1) ?_
 refine sA C X1 d30_18 ?_
 refine cP C X1 e1 (rm31_8 l Z a0 C.w a30_0 rT kT tm0 tm1 tm2 tm3 tm4 tm5 tm6 tm7 rS oM oM (tm2 - fr1) oM oM oM oM oM h0 n0 O.hsz O.Ftimes O.Vt O.Fspans SP) O.Ea (W := 0) (ow164 C.w) (ow165 C.w) (own_selp (x := oy7) rfl (mvT (args := #[]) C.z (ow51 C.w)) (Cond.privateMethod_at (mvP C.z (ow166 C.w) (args := #[]))) (mvT C.z (ow165 C.w)) (by decide)) (ow166 C.w) (ow167 C.w) (ow9 C.w) (argsL := []) (lenOf pd___I rfl) d30_19 fun v2 T2 lo2 X2 hQ2 => ?_
 obtain ⟨rfl, Nq2, e2⟩ := hQ2
 obtain ⟨x3, hx3⟩ : ∃ z : Int32, z = (own_sh8 oM oM (tm2 - fr1) oM oM oM oM oM) := ⟨_, rfl⟩
 rw [← hx3]
 have hdx3 : x3 = (2 : Int32) := by rw [hx3]; exact (own_shl_8_6 (tm2 - fr1) (own_nlt htm2 hfr1))
 have hc4 := hdx3
 rw [hc4]
 refine wI C X2 #[oR a30_0, oI 1, oI 2, oU, oU, oU] d30_22 ?_
 refine gA C X2 e2 O.Fentries (ow46 C.w) d30_23 d30_24 fun T5 X5 e5 => ?_
 refine sI C X5 d30_27 ?_
 refine sC C X5 d30_28 ?_
 refine sS C X5 d30_29 ?_
 refine cV C X5 e5 (rm32_2 l Z a0 C.w rE (1 : Int32) rW kW (6 : Int64) h0 n0 O.hsz (by decide +kernel) (by decide +kernel) O.Ee O.BwordsInUse O.BsizeIsSticky O.Bwords O.Vw O.St) O.Ee (W := 0) (ow168 C.w) (ow169 C.w) (ow171 C.w) (ow170 C.w) (ow172 C.w) (ow27 C.w) (argsL := [(.int (1 : Int32))]) (lenOf pd__I_I rfl) d30_30 fun v6 T6 lo6 X6 hQ6 => ?_
 obtain ⟨rfl, Nq6, e6⟩ := hQ6
 rw [show (own_psb (1 : Int32) (6 : Int64)) = (1 : Int32) from by decide +kernel]
 refine wI C X6 #[oR a30_0, oI 1, oI 2, oI 1, oU, oU] d30_33 ?_
 refine gA C X6 e6 O.Fentries (ow46 C.w) d30_34 d30_35 fun T8 X8 e8 => ?_
 refine sI C X8 d30_38 ?_
 refine cV C X8 e8 (rm28_1 l Z a0 C.w rE (1 : Int32) rW kW (6 : Int64) h0 n0 O.hsz (by decide +kernel) (by decide +kernel) O.Ee O.BwordsInUse O.BsizeIsSticky O.Bwords O.Vw O.grW O.n_rE_rW O.grE O.St) O.Ee (W := 0) (ow148 C.w) (ow149 C.w) (ow151 C.w) (ow150 C.w) (ow152 C.w) (ow27 C.w) (argsL := [(.int (1 : Int32))]) (lenOf pd__I_V rfl) d30_39 fun v9 T9 lo9 X9 hQ9 => ?_
 obtain ⟨rfl, Nq9, Kc9, Sc9, P9_0, P9_1, P9_2, P9_3, P9_4⟩ := hQ9
 rw [show ((6 : Int64) &&& (((1 : Int64) <<< ((1 : Int32) &&& 0x3f).toInt64) ^^^ (-1 : Int64))) = (4 : Int64) from by decide +kernel] at P9_0
 rw [show (if ((6 : Int64) &&& (((1 : Int64) <<< ((1 : Int32) &&& 0x3f).toInt64) ^^^ (-1 : Int64))) = (0 : Int64) then (0 : Int32) else (1 : Int32)) = (1 : Int32) from by decide +kernel] at P9_2
 have O9 := O.bits2 Kc9 Sc9 P9_1 P9_2 P9_3 P9_4 P9_0
 refine sA C X9 d30_42 ?_
 refine sD C X9 d30_43 ?_
 refine gF C X9 rfl O9.Fsize (ow53 C.w) d30_44 fun T10 X10 e10 => ?_
 refine sC C X10 d30_47 ?_
 refine sS C X10 d30_48 ?_
 refine pF C X10 e10 (((N0.app Nq2).app Nq6).app Nq9) O9.ga O9.Fsize O9.Ea (ty := .int) (ow53 C.w) (ow54 C.w) (ow8 C.w) (by decide) d30_49 fun T11 h11 lo11 X11 e11 N11 W11 F11 => ?_
 have O11 := own_Obj.put_size hw O9 W11 F11
 refine sA C X11 d30_52 ?_
 refine sI C X11 d30_53 ?_
 refine kJ C X11 (ow98 C.w) d30_54 ?_
 have f12 := ((SP.keep Kc9 (ninS O11.n_rS_rW (ninS O11.n_rS_rE nin0))).other W11 (Ne.symm O11.n_a_rS))
 refine cP C X11 e11 (rm23_8_1 l Z a0 C.w a30_0 oM rT kT tm0 tm1 tm2 tm3 tm4 tm5 tm6 tm7 rS oM oM (tm2 - fr1) oM oM oM oM oM h11 n0 O11.hsz O11.Ftimes O11.Vt O11.Fspans f12 O11.grS O11.n_a_rS) O11.Ea (W := 0) (ow126 C.w) (ow127 C.w) (own_selp (x := oy7) rfl (mvT (args := #[]) C.z (ow51 C.w)) (Cond.privateMethod_at (mvP C.z (ow128 C.w) (args := #[]))) (mvT C.z (ow127 C.w)) (by decide)) (ow128 C.w) (ow129 C.w) (ow9 C.w) (argsL := [(.int (1 : Int32)), (.long oM)]) (lenOf pd__IJ_V rfl) d30_57 fun v13 T13 lo13 X13 hQ13 => ?_
 obtain ⟨rfl, Nq13, Kc13, Sc13, P13_0⟩ := hQ13
 have O13 := O11.sp Kc13 Sc13
 refine gA C X13 rfl O13.Ffroms (ow19 C.w) d30_60 d30_61 fun T14 X14 e14 => ?_
 refine sI C X14 d30_64 ?_
 refine gA C X14 e14 O13.Ffroms (ow19 C.w) d30_65 d30_66 fun T15 X15 e15 => ?_
 refine sI C X15 d30_69 ?_
 refine lA C X15 e15 O13.Vf d30_70 ?_
 refine sJ C X15 e15 (N11.app Nq13) O13.grF O13.Vf _ d30_71 fun T16 h16 lo16 X16 e16 N16 W16 V16 => ?_
 have O16 := O13.setF W16 V16
 refine gA C X16 e16 O16.Fentries (ow46 C.w) d30_72 d30_73 fun T17 X17 e17 => ?_
 refine sI C X17 d30_76 ?_
 refine sC C X17 d30_77 ?_
 refine sS C X17 d30_78 ?_
 refine cV C X17 e17 (rm32_2 l Z a0 C.w rE (0 : Int32) rW kW (4 : Int64) h16 n0 O16.hsz (by decide +kernel) (by decide +kernel) O16.Ee O16.BwordsInUse O16.BsizeIsSticky O16.Bwords O16.Vw O16.St) O16.Ee (W := 0) (ow168 C.w) (ow169 C.w) (ow171 C.w) (ow170 C.w) (ow172 C.w) (ow27 C.w) (argsL := [(.int (0 : Int32))]) (lenOf pd__I_I rfl) d30_79 fun v18 T18 lo18 X18 hQ18 => ?_
 obtain ⟨rfl, Nq18, e18⟩ := hQ18
 rw [show (own_psb (0 : Int32) (4 : Int64)) = (-1 : Int32) from by decide +kernel]
 refine wi C X18 #[oR a30_0, oI 1, oI 2, oI 1, oI (-1), oU] d30_82 ?_
 refine sA C X18 d30_84 ?_
 refine sI C X18 d30_85 ?_
 refine si C X18 d30_86 ?_
 refine bN C X18 d30_88 ((if0 _ _).trans (tlt (by decide : (-1 : Int32) < (0 : Int32))).2.1) ?_
 refine kJ C X18 (ow98 C.w) d30_91 ?_
 refine sG C X18 d30_94 111 ?_
 have f20 := (P13_0.other W16 (Ne.symm O16.n_rF_rS))
 refine cP C X18 e18 (rm23_8_2 l Z a0 C.w a30_0 oM rT kT tm0 tm1 tm2 tm3 tm4 tm5 tm6 tm7 rS oM oM (tm2 - fr1) oM oM oM oM oM h16 n0 O16.hsz O16.Ftimes O16.Vt O16.Fspans f20 O16.grS O16.n_a_rS) O16.Ea (W := 0) (ow126 C.w) (ow127 C.w) (own_selp (x := oy7) rfl (mvT (args := #[]) C.z (ow51 C.w)) (Cond.privateMethod_at (mvP C.z (ow128 C.w) (args := #[]))) (mvT C.z (ow127 C.w)) (by decide)) (ow128 C.w) (ow129 C.w) (ow9 C.w) (argsL := [(.int (2 : Int32)), (.long oM)]) (lenOf pd__IJ_V rfl) d30_111 fun v21 T21 lo21 X21 hQ21 => ?_
 obtain ⟨rfl, Nq21, Kc21, Sc21, P21_0⟩ := hQ21
 have O21 := O16.sp Kc21 Sc21
 refine gA C X21 rfl O21.Fentries (ow46 C.w) d30_114 d30_115 fun T22 X22 e22 => ?_
 refine sI C X22 d30_118 ?_
 refine sC C X22 d30_119 ?_
 refine sP C X22 d30_120 ?_
 refine cV C X22 e22 (rm12_2 l Z a0 C.w rE (3 : Int32) rW kW (4 : Int64) T21.heap n0 O21.hsz (by decide +kernel) (by decide +kernel) O21.Ee O21.BwordsInUse O21.BsizeIsSticky O21.Bwords O21.Vw O21.St) O21.Ee (W := 0) (ow76 C.w) (ow77 C.w) (ow79 C.w) (ow78 C.w) (ow80 C.w) (ow27 C.w) (argsL := [(.int (3 : Int32))]) (lenOf pd__I_I rfl) d30_121 fun v23 T23 lo23 X23 hQ23 => ?_
 obtain ⟨rfl, Nq23, e23⟩ := hQ23
 rw [show (own_nsb (3 : Int32) (4 : Int64)) = (-1 : Int32) from by decide +kernel]
 refine wi C X23 #[oR a30_0, oI 1, oI 2, oI 1, oI (-1), oI (-1)] d30_124 ?_
 refine si C X23 d30_126 ?_
 refine bY C X23 d30_128 151 ((if0 _ _).trans (tlt (by decide : (-1 : Int32) < (0 : Int32))).1) ?_
 refine sI C X23 d30_151 ?_
 refine rZ C X23 e23 hret d30_152 ?_
 exact ⟨rfl, (((N16.app Nq18).app Nq21).app Nq23), ⟨hx3 ▸ hc4, O21, P21_0⟩⟩
theorem own_shl_8_13 (x2 : Int64) (x3 : Int64) (h2 : x2 < oM) (h3 : x3 < oM) : (own_sh8 oM oM x2 x3 oM oM oM oM) = (2 : Int32) ∨ (own_sh8 oM oM x2 x3 oM oM oM oM) = (3 : Int32) := by
 unfold own_sh8
 rw [if_neg (own_nM (R := (own_m (own_m oM oM) (own_m oM oM))) (x := (own_m (own_m oM oM) (own_m x2 x3))) (by decide +kernel))]
 rw [if_pos (own_ltM (R := (own_m x2 x3)) (L := (own_m oM oM)) (by decide +kernel) (own_ml h2))]
 by_cases p5 : x3 < x2
 · rw [if_pos p5]
   first | done | decide
 · rw [if_neg p5]
   first | done | decide
def Q_rm30_8_13 (Z : State) (a30_0 : Addr) (rT : Addr) (rF : Addr) (rO : Addr) (rS : Addr) (rE : Addr) (rW : Addr) (kT : ClassId) (kF : ClassId) (kO : ClassId) (kW : ClassId) (fi : Int32) (en : Int32) (sz : Int32) (bs : Int64) (tm0 : Int64) (tm1 : Int64) (tm2 : Int64) (tm3 : Int64) (tm4 : Int64) (tm5 : Int64) (tm6 : Int64) (tm7 : Int64) (fr0 : Int64) (fr1 : Int64) (fr2 : Int64) (fr3 : Int64) (fr4 : Int64) (fr5 : Int64) (fr6 : Int64) (fr7 : Int64) (to0 : Int64) (to1 : Int64) (to2 : Int64) (to3 : Int64) (to4 : Int64) (to5 : Int64) (to6 : Int64) (to7 : Int64) (T : Int64) (h0 : Heap) (n0 : Nat) (v : Option Value) (h : Heap) (L : List Loc) : Prop := v = some (.int (1 : Int32)) ∧ Fr n0 L ∧ (((own_sh8 oM oM (tm2 - fr0) (tm3 - fr2) oM oM oM oM) = (2 : Int32) ∧ own_Obj Z h n0 a30_0 rT rF rO rS rE rW kT kF kO kW fi en (sz - (1 : Int32)) bs (1 : Int32) (1 : Int32) (12 : Int64) (8 : Int32) [(.long tm0), (.long tm1), (.long tm2), (.long tm3), (.long tm4), (.long tm5), (.long tm6), (.long tm7)] [(.long fr0), (.long fr1), (.long fr0), (.long fr3), (.long fr4), (.long fr5), (.long fr6), (.long fr7)] [(.long to0), (.long to1), (.long to2), (.long to3), (.long to4), (.long to5), (.long to6), (.long to7)] ∧ own_Sp8 Z h rS oM oM oM (tm3 - fr0) oM oM oM oM) ∨ ((own_sh8 oM oM (tm2 - fr0) (tm3 - fr2) oM oM oM oM) = (3 : Int32) ∧ own_Obj Z h n0 a30_0 rT rF rO rS rE rW kT kF kO kW fi en (sz - (1 : Int32)) bs (1 : Int32) (1 : Int32) (9 : Int64) (8 : Int32) [(.long tm0), (.long tm1), (.long tm2), (.long tm3), (.long tm4), (.long tm5), (.long tm6), (.long tm7)] [(.long fr0), (.long fr1), (.long fr2), (.long fr2), (.long fr4), (.long fr5), (.long fr6), (.long fr7)] [(.long to0), (.long to1), (.long to2), (.long to3), (.long to4), (.long to5), (.long to6), (.long to7)] ∧ own_Sp8 Z h rS oM oM oM (tm3 - fr0) oM oM oM oM))
theorem rm30_8_13 (l : Launch) (Z : State) (a0 : Array Value) (hw : own_T Z a0) (a30_0 rT rF rO rS rE rW : Addr) (kT kF kO kW : ClassId) (fi en sz : Int32) (bs tm0 tm1 tm2 tm3 tm4 tm5 tm6 tm7 fr0 fr1 fr2 fr3 fr4 fr5 fr6 fr7 to0 to1 to2 to3 to4 to5 to6 to7 T : Int64) (h0 : Heap) (n0 : Nat) (Z0 : n0 ≤ h0.size) (O : own_Obj Z h0 n0 a30_0 rT rF rO rS rE rW kT kF kO kW fi en sz bs (1 : Int32) (1 : Int32) (13 : Int64) (8 : Int32) [(.long tm0), (.long tm1), (.long tm2), (.long tm3), (.long tm4), (.long tm5), (.long tm6), (.long tm7)] [(.long fr0), (.long fr1), (.long fr2), (.long fr3), (.long fr4), (.long fr5), (.long fr6), (.long fr7)] [(.long to0), (.long to1), (.long to2), (.long to3), (.long to4), (.long to5), (.long to6), (.long to7)]) (SP : own_Sp8 Z h0 rS oM oM (tm2 - fr0) (tm3 - fr2) oM oM oM oM) (htm0 : own_near T tm0) (htm2 : own_near T tm2) (htm3 : own_near T tm3) (hfr0 : own_near T fr0) (hfr2 : own_near T fr2) (hfr3 : own_near T fr3) (hsz : (1 : Int32) < sz) :
   own_Met l oy30 oc30 6 (some .boolean) ({ frames := 5, cells := 0, slots := 0, locals := 120 } : Room) Z h0 #[(.ref a30_0)] (Q_rm30_8_13 Z a30_0 rT rF rO rS rE rW kT kF kO kW fi en sz bs tm0 tm1 tm2 tm3 tm4 tm5 tm6 tm7 fr0 fr1 fr2 fr3 fr4 fr5 fr6 fr7 to0 to1 to2 to3 to4 to5 to6 to7 T h0 n0) := by
 refine own_go hw (plainFor_of_name pn_30) (fun m => ef_rm30_8_7 m a30_0) fun p e s m below meth c T0 C hret X0 e0 => ?_
 have N0 := Fr.nil n0
 refine gA C X0 e0 O.Fsize (ow53 C.w) d30_0 d30_1 fun T1 X1 e1 => ?_
 refine sC C X1 d30_4 ?_
 refine cN C X1 d30_5 ((tlt hsz).2.2.2) ?_
 refine sC C X1 d30_8 ?_
 refine sG C X1 d30_9 13 ?_
 refine wI C X1 #[oR a30_0, oI 1, oU, oU, oU, oU] d30_13 ?_
 refine sI C X1 d30_14 ?_
 refine bN C X1 d30_15 ((if0 _ _).trans (feq (by decide : ¬ ((1 : Int32) = (0 : Int32)))).1) ?_
 refine sA C X1 d30_18 ?_
 refine cP C X1 e1 (rm31_8 l Z a0 C.w a30_0 rT kT tm0 tm1 tm2 tm3 tm4 tm5 tm6 tm7 rS oM oM (tm2 - fr0) (tm3 - fr2) oM oM oM oM h0 n0 O.hsz O.Ftimes O.Vt O.Fspans SP) O.Ea (W := 0) (ow164 C.w) (ow165 C.w) (own_selp (x := oy7) rfl (mvT (args := #[]) C.z (ow51 C.w)) (Cond.privateMethod_at (mvP C.z (ow166 C.w) (args := #[]))) (mvT C.z (ow165 C.w)) (by decide)) (ow166 C.w) (ow167 C.w) (ow9 C.w) (argsL := []) (lenOf pd___I rfl) d30_19 fun v2 T2 lo2 X2 hQ2 => ?_
 obtain ⟨rfl, Nq2, e2⟩ := hQ2
 obtain ⟨x3, hx3⟩ : ∃ z : Int32, z = (own_sh8 oM oM (tm2 - fr0) (tm3 - fr2) oM oM oM oM) := ⟨_, rfl⟩
 rw [← hx3]
 have hdx3 : x3 = (2 : Int32) ∨ x3 = (3 : Int32) := by rw [hx3]; exact (own_shl_8_13 (tm2 - fr0) (tm3 - fr2) (own_nlt htm2 hfr0) (own_nlt htm3 hfr2))
 rcases hdx3 with hc4 | hc5
 · rw [hc4]
   refine wI C X2 #[oR a30_0, oI 1, oI 2, oU, oU, oU] d30_22 ?_
   refine gA C X2 e2 O.Fentries (ow46 C.w) d30_23 d30_24 fun T6 X6 e6 => ?_
   refine sI C X6 d30_27 ?_
   refine sC C X6 d30_28 ?_
   refine sS C X6 d30_29 ?_
   refine cV C X6 e6 (rm32_2 l Z a0 C.w rE (1 : Int32) rW kW (13 : Int64) h0 n0 O.hsz (by decide +kernel) (by decide +kernel) O.Ee O.BwordsInUse O.BsizeIsSticky O.Bwords O.Vw O.St) O.Ee (W := 0) (ow168 C.w) (ow169 C.w) (ow171 C.w) (ow170 C.w) (ow172 C.w) (ow27 C.w) (argsL := [(.int (1 : Int32))]) (lenOf pd__I_I rfl) d30_30 fun v7 T7 lo7 X7 hQ7 => ?_
   obtain ⟨rfl, Nq7, e7⟩ := hQ7
   rw [show (own_psb (1 : Int32) (13 : Int64)) = (0 : Int32) from by decide +kernel]
   refine wI C X7 #[oR a30_0, oI 1, oI 2, oI 0, oU, oU] d30_33 ?_
   refine gA C X7 e7 O.Fentries (ow46 C.w) d30_34 d30_35 fun T9 X9 e9 => ?_
   refine sI C X9 d30_38 ?_
   refine cV C X9 e9 (rm28_1 l Z a0 C.w rE (0 : Int32) rW kW (13 : Int64) h0 n0 O.hsz (by decide +kernel) (by decide +kernel) O.Ee O.BwordsInUse O.BsizeIsSticky O.Bwords O.Vw O.grW O.n_rE_rW O.grE O.St) O.Ee (W := 0) (ow148 C.w) (ow149 C.w) (ow151 C.w) (ow150 C.w) (ow152 C.w) (ow27 C.w) (argsL := [(.int (0 : Int32))]) (lenOf pd__I_V rfl) d30_39 fun v10 T10 lo10 X10 hQ10 => ?_
   obtain ⟨rfl, Nq10, Kc10, Sc10, P10_0, P10_1, P10_2, P10_3, P10_4⟩ := hQ10
   rw [show ((13 : Int64) &&& (((1 : Int64) <<< ((0 : Int32) &&& 0x3f).toInt64) ^^^ (-1 : Int64))) = (12 : Int64) from by decide +kernel] at P10_0
   rw [show (if ((13 : Int64) &&& (((1 : Int64) <<< ((0 : Int32) &&& 0x3f).toInt64) ^^^ (-1 : Int64))) = (0 : Int64) then (0 : Int32) else (1 : Int32)) = (1 : Int32) from by decide +kernel] at P10_2
   have O10 := O.bits2 Kc10 Sc10 P10_1 P10_2 P10_3 P10_4 P10_0
   refine sA C X10 d30_42 ?_
   refine sD C X10 d30_43 ?_
   refine gF C X10 rfl O10.Fsize (ow53 C.w) d30_44 fun T11 X11 e11 => ?_
   refine sC C X11 d30_47 ?_
   refine sS C X11 d30_48 ?_
   refine pF C X11 e11 (((N0.app Nq2).app Nq7).app Nq10) O10.ga O10.Fsize O10.Ea (ty := .int) (ow53 C.w) (ow54 C.w) (ow8 C.w) (by decide) d30_49 fun T12 h12 lo12 X12 e12 N12 W12 F12 => ?_
   have O12 := own_Obj.put_size hw O10 W12 F12
   refine sA C X12 d30_52 ?_
   refine sI C X12 d30_53 ?_
   refine kJ C X12 (ow98 C.w) d30_54 ?_
   have f13 := ((SP.keep Kc10 (ninS O12.n_rS_rW (ninS O12.n_rS_rE nin0))).other W12 (Ne.symm O12.n_a_rS))
   refine cP C X12 e12 (rm23_8_0 l Z a0 C.w a30_0 oM rT kT tm0 tm1 tm2 tm3 tm4 tm5 tm6 tm7 rS oM oM (tm2 - fr0) (tm3 - fr2) oM oM oM oM h12 n0 O12.hsz O12.Ftimes O12.Vt O12.Fspans f13 O12.grS O12.n_a_rS) O12.Ea (W := 0) (ow126 C.w) (ow127 C.w) (own_selp (x := oy7) rfl (mvT (args := #[]) C.z (ow51 C.w)) (Cond.privateMethod_at (mvP C.z (ow128 C.w) (args := #[]))) (mvT C.z (ow127 C.w)) (by decide)) (ow128 C.w) (ow129 C.w) (ow9 C.w) (argsL := [(.int (0 : Int32)), (.long oM)]) (lenOf pd__IJ_V rfl) d30_57 fun v14 T14 lo14 X14 hQ14 => ?_
   obtain ⟨rfl, Nq14, Kc14, Sc14, P14_0⟩ := hQ14
   have O14 := O12.sp Kc14 Sc14
   refine gA C X14 rfl O14.Ffroms (ow19 C.w) d30_60 d30_61 fun T15 X15 e15 => ?_
   refine sI C X15 d30_64 ?_
   refine gA C X15 e15 O14.Ffroms (ow19 C.w) d30_65 d30_66 fun T16 X16 e16 => ?_
   refine sI C X16 d30_69 ?_
   refine lA C X16 e16 O14.Vf d30_70 ?_
   refine sJ C X16 e16 (N12.app Nq14) O14.grF O14.Vf _ d30_71 fun T17 h17 lo17 X17 e17 N17 W17 V17 => ?_
   have O17 := O14.setF W17 V17
   refine gA C X17 e17 O17.Fentries (ow46 C.w) d30_72 d30_73 fun T18 X18 e18 => ?_
   refine sI C X18 d30_76 ?_
   refine sC C X18 d30_77 ?_
   refine sS C X18 d30_78 ?_
   refine cV C X18 e18 (rm32_1 l Z a0 C.w rE rW kW (12 : Int64) h17 n0 O17.hsz O17.Ee O17.BwordsInUse O17.BsizeIsSticky O17.Bwords O17.Vw) O17.Ee (W := 0) (ow168 C.w) (ow169 C.w) (ow171 C.w) (ow170 C.w) (ow172 C.w) (ow27 C.w) (argsL := [(.int (-1 : Int32))]) (lenOf pd__I_I rfl) d30_79 fun v19 T19 lo19 X19 hQ19 => ?_
   obtain ⟨rfl, Nq19, e19⟩ := hQ19
   refine wi C X19 #[oR a30_0, oI 1, oI 2, oI 0, oI (-1), oU] d30_82 ?_
   refine sA C X19 d30_84 ?_
   refine sI C X19 d30_85 ?_
   refine si C X19 d30_86 ?_
   refine bN C X19 d30_88 ((if0 _ _).trans (tlt (by decide : (-1 : Int32) < (0 : Int32))).2.1) ?_
   refine kJ C X19 (ow98 C.w) d30_91 ?_
   refine sG C X19 d30_94 111 ?_
   have f20 := (P14_0.other W17 (Ne.symm O17.n_rF_rS))
   refine cP C X19 e19 (rm23_8_2 l Z a0 C.w a30_0 oM rT kT tm0 tm1 tm2 tm3 tm4 tm5 tm6 tm7 rS oM oM (tm2 - fr0) (tm3 - fr2) oM oM oM oM h17 n0 O17.hsz O17.Ftimes O17.Vt O17.Fspans f20 O17.grS O17.n_a_rS) O17.Ea (W := 0) (ow126 C.w) (ow127 C.w) (own_selp (x := oy7) rfl (mvT (args := #[]) C.z (ow51 C.w)) (Cond.privateMethod_at (mvP C.z (ow128 C.w) (args := #[]))) (mvT C.z (ow127 C.w)) (by decide)) (ow128 C.w) (ow129 C.w) (ow9 C.w) (argsL := [(.int (2 : Int32)), (.long oM)]) (lenOf pd__IJ_V rfl) d30_111 fun v21 T21 lo21 X21 hQ21 => ?_
   obtain ⟨rfl, Nq21, Kc21, Sc21, P21_0⟩ := hQ21
   have O21 := O17.sp Kc21 Sc21
   refine gA C X21 rfl O21.Fentries (ow46 C.w) d30_114 d30_115 fun T22 X22 e22 => ?_
   refine sI C X22 d30_118 ?_
   refine sC C X22 d30_119 ?_
   refine sP C X22 d30_120 ?_
   refine cV C X22 e22 (rm12_2 l Z a0 C.w rE (3 : Int32) rW kW (12 : Int64) T21.heap n0 O21.hsz (by decide +kernel) (by decide +kernel) O21.Ee O21.BwordsInUse O21.BsizeIsSticky O21.Bwords O21.Vw O21.St) O21.Ee (W := 0) (ow76 C.w) (ow77 C.w) (ow79 C.w) (ow78 C.w) (ow80 C.w) (ow27 C.w) (argsL := [(.int (3 : Int32))]) (lenOf pd__I_I rfl) d30_121 fun v23 T23 lo23 X23 hQ23 => ?_
   obtain ⟨rfl, Nq23, e23⟩ := hQ23
   rw [show (own_nsb (3 : Int32) (12 : Int64)) = (3 : Int32) from by decide +kernel]
   refine wi C X23 #[oR a30_0, oI 1, oI 2, oI 0, oI (-1), oI 3] d30_124 ?_
   refine si C X23 d30_126 ?_
   refine bN C X23 d30_128 ((if0 _ _).trans (flt (by decide : ¬ ((3 : Int32) < (0 : Int32)))).1) ?_
   refine sA C X23 d30_131 ?_
   refine si C X23 d30_132 ?_
   refine gA C X23 e23 O21.Ftimes (ow17 C.w) d30_134 d30_135 fun T25 X25 e25 => ?_
   refine si C X25 d30_138 ?_
   refine lA C X25 e25 O21.Vt d30_140 ?_
   refine gA C X25 e25 O21.Ffroms (ow19 C.w) d30_141 d30_142 fun T26 X26 e26 => ?_
   refine sI C X26 d30_145 ?_
   refine lA C X26 e26 O21.Vf d30_146 ?_
   refine tS C X26 d30_147 ?_
   refine cP C X26 e26 (rm23_8_3 l Z a0 C.w a30_0 (tm3 - fr0) rT kT tm0 tm1 tm2 tm3 tm4 tm5 tm6 tm7 rS oM oM oM (tm3 - fr2) oM oM oM oM T21.heap n0 O21.hsz O21.Ftimes O21.Vt O21.Fspans P21_0 O21.grS O21.n_a_rS) O21.Ea (W := 0) (ow126 C.w) (ow127 C.w) (own_selp (x := oy7) rfl (mvT (args := #[]) C.z (ow51 C.w)) (Cond.privateMethod_at (mvP C.z (ow128 C.w) (args := #[]))) (mvT C.z (ow127 C.w)) (by decide)) (ow128 C.w) (ow129 C.w) (ow9 C.w) (argsL := [(.int (3 : Int32)), (.long (tm3 - fr0))]) (lenOf pd__IJ_V rfl) d30_148 fun v27 T27 lo27 X27 hQ27 => ?_
   obtain ⟨rfl, Nq27, Kc27, Sc27, P27_0⟩ := hQ27
   have O27 := O21.sp Kc27 Sc27
   refine sI C X27 d30_151 ?_
   refine rZ C X27 rfl hret d30_152 ?_
   exact ⟨rfl, ((((N17.app Nq19).app Nq21).app Nq23).app Nq27), Or.inl ⟨hx3 ▸ hc4, O27, P27_0⟩⟩
 rw [hc5]
 refine wI C X2 #[oR a30_0, oI 1, oI 3, oU, oU, oU] d30_22 ?_
 refine gA C X2 e2 O.Fentries (ow46 C.w) d30_23 d30_24 fun T28 X28 e28 => ?_
 refine sI C X28 d30_27 ?_
 refine sC C X28 d30_28 ?_
 refine sS C X28 d30_29 ?_
 refine cV C X28 e28 (rm32_2 l Z a0 C.w rE (2 : Int32) rW kW (13 : Int64) h0 n0 O.hsz (by decide +kernel) (by decide +kernel) O.Ee O.BwordsInUse O.BsizeIsSticky O.Bwords O.Vw O.St) O.Ee (W := 0) (ow168 C.w) (ow169 C.w) (ow171 C.w) (ow170 C.w) (ow172 C.w) (ow27 C.w) (argsL := [(.int (2 : Int32))]) (lenOf pd__I_I rfl) d30_30 fun v29 T29 lo29 X29 hQ29 => ?_
 obtain ⟨rfl, Nq29, e29⟩ := hQ29
 rw [show (own_psb (2 : Int32) (13 : Int64)) = (2 : Int32) from by decide +kernel]
 refine wI C X29 #[oR a30_0, oI 1, oI 3, oI 2, oU, oU] d30_33 ?_
 refine gA C X29 e29 O.Fentries (ow46 C.w) d30_34 d30_35 fun T31 X31 e31 => ?_
 refine sI C X31 d30_38 ?_
 refine cV C X31 e31 (rm28_1 l Z a0 C.w rE (2 : Int32) rW kW (13 : Int64) h0 n0 O.hsz (by decide +kernel) (by decide +kernel) O.Ee O.BwordsInUse O.BsizeIsSticky O.Bwords O.Vw O.grW O.n_rE_rW O.grE O.St) O.Ee (W := 0) (ow148 C.w) (ow149 C.w) (ow151 C.w) (ow150 C.w) (ow152 C.w) (ow27 C.w) (argsL := [(.int (2 : Int32))]) (lenOf pd__I_V rfl) d30_39 fun v32 T32 lo32 X32 hQ32 => ?_
 obtain ⟨rfl, Nq32, Kc32, Sc32, P32_0, P32_1, P32_2, P32_3, P32_4⟩ := hQ32
 rw [show ((13 : Int64) &&& (((1 : Int64) <<< ((2 : Int32) &&& 0x3f).toInt64) ^^^ (-1 : Int64))) = (9 : Int64) from by decide +kernel] at P32_0
 rw [show (if ((13 : Int64) &&& (((1 : Int64) <<< ((2 : Int32) &&& 0x3f).toInt64) ^^^ (-1 : Int64))) = (0 : Int64) then (0 : Int32) else (1 : Int32)) = (1 : Int32) from by decide +kernel] at P32_2
 have O32 := O.bits2 Kc32 Sc32 P32_1 P32_2 P32_3 P32_4 P32_0
 refine sA C X32 d30_42 ?_
 refine sD C X32 d30_43 ?_
 refine gF C X32 rfl O32.Fsize (ow53 C.w) d30_44 fun T33 X33 e33 => ?_
 refine sC C X33 d30_47 ?_
 refine sS C X33 d30_48 ?_
 refine pF C X33 e33 (((N0.app Nq2).app Nq29).app Nq32) O32.ga O32.Fsize O32.Ea (ty := .int) (ow53 C.w) (ow54 C.w) (ow8 C.w) (by decide) d30_49 fun T34 h34 lo34 X34 e34 N34 W34 F34 => ?_
 have O34 := own_Obj.put_size hw O32 W34 F34
 refine sA C X34 d30_52 ?_
 refine sI C X34 d30_53 ?_
 refine kJ C X34 (ow98 C.w) d30_54 ?_
 have f35 := ((SP.keep Kc32 (ninS O34.n_rS_rW (ninS O34.n_rS_rE nin0))).other W34 (Ne.symm O34.n_a_rS))
 refine cP C X34 e34 (rm23_8_2 l Z a0 C.w a30_0 oM rT kT tm0 tm1 tm2 tm3 tm4 tm5 tm6 tm7 rS oM oM (tm2 - fr0) (tm3 - fr2) oM oM oM oM h34 n0 O34.hsz O34.Ftimes O34.Vt O34.Fspans f35 O34.grS O34.n_a_rS) O34.Ea (W := 0) (ow126 C.w) (ow127 C.w) (own_selp (x := oy7) rfl (mvT (args := #[]) C.z (ow51 C.w)) (Cond.privateMethod_at (mvP C.z (ow128 C.w) (args := #[]))) (mvT C.z (ow127 C.w)) (by decide)) (ow128 C.w) (ow129 C.w) (ow9 C.w) (argsL := [(.int (2 : Int32)), (.long oM)]) (lenOf pd__IJ_V rfl) d30_57 fun v36 T36 lo36 X36 hQ36 => ?_
 obtain ⟨rfl, Nq36, Kc36, Sc36, P36_0⟩ := hQ36
 have O36 := O34.sp Kc36 Sc36
 refine gA C X36 rfl O36.Ffroms (ow19 C.w) d30_60 d30_61 fun T37 X37 e37 => ?_
 refine sI C X37 d30_64 ?_
 refine gA C X37 e37 O36.Ffroms (ow19 C.w) d30_65 d30_66 fun T38 X38 e38 => ?_
 refine sI C X38 d30_69 ?_
 refine lA C X38 e38 O36.Vf d30_70 ?_
 refine sJ C X38 e38 (N34.app Nq36) O36.grF O36.Vf _ d30_71 fun T39 h39 lo39 X39 e39 N39 W39 V39 => ?_
 have O39 := O36.setF W39 V39
 refine gA C X39 e39 O39.Fentries (ow46 C.w) d30_72 d30_73 fun T40 X40 e40 => ?_
 refine sI C X40 d30_76 ?_
 refine sC C X40 d30_77 ?_
 refine sS C X40 d30_78 ?_
 refine cV C X40 e40 (rm32_2 l Z a0 C.w rE (1 : Int32) rW kW (9 : Int64) h39 n0 O39.hsz (by decide +kernel) (by decide +kernel) O39.Ee O39.BwordsInUse O39.BsizeIsSticky O39.Bwords O39.Vw O39.St) O39.Ee (W := 0) (ow168 C.w) (ow169 C.w) (ow171 C.w) (ow170 C.w) (ow172 C.w) (ow27 C.w) (argsL := [(.int (1 : Int32))]) (lenOf pd__I_I rfl) d30_79 fun v41 T41 lo41 X41 hQ41 => ?_
 obtain ⟨rfl, Nq41, e41⟩ := hQ41
 rw [show (own_psb (1 : Int32) (9 : Int64)) = (0 : Int32) from by decide +kernel]
 refine wi C X41 #[oR a30_0, oI 1, oI 3, oI 2, oI 0, oU] d30_82 ?_
 refine sA C X41 d30_84 ?_
 refine sI C X41 d30_85 ?_
 refine si C X41 d30_86 ?_
 refine bY C X41 d30_88 97 ((if0 _ _).trans (flt (by decide : ¬ ((0 : Int32) < (0 : Int32)))).2.1) ?_
 refine gA C X41 e41 O39.Ftimes (ow17 C.w) d30_97 d30_98 fun T43 X43 e43 => ?_
 refine sI C X43 d30_101 ?_
 refine lA C X43 e43 O39.Vt d30_102 ?_
 refine gA C X43 e43 O39.Ffroms (ow19 C.w) d30_103 d30_104 fun T44 X44 e44 => ?_
 refine si C X44 d30_107 ?_
 refine lA C X44 e44 O39.Vf d30_109 ?_
 refine tS C X44 d30_110 ?_
 have f45 := (P36_0.other W39 (Ne.symm O39.n_rF_rS))
 refine cP C X44 e44 (rm23_8_3 l Z a0 C.w a30_0 (tm3 - fr0) rT kT tm0 tm1 tm2 tm3 tm4 tm5 tm6 tm7 rS oM oM oM (tm3 - fr2) oM oM oM oM h39 n0 O39.hsz O39.Ftimes O39.Vt O39.Fspans f45 O39.grS O39.n_a_rS) O39.Ea (W := 0) (ow126 C.w) (ow127 C.w) (own_selp (x := oy7) rfl (mvT (args := #[]) C.z (ow51 C.w)) (Cond.privateMethod_at (mvP C.z (ow128 C.w) (args := #[]))) (mvT C.z (ow127 C.w)) (by decide)) (ow128 C.w) (ow129 C.w) (ow9 C.w) (argsL := [(.int (3 : Int32)), (.long (tm3 - fr0))]) (lenOf pd__IJ_V rfl) d30_111 fun v46 T46 lo46 X46 hQ46 => ?_
 obtain ⟨rfl, Nq46, Kc46, Sc46, P46_0⟩ := hQ46
 have O46 := O39.sp Kc46 Sc46
 refine gA C X46 rfl O46.Fentries (ow46 C.w) d30_114 d30_115 fun T47 X47 e47 => ?_
 refine sI C X47 d30_118 ?_
 refine sC C X47 d30_119 ?_
 refine sP C X47 d30_120 ?_
 refine cV C X47 e47 (rm12_2 l Z a0 C.w rE (4 : Int32) rW kW (9 : Int64) T46.heap n0 O46.hsz (by decide +kernel) (by decide +kernel) O46.Ee O46.BwordsInUse O46.BsizeIsSticky O46.Bwords O46.Vw O46.St) O46.Ee (W := 0) (ow76 C.w) (ow77 C.w) (ow79 C.w) (ow78 C.w) (ow80 C.w) (ow27 C.w) (argsL := [(.int (4 : Int32))]) (lenOf pd__I_I rfl) d30_121 fun v48 T48 lo48 X48 hQ48 => ?_
 obtain ⟨rfl, Nq48, e48⟩ := hQ48
 rw [show (own_nsb (4 : Int32) (9 : Int64)) = (-1 : Int32) from by decide +kernel]
 refine wi C X48 #[oR a30_0, oI 1, oI 3, oI 2, oI 0, oI (-1)] d30_124 ?_
 refine si C X48 d30_126 ?_
 refine bY C X48 d30_128 151 ((if0 _ _).trans (tlt (by decide : (-1 : Int32) < (0 : Int32))).1) ?_
 refine sI C X48 d30_151 ?_
 refine rZ C X48 e48 hret d30_152 ?_
 exact ⟨rfl, (((N39.app Nq41).app Nq46).app Nq48), Or.inr (⟨hx3 ▸ hc5, O46, P46_0⟩)⟩
theorem own_shl_8_12 (x3 : Int64) (h3 : x3 < oM) : (own_sh8 oM oM oM x3 oM oM oM oM) = (3 : Int32) := by
 unfold own_sh8
 rw [if_neg (own_nM (R := (own_m (own_m oM oM) (own_m oM oM))) (x := (own_m (own_m oM oM) (own_m oM x3))) (by decide +kernel))]
 rw [if_pos (own_ltM (R := (own_m oM x3)) (L := (own_m oM oM)) (by decide +kernel) (own_mr h3))]
 rw [if_pos (own_ltM (R := x3) (L := oM) (by decide +kernel) h3)]
 first | done | decide
def Q_rm30_8_12 (Z : State) (a30_0 : Addr) (rT : Addr) (rF : Addr) (rO : Addr) (rS : Addr) (rE : Addr) (rW : Addr) (kT : ClassId) (kF : ClassId) (kO : ClassId) (kW : ClassId) (fi : Int32) (en : Int32) (sz : Int32) (bs : Int64) (tm0 : Int64) (tm1 : Int64) (tm2 : Int64) (tm3 : Int64) (tm4 : Int64) (tm5 : Int64) (tm6 : Int64) (tm7 : Int64) (fr0 : Int64) (fr1 : Int64) (fr2 : Int64) (fr3 : Int64) (fr4 : Int64) (fr5 : Int64) (fr6 : Int64) (fr7 : Int64) (to0 : Int64) (to1 : Int64) (to2 : Int64) (to3 : Int64) (to4 : Int64) (to5 : Int64) (to6 : Int64) (to7 : Int64) (T : Int64) (h0 : Heap) (n0 : Nat) (v : Option Value) (h : Heap) (L : List Loc) : Prop := v = some (.int (1 : Int32)) ∧ Fr n0 L ∧ (((own_sh8 oM oM oM (tm3 - fr2) oM oM oM oM) = (3 : Int32) ∧ own_Obj Z h n0 a30_0 rT rF rO rS rE rW kT kF kO kW fi en (sz - (1 : Int32)) bs (1 : Int32) (1 : Int32) (8 : Int64) (8 : Int32) [(.long tm0), (.long tm1), (.long tm2), (.long tm3), (.long tm4), (.long tm5), (.long tm6), (.long tm7)] [(.long fr0), (.long fr1), (.long fr2), (.long fr2), (.long fr4), (.long fr5), (.long fr6), (.long fr7)] [(.long to0), (.long to1), (.long to2), (.long to3), (.long to4), (.long to5), (.long to6), (.long to7)] ∧ own_Sp8 Z h rS oM oM oM oM oM oM oM oM))
theorem rm30_8_12 (l : Launch) (Z : State) (a0 : Array Value) (hw : own_T Z a0) (a30_0 rT rF rO rS rE rW : Addr) (kT kF kO kW : ClassId) (fi en sz : Int32) (bs tm0 tm1 tm2 tm3 tm4 tm5 tm6 tm7 fr0 fr1 fr2 fr3 fr4 fr5 fr6 fr7 to0 to1 to2 to3 to4 to5 to6 to7 T : Int64) (h0 : Heap) (n0 : Nat) (Z0 : n0 ≤ h0.size) (O : own_Obj Z h0 n0 a30_0 rT rF rO rS rE rW kT kF kO kW fi en sz bs (1 : Int32) (1 : Int32) (12 : Int64) (8 : Int32) [(.long tm0), (.long tm1), (.long tm2), (.long tm3), (.long tm4), (.long tm5), (.long tm6), (.long tm7)] [(.long fr0), (.long fr1), (.long fr2), (.long fr3), (.long fr4), (.long fr5), (.long fr6), (.long fr7)] [(.long to0), (.long to1), (.long to2), (.long to3), (.long to4), (.long to5), (.long to6), (.long to7)]) (SP : own_Sp8 Z h0 rS oM oM oM (tm3 - fr2) oM oM oM oM) (htm2 : own_near T tm2) (htm3 : own_near T tm3) (hfr2 : own_near T fr2) (hfr3 : own_near T fr3) (hsz : (1 : Int32) < sz) :
   own_Met l oy30 oc30 6 (some .boolean) ({ frames := 5, cells := 0, slots := 0, locals := 120 } : Room) Z h0 #[(.ref a30_0)] (Q_rm30_8_12 Z a30_0 rT rF rO rS rE rW kT kF kO kW fi en sz bs tm0 tm1 tm2 tm3 tm4 tm5 tm6 tm7 fr0 fr1 fr2 fr3 fr4 fr5 fr6 fr7 to0 to1 to2 to3 to4 to5 to6 to7 T h0 n0) := by
 refine own_go hw (plainFor_of_name pn_30) (fun m => ef_rm30_8_7 m a30_0) fun p e s m below meth c T0 C hret X0 e0 => ?_
 have N0 := Fr.nil n0
 refine gA C X0 e0 O.Fsize (ow53 C.w) d30_0 d30_1 fun T1 X1 e1 => ?_
 refine sC C X1 d30_4 ?_
 refine cN C X1 d30_5 ((tlt hsz).2.2.2) ?_
 refine sC C X1 d30_8 ?_
 refine sG C X1 d30_9 13 ?_
 refine wI C X1 #[oR a30_0, oI 1, oU, oU, oU, oU] d30_13 ?_
 refine sI C X1 d30_14 ?_
 refine bN C X1 d30_15 ((if0 _ _).trans (feq (by decide : ¬ ((1 : Int32) = (0 : Int32)))).1) ?_
 refine sA C X1 d30_18 ?_
 refine cP C X1 e1 (rm31_8 l Z a0 C.w a30_0 rT kT tm0 tm1 tm2 tm3 tm4 tm5 tm6 tm7 rS oM oM oM (tm3 - fr2) oM oM oM oM h0 n0 O.hsz O.Ftimes O.Vt O.Fspans SP) O.Ea (W := 0) (ow164 C.w) (ow165 C.w) (own_selp (x := oy7) rfl (mvT (args := #[]) C.z (ow51 C.w)) (Cond.privateMethod_at (mvP C.z (ow166 C.w) (args := #[]))) (mvT C.z (ow165 C.w)) (by decide)) (ow166 C.w) (ow167 C.w) (ow9 C.w) (argsL := []) (lenOf pd___I rfl) d30_19 fun v2 T2 lo2 X2 hQ2 => ?_
 obtain ⟨rfl, Nq2, e2⟩ := hQ2
 obtain ⟨x3, hx3⟩ : ∃ z : Int32, z = (own_sh8 oM oM oM (tm3 - fr2) oM oM oM oM) := ⟨_, rfl⟩
 rw [← hx3]
 have hdx3 : x3 = (3 : Int32) := by rw [hx3]; exact (own_shl_8_12 (tm3 - fr2) (own_nlt htm3 hfr2))
 have hc4 := hdx3
 rw [hc4]
 refine wI C X2 #[oR a30_0, oI 1, oI 3, oU, oU, oU] d30_22 ?_
 refine gA C X2 e2 O.Fentries (ow46 C.w) d30_23 d30_24 fun T5 X5 e5 => ?_
 refine sI C X5 d30_27 ?_
 refine sC C X5 d30_28 ?_
 refine sS C X5 d30_29 ?_
 refine cV C X5 e5 (rm32_2 l Z a0 C.w rE (2 : Int32) rW kW (12 : Int64) h0 n0 O.hsz (by decide +kernel) (by decide +kernel) O.Ee O.BwordsInUse O.BsizeIsSticky O.Bwords O.Vw O.St) O.Ee (W := 0) (ow168 C.w) (ow169 C.w) (ow171 C.w) (ow170 C.w) (ow172 C.w) (ow27 C.w) (argsL := [(.int (2 : Int32))]) (lenOf pd__I_I rfl) d30_30 fun v6 T6 lo6 X6 hQ6 => ?_
 obtain ⟨rfl, Nq6, e6⟩ := hQ6
 rw [show (own_psb (2 : Int32) (12 : Int64)) = (2 : Int32) from by decide +kernel]
 refine wI C X6 #[oR a30_0, oI 1, oI 3, oI 2, oU, oU] d30_33 ?_
 refine gA C X6 e6 O.Fentries (ow46 C.w) d30_34 d30_35 fun T8 X8 e8 => ?_
 refine sI C X8 d30_38 ?_
 refine cV C X8 e8 (rm28_1 l Z a0 C.w rE (2 : Int32) rW kW (12 : Int64) h0 n0 O.hsz (by decide +kernel) (by decide +kernel) O.Ee O.BwordsInUse O.BsizeIsSticky O.Bwords O.Vw O.grW O.n_rE_rW O.grE O.St) O.Ee (W := 0) (ow148 C.w) (ow149 C.w) (ow151 C.w) (ow150 C.w) (ow152 C.w) (ow27 C.w) (argsL := [(.int (2 : Int32))]) (lenOf pd__I_V rfl) d30_39 fun v9 T9 lo9 X9 hQ9 => ?_
 obtain ⟨rfl, Nq9, Kc9, Sc9, P9_0, P9_1, P9_2, P9_3, P9_4⟩ := hQ9
 rw [show ((12 : Int64) &&& (((1 : Int64) <<< ((2 : Int32) &&& 0x3f).toInt64) ^^^ (-1 : Int64))) = (8 : Int64) from by decide +kernel] at P9_0
 rw [show (if ((12 : Int64) &&& (((1 : Int64) <<< ((2 : Int32) &&& 0x3f).toInt64) ^^^ (-1 : Int64))) = (0 : Int64) then (0 : Int32) else (1 : Int32)) = (1 : Int32) from by decide +kernel] at P9_2
 have O9 := O.bits2 Kc9 Sc9 P9_1 P9_2 P9_3 P9_4 P9_0
 refine sA C X9 d30_42 ?_
 refine sD C X9 d30_43 ?_
 refine gF C X9 rfl O9.Fsize (ow53 C.w) d30_44 fun T10 X10 e10 => ?_
 refine sC C X10 d30_47 ?_
 refine sS C X10 d30_48 ?_
 refine pF C X10 e10 (((N0.app Nq2).app Nq6).app Nq9) O9.ga O9.Fsize O9.Ea (ty := .int) (ow53 C.w) (ow54 C.w) (ow8 C.w) (by decide) d30_49 fun T11 h11 lo11 X11 e11 N11 W11 F11 => ?_
 have O11 := own_Obj.put_size hw O9 W11 F11
 refine sA C X11 d30_52 ?_
 refine sI C X11 d30_53 ?_
 refine kJ C X11 (ow98 C.w) d30_54 ?_
 have f12 := ((SP.keep Kc9 (ninS O11.n_rS_rW (ninS O11.n_rS_rE nin0))).other W11 (Ne.symm O11.n_a_rS))
 refine cP C X11 e11 (rm23_8_2 l Z a0 C.w a30_0 oM rT kT tm0 tm1 tm2 tm3 tm4 tm5 tm6 tm7 rS oM oM oM (tm3 - fr2) oM oM oM oM h11 n0 O11.hsz O11.Ftimes O11.Vt O11.Fspans f12 O11.grS O11.n_a_rS) O11.Ea (W := 0) (ow126 C.w) (ow127 C.w) (own_selp (x := oy7) rfl (mvT (args := #[]) C.z (ow51 C.w)) (Cond.privateMethod_at (mvP C.z (ow128 C.w) (args := #[]))) (mvT C.z (ow127 C.w)) (by decide)) (ow128 C.w) (ow129 C.w) (ow9 C.w) (argsL := [(.int (2 : Int32)), (.long oM)]) (lenOf pd__IJ_V rfl) d30_57 fun v13 T13 lo13 X13 hQ13 => ?_
 obtain ⟨rfl, Nq13, Kc13, Sc13, P13_0⟩ := hQ13
 have O13 := O11.sp Kc13 Sc13
 refine gA C X13 rfl O13.Ffroms (ow19 C.w) d30_60 d30_61 fun T14 X14 e14 => ?_
 refine sI C X14 d30_64 ?_
 refine gA C X14 e14 O13.Ffroms (ow19 C.w) d30_65 d30_66 fun T15 X15 e15 => ?_
 refine sI C X15 d30_69 ?_
 refine lA C X15 e15 O13.Vf d30_70 ?_
 refine sJ C X15 e15 (N11.app Nq13) O13.grF O13.Vf _ d30_71 fun T16 h16 lo16 X16 e16 N16 W16 V16 => ?_
 have O16 := O13.setF W16 V16
 refine gA C X16 e16 O16.Fentries (ow46 C.w) d30_72 d30_73 fun T17 X17 e17 => ?_
 refine sI C X17 d30_76 ?_
 refine sC C X17 d30_77 ?_
 refine sS C X17 d30_78 ?_
 refine cV C X17 e17 (rm32_2 l Z a0 C.w rE (1 : Int32) rW kW (8 : Int64) h16 n0 O16.hsz (by decide +kernel) (by decide +kernel) O16.Ee O16.BwordsInUse O16.BsizeIsSticky O16.Bwords O16.Vw O16.St) O16.Ee (W := 0) (ow168 C.w) (ow169 C.w) (ow171 C.w) (ow170 C.w) (ow172 C.w) (ow27 C.w) (argsL := [(.int (1 : Int32))]) (lenOf pd__I_I rfl) d30_79 fun v18 T18 lo18 X18 hQ18 => ?_
 obtain ⟨rfl, Nq18, e18⟩ := hQ18
 rw [show (own_psb (1 : Int32) (8 : Int64)) = (-1 : Int32) from by decide +kernel]
 refine wi C X18 #[oR a30_0, oI 1, oI 3, oI 2, oI (-1), oU] d30_82 ?_
 refine sA C X18 d30_84 ?_
 refine sI C X18 d30_85 ?_
 refine si C X18 d30_86 ?_
 refine bN C X18 d30_88 ((if0 _ _).trans (tlt (by decide : (-1 : Int32) < (0 : Int32))).2.1) ?_
 refine kJ C X18 (ow98 C.w) d30_91 ?_
 refine sG C X18 d30_94 111 ?_
 have f20 := (P13_0.other W16 (Ne.symm O16.n_rF_rS))
 refine cP C X18 e18 (rm23_8_3 l Z a0 C.w a30_0 oM rT kT tm0 tm1 tm2 tm3 tm4 tm5 tm6 tm7 rS oM oM oM (tm3 - fr2) oM oM oM oM h16 n0 O16.hsz O16.Ftimes O16.Vt O16.Fspans f20 O16.grS O16.n_a_rS) O16.Ea (W := 0) (ow126 C.w) (ow127 C.w) (own_selp (x := oy7) rfl (mvT (args := #[]) C.z (ow51 C.w)) (Cond.privateMethod_at (mvP C.z (ow128 C.w) (args := #[]))) (mvT C.z (ow127 C.w)) (by decide)) (ow128 C.w) (ow129 C.w) (ow9 C.w) (argsL := [(.int (3 : Int32)), (.long oM)]) (lenOf pd__IJ_V rfl) d30_111 fun v21 T21 lo21 X21 hQ21 => ?_
 obtain ⟨rfl, Nq21, Kc21, Sc21, P21_0⟩ := hQ21
 have O21 := O16.sp Kc21 Sc21
 refine gA C X21 rfl O21.Fentries (ow46 C.w) d30_114 d30_115 fun T22 X22 e22 => ?_
 refine sI C X22 d30_118 ?_
 refine sC C X22 d30_119 ?_
 refine sP C X22 d30_120 ?_
 refine cV C X22 e22 (rm12_2 l Z a0 C.w rE (4 : Int32) rW kW (8 : Int64) T21.heap n0 O21.hsz (by decide +kernel) (by decide +kernel) O21.Ee O21.BwordsInUse O21.BsizeIsSticky O21.Bwords O21.Vw O21.St) O21.Ee (W := 0) (ow76 C.w) (ow77 C.w) (ow79 C.w) (ow78 C.w) (ow80 C.w) (ow27 C.w) (argsL := [(.int (4 : Int32))]) (lenOf pd__I_I rfl) d30_121 fun v23 T23 lo23 X23 hQ23 => ?_
 obtain ⟨rfl, Nq23, e23⟩ := hQ23
 rw [show (own_nsb (4 : Int32) (8 : Int64)) = (-1 : Int32) from by decide +kernel]
 refine wi C X23 #[oR a30_0, oI 1, oI 3, oI 2, oI (-1), oI (-1)] d30_124 ?_
 refine si C X23 d30_126 ?_
 refine bY C X23 d30_128 151 ((if0 _ _).trans (tlt (by decide : (-1 : Int32) < (0 : Int32))).1) ?_
 refine sI C X23 d30_151 ?_
 refine rZ C X23 e23 hret d30_152 ?_
 exact ⟨rfl, (((N16.app Nq18).app Nq21).app Nq23), ⟨hx3 ▸ hc4, O21, P21_0⟩⟩
def own_sh4 (l_ws_0 : Int64) (l_ws_1 : Int64) (l_ws_2 : Int64) (l_ws_3 : Int64) : Int32 := (if (own_m l_ws_2 l_ws_3) < (own_m l_ws_0 l_ws_1) then (if l_ws_3 < l_ws_2 then (3 : Int32) else (2 : Int32)) else (if l_ws_1 < l_ws_0 then (1 : Int32) else (0 : Int32)))
def Q_rm31_4 (Z : State) (a31_0 wt : Addr) (kc_wt : ClassId) (t_wt_0 t_wt_1 t_wt_2 t_wt_3 : Int64) (ws : Addr) (l_ws_0 l_ws_1 l_ws_2 l_ws_3 : Int64) (h0 : Heap) (n0 : Nat) (v : Option Value) (h : Heap) (L : List Loc) : Prop := v = some (.int (own_sh4 l_ws_0 l_ws_1 l_ws_2 l_ws_3)) ∧ Fr n0 L ∧ h = h0
theorem rm31_4 (l : Launch) (Z : State) (a0 : Array Value) (hw : own_T Z a0) (a31_0 wt : Addr) (kc_wt : ClassId) (t_wt_0 t_wt_1 t_wt_2 t_wt_3 : Int64) (ws : Addr) (l_ws_0 l_ws_1 l_ws_2 l_ws_3 : Int64) (h0 : Heap) (n0 : Nat) (Z0 : n0 ≤ h0.size) (F_times : Fld Z h0 a31_0 oL "times" "[J" (.ref wt)) (V_wt : Arv Z h0 wt kc_wt .long (4 : Int32) [(.long t_wt_0), (.long t_wt_1), (.long t_wt_2), (.long t_wt_3)] oZ) (F_spans : Fld Z h0 a31_0 oL "spans" "[J" (.ref ws)) (T_ws : own_Sp4 Z h0 ws l_ws_0 l_ws_1 l_ws_2 l_ws_3) :
   own_Met l oy31 oc31 3 (some .int) ({ frames := 0, cells := 0, slots := 0, locals := 0 } : Room) Z h0 #[(.ref a31_0)] (Q_rm31_4 Z a31_0 wt kc_wt t_wt_0 t_wt_1 t_wt_2 t_wt_3 ws l_ws_0 l_ws_1 l_ws_2 l_ws_3 h0 n0) := by
 refine own_go hw (plainFor_of_name pn_31) (fun m => ef_rm31_8 m a31_0) fun p e s m below meth c T0 C hret X0 e0 => ?_
 have N0 := Fr.nil n0
 refine gA C X0 e0 F_times (ow17 C.w) d31_0 d31_1 fun T1 X1 e1 => ?_
 refine nA C X1 e1 V_wt d31_4 ?_
 refine wI C X1 #[oR a31_0, oI 4, oU] d31_5 ?_
 refine sC C X1 d31_6 ?_
 refine wI C X1 #[oR a31_0, oI 4, oI 1] d31_7 ?_
 refine sI C X1 d31_8 ?_
 refine sI C X1 d31_9 ?_
 refine cN C X1 d31_10 ((tlt (by decide : (1 : Int32) < (4 : Int32))).2.1) ?_
 refine gA C X1 e1 F_spans (ow23 C.w) d31_13 d31_14 fun T2 X2 e2 => ?_
 refine sC C X2 d31_17 ?_
 refine sI C X2 d31_18 ?_
 refine sM C X2 d31_19 ?_
 obtain ⟨kq3, VT3⟩ := id T_ws
 obtain ⟨m3_3, hm3_3⟩ : ∃ z : Int64, z = (own_m l_ws_2 l_ws_3) := ⟨_, rfl⟩
 rw [← hm3_3] at VT3
 obtain ⟨m3_2, hm3_2⟩ : ∃ z : Int64, z = (own_m l_ws_0 l_ws_1) := ⟨_, rfl⟩
 rw [← hm3_2] at VT3
 obtain ⟨m3_1, hm3_1⟩ : ∃ z : Int64, z = (own_m m3_2 m3_3) := ⟨_, rfl⟩
 rw [← hm3_1] at VT3
 refine lA C X2 e2 VT3 d31_20 ?_
 refine gA C X2 e2 F_spans (ow23 C.w) d31_21 d31_22 fun T4 X4 e4 => ?_
 refine sC C X4 d31_25 ?_
 refine sI C X4 d31_26 ?_
 refine sM C X4 d31_27 ?_
 refine sC C X4 d31_28 ?_
 refine sP C X4 d31_29 ?_
 refine lA C X4 e4 VT3 d31_30 ?_
 refine tC C X4 d31_31 ?_
 by_cases h32_5 : m3_3 < m3_2
 · refine bY C X4 d31_32 41 ((if0 _ _).trans (tlt ((lw_gt _ _).mpr h32_5)).2.2.1) ?_
   refine sC C X4 d31_41 ?_
   refine sI C X4 d31_42 ?_
   refine sM C X4 d31_43 ?_
   refine sC C X4 d31_44 ?_
   refine sP C X4 d31_45 ?_
   refine wI C X4 #[oR a31_0, oI 4, oI 3] d31_46 ?_
   refine sG C X4 d31_47 8 ?_
   refine sI C X4 d31_8 ?_
   refine sI C X4 d31_9 ?_
   refine cN C X4 d31_10 ((tlt (by decide : (3 : Int32) < (4 : Int32))).2.1) ?_
   refine gA C X4 e4 F_spans (ow23 C.w) d31_13 d31_14 fun T6 X6 e6 => ?_
   refine sC C X6 d31_17 ?_
   refine sI C X6 d31_18 ?_
   refine sM C X6 d31_19 ?_
   refine lA C X6 e6 VT3 d31_20 ?_
   refine gA C X6 e6 F_spans (ow23 C.w) d31_21 d31_22 fun T7 X7 e7 => ?_
   refine sC C X7 d31_25 ?_
   refine sI C X7 d31_26 ?_
   refine sM C X7 d31_27 ?_
   refine sC C X7 d31_28 ?_
   refine sP C X7 d31_29 ?_
   refine lA C X7 e7 VT3 d31_30 ?_
   refine tC C X7 d31_31 ?_
   by_cases h32_8 : l_ws_3 < l_ws_2
   · refine bY C X7 d31_32 41 ((if0 _ _).trans (tlt ((lw_gt _ _).mpr h32_8)).2.2.1) ?_
     refine sC C X7 d31_41 ?_
     refine sI C X7 d31_42 ?_
     refine sM C X7 d31_43 ?_
     refine sC C X7 d31_44 ?_
     refine sP C X7 d31_45 ?_
     refine wI C X7 #[oR a31_0, oI 4, oI 7] d31_46 ?_
     refine sG C X7 d31_47 8 ?_
     refine sI C X7 d31_8 ?_
     refine sI C X7 d31_9 ?_
     refine cY C X7 d31_10 50 ((flt (by decide : ¬ ((7 : Int32) < (4 : Int32)))).2.1) ?_
     refine sI C X7 d31_50 ?_
     refine sI C X7 d31_51 ?_
     refine sS C X7 d31_52 ?_
     refine rI C X7 e7 hret d31_53 ?_
     subst hm3_1
     subst hm3_2
     subst hm3_3
     exact ⟨(congrArg (fun z => some (Value.int z)) ((if_pos h32_5).trans (if_pos h32_8)).symm), N0, rfl⟩
   refine bN C X7 d31_32 ((if0 _ _).trans (flt (fun q => h32_8 ((lw_gt _ _).mp q))).2.2.1) ?_
   refine sC C X7 d31_35 ?_
   refine sI C X7 d31_36 ?_
   refine sM C X7 d31_37 ?_
   refine sG C X7 d31_38 46 ?_
   refine wI C X7 #[oR a31_0, oI 4, oI 6] d31_46 ?_
   refine sG C X7 d31_47 8 ?_
   refine sI C X7 d31_8 ?_
   refine sI C X7 d31_9 ?_
   refine cY C X7 d31_10 50 ((flt (by decide : ¬ ((6 : Int32) < (4 : Int32)))).2.1) ?_
   refine sI C X7 d31_50 ?_
   refine sI C X7 d31_51 ?_
   refine sS C X7 d31_52 ?_
   refine rI C X7 e7 hret d31_53 ?_
   subst hm3_1
   subst hm3_2
   subst hm3_3
   exact ⟨(congrArg (fun z => some (Value.int z)) ((if_pos h32_5).trans (if_neg h32_8)).symm), N0, rfl⟩
 refine bN C X4 d31_32 ((if0 _ _).trans (flt (fun q => h32_5 ((lw_gt _ _).mp q))).2.2.1) ?_
 refine sC C X4 d31_35 ?_
 refine sI C X4 d31_36 ?_
 refine sM C X4 d31_37 ?_
 refine sG C X4 d31_38 46 ?_
 refine wI C X4 #[oR a31_0, oI 4, oI 2] d31_46 ?_
 refine sG C X4 d31_47 8 ?_
 refine sI C X4 d31_8 ?_
 refine sI C X4 d31_9 ?_
 refine cN C X4 d31_10 ((tlt (by decide : (2 : Int32) < (4 : Int32))).2.1) ?_
 refine gA C X4 e4 F_spans (ow23 C.w) d31_13 d31_14 fun T9 X9 e9 => ?_
 refine sC C X9 d31_17 ?_
 refine sI C X9 d31_18 ?_
 refine sM C X9 d31_19 ?_
 refine lA C X9 e9 VT3 d31_20 ?_
 refine gA C X9 e9 F_spans (ow23 C.w) d31_21 d31_22 fun T10 X10 e10 => ?_
 refine sC C X10 d31_25 ?_
 refine sI C X10 d31_26 ?_
 refine sM C X10 d31_27 ?_
 refine sC C X10 d31_28 ?_
 refine sP C X10 d31_29 ?_
 refine lA C X10 e10 VT3 d31_30 ?_
 refine tC C X10 d31_31 ?_
 by_cases h32_11 : l_ws_1 < l_ws_0
 · refine bY C X10 d31_32 41 ((if0 _ _).trans (tlt ((lw_gt _ _).mpr h32_11)).2.2.1) ?_
   refine sC C X10 d31_41 ?_
   refine sI C X10 d31_42 ?_
   refine sM C X10 d31_43 ?_
   refine sC C X10 d31_44 ?_
   refine sP C X10 d31_45 ?_
   refine wI C X10 #[oR a31_0, oI 4, oI 5] d31_46 ?_
   refine sG C X10 d31_47 8 ?_
   refine sI C X10 d31_8 ?_
   refine sI C X10 d31_9 ?_
   refine cY C X10 d31_10 50 ((flt (by decide : ¬ ((5 : Int32) < (4 : Int32)))).2.1) ?_
   refine sI C X10 d31_50 ?_
   refine sI C X10 d31_51 ?_
   refine sS C X10 d31_52 ?_
   refine rI C X10 e10 hret d31_53 ?_
   subst hm3_1
   subst hm3_2
   subst hm3_3
   exact ⟨(congrArg (fun z => some (Value.int z)) ((if_neg h32_5).trans (if_pos h32_11)).symm), N0, rfl⟩
 refine bN C X10 d31_32 ((if0 _ _).trans (flt (fun q => h32_11 ((lw_gt _ _).mp q))).2.2.1) ?_
 refine sC C X10 d31_35 ?_
 refine sI C X10 d31_36 ?_
 refine sM C X10 d31_37 ?_
 refine sG C X10 d31_38 46 ?_
 refine wI C X10 #[oR a31_0, oI 4, oI 4] d31_46 ?_
 refine sG C X10 d31_47 8 ?_
 refine sI C X10 d31_8 ?_
 refine sI C X10 d31_9 ?_
 refine cY C X10 d31_10 50 ((flt (by decide : ¬ ((4 : Int32) < (4 : Int32)))).2.1) ?_
 refine sI C X10 d31_50 ?_
 refine sI C X10 d31_51 ?_
 refine sS C X10 d31_52 ?_
 refine rI C X10 e10 hret d31_53 ?_
 subst hm3_1
 subst hm3_2
 subst hm3_3
 exact ⟨(congrArg (fun z => some (Value.int z)) ((if_neg h32_5).trans (if_neg h32_11)).symm), N0, rfl⟩
theorem own_shl_4_3 (x1 : Int64) (h1 : x1 < oM) : (own_sh4 oM x1 oM oM) = (1 : Int32) := by
 unfold own_sh4
 rw [if_neg (own_nM (R := (own_m oM oM)) (x := (own_m oM x1)) (by decide +kernel))]
 rw [if_pos (own_ltM (R := x1) (L := oM) (by decide +kernel) h1)]
 first | done | decide
def Q_rm23_4_0 (Z : State) (a23_0 : Addr) (q23_2 : Int64) (wt : Addr) (kc_wt : ClassId) (t_wt_0 t_wt_1 t_wt_2 t_wt_3 : Int64) (ws : Addr) (l_ws_0 l_ws_1 l_ws_2 l_ws_3 : Int64) (h0 : Heap) (n0 : Nat) (v : Option Value) (h : Heap) (L : List Loc) : Prop := v = none ∧ Fr n0 L ∧ Keep h0 h [ws] ∧ own_StK Z h0 h ∧ own_Sp4 Z h ws q23_2 l_ws_1 l_ws_2 l_ws_3
theorem rm23_4_0 (l : Launch) (Z : State) (a0 : Array Value) (hw : own_T Z a0) (a23_0 : Addr) (q23_2 : Int64) (wt : Addr) (kc_wt : ClassId) (t_wt_0 t_wt_1 t_wt_2 t_wt_3 : Int64) (ws : Addr) (l_ws_0 l_ws_1 l_ws_2 l_ws_3 : Int64) (h0 : Heap) (n0 : Nat) (Z0 : n0 ≤ h0.size) (F_times : Fld Z h0 a23_0 oL "times" "[J" (.ref wt)) (V_wt : Arv Z h0 wt kc_wt .long (4 : Int32) [(.long t_wt_0), (.long t_wt_1), (.long t_wt_2), (.long t_wt_3)] oZ) (F_spans : Fld Z h0 a23_0 oL "spans" "[J" (.ref ws)) (T_ws : own_Sp4 Z h0 ws l_ws_0 l_ws_1 l_ws_2 l_ws_3) (g_ws : n0 ≤ ws) (ne_a23_0_ws : a23_0 ≠ ws) :
   own_Met l oy23 oc23 7 none ({ frames := 1, cells := 0, slots := 0, locals := 15 } : Room) Z h0 #[(.ref a23_0), (.int (0 : Int32)), (.long q23_2)] (Q_rm23_4_0 Z a23_0 q23_2 wt kc_wt t_wt_0 t_wt_1 t_wt_2 t_wt_3 ws l_ws_0 l_ws_1 l_ws_2 l_ws_3 h0 n0) := by
 refine own_go hw (plainFor_of_name pn_23) (fun m => ef_rm23_2_0 m a23_0 q23_2) fun p e s m below meth c T0 C hret X0 e0 => ?_
 have N0 := Fr.nil n0
 refine gA C X0 e0 F_times (ow17 C.w) d23_0 d23_1 fun T1 X1 e1 => ?_
 refine nA C X1 e1 V_wt d23_4 ?_
 refine sI C X1 d23_5 ?_
 refine sP C X1 d23_6 ?_
 refine wi C X1 #[oR a23_0, oI 0, oJ q23_2, oD, oI 4, oU, oU] d23_7 ?_
 refine gA C X1 e1 F_spans (ow23 C.w) d23_9 d23_10 fun T2 X2 e2 => ?_
 refine si C X2 d23_13 ?_
 refine sL C X2 d23_15 ?_
 obtain ⟨kq3, VT3⟩ := id T_ws
 obtain ⟨m3_3, hm3_3⟩ : ∃ z : Int64, z = (own_m l_ws_2 l_ws_3) := ⟨_, rfl⟩
 rw [← hm3_3] at VT3
 obtain ⟨m3_2, hm3_2⟩ : ∃ z : Int64, z = (own_m l_ws_0 l_ws_1) := ⟨_, rfl⟩
 rw [← hm3_2] at VT3
 obtain ⟨m3_1, hm3_1⟩ : ∃ z : Int64, z = (own_m m3_2 m3_3) := ⟨_, rfl⟩
 rw [← hm3_1] at VT3
 refine sJ C X2 e2 N0 g_ws VT3 _ d23_16 fun T4 h4 lo4 X4 e4 N4 W4 V4 => ?_
 have S4 : own_StK Z h0 h4 := (own_StK.refl Z h0).wr W4
 have K4 : Keep h0 h4 [ws] := (Keep.refl h0 [ws]).wr W4 (Or.inl (List.mem_of_getElem? (i := 0) rfl))
 have Z4 : n0 ≤ h4.size := Nat.le_trans Z0 K4.1
 refine si C X4 d23_17 ?_
 refine sC C X4 d23_19 ?_
 refine own_Fin.st (g' := (mkF m 21 #[oR a23_0, oI 0, oJ q23_2, oD, oI 4, oU, oU] [(.int (2 : Int32))])) ?_ (fun t k => XS.idiv X4.here C.1 rfl (C.d d23_20) rfl (by decide : ¬ ((2 : Int32) = (0 : Int32))) k)
 refine wi C X4 #[oR a23_0, oI 0, oJ q23_2, oD, oI 2, oU, oU] d23_21 ?_
 refine si C X4 d23_23 ?_
 refine bN C X4 d23_25 ((if0 _ _).trans (tlt (by decide : (0 : Int32) < (2 : Int32))).2.2.2) ?_
 have f5 := (F_spans.other W4 (Or.inl ne_a23_0_ws))
 refine gA C X4 e4 f5 (ow23 C.w) d23_28 d23_29 fun T6 X6 e6 => ?_
 refine sC C X6 d23_32 ?_
 refine si C X6 d23_33 ?_
 refine sM C X6 d23_35 ?_
 refine lA C X6 e6 V4 d23_36 ?_
 refine gA C X6 e6 f5 (ow23 C.w) d23_37 d23_38 fun T7 X7 e7 => ?_
 refine sC C X7 d23_41 ?_
 refine si C X7 d23_42 ?_
 refine sM C X7 d23_44 ?_
 refine sC C X7 d23_45 ?_
 refine sP C X7 d23_46 ?_
 refine lA C X7 e7 V4 d23_47 ?_
 refine cS C X7 e7 (fun ws => rm19 l Z a0 C.w ws q23_2 l_ws_1 h4 n0 Z4 ) (W := 0) (ow106 C.w) (ow107 C.w) (ow108 C.w) (ow68 C.w) (argsL := [(.long q23_2), (.long l_ws_1)]) (lenOf pd__JJ_J rfl) d23_48 fun v8 T8 lo8 X8 hQ8 => ?_
 obtain ⟨rfl, Nq8, e8⟩ := hQ8
 obtain ⟨x9, hx9⟩ : ∃ z : Int64, z = (own_m q23_2 l_ws_1) := ⟨_, rfl⟩
 rw [← hx9]
 refine wl C X8 #[oR a23_0, oI 0, oJ q23_2, oD, oI 2, oJ x9, oD] d23_51 ?_
 refine gA C X8 e8 f5 (ow23 C.w) d23_53 d23_54 fun T10 X10 e10 => ?_
 refine si C X10 d23_57 ?_
 refine lA C X10 e10 V4 d23_59 ?_
 refine sl C X10 d23_60 ?_
 refine tC C X10 d23_62 ?_
 by_cases h63_11 : m3_2 = x9
 · refine bN C X10 d23_63 ((if0 _ _).trans (teq ((lw_eq _ _).mpr h63_11)).2) ?_
   refine sG C X10 d23_66 87 ?_
   refine rV C X10 e10 hret d23_87 ?_
   subst hx9
   subst hm3_1
   subst hm3_2
   subst hm3_3
   exact ⟨rfl, (N4.app Nq8), K4, S4, ⟨_, own_arv V4 (own_cons rfl (own_cons (congrArg Value.long (by rw [h63_11])) (own_cons (congrArg Value.long h63_11.symm) (own_cons rfl (own_cons rfl (own_cons rfl (own_cons rfl (own_cons rfl rfl))))))))⟩⟩
 refine bY C X10 d23_63 69 ((if0 _ _).trans (feq (fun q => h63_11 ((lw_eq _ _).mp q))).2) ?_
 refine gA C X10 e10 f5 (ow23 C.w) d23_69 d23_70 fun T12 X12 e12 => ?_
 refine si C X12 d23_73 ?_
 refine sl C X12 d23_75 ?_
 refine sJ C X12 e12 (N4.app Nq8) g_ws V4 _ d23_77 fun T13 h13 lo13 X13 e13 N13 W13 V13 => ?_
 have S13 : own_StK Z h0 h13 := S4.wr W13
 have K13 : Keep h0 h13 [ws] := K4.wr W13 (Or.inl (List.mem_of_getElem? (i := 0) rfl))
 have Z13 : n0 ≤ h13.size := Nat.le_trans Z0 K13.1
 refine si C X13 d23_78 ?_
 refine sC C X13 d23_80 ?_
 refine own_Fin.st (g' := (mkF m 82 #[oR a23_0, oI 0, oJ q23_2, oD, oI 2, oJ x9, oD] [(.int (1 : Int32))])) ?_ (fun t k => XS.idiv X13.here C.1 rfl (C.d d23_81) rfl (by decide : ¬ ((2 : Int32) = (0 : Int32))) k)
 refine wi C X13 #[oR a23_0, oI 0, oJ q23_2, oD, oI 1, oJ x9, oD] d23_82 ?_
 refine sG C X13 d23_84 23 ?_
 refine si C X13 d23_23 ?_
 refine bN C X13 d23_25 ((if0 _ _).trans (tlt (by decide : (0 : Int32) < (1 : Int32))).2.2.2) ?_
 have f14 := (f5.other W13 (Or.inl ne_a23_0_ws))
 refine gA C X13 e13 f14 (ow23 C.w) d23_28 d23_29 fun T15 X15 e15 => ?_
 refine sC C X15 d23_32 ?_
 refine si C X15 d23_33 ?_
 refine sM C X15 d23_35 ?_
 refine lA C X15 e15 V13 d23_36 ?_
 refine gA C X15 e15 f14 (ow23 C.w) d23_37 d23_38 fun T16 X16 e16 => ?_
 refine sC C X16 d23_41 ?_
 refine si C X16 d23_42 ?_
 refine sM C X16 d23_44 ?_
 refine sC C X16 d23_45 ?_
 refine sP C X16 d23_46 ?_
 refine lA C X16 e16 V13 d23_47 ?_
 refine cS C X16 e16 (fun ws => rm19 l Z a0 C.w ws x9 m3_3 h13 n0 Z13 ) (W := 0) (ow106 C.w) (ow107 C.w) (ow108 C.w) (ow68 C.w) (argsL := [(.long x9), (.long m3_3)]) (lenOf pd__JJ_J rfl) d23_48 fun v17 T17 lo17 X17 hQ17 => ?_
 obtain ⟨rfl, Nq17, e17⟩ := hQ17
 obtain ⟨x18, hx18⟩ : ∃ z : Int64, z = (own_m x9 m3_3) := ⟨_, rfl⟩
 rw [← hx18]
 refine wl C X17 #[oR a23_0, oI 0, oJ q23_2, oD, oI 1, oJ x18, oD] d23_51 ?_
 refine gA C X17 e17 f14 (ow23 C.w) d23_53 d23_54 fun T19 X19 e19 => ?_
 refine si C X19 d23_57 ?_
 refine lA C X19 e19 V13 d23_59 ?_
 refine sl C X19 d23_60 ?_
 refine tC C X19 d23_62 ?_
 by_cases h63_20 : m3_1 = x18
 · refine bN C X19 d23_63 ((if0 _ _).trans (teq ((lw_eq _ _).mpr h63_20)).2) ?_
   refine sG C X19 d23_66 87 ?_
   refine rV C X19 e19 hret d23_87 ?_
   subst hx18
   subst hx9
   subst hm3_1
   subst hm3_2
   subst hm3_3
   exact ⟨rfl, (N13.app Nq17), K13, S13, ⟨_, own_arv V13 (own_cons rfl (own_cons (congrArg Value.long h63_20.symm) (own_cons rfl (own_cons rfl (own_cons rfl (own_cons rfl (own_cons rfl (own_cons rfl rfl))))))))⟩⟩
 refine bY C X19 d23_63 69 ((if0 _ _).trans (feq (fun q => h63_20 ((lw_eq _ _).mp q))).2) ?_
 refine gA C X19 e19 f14 (ow23 C.w) d23_69 d23_70 fun T21 X21 e21 => ?_
 refine si C X21 d23_73 ?_
 refine sl C X21 d23_75 ?_
 refine sJ C X21 e21 (N13.app Nq17) g_ws V13 _ d23_77 fun T22 h22 lo22 X22 e22 N22 W22 V22 => ?_
 have S22 : own_StK Z h0 h22 := S13.wr W22
 have K22 : Keep h0 h22 [ws] := K13.wr W22 (Or.inl (List.mem_of_getElem? (i := 0) rfl))
 have Z22 : n0 ≤ h22.size := Nat.le_trans Z0 K22.1
 refine si C X22 d23_78 ?_
 refine sC C X22 d23_80 ?_
 refine own_Fin.st (g' := (mkF m 82 #[oR a23_0, oI 0, oJ q23_2, oD, oI 1, oJ x18, oD] [(.int (0 : Int32))])) ?_ (fun t k => XS.idiv X22.here C.1 rfl (C.d d23_81) rfl (by decide : ¬ ((2 : Int32) = (0 : Int32))) k)
 refine wi C X22 #[oR a23_0, oI 0, oJ q23_2, oD, oI 0, oJ x18, oD] d23_82 ?_
 refine sG C X22 d23_84 23 ?_
 refine si C X22 d23_23 ?_
 refine bY C X22 d23_25 87 ((if0 _ _).trans (flt (by decide : ¬ ((0 : Int32) < (0 : Int32)))).2.2.2) ?_
 refine rV C X22 e22 hret d23_87 ?_
 subst hx18
 subst hx9
 subst hm3_1
 subst hm3_2
 subst hm3_3
 exact ⟨rfl, N22, K22, S22, ⟨_, own_arv V22 (own_cons rfl (own_cons rfl (own_cons rfl (own_cons rfl (own_cons rfl (own_cons rfl (own_cons rfl (own_cons rfl rfl))))))))⟩⟩
def Q_rm30_4_3 (Z : State) (a30_0 : Addr) (rT : Addr) (rF : Addr) (rO : Addr) (rS : Addr) (rE : Addr) (rW : Addr) (kT : ClassId) (kF : ClassId) (kO : ClassId) (kW : ClassId) (fi : Int32) (en : Int32) (sz : Int32) (bs : Int64) (tm0 : Int64) (tm1 : Int64) (tm2 : Int64) (tm3 : Int64) (fr0 : Int64) (fr1 : Int64) (fr2 : Int64) (fr3 : Int64) (to0 : Int64) (to1 : Int64) (to2 : Int64) (to3 : Int64) (T : Int64) (h0 : Heap) (n0 : Nat) (v : Option Value) (h : Heap) (L : List Loc) : Prop := v = some (.int (1 : Int32)) ∧ Fr n0 L ∧ (((own_sh4 oM (tm1 - fr0) oM oM) = (1 : Int32) ∧ own_Obj Z h n0 a30_0 rT rF rO rS rE rW kT kF kO kW fi en (sz - (1 : Int32)) bs (1 : Int32) (1 : Int32) (2 : Int64) (4 : Int32) [(.long tm0), (.long tm1), (.long tm2), (.long tm3)] [(.long fr0), (.long fr0), (.long fr2), (.long fr3)] [(.long to0), (.long to1), (.long to2), (.long to3)] ∧ own_Sp4 Z h rS oM oM oM oM))
theorem rm30_4_3 (l : Launch) (Z : State) (a0 : Array Value) (hw : own_T Z a0) (a30_0 rT rF rO rS rE rW : Addr) (kT kF kO kW : ClassId) (fi en sz : Int32) (bs tm0 tm1 tm2 tm3 fr0 fr1 fr2 fr3 to0 to1 to2 to3 T : Int64) (h0 : Heap) (n0 : Nat) (Z0 : n0 ≤ h0.size) (O : own_Obj Z h0 n0 a30_0 rT rF rO rS rE rW kT kF kO kW fi en sz bs (1 : Int32) (1 : Int32) (3 : Int64) (4 : Int32) [(.long tm0), (.long tm1), (.long tm2), (.long tm3)] [(.long fr0), (.long fr1), (.long fr2), (.long fr3)] [(.long to0), (.long to1), (.long to2), (.long to3)]) (SP : own_Sp4 Z h0 rS oM (tm1 - fr0) oM oM) (htm0 : own_near T tm0) (htm1 : own_near T tm1) (hfr0 : own_near T fr0) (hfr1 : own_near T fr1) (hsz : (1 : Int32) < sz) :
   own_Met l oy30 oc30 6 (some .boolean) ({ frames := 5, cells := 0, slots := 0, locals := 120 } : Room) Z h0 #[(.ref a30_0)] (Q_rm30_4_3 Z a30_0 rT rF rO rS rE rW kT kF kO kW fi en sz bs tm0 tm1 tm2 tm3 fr0 fr1 fr2 fr3 to0 to1 to2 to3 T h0 n0) := by
 refine own_go hw (plainFor_of_name pn_30) (fun m => ef_rm30_8_7 m a30_0) fun p e s m below meth c T0 C hret X0 e0 => ?_
 have N0 := Fr.nil n0
 refine gA C X0 e0 O.Fsize (ow53 C.w) d30_0 d30_1 fun T1 X1 e1 => ?_
 refine sC C X1 d30_4 ?_
 refine cN C X1 d30_5 ((tlt hsz).2.2.2) ?_
 refine sC C X1 d30_8 ?_
 refine sG C X1 d30_9 13 ?_
 refine wI C X1 #[oR a30_0, oI 1, oU, oU, oU, oU] d30_13 ?_
 refine sI C X1 d30_14 ?_
 refine bN C X1 d30_15 ((if0 _ _).trans (feq (by decide : ¬ ((1 : Int32) = (0 : Int32)))).1) ?_
 refine sA C X1 d30_18 ?_
 refine cP C X1 e1 (rm31_4 l Z a0 C.w a30_0 rT kT tm0 tm1 tm2 tm3 rS oM (tm1 - fr0) oM oM h0 n0 O.hsz O.Ftimes O.Vt O.Fspans SP) O.Ea (W := 0) (ow164 C.w) (ow165 C.w) (own_selp (x := oy7) rfl (mvT (args := #[]) C.z (ow51 C.w)) (Cond.privateMethod_at (mvP C.z (ow166 C.w) (args := #[]))) (mvT C.z (ow165 C.w)) (by decide)) (ow166 C.w) (ow167 C.w) (ow9 C.w) (argsL := []) (lenOf pd___I rfl) d30_19 fun v2 T2 lo2 X2 hQ2 => ?_
 obtain ⟨rfl, Nq2, e2⟩ := hQ2
 obtain ⟨x3, hx3⟩ : ∃ z : Int32, z = (own_sh4 oM (tm1 - fr0) oM oM) := ⟨_, rfl⟩
 rw [← hx3]
 have hdx3 : x3 = (1 : Int32) := by rw [hx3]; exact (own_shl_4_3 (tm1 - fr0) (own_nlt htm1 hfr0))
 have hc4 := hdx3
 rw [hc4]
 refine wI C X2 #[oR a30_0, oI 1, oI 1, oU, oU, oU] d30_22 ?_
 refine gA C X2 e2 O.Fentries (ow46 C.w) d30_23 d30_24 fun T5 X5 e5 => ?_
 refine sI C X5 d30_27 ?_
 refine sC C X5 d30_28 ?_
 refine sS C X5 d30_29 ?_
 refine cV C X5 e5 (rm32_2 l Z a0 C.w rE (0 : Int32) rW kW (3 : Int64) h0 n0 O.hsz (by decide +kernel) (by decide +kernel) O.Ee O.BwordsInUse O.BsizeIsSticky O.Bwords O.Vw O.St) O.Ee (W := 0) (ow168 C.w) (ow169 C.w) (ow171 C.w) (ow170 C.w) (ow172 C.w) (ow27 C.w) (argsL := [(.int (0 : Int32))]) (lenOf pd__I_I rfl) d30_30 fun v6 T6 lo6 X6 hQ6 => ?_
 obtain ⟨rfl, Nq6, e6⟩ := hQ6
 rw [show (own_psb (0 : Int32) (3 : Int64)) = (0 : Int32) from by decide +kernel]
 refine wI C X6 #[oR a30_0, oI 1, oI 1, oI 0, oU, oU] d30_33 ?_
 refine gA C X6 e6 O.Fentries (ow46 C.w) d30_34 d30_35 fun T8 X8 e8 => ?_
 refine sI C X8 d30_38 ?_
 refine cV C X8 e8 (rm28_1 l Z a0 C.w rE (0 : Int32) rW kW (3 : Int64) h0 n0 O.hsz (by decide +kernel) (by decide +kernel) O.Ee O.BwordsInUse O.BsizeIsSticky O.Bwords O.Vw O.grW O.n_rE_rW O.grE O.St) O.Ee (W := 0) (ow148 C.w) (ow149 C.w) (ow151 C.w) (ow150 C.w) (ow152 C.w) (ow27 C.w) (argsL := [(.int (0 : Int32))]) (lenOf pd__I_V rfl) d30_39 fun v9 T9 lo9 X9 hQ9 => ?_
 obtain ⟨rfl, Nq9, Kc9, Sc9, P9_0, P9_1, P9_2, P9_3, P9_4⟩ := hQ9
 rw [show ((3 : Int64) &&& (((1 : Int64) <<< ((0 : Int32) &&& 0x3f).toInt64) ^^^ (-1 : Int64))) = (2 : Int64) from by decide +kernel] at P9_0
 rw [show (if ((3 : Int64) &&& (((1 : Int64) <<< ((0 : Int32) &&& 0x3f).toInt64) ^^^ (-1 : Int64))) = (0 : Int64) then (0 : Int32) else (1 : Int32)) = (1 : Int32) from by decide +kernel] at P9_2
 have O9 := O.bits2 Kc9 Sc9 P9_1 P9_2 P9_3 P9_4 P9_0
 refine sA C X9 d30_42 ?_
 refine sD C X9 d30_43 ?_
 refine gF C X9 rfl O9.Fsize (ow53 C.w) d30_44 fun T10 X10 e10 => ?_
 refine sC C X10 d30_47 ?_
 refine sS C X10 d30_48 ?_
 refine pF C X10 e10 (((N0.app Nq2).app Nq6).app Nq9) O9.ga O9.Fsize O9.Ea (ty := .int) (ow53 C.w) (ow54 C.w) (ow8 C.w) (by decide) d30_49 fun T11 h11 lo11 X11 e11 N11 W11 F11 => ?_
 have O11 := own_Obj.put_size hw O9 W11 F11
 refine sA C X11 d30_52 ?_
 refine sI C X11 d30_53 ?_
 refine kJ C X11 (ow98 C.w) d30_54 ?_
 have f12 := ((SP.keep Kc9 (ninS O11.n_rS_rW (ninS O11.n_rS_rE nin0))).other W11 (Ne.symm O11.n_a_rS))
 refine cP C X11 e11 (rm23_4_0 l Z a0 C.w a30_0 oM rT kT tm0 tm1 tm2 tm3 rS oM (tm1 - fr0) oM oM h11 n0 O11.hsz O11.Ftimes O11.Vt O11.Fspans f12 O11.grS O11.n_a_rS) O11.Ea (W := 0) (ow126 C.w) (ow127 C.w) (own_selp (x := oy7) rfl (mvT (args := #[]) C.z (ow51 C.w)) (Cond.privateMethod_at (mvP C.z (ow128 C.w) (args := #[]))) (mvT C.z (ow127 C.w)) (by decide)) (ow128 C.w) (ow129 C.w) (ow9 C.w) (argsL := [(.int (0 : Int32)), (.long oM)]) (lenOf pd__IJ_V rfl) d30_57 fun v13 T13 lo13 X13 hQ13 => ?_
 obtain ⟨rfl, Nq13, Kc13, Sc13, P13_0⟩ := hQ13
 have O13 := O11.sp Kc13 Sc13
 refine gA C X13 rfl O13.Ffroms (ow19 C.w) d30_60 d30_61 fun T14 X14 e14 => ?_
 refine sI C X14 d30_64 ?_
 refine gA C X14 e14 O13.Ffroms (ow19 C.w) d30_65 d30_66 fun T15 X15 e15 => ?_
 refine sI C X15 d30_69 ?_
 refine lA C X15 e15 O13.Vf d30_70 ?_
 refine sJ C X15 e15 (N11.app Nq13) O13.grF O13.Vf _ d30_71 fun T16 h16 lo16 X16 e16 N16 W16 V16 => ?_
 have O16 := O13.setF W16 V16
 refine gA C X16 e16 O16.Fentries (ow46 C.w) d30_72 d30_73 fun T17 X17 e17 => ?_
 refine sI C X17 d30_76 ?_
 refine sC C X17 d30_77 ?_
 refine sS C X17 d30_78 ?_
 refine cV C X17 e17 (rm32_1 l Z a0 C.w rE rW kW (2 : Int64) h16 n0 O16.hsz O16.Ee O16.BwordsInUse O16.BsizeIsSticky O16.Bwords O16.Vw) O16.Ee (W := 0) (ow168 C.w) (ow169 C.w) (ow171 C.w) (ow170 C.w) (ow172 C.w) (ow27 C.w) (argsL := [(.int (-1 : Int32))]) (lenOf pd__I_I rfl) d30_79 fun v18 T18 lo18 X18 hQ18 => ?_
 obtain ⟨rfl, Nq18, e18⟩ := hQ18
 refine wi C X18 #[oR a30_0, oI 1, oI 1, oI 0, oI (-1), oU] d30_82 ?_
 refine sA C X18 d30_84 ?_
 refine sI C X18 d30_85 ?_
 refine si C X18 d30_86 ?_
 refine bN C X18 d30_88 ((if0 _ _).trans (tlt (by decide : (-1 : Int32) < (0 : Int32))).2.1) ?_
 refine kJ C X18 (ow98 C.w) d30_91 ?_
 refine sG C X18 d30_94 111 ?_
 have f19 := (P13_0.other W16 (Ne.symm O16.n_rF_rS))
 refine cP C X18 e18 (rm23_4_1 l Z a0 C.w a30_0 oM rT kT tm0 tm1 tm2 tm3 rS oM (tm1 - fr0) oM oM h16 n0 O16.hsz O16.Ftimes O16.Vt O16.Fspans f19 O16.grS O16.n_a_rS) O16.Ea (W := 0) (ow126 C.w) (ow127 C.w) (own_selp (x := oy7) rfl (mvT (args := #[]) C.z (ow51 C.w)) (Cond.privateMethod_at (mvP C.z (ow128 C.w) (args := #[]))) (mvT C.z (ow127 C.w)) (by decide)) (ow128 C.w) (ow129 C.w) (ow9 C.w) (argsL := [(.int (1 : Int32)), (.long oM)]) (lenOf pd__IJ_V rfl) d30_111 fun v20 T20 lo20 X20 hQ20 => ?_
 obtain ⟨rfl, Nq20, Kc20, Sc20, P20_0⟩ := hQ20
 have O20 := O16.sp Kc20 Sc20
 refine gA C X20 rfl O20.Fentries (ow46 C.w) d30_114 d30_115 fun T21 X21 e21 => ?_
 refine sI C X21 d30_118 ?_
 refine sC C X21 d30_119 ?_
 refine sP C X21 d30_120 ?_
 refine cV C X21 e21 (rm12_2 l Z a0 C.w rE (2 : Int32) rW kW (2 : Int64) T20.heap n0 O20.hsz (by decide +kernel) (by decide +kernel) O20.Ee O20.BwordsInUse O20.BsizeIsSticky O20.Bwords O20.Vw O20.St) O20.Ee (W := 0) (ow76 C.w) (ow77 C.w) (ow79 C.w) (ow78 C.w) (ow80 C.w) (ow27 C.w) (argsL := [(.int (2 : Int32))]) (lenOf pd__I_I rfl) d30_121 fun v22 T22 lo22 X22 hQ22 => ?_
 obtain ⟨rfl, Nq22, e22⟩ := hQ22
 rw [show (own_nsb (2 : Int32) (2 : Int64)) = (-1 : Int32) from by decide +kernel]
 refine wi C X22 #[oR a30_0, oI 1, oI 1, oI 0, oI (-1), oI (-1)] d30_124 ?_
 refine si C X22 d30_126 ?_
 refine bY C X22 d30_128 151 ((if0 _ _).trans (tlt (by decide : (-1 : Int32) < (0 : Int32))).1) ?_
 refine sI C X22 d30_151 ?_
 refine rZ C X22 e22 hret d30_152 ?_
 exact ⟨rfl, (((N16.app Nq18).app Nq20).app Nq22), ⟨hx3 ▸ hc4, O20, P20_0⟩⟩
theorem own_shrk (l : Launch) (Z : State) (a0 : Array Value) (hw : own_T Z a0) (a : Addr) (T t : Int64) (h0 : Heap) (n0 : Nat) (Z0 : n0 ≤ h0.size) (I : own_L4 Z h0 n0 a T t) : own_Met l oy30 oc30 6 (some .boolean) ({ frames := 5, cells := 0, slots := 0, locals := 120 } : Room) Z h0 #[(.ref a)] (fun v h L => (∃ z, v = some (.int z)) ∧ Fr n0 L ∧ own_W Z h a t) := by
 rcases I with ⟨rT, rF, rO, rS, rE, rW, kT, kF, kO, kW, bs, tm1, fr0, fr1, to0, to1, O, SP, htm0, hfr0⟩ | ⟨rT, rF, rO, rS, rE, rW, kT, kF, kO, kW, bs, tm0, fr0, fr1, to0, to1, O, SP, htm0, htm1, hfr0, hfr1⟩ | ⟨rT, rF, rO, rS, rE, rW, kT, kF, kO, kW, bs, tm0, tm1, tm3, tm4, tm5, tm6, tm7, fr0, fr1, fr2, fr3, fr4, fr5, fr6, fr7, to0, to1, to2, to3, to4, to5, to6, to7, O, SP, htm0, htm1, htm2, hfr0, hfr1, hfr2⟩ | ⟨rT, rF, rO, rS, rE, rW, kT, kF, kO, kW, bs, tm0, tm1, tm3, tm4, tm5, tm6, tm7, fr0, fr1, fr2, fr3, fr4, fr5, fr6, fr7, to0, to1, to2, to3, to4, to5, to6, to7, O, SP, htm1, htm2, hfr1, hfr2⟩ | ⟨rT, rF, rO, rS, rE, rW, kT, kF, kO, kW, fi, bs, tm0, tm1, tm3, tm4, tm5, tm6, tm7, fr0, fr1, fr2, fr3, fr4, fr5, fr6, fr7, to0, to1, to2, to3, to4, to5, to6, to7, O, SP, htm0, htm1, htm2, hfr0, hfr1, hfr2⟩ | ⟨rT, rF, rO, rS, rE, rW, kT, kF, kO, kW, fi, bs, tm0, tm1, tm2, tm4, tm5, tm6, tm7, fr0, fr1, fr2, fr3, fr4, fr5, fr6, fr7, to0, to1, to2, to3, to4, to5, to6, to7, O, SP, htm0, htm1, htm2, htm3, hfr0, hfr1, hfr2, hfr3⟩ | ⟨rT, rF, rO, rS, rE, rW, kT, kF, kO, kW, fi, bs, tm0, tm1, tm2, tm4, tm5, tm6, tm7, fr0, fr1, fr2, fr3, fr4, fr5, fr6, fr7, to0, to1, to2, to3, to4, to5, to6, to7, O, SP, htm1, htm2, htm3, hfr1, hfr2, hfr3⟩ | ⟨rT, rF, rO, rS, rE, rW, kT, kF, kO, kW, fi, bs, tm0, tm1, tm2, tm4, tm5, tm6, tm7, fr0, fr1, fr2, fr3, fr4, fr5, fr6, fr7, to0, to1, to2, to3, to4, to5, to6, to7, O, SP, htm0, htm2, htm3, hfr0, hfr2, hfr3⟩ | ⟨rT, rF, rO, rS, rE, rW, kT, kF, kO, kW, fi, bs, tm0, tm1, tm3, tm4, tm5, tm6, tm7, fr0, fr1, fr2, fr3, fr4, fr5, fr6, fr7, to0, to1, to2, to3, to4, to5, to6, to7, O, SP, htm1, htm2, hfr1, hfr2⟩ | ⟨rT, rF, rO, rS, rE, rW, kT, kF, kO, kW, fi, bs, tm0, tm1, tm2, tm4, tm5, tm6, tm7, fr0, fr1, fr2, fr3, fr4, fr5, fr6, fr7, to0, to1, to2, to3, to4, to5, to6, to7, O, SP, htm2, htm3, hfr2, hfr3⟩ | ⟨rT, rF, rO, rS, rE, rW, kT, kF, kO, kW, bs, tm0, fr0, fr1, to0, to1, O, SP, htm1, hfr1⟩ | ⟨rT, rF, rO, rS, rE, rW, kT, kF, kO, kW, bs, tm0, tm2, tm3, fr0, fr1, fr2, fr3, to0, to1, to2, to3, O, SP, htm0, htm1, hfr0, hfr1⟩ | ⟨rT, rF, rO, rS, rE, rW, kT, kF, kO, kW, fi, bs, tm0, tm1, tm3, tm4, tm5, tm6, tm7, fr0, fr1, fr2, fr3, fr4, fr5, fr6, fr7, to0, to1, to2, to3, to4, to5, to6, to7, O, SP, htm2, hfr2⟩
 · exact own_weakM (rm30_0 l Z a0 hw a  h0 n0 Z0 O.Fsize) fun v h L q => ⟨⟨_, q.1⟩, q.2.1, by rw [q.2.2]; exact ⟨_, _, _, _, _, O.Ea, O.Ftimes, O.Fend, O.Vt, by decide, rfl⟩⟩
 · exact own_weakM (rm30_2_3 l Z a0 hw a rT rF rO rS rE rW kT kF kO kW (0 : Int32) (2 : Int32) (2 : Int32) bs tm0 t fr0 fr1 to0 to1 T h0 n0 Z0 O SP htm0 htm1 hfr0 hfr1 (by decide)) fun v h L q => ⟨⟨_, q.1⟩, q.2.1, ⟨_, _, _, _, _, q.2.2.2.1.Ea, q.2.2.2.1.Ftimes, q.2.2.2.1.Fend, q.2.2.2.1.Vt, by decide, rfl⟩⟩
 · exact own_weakM (rm30_8_7 l Z a0 hw a rT rF rO rS rE rW kT kF kO kW (0 : Int32) (3 : Int32) (3 : Int32) bs tm0 tm1 t tm3 tm4 tm5 tm6 tm7 fr0 fr1 fr2 fr3 fr4 fr5 fr6 fr7 to0 to1 to2 to3 to4 to5 to6 to7 T h0 n0 Z0 O SP htm0 htm1 htm2 hfr0 hfr1 hfr2 (by decide)) fun v h L q => ⟨⟨_, q.1⟩, q.2.1, (q.2.2.elim (fun i => ⟨_, _, _, _, _, i.2.1.Ea, i.2.1.Ftimes, i.2.1.Fend, i.2.1.Vt, by decide, rfl⟩) (fun j => ⟨_, _, _, _, _, j.2.1.Ea, j.2.1.Ftimes, j.2.1.Fend, j.2.1.Vt, by decide, rfl⟩))⟩
 · exact own_weakM (rm30_8_6 l Z a0 hw a rT rF rO rS rE rW kT kF kO kW (0 : Int32) (3 : Int32) (2 : Int32) bs tm0 tm1 t tm3 tm4 tm5 tm6 tm7 fr0 fr1 fr2 fr3 fr4 fr5 fr6 fr7 to0 to1 to2 to3 to4 to5 to6 to7 T h0 n0 Z0 O SP htm1 htm2 hfr1 hfr2 (by decide)) fun v h L q => ⟨⟨_, q.1⟩, q.2.1, ⟨_, _, _, _, _, q.2.2.2.1.Ea, q.2.2.2.1.Ftimes, q.2.2.2.1.Fend, q.2.2.2.1.Vt, by decide, rfl⟩⟩
 · exact own_weakM (rm30_8_7 l Z a0 hw a rT rF rO rS rE rW kT kF kO kW fi (3 : Int32) (3 : Int32) bs tm0 tm1 t tm3 tm4 tm5 tm6 tm7 fr0 fr1 fr2 fr3 fr4 fr5 fr6 fr7 to0 to1 to2 to3 to4 to5 to6 to7 T h0 n0 Z0 O SP htm0 htm1 htm2 hfr0 hfr1 hfr2 (by decide)) fun v h L q => ⟨⟨_, q.1⟩, q.2.1, (q.2.2.elim (fun i => ⟨_, _, _, _, _, i.2.1.Ea, i.2.1.Ftimes, i.2.1.Fend, i.2.1.Vt, by decide, rfl⟩) (fun j => ⟨_, _, _, _, _, j.2.1.Ea, j.2.1.Ftimes, j.2.1.Fend, j.2.1.Vt, by decide, rfl⟩))⟩
 · exact own_weakM (rm30_8_15 l Z a0 hw a rT rF rO rS rE rW kT kF kO kW fi (4 : Int32) (4 : Int32) bs tm0 tm1 tm2 t tm4 tm5 tm6 tm7 fr0 fr1 fr2 fr3 fr4 fr5 fr6 fr7 to0 to1 to2 to3 to4 to5 to6 to7 T h0 n0 Z0 O SP htm0 htm1 htm2 htm3 hfr0 hfr1 hfr2 hfr3 (by decide)) fun v h L q => ⟨⟨_, q.1⟩, q.2.1, (q.2.2.elim (fun i => ⟨_, _, _, _, _, i.2.1.Ea, i.2.1.Ftimes, i.2.1.Fend, i.2.1.Vt, by decide, rfl⟩) (fun j => (j.elim (fun i => ⟨_, _, _, _, _, i.2.1.Ea, i.2.1.Ftimes, i.2.1.Fend, i.2.1.Vt, by decide, rfl⟩) (fun j => ⟨_, _, _, _, _, j.2.1.Ea, j.2.1.Ftimes, j.2.1.Fend, j.2.1.Vt, by decide, rfl⟩))))⟩
 · exact own_weakM (rm30_8_14 l Z a0 hw a rT rF rO rS rE rW kT kF kO kW fi (4 : Int32) (3 : Int32) bs tm0 tm1 tm2 t tm4 tm5 tm6 tm7 fr0 fr1 fr2 fr3 fr4 fr5 fr6 fr7 to0 to1 to2 to3 to4 to5 to6 to7 T h0 n0 Z0 O SP htm1 htm2 htm3 hfr1 hfr2 hfr3 (by decide)) fun v h L q => ⟨⟨_, q.1⟩, q.2.1, (q.2.2.elim (fun i => ⟨_, _, _, _, _, i.2.1.Ea, i.2.1.Ftimes, i.2.1.Fend, i.2.1.Vt, by decide, rfl⟩) (fun j => ⟨_, _, _, _, _, j.2.1.Ea, j.2.1.Ftimes, j.2.1.Fend, j.2.1.Vt, by decide, rfl⟩))⟩
 · exact own_weakM (rm30_8_13 l Z a0 hw a rT rF rO rS rE rW kT kF kO kW fi (4 : Int32) (3 : Int32) bs tm0 tm1 tm2 t tm4 tm5 tm6 tm7 fr0 fr1 fr2 fr3 fr4 fr5 fr6 fr7 to0 to1 to2 to3 to4 to5 to6 to7 T h0 n0 Z0 O SP htm0 htm2 htm3 hfr0 hfr2 hfr3 (by decide)) fun v h L q => ⟨⟨_, q.1⟩, q.2.1, (q.2.2.elim (fun i => ⟨_, _, _, _, _, i.2.1.Ea, i.2.1.Ftimes, i.2.1.Fend, i.2.1.Vt, by decide, rfl⟩) (fun j => ⟨_, _, _, _, _, j.2.1.Ea, j.2.1.Ftimes, j.2.1.Fend, j.2.1.Vt, by decide, rfl⟩))⟩
 · exact own_weakM (rm30_8_6 l Z a0 hw a rT rF rO rS rE rW kT kF kO kW fi (3 : Int32) (2 : Int32) bs tm0 tm1 t tm3 tm4 tm5 tm6 tm7 fr0 fr1 fr2 fr3 fr4 fr5 fr6 fr7 to0 to1 to2 to3 to4 to5 to6 to7 T h0 n0 Z0 O SP htm1 htm2 hfr1 hfr2 (by decide)) fun v h L q => ⟨⟨_, q.1⟩, q.2.1, ⟨_, _, _, _, _, q.2.2.2.1.Ea, q.2.2.2.1.Ftimes, q.2.2.2.1.Fend, q.2.2.2.1.Vt, by decide, rfl⟩⟩
 · exact own_weakM (rm30_8_12 l Z a0 hw a rT rF rO rS rE rW kT kF kO kW fi (4 : Int32) (2 : Int32) bs tm0 tm1 tm2 t tm4 tm5 tm6 tm7 fr0 fr1 fr2 fr3 fr4 fr5 fr6 fr7 to0 to1 to2 to3 to4 to5 to6 to7 T h0 n0 Z0 O SP htm2 htm3 hfr2 hfr3 (by decide)) fun v h L q => ⟨⟨_, q.1⟩, q.2.1, ⟨_, _, _, _, _, q.2.2.2.1.Ea, q.2.2.2.1.Ftimes, q.2.2.2.1.Fend, q.2.2.2.1.Vt, by decide, rfl⟩⟩
 · exact own_weakM (rm30_0 l Z a0 hw a  h0 n0 Z0 O.Fsize) fun v h L q => ⟨⟨_, q.1⟩, q.2.1, by rw [q.2.2]; exact ⟨_, _, _, _, _, O.Ea, O.Ftimes, O.Fend, O.Vt, by decide, rfl⟩⟩
 · exact own_weakM (rm30_4_3 l Z a0 hw a rT rF rO rS rE rW kT kF kO kW (0 : Int32) (2 : Int32) (2 : Int32) bs tm0 t tm2 tm3 fr0 fr1 fr2 fr3 to0 to1 to2 to3 T h0 n0 Z0 O SP htm0 htm1 hfr0 hfr1 (by decide)) fun v h L q => ⟨⟨_, q.1⟩, q.2.1, ⟨_, _, _, _, _, q.2.2.2.1.Ea, q.2.2.2.1.Ftimes, q.2.2.2.1.Fend, q.2.2.2.1.Vt, by decide, rfl⟩⟩
 · exact own_weakM (rm30_0 l Z a0 hw a  h0 n0 Z0 O.Fsize) fun v h L q => ⟨⟨_, q.1⟩, q.2.1, by rw [q.2.2]; exact ⟨_, _, _, _, _, O.Ea, O.Ftimes, O.Fend, O.Vt, by decide, rfl⟩⟩
def own_stp (q1_0 : Int64) : Int64 := (if (q1_0 &&& (3 : Int64)) = (0 : Int64) then (0 : Int64) else (((q1_0.toUInt64 >>> ((2 : Int32) &&& 0x3f).toInt64.toUInt64).toInt64) &&& (65535 : Int64)))
theorem d1_0 : decode oc1 0 = .ok (.lload_n 0, 1):=by decide +kernel
theorem d1_1 : decode oc1 1 = .ok (.ldc2_w 7, 3):=by decide +kernel
theorem d1_4 : decode oc1 4 = .ok (.land, 1):=by decide +kernel
theorem d1_5 : decode oc1 5 = .ok (.lconst 0, 1):=by decide +kernel
theorem d1_6 : decode oc1 6 = .ok (.lcmp, 1):=by decide +kernel
theorem d1_7 : decode oc1 7 = .ok (.ifCond .ne 7, 3):=by decide +kernel
theorem d1_10 : decode oc1 10 = .ok (.lconst 0, 1):=by decide +kernel
theorem d1_11 : decode oc1 11 = .ok (.goto 10, 3):=by decide +kernel
theorem d1_14 : decode oc1 14 = .ok (.lload_n 0, 1):=by decide +kernel
theorem d1_15 : decode oc1 15 = .ok (.iconst 2, 1):=by decide +kernel
theorem d1_16 : decode oc1 16 = .ok (.lushr, 1):=by decide +kernel
theorem d1_17 : decode oc1 17 = .ok (.ldc2_w 9, 3):=by decide +kernel
theorem d1_20 : decode oc1 20 = .ok (.land, 1):=by decide +kernel
theorem d1_21 : decode oc1 21 = .ok (.lreturn, 1):=by decide +kernel
theorem pn_1 : plainName "com/example/throttlua/throttlua/slidinglog/SubjectLogNewestTimePinLaw" = true := by first | (simp [plainName, overriddenIn]; done) | decide +kernel
theorem ef_rm1 (m : MethodId) (y0 : Int64) : entryFrame m #[(.long y0)] 2 = mkF m 0 #[oJ y0, oD] [] := by first | (simp [entryFrame, mkF, argsToLocals, Value.category]; done) | rfl
def Q_rm1 (Z : State) (q1_0 : Int64) (h0 : Heap) (n0 : Nat) (v : Option Value) (h : Heap) (L : List Loc) : Prop := v = some (.long (own_stp q1_0)) ∧ Fr n0 L ∧ h = h0
theorem rm1 (l : Launch) (Z : State) (a0 : Array Value) (hw : own_T Z a0) (ws : List Jvm.Cond) (q1_0 : Int64) (h0 : Heap) (n0 : Nat) (Z0 : n0 ≤ h0.size) :
   MetFree l (⟨"com/example/throttlua/throttlua/slidinglog/SubjectLogNewestTimePinLaw", "step", "(J)J"⟩ : MethodName) (head1 (Jvm.Cond.code (⟨"com/example/throttlua/throttlua/slidinglog/SubjectLogNewestTimePinLaw", "step", "(J)J"⟩ : MethodName) oc1 2 (some .long) :: ws) ({ frames := 0, cells := 0, slots := 0, locals := 0 } : Room)) (fun a U => a = #[(.long q1_0)] ∧ Z.Warmed39 U.vm ∧ U.heap = h0) (fun _ _ _ _ _ => True) (fun _ U o U' => ∃ v L, o = .returned v ∧ Q_rm1 Z q1_0 h0 n0 v U'.heap L ∧ FrameEnd U o U' L ({ frames := 0, cells := 0, slots := 0, locals := 0 } : Room).cells ({ frames := 0, cells := 0, slots := 0, locals := 0 } : Room).slots) := by
 refine MetFree.of_bodySF (plainFor_of_name pn_1) hisR ?_
 intro p e s m args below meth c s₁ Bd hml0 hP hK
 obtain ⟨rfl, hZ, hh⟩ := hP
 have hx := Bd.exec
 have hby := Bd.bytes
 have hml : c.maxLocals = 2 := hml0
 have hown : s.vm.findClass "com/example/throttlua/throttlua/slidinglog/SubjectLogNewestTimePinLaw" = some m.cls := findClass_of_methodNamed Bd.named
 have hnm := (name_of_methodNamed Bd.named Bd.method).1
 have X0 : Stand p l e ({ frames := 0, cells := 0, slots := 0, locals := 0 } : Room) s m #[(.long q1_0)] below meth c s₁ [] 0 0 := Stand.of_body Bd
 have e0 : s₁.heap = h0 := by rw [← hh, Bd.state]; rfl
 have N0 := Fr.nil n0
 have pre0 : ∀ t, Steps p.tables e below (s₁.setTop (mkF m 0 #[oJ q1_0, oD] [])) t → Steps p.tables e below (s₁.setTop (entryFrame m #[(.long q1_0)] 2)) t := fun t k => castTop (ef_rm1 m q1_0) k
 have G1 : ∀ t, Steps p.tables e below (s₁.setTop (mkF m 7 #[oJ q1_0, oD] [(.int (lcmpW (q1_0 &&& (3 : Int64)) (0 : Int64)))])) t → Steps p.tables e below (s₁.setTop (mkF m 0 #[oJ q1_0, oD] [])) t := by
   intro t k
   show Steps p.tables e below (s₁.setTop (mkF m 0 #[oJ q1_0, oD] [])) _
   refine XS.lloadN X0.here hx rfl (hb hby d1_0) rfl ?_
   refine X0.ldc2Long hx hown (mvT hZ (ow4 hw)) (g := (mkF m 1 #[oJ q1_0, oD] [(.long q1_0)])) rfl (hb hby d1_1) _ ?_
   refine XS.land X0.here hx rfl (hb hby d1_4) rfl ?_
   refine XS.lconst X0.here hx rfl (hb hby d1_5) ?_
   refine XS.lcmp X0.here hx rfl (hb hby d1_6) rfl ?_
   exact k
 obtain ⟨v3, hv3⟩ : ∃ z : Int64, z = (if (q1_0 &&& (3 : Int64)) = (0 : Int64) then (0 : Int64) else (((q1_0.toUInt64 >>> ((2 : Int32) &&& 0x3f).toInt64.toUInt64).toInt64) &&& (65535 : Int64))) := ⟨_, rfl⟩
 obtain ⟨T4, Lo4, X4, N4, e4, G4⟩ := own_join X0 N0 (h := h0) (mkF m 7 #[oJ q1_0, oD] [(.int (lcmpW (q1_0 &&& (3 : Int64)) (0 : Int64)))]) (mkF m 21 #[oJ q1_0, oD] [(.long v3)]) (by
   by_cases h7_2 : (q1_0 &&& (3 : Int64)) = (0 : Int64)
   · refine ⟨s₁, _, X0, N0, e0, fun t k => ?_⟩
     rw [show v3 = (0 : Int64) from hv3.trans (if_pos h7_2)] at k
     show Steps p.tables e below (s₁.setTop (mkF m 7 #[oJ q1_0, oD] [(.int (lcmpW (q1_0 &&& (3 : Int64)) (0 : Int64)))])) _
     refine XS.ifNo X0.here hx rfl (hb hby d1_7) rfl ((if0 _ _).trans (teq ((lw_eq _ _).mpr h7_2)).2) ?_
     refine XS.lconst X0.here hx rfl (hb hby d1_10) ?_
     refine XS.goto X0.here hx rfl (pc0 := 11) (pc' := 21) rfl (hb hby d1_11) (by decide) (by decide) ?_
     exact k
   · refine ⟨s₁, _, X0, N0, e0, fun t k => ?_⟩
     rw [show v3 = (((q1_0.toUInt64 >>> ((2 : Int32) &&& 0x3f).toInt64.toUInt64).toInt64) &&& (65535 : Int64)) from hv3.trans (if_neg h7_2)] at k
     show Steps p.tables e below (s₁.setTop (mkF m 7 #[oJ q1_0, oD] [(.int (lcmpW (q1_0 &&& (3 : Int64)) (0 : Int64)))])) _
     refine XS.ifYes X0.here hx rfl (pc0 := 7) (pc' := 14) rfl (hb hby d1_7) rfl ((if0 _ _).trans (feq (fun q => h7_2 ((lw_eq _ _).mp q))).2) (by decide) (by decide) ?_
     refine XS.lloadN X0.here hx rfl (hb hby d1_14) rfl ?_
     refine XS.iconst X0.here hx rfl (hb hby d1_15) ?_
     refine XS.lushr X0.here hx rfl (hb hby d1_16) rfl ?_
     refine X0.ldc2Long hx hown (mvT hZ (ow5 hw)) (g := (mkF m 17 #[oJ q1_0, oD] [(.long ((q1_0.toUInt64 >>> ((2 : Int32) &&& 0x3f).toInt64.toUInt64).toInt64))])) rfl (hb hby d1_17) _ ?_
     refine XS.land X0.here hx rfl (hb hby d1_20) rfl ?_
     exact k)
 obtain ⟨fs, hr, hrun, hended, hW, hsame⟩ := X4.leave (v := some (.long v3)) (fun h => by rw [Bd.returns] at h; cases h)
 refine ⟨_, _, pre0 _ ?_, hrun, hended, _, _, rfl, ?_, ⟨_, rfl⟩, hW, hsame.mono (by decide) (by decide)⟩
 · refine G1 _ ?_
   refine G4 _ ?_
   show Steps p.tables e below (T4.setTop (mkF m 21 #[oJ q1_0, oD] [(.long v3)])) _
   exact own_retJ X4 hx Bd.returns (hb hby d1_21) hr
 · show Q_rm1 Z q1_0 h0 n0 _ T4.heap _
   rw [e4]
   subst hv3
   exact ⟨rfl, N4, rfl⟩
theorem own_W_E {Z : State} {h : Heap} {a : Addr} {t : Int64} (I : own_W Z h a t) : Exa Z h a oL := by
 obtain ⟨_, _, _, _, _, E, _⟩ := I
 exact E
theorem own_stb (d : Int64) : 0 ≤ (own_stp d).toInt ∧ (own_stp d).toInt ≤ 65535 := by
 unfold own_stp
 split
 · exact ⟨by decide, by decide⟩
 · have m := c_maskL ((d.toUInt64 >>> ((2 : Int32) &&& 0x3f).toInt64.toUInt64).toInt64) (65535 : Int64) 16 (by decide) (by decide)
   rw [show ((2 ^ 16 : Nat) : Int) = 65536 from rfl] at m
   omega
theorem own_sta1 {args : Array Value} {s : State} {C n d : String} {k : Int32} (h1 : (Jvm.Cond.initializedFor C n d).before args s = true) (h2 : (Jvm.Cond.eq (Jvm.Term.static C n d) (Jvm.Term.int k)).before args s = true) : Sta s s.heap C n d (.int k) := by
 have h := Cond.before_iff.mp h2
 obtain ⟨x, y, e1, e2, -, hk⟩ := cmp_v (Or.inl h)
 have h2' : y = .int k := by simpa [Term.eval] using e2.symm
 subst h2'
 obtain ⟨z, rfl⟩ := hk
 have h4 : z = k := by simpa [Cond.value, e1, e2] using h
 subst h4
 exact Sta.start e1 (Or.inl h1)
theorem pd__J_J : parseMethodDescriptor "(J)J" = some ⟨[.long], some .long⟩:=by decide +kernel
theorem own_nr13 (q0_0 : Int64) (q0_1 : Int64) (q0_2 : Int64) (q0_3 : Int64) (q0_4 : Int64) (p0_5 : Int32) (x1 : Int64) (hx1 : x1 = (q0_0 >>> ((1 : Int32) &&& 0x3f).toInt64)) (x3 : Int64) (hx3 : x3 = (own_stp q0_1)) (x5 : Int64) (hx5 : x5 = (own_stp q0_2)) (x7 : Int64) (hx7 : x7 = (own_stp q0_3)) (v8 : Int32) (hv8 : v8 = (if (((p0_5.toUInt32 >>> ((2 : Int32) &&& 31).toUInt32).toInt32) &&& (1 : Int32)) = (0 : Int32) then (0 : Int32) else (1 : Int32))) (x9 : Int64) (hx9 : x9 = (((((p0_5.toUInt32 >>> ((3 : Int32) &&& 31).toUInt32).toInt32) &&& (4095 : Int32)).toInt64) + (1 : Int64))) (x10 : Int64) (hx10 : x10 = ((x1 - (1 : Int64)) + (q0_4 &&& (262143 : Int64)))) : own_near x1 x1 := by
 have a := c_lshr q0_0 (1 : Int32) 1 (by decide)
 rw [show ((2 ^ 1 : Nat) : Int) = 2 from rfl, ← hx1] at a
 have r := rng64 q0_0
 refine ⟨?_, ?_, ?_, ?_⟩ <;> omega
theorem own_mo14 (q0_0 : Int64) (q0_1 : Int64) (q0_2 : Int64) (q0_3 : Int64) (q0_4 : Int64) (p0_5 : Int32) (x1 : Int64) (hx1 : x1 = (q0_0 >>> ((1 : Int32) &&& 0x3f).toInt64)) (x3 : Int64) (hx3 : x3 = (own_stp q0_1)) (x5 : Int64) (hx5 : x5 = (own_stp q0_2)) (x7 : Int64) (hx7 : x7 = (own_stp q0_3)) (v8 : Int32) (hv8 : v8 = (if (((p0_5.toUInt32 >>> ((2 : Int32) &&& 31).toUInt32).toInt32) &&& (1 : Int32)) = (0 : Int32) then (0 : Int32) else (1 : Int32))) (x9 : Int64) (hx9 : x9 = (((((p0_5.toUInt32 >>> ((3 : Int32) &&& 31).toUInt32).toInt32) &&& (4095 : Int32)).toInt64) + (1 : Int64))) (x10 : Int64) (hx10 : x10 = ((x1 - (1 : Int64)) + (q0_4 &&& (262143 : Int64)))) : (0 : Int32) < ((p0_5 &&& (3 : Int32)) + (1 : Int32)) := by
 have m := c_mask p0_5 (3 : Int32) 2 (by decide) (by decide)
 rw [show ((2 ^ 2 : Nat) : Int) = 4 from rfl] at m
 have a := c_iadd (p0_5 &&& (3 : Int32)) (1 : Int32)
 have r := rng32 ((p0_5 &&& (3 : Int32)) + (1 : Int32))
 rw [show (1 : Int32).toInt = 1 from by decide] at a
 have r5 := rng32 p0_5
 rw [Int32.lt_iff_toInt_lt, show (0 : Int32).toInt = 0 from by decide]
 omega
theorem pd__JJI_V : parseMethodDescriptor "(JJI)V" = some ⟨[.long, .long, .int], none⟩:=by decide +kernel
theorem own_nr16 (q0_0 : Int64) (q0_1 : Int64) (q0_2 : Int64) (q0_3 : Int64) (q0_4 : Int64) (p0_5 : Int32) (x1 : Int64) (hx1 : x1 = (q0_0 >>> ((1 : Int32) &&& 0x3f).toInt64)) (x3 : Int64) (hx3 : x3 = (own_stp q0_1)) (x5 : Int64) (hx5 : x5 = (own_stp q0_2)) (x7 : Int64) (hx7 : x7 = (own_stp q0_3)) (v8 : Int32) (hv8 : v8 = (if (((p0_5.toUInt32 >>> ((2 : Int32) &&& 31).toUInt32).toInt32) &&& (1 : Int32)) = (0 : Int32) then (0 : Int32) else (1 : Int32))) (x9 : Int64) (hx9 : x9 = (((((p0_5.toUInt32 >>> ((3 : Int32) &&& 31).toUInt32).toInt32) &&& (4095 : Int32)).toInt64) + (1 : Int64))) (x10 : Int64) (hx10 : x10 = ((x1 - (1 : Int64)) + (q0_4 &&& (262143 : Int64)))) : own_near x1 (x1 + x3) := by
 have a := c_lshr q0_0 (1 : Int32) 1 (by decide)
 rw [show ((2 ^ 1 : Nat) : Int) = 2 from rfl, ← hx1] at a
 have r := rng64 q0_0
 have b0 := own_stb q0_1
 rw [← hx3] at b0
 have c0 := c_ladd x1 x3
 have r0 := rng64 (x1 + x3)
 refine ⟨?_, ?_, ?_, ?_⟩ <;> omega
theorem own_nr18 (q0_0 : Int64) (q0_1 : Int64) (q0_2 : Int64) (q0_3 : Int64) (q0_4 : Int64) (p0_5 : Int32) (x1 : Int64) (hx1 : x1 = (q0_0 >>> ((1 : Int32) &&& 0x3f).toInt64)) (x3 : Int64) (hx3 : x3 = (own_stp q0_1)) (x5 : Int64) (hx5 : x5 = (own_stp q0_2)) (x7 : Int64) (hx7 : x7 = (own_stp q0_3)) (v8 : Int32) (hv8 : v8 = (if (((p0_5.toUInt32 >>> ((2 : Int32) &&& 31).toUInt32).toInt32) &&& (1 : Int32)) = (0 : Int32) then (0 : Int32) else (1 : Int32))) (x9 : Int64) (hx9 : x9 = (((((p0_5.toUInt32 >>> ((3 : Int32) &&& 31).toUInt32).toInt32) &&& (4095 : Int32)).toInt64) + (1 : Int64))) (x10 : Int64) (hx10 : x10 = ((x1 - (1 : Int64)) + (q0_4 &&& (262143 : Int64)))) : own_near x1 ((x1 + x3) + x5) := by
 have a := c_lshr q0_0 (1 : Int32) 1 (by decide)
 rw [show ((2 ^ 1 : Nat) : Int) = 2 from rfl, ← hx1] at a
 have r := rng64 q0_0
 have b0 := own_stb q0_1
 rw [← hx3] at b0
 have c0 := c_ladd x1 x3
 have r0 := rng64 (x1 + x3)
 have b1 := own_stb q0_2
 rw [← hx5] at b1
 have c1 := c_ladd (x1 + x3) x5
 have r1 := rng64 ((x1 + x3) + x5)
 refine ⟨?_, ?_, ?_, ?_⟩ <;> omega
theorem pd___J : parseMethodDescriptor "()J" = some ⟨[], some .long⟩:=by decide +kernel
theorem pd__J_V : parseMethodDescriptor "(J)V" = some ⟨[.long], none⟩:=by decide +kernel
theorem own_nr24 (q0_0 : Int64) (q0_1 : Int64) (q0_2 : Int64) (q0_3 : Int64) (q0_4 : Int64) (p0_5 : Int32) (x1 : Int64) (hx1 : x1 = (q0_0 >>> ((1 : Int32) &&& 0x3f).toInt64)) (x3 : Int64) (hx3 : x3 = (own_stp q0_1)) (x5 : Int64) (hx5 : x5 = (own_stp q0_2)) (x7 : Int64) (hx7 : x7 = (own_stp q0_3)) (v8 : Int32) (hv8 : v8 = (if (((p0_5.toUInt32 >>> ((2 : Int32) &&& 31).toUInt32).toInt32) &&& (1 : Int32)) = (0 : Int32) then (0 : Int32) else (1 : Int32))) (x9 : Int64) (hx9 : x9 = (((((p0_5.toUInt32 >>> ((3 : Int32) &&& 31).toUInt32).toInt32) &&& (4095 : Int32)).toInt64) + (1 : Int64))) (x10 : Int64) (hx10 : x10 = ((x1 - (1 : Int64)) + (q0_4 &&& (262143 : Int64)))) (h149_21 : x10 < ((x1 + x3) + x5)) : own_near x1 (((x1 + x3) + x5) + x7) := by
 have a := c_lshr q0_0 (1 : Int32) 1 (by decide)
 rw [show ((2 ^ 1 : Nat) : Int) = 2 from rfl, ← hx1] at a
 have r := rng64 q0_0
 have b0 := own_stb q0_1
 rw [← hx3] at b0
 have c0 := c_ladd x1 x3
 have r0 := rng64 (x1 + x3)
 have b1 := own_stb q0_2
 rw [← hx5] at b1
 have c1 := c_ladd (x1 + x3) x5
 have r1 := rng64 ((x1 + x3) + x5)
 have b2 := own_stb q0_3
 rw [← hx7] at b2
 have c2 := c_ladd ((x1 + x3) + x5) x7
 have r2 := rng64 (((x1 + x3) + x5) + x7)
 refine ⟨?_, ?_, ?_, ?_⟩ <;> omega
theorem own_nr31 (q0_0 : Int64) (q0_1 : Int64) (q0_2 : Int64) (q0_3 : Int64) (q0_4 : Int64) (p0_5 : Int32) (x1 : Int64) (hx1 : x1 = (q0_0 >>> ((1 : Int32) &&& 0x3f).toInt64)) (x3 : Int64) (hx3 : x3 = (own_stp q0_1)) (x5 : Int64) (hx5 : x5 = (own_stp q0_2)) (x7 : Int64) (hx7 : x7 = (own_stp q0_3)) (v8 : Int32) (hv8 : v8 = (if (((p0_5.toUInt32 >>> ((2 : Int32) &&& 31).toUInt32).toInt32) &&& (1 : Int32)) = (0 : Int32) then (0 : Int32) else (1 : Int32))) (x9 : Int64) (hx9 : x9 = (((((p0_5.toUInt32 >>> ((3 : Int32) &&& 31).toUInt32).toInt32) &&& (4095 : Int32)).toInt64) + (1 : Int64))) (x10 : Int64) (hx10 : x10 = ((x1 - (1 : Int64)) + (q0_4 &&& (262143 : Int64)))) (h149_21 : ¬ (x10 < ((x1 + x3) + x5))) : own_near x1 (((x1 + x3) + x5) + x7) := by
 have a := c_lshr q0_0 (1 : Int32) 1 (by decide)
 rw [show ((2 ^ 1 : Nat) : Int) = 2 from rfl, ← hx1] at a
 have r := rng64 q0_0
 have b0 := own_stb q0_1
 rw [← hx3] at b0
 have c0 := c_ladd x1 x3
 have r0 := rng64 (x1 + x3)
 have b1 := own_stb q0_2
 rw [← hx5] at b1
 have c1 := c_ladd (x1 + x3) x5
 have r1 := rng64 ((x1 + x3) + x5)
 have b2 := own_stb q0_3
 rw [← hx7] at b2
 have c2 := c_ladd ((x1 + x3) + x5) x7
 have r2 := rng64 (((x1 + x3) + x5) + x7)
 refine ⟨?_, ?_, ?_, ?_⟩ <;> omega
theorem pn_0 : plainName "com/example/throttlua/throttlua/slidinglog/SubjectLogNewestTimePinLaw" = true := by first | (simp [plainName, overriddenIn]; done) | decide +kernel
theorem ef_rm0 (m : MethodId) (y0 : Int64) (y1 : Int64) (y2 : Int64) (y3 : Int64) (y4 : Int64) (y5 : Int32) : entryFrame m #[(.long y0), (.long y1), (.long y2), (.long y3), (.long y4), (.int y5)] maxLocals = mkF m 0 #[oJ y0, oD, oJ y1, oD, oJ y2, oD, oJ y3, oD, oJ y4, oD, oI y5, oU, oU, oU, oU, oU, oU, oU, oU, oU, oU, oU, oU, oU, oU, oU, oU] [] := by first | (simp [entryFrame, mkF, argsToLocals, Value.category, maxLocals]; done) | rfl
def Q_rm0 (Z : State) (q0_0 q0_1 q0_2 q0_3 q0_4 : Int64) (p0_5 : Int32) (h0 : Heap) (n0 : Nat) (v : Option Value) (h : Heap) (L : List Loc) : Prop := v = some (.int (1 : Int32)) ∧ Fr n0 L
theorem rm0c (l : Launch) (Z : State) (a0 : Array Value) (hw : own_T Z a0) (q0_0 q0_1 q0_2 q0_3 q0_4 : Int64) (p0_5 : Int32) (h0 : Heap) (n0 : Nat) (Z0 : n0 ≤ h0.size) (Sta0 : Sta Z h0 oB "$assertionsDisabled" "Z" (.int (1 : Int32))) :
   own_Met l x code maxLocals ret room_1 Z h0 #[(.long q0_0), (.long q0_1), (.long q0_2), (.long q0_3), (.long q0_4), (.int p0_5)] (Q_rm0 Z q0_0 q0_1 q0_2 q0_3 q0_4 p0_5 h0 n0) := by
 refine own_go hw (plainFor_of_name pn_0) (fun m => ef_rm0 m q0_0 q0_1 q0_2 q0_3 q0_4 p0_5) fun p e s m below meth c T0 C hret X0 e0 => ?_
 have N0 := Fr.nil n0
 refine sL C X0 at_0 ?_
 refine sC C X0 at_1 ?_
 refine tR C X0 at_2 ?_
 refine wl C X0 #[oJ q0_0, oD, oJ q0_1, oD, oJ q0_2, oD, oJ q0_3, oD, oJ q0_4, oD, oI p0_5, oJ (q0_0 >>> ((1 : Int32) &&& 0x3f).toInt64), oD, oU, oU, oU, oU, oU, oU, oU, oU, oU, oU, oU, oU, oU, oU] at_3 ?_
 obtain ⟨x1, hx1⟩ : ∃ z : Int64, z = (q0_0 >>> ((1 : Int32) &&& 0x3f).toInt64) := ⟨_, rfl⟩
 rw [← hx1]
 refine sl C X0 at_5 ?_
 refine sL C X0 at_7 ?_
 refine cS C X0 e0 (fun ws => rm1 l Z a0 C.w ws q0_1 h0 n0 Z0 ) (W := 2) (ow0 C.w) (ow1 C.w) (ow3 C.w) (ow2 C.w) (argsL := [(.long q0_1)]) (lenOf pd__J_J rfl) at_8 fun v2 T2 lo2 X2 hQ2 => ?_
 obtain ⟨rfl, Nq2, e2⟩ := hQ2
 obtain ⟨x3, hx3⟩ : ∃ z : Int64, z = (own_stp q0_1) := ⟨_, rfl⟩
 rw [← hx3]
 refine tP C X2 at_11 ?_
 refine wl C X2 #[oJ q0_0, oD, oJ q0_1, oD, oJ q0_2, oD, oJ q0_3, oD, oJ q0_4, oD, oI p0_5, oJ x1, oD, oJ (x1 + x3), oD, oU, oU, oU, oU, oU, oU, oU, oU, oU, oU, oU, oU] at_12 ?_
 refine sl C X2 at_14 ?_
 refine sl C X2 at_16 ?_
 refine cS C X2 e2 (fun ws => rm1 l Z a0 C.w ws q0_2 h0 n0 Z0 ) (W := 2) (ow0 C.w) (ow1 C.w) (ow3 C.w) (ow2 C.w) (argsL := [(.long q0_2)]) (lenOf pd__J_J rfl) at_18 fun v4 T4 lo4 X4 hQ4 => ?_
 obtain ⟨rfl, Nq4, e4⟩ := hQ4
 obtain ⟨x5, hx5⟩ : ∃ z : Int64, z = (own_stp q0_2) := ⟨_, rfl⟩
 rw [← hx5]
 refine tP C X4 at_21 ?_
 refine wl C X4 #[oJ q0_0, oD, oJ q0_1, oD, oJ q0_2, oD, oJ q0_3, oD, oJ q0_4, oD, oI p0_5, oJ x1, oD, oJ (x1 + x3), oD, oJ ((x1 + x3) + x5), oD, oU, oU, oU, oU, oU, oU, oU, oU, oU, oU] at_22 ?_
 refine sl C X4 at_24 ?_
 refine sl C X4 at_26 ?_
 refine cS C X4 e4 (fun ws => rm1 l Z a0 C.w ws q0_3 h0 n0 Z0 ) (W := 2) (ow0 C.w) (ow1 C.w) (ow3 C.w) (ow2 C.w) (argsL := [(.long q0_3)]) (lenOf pd__J_J rfl) at_28 fun v6 T6 lo6 X6 hQ6 => ?_
 obtain ⟨rfl, Nq6, e6⟩ := hQ6
 obtain ⟨x7, hx7⟩ : ∃ z : Int64, z = (own_stp q0_3) := ⟨_, rfl⟩
 rw [← hx7]
 refine tP C X6 at_31 ?_
 refine wl C X6 #[oJ q0_0, oD, oJ q0_1, oD, oJ q0_2, oD, oJ q0_3, oD, oJ q0_4, oD, oI p0_5, oJ x1, oD, oJ (x1 + x3), oD, oJ ((x1 + x3) + x5), oD, oJ (((x1 + x3) + x5) + x7), oD, oU, oU, oU, oU, oU, oU, oU, oU] at_32 ?_
 refine si C X6 at_34 ?_
 refine sC C X6 at_36 ?_
 refine sN C X6 at_37 ?_
 refine sC C X6 at_38 ?_
 refine sP C X6 at_39 ?_
 refine wi C X6 #[oJ q0_0, oD, oJ q0_1, oD, oJ q0_2, oD, oJ q0_3, oD, oJ q0_4, oD, oI p0_5, oJ x1, oD, oJ (x1 + x3), oD, oJ ((x1 + x3) + x5), oD, oJ (((x1 + x3) + x5) + x7), oD, oI ((p0_5 &&& (3 : Int32)) + (1 : Int32)), oU, oU, oU, oU, oU, oU, oU] at_40 ?_
 refine si C X6 at_42 ?_
 refine sC C X6 at_44 ?_
 refine sR C X6 at_45 ?_
 refine sC C X6 at_46 ?_
 refine sN C X6 at_47 ?_
 obtain ⟨v8, hv8⟩ : ∃ z : Int32, z = (if (((p0_5.toUInt32 >>> ((2 : Int32) &&& 31).toUInt32).toInt32) &&& (1 : Int32)) = (0 : Int32) then (0 : Int32) else (1 : Int32)) := ⟨_, rfl⟩
 have J48 : ∀ t, Steps p.tables e below (T6.setTop (mkF m 56 #[oJ q0_0, oD, oJ q0_1, oD, oJ q0_2, oD, oJ q0_3, oD, oJ q0_4, oD, oI p0_5, oJ x1, oD, oJ (x1 + x3), oD, oJ ((x1 + x3) + x5), oD, oJ (((x1 + x3) + x5) + x7), oD, oI ((p0_5 &&& (3 : Int32)) + (1 : Int32)), oU, oU, oU, oU, oU, oU, oU] [(.int v8)])) t → Steps p.tables e below (T6.setTop (mkF m 48 #[oJ q0_0, oD, oJ q0_1, oD, oJ q0_2, oD, oJ q0_3, oD, oJ q0_4, oD, oI p0_5, oJ x1, oD, oJ (x1 + x3), oD, oJ ((x1 + x3) + x5), oD, oJ (((x1 + x3) + x5) + x7), oD, oI ((p0_5 &&& (3 : Int32)) + (1 : Int32)), oU, oU, oU, oU, oU, oU, oU] [(.int (((p0_5.toUInt32 >>> ((2 : Int32) &&& 31).toUInt32).toInt32) &&& (1 : Int32)))])) t := by
   intro t k
   by_cases h : (((p0_5.toUInt32 >>> ((2 : Int32) &&& 31).toUInt32).toInt32) &&& (1 : Int32)) = (0 : Int32)
   · rw [show v8 = (0 : Int32) from hv8.trans (if_pos h)] at k
     exact XS.ifYes X6.here C.1 rfl (pc0 := 48) (pc' := 55) rfl (C.d at_48) rfl ((if0 _ _).trans (teq h).1) (by decide) (by decide) (XS.iconst X6.here C.1 rfl (C.d at_55) k)
   · rw [show v8 = (1 : Int32) from hv8.trans (if_neg h)] at k
     exact XS.ifNo X6.here C.1 rfl (C.d at_48) rfl ((if0 _ _).trans (feq h).1) (XS.iconst X6.here C.1 rfl (C.d at_51) (XS.goto X6.here C.1 rfl (pc0 := 52) (pc' := 56) rfl (C.d at_52) (by decide) (by decide) k))
 refine own_Fin.st (T' := T6) (g' := (mkF m 56 #[oJ q0_0, oD, oJ q0_1, oD, oJ q0_2, oD, oJ q0_3, oD, oJ q0_4, oD, oI p0_5, oJ x1, oD, oJ (x1 + x3), oD, oJ ((x1 + x3) + x5), oD, oJ (((x1 + x3) + x5) + x7), oD, oI ((p0_5 &&& (3 : Int32)) + (1 : Int32)), oU, oU, oU, oU, oU, oU, oU] [(.int v8)])) ?_ J48
 refine wi C X6 #[oJ q0_0, oD, oJ q0_1, oD, oJ q0_2, oD, oJ q0_3, oD, oJ q0_4, oD, oI p0_5, oJ x1, oD, oJ (x1 + x3), oD, oJ ((x1 + x3) + x5), oD, oJ (((x1 + x3) + x5) + x7), oD, oI ((p0_5 &&& (3 : Int32)) + (1 : Int32)), oI v8, oU, oU, oU, oU, oU, oU] at_56 ?_
 refine si C X6 at_58 ?_
 refine sC C X6 at_60 ?_
 refine sR C X6 at_61 ?_
 refine sU C X6 at_62 ?_
 refine sN C X6 at_65 ?_
 refine tI C X6 at_66 ?_
 refine tK C X6 at_67 ?_
 refine tP C X6 at_68 ?_
 refine wl C X6 #[oJ q0_0, oD, oJ q0_1, oD, oJ q0_2, oD, oJ q0_3, oD, oJ q0_4, oD, oI p0_5, oJ x1, oD, oJ (x1 + x3), oD, oJ ((x1 + x3) + x5), oD, oJ (((x1 + x3) + x5) + x7), oD, oI ((p0_5 &&& (3 : Int32)) + (1 : Int32)), oI v8, oJ (((((p0_5.toUInt32 >>> ((3 : Int32) &&& 31).toUInt32).toInt32) &&& (4095 : Int32)).toInt64) + (1 : Int64)), oD, oU, oU, oU, oU] at_69 ?_
 obtain ⟨x9, hx9⟩ : ∃ z : Int64, z = (((((p0_5.toUInt32 >>> ((3 : Int32) &&& 31).toUInt32).toInt32) &&& (4095 : Int32)).toInt64) + (1 : Int64)) := ⟨_, rfl⟩
 rw [← hx9]
 refine sl C X6 at_71 ?_
 refine tK C X6 at_73 ?_
 refine tS C X6 at_74 ?_
 refine sl C X6 at_75 ?_
 refine kJ C X6 (ow6 C.w) at_77 ?_
 refine tA C X6 at_80 ?_
 refine tP C X6 at_81 ?_
 refine wl C X6 #[oJ q0_0, oD, oJ q0_1, oD, oJ q0_2, oD, oJ q0_3, oD, oJ q0_4, oD, oI p0_5, oJ x1, oD, oJ (x1 + x3), oD, oJ ((x1 + x3) + x5), oD, oJ (((x1 + x3) + x5) + x7), oD, oI ((p0_5 &&& (3 : Int32)) + (1 : Int32)), oI v8, oJ x9, oD, oJ ((x1 - (1 : Int64)) + (q0_4 &&& (262143 : Int64))), oD, oU, oU] at_82 ?_
 obtain ⟨x10, hx10⟩ : ∃ z : Int64, z = ((x1 - (1 : Int64)) + (q0_4 &&& (262143 : Int64))) := ⟨_, rfl⟩
 rw [← hx10]
 refine nO C X6 e6 (ow7 C.w) (ow8 C.w) (ow9 C.w) at_84 fun T11 h11 b11 g11 X11 e11 E11 A11 D11 => ?_
 have F_times_b11 : Fld Z h11 b11 oL "times" "[J" .null := D11 (Or.inl (ow18 hw)) (ty := (.array .long)) (by decide)
 have F_froms_b11 : Fld Z h11 b11 oL "froms" "[J" .null := D11 (Or.inl (ow20 hw)) (ty := (.array .long)) (by decide)
 have F_totals_b11 : Fld Z h11 b11 oL "totals" "[J" .null := D11 (Or.inl (ow22 hw)) (ty := (.array .long)) (by decide)
 have F_spans_b11 : Fld Z h11 b11 oL "spans" "[J" .null := D11 (Or.inl (ow24 hw)) (ty := (.array .long)) (by decide)
 have F_entries_b11 : Fld Z h11 b11 oL "entries" "Ljava/util/BitSet;" .null := D11 (Or.inl (ow47 hw)) (ty := (.object oB)) (by decide)
 have F_size_b11 : Fld Z h11 b11 oL "size" "I" (.int (0 : Int32)) := D11 (Or.inl (ow54 hw)) (ty := .int) (by decide)
 have F_end_b11 : Fld Z h11 b11 oL "end" "I" (.int (0 : Int32)) := D11 (Or.inl (ow56 hw)) (ty := .int) (by decide)
 have F_first_b11 : Fld Z h11 b11 oL "first" "I" (.int (0 : Int32)) := D11 (Or.inl (ow75 hw)) (ty := .int) (by decide)
 have F_base_b11 : Fld Z h11 b11 oL "base" "J" oZ := D11 (Or.inl (ow110 hw)) (ty := .long) (by decide)
 have g_b11 : n0 ≤ b11 := Nat.le_trans Z0 (Nat.le_of_eq g11.symm)
 have sz_b11 : h0.size ≤ b11 := Nat.le_trans (Nat.le_refl _) (Nat.le_of_eq g11.symm)
 have S11 : own_StK Z h0 h11 := (own_StK.refl Z h0).ext E11
 have K11 : Keep h0 h11 [] := (Keep.refl h0 []).ext E11
 have Z11 : n0 ≤ h11.size := Nat.le_trans Z0 K11.1
 refine sD C X11 at_87 ?_
 refine cI C X11 e11 (rm2 l Z a0 C.w b11 h11 n0 Z11 A11 F_times_b11 F_froms_b11 F_totals_b11 F_spans_b11 F_entries_b11 F_size_b11 F_end_b11 F_first_b11 F_base_b11 g_b11 (S11 _ _ _ _ Sta0)) (W := 1) (ow10 C.w) (ow11 C.w) (ow12 C.w) (ow9 C.w) (argsL := []) (lenOf pd___V rfl) at_88 fun v12 T12 lo12 X12 hQ12 => ?_
 obtain ⟨rfl, Nq12, I12⟩ := hQ12
 have N12 := Fr.app (((N0.app Nq2).app Nq4).app Nq6) Nq12
 have E12 := own_L0_E (I12 x1 x1)
 have Zl12 : n0 ≤ T12.heap.size := Nat.le_trans g_b11 (Nat.le_of_lt E12.lt)
 refine wa C X12 #[oJ q0_0, oD, oJ q0_1, oD, oJ q0_2, oD, oJ q0_3, oD, oJ q0_4, oD, oI p0_5, oJ x1, oD, oJ (x1 + x3), oD, oJ ((x1 + x3) + x5), oD, oJ (((x1 + x3) + x5) + x7), oD, oI ((p0_5 &&& (3 : Int32)) + (1 : Int32)), oI v8, oJ x9, oD, oJ x10, oD, oR b11, oU] at_91 ?_
 refine sa C X12 at_93 ?_
 refine sl C X12 at_95 ?_
 refine sl C X12 at_97 ?_
 refine si C X12 at_99 ?_
 refine cV C X12 rfl (own_add_0 l Z a0 C.w b11 x1 x9 ((p0_5 &&& (3 : Int32)) + (1 : Int32)) x1 x1 T12.heap n0 Zl12 (I12 x1 x1) (own_nr13 q0_0 q0_1 q0_2 q0_3 q0_4 p0_5 x1 hx1 x3 hx3 x5 hx5 x7 hx7 v8 hv8 x9 hx9 x10 hx10) (own_mo14 q0_0 q0_1 q0_2 q0_3 q0_4 p0_5 x1 hx1 x3 hx3 x5 hx5 x7 hx7 v8 hv8 x9 hx9 x10 hx10)) E12 (W := 0) (ow48 C.w) (ow49 C.w) (ow51 C.w) (ow50 C.w) (ow52 C.w) (ow9 C.w) (argsL := [(.long x1), (.long x9), (.int ((p0_5 &&& (3 : Int32)) + (1 : Int32)))]) (lenOf pd__JJI_V rfl) at_101 fun v15 T15 lo15 X15 hQ15 => ?_
 obtain ⟨rfl, Nq15, I15⟩ := hQ15
 have N15 := Fr.app N12 Nq15
 have E15 := own_L1_E I15
 have Zl15 : n0 ≤ T15.heap.size := Nat.le_trans g_b11 (Nat.le_of_lt E15.lt)
 refine sa C X15 at_104 ?_
 refine sl C X15 at_106 ?_
 refine sl C X15 at_108 ?_
 refine si C X15 at_110 ?_
 refine cV C X15 rfl (own_add_1 l Z a0 C.w b11 (x1 + x3) x9 ((p0_5 &&& (3 : Int32)) + (1 : Int32)) x1 x1 T15.heap n0 Zl15 I15 (own_nr16 q0_0 q0_1 q0_2 q0_3 q0_4 p0_5 x1 hx1 x3 hx3 x5 hx5 x7 hx7 v8 hv8 x9 hx9 x10 hx10) (own_mo14 q0_0 q0_1 q0_2 q0_3 q0_4 p0_5 x1 hx1 x3 hx3 x5 hx5 x7 hx7 v8 hv8 x9 hx9 x10 hx10)) E15 (W := 0) (ow48 C.w) (ow49 C.w) (ow51 C.w) (ow50 C.w) (ow52 C.w) (ow9 C.w) (argsL := [(.long (x1 + x3)), (.long x9), (.int ((p0_5 &&& (3 : Int32)) + (1 : Int32)))]) (lenOf pd__JJI_V rfl) at_112 fun v17 T17 lo17 X17 hQ17 => ?_
 obtain ⟨rfl, Nq17, I17⟩ := hQ17
 have N17 := Fr.app N15 Nq17
 have E17 := own_L2_E I17
 have Zl17 : n0 ≤ T17.heap.size := Nat.le_trans g_b11 (Nat.le_of_lt E17.lt)
 refine sa C X17 at_115 ?_
 refine sl C X17 at_117 ?_
 refine sl C X17 at_119 ?_
 refine si C X17 at_121 ?_
 refine cV C X17 rfl (own_add_2 l Z a0 C.w b11 ((x1 + x3) + x5) x9 ((p0_5 &&& (3 : Int32)) + (1 : Int32)) x1 (x1 + x3) T17.heap n0 Zl17 I17 (own_nr18 q0_0 q0_1 q0_2 q0_3 q0_4 p0_5 x1 hx1 x3 hx3 x5 hx5 x7 hx7 v8 hv8 x9 hx9 x10 hx10) (own_mo14 q0_0 q0_1 q0_2 q0_3 q0_4 p0_5 x1 hx1 x3 hx3 x5 hx5 x7 hx7 v8 hv8 x9 hx9 x10 hx10)) E17 (W := 0) (ow48 C.w) (ow49 C.w) (ow51 C.w) (ow50 C.w) (ow52 C.w) (ow9 C.w) (argsL := [(.long ((x1 + x3) + x5)), (.long x9), (.int ((p0_5 &&& (3 : Int32)) + (1 : Int32)))]) (lenOf pd__JJI_V rfl) at_123 fun v19 T19 lo19 X19 hQ19 => ?_
 obtain ⟨rfl, Nq19, I19⟩ := hQ19
 have N19 := Fr.app N17 Nq19
 have E19 := own_L3_E I19
 have Zl19 : n0 ≤ T19.heap.size := Nat.le_trans g_b11 (Nat.le_of_lt E19.lt)
 refine sa C X19 at_126 ?_
 refine cV C X19 rfl (own_newest l Z a0 C.w b11 ((x1 + x3) + x5) T19.heap n0 Zl19 (own_L3_W I19)) E19 (W := 0) (ow130 C.w) (ow131 C.w) (ow133 C.w) (ow132 C.w) (ow134 C.w) (ow9 C.w) (argsL := []) (lenOf pd___J rfl) at_128 fun v20 T20 lo20 X20 hQ20 => ?_
 obtain ⟨rfl, Nq20, e20⟩ := hQ20
 have N20 := Fr.app N19 Nq20
 refine sl C X20 at_131 ?_
 refine tC C X20 at_133 ?_
 refine bN C X20 at_134 ((if0 _ _).trans (teq ((lw_eq _ _).mpr rfl)).2) ?_
 refine sC C X20 at_137 ?_
 refine sG C X20 at_138 142 ?_
 refine wi C X20 #[oJ q0_0, oD, oJ q0_1, oD, oJ q0_2, oD, oJ q0_3, oD, oJ q0_4, oD, oI p0_5, oJ x1, oD, oJ (x1 + x3), oD, oJ ((x1 + x3) + x5), oD, oJ (((x1 + x3) + x5) + x7), oD, oI ((p0_5 &&& (3 : Int32)) + (1 : Int32)), oI v8, oJ x9, oD, oJ x10, oD, oR b11, oI 1] at_142 ?_
 refine sl C X20 at_144 ?_
 refine sl C X20 at_146 ?_
 refine tC C X20 at_148 ?_
 by_cases h149_21 : x10 < ((x1 + x3) + x5)
 · refine bN C X20 at_149 ((if0 _ _).trans (tlt ((lw_lt _ _).mpr h149_21)).2.1) ?_
   refine sa C X20 at_152 ?_
   refine sl C X20 at_154 ?_
   refine cV C X20 e20 (own_drop l Z a0 C.w b11 x10 x1 ((x1 + x3) + x5) T19.heap n0 Zl19 I19 h149_21) E19 (W := 0) (ow135 C.w) (ow136 C.w) (ow138 C.w) (ow137 C.w) (ow139 C.w) (ow9 C.w) (argsL := [(.long x10)]) (lenOf pd__J_V rfl) at_156 fun v22 T22 lo22 X22 hQ22 => ?_
   obtain ⟨rfl, Nq22, I22⟩ := hQ22
   have N22 := Fr.app N20 Nq22
   have E22 := own_L3d_E I22
   have Zl22 : n0 ≤ T22.heap.size := Nat.le_trans g_b11 (Nat.le_of_lt E22.lt)
   refine si C X22 at_159 ?_
   refine bN C X22 at_161 ((if0 _ _).trans (feq (by decide : ¬ ((1 : Int32) = (0 : Int32)))).1) ?_
   refine sa C X22 at_164 ?_
   refine cV C X22 rfl (own_newest l Z a0 C.w b11 ((x1 + x3) + x5) T22.heap n0 Zl22 (own_L3d_W I22)) E22 (W := 0) (ow130 C.w) (ow131 C.w) (ow133 C.w) (ow132 C.w) (ow134 C.w) (ow9 C.w) (argsL := []) (lenOf pd___J rfl) at_166 fun v23 T23 lo23 X23 hQ23 => ?_
   obtain ⟨rfl, Nq23, e23⟩ := hQ23
   have N23 := Fr.app N22 Nq23
   refine sl C X23 at_169 ?_
   refine tC C X23 at_171 ?_
   refine bN C X23 at_172 ((if0 _ _).trans (teq ((lw_eq _ _).mpr rfl)).2) ?_
   refine sC C X23 at_175 ?_
   refine sG C X23 at_176 180 ?_
   refine wi C X23 #[oJ q0_0, oD, oJ q0_1, oD, oJ q0_2, oD, oJ q0_3, oD, oJ q0_4, oD, oI p0_5, oJ x1, oD, oJ (x1 + x3), oD, oJ ((x1 + x3) + x5), oD, oJ (((x1 + x3) + x5) + x7), oD, oI ((p0_5 &&& (3 : Int32)) + (1 : Int32)), oI v8, oJ x9, oD, oJ x10, oD, oR b11, oI 1] at_180 ?_
   refine sa C X23 at_182 ?_
   refine sl C X23 at_184 ?_
   refine sl C X23 at_186 ?_
   refine si C X23 at_188 ?_
   refine cV C X23 e23 (own_add_3d l Z a0 C.w b11 (((x1 + x3) + x5) + x7) x9 ((p0_5 &&& (3 : Int32)) + (1 : Int32)) x1 ((x1 + x3) + x5) T22.heap n0 Zl22 I22 (own_nr24 q0_0 q0_1 q0_2 q0_3 q0_4 p0_5 x1 hx1 x3 hx3 x5 hx5 x7 hx7 v8 hv8 x9 hx9 x10 hx10 h149_21) (own_mo14 q0_0 q0_1 q0_2 q0_3 q0_4 p0_5 x1 hx1 x3 hx3 x5 hx5 x7 hx7 v8 hv8 x9 hx9 x10 hx10)) E22 (W := 0) (ow48 C.w) (ow49 C.w) (ow51 C.w) (ow50 C.w) (ow52 C.w) (ow9 C.w) (argsL := [(.long (((x1 + x3) + x5) + x7)), (.long x9), (.int ((p0_5 &&& (3 : Int32)) + (1 : Int32)))]) (lenOf pd__JJI_V rfl) at_190 fun v25 T25 lo25 X25 hQ25 => ?_
   obtain ⟨rfl, Nq25, I25⟩ := hQ25
   have N25 := Fr.app N23 Nq25
   have E25 := own_L4_E I25
   have Zl25 : n0 ≤ T25.heap.size := Nat.le_trans g_b11 (Nat.le_of_lt E25.lt)
   refine si C X25 at_193 ?_
   by_cases h195_26 : v8 = (0 : Int32)
   · refine bY C X25 at_195 204 ((if0 _ _).trans (teq h195_26).1) ?_
     refine si C X25 at_204 ?_
     refine bN C X25 at_206 ((if0 _ _).trans (feq (by decide : ¬ ((1 : Int32) = (0 : Int32)))).1) ?_
     refine sa C X25 at_209 ?_
     refine cV C X25 rfl (own_newest l Z a0 C.w b11 (((x1 + x3) + x5) + x7) T25.heap n0 Zl25 (own_L4_W I25)) E25 (W := 0) (ow130 C.w) (ow131 C.w) (ow133 C.w) (ow132 C.w) (ow134 C.w) (ow9 C.w) (argsL := []) (lenOf pd___J rfl) at_211 fun v27 T27 lo27 X27 hQ27 => ?_
     obtain ⟨rfl, Nq27, e27⟩ := hQ27
     have N27 := Fr.app N25 Nq27
     refine sl C X27 at_214 ?_
     refine tC C X27 at_216 ?_
     refine bN C X27 at_217 ((if0 _ _).trans (teq ((lw_eq _ _).mpr rfl)).2) ?_
     refine sC C X27 at_220 ?_
     refine sG C X27 at_221 225 ?_
     refine wi C X27 #[oJ q0_0, oD, oJ q0_1, oD, oJ q0_2, oD, oJ q0_3, oD, oJ q0_4, oD, oI p0_5, oJ x1, oD, oJ (x1 + x3), oD, oJ ((x1 + x3) + x5), oD, oJ (((x1 + x3) + x5) + x7), oD, oI ((p0_5 &&& (3 : Int32)) + (1 : Int32)), oI v8, oJ x9, oD, oJ x10, oD, oR b11, oI 1] at_225 ?_
     refine si C X27 at_227 ?_
     exact rZ C X27 e27 hret at_229 ⟨rfl, N27⟩
   refine bN C X25 at_195 ((if0 _ _).trans (feq h195_26).1) ?_
   refine sa C X25 at_198 ?_
   refine cV C X25 rfl (own_shrk l Z a0 C.w b11 x1 (((x1 + x3) + x5) + x7) T25.heap n0 Zl25 I25) E25 (W := 0) (ow159 C.w) (ow160 C.w) (ow162 C.w) (ow161 C.w) (ow163 C.w) (ow9 C.w) (argsL := []) (lenOf pd___Z rfl) at_200 fun v28 T28 lo28 X28 hQ28 => ?_
   obtain ⟨⟨z28, rfl⟩, Nq28, W28⟩ := hQ28
   have N28 := Fr.app N25 Nq28
   have E28 := own_W_E W28
   have Zl28 : n0 ≤ T28.heap.size := Nat.le_trans g_b11 (Nat.le_of_lt E28.lt)
   refine sO C X28 at_203 ?_
   refine si C X28 at_204 ?_
   refine bN C X28 at_206 ((if0 _ _).trans (feq (by decide : ¬ ((1 : Int32) = (0 : Int32)))).1) ?_
   refine sa C X28 at_209 ?_
   refine cV C X28 rfl (own_newest l Z a0 C.w b11 (((x1 + x3) + x5) + x7) T28.heap n0 Zl28 W28) E28 (W := 0) (ow130 C.w) (ow131 C.w) (ow133 C.w) (ow132 C.w) (ow134 C.w) (ow9 C.w) (argsL := []) (lenOf pd___J rfl) at_211 fun v29 T29 lo29 X29 hQ29 => ?_
   obtain ⟨rfl, Nq29, e29⟩ := hQ29
   have N29 := Fr.app N28 Nq29
   refine sl C X29 at_214 ?_
   refine tC C X29 at_216 ?_
   refine bN C X29 at_217 ((if0 _ _).trans (teq ((lw_eq _ _).mpr rfl)).2) ?_
   refine sC C X29 at_220 ?_
   refine sG C X29 at_221 225 ?_
   refine wi C X29 #[oJ q0_0, oD, oJ q0_1, oD, oJ q0_2, oD, oJ q0_3, oD, oJ q0_4, oD, oI p0_5, oJ x1, oD, oJ (x1 + x3), oD, oJ ((x1 + x3) + x5), oD, oJ (((x1 + x3) + x5) + x7), oD, oI ((p0_5 &&& (3 : Int32)) + (1 : Int32)), oI v8, oJ x9, oD, oJ x10, oD, oR b11, oI 1] at_225 ?_
   refine si C X29 at_227 ?_
   exact rZ C X29 e29 hret at_229 ⟨rfl, N29⟩
 refine bY C X20 at_149 159 ((if0 _ _).trans (flt (fun q => h149_21 ((lw_lt _ _).mp q))).2.1) ?_
 refine si C X20 at_159 ?_
 refine bN C X20 at_161 ((if0 _ _).trans (feq (by decide : ¬ ((1 : Int32) = (0 : Int32)))).1) ?_
 refine sa C X20 at_164 ?_
 refine cV C X20 e20 (own_newest l Z a0 C.w b11 ((x1 + x3) + x5) T19.heap n0 Zl19 (own_L3_W I19)) E19 (W := 0) (ow130 C.w) (ow131 C.w) (ow133 C.w) (ow132 C.w) (ow134 C.w) (ow9 C.w) (argsL := []) (lenOf pd___J rfl) at_166 fun v30 T30 lo30 X30 hQ30 => ?_
 obtain ⟨rfl, Nq30, e30⟩ := hQ30
 have N30 := Fr.app N20 Nq30
 refine sl C X30 at_169 ?_
 refine tC C X30 at_171 ?_
 refine bN C X30 at_172 ((if0 _ _).trans (teq ((lw_eq _ _).mpr rfl)).2) ?_
 refine sC C X30 at_175 ?_
 refine sG C X30 at_176 180 ?_
 refine wi C X30 #[oJ q0_0, oD, oJ q0_1, oD, oJ q0_2, oD, oJ q0_3, oD, oJ q0_4, oD, oI p0_5, oJ x1, oD, oJ (x1 + x3), oD, oJ ((x1 + x3) + x5), oD, oJ (((x1 + x3) + x5) + x7), oD, oI ((p0_5 &&& (3 : Int32)) + (1 : Int32)), oI v8, oJ x9, oD, oJ x10, oD, oR b11, oI 1] at_180 ?_
 refine sa C X30 at_182 ?_
 refine sl C X30 at_184 ?_
 refine sl C X30 at_186 ?_
 refine si C X30 at_188 ?_
 refine cV C X30 e30 (own_add_3d l Z a0 C.w b11 (((x1 + x3) + x5) + x7) x9 ((p0_5 &&& (3 : Int32)) + (1 : Int32)) x1 ((x1 + x3) + x5) T19.heap n0 Zl19 (own_L3_3d I19) (own_nr31 q0_0 q0_1 q0_2 q0_3 q0_4 p0_5 x1 hx1 x3 hx3 x5 hx5 x7 hx7 v8 hv8 x9 hx9 x10 hx10 h149_21) (own_mo14 q0_0 q0_1 q0_2 q0_3 q0_4 p0_5 x1 hx1 x3 hx3 x5 hx5 x7 hx7 v8 hv8 x9 hx9 x10 hx10)) E19 (W := 0) (ow48 C.w) (ow49 C.w) (ow51 C.w) (ow50 C.w) (ow52 C.w) (ow9 C.w) (argsL := [(.long (((x1 + x3) + x5) + x7)), (.long x9), (.int ((p0_5 &&& (3 : Int32)) + (1 : Int32)))]) (lenOf pd__JJI_V rfl) at_190 fun v32 T32 lo32 X32 hQ32 => ?_
 obtain ⟨rfl, Nq32, I32⟩ := hQ32
 have N32 := Fr.app N30 Nq32
 have E32 := own_L4_E I32
 have Zl32 : n0 ≤ T32.heap.size := Nat.le_trans g_b11 (Nat.le_of_lt E32.lt)
 refine si C X32 at_193 ?_
 by_cases h195_33 : v8 = (0 : Int32)
 · refine bY C X32 at_195 204 ((if0 _ _).trans (teq h195_33).1) ?_
   refine si C X32 at_204 ?_
   refine bN C X32 at_206 ((if0 _ _).trans (feq (by decide : ¬ ((1 : Int32) = (0 : Int32)))).1) ?_
   refine sa C X32 at_209 ?_
   refine cV C X32 rfl (own_newest l Z a0 C.w b11 (((x1 + x3) + x5) + x7) T32.heap n0 Zl32 (own_L4_W I32)) E32 (W := 0) (ow130 C.w) (ow131 C.w) (ow133 C.w) (ow132 C.w) (ow134 C.w) (ow9 C.w) (argsL := []) (lenOf pd___J rfl) at_211 fun v34 T34 lo34 X34 hQ34 => ?_
   obtain ⟨rfl, Nq34, e34⟩ := hQ34
   have N34 := Fr.app N32 Nq34
   refine sl C X34 at_214 ?_
   refine tC C X34 at_216 ?_
   refine bN C X34 at_217 ((if0 _ _).trans (teq ((lw_eq _ _).mpr rfl)).2) ?_
   refine sC C X34 at_220 ?_
   refine sG C X34 at_221 225 ?_
   refine wi C X34 #[oJ q0_0, oD, oJ q0_1, oD, oJ q0_2, oD, oJ q0_3, oD, oJ q0_4, oD, oI p0_5, oJ x1, oD, oJ (x1 + x3), oD, oJ ((x1 + x3) + x5), oD, oJ (((x1 + x3) + x5) + x7), oD, oI ((p0_5 &&& (3 : Int32)) + (1 : Int32)), oI v8, oJ x9, oD, oJ x10, oD, oR b11, oI 1] at_225 ?_
   refine si C X34 at_227 ?_
   exact rZ C X34 e34 hret at_229 ⟨rfl, N34⟩
 refine bN C X32 at_195 ((if0 _ _).trans (feq h195_33).1) ?_
 refine sa C X32 at_198 ?_
 refine cV C X32 rfl (own_shrk l Z a0 C.w b11 x1 (((x1 + x3) + x5) + x7) T32.heap n0 Zl32 I32) E32 (W := 0) (ow159 C.w) (ow160 C.w) (ow162 C.w) (ow161 C.w) (ow163 C.w) (ow9 C.w) (argsL := []) (lenOf pd___Z rfl) at_200 fun v35 T35 lo35 X35 hQ35 => ?_
 obtain ⟨⟨z35, rfl⟩, Nq35, W35⟩ := hQ35
 have N35 := Fr.app N32 Nq35
 have E35 := own_W_E W35
 have Zl35 : n0 ≤ T35.heap.size := Nat.le_trans g_b11 (Nat.le_of_lt E35.lt)
 refine sO C X35 at_203 ?_
 refine si C X35 at_204 ?_
 refine bN C X35 at_206 ((if0 _ _).trans (feq (by decide : ¬ ((1 : Int32) = (0 : Int32)))).1) ?_
 refine sa C X35 at_209 ?_
 refine cV C X35 rfl (own_newest l Z a0 C.w b11 (((x1 + x3) + x5) + x7) T35.heap n0 Zl35 W35) E35 (W := 0) (ow130 C.w) (ow131 C.w) (ow133 C.w) (ow132 C.w) (ow134 C.w) (ow9 C.w) (argsL := []) (lenOf pd___J rfl) at_211 fun v36 T36 lo36 X36 hQ36 => ?_
 obtain ⟨rfl, Nq36, e36⟩ := hQ36
 have N36 := Fr.app N35 Nq36
 refine sl C X36 at_214 ?_
 refine tC C X36 at_216 ?_
 refine bN C X36 at_217 ((if0 _ _).trans (teq ((lw_eq _ _).mpr rfl)).2) ?_
 refine sC C X36 at_220 ?_
 refine sG C X36 at_221 225 ?_
 refine wi C X36 #[oJ q0_0, oD, oJ q0_1, oD, oJ q0_2, oD, oJ q0_3, oD, oJ q0_4, oD, oI p0_5, oJ x1, oD, oJ (x1 + x3), oD, oJ ((x1 + x3) + x5), oD, oJ (((x1 + x3) + x5) + x7), oD, oI ((p0_5 &&& (3 : Int32)) + (1 : Int32)), oI v8, oJ x9, oD, oJ x10, oD, oR b11, oI 1] at_225 ?_
 refine si C X36 at_227 ?_
 exact rZ C X36 e36 hret at_229 ⟨rfl, N36⟩
theorem rm0 (l : Launch) (Z : State) (a0 : Array Value) (hw : own_T Z a0) (ws : List Jvm.Cond) (q0_0 q0_1 q0_2 q0_3 q0_4 : Int64) (p0_5 : Int32) (h0 : Heap) (n0 : Nat) (Z0 : n0 ≤ h0.size) (Sta0 : Sta Z h0 oB "$assertionsDisabled" "Z" (.int (1 : Int32))) :
   MetFree l x (head1 (Jvm.Cond.code x code maxLocals ret :: ws) room_1) (fun a U => a = #[(.long q0_0), (.long q0_1), (.long q0_2), (.long q0_3), (.long q0_4), (.int p0_5)] ∧ Z.Warmed39 U.vm ∧ U.heap = h0) (fun _ _ _ _ _ => True) (fun _ U o U' => ∃ v L, o = .returned v ∧ Q_rm0 Z q0_0 q0_1 q0_2 q0_3 q0_4 p0_5 h0 n0 v U'.heap L ∧ FrameEnd U o U' L 48 256) :=
 rm0c l Z a0 hw q0_0 q0_1 q0_2 q0_3 q0_4 p0_5 h0 n0 Z0 Sta0 ws
theorem comes_1 {Post : Tables → Env → Array Value → State → Outcome → State → Prop} (hpost : ∀ tb e args s v u, (limb_1_1.after args s (.returned v) u = true ∧ limb_1_2.after args s (.returned v) u = true ∧ True) → FrameEnd s (.returned v) u (Jvm.fieldLocs frame_1_writes args s ++ Jvm.arrayLocs frame_1_arrays args s ++ Jvm.staticLocs frame_1_statics s) 48 256 → Post tb e args s (.returned v) u) :
   ArmFor flags0 classFile x code maxLocals ret World_1 tables_1 room_1 Calls_1 rest_1 Pre_1 Post := by
 intro l hfl _ _ p e ha hc hk s m args below hf hA hF happ hP
 obtain ⟨hcalls, hrest, hpre⟩ := hP
 obtain ⟨-, -, -, hnamed, -, -, -, hat⟩ := (Spec.applies_iff hf).mp happ
 obtain ⟨hg, hn⟩ := and_e (Cond.before_iff.mp (show (Jvm.Cond.and given_1 narrow_1).before args s = true from hpre))
 obtain ⟨g1, g2⟩ := and_e hg
 obtain ⟨g3, g4⟩ := and_e g2
 obtain ⟨g5, g6⟩ := and_e g4
 obtain ⟨g7, g8⟩ := and_e g6
 obtain ⟨g9, g10⟩ := and_e g8
 obtain ⟨g11, g12⟩ := and_e g10
 obtain ⟨w0, w1, w2, w3, w4, w5, rfl⟩ : ∃ w0 w1 w2 w3 w4 w5 : Value, args = #[w0, w1, w2, w3, w4, w5] := by
   have hs : args.size = 6 := by simpa [Cond.value, given_1] using g1
   obtain ⟨L⟩ := args
   match L, hs with
   | [w0, w1, w2, w3, w4, w5], _ => exact ⟨w0, w1, w2, w3, w4, w5, rfl⟩
 have hw := fun d (hd : d ∈ tables_1) => atoms_spec (ws := Jvm.Cond.code x code maxLocals ret :: tables_1) hat d (List.mem_cons_of_mem _ hd)
 have hfit : Fit s := fun {y c} hc i hi => by
   obtain ⟨ha, rfl⟩ := Array.getElem?_eq_some_iff.mp hc
   have q := List.all_eq_true.mp ((Array.all_eq_true_iff_forall_mem.mp hF) _ (Array.getElem_mem ha)) i (List.mem_range.mpr hi)
   simpa [Array.getElem?_eq_getElem hi] using q
 obtain ⟨hsets, hown0⟩ := atoms_of _ (rest_1_c_eq ▸ (show rest_1_c.before _ s = true from hrest))
 have hr0 := Cond.before_iff.mp hown0
 obtain ⟨i0, ei0⟩ := isL_v g3
 obtain rfl : w0 = (.long i0) := Option.some.inj ei0
 obtain ⟨i1, ei1⟩ := isL_v g5
 obtain rfl : w1 = (.long i1) := Option.some.inj ei1
 obtain ⟨i2, ei2⟩ := isL_v g7
 obtain rfl : w2 = (.long i2) := Option.some.inj ei2
 obtain ⟨i3, ei3⟩ := isL_v g9
 obtain rfl : w3 = (.long i3) := Option.some.inj ei3
 obtain ⟨i4, ei4⟩ := isL_v g11
 obtain rfl : w4 = (.long i4) := Option.some.inj ei4
 obtain ⟨i5, ei5⟩ := is_v g12
 obtain rfl : w5 = (.int i5) := Option.some.inj ei5
 have Sta0 : Sta s s.heap oB "$assertionsDisabled" "Z" (.int (1 : Int32)) := own_sta1 (hsets _ (List.mem_of_getElem? (i := 1) rfl)) (hsets _ (List.mem_of_getElem? (i := 2) rfl))
 obtain ⟨n, o, h1, h2, h3, _, L, rfl, ⟨rfl, N⟩, hq⟩ := rm0 l s _ hw tables_1 i0 i1 i2 i3 i4 i5 s.heap s.heap.size (Nat.le_refl _) Sta0 p e ha hc hk s m _ below hf ((Spec.applies_iff_loose hf).mp happ).1 ⟨rfl, State.Warmed39.refl s, rfl⟩ trivial
 refine ⟨n, _, h1, h2, h3, hpost _ _ _ _ _ _ ⟨Cond.after_iff.mpr rfl, Cond.after_iff.mpr (eq_i res_at (Term.int_eval (1)) rfl), trivial⟩ ⟨hq.1, hq.2.1, (hq.2.2.sift fun y hy => Or.inr (N y hy)).mono (by decide) (by decide)⟩⟩
theorem main_1_1 : Claimed_1_1 := comes_1 fun _ _ _ _ _ _ h hF => ⟨h.1, hF⟩
theorem main_1_2 : Claimed_1_2 := comes_1 fun _ _ _ _ _ _ h hF => ⟨h.2.1, hF⟩
end Jvm.Pilot.@@N@@
namespace Jvm.Pilot.@@N@@
open Jvm Jvm.ClassFile Sem Op Lib Jvm.Free Jvm.Stand Jvm.Pilot.@@N@@.Jvm.D
/-! MADE BY PROGRAM (witnessworld.py) out of the Statement's table words and the real class files: 21 classes; the members and pool entries that the words name. The judged class is class 1, her method 2. -/
namespace start1
open Jvm.ClassFile
def u (s : String) : CpInfo := .utf8 (stringToUtf16 s)
/-- a pool by its gaps: so many unusable entries, then the entry; so many at the end -/
def gap : Nat → List CpInfo → List CpInfo
  | 0, r => r
  | n + 1, r => .unusable :: gap n r
def poolList (es : List (Nat × CpInfo)) (last : Nat) : List CpInfo := es.foldr (fun e r => gap e.1 (e.2 :: r)) (gap last [])
def pool (es : List (Nat × CpInfo)) (last : Nat) : Array CpInfo := ⟨poolList es last⟩
def fileOf (pool : Array CpInfo) (this : Nat) (attrs : Array Attribute := #[]) (ms : Array MethodInfo := #[]) (fl : Nat := 33) (sup : Nat := 0) (ifs : Array Nat := #[]) (fds : Array FieldInfo := #[]) : ClassFile where
  minorVersion := 0
  majorVersion := 65
  constantPool := pool
  accessFlags := fl
  thisClass := this
  superClass := sup
  interfaces := ifs
  fields := fds
  methods := ms
  attributes := attrs
def plain (name : String) (sup : Option ClassId) : Class where
  name := name
  kind := .ordinary
  loader := none
  accessFlags := 33
  super := sup
  interfaces := #[]
  cf := none
  fields := #[]
  methods := #[]
  instanceTypes := #[]
  staticTypes := #[]
  resolved := #[]
  callSites := []
  init := .initialized
  statics := none
  mirror := none

def pool0 : Array CpInfo := pool [(5, u "<init>"), (0, u "()V"), (1, .class_ 10), (1, u "java/lang/Object")] 113

def k0c0 : Code := { maxStack := 0, maxLocals := 1, code := object_method_1_code, exceptionTable := #[], attributes := #[] }
def k0m0 : Method := { name := "<init>", desc := "()V", sig := { parameters := [], returnType := none }, accessFlags := 1, code := some k0c0 }
/-- java/lang/Object -/
def k0 : Class := { plain "java/lang/Object" none with
  accessFlags := 33
  interfaces := #[]
  cf := some (fileOf pool0 8 #[] #[{ accessFlags := 1, nameIndex := 5, descriptorIndex := 6, attributes := #[] }] 33 0 #[] #[])
  fields := #[]
  methods := #[k0m0]
  instanceTypes := #[]
  staticTypes := #[]
  resolved := Array.replicate 124 none
  statics := none }

def pool1 : Array CpInfo := pool [(2, .class_ 4), (0, .nameAndType 5 6), (0, u "java/lang/Object"), (0, u "<init>"), (0, u "()V"), (0, .long 3), (1, .long 65535), (1, .methodref 12 13), (0, .class_ 14), (0, .nameAndType 15 16), (0, u "com/example/throttlua/throttlua/slidinglog/SubjectLogNewestTimePinLaw"), (0, u "step"), (0, u "(J)J"), (0, .long 262143), (1, .class_ 20), (0, u "com/example/throttlua/throttlua/slidinglog/SubjectLog"), (0, .methodref 19 3), (0, .methodref 19 23), (0, .nameAndType 24 25), (0, u "add"), (0, u "(JJI)V"), (0, .methodref 19 27), (0, .nameAndType 28 29), (0, u "newestTime"), (0, u "()J"), (0, .methodref 19 31), (0, .nameAndType 32 33), (0, u "dropUpTo"), (0, u "(J)V"), (0, .methodref 19 35), (0, .nameAndType 36 37), (0, u "shrink"), (0, u "()Z"), (3, u "law"), (0, u "(JJJJJI)Z")] 2

def k1m0 : Method := { name := "<init>", desc := "()V", sig := { parameters := [], returnType := none }, accessFlags := 1, code := none }
def k1c1 : Code := { maxStack := 4, maxLocals := 2, code := method_2_code, exceptionTable := #[], attributes := #[] }
def k1m1 : Method := { name := "step", desc := "(J)J", sig := { parameters := [.long], returnType := some .long }, accessFlags := 10, code := some k1c1 }
def k1c2 : Code := { maxStack := 6, maxLocals := 27, code := code, exceptionTable := #[], attributes := #[] }
def k1m2 : Method := { name := "law", desc := "(JJJJJI)Z", sig := { parameters := [.long, .long, .long, .long, .long, .int], returnType := some .boolean }, accessFlags := 9, code := some k1c2 }
/-- com/example/throttlua/throttlua/slidinglog/SubjectLogNewestTimePinLaw -/
def k1 : Class := { plain "com/example/throttlua/throttlua/slidinglog/SubjectLogNewestTimePinLaw" (some 0) with
  accessFlags := 49
  interfaces := #[]
  cf := some (fileOf pool1 12 #[] #[{ accessFlags := 1, nameIndex := 5, descriptorIndex := 6, attributes := #[] }, { accessFlags := 10, nameIndex := 15, descriptorIndex := 16, attributes := #[] }, { accessFlags := 9, nameIndex := 41, descriptorIndex := 42, attributes := #[] }] 49 2 #[] #[])
  fields := #[]
  methods := #[k1m0, k1m1, k1m2]
  instanceTypes := #[]
  staticTypes := #[]
  resolved := Array.replicate 45 none
  statics := none }

def pool2 : Array CpInfo := pool [(1, .class_ 2), (0, u "com/example/throttlua/throttlua/failure/LocalState"), (0, .class_ 4), (0, u "java/lang/Object")] 8

/-- com/example/throttlua/throttlua/failure/LocalState -/
def k2 : Class := { plain "com/example/throttlua/throttlua/failure/LocalState" (some 0) with
  accessFlags := 1537
  interfaces := #[]
  cf := some (fileOf pool2 1 #[] #[] 1537 3 #[] #[])
  fields := #[]
  methods := #[]
  instanceTypes := #[]
  staticTypes := #[]
  resolved := Array.replicate 13 none
  statics := none }

def pool3 : Array CpInfo := pool [(3, .methodref 4 5), (0, .class_ 6), (0, .nameAndType 7 8), (0, u "java/lang/Object"), (0, u "<init>"), (0, u "()V"), (0, .fieldref 10 11), (0, .class_ 12), (0, .nameAndType 13 14), (0, u "com/example/throttlua/throttlua/slidinglog/SubjectLog"), (0, u "times"), (0, u "[J"), (0, .fieldref 10 16), (0, .nameAndType 17 14), (0, u "froms"), (0, .fieldref 10 19), (0, .nameAndType 20 14), (0, u "totals"), (0, .fieldref 10 22), (0, .nameAndType 23 14), (0, u "spans"), (0, .class_ 25), (0, u "java/util/BitSet"), (0, .methodref 24 5), (0, .fieldref 10 28), (0, .nameAndType 29 30), (0, u "entries"), (0, u "Ljava/util/BitSet;"), (0, .fieldref 10 32), (0, .nameAndType 33 34), (0, u "size"), (0, u "I"), (0, .fieldref 10 36), (0, .nameAndType 37 34), (0, u "end"), (12, .methodref 24 51), (0, .nameAndType 52 53), (0, u "nextSetBit"), (0, u "(I)I"), (0, .fieldref 10 55), (0, .nameAndType 56 34), (0, u "first"), (0, .fieldref 10 58), (0, .nameAndType 59 60), (0, u "base"), (0, u "J"), (0, .methodref 24 62), (0, .nameAndType 63 64), (0, u "clear"), (0, u "(I)V"), (0, .long 9223372036854775807), (1, .methodref 10 68), (0, .nameAndType 69 70), (0, u "setSpan"), (0, u "(IJ)V"), (0, .methodref 24 72), (0, .nameAndType 73 53), (0, u "previousSetBit"), (0, .long 8), (1, .methodref 77 78), (0, .class_ 79), (0, .nameAndType 80 53), (0, u "java/lang/Integer"), (0, u "highestOneBit"), (0, .methodref 82 83), (0, .class_ 84), (0, .nameAndType 85 86), (0, u "java/lang/Math"), (0, u "max"), (0, u "(II)I"), (0, .methodref 10 88), (0, .nameAndType 89 64), (0, u "moveTo"), (0, .methodref 24 91), (0, .nameAndType 92 64), (0, u "set"), (0, .methodref 10 94), (0, .nameAndType 95 96), (0, u "shrink"), (0, u "()Z"), (0, .methodref 10 98), (0, .nameAndType 99 100), (0, u "shortest"), (0, u "()I"), (0, .methodref 82 102), (0, .nameAndType 103 104), (0, u "min"), (0, u "(JJ)J"), (0, .methodref 24 106), (0, .nameAndType 7 64), (2, .methodref 24 110), (0, .nameAndType 92 111), (0, u "(II)V"), (0, .methodref 113 114), (0, .class_ 115), (0, .nameAndType 116 117), (0, u "java/util/Arrays"), (0, u "fill"), (0, u "([JIIJ)V"), (0, .class_ 119), (0, u "com/example/throttlua/throttlua/failure/LocalState"), (0, u "FEWEST_SLOTS"), (2, u "NO_SPAN"), (2, u "newestTime"), (0, u "()J"), (4, u "dropUpTo"), (0, u "(J)V"), (0, u "add"), (0, u "(JJI)V")] 4

def k3c0 : Code := { maxStack := 3, maxLocals := 1, code := prog_30_method_1_code, exceptionTable := #[], attributes := #[] }
def k3m0 : Method := { name := "<init>", desc := "()V", sig := { parameters := [], returnType := none }, accessFlags := 0, code := some k3c0 }
def k3c1 : Code := { maxStack := 3, maxLocals := 1, code := prog_30_method_3_code, exceptionTable := #[], attributes := #[] }
def k3m1 : Method := { name := "newestTime", desc := "()J", sig := { parameters := [], returnType := some .long }, accessFlags := 0, code := some k3c1 }
def k3c2 : Code := { maxStack := 4, maxLocals := 4, code := prog_30_method_6_code, exceptionTable := #[], attributes := #[] }
def k3m2 : Method := { name := "dropUpTo", desc := "(J)V", sig := { parameters := [.long], returnType := none }, accessFlags := 0, code := some k3c2 }
def k3c3 : Code := { maxStack := 7, maxLocals := 9, code := prog_30_method_7_code, exceptionTable := #[], attributes := #[] }
def k3m3 : Method := { name := "add", desc := "(JJI)V", sig := { parameters := [.long, .long, .int], returnType := none }, accessFlags := 0, code := some k3c3 }
def k3c4 : Code := { maxStack := 6, maxLocals := 6, code := prog_30_method_9_code, exceptionTable := #[], attributes := #[] }
def k3m4 : Method := { name := "shrink", desc := "()Z", sig := { parameters := [], returnType := some .boolean }, accessFlags := 1, code := some k3c4 }
def k3c5 : Code := { maxStack := 5, maxLocals := 3, code := prog_30_method_13_code, exceptionTable := #[], attributes := #[] }
def k3m5 : Method := { name := "shortest", desc := "()I", sig := { parameters := [], returnType := some .int }, accessFlags := 2, code := some k3c5 }
def k3c6 : Code := { maxStack := 5, maxLocals := 7, code := prog_30_method_14_code, exceptionTable := #[], attributes := #[] }
def k3m6 : Method := { name := "setSpan", desc := "(IJ)V", sig := { parameters := [.int, .long], returnType := none }, accessFlags := 2, code := some k3c6 }
def k3c7 : Code := { maxStack := 7, maxLocals := 8, code := prog_30_method_15_code, exceptionTable := #[], attributes := #[] }
def k3m7 : Method := { name := "moveTo", desc := "(I)V", sig := { parameters := [.int], returnType := none }, accessFlags := 2, code := some k3c7 }
/-- com/example/throttlua/throttlua/slidinglog/SubjectLog -/
def k3 : Class := { plain "com/example/throttlua/throttlua/slidinglog/SubjectLog" (some 0) with
  accessFlags := 48
  interfaces := #[2]
  cf := some (fileOf pool3 10 #[] #[{ accessFlags := 0, nameIndex := 7, descriptorIndex := 8, attributes := #[] }, { accessFlags := 0, nameIndex := 126, descriptorIndex := 127, attributes := #[] }, { accessFlags := 0, nameIndex := 132, descriptorIndex := 133, attributes := #[] }, { accessFlags := 0, nameIndex := 134, descriptorIndex := 135, attributes := #[] }, { accessFlags := 1, nameIndex := 95, descriptorIndex := 96, attributes := #[] }, { accessFlags := 2, nameIndex := 99, descriptorIndex := 100, attributes := #[] }, { accessFlags := 2, nameIndex := 69, descriptorIndex := 70, attributes := #[] }, { accessFlags := 2, nameIndex := 89, descriptorIndex := 64, attributes := #[] }] 48 4 #[118] #[{ accessFlags := 26, nameIndex := 120, descriptorIndex := 34, attributes := #[] }, { accessFlags := 26, nameIndex := 123, descriptorIndex := 60, attributes := #[] }, { accessFlags := 2, nameIndex := 13, descriptorIndex := 14, attributes := #[] }, { accessFlags := 2, nameIndex := 17, descriptorIndex := 14, attributes := #[] }, { accessFlags := 2, nameIndex := 20, descriptorIndex := 14, attributes := #[] }, { accessFlags := 2, nameIndex := 23, descriptorIndex := 14, attributes := #[] }, { accessFlags := 2, nameIndex := 29, descriptorIndex := 30, attributes := #[] }, { accessFlags := 2, nameIndex := 56, descriptorIndex := 34, attributes := #[] }, { accessFlags := 2, nameIndex := 37, descriptorIndex := 34, attributes := #[] }, { accessFlags := 2, nameIndex := 33, descriptorIndex := 34, attributes := #[] }, { accessFlags := 2, nameIndex := 59, descriptorIndex := 60, attributes := #[] }])
  fields := #[{ name := "FEWEST_SLOTS", type := .int, accessFlags := 26, slot := 0, constantValue := 0 }, { name := "NO_SPAN", type := .long, accessFlags := 26, slot := 1, constantValue := 0 }, { name := "times", type := (.array .long), accessFlags := 2, slot := 0, constantValue := 0 }, { name := "froms", type := (.array .long), accessFlags := 2, slot := 1, constantValue := 0 }, { name := "totals", type := (.array .long), accessFlags := 2, slot := 2, constantValue := 0 }, { name := "spans", type := (.array .long), accessFlags := 2, slot := 3, constantValue := 0 }, { name := "entries", type := (.object "java/util/BitSet"), accessFlags := 2, slot := 4, constantValue := 0 }, { name := "first", type := .int, accessFlags := 2, slot := 5, constantValue := 0 }, { name := "end", type := .int, accessFlags := 2, slot := 6, constantValue := 0 }, { name := "size", type := .int, accessFlags := 2, slot := 7, constantValue := 0 }, { name := "base", type := .long, accessFlags := 2, slot := 8, constantValue := 0 }]
  methods := #[k3m0, k3m1, k3m2, k3m3, k3m4, k3m5, k3m6, k3m7]
  instanceTypes := #[(.array .long), (.array .long), (.array .long), (.array .long), (.object "java/util/BitSet"), .int, .int, .int, .long]
  staticTypes := #[.int, .long]
  resolved := Array.replicate 140 none
  statics := none }

def pool4 : Array CpInfo := pool [(1, .class_ 2), (0, u "java/lang/Cloneable"), (0, .class_ 4), (0, u "java/lang/Object")] 2

/-- java/lang/Cloneable -/
def k4 : Class := { plain "java/lang/Cloneable" (some 0) with
  accessFlags := 1537
  interfaces := #[]
  cf := some (fileOf pool4 1 #[] #[] 1537 3 #[] #[])
  fields := #[]
  methods := #[]
  instanceTypes := #[]
  staticTypes := #[]
  resolved := Array.replicate 7 none
  statics := none }

def pool5 : Array CpInfo := pool [(1, .class_ 2), (0, u "java/io/Serializable"), (0, .class_ 4), (0, u "java/lang/Object")] 2

/-- java/io/Serializable -/
def k5 : Class := { plain "java/io/Serializable" (some 0) with
  accessFlags := 1537
  interfaces := #[]
  cf := some (fileOf pool5 1 #[] #[] 1537 3 #[] #[])
  fields := #[]
  methods := #[]
  instanceTypes := #[]
  staticTypes := #[]
  resolved := Array.replicate 7 none
  statics := none }

def pool6 : Array CpInfo := pool [(1, .class_ 2), (0, u "java/util/BitSet"), (0, .fieldref 1 4), (0, .nameAndType 5 6), (0, u "$assertionsDisabled"), (0, u "Z"), (0, .fieldref 1 8), (0, .nameAndType 9 10), (0, u "wordsInUse"), (0, u "I"), (0, .fieldref 1 12), (0, .nameAndType 13 14), (0, u "words"), (0, u "[J"), (3, .nameAndType 19 20), (0, u "<init>"), (0, u "()V"), (0, .methodref 22 18), (0, .class_ 23), (0, u "java/lang/Object"), (0, .fieldref 1 25), (0, .nameAndType 26 6), (0, u "sizeIsSticky"), (0, .methodref 1 28), (0, .nameAndType 29 30), (0, u "initWords"), (0, u "(I)V"), (21, .methodref 1 53), (0, .nameAndType 54 55), (0, u "wordIndex"), (0, u "(I)I"), (0, .methodref 1 57), (0, .nameAndType 58 20), (0, u "checkInvariants"), (80, .methodref 1 140), (0, .nameAndType 141 30), (0, u "ensureCapacity"), (13, .methodref 1 156), (0, .nameAndType 157 30), (0, u "expandTo"), (0, .methodref 1 159), (0, .nameAndType 160 20), (0, u "recalculateWordsInUse"), (0, .methodref 1 162), (0, .nameAndType 163 164), (0, u "checkRange"), (0, u "(II)V"), (0, .long 18446744073709551615), (3, u "set"), (2, u "clear"), (9, .methodref 183 184), (0, .class_ 185), (0, .nameAndType 186 187), (0, u "java/lang/Long"), (0, u "numberOfTrailingZeros"), (0, u "(J)I"), (2, .methodref 183 191), (0, .nameAndType 192 187), (0, u "numberOfLeadingZeros"), (70, u "nextSetBit"), (5, .class_ 270), (0, u "java/util/BitSet$1BitSetSpliterator"), (22, u "serialPersistentFields"), (0, u "[Ljava/io/ObjectStreamField;"), (0, .class_ 296), (0, u "java/lang/Cloneable"), (0, .class_ 298), (0, u "java/io/Serializable"), (0, u "ADDRESS_BITS_PER_WORD"), (2, u "BITS_PER_WORD"), (1, u "BIT_INDEX_MASK"), (1, u "WORD_MASK"), (0, u "J"), (0, u "serialVersionUID"), (50, u "previousSetBit")] 57

def k6c0 : Code := { maxStack := 2, maxLocals := 1, code := jdk_92_method_1_code, exceptionTable := #[], attributes := #[] }
def k6m0 : Method := { name := "wordIndex", desc := "(I)I", sig := { parameters := [.int], returnType := some .int }, accessFlags := 10, code := some k6c0 }
def k6c1 : Code := { maxStack := 4, maxLocals := 1, code := jdk_92_method_2_code, exceptionTable := #[], attributes := #[] }
def k6m1 : Method := { name := "checkInvariants", desc := "()V", sig := { parameters := [], returnType := none }, accessFlags := 2, code := some k6c1 }
def k6c2 : Code := { maxStack := 4, maxLocals := 2, code := jdk_92_method_3_code, exceptionTable := #[], attributes := #[] }
def k6m2 : Method := { name := "recalculateWordsInUse", desc := "()V", sig := { parameters := [], returnType := none }, accessFlags := 2, code := some k6c2 }
def k6c3 : Code := { maxStack := 2, maxLocals := 1, code := jdk_92_method_4_code, exceptionTable := #[], attributes := #[] }
def k6m3 : Method := { name := "<init>", desc := "()V", sig := { parameters := [], returnType := none }, accessFlags := 1, code := some k6c3 }
def k6c4 : Code := { maxStack := 4, maxLocals := 2, code := jdk_92_method_5_code, exceptionTable := #[], attributes := #[] }
def k6m4 : Method := { name := "<init>", desc := "(I)V", sig := { parameters := [.int], returnType := none }, accessFlags := 1, code := some k6c4 }
def k6c5 : Code := { maxStack := 3, maxLocals := 2, code := jdk_92_method_6_code, exceptionTable := #[], attributes := #[] }
def k6m5 : Method := { name := "initWords", desc := "(I)V", sig := { parameters := [.int], returnType := none }, accessFlags := 2, code := some k6c5 }
def k6c6 : Code := { maxStack := 3, maxLocals := 3, code := jdk_92_method_14_code, exceptionTable := #[], attributes := #[] }
def k6m6 : Method := { name := "ensureCapacity", desc := "(I)V", sig := { parameters := [.int], returnType := none }, accessFlags := 2, code := some k6c6 }
def k6c7 : Code := { maxStack := 2, maxLocals := 3, code := jdk_92_method_15_code, exceptionTable := #[], attributes := #[] }
def k6m7 : Method := { name := "expandTo", desc := "(I)V", sig := { parameters := [.int], returnType := none }, accessFlags := 2, code := some k6c7 }
def k6c8 : Code := { maxStack := 4, maxLocals := 2, code := jdk_92_method_16_code, exceptionTable := #[], attributes := #[] }
def k6m8 : Method := { name := "checkRange", desc := "(II)V", sig := { parameters := [.int, .int], returnType := none }, accessFlags := 10, code := some k6c8 }
def k6c9 : Code := { maxStack := 7, maxLocals := 3, code := jdk_92_method_19_code, exceptionTable := #[], attributes := #[] }
def k6m9 : Method := { name := "set", desc := "(I)V", sig := { parameters := [.int], returnType := none }, accessFlags := 1, code := some k6c9 }
def k6c10 : Code := { maxStack := 8, maxLocals := 10, code := jdk_92_method_21_code, exceptionTable := #[], attributes := #[] }
def k6m10 : Method := { name := "set", desc := "(II)V", sig := { parameters := [.int, .int], returnType := none }, accessFlags := 1, code := some k6c10 }
def k6c11 : Code := { maxStack := 8, maxLocals := 3, code := jdk_92_method_23_code, exceptionTable := #[], attributes := #[] }
def k6m11 : Method := { name := "clear", desc := "(I)V", sig := { parameters := [.int], returnType := none }, accessFlags := 1, code := some k6c11 }
def k6c12 : Code := { maxStack := 5, maxLocals := 5, code := jdk_92_method_28_code, exceptionTable := #[], attributes := #[] }
def k6m12 : Method := { name := "nextSetBit", desc := "(I)I", sig := { parameters := [.int], returnType := some .int }, accessFlags := 1, code := some k6c12 }
def k6c13 : Code := { maxStack := 6, maxLocals := 5, code := jdk_92_method_30_code, exceptionTable := #[], attributes := #[] }
def k6m13 : Method := { name := "previousSetBit", desc := "(I)I", sig := { parameters := [.int], returnType := some .int }, accessFlags := 1, code := some k6c13 }
/-- java/util/BitSet -/
def k6 : Class := { plain "java/util/BitSet" (some 0) with
  accessFlags := 33
  interfaces := #[4, 5]
  cf := some (fileOf pool6 1 #[.nestMembers #[269]] #[{ accessFlags := 10, nameIndex := 54, descriptorIndex := 55, attributes := #[] }, { accessFlags := 2, nameIndex := 58, descriptorIndex := 20, attributes := #[] }, { accessFlags := 2, nameIndex := 160, descriptorIndex := 20, attributes := #[] }, { accessFlags := 1, nameIndex := 19, descriptorIndex := 20, attributes := #[] }, { accessFlags := 1, nameIndex := 19, descriptorIndex := 30, attributes := #[] }, { accessFlags := 2, nameIndex := 29, descriptorIndex := 30, attributes := #[] }, { accessFlags := 2, nameIndex := 141, descriptorIndex := 30, attributes := #[] }, { accessFlags := 2, nameIndex := 157, descriptorIndex := 30, attributes := #[] }, { accessFlags := 10, nameIndex := 163, descriptorIndex := 164, attributes := #[] }, { accessFlags := 1, nameIndex := 169, descriptorIndex := 30, attributes := #[] }, { accessFlags := 1, nameIndex := 169, descriptorIndex := 164, attributes := #[] }, { accessFlags := 1, nameIndex := 172, descriptorIndex := 30, attributes := #[] }, { accessFlags := 1, nameIndex := 263, descriptorIndex := 55, attributes := #[] }, { accessFlags := 1, nameIndex := 359, descriptorIndex := 55, attributes := #[] }] 33 22 #[295, 297] #[{ accessFlags := 26, nameIndex := 299, descriptorIndex := 10, attributes := #[] }, { accessFlags := 26, nameIndex := 302, descriptorIndex := 10, attributes := #[] }, { accessFlags := 26, nameIndex := 304, descriptorIndex := 10, attributes := #[] }, { accessFlags := 26, nameIndex := 306, descriptorIndex := 307, attributes := #[] }, { accessFlags := 26, nameIndex := 293, descriptorIndex := 294, attributes := #[] }, { accessFlags := 2, nameIndex := 13, descriptorIndex := 14, attributes := #[] }, { accessFlags := 130, nameIndex := 9, descriptorIndex := 10, attributes := #[] }, { accessFlags := 130, nameIndex := 26, descriptorIndex := 6, attributes := #[] }, { accessFlags := 26, nameIndex := 308, descriptorIndex := 307, attributes := #[] }, { accessFlags := 4120, nameIndex := 5, descriptorIndex := 6, attributes := #[] }])
  fields := #[{ name := "ADDRESS_BITS_PER_WORD", type := .int, accessFlags := 26, slot := 0, constantValue := 0 }, { name := "BITS_PER_WORD", type := .int, accessFlags := 26, slot := 1, constantValue := 0 }, { name := "BIT_INDEX_MASK", type := .int, accessFlags := 26, slot := 2, constantValue := 0 }, { name := "WORD_MASK", type := .long, accessFlags := 26, slot := 3, constantValue := 0 }, { name := "serialPersistentFields", type := (.array (.object "java/io/ObjectStreamField")), accessFlags := 26, slot := 4, constantValue := 0 }, { name := "words", type := (.array .long), accessFlags := 2, slot := 0, constantValue := 0 }, { name := "wordsInUse", type := .int, accessFlags := 130, slot := 1, constantValue := 0 }, { name := "sizeIsSticky", type := .boolean, accessFlags := 130, slot := 2, constantValue := 0 }, { name := "serialVersionUID", type := .long, accessFlags := 26, slot := 5, constantValue := 0 }, { name := "$assertionsDisabled", type := .boolean, accessFlags := 4120, slot := 6, constantValue := 0 }]
  methods := #[k6m0, k6m1, k6m2, k6m3, k6m4, k6m5, k6m6, k6m7, k6m8, k6m9, k6m10, k6m11, k6m12, k6m13]
  instanceTypes := #[(.array .long), .int, .boolean]
  staticTypes := #[.int, .int, .int, .long, (.array (.object "java/io/ObjectStreamField")), .long, .boolean]
  resolved := Array.replicate 417 none
  statics := some 0 }

def pool7 : Array CpInfo := pool [(2, .class_ 4), (1, u "java/lang/Object"), (0, u "<init>"), (0, u "()V"), (1, .class_ 10), (1, u "java/lang/Number"), (2, .class_ 14), (0, u "java/io/Serializable"), (0, u "serialVersionUID"), (0, u "J")] 20

def k7m0 : Method := { name := "<init>", desc := "()V", sig := { parameters := [], returnType := none }, accessFlags := 1, code := none }
/-- java/lang/Number -/
def k7 : Class := { plain "java/lang/Number" (some 0) with
  accessFlags := 1057
  interfaces := #[5]
  cf := some (fileOf pool7 8 #[] #[{ accessFlags := 1, nameIndex := 5, descriptorIndex := 6, attributes := #[] }] 1057 2 #[13] #[{ accessFlags := 26, nameIndex := 15, descriptorIndex := 16, attributes := #[] }])
  fields := #[{ name := "serialVersionUID", type := .long, accessFlags := 26, slot := 0, constantValue := 0 }]
  methods := #[k7m0]
  instanceTypes := #[]
  staticTypes := #[.long]
  resolved := Array.replicate 37 none
  statics := none }

def pool8 : Array CpInfo := pool [(1, .class_ 2), (0, u "java/lang/Comparable"), (0, .class_ 4), (0, u "java/lang/Object")] 7

/-- java/lang/Comparable -/
def k8 : Class := { plain "java/lang/Comparable" (some 0) with
  accessFlags := 1537
  interfaces := #[]
  cf := some (fileOf pool8 1 #[] #[] 1537 3 #[] #[])
  fields := #[]
  methods := #[]
  instanceTypes := #[]
  staticTypes := #[]
  resolved := Array.replicate 12 none
  statics := none }

def pool9 : Array CpInfo := pool [(1, .class_ 2), (0, u "java/lang/constant/Constable"), (0, .class_ 4), (0, u "java/lang/Object")] 6

/-- java/lang/constant/Constable -/
def k9 : Class := { plain "java/lang/constant/Constable" (some 0) with
  accessFlags := 1537
  interfaces := #[]
  cf := some (fileOf pool9 1 #[] #[] 1537 3 #[] #[])
  fields := #[]
  methods := #[]
  instanceTypes := #[]
  staticTypes := #[]
  resolved := Array.replicate 11 none
  statics := none }

def pool10 : Array CpInfo := pool [(1, .class_ 2), (0, u "java/lang/constant/ConstantDesc"), (0, .class_ 4), (0, u "java/lang/Object")] 32

/-- java/lang/constant/ConstantDesc -/
def k10 : Class := { plain "java/lang/constant/ConstantDesc" (some 0) with
  accessFlags := 1537
  interfaces := #[]
  cf := some (fileOf pool10 1 #[] #[] 1537 3 #[] #[])
  fields := #[]
  methods := #[]
  instanceTypes := #[]
  staticTypes := #[]
  resolved := Array.replicate 37 none
  statics := none }

def pool11 : Array CpInfo := pool [(1, .class_ 2), (0, u "java/lang/Integer"), (16, u "digits"), (0, u "[C"), (30, .methodref 1 52), (0, .nameAndType 53 54), (0, u "numberOfLeadingZeros"), (0, u "(I)I"), (30, u "DigitOnes"), (0, u "[B"), (2, u "DigitTens"), (37, .integer 2147483648), (61, .class_ 190), (0, u "java/lang/Integer$IntegerCache"), (3, u "I"), (8, .class_ 204), (0, u "java/lang/Number"), (2, u "value"), (56, .integer 65536), (37, u "TYPE"), (0, u "Ljava/lang/Class;"), (0, .class_ 305), (0, u "java/lang/Comparable"), (0, .class_ 307), (0, u "java/lang/constant/Constable"), (0, .class_ 309), (0, u "java/lang/constant/ConstantDesc"), (0, u "MIN_VALUE"), (1, u "MAX_VALUE"), (3, u "SIZE"), (1, u "BYTES"), (1, u "serialVersionUID"), (0, u "J"), (81, u "highestOneBit"), (2, u "numberOfTrailingZeros")] 46

def k11c0 : Code := { maxStack := 3, maxLocals := 1, code := jdk_33_method_45_code, exceptionTable := #[], attributes := #[] }
def k11m0 : Method := { name := "highestOneBit", desc := "(I)I", sig := { parameters := [.int], returnType := some .int }, accessFlags := 9, code := some k11c0 }
def k11c1 : Code := { maxStack := 3, maxLocals := 2, code := jdk_33_method_47_code, exceptionTable := #[], attributes := #[] }
def k11m1 : Method := { name := "numberOfLeadingZeros", desc := "(I)I", sig := { parameters := [.int], returnType := some .int }, accessFlags := 9, code := some k11c1 }
def k11c2 : Code := { maxStack := 3, maxLocals := 2, code := jdk_33_method_48_code, exceptionTable := #[], attributes := #[] }
def k11m2 : Method := { name := "numberOfTrailingZeros", desc := "(I)I", sig := { parameters := [.int], returnType := some .int }, accessFlags := 9, code := some k11c2 }
/-- java/lang/Integer -/
def k11 : Class := { plain "java/lang/Integer" (some 7) with
  accessFlags := 49
  interfaces := #[8, 9, 10]
  cf := some (fileOf pool11 1 #[.nestMembers #[189]] #[{ accessFlags := 9, nameIndex := 403, descriptorIndex := 54, attributes := #[] }, { accessFlags := 9, nameIndex := 53, descriptorIndex := 54, attributes := #[] }, { accessFlags := 9, nameIndex := 406, descriptorIndex := 54, attributes := #[] }] 49 203 #[304, 306, 308] #[{ accessFlags := 25, nameIndex := 310, descriptorIndex := 194, attributes := #[] }, { accessFlags := 25, nameIndex := 312, descriptorIndex := 194, attributes := #[] }, { accessFlags := 25, nameIndex := 302, descriptorIndex := 303, attributes := #[] }, { accessFlags := 24, nameIndex := 19, descriptorIndex := 20, attributes := #[] }, { accessFlags := 24, nameIndex := 89, descriptorIndex := 86, attributes := #[] }, { accessFlags := 24, nameIndex := 85, descriptorIndex := 86, attributes := #[] }, { accessFlags := 18, nameIndex := 207, descriptorIndex := 194, attributes := #[] }, { accessFlags := 25, nameIndex := 316, descriptorIndex := 194, attributes := #[] }, { accessFlags := 25, nameIndex := 318, descriptorIndex := 194, attributes := #[] }, { accessFlags := 26, nameIndex := 320, descriptorIndex := 321, attributes := #[] }])
  fields := #[{ name := "MIN_VALUE", type := .int, accessFlags := 25, slot := 0, constantValue := 0 }, { name := "MAX_VALUE", type := .int, accessFlags := 25, slot := 1, constantValue := 0 }, { name := "TYPE", type := (.object "java/lang/Class"), accessFlags := 25, slot := 2, constantValue := 0 }, { name := "digits", type := (.array .char), accessFlags := 24, slot := 3, constantValue := 0 }, { name := "DigitTens", type := (.array .byte), accessFlags := 24, slot := 4, constantValue := 0 }, { name := "DigitOnes", type := (.array .byte), accessFlags := 24, slot := 5, constantValue := 0 }, { name := "value", type := .int, accessFlags := 18, slot := 0, constantValue := 0 }, { name := "SIZE", type := .int, accessFlags := 25, slot := 6, constantValue := 0 }, { name := "BYTES", type := .int, accessFlags := 25, slot := 7, constantValue := 0 }, { name := "serialVersionUID", type := .long, accessFlags := 26, slot := 8, constantValue := 0 }]
  methods := #[k11m0, k11m1, k11m2]
  instanceTypes := #[.int]
  staticTypes := #[.int, .int, (.object "java/lang/Class"), (.array .char), (.array .byte), (.array .byte), .int, .int, .long]
  resolved := Array.replicate 453 none
  statics := none }

def pool12 : Array CpInfo := pool [(1, .class_ 2), (0, u "java/lang/Math"), (1, .class_ 6), (1, u "java/lang/Object"), (0, u "<init>"), (0, u "()V"), (89, .class_ 100), (1, u "java/lang/Math$RandomNumberGeneratorHolder"), (20, u "(JJ)J"), (50, u "negativeZeroFloatBits"), (0, u "J"), (2, u "negativeZeroDoubleBits"), (21, u "max"), (2, u "min"), (43, u "$assertionsDisabled"), (0, u "Z"), (88, u "(II)I"), (2, u "twoToTheDoubleScaleDown"), (0, u "D"), (4, u "twoToTheDoubleScaleUp"), (9, u "E"), (3, u "PI"), (2, u "TAU"), (2, u "DEGREES_TO_RADIANS"), (0, u "RADIANS_TO_DEGREES")] 94

def k12m0 : Method := { name := "<init>", desc := "()V", sig := { parameters := [], returnType := none }, accessFlags := 2, code := none }
def k12c1 : Code := { maxStack := 2, maxLocals := 2, code := jdk_29_method_65_code, exceptionTable := #[], attributes := #[] }
def k12m1 : Method := { name := "max", desc := "(II)I", sig := { parameters := [.int, .int], returnType := some .int }, accessFlags := 9, code := some k12c1 }
def k12c2 : Code := { maxStack := 4, maxLocals := 4, code := jdk_29_method_70_code, exceptionTable := #[], attributes := #[] }
def k12m2 : Method := { name := "min", desc := "(JJ)J", sig := { parameters := [.long, .long], returnType := some .long }, accessFlags := 9, code := some k12c2 }
/-- java/lang/Math -/
def k12 : Class := { plain "java/lang/Math" (some 0) with
  accessFlags := 49
  interfaces := #[]
  cf := some (fileOf pool12 1 #[.nestMembers #[98]] #[{ accessFlags := 2, nameIndex := 7, descriptorIndex := 8, attributes := #[] }, { accessFlags := 9, nameIndex := 198, descriptorIndex := 335, attributes := #[] }, { accessFlags := 9, nameIndex := 201, descriptorIndex := 121, attributes := #[] }] 49 4 #[] #[{ accessFlags := 25, nameIndex := 354, descriptorIndex := 339, attributes := #[] }, { accessFlags := 25, nameIndex := 358, descriptorIndex := 339, attributes := #[] }, { accessFlags := 25, nameIndex := 361, descriptorIndex := 339, attributes := #[] }, { accessFlags := 26, nameIndex := 364, descriptorIndex := 339, attributes := #[] }, { accessFlags := 26, nameIndex := 365, descriptorIndex := 339, attributes := #[] }, { accessFlags := 26, nameIndex := 172, descriptorIndex := 173, attributes := #[] }, { accessFlags := 26, nameIndex := 176, descriptorIndex := 173, attributes := #[] }, { accessFlags := 8, nameIndex := 344, descriptorIndex := 339, attributes := #[] }, { accessFlags := 8, nameIndex := 338, descriptorIndex := 339, attributes := #[] }, { accessFlags := 4120, nameIndex := 245, descriptorIndex := 246, attributes := #[] }])
  fields := #[{ name := "E", type := .double, accessFlags := 25, slot := 0, constantValue := 0 }, { name := "PI", type := .double, accessFlags := 25, slot := 1, constantValue := 0 }, { name := "TAU", type := .double, accessFlags := 25, slot := 2, constantValue := 0 }, { name := "DEGREES_TO_RADIANS", type := .double, accessFlags := 26, slot := 3, constantValue := 0 }, { name := "RADIANS_TO_DEGREES", type := .double, accessFlags := 26, slot := 4, constantValue := 0 }, { name := "negativeZeroFloatBits", type := .long, accessFlags := 26, slot := 5, constantValue := 0 }, { name := "negativeZeroDoubleBits", type := .long, accessFlags := 26, slot := 6, constantValue := 0 }, { name := "twoToTheDoubleScaleUp", type := .double, accessFlags := 8, slot := 7, constantValue := 0 }, { name := "twoToTheDoubleScaleDown", type := .double, accessFlags := 8, slot := 8, constantValue := 0 }, { name := "$assertionsDisabled", type := .boolean, accessFlags := 4120, slot := 9, constantValue := 0 }]
  methods := #[k12m0, k12m1, k12m2]
  instanceTypes := #[]
  staticTypes := #[.double, .double, .double, .double, .double, .long, .long, .double, .double, .boolean]
  resolved := Array.replicate 460 none
  statics := none }

def pool13 : Array CpInfo := pool [(2, .class_ 4), (1, u "java/lang/Object"), (0, u "<init>"), (0, u "()V"), (6, .methodref 14 15), (0, .class_ 16), (0, .nameAndType 17 18), (0, u "java/util/Arrays"), (0, u "rangeCheck"), (0, u "(III)V"), (55, .class_ 76), (1, u "java/util/Arrays$NaturalOrder"), (36, .class_ 115), (1, u "java/util/Arrays$LegacyMergeSort"), (1, u "Z"), (257, .class_ 376), (0, u "java/util/Arrays$ArrayList"), (68, u "$assertionsDisabled"), (269, u "MIN_ARRAY_SORT_GRAN"), (0, u "I"), (2, u "INSERTIONSORT_THRESHOLD"), (120, u "fill"), (3, u "([JIIJ)V"), (130, .class_ 976), (0, u "java/util/Arrays$ArrayItr")] 52

def k13m0 : Method := { name := "<init>", desc := "()V", sig := { parameters := [], returnType := none }, accessFlags := 2, code := none }
def k13c1 : Code := { maxStack := 4, maxLocals := 3, code := jdk_65_method_30_code, exceptionTable := #[], attributes := #[] }
def k13m1 : Method := { name := "rangeCheck", desc := "(III)V", sig := { parameters := [.int, .int, .int], returnType := none }, accessFlags := 8, code := some k13c1 }
def k13c2 : Code := { maxStack := 4, maxLocals := 6, code := jdk_65_method_102_code, exceptionTable := #[], attributes := #[] }
def k13m2 : Method := { name := "fill", desc := "([JIIJ)V", sig := { parameters := [(.array .long), .int, .int, .long], returnType := none }, accessFlags := 9, code := some k13c2 }
/-- java/util/Arrays -/
def k13 : Class := { plain "java/util/Arrays" (some 0) with
  accessFlags := 49
  interfaces := #[]
  cf := some (fileOf pool13 14 #[.nestMembers #[975, 375, 113, 74]] #[{ accessFlags := 2, nameIndex := 5, descriptorIndex := 6, attributes := #[] }, { accessFlags := 8, nameIndex := 17, descriptorIndex := 18, attributes := #[] }, { accessFlags := 9, nameIndex := 840, descriptorIndex := 844, attributes := #[] }] 49 2 #[] #[{ accessFlags := 26, nameIndex := 715, descriptorIndex := 716, attributes := #[] }, { accessFlags := 26, nameIndex := 719, descriptorIndex := 716, attributes := #[] }, { accessFlags := 4120, nameIndex := 445, descriptorIndex := 117, attributes := #[] }])
  fields := #[{ name := "MIN_ARRAY_SORT_GRAN", type := .int, accessFlags := 26, slot := 0, constantValue := 0 }, { name := "INSERTIONSORT_THRESHOLD", type := .int, accessFlags := 26, slot := 1, constantValue := 0 }, { name := "$assertionsDisabled", type := .boolean, accessFlags := 4120, slot := 2, constantValue := 0 }]
  methods := #[k13m0, k13m1, k13m2]
  instanceTypes := #[]
  staticTypes := #[.int, .int, .boolean]
  resolved := Array.replicate 1029 none
  statics := none }

def pool14 : Array CpInfo := pool [(1, .class_ 2), (0, u "java/lang/Long"), (15, .class_ 20), (1, u "java/lang/Integer"), (79, u "numberOfLeadingZeros"), (0, u "(J)I"), (133, .class_ 237), (1, u "java/lang/Long$LongCache"), (33, .class_ 272), (0, u "java/lang/Number"), (2, u "value"), (0, u "J"), (31, .methodref 18 309), (0, .nameAndType 100 310), (0, u "(I)I"), (0, .methodref 18 312), (0, .nameAndType 313 310), (0, u "numberOfTrailingZeros"), (47, u "TYPE"), (0, u "Ljava/lang/Class;"), (0, .class_ 364), (0, u "java/lang/Comparable"), (0, .class_ 366), (0, u "java/lang/constant/Constable"), (0, .class_ 368), (0, u "java/lang/constant/ConstantDesc"), (0, u "MIN_VALUE"), (1, u "MAX_VALUE"), (4, u "SIZE"), (0, u "I"), (1, u "BYTES"), (1, u "serialVersionUID")] 142

def k14c0 : Code := { maxStack := 3, maxLocals := 3, code := jdk_35_method_48_code, exceptionTable := #[], attributes := #[] }
def k14m0 : Method := { name := "numberOfLeadingZeros", desc := "(J)I", sig := { parameters := [.long], returnType := some .int }, accessFlags := 9, code := some k14c0 }
def k14c1 : Code := { maxStack := 4, maxLocals := 3, code := jdk_35_method_49_code, exceptionTable := #[], attributes := #[] }
def k14m1 : Method := { name := "numberOfTrailingZeros", desc := "(J)I", sig := { parameters := [.long], returnType := some .int }, accessFlags := 9, code := some k14c1 }
/-- java/lang/Long -/
def k14 : Class := { plain "java/lang/Long" (some 7) with
  accessFlags := 49
  interfaces := #[8, 9, 10]
  cf := some (fileOf pool14 1 #[.nestMembers #[235]] #[{ accessFlags := 9, nameIndex := 100, descriptorIndex := 101, attributes := #[] }, { accessFlags := 9, nameIndex := 313, descriptorIndex := 101, attributes := #[] }] 49 271 #[363, 365, 367] #[{ accessFlags := 25, nameIndex := 369, descriptorIndex := 276, attributes := #[] }, { accessFlags := 25, nameIndex := 371, descriptorIndex := 276, attributes := #[] }, { accessFlags := 25, nameIndex := 361, descriptorIndex := 362, attributes := #[] }, { accessFlags := 18, nameIndex := 275, descriptorIndex := 276, attributes := #[] }, { accessFlags := 25, nameIndex := 376, descriptorIndex := 377, attributes := #[] }, { accessFlags := 25, nameIndex := 379, descriptorIndex := 377, attributes := #[] }, { accessFlags := 26, nameIndex := 381, descriptorIndex := 276, attributes := #[] }])
  fields := #[{ name := "MIN_VALUE", type := .long, accessFlags := 25, slot := 0, constantValue := 0 }, { name := "MAX_VALUE", type := .long, accessFlags := 25, slot := 1, constantValue := 0 }, { name := "TYPE", type := (.object "java/lang/Class"), accessFlags := 25, slot := 2, constantValue := 0 }, { name := "value", type := .long, accessFlags := 18, slot := 0, constantValue := 0 }, { name := "SIZE", type := .int, accessFlags := 25, slot := 3, constantValue := 0 }, { name := "BYTES", type := .int, accessFlags := 25, slot := 4, constantValue := 0 }, { name := "serialVersionUID", type := .long, accessFlags := 26, slot := 5, constantValue := 0 }]
  methods := #[k14m0, k14m1]
  instanceTypes := #[.long]
  staticTypes := #[.long, .long, (.object "java/lang/Class"), .int, .int, .long]
  resolved := Array.replicate 524 none
  statics := none }

/-- the primitive byte -/
def k15 : Class := { plain "byte" none with kind := .primitive 'B', accessFlags := 0x411 }
/-- [B -/
def k16 : Class := { plain "[B" (some 0) with kind := .array 15 .byte, interfaces := #[4, 5], accessFlags := 1041 }

/-- the primitive int -/
def k17 : Class := { plain "int" none with kind := .primitive 'I', accessFlags := 0x411 }
/-- [I -/
def k18 : Class := { plain "[I" (some 0) with kind := .array 17 .int, interfaces := #[4, 5], accessFlags := 1041 }

/-- the primitive long -/
def k19 : Class := { plain "long" none with kind := .primitive 'J', accessFlags := 0x411 }
/-- [J -/
def k20 : Class := { plain "[J" (some 0) with kind := .array 19 .long, interfaces := #[4, 5], accessFlags := 1041 }

def heap : Heap := #[{ cls := 6, slots := #[.int 0, .int 0, .int 0, .long 0, .null, .long 0, .int 1], vm := .statics 6 }]
def classes : Array Class := #[k0, k1, k2, k3, k4, k5, k6, k7, k8, k9, k10, k11, k12, k13, k14, k15, k16, k17, k18, k19, k20]
def interned : List (Array UInt16 × Addr) := []
def slotsUsed : Nat := 7
def theMethod : MethodId := ⟨1, 2⟩
def args0 : Array Value := #[.long 5, .long 5, .long 5, .long 5, .long 5, .int 5]
def aboutOver (below : List Frame) : State where
  vm := { classes := classes, interned := interned.toArray }
  heap := heap
  slotsUsed := slotsUsed
  threads := #[{ frames := .invoking theMethod args0 :: below }]
def below0 : List Frame := [.native { method := ⟨0, 0⟩, args := #[] }]
def about1 : State := aboutOver below0
def p0 : Program := .bare "" "" ""
def e0 : Env := launch0.env 0 0 0
theorem w_frames : about1.frames = Frame.invoking theMethod args0 :: below0 := rfl
set_option maxRecDepth 65536 in
theorem w_args : argsFit about1.vm theMethod args0 = true := by decide +kernel
set_option maxRecDepth 65536 in
theorem w_heap : heapFits about1 = true := by decide +kernel
set_option maxRecDepth 65536 in
theorem w_runnable : about1.curStatus? = some .runnable := by decide +kernel
set_option maxRecDepth 65536 in
theorem w_alone : about1.alone = true := by decide +kernel
set_option maxRecDepth 65536 in
theorem w_named : about1.methodNamed? x = some theMethod := by decide +kernel
set_option maxRecDepth 65536 in
theorem w_hears : about1.hears theMethod below0 = true := by decide +kernel
set_option maxRecDepth 65536 in
theorem w_ripe : about1.ripe theMethod args0 below0 = true := by decide +kernel
theorem w_running : about1.status = .running := rfl
set_option maxRecDepth 65536 in
theorem w_room : about1.hasRoom e0.platform room_1 = true :=
  launch0.hasRoom_least _ room_1 (by decide +kernel) (by decide +kernel) (by decide +kernel) (by decide +kernel) (by decide +kernel) (by decide +kernel)
theorem allAtoms_all (ts : List Jvm.Cond) (a : Array Jvm.Value) (st : Jvm.State) : (allAtoms ts).before a st = ts.all (fun c => c.before a st) := by
  induction ts with
  | nil => rfl
  | cons c t ih =>
    show (Jvm.Cond.and c (allAtoms t)).before a st = _
    rw [Jvm.Cond.before_and, ih, List.all_cons]
def words1 : List Jvm.Cond := Jvm.Cond.code x code maxLocals ret :: tables_1
/-- a 'code' word, met by the world's own term for the bytes: nothing is compared byte by byte -/
theorem code_word {y : MethodName} {bytes : ByteArray} {mx : Nat} {rt : Option FieldType} {a : Array Value} {s : State} {m : MethodId} {meth : Method} {c : Code} (h1 : s.methodNamed? y = some m) (h2 : s.vm.method? m = some meth) (h3 : meth.code = some c) (h4 : c.code = bytes)
    (h5 : (c.maxLocals == mx && c.exceptionTable.isEmpty && decide (c.maxStack ≤ mostOperands) && decide (meth.sig.returnType = rt) && !meth.locks && decide (parseMethodDescriptor y.desc = some meth.sig)) = true) : (Jvm.Cond.code y bytes mx rt).before a s = true := by
  simp only [Bool.and_eq_true, beq_iff_eq, Bool.not_eq_true', decide_eq_true_eq] at h5
  obtain ⟨⟨⟨⟨⟨g1, g2⟩, g3⟩, g4⟩, g5⟩, g6⟩ := h5
  simp [Cond.before, Cond.holds, Cond.value, h1, h2, h3, h4, g1, g2, g3, g4, g5, g6]
def isCode : Jvm.Cond → Bool
  | .code _ _ _ _ => true
  | _ => false
theorem all_split {L : List Jvm.Cond} {P : Jvm.Cond → Bool} (h1 : L.all (fun c => isCode c || P c) = true) (h2 : ∀ c ∈ L.filter isCode, P c = true) : L.all P = true := by
  refine List.all_eq_true.mpr fun c hc => ?_
  have h := List.all_eq_true.mp h1 c hc
  rcases Bool.eq_false_or_eq_true (isCode c) with hi | hi
  · exact h2 c (List.mem_filter.mpr ⟨hc, hi⟩)
  · simpa [hi] using h
set_option maxRecDepth 65536 in
theorem w_c0 : (Jvm.Cond.code x code maxLocals ret).before args0 about1 = true := code_word (m := ⟨1, 2⟩) (meth := k1m2) (c := k1c2) (by decide +kernel) rfl rfl rfl (by decide +kernel)
set_option maxRecDepth 65536 in
theorem w_c1 : (Jvm.Cond.code ({ cls := "com/example/throttlua/throttlua/slidinglog/SubjectLogNewestTimePinLaw", name := "step", desc := "(J)J" } : Jvm.MethodName) method_2_code (2 : Nat) (Option.some Jvm.ClassFile.FieldType.long)).before args0 about1 = true := code_word (m := ⟨1, 1⟩) (meth := k1m1) (c := k1c1) (by decide +kernel) rfl rfl rfl (by decide +kernel)
set_option maxRecDepth 65536 in
theorem w_c2 : (Jvm.Cond.code ({ cls := "com/example/throttlua/throttlua/slidinglog/SubjectLog", name := "<init>", desc := "()V" } : Jvm.MethodName) prog_30_method_1_code (1 : Nat) (Option.none : Option Jvm.ClassFile.FieldType)).before args0 about1 = true := code_word (m := ⟨3, 0⟩) (meth := k3m0) (c := k3c0) (by decide +kernel) rfl rfl rfl (by decide +kernel)
set_option maxRecDepth 65536 in
theorem w_c3 : (Jvm.Cond.code ({ cls := "java/lang/Object", name := "<init>", desc := "()V" } : Jvm.MethodName) object_method_1_code (1 : Nat) (Option.none : Option Jvm.ClassFile.FieldType)).before args0 about1 = true := code_word (m := ⟨0, 0⟩) (meth := k0m0) (c := k0c0) (by decide +kernel) rfl rfl rfl (by decide +kernel)
set_option maxRecDepth 65536 in
theorem w_c4 : (Jvm.Cond.code ({ cls := "java/util/BitSet", name := "<init>", desc := "()V" } : Jvm.MethodName) jdk_92_method_4_code (1 : Nat) (Option.none : Option Jvm.ClassFile.FieldType)).before args0 about1 = true := code_word (m := ⟨6, 3⟩) (meth := k6m3) (c := k6c3) (by decide +kernel) rfl rfl rfl (by decide +kernel)
set_option maxRecDepth 65536 in
theorem w_c5 : (Jvm.Cond.code ({ cls := "java/util/BitSet", name := "initWords", desc := "(I)V" } : Jvm.MethodName) jdk_92_method_6_code (2 : Nat) (Option.none : Option Jvm.ClassFile.FieldType)).before args0 about1 = true := code_word (m := ⟨6, 5⟩) (meth := k6m5) (c := k6c5) (by decide +kernel) rfl rfl rfl (by decide +kernel)
set_option maxRecDepth 65536 in
theorem w_c6 : (Jvm.Cond.code ({ cls := "java/util/BitSet", name := "wordIndex", desc := "(I)I" } : Jvm.MethodName) jdk_92_method_1_code (1 : Nat) (Option.some Jvm.ClassFile.FieldType.int)).before args0 about1 = true := code_word (m := ⟨6, 0⟩) (meth := k6m0) (c := k6c0) (by decide +kernel) rfl rfl rfl (by decide +kernel)
set_option maxRecDepth 65536 in
theorem w_c7 : (Jvm.Cond.code ({ cls := "com/example/throttlua/throttlua/slidinglog/SubjectLog", name := "add", desc := "(JJI)V" } : Jvm.MethodName) prog_30_method_7_code (9 : Nat) (Option.none : Option Jvm.ClassFile.FieldType)).before args0 about1 = true := code_word (m := ⟨3, 3⟩) (meth := k3m3) (c := k3c3) (by decide +kernel) rfl rfl rfl (by decide +kernel)
set_option maxRecDepth 65536 in
theorem w_c8 : (Jvm.Cond.code ({ cls := "java/lang/Integer", name := "highestOneBit", desc := "(I)I" } : Jvm.MethodName) jdk_33_method_45_code (1 : Nat) (Option.some Jvm.ClassFile.FieldType.int)).before args0 about1 = true := code_word (m := ⟨11, 0⟩) (meth := k11m0) (c := k11c0) (by decide +kernel) rfl rfl rfl (by decide +kernel)
set_option maxRecDepth 65536 in
theorem w_c9 : (Jvm.Cond.code ({ cls := "java/lang/Integer", name := "numberOfLeadingZeros", desc := "(I)I" } : Jvm.MethodName) jdk_33_method_47_code (2 : Nat) (Option.some Jvm.ClassFile.FieldType.int)).before args0 about1 = true := code_word (m := ⟨11, 1⟩) (meth := k11m1) (c := k11c1) (by decide +kernel) rfl rfl rfl (by decide +kernel)
set_option maxRecDepth 65536 in
theorem w_c10 : (Jvm.Cond.code ({ cls := "java/lang/Math", name := "max", desc := "(II)I" } : Jvm.MethodName) jdk_29_method_65_code (2 : Nat) (Option.some Jvm.ClassFile.FieldType.int)).before args0 about1 = true := code_word (m := ⟨12, 1⟩) (meth := k12m1) (c := k12c1) (by decide +kernel) rfl rfl rfl (by decide +kernel)
set_option maxRecDepth 65536 in
theorem w_c11 : (Jvm.Cond.code ({ cls := "com/example/throttlua/throttlua/slidinglog/SubjectLog", name := "moveTo", desc := "(I)V" } : Jvm.MethodName) prog_30_method_15_code (8 : Nat) (Option.none : Option Jvm.ClassFile.FieldType)).before args0 about1 = true := code_word (m := ⟨3, 7⟩) (meth := k3m7) (c := k3c7) (by decide +kernel) rfl rfl rfl (by decide +kernel)
set_option maxRecDepth 65536 in
theorem w_c12 : (Jvm.Cond.code ({ cls := "java/util/BitSet", name := "nextSetBit", desc := "(I)I" } : Jvm.MethodName) jdk_92_method_28_code (5 : Nat) (Option.some Jvm.ClassFile.FieldType.int)).before args0 about1 = true := code_word (m := ⟨6, 12⟩) (meth := k6m12) (c := k6c12) (by decide +kernel) rfl rfl rfl (by decide +kernel)
set_option maxRecDepth 65536 in
theorem w_c13 : (Jvm.Cond.code ({ cls := "java/util/BitSet", name := "checkInvariants", desc := "()V" } : Jvm.MethodName) jdk_92_method_2_code (1 : Nat) (Option.none : Option Jvm.ClassFile.FieldType)).before args0 about1 = true := code_word (m := ⟨6, 1⟩) (meth := k6m1) (c := k6c1) (by decide +kernel) rfl rfl rfl (by decide +kernel)
set_option maxRecDepth 65536 in
theorem w_c14 : (Jvm.Cond.code ({ cls := "java/util/BitSet", name := "<init>", desc := "(I)V" } : Jvm.MethodName) jdk_92_method_5_code (2 : Nat) (Option.none : Option Jvm.ClassFile.FieldType)).before args0 about1 = true := code_word (m := ⟨6, 4⟩) (meth := k6m4) (c := k6c4) (by decide +kernel) rfl rfl rfl (by decide +kernel)
set_option maxRecDepth 65536 in
theorem w_c15 : (Jvm.Cond.code ({ cls := "java/util/BitSet", name := "set", desc := "(II)V" } : Jvm.MethodName) jdk_92_method_21_code (10 : Nat) (Option.none : Option Jvm.ClassFile.FieldType)).before args0 about1 = true := code_word (m := ⟨6, 10⟩) (meth := k6m10) (c := k6c10) (by decide +kernel) rfl rfl rfl (by decide +kernel)
set_option maxRecDepth 65536 in
theorem w_c16 : (Jvm.Cond.code ({ cls := "java/util/BitSet", name := "checkRange", desc := "(II)V" } : Jvm.MethodName) jdk_92_method_16_code (2 : Nat) (Option.none : Option Jvm.ClassFile.FieldType)).before args0 about1 = true := code_word (m := ⟨6, 8⟩) (meth := k6m8) (c := k6c8) (by decide +kernel) rfl rfl rfl (by decide +kernel)
set_option maxRecDepth 65536 in
theorem w_c17 : (Jvm.Cond.code ({ cls := "java/util/Arrays", name := "fill", desc := "([JIIJ)V" } : Jvm.MethodName) jdk_65_method_102_code (6 : Nat) (Option.none : Option Jvm.ClassFile.FieldType)).before args0 about1 = true := code_word (m := ⟨13, 2⟩) (meth := k13m2) (c := k13c2) (by decide +kernel) rfl rfl rfl (by decide +kernel)
set_option maxRecDepth 65536 in
theorem w_c18 : (Jvm.Cond.code ({ cls := "java/util/Arrays", name := "rangeCheck", desc := "(III)V" } : Jvm.MethodName) jdk_65_method_30_code (3 : Nat) (Option.none : Option Jvm.ClassFile.FieldType)).before args0 about1 = true := code_word (m := ⟨13, 1⟩) (meth := k13m1) (c := k13c1) (by decide +kernel) rfl rfl rfl (by decide +kernel)
set_option maxRecDepth 65536 in
theorem w_c19 : (Jvm.Cond.code ({ cls := "java/lang/Math", name := "min", desc := "(JJ)J" } : Jvm.MethodName) jdk_29_method_70_code (4 : Nat) (Option.some Jvm.ClassFile.FieldType.long)).before args0 about1 = true := code_word (m := ⟨12, 2⟩) (meth := k12m2) (c := k12c2) (by decide +kernel) rfl rfl rfl (by decide +kernel)
set_option maxRecDepth 65536 in
theorem w_c20 : (Jvm.Cond.code ({ cls := "java/util/BitSet", name := "set", desc := "(I)V" } : Jvm.MethodName) jdk_92_method_19_code (3 : Nat) (Option.none : Option Jvm.ClassFile.FieldType)).before args0 about1 = true := code_word (m := ⟨6, 9⟩) (meth := k6m9) (c := k6c9) (by decide +kernel) rfl rfl rfl (by decide +kernel)
set_option maxRecDepth 65536 in
theorem w_c21 : (Jvm.Cond.code ({ cls := "java/util/BitSet", name := "expandTo", desc := "(I)V" } : Jvm.MethodName) jdk_92_method_15_code (3 : Nat) (Option.none : Option Jvm.ClassFile.FieldType)).before args0 about1 = true := code_word (m := ⟨6, 7⟩) (meth := k6m7) (c := k6c7) (by decide +kernel) rfl rfl rfl (by decide +kernel)
set_option maxRecDepth 65536 in
theorem w_c22 : (Jvm.Cond.code ({ cls := "java/util/BitSet", name := "ensureCapacity", desc := "(I)V" } : Jvm.MethodName) jdk_92_method_14_code (3 : Nat) (Option.none : Option Jvm.ClassFile.FieldType)).before args0 about1 = true := code_word (m := ⟨6, 6⟩) (meth := k6m6) (c := k6c6) (by decide +kernel) rfl rfl rfl (by decide +kernel)
set_option maxRecDepth 65536 in
theorem w_c23 : (Jvm.Cond.code ({ cls := "com/example/throttlua/throttlua/slidinglog/SubjectLog", name := "setSpan", desc := "(IJ)V" } : Jvm.MethodName) prog_30_method_14_code (7 : Nat) (Option.none : Option Jvm.ClassFile.FieldType)).before args0 about1 = true := code_word (m := ⟨3, 6⟩) (meth := k3m6) (c := k3c6) (by decide +kernel) rfl rfl rfl (by decide +kernel)
set_option maxRecDepth 65536 in
theorem w_c24 : (Jvm.Cond.code ({ cls := "com/example/throttlua/throttlua/slidinglog/SubjectLog", name := "newestTime", desc := "()J" } : Jvm.MethodName) prog_30_method_3_code (1 : Nat) (Option.some Jvm.ClassFile.FieldType.long)).before args0 about1 = true := code_word (m := ⟨3, 1⟩) (meth := k3m1) (c := k3c1) (by decide +kernel) rfl rfl rfl (by decide +kernel)
set_option maxRecDepth 65536 in
theorem w_c25 : (Jvm.Cond.code ({ cls := "com/example/throttlua/throttlua/slidinglog/SubjectLog", name := "dropUpTo", desc := "(J)V" } : Jvm.MethodName) prog_30_method_6_code (4 : Nat) (Option.none : Option Jvm.ClassFile.FieldType)).before args0 about1 = true := code_word (m := ⟨3, 2⟩) (meth := k3m2) (c := k3c2) (by decide +kernel) rfl rfl rfl (by decide +kernel)
set_option maxRecDepth 65536 in
theorem w_c26 : (Jvm.Cond.code ({ cls := "java/lang/Long", name := "numberOfTrailingZeros", desc := "(J)I" } : Jvm.MethodName) jdk_35_method_49_code (3 : Nat) (Option.some Jvm.ClassFile.FieldType.int)).before args0 about1 = true := code_word (m := ⟨14, 1⟩) (meth := k14m1) (c := k14c1) (by decide +kernel) rfl rfl rfl (by decide +kernel)
set_option maxRecDepth 65536 in
theorem w_c27 : (Jvm.Cond.code ({ cls := "java/lang/Integer", name := "numberOfTrailingZeros", desc := "(I)I" } : Jvm.MethodName) jdk_33_method_48_code (2 : Nat) (Option.some Jvm.ClassFile.FieldType.int)).before args0 about1 = true := code_word (m := ⟨11, 2⟩) (meth := k11m2) (c := k11c2) (by decide +kernel) rfl rfl rfl (by decide +kernel)
set_option maxRecDepth 65536 in
theorem w_c28 : (Jvm.Cond.code ({ cls := "java/util/BitSet", name := "clear", desc := "(I)V" } : Jvm.MethodName) jdk_92_method_23_code (3 : Nat) (Option.none : Option Jvm.ClassFile.FieldType)).before args0 about1 = true := code_word (m := ⟨6, 11⟩) (meth := k6m11) (c := k6c11) (by decide +kernel) rfl rfl rfl (by decide +kernel)
set_option maxRecDepth 65536 in
theorem w_c29 : (Jvm.Cond.code ({ cls := "java/util/BitSet", name := "recalculateWordsInUse", desc := "()V" } : Jvm.MethodName) jdk_92_method_3_code (2 : Nat) (Option.none : Option Jvm.ClassFile.FieldType)).before args0 about1 = true := code_word (m := ⟨6, 2⟩) (meth := k6m2) (c := k6c2) (by decide +kernel) rfl rfl rfl (by decide +kernel)
set_option maxRecDepth 65536 in
theorem w_c30 : (Jvm.Cond.code ({ cls := "com/example/throttlua/throttlua/slidinglog/SubjectLog", name := "shrink", desc := "()Z" } : Jvm.MethodName) prog_30_method_9_code (6 : Nat) (Option.some Jvm.ClassFile.FieldType.boolean)).before args0 about1 = true := code_word (m := ⟨3, 4⟩) (meth := k3m4) (c := k3c4) (by decide +kernel) rfl rfl rfl (by decide +kernel)
set_option maxRecDepth 65536 in
theorem w_c31 : (Jvm.Cond.code ({ cls := "com/example/throttlua/throttlua/slidinglog/SubjectLog", name := "shortest", desc := "()I" } : Jvm.MethodName) prog_30_method_13_code (3 : Nat) (Option.some Jvm.ClassFile.FieldType.int)).before args0 about1 = true := code_word (m := ⟨3, 5⟩) (meth := k3m5) (c := k3c5) (by decide +kernel) rfl rfl rfl (by decide +kernel)
set_option maxRecDepth 65536 in
theorem w_c32 : (Jvm.Cond.code ({ cls := "java/util/BitSet", name := "previousSetBit", desc := "(I)I" } : Jvm.MethodName) jdk_92_method_30_code (5 : Nat) (Option.some Jvm.ClassFile.FieldType.int)).before args0 about1 = true := code_word (m := ⟨6, 13⟩) (meth := k6m13) (c := k6c13) (by decide +kernel) rfl rfl rfl (by decide +kernel)
set_option maxRecDepth 65536 in
theorem w_c33 : (Jvm.Cond.code ({ cls := "java/lang/Long", name := "numberOfLeadingZeros", desc := "(J)I" } : Jvm.MethodName) jdk_35_method_48_code (3 : Nat) (Option.some Jvm.ClassFile.FieldType.int)).before args0 about1 = true := code_word (m := ⟨14, 0⟩) (meth := k14m0) (c := k14c0) (by decide +kernel) rfl rfl rfl (by decide +kernel)
def codes1 : List Jvm.Cond := [Jvm.Cond.code x code maxLocals ret, Jvm.Cond.code ({ cls := "com/example/throttlua/throttlua/slidinglog/SubjectLogNewestTimePinLaw", name := "step", desc := "(J)J" } : Jvm.MethodName) method_2_code (2 : Nat) (Option.some Jvm.ClassFile.FieldType.long), Jvm.Cond.code ({ cls := "com/example/throttlua/throttlua/slidinglog/SubjectLog", name := "<init>", desc := "()V" } : Jvm.MethodName) prog_30_method_1_code (1 : Nat) (Option.none : Option Jvm.ClassFile.FieldType), Jvm.Cond.code ({ cls := "java/lang/Object", name := "<init>", desc := "()V" } : Jvm.MethodName) object_method_1_code (1 : Nat) (Option.none : Option Jvm.ClassFile.FieldType), Jvm.Cond.code ({ cls := "java/util/BitSet", name := "<init>", desc := "()V" } : Jvm.MethodName) jdk_92_method_4_code (1 : Nat) (Option.none : Option Jvm.ClassFile.FieldType), Jvm.Cond.code ({ cls := "java/util/BitSet", name := "initWords", desc := "(I)V" } : Jvm.MethodName) jdk_92_method_6_code (2 : Nat) (Option.none : Option Jvm.ClassFile.FieldType), Jvm.Cond.code ({ cls := "java/util/BitSet", name := "wordIndex", desc := "(I)I" } : Jvm.MethodName) jdk_92_method_1_code (1 : Nat) (Option.some Jvm.ClassFile.FieldType.int), Jvm.Cond.code ({ cls := "com/example/throttlua/throttlua/slidinglog/SubjectLog", name := "add", desc := "(JJI)V" } : Jvm.MethodName) prog_30_method_7_code (9 : Nat) (Option.none : Option Jvm.ClassFile.FieldType), Jvm.Cond.code ({ cls := "java/lang/Integer", name := "highestOneBit", desc := "(I)I" } : Jvm.MethodName) jdk_33_method_45_code (1 : Nat) (Option.some Jvm.ClassFile.FieldType.int), Jvm.Cond.code ({ cls := "java/lang/Integer", name := "numberOfLeadingZeros", desc := "(I)I" } : Jvm.MethodName) jdk_33_method_47_code (2 : Nat) (Option.some Jvm.ClassFile.FieldType.int), Jvm.Cond.code ({ cls := "java/lang/Math", name := "max", desc := "(II)I" } : Jvm.MethodName) jdk_29_method_65_code (2 : Nat) (Option.some Jvm.ClassFile.FieldType.int), Jvm.Cond.code ({ cls := "com/example/throttlua/throttlua/slidinglog/SubjectLog", name := "moveTo", desc := "(I)V" } : Jvm.MethodName) prog_30_method_15_code (8 : Nat) (Option.none : Option Jvm.ClassFile.FieldType), Jvm.Cond.code ({ cls := "java/util/BitSet", name := "nextSetBit", desc := "(I)I" } : Jvm.MethodName) jdk_92_method_28_code (5 : Nat) (Option.some Jvm.ClassFile.FieldType.int), Jvm.Cond.code ({ cls := "java/util/BitSet", name := "checkInvariants", desc := "()V" } : Jvm.MethodName) jdk_92_method_2_code (1 : Nat) (Option.none : Option Jvm.ClassFile.FieldType), Jvm.Cond.code ({ cls := "java/util/BitSet", name := "<init>", desc := "(I)V" } : Jvm.MethodName) jdk_92_method_5_code (2 : Nat) (Option.none : Option Jvm.ClassFile.FieldType), Jvm.Cond.code ({ cls := "java/util/BitSet", name := "set", desc := "(II)V" } : Jvm.MethodName) jdk_92_method_21_code (10 : Nat) (Option.none : Option Jvm.ClassFile.FieldType), Jvm.Cond.code ({ cls := "java/util/BitSet", name := "checkRange", desc := "(II)V" } : Jvm.MethodName) jdk_92_method_16_code (2 : Nat) (Option.none : Option Jvm.ClassFile.FieldType), Jvm.Cond.code ({ cls := "java/util/Arrays", name := "fill", desc := "([JIIJ)V" } : Jvm.MethodName) jdk_65_method_102_code (6 : Nat) (Option.none : Option Jvm.ClassFile.FieldType), Jvm.Cond.code ({ cls := "java/util/Arrays", name := "rangeCheck", desc := "(III)V" } : Jvm.MethodName) jdk_65_method_30_code (3 : Nat) (Option.none : Option Jvm.ClassFile.FieldType), Jvm.Cond.code ({ cls := "java/lang/Math", name := "min", desc := "(JJ)J" } : Jvm.MethodName) jdk_29_method_70_code (4 : Nat) (Option.some Jvm.ClassFile.FieldType.long), Jvm.Cond.code ({ cls := "java/util/BitSet", name := "set", desc := "(I)V" } : Jvm.MethodName) jdk_92_method_19_code (3 : Nat) (Option.none : Option Jvm.ClassFile.FieldType), Jvm.Cond.code ({ cls := "java/util/BitSet", name := "expandTo", desc := "(I)V" } : Jvm.MethodName) jdk_92_method_15_code (3 : Nat) (Option.none : Option Jvm.ClassFile.FieldType), Jvm.Cond.code ({ cls := "java/util/BitSet", name := "ensureCapacity", desc := "(I)V" } : Jvm.MethodName) jdk_92_method_14_code (3 : Nat) (Option.none : Option Jvm.ClassFile.FieldType), Jvm.Cond.code ({ cls := "com/example/throttlua/throttlua/slidinglog/SubjectLog", name := "setSpan", desc := "(IJ)V" } : Jvm.MethodName) prog_30_method_14_code (7 : Nat) (Option.none : Option Jvm.ClassFile.FieldType), Jvm.Cond.code ({ cls := "com/example/throttlua/throttlua/slidinglog/SubjectLog", name := "newestTime", desc := "()J" } : Jvm.MethodName) prog_30_method_3_code (1 : Nat) (Option.some Jvm.ClassFile.FieldType.long), Jvm.Cond.code ({ cls := "com/example/throttlua/throttlua/slidinglog/SubjectLog", name := "dropUpTo", desc := "(J)V" } : Jvm.MethodName) prog_30_method_6_code (4 : Nat) (Option.none : Option Jvm.ClassFile.FieldType), Jvm.Cond.code ({ cls := "java/lang/Long", name := "numberOfTrailingZeros", desc := "(J)I" } : Jvm.MethodName) jdk_35_method_49_code (3 : Nat) (Option.some Jvm.ClassFile.FieldType.int), Jvm.Cond.code ({ cls := "java/lang/Integer", name := "numberOfTrailingZeros", desc := "(I)I" } : Jvm.MethodName) jdk_33_method_48_code (2 : Nat) (Option.some Jvm.ClassFile.FieldType.int), Jvm.Cond.code ({ cls := "java/util/BitSet", name := "clear", desc := "(I)V" } : Jvm.MethodName) jdk_92_method_23_code (3 : Nat) (Option.none : Option Jvm.ClassFile.FieldType), Jvm.Cond.code ({ cls := "java/util/BitSet", name := "recalculateWordsInUse", desc := "()V" } : Jvm.MethodName) jdk_92_method_3_code (2 : Nat) (Option.none : Option Jvm.ClassFile.FieldType), Jvm.Cond.code ({ cls := "com/example/throttlua/throttlua/slidinglog/SubjectLog", name := "shrink", desc := "()Z" } : Jvm.MethodName) prog_30_method_9_code (6 : Nat) (Option.some Jvm.ClassFile.FieldType.boolean), Jvm.Cond.code ({ cls := "com/example/throttlua/throttlua/slidinglog/SubjectLog", name := "shortest", desc := "()I" } : Jvm.MethodName) prog_30_method_13_code (3 : Nat) (Option.some Jvm.ClassFile.FieldType.int), Jvm.Cond.code ({ cls := "java/util/BitSet", name := "previousSetBit", desc := "(I)I" } : Jvm.MethodName) jdk_92_method_30_code (5 : Nat) (Option.some Jvm.ClassFile.FieldType.int), Jvm.Cond.code ({ cls := "java/lang/Long", name := "numberOfLeadingZeros", desc := "(J)I" } : Jvm.MethodName) jdk_35_method_48_code (3 : Nat) (Option.some Jvm.ClassFile.FieldType.int)]
set_option maxRecDepth 65536 in
theorem codes_eq : words1.filter isCode = codes1 := rfl
theorem w_codes : ∀ c ∈ words1.filter isCode, c.before args0 about1 = true := by
  rw [codes_eq]
  intro c hc
  simp only [codes1, List.mem_cons, List.not_mem_nil, or_false] at hc
  rcases hc with rfl | rfl | rfl | rfl | rfl | rfl | rfl | rfl | rfl | rfl | rfl | rfl | rfl | rfl | rfl | rfl | rfl | rfl | rfl | rfl | rfl | rfl | rfl | rfl | rfl | rfl | rfl | rfl | rfl | rfl | rfl | rfl | rfl | rfl
  · exact w_c0
  · exact w_c1
  · exact w_c2
  · exact w_c3
  · exact w_c4
  · exact w_c5
  · exact w_c6
  · exact w_c7
  · exact w_c8
  · exact w_c9
  · exact w_c10
  · exact w_c11
  · exact w_c12
  · exact w_c13
  · exact w_c14
  · exact w_c15
  · exact w_c16
  · exact w_c17
  · exact w_c18
  · exact w_c19
  · exact w_c20
  · exact w_c21
  · exact w_c22
  · exact w_c23
  · exact w_c24
  · exact w_c25
  · exact w_c26
  · exact w_c27
  · exact w_c28
  · exact w_c29
  · exact w_c30
  · exact w_c31
  · exact w_c32
  · exact w_c33
set_option maxRecDepth 65536 in
theorem w_t1 : (words1.take 24).all (fun c => isCode c || c.before args0 about1) = true := by decide +kernel
set_option maxRecDepth 65536 in
theorem w_t2 : ((words1.drop 24).take 24).all (fun c => isCode c || c.before args0 about1) = true := by decide +kernel
set_option maxRecDepth 65536 in
theorem w_t3 : (((words1.drop 24).drop 24).take 24).all (fun c => isCode c || c.before args0 about1) = true := by decide +kernel
set_option maxRecDepth 65536 in
theorem w_t4 : ((((words1.drop 24).drop 24).drop 24).take 24).all (fun c => isCode c || c.before args0 about1) = true := by decide +kernel
set_option maxRecDepth 65536 in
theorem w_t5 : (((((words1.drop 24).drop 24).drop 24).drop 24).take 24).all (fun c => isCode c || c.before args0 about1) = true := by decide +kernel
set_option maxRecDepth 65536 in
theorem w_t6 : ((((((words1.drop 24).drop 24).drop 24).drop 24).drop 24).take 24).all (fun c => isCode c || c.before args0 about1) = true := by decide +kernel
set_option maxRecDepth 65536 in
theorem w_t7 : (((((((words1.drop 24).drop 24).drop 24).drop 24).drop 24).drop 24).take 24).all (fun c => isCode c || c.before args0 about1) = true := by decide +kernel
set_option maxRecDepth 65536 in
theorem w_t8 : (((((((words1.drop 24).drop 24).drop 24).drop 24).drop 24).drop 24).drop 24).all (fun c => isCode c || c.before args0 about1) = true := by decide +kernel
theorem w_tables : (allAtoms (Jvm.Cond.code x code maxLocals ret :: tables_1)).before args0 about1 = true := by
  rw [allAtoms_all]
  show words1.all (fun c => c.before args0 about1) = true
  refine all_split ?_ w_codes
  rw [← List.take_append_drop 24 words1, List.all_append, w_t1, ← List.take_append_drop 24 (words1.drop 24), List.all_append, w_t2, ← List.take_append_drop 24 ((words1.drop 24).drop 24), List.all_append, w_t3, ← List.take_append_drop 24 (((words1.drop 24).drop 24).drop 24), List.all_append, w_t4, ← List.take_append_drop 24 ((((words1.drop 24).drop 24).drop 24).drop 24), List.all_append, w_t5, ← List.take_append_drop 24 (((((words1.drop 24).drop 24).drop 24).drop 24).drop 24), List.all_append, w_t6, ← List.take_append_drop 24 ((((((words1.drop 24).drop 24).drop 24).drop 24).drop 24).drop 24), List.all_append, w_t7, w_t8]
  rfl
set_option maxRecDepth 65536 in
theorem w_rest : rest_1_c.before args0 about1 = true := by decide +kernel
set_option maxRecDepth 65536 in
theorem w_case : (Jvm.Cond.and given_1 narrow_1).before args0 about1 = true := by decide +kernel
theorem w_applies : (headSpec (Jvm.Cond.code x code maxLocals ret :: tables_1) room_1).applies x e0.platform about1 = true :=
  (Spec.applies_iff w_frames).mpr ⟨w_running, w_runnable, w_alone, w_named, w_hears, w_ripe, w_room, w_tables⟩
theorem atStart : AtStart classFile x code maxLocals ret World_1 tables_1 room_1 Calls_1 rest_1 Pre_1 launch0 p0 e0 about1 theMethod args0 below0 :=
  ⟨lists_1, trivial, launch0.admits_env _ _ _, launch0.least_env, fairChoices_fair.cas, fairChoices_fair.clock, w_frames, w_args, w_heap, w_applies, trivial, w_rest, w_case⟩
end start1
theorem witness_1 : WitnessClaimed_1 := ⟨start1.p0, start1.e0, start1.about1, start1.theMethod, start1.args0, start1.below0, start1.atStart⟩
end Jvm.Pilot.@@N@@
